import PyProof.Rows.All
import Wide.All
import OpenK.AllK
import Wide.FinOn
import Lean
import PySem.Challenge.RW_ph0022_01
open PySem PySem.W PyProof.Rows
set_option Elab.async false
set_option linter.unusedVariables false
section 
open PySem PySem.W PyProof.Rows PySem.Calls PySem.Spec
set_option maxRecDepth 100000
set_option maxHeartbeats 4000000
namespace Mine
abbrev PW : Program := PySem.Challenge.pw_ph0022_01
def prmP (i : Nat) : Arguments := match PW.main.body[i]? with | some (.FunctionDef _ a _ _ _ _ _ _ _ _) => a | _ => ⟨[], [], none, [], [], none, []⟩
def bdyP (i : Nat) : List Stmt := match PW.main.body[i]? with | some (.FunctionDef _ _ b _ _ _ _ _ _ _) => b | _ => []
def scpP (i : Nat) : Scope := match PW.main.body[i]? with | some (.FunctionDef _ _ _ _ _ _ s _ _ _) => s | _ => { kind := .module, names := [] , isGenerator := false, isCoroutine := false}
/-- the function object of a def of the text -/
def FnIs (h : Heap) (a : Addr) (name : Str) (i : Nat) : Prop :=
  ∃ o pm cd doc, h.get? a = some o ∧ o.data = .func (docDef name (prmP i) (bdyP i) (scpP i) pm cd doc) ∧ h.CodeRec cd name
theorem FnIs.keeps {h h' : Heap} {a : Addr} {name : Str} {i : Nat} (x : FnIs h a name i) (hk : ∀ b o, h.get? b = some o → h'.get? b = some o) : FnIs h' a name i :=
  let ⟨o, pm, cd, doc, h1, h2, h3⟩ := x; ⟨o, pm, cd, doc, hk _ _ h1, h2, h3.keeps hk⟩
theorem call_fn {prog : Program} {w : World} {A : Around} {R : Result → Shared → Prop} {s : Shared} {name : Str} {i : Nat} {a : Addr} {args : List Value} {binds : List (Str × Value)}
    (hf : FnIs s.heap a name i) (hroom : A.depth < recursionLimit) (hlim : s.heap.NoLimit)
    (hbind : ∀ pm cd doc, bindArgs (docDef name (prmP i) (bdyP i) (scpP i) pm cd doc) ⟨args, []⟩ = pure binds)
    (hloc : (binds.all fun x => decide ((scpP i).names.lookup x.1 = some .local)) = true)
    (h : ∀ cd h₁, Fr s.heap s.heap.objs.size h₁ (fun x => binds.reverse.lookup x) →
      wpAny (model prog w) (A.deeper (envOf name (scpP i) s.heap.objs.size a cd)) (execs (bdyP i) (envOf name (scpP i) s.heap.objs.size a cd))
        (fun f s' => R (.ok (.ret (match f with | .ret v => v | _ => .none))) s')
        (fun e s' => wpAny (model prog w) (A.deeper (envOf name (scpP i) s.heap.objs.size a cd)) (leaving (envOf name (scpP i) s.heap.objs.size a cd) e)
          (fun _ s'' => R (.error e) s'') (fun e' s'' => R (.error e') s'') s')
        { s with heap := h₁, toks := s.toks + binds.length })
    (hco : (scpP i).isCoroutine = false := by rfl) (hgen : (scpP i).isGenerator = false := by rfl) (hk : (scpP i).kind = .function := by rfl)
    (hcell : ∀ x ∈ (scpP i).names, x.2 ≠ .cell := by decide) :
    codeAny (model prog w) A (.call (.ref a) ⟨args, []⟩) R s := by
  obtain ⟨o, pm, cd, doc, h1, h2, h3⟩ := hf
  exact call_plain hroom h1 h2 hlim h3 (hbind pm cd doc) (locs hloc) (h cd) hco hgen hk hcell
def sgn (p q : Bool) : Int := b2i p - b2i q
theorem coll_strs {prog : Program} {w : World} {A : Around} {R : Result → Shared → Prop} {s : Shared} {a : Addr} {x y : Str} {tx ty : Tok}
    (hf : FnIs s.heap a "_strcoll" 2) (hroom : A.depth < recursionLimit) (hlim : s.heap.NoLimit)
    (h : ∀ h' tk t, (∀ b o, s.heap.get? b = some o → h'.get? b = some o) → R (.ok (.ret (.int (b2i (decide (y.cps.toList < x.cps.toList)) - b2i (decide (x.cps.toList < y.cps.toList))) t))) { s with heap := h', toks := tk }) :
    codeAny (model prog w) A (.call (.ref a) ⟨[.str x tx, .str y ty], []⟩) R s := by
  refine call_fn (binds := [("a", .str x tx), ("b", .str y ty)]) hf hroom hlim (fun _ _ _ => rfl) (by rfl) fun cd h₁ F => ?_
  refine wpAny_execs_cons (wpAny_Return_some (wpAny_BinOp (wpAny_Compare1 ?_)))
  refine ld F rfl (ld F rfl ?_)
  refine P.gt_str ?_
  refine wpAny_Compare1 (ld F rfl (ld F rfl ?_))
  refine P.lt_str ?_
  refine sub_bool ?_
  exact h _ _ _ F.keep
end Mine
end
section 
open PySem PySem.W PyProof.Rows PySem.Calls PySem.Spec
set_option maxRecDepth 100000
set_option maxHeartbeats 4000000
namespace Mine
/-- the pattern's code -/
def cdA : Array Nat := #[14, 4, 0, 1, 4294967295, 17, 0, 7, 14, 24, 10, 1, 4294967295, 13, 5, 22, 48, 57, 0, 1, 15, 17, 15, 13, 11, 9, 0, 26624, 2147483648, 0, 0, 0, 0, 0, 0, 15, 2, 0, 17, 1, 1]
def isDig (c : Nat) : Prop := 48 ≤ c ∧ c ≤ 57
def isSep (c : Nat) : Prop := c = 46 ∨ c = 95 ∨ c = 43 ∨ c = 45
theorem acc_dig {c : Nat} (h : isDig c) (seen : Sre.Seen) : ∃ seen', Sre.accepts cdA 13 c seen = .ok (true, seen') := by
  refine ⟨seen.add 22, ?_⟩
  obtain ⟨h1, h2⟩ := h
  simp [Sre.accepts, cdA, Sre.ops, Sre.inSet, h1, h2]
theorem acc_nodig {c : Nat} (h : ¬ isDig c) (seen : Sre.Seen) : ∃ seen', Sre.accepts cdA 13 c seen = .ok (false, seen') := by
  refine ⟨(seen.add 22).add 0, ?_⟩
  have h' : ¬ (48 ≤ c ∧ c ≤ 57) := h
  simp [Sre.accepts, cdA, Sre.ops, Sre.inSet, h']
theorem acc_sep {c : Nat} (h : isSep c) (seen : Sre.Seen) : ∃ seen', Sre.accepts cdA 23 c seen = .ok (true, seen') := by
  refine ⟨seen.add 9, ?_⟩
  rcases h with rfl | rfl | rfl | rfl <;> simp [Sre.accepts, cdA, Sre.ops, Sre.inSet, Nat.testBit]
theorem run_digs {text : Array Nat} : ∀ (m n p found : Nat) (seen : Sre.Seen), n ≤ m → (∀ j, j < n → isDig (text.getD (p + j) 0)) → (n = m ∨ ¬ isDig (text.getD (p + n) 0)) →
    ∃ seen', Sre.run cdA text 13 m p found seen = .ok (found + n, seen')
  | 0, n, p, found, seen, hn, _, _ => by
    obtain rfl : n = 0 := by omega
    exact ⟨seen, rfl⟩
  | m + 1, 0, p, found, seen, _, _, he => by
    have h0 : ¬ isDig (text.getD p 0) := he.resolve_left (by omega)
    obtain ⟨s', e⟩ := acc_nodig h0 seen
    exact ⟨s', by unfold Sre.run; rw [e]; rfl⟩
  | m + 1, n + 1, p, found, seen, hn, hd, he => by
    have h1 : isDig (text.getD p 0) := hd 0 (by omega)
    obtain ⟨s1, e1⟩ := acc_dig h1 seen
    obtain ⟨s', e⟩ := run_digs m n (p + 1) (found + 1) s1 (by omega) (fun j hj => by have := hd (j + 1) (by omega); rwa [show p + (j + 1) = p + 1 + j by omega] at this)
      (he.imp (by omega) (fun h => by rwa [show p + (n + 1) = p + 1 + n by omega] at h))
    refine ⟨s', ?_⟩
    unfold Sre.run
    rw [e1]
    show Sre.run cdA text 13 m (p + 1) (found + 1) s1 = _
    rw [e]
    congr 2
    omega
/-- a state of the machine over the pattern's code -/
def stM (text : Array Nat) (lim p pc pos handed : Nat) (marks : Array (Option Nat)) (lm li : Int) (frames : List Sre.Frame) (wt : Nat) (ans : Option Bool) (seen : Sre.Seen) (out : Option Sre.Outcome) : Sre.M :=
  { code := cdA, text := text, lim := lim, start := p, lastStart := lim, pc := pc, pos := pos, handed := handed, marks := marks, lastmark := lm, lastindex := li, frames := frames, weight := wt, answer := ans, seen := seen, outcome := out }
def fr0 (p : Nat) : Sre.Frame := { wait := .nextStart, pc := 5, pos := p, outermost := true }
def fr1 (alt p : Nat) : Sre.Frame := { wait := .nextBranch, pc := alt, pos := p, outermost := true, kept := { lastmark := 0 } }
def fr2 (p n : Nat) : Sre.Frame := { wait := .giveBack, pc := 9, pos := p + n, outermost := true, count := n, kept := { lastmark := 0 } }
theorem search_start {text : Array Nat} {lim p : Nat} (h : p < lim) : ∃ seen, Sre.forSearch cdA text 1 p lim false = stM text lim p 5 p p #[none, none] (-1) (-1) [fr0 p] 1 none seen none := by
  have h1 : ¬ (lim < p ∨ lim - p < 1) := by omega
  refine ⟨({} : Sre.Seen).add 14, ?_⟩
  unfold Sre.forSearch
  have e : Sre.header cdA = (1, 5) := rfl
  rw [e]
  have c : (decide (p > lim) || decide (lim - p < 1)) = false := by simp; omega
  simp only [c]
  rfl
theorem search_end {text : Array Nat} {lim : Nat} : ∃ seen, Sre.forSearch cdA text 1 lim lim false = { code := cdA, text := text, lim := lim, start := lim, pc := 5, pos := lim, handed := lim, marks := #[none, none], answer := some false, seen := seen } := by
  refine ⟨({} : Sre.Seen).add 14, ?_⟩
  unfold Sre.forSearch
  have e : Sre.header cdA = (1, 5) := rfl
  rw [e]
  have c : (decide (lim > lim) || decide (lim - lim < 1)) = true := by simp
  simp only [c]
  rfl
theorem step_exec {m : Sre.M} (h1 : m.outcome = none) (h2 : m.answer = none) (h3 : m.pc < m.code.size) : m.step = m.exec := by
  unfold Sre.M.step
  rw [h1, h2]
  simp [h3]
theorem exec_rep {m : Sre.M} {n : Nat} {s' : Sre.Seen} (hop : Sre.ops[m.code.getD m.pc 0]? = some .REPEAT_ONE) (h1 : ¬ ((m.code.getD (m.pc + 2) 0 : Int) > (m.lim : Int) - m.pos))
    (hr : Sre.run m.code m.text (m.pc + 4) (min (m.code.getD (m.pc + 3) 0) ((m.lim : Int) - m.pos).toNat) m.pos 0 ((m.seen.add (m.code.getD m.pc 0)).add (m.code.getD (m.pc + 4) 0)) = .ok (n, s')) :
    m.exec = if n < m.code.getD (m.pc + 2) 0 then { m with seen := s' }.say false else ({ m with seen := s', pos := m.pos + n }).afterRun .giveBack n (({ m with seen := s', pos := m.pos + n }).keep m.inner.isSome) := by
  have hop' : Sre.ops[m.word 0]? = some .REPEAT_ONE := hop
  unfold Sre.M.exec
  rw [hop']
  dsimp only [Sre.M.word]
  rw [if_neg h1]
  simp only [Bool.false_eq_true, if_false, Nat.add_zero, hr]
theorem exec_in {m : Sre.M} {s' : Sre.Seen} (hop : Sre.ops[m.code.getD m.pc 0]? = some .IN) (h1 : ¬ m.pos ≥ m.lim)
    (hr : Sre.accepts m.code m.pc (m.text.getD m.pos 0) (m.seen.add (m.code.getD m.pc 0)) = .ok (true, s')) :
    m.exec = { m with seen := s', pc := m.pc + Sre.itemWidth m.code m.pc, pos := m.pos + 1 } := by
  have hop' : Sre.ops[m.word 0]? = some .IN := hop
  unfold Sre.M.exec
  rw [hop']
  dsimp only [Sre.M.word]
  rw [if_neg h1]
  simp only [Nat.add_zero, hr]
theorem step1 {text lim p seen} : ∃ seen', (stM text lim p 5 p p #[none, none] (-1) (-1) [fr0 p] 1 none seen none).step = stM text lim p 7 p p #[some p, none] 0 (-1) [fr0 p] 1 none seen' none := ⟨_, rfl⟩
theorem step2 {text lim p seen} : ∃ seen', (stM text lim p 7 p p #[some p, none] 0 (-1) [fr0 p] 1 none seen none).step = stM text lim p 9 p p #[some p, none] 0 (-1) [fr1 8 p, fr0 p] 2 none seen' none := ⟨_, rfl⟩
theorem step3d {text : Array Nat} {lim p n : Nat} {seen : Sre.Seen} (hn : 0 < n) (hl : p + n ≤ lim) (hs : lim ≤ 16777216) (hd : ∀ j, j < n → isDig (text.getD (p + j) 0)) (he : p + n = lim ∨ ¬ isDig (text.getD (p + n) 0)) :
    ∃ seen', (stM text lim p 9 p p #[some p, none] 0 (-1) [fr1 8 p, fr0 p] 2 none seen none).step = stM text lim p 20 (p + n) (p + n) #[some p, none] 0 (-1) [fr2 p n, fr1 8 p, fr0 p] 3 none seen' none := by
  obtain ⟨s', e⟩ := run_digs (text := text) (lim - p) n p 0 ((seen.add 24).add 13) (by omega) hd (he.imp (by omega) id)
  rw [Nat.zero_add] at e
  refine ⟨s', ?_⟩
  rw [step_exec rfl rfl (show 9 < 41 by decide)]
  have c2 : min 4294967295 ((lim : Int) - (p : Int)).toNat = lim - p := by omega
  refine (exec_rep (n := n) (s' := s') rfl (show ¬ ((1 : Nat) : Int) > (lim : Int) - (p : Int) by omega) (show Sre.run cdA text 13 (min 4294967295 ((lim : Int) - (p : Int)).toNat) p 0 ((seen.add 24).add 13) = .ok (n, s') by rw [c2]; exact e)).trans ?_
  exact (if_neg (show ¬ n < 1 by omega)).trans rfl
theorem step3s {text : Array Nat} {lim p : Nat} {seen : Sre.Seen} (hl : p < lim) (hs : lim ≤ 16777216) (hd : ¬ isDig (text.getD p 0)) :
    ∃ seen', (stM text lim p 9 p p #[some p, none] 0 (-1) [fr1 8 p, fr0 p] 2 none seen none).step = stM text lim p 9 p p #[some p, none] 0 (-1) [fr1 8 p, fr0 p] 2 (some false) seen' none := by
  obtain ⟨s', e⟩ := run_digs (text := text) (lim - p) 0 p 0 ((seen.add 24).add 13) (by omega) (fun j hj => by omega) (.inr hd)
  rw [Nat.zero_add] at e
  refine ⟨s', ?_⟩
  rw [step_exec rfl rfl (show 9 < 41 by decide)]
  have c2 : min 4294967295 ((lim : Int) - (p : Int)).toNat = lim - p := by omega
  rw [exec_rep (n := 0) (s' := s') rfl (show ¬ ((1 : Nat) : Int) > (lim : Int) - (p : Int) by omega) (show Sre.run cdA text 13 (min 4294967295 ((lim : Int) - (p : Int)).toNat) p 0 ((seen.add 24).add 13) = .ok (0, s') by rw [c2]; exact e)]
  rfl
theorem step4d {text lim p n seen} : ∃ seen', (stM text lim p 20 (p + n) (p + n) #[some p, none] 0 (-1) [fr2 p n, fr1 8 p, fr0 p] 3 none seen none).step = stM text lim p 38 (p + n) (p + n) #[some p, none] 0 (-1) [fr2 p n, fr1 8 p, fr0 p] 3 none seen' none := ⟨_, rfl⟩
theorem step5 {text lim p q hd fs wt seen} : ∃ seen', (stM text lim p 38 q hd #[some p, none] 0 (-1) fs wt none seen none).step = stM text lim p 40 q hd #[some p, some q] 1 1 fs wt none seen' none := by
  refine ⟨seen.add 17, ?_⟩
  rw [step_exec rfl rfl (show 38 < 41 by decide)]
  show Sre.M.mark (stM text lim p 38 q hd #[some p, none] 0 (-1) fs wt none (seen.add 17) none) 1 = _
  unfold Sre.M.mark
  rfl
theorem step6 {text lim p q hd fs wt seen} : ∃ seen', (stM text lim p 40 q hd #[some p, some q] 1 1 fs wt none seen none).step = stM text lim p 40 q q #[some p, some q] 1 1 fs wt (some true) seen' none := ⟨_, by rw [step_exec rfl rfl (show 40 < 41 by decide)]; rfl⟩
theorem step7 {text lim p q pc n fs wt seen} : (stM text lim p pc q q #[some p, some q] 1 1 (fr2 p n :: fs) wt (some true) seen none).step = stM text lim p 9 (p + n) q #[some p, some q] 1 1 fs (wt - 1) (some true) seen none := rfl
theorem step8 {text lim p pc pos q alt fs wt seen} : (stM text lim p pc pos q #[some p, some q] 1 1 (fr1 alt p :: fs) wt (some true) seen none).step = stM text lim p alt p q #[some p, some q] 1 1 fs (wt - 1) (some true) seen none := rfl
theorem step9 {text lim p pc pos q wt seen} : (stM text lim p pc pos q #[some p, some q] 1 1 [fr0 p] wt (some true) seen none).step = stM text lim p 5 p q #[some p, some q] 1 1 [] (wt - 1) (some true) seen none := rfl
theorem step10 {text lim p pc pos q wt seen} : (stM text lim p pc pos q #[some p, some q] 1 1 [] wt (some true) seen none).step = stM text lim p pc pos q #[some p, some q] 1 1 [] wt (some true) seen (some .matched) := rfl
theorem step4s {text lim p seen} : (stM text lim p 9 p p #[some p, none] 0 (-1) [fr1 8 p, fr0 p] 2 (some false) seen none).step = stM text lim p 23 p p #[some p, none] 0 (-1) [fr1 22 p, fr0 p] 2 none seen none := rfl
theorem step5s {text : Array Nat} {lim p : Nat} {seen : Sre.Seen} (hl : p < lim) (hd : isSep (text.getD p 0)) :
    ∃ seen', (stM text lim p 23 p p #[some p, none] 0 (-1) [fr1 22 p, fr0 p] 2 none seen none).step = stM text lim p 35 (p + 1) p #[some p, none] 0 (-1) [fr1 22 p, fr0 p] 2 none seen' none := by
  obtain ⟨s', e⟩ := acc_sep hd (seen.add 13)
  refine ⟨s', ?_⟩
  rw [step_exec rfl rfl (show 23 < 41 by decide)]
  rw [exec_in (s' := s') rfl (show ¬ p ≥ lim by omega) e]
  rfl
theorem step6s {text lim p hd fs wt seen} : ∃ seen', (stM text lim p 35 (p + 1) hd #[some p, none] 0 (-1) fs wt none seen none).step = stM text lim p 38 (p + 1) hd #[some p, none] 0 (-1) fs wt none seen' none := ⟨_, by rw [step_exec rfl rfl (show 35 < 41 by decide)]; rfl⟩
theorem runFor4 (m : Sre.M) (h0 : m.outcome = none) (h1 : m.step.outcome = none) (h2 : m.step.step.outcome = none) (h3 : m.step.step.step.outcome = none) : m.runFor 4 = m.step.step.step.step := by
  simp [Sre.M.runFor, h0, h1, h2, h3]
end Mine
end
section 
open PySem PySem.W PyProof.Rows PySem.Calls PySem.Spec
open PySem.Builtin.Re
set_option maxRecDepth 100000
set_option maxHeartbeats 4000000
namespace Mine
section
variable {M : Model} {A : Around} {E : Value → Shared → Prop} {s : Shared}
theorem drive_more {n : Nat} {m m' : Sre.M} {Q : Sre.M → Shared → Prop} (e : m.runFor 4 = m') (h0 : m'.outcome = none) (h : wpAny M A (reDrive n m') Q E s) : wpAny M A (reDrive (n + 1) m) Q E s := by
  unfold reDrive
  show wpAny M A (if (m.runFor 4).outcome.isSome = true then pure (m.runFor 4) else do rule "sre.turn"; reDrive n (m.runFor 4)) Q E s
  rw [e, h0]
  exact wpAny_bind (wpAny_rule h)
theorem drive_more' {n : Nat} {m m' : Sre.M} {Q : Sre.M → Shared → Prop} (e : m.runFor 4 = m') (h0 : (m.runFor 4).outcome = none) (h : wpAny M A (reDrive n m') Q E s) : wpAny M A (reDrive (n + 1) m) Q E s := drive_more e (e ▸ h0) h
theorem drive_end {n : Nat} {m m' : Sre.M} {o : Sre.Outcome} {Q : Sre.M → Shared → Prop} (h0 : m.runFor 4 = m') (ho : m'.outcome = some o) (h : Q m' s) : wpAny M A (reDrive (n + 1) m) Q E s := by
  unfold reDrive
  show wpAny M A (if (m.runFor 4).outcome.isSome = true then pure (m.runFor 4) else do rule "sre.turn"; reDrive n (m.runFor 4)) Q E s
  rw [h0, ho]
  exact wpAny_pure h
theorem run_to_end {m : Sre.M} {Q : Option Sre.M → Shared → Prop} (h : wpAny M A (reDrive (2 ^ 64) m) (fun m s' => match m.outcome with | some .matched => Q (some m) s' | some .failed => Q none s' | _ => False) E s) :
    wpAny M A (reRunToEnd m) Q E s := by
  unfold reRunToEnd
  refine wpAny_bind (wpAny_mono h (fun m s' hm => ?_) fun _ _ x => x)
  have z : wpAny M A (forIn (List.range Sre.names.size) PUnit.unit fun i _ => (if m.seen.has i = true then do
        rule (Sre.names.getD i "")
        pure (ForInStep.yield PUnit.unit)
      else pure (ForInStep.yield PUnit.unit))) (fun (_ : PUnit) s'' => s'' = s') E s' := by
    refine wpAny_forIn_list _ (fun _ _ s'' => s'' = s') (fun _ s'' => s'' = s') ?_ (fun _ _ x => x) _ _ rfl
    rintro x rest _ s'' rfl
    split
    · exact wpAny_bind (wpAny_rule (wpAny_pure rfl))
    · exact wpAny_pure rfl
  refine wpAny_bind (wpAny_mono z (fun _ s'' e => ?_) fun _ _ x => x)
  subst e
  revert hm
  cases m.outcome with
  | none => exact fun h => h.elim
  | some o => cases o with
    | matched => exact fun h => wpAny_pure h
    | failed => exact fun h => wpAny_pure h
    | stuck => exact fun h => h.elim
end
section
variable {M : Model} {A : Around} {E : Value → Shared → Prop} {s : Shared} {text : Array Nat} {lim p : Nat} {Q : Option Sre.M → Shared → Prop}
/-- what a match leaves -/
structure Found (p q : Nat) (m : Sre.M) : Prop where
  start : m.start = p
  handed : m.handed = q
  marks : m.marks = #[some p, some q]
  last : m.lastmark = 1
theorem two64 : ∃ N : Nat, (2 ^ 64 : Nat) = N + 1 + 1 + 1 := ⟨18446744073709551613, by decide⟩
theorem runFor_succ {n : Nat} {m : Sre.M} (h : m.outcome = none) : Sre.M.runFor (n + 1) m = Sre.M.runFor n m.step := by
  unfold Sre.M.runFor
  rw [h]
  cases n <;> rfl
theorem runFor_over {n : Nat} {m : Sre.M} {o : Sre.Outcome} (h : m.outcome = some o) : Sre.M.runFor n m = m := by
  cases n with
  | zero => rfl
  | succ n => unfold Sre.M.runFor; rw [h]; rfl
theorem run_last9 {text lim p pc pos q seen} : (stM text lim p pc pos q #[some p, some q] 1 1 [fr0 p] 1 (some true) seen none).runFor 4 = stM text lim p 5 p q #[some p, some q] 1 1 [] 0 (some true) seen (some .matched) := by
  rw [runFor_succ (n := 3) rfl, step9, runFor_succ (n := 2) rfl, step10, runFor_over (o := .matched) rfl]
theorem run_last8 {text lim p pc pos q alt seen} : (stM text lim p pc pos q #[some p, some q] 1 1 [fr1 alt p, fr0 p] 2 (some true) seen none).runFor 4 = stM text lim p 5 p q #[some p, some q] 1 1 [] 0 (some true) seen (some .matched) := by
  rw [runFor_succ (n := 3) rfl, step8, runFor_succ (n := 2) rfl, step9, runFor_succ (n := 1) rfl, step10, runFor_over (o := .matched) rfl]
theorem found_digs {n : Nat} (hn : 0 < n) (hl : p + n ≤ lim) (hs : lim ≤ 16777216) (hd : ∀ j, j < n → isDig (text.getD (p + j) 0)) (he : p + n = lim ∨ ¬ isDig (text.getD (p + n) 0))
    (h : ∀ m, Found p (p + n) m → Q (some m) s) : wpAny M A (reRunToEnd (Sre.forSearch cdA text 1 p lim false)) Q E s := by
  refine run_to_end ?_
  obtain ⟨s0, e0⟩ := search_start (text := text) (lim := lim) (p := p) (by omega)
  obtain ⟨s1, e1⟩ := step1 (text := text) (lim := lim) (p := p) (seen := s0)
  obtain ⟨s2, e2⟩ := step2 (text := text) (lim := lim) (p := p) (seen := s1)
  obtain ⟨s3, e3⟩ := step3d (text := text) (seen := s2) hn hl hs hd he
  obtain ⟨s4, e4⟩ := step4d (text := text) (lim := lim) (p := p) (n := n) (seen := s3)
  obtain ⟨s5, e5⟩ := step5 (text := text) (lim := lim) (p := p) (q := p + n) (hd := p + n) (fs := [fr2 p n, fr1 8 p, fr0 p]) (wt := 3) (seen := s4)
  obtain ⟨s6, e6⟩ := step6 (text := text) (lim := lim) (p := p) (q := p + n) (hd := p + n) (fs := [fr2 p n, fr1 8 p, fr0 p]) (wt := 3) (seen := s5)
  have r1 := runFor4 (Sre.forSearch cdA text 1 p lim false) (by rw [e0]; rfl) (by rw [e0, e1]; rfl) (by rw [e0, e1, e2]; rfl) (by rw [e0, e1, e2, e3]; rfl)
  rw [e0, e1, e2, e3, e4] at r1
  obtain ⟨N, hN⟩ := two64
  rw [hN, e0]
  have o1 := congrArg Sre.M.outcome r1
  refine @drive_more' M A E s (N + 1 + 1) _ _ _ r1 o1 ?_
  have r2 := runFor4 (stM text lim p 38 (p + n) (p + n) #[some p, none] 0 (-1) [fr2 p n, fr1 8 p, fr0 p] 3 none s4 none) rfl (by rw [e5]; rfl) (by rw [e5, e6]; rfl) (by rw [e5, e6, step7]; rfl)
  rw [e5, e6, step7, step8] at r2
  have o2 := congrArg Sre.M.outcome r2
  refine @drive_more' M A E s (N + 1) _ _ _ r2 o2 ?_
  refine @drive_end M A E s N _ (stM text lim p 5 p (p + n) #[some p, some (p + n)] 1 1 [] 0 (some true) s6 (some .matched)) .matched _ run_last9 rfl ?_
  exact h _ ⟨rfl, rfl, rfl, rfl⟩
theorem found_sep (hl : p < lim) (hs : lim ≤ 16777216) (hd : isSep (text.getD p 0)) (h : ∀ m, Found p (p + 1) m → Q (some m) s) : wpAny M A (reRunToEnd (Sre.forSearch cdA text 1 p lim false)) Q E s := by
  refine run_to_end ?_
  have hnd : ¬ isDig (text.getD p 0) := by
    rintro ⟨h1, h2⟩
    unfold isSep at hd
    omega
  obtain ⟨s0, e0⟩ := search_start (text := text) (lim := lim) (p := p) hl
  obtain ⟨s1, e1⟩ := step1 (text := text) (lim := lim) (p := p) (seen := s0)
  obtain ⟨s2, e2⟩ := step2 (text := text) (lim := lim) (p := p) (seen := s1)
  obtain ⟨s3, e3⟩ := step3s (text := text) (seen := s2) hl hs hnd
  obtain ⟨s5, e5⟩ := step5s (text := text) (lim := lim) (p := p) (seen := s3) hl hd
  obtain ⟨s6, e6⟩ := step6s (text := text) (lim := lim) (p := p) (hd := p) (fs := [fr1 22 p, fr0 p]) (wt := 2) (seen := s5)
  obtain ⟨s7, e7⟩ := step5 (text := text) (lim := lim) (p := p) (q := p + 1) (hd := p) (fs := [fr1 22 p, fr0 p]) (wt := 2) (seen := s6)
  obtain ⟨s8, e8⟩ := step6 (text := text) (lim := lim) (p := p) (q := p + 1) (hd := p) (fs := [fr1 22 p, fr0 p]) (wt := 2) (seen := s7)
  have r1 := runFor4 (Sre.forSearch cdA text 1 p lim false) (by rw [e0]; rfl) (by rw [e0, e1]; rfl) (by rw [e0, e1, e2]; rfl) (by rw [e0, e1, e2, e3]; rfl)
  rw [e0, e1, e2, e3, step4s] at r1
  obtain ⟨N, hN⟩ := two64
  rw [hN, e0]
  have o1 := congrArg Sre.M.outcome r1
  refine @drive_more' M A E s (N + 1 + 1) _ _ _ r1 o1 ?_
  have r2 := runFor4 (stM text lim p 23 p p #[some p, none] 0 (-1) [fr1 22 p, fr0 p] 2 none s3 none) rfl (by rw [e5]; rfl) (by rw [e5, e6]; rfl) (by rw [e5, e6, e7]; rfl)
  rw [e5, e6, e7, e8] at r2
  have o2 := congrArg Sre.M.outcome r2
  refine @drive_more' M A E s (N + 1) _ _ _ r2 o2 ?_
  refine @drive_end M A E s N _ (stM text lim p 5 p (p + 1) #[some p, some (p + 1)] 1 1 [] 0 (some true) s8 (some .matched)) .matched _ run_last8 rfl ?_
  exact h _ ⟨rfl, rfl, rfl, rfl⟩
theorem found_none (h : Q none s) : wpAny M A (reRunToEnd (Sre.forSearch cdA text 1 lim lim false)) Q E s := by
  refine run_to_end ?_
  obtain ⟨s0, e0⟩ := search_end (text := text) (lim := lim)
  obtain ⟨N, hN⟩ := two64
  rw [hN, e0]
  exact drive_end (n := N + 1 + 1) (o := .failed) rfl rfl h
end
end Mine
end
section 
open PySem PySem.W PyProof.Rows PySem.Calls PySem.Spec
open PySem.Builtin.Re
set_option maxRecDepth 100000
set_option maxHeartbeats 4000000
namespace Mine
def digP (q : List Nat) : Prop := q ≠ [] ∧ ∀ c ∈ q, isDig c
def sepP (q : List Nat) : Prop := ∃ c, q = [c] ∧ isSep c
/-- a text cut into runs of figures and separators -/
def Cut : List (List Nat) → Prop
  | [] => True
  | q :: rest => (sepP q ∨ (digP q ∧ ∀ c, rest.flatten.head? = some c → ¬ isDig c)) ∧ Cut rest
theorem Cut.drop {a b : List (List Nat)} : Cut (a ++ b) → Cut b := by
  induction a with
  | nil => exact id
  | cons q a ih => exact fun h => ih h.2
theorem Cut.len {ps : List (List Nat)} (h : Cut ps) : ps.length ≤ ps.flatten.length := by
  induction ps with
  | nil => simp
  | cons q r ih =>
    have h2 := ih h.2
    have h1 : 1 ≤ q.length := by
      rcases h.1 with ⟨c, rfl, _⟩ | ⟨⟨h, _⟩, _⟩
      · simp
      · cases q with
        | nil => exact absurd rfl h
        | cons => simp
    simp only [List.length_cons, List.flatten_cons, List.length_append]
    omega
inductive StrsAre : List Value → List (List Nat) → Prop where
  | nil : StrsAre [] []
  | cons {q : List Nat} {t : Tok} {vs : List Value} {qs : List (List Nat)} : StrsAre vs qs → StrsAre (.str ⟨q.toArray⟩ t :: vs) (q :: qs)
theorem StrsAre.append {a b : List Value} {x y : List (List Nat)} (h : StrsAre a x) (k : StrsAre b y) : StrsAre (a ++ b) (x ++ y) := by
  induction h with
  | nil => exact k
  | cons _ ih => exact .cons ih
theorem StrsAre.length {a : List Value} {x : List (List Nat)} (h : StrsAre a x) : a.length = x.length := by
  induction h with
  | nil => rfl
  | cons _ ih => simp [ih]
theorem StrsAre.one {q : List Nat} {t : Tok} : StrsAre [.str ⟨q.toArray⟩ t] [q] := .cons .nil
def spOut (ps : List (List Nat)) : List (List Nat) := ps.flatMap fun q => [[], q]
theorem spOut_snoc (ps : List (List Nat)) (q : List Nat) : spOut (ps ++ [q]) = spOut ps ++ [[], q] := by simp [spOut]
theorem spOut_len (ps : List (List Nat)) : (spOut ps).length = 2 * ps.length := by
  induction ps with
  | nil => rfl
  | cons q r ih => simp only [spOut, List.flatMap_cons, List.length_append, List.length_cons, List.length_nil] at *; omega
theorem getD_at {text : Array Nat} {a b c : List Nat} (h : text.toList = a ++ b ++ c) {j : Nat} (hj : j < b.length) : text.getD (a.length + j) 0 = b[j] := by
  have : text[a.length + j]? = some b[j] := by
    rw [← Array.getElem?_toList, h, List.append_assoc, List.getElem?_append_right (by omega), List.getElem?_append_left (by omega)]
    simp [hj]
  simp [Array.getD_eq_getD_getElem?, this]
theorem extract_at {text : Array Nat} {a b c : List Nat} (h : text.toList = a ++ b ++ c) : text.extract a.length (a.length + b.length) = b.toArray := by
  apply Array.ext'
  simp [h]
section
variable {M : Model} {A : Around} {E : Value → Shared → Prop} {s : Shared}
structure PatAt (h : Heap) (pa : Addr) : Prop where
  ex : ∃ o f0 f1 ca oc ep, h.get? pa = some o ∧ o.data = .fields #[f0, f1, .int 1 0, .none, .none, .ref ca, .int 0 0] ∧ o.cls = .type "re.Pattern" ∧ o.dict = none ∧ h.get? ca = some oc ∧ oc.data = .seq (cdA.map fun (n : Nat) => Value.int (n : Int) 0) ep
theorem PatAt.keeps {h h' : Heap} {pa : Addr} (x : PatAt h pa) (hk : ∀ b o, h.get? b = some o → h'.get? b = some o) : PatAt h' pa :=
  let ⟨o, f0, f1, ca, oc, ep, h1, h2, h3, hd, h4, h5⟩ := x.ex; ⟨o, f0, f1, ca, oc, ep, hk _ _ h1, h2, h3, hd, hk _ _ h4, h5⟩
theorem whole_target {pa : Addr} {x : Str} {t : Tok} {Q : ReTarget → Shared → Prop} (hp : PatAt s.heap pa)
    (h : Q { pattern := Value.ref pa, string := Value.str x t, code := cdA, text := x.cps, kind := 0, groups := 1, pos := 0, lim := x.cps.size } s) : wpAny M A (reWholeTarget (.ref pa) (.str x t)) Q E s := by
  obtain ⟨o, f0, f1, ca, oc, ep, h1, h2, h3, hd, h4, h5⟩ := hp.ex
  unfold reWholeTarget
  refine wpAny_bind (wpAny_fieldsOf h1 h2 ?_)
  refine wpAny_bind (m := reTextOf (.str x t)) (wpAny_pure (a := (x.cps, 0)) ?_)
  dsimp only
  refine wpAny_bind (m := reNoCollectionInside (.str x t) 0) (wpAny_pure (a := ()) ?_)
  refine wpAny_bind (m := reRawItems (.ref ca)) (wpAny_bind (m := seqItems? (.ref ca)) (wpAny_bind (wpAny_load h4 ?_)))
  rw [h5]
  refine wpAny_pure (wpAny_pure ?_)
  have e : Array.map (fun (x : Int) => x.toNat) (Array.map reRawOf ((some (cdA.map fun (n : Nat) => Value.int (n : Int) 0)).getD #[])) = cdA := by decide +kernel
  rw [e]
  exact wpAny_pure h
theorem split_re {pa : Addr} {x : Str} {t : Tok} {ps : List (List Nat)} {Q : Value → Shared → Prop} (hp : PatAt s.heap pa) (hx : x.cps.toList = ps.flatten) (hc : Cut ps) (hs : x.cps.size ≤ 100000)
    (h : ∀ vs tk, StrsAre vs (spOut ps ++ [[]]) → Q (.ref s.heap.objs.size) { s with heap := s.heap.push { cls := .type "list", data := .seq vs.toArray }, toks := tk }) :
    wpAny M A (PySem.Builtin.«re.Pattern.split» ⟨[.ref pa, .str x t], []⟩) (fun fin s' => ∃ v, fin = .done (.ret v) ∧ Q v s') E s := by
  have hsize : x.cps.size = ps.flatten.length := by rw [← hx]; simp
  have hlen := hc.len
  unfold PySem.Builtin.«re.Pattern.split»
  dsimp only
  refine wpAny_bind (m := reNamed "re.Pattern.split" "split" ["string", "maxsplit"] 1 [.str x t] []) (wpAny_pure (a := [some (Value.str x t), none]) ?_)
  dsimp only
  refine wpAny_bind (wpAny_pure ?_)
  refine wpAny_bind (whole_target hp ?_)
  refine wpAny_bind ?_
  have z := wpAny_forIn_list (M := M) (A := A) (E := E) (s := s)
    (fun (x_1 : Nat) (__s : Array Value × Nat × Nat × Bool × Int × Bool) => (if (!__s.2.2.2.2.2) = true then do
        let __do_lift ← if ((0 : Int) != 0 && decide (__s.2.2.2.2.1 ≥ 0)) = true then pure none else reNextFound { pattern := Value.ref pa, string := Value.str x t, code := cdA, text := x.cps, kind := 0, groups := 1, pos := 0, lim := x.cps.size } __s.2.1 __s.2.2.2.1
        match __do_lift with
          | none => pure (ForInStep.yield (__s.1, __s.2.1, __s.2.2.1, __s.2.2.2.1, __s.2.2.2.2.1, true))
          | some m => do
            let __do_lift ← reSlice x.cps 0 __s.2.2.1 m.start
            let __s_1 ← forIn (List.range 1) (__s.1.push __do_lift) fun (g : Nat) (__s : Array Value) => do
                  let __do_lift ← reMachineGroup { pattern := Value.ref pa, string := Value.str x t, code := cdA, text := x.cps, kind := 0, groups := 1, pos := 0, lim := x.cps.size } m (g + 1) (pure Value.none)
                  pure (ForInStep.yield (__s.push __do_lift))
            pure (ForInStep.yield (__s_1, m.handed, m.handed, m.handed == m.start, __s.2.2.2.2.1 + 1, __s.2.2.2.2.2))
      else pure (ForInStep.yield (__s.1, __s.2.1, __s.2.2.1, __s.2.2.2.1, __s.2.2.2.2.1, __s.2.2.2.2.2)) : Sem (ForInStep (Array Value × Nat × Nat × Bool × Int × Bool))))
    (fun rest st s' => (st.2.2.2.2.2 = false ∧ ∃ done todo tk, ps = done ++ todo ∧ st.2.1 = done.flatten.length ∧ st.2.2.1 = done.flatten.length ∧ st.2.2.2.1 = false ∧ StrsAre st.1.toList (spOut done) ∧ s' = { s with toks := tk } ∧ todo.length < rest.length) ∨
      (st.2.2.2.2.2 = true ∧ ∃ tk, StrsAre st.1.toList (spOut ps) ∧ st.2.2.1 = ps.flatten.length ∧ s' = { s with toks := tk }))
    (fun st s' => st.2.2.2.2.2 = true ∧ ∃ tk, StrsAre st.1.toList (spOut ps) ∧ st.2.2.1 = ps.flatten.length ∧ s' = { s with toks := tk }) ?_ ?_ (List.range (2 * x.cps.size + 3)) (#[], 0, 0, false, 0, false) ?_
  · refine wpAny_mono z (fun st s' hst => ?_) fun _ _ e => e
    obtain ⟨out, start, last, must, n, over⟩ := st
    obtain ⟨ho, tk, hv, hl, rfl⟩ := hst
    dsimp only at ho hv hl ⊢
    subst ho hl
    rw [if_neg (by decide)]
    have e0 : x.cps.extract ps.flatten.length x.cps.size = ([] : List Nat).toArray := by
      rw [hsize]; apply Array.ext'; simp
    refine wpAny_bind (m := reSlice x.cps 0 ps.flatten.length x.cps.size) ?_
    show wpAny M A (mkStr ⟨x.cps.extract ps.flatten.length x.cps.size⟩) _ E _
    rw [e0]
    refine wpAny_mkStr ?_ (by show 0 ≤ sizeLine; decide)
    have hvs : StrsAre (out.push (.str ⟨([] : List Nat).toArray⟩ tk)).toList (spOut ps ++ [[]]) := by
      rw [Array.toList_push]; exact hv.append .one
    refine wpAny_bind (wpAny_newObj_type (wpAny_pure ⟨_, rfl, h _ _ hvs⟩) ?_)
    show (out.push _).toList.toArray.size ≤ sizeLine
    have := hvs.length
    rw [List.size_toArray, this, List.length_append, spOut_len, sizeLine_eq]
    simp only [List.length_cons, List.length_nil]
    omega
  · rintro i rest ⟨out, start, last, must, n, over⟩ s' hst
    dsimp only at hst ⊢
    rcases hst with ⟨rfl, done, todo, tk, hps, rfl, rfl, rfl, hv, rfl, hlt⟩ | ⟨rfl, tk, hv, rfl, rfl⟩
    · rw [if_pos (by decide)]
      have hlim : x.cps.size ≤ 16777216 := by omega
      refine wpAny_bind (m := reNextFound _ _ _) ?_
      show wpAny M A (reRunToEnd (Sre.forSearch cdA x.cps 1 done.flatten.length x.cps.size false)) _ E _
      cases todo with
      | nil =>
        rw [List.append_nil] at hps
        subst hps
        rw [← hsize]
        refine found_none ?_
        exact wpAny_pure (.inr ⟨rfl, tk, hv, rfl, rfl⟩)
      | cons q todo =>
        have hx' : x.cps.toList = done.flatten ++ q ++ todo.flatten := by rw [hx, hps]; simp
        have hcq : Cut (q :: todo) := Cut.drop (a := done) (hps ▸ hc)
        have hsz' : x.cps.size = done.flatten.length + q.length + todo.flatten.length := by
          have := congrArg List.length hx'; simpa [Nat.add_assoc] using this
        have hq1 : 0 < q.length := by
          rcases hcq.1 with ⟨c, rfl, _⟩ | ⟨⟨h, _⟩, _⟩
          · simp
          · exact List.length_pos_iff.mpr h
        have cont : ∀ m, Found done.flatten.length (done.flatten.length + q.length) m → wpAny M A (do
            let __do_lift ← reSlice x.cps 0 done.flatten.length m.start
            let __s_1 ← forIn (List.range 1) (out.push __do_lift) fun (g : Nat) (__s : Array Value) => do
                  let __do_lift ← reMachineGroup { pattern := Value.ref pa, string := Value.str x t, code := cdA, text := x.cps, kind := 0, groups := 1, pos := 0, lim := x.cps.size } m (g + 1) (pure Value.none)
                  pure (ForInStep.yield (__s.push __do_lift))
            pure (ForInStep.yield (__s_1, m.handed, m.handed, m.handed == m.start, n + 1, false)))
            (fun r s' => match r with | .yield b' => (b'.2.2.2.2.2 = false ∧ ∃ done todo tk, ps = done ++ todo ∧ b'.2.1 = done.flatten.length ∧ b'.2.2.1 = done.flatten.length ∧ b'.2.2.2.1 = false ∧ StrsAre b'.1.toList (spOut done) ∧ s' = { s with toks := tk } ∧ todo.length < rest.length) ∨
      (b'.2.2.2.2.2 = true ∧ ∃ tk, StrsAre b'.1.toList (spOut ps) ∧ b'.2.2.1 = ps.flatten.length ∧ s' = { s with toks := tk }) | .done b' => b'.2.2.2.2.2 = true ∧ ∃ tk, StrsAre b'.1.toList (spOut ps) ∧ b'.2.2.1 = ps.flatten.length ∧ s' = { s with toks := tk }) E { s with toks := tk } := by
          rintro m ⟨m1, m2, m3, m4⟩
          rw [m1, m2]
          have e0 : x.cps.extract done.flatten.length done.flatten.length = ([] : List Nat).toArray := by
            apply Array.ext'; simp
          refine wpAny_bind (m := reSlice x.cps 0 done.flatten.length done.flatten.length) ?_
          show wpAny M A (mkStr ⟨x.cps.extract done.flatten.length done.flatten.length⟩) _ E _
          rw [e0]
          refine wpAny_mkStr ?_ (by show 0 ≤ sizeLine; decide)
          refine wpAny_bind ?_
          show wpAny M A (forIn [0] _ _) _ E _
          rw [List.forIn_cons]
          refine wpAny_bind (wpAny_bind (m := reMachineGroup _ m 1 _) ?_)
          have eg : reMachineGroup { pattern := Value.ref pa, string := Value.str x t, code := cdA, text := x.cps, kind := 0, groups := 1, pos := 0, lim := x.cps.size } m 1 (pure Value.none) = mkStr ⟨q.toArray⟩ := by
            unfold reMachineGroup
            rw [m3, m4, ← extract_at hx']
            show (if ((0 : Nat) : Int) ≥ 1 then _ else (if done.flatten.length + q.length < done.flatten.length then _ else _)) = _
            rw [if_neg (by decide), if_neg (by omega)]
            rfl
          rw [eg]
          refine wpAny_mkStr ?_ (by rw [sizeLine_eq]; show q.toArray.size ≤ _; rw [List.size_toArray]; omega)
          refine wpAny_pure ?_
          dsimp only
          rw [List.forIn_nil]
          refine wpAny_pure (wpAny_pure ?_)
          refine .inl ⟨rfl, done ++ [q], todo, _, by rw [hps]; simp, by simp, by simp, ?_, ?_, rfl, by simpa using Nat.lt_of_succ_lt_succ hlt⟩
          · show (done.flatten.length + q.length == done.flatten.length) = false
            exact beq_eq_false_iff_ne.mpr (by omega)
          · rw [spOut_snoc]
            show StrsAre (Array.push (Array.push _ _) _).toList _
            rw [Array.toList_push, Array.toList_push, List.append_assoc]
            exact hv.append (.cons (.cons .nil))
        rcases hcq.1 with ⟨c, rfl, hcs⟩ | ⟨⟨_, hdg⟩, hnext⟩
        · refine found_sep (by simp only [List.length_cons, List.length_nil] at hsz'; omega) hlim ?_ ?_
          · have := getD_at hx' (j := 0) (by simp)
            rw [Nat.add_zero] at this
            rw [this]; exact hcs
          · intro m hm
            exact wpAny_mono (cont m hm) (fun r s' hr => by cases r <;> exact hr) fun _ _ e => e
        · refine found_digs hq1 (by omega) hlim (fun j hj => ?_) ?_ ?_
          · rw [getD_at hx' hj]; exact hdg _ (List.getElem_mem _)
          · cases hf : todo.flatten with
            | nil => left; rw [hf] at hsz'; simpa using hsz'.symm
            | cons c r =>
              right
              have hx2 : x.cps.toList = (done.flatten ++ q) ++ (c :: r) ++ [] := by rw [hx', hf]; simp
              have := getD_at hx2 (j := 0) (by simp)
              rw [Nat.add_zero, List.length_append] at this
              rw [this]
              exact hnext c (by rw [hf]; rfl)
          · intro m hm
            exact wpAny_mono (cont m hm) (fun r s' hr => by cases r <;> exact hr) fun _ _ e => e
    · rw [if_neg (by decide)]
      exact wpAny_pure (.inr ⟨rfl, tk, hv, rfl, rfl⟩)
  · intro st s' hst
    rcases hst with ⟨_, _, _, _, _, _, _, _, _, _, hlt⟩ | hst
    · exact absurd hlt (by simp)
    · exact hst
  · refine .inl ⟨rfl, [], ps, s.toks, rfl, rfl, rfl, rfl, .nil, rfl, ?_⟩
    simp only [List.length_range]
    omega
end
end Mine
end
section 
open PySem PySem.W PyProof.Rows PySem.Calls PySem.Spec PySem.NumText
set_option maxRecDepth 100000
set_option maxHeartbeats 4000000
namespace Mine
theorem gives_text10 {x : PySem.Str} {u t : Tok} {n : Int} (hl : x.length ≤ 640) (hn : PySem.intText? x = some n) : Gives (Builtin.«int.__new__» ⟨[.type "int", .str x u, .int 10 t], []⟩) (.int n) :=
  .of_wp fun M A E s Q h => by
    obtain ⟨hp, g, d, tk, os⟩ := s
    have f1 := F.conv_sub_int
    have f2 := F.madeHere_int
    have f6 : typeOf (.str x u) = pure (.type "str") := rfl
    have hs : (numSeenOf x).length ≤ 640 := Nat.le_trans (seen_length x) hl
    have hr : (int_private% "readNumeral") 0 10 (numSeenOf x) = (int_private% "Numeral.value") n ∧ ((numSeenOf x).length == (numTextOf x).length) = true := by
      rcases read0 x hs with ⟨m, h1, h2, h3⟩ | ⟨h1, _⟩
      · rw [hn] at h1
        injection h1 with h1
        subst h1
        exact ⟨h3, h2⟩
      · rw [hn] at h1
        cases h1
    have hk := KIN.Hid.mk (And.intro hs hr)
    clear hs hr hl hn
    repeat (any_goals (first
      | assumption
      | ((with_reducible show wpAny _ _ ((int_private% "intFromText") _ _ _) _ _ _); refine KIN.wp_text hk.out.1 hk.out.2.1 hk.out.2.2 ?_)
      | wp_step))
    all_goals first | exact ⟨_, rfl, h⟩ | skip
theorem typeCall_int_2 (a b : Value) : checkTypeCall "int" ⟨[a, b], []⟩ = pure () := by kernel_rfl
theorem newCall_int_2 (a b : Value) : checkBuiltinCall "int.__new__" ⟨[.type "int", a, b], []⟩ = pure () := by kernel_rfl
theorem args_object_init_3 (a b c : Value) : argsOk "object.__init__" ⟨[a, b, c], []⟩ := by kernel_rfl
theorem call_text10 {prog : Program} {w : World} {A : Around} {E : Value → Shared → Prop} {s : Shared} {Q : Value → Shared → Prop} {x : PySem.Str} {t u : Tok} {n : Int} (hn : PySem.intText? x = some n) (hl : x.length ≤ 640) (h : Q (.int n s.toks) { s with toks := s.toks + 1 }) :
    wpAny (model prog w) A (call (.type "int") [.str x t, .int 10 u]) Q E s :=
  callType_new F.called_int F.newNe_int (typeCall_int_2 _ _) (newCall_int_2 _ _) (fun obj => args_object_init_3 obj _ _) F.entry_int_new (gives_text10 hl hn).meets (show (Made.int n).post _ s from ⟨rfl, h⟩)
end Mine
end
section 
open PySem PySem.W PyProof.Rows PySem.Calls PySem.Spec
set_option maxRecDepth 100000
set_option maxHeartbeats 4000000
namespace Mine
/-- a frame's map with one name more -/
def up (m : Str → Option Value) (x : Str) (v : Value) : Str → Option Value := fun y => if y = x then some v else m y
def m0 : Str → Option Value := fun _ => none
theorem up_eq {m : Str → Option Value} {x : Str} {v : Value} : up m x v x = some v := if_pos rfl
theorem up_of {m : Str → Option Value} {x y : Str} {v : Value} {r : Option Value} (e : m y = r) (h : (y == x) = false := by decide) : up m x v y = r := (if_neg (fun q => by rw [q] at h; simp at h)).trans e
theorem look_up (l : List (Str × Value)) (x : Str) (v : Value) : (fun y => List.lookup y ((x, v) :: l)) = up (fun y => List.lookup y l) x v := by
  funext y
  simp only [List.lookup_cons, up]
  by_cases h : y = x
  · simp [h]
  · have hb : (y == x) = false := beq_eq_false_iff_ne.mpr h
    simp [h, hb]
theorem bm1 {a : Str} {v : Value} : (fun y => List.lookup y [(a, v)].reverse) = up m0 a v := look_up [] a v
theorem bm2 {a b : Str} {v u : Value} : (fun y => List.lookup y [(a, v), (b, u)].reverse) = up (up m0 a v) b u := by
  show (fun y => List.lookup y [(b, u), (a, v)]) = _
  rw [look_up, look_up]; rfl
theorem bm3 {a b c : Str} {v u z : Value} : (fun y => List.lookup y [(a, v), (b, u), (c, z)].reverse) = up (up (up m0 a v) b u) c z := by
  show (fun y => List.lookup y [(c, z), (b, u), (a, v)]) = _
  rw [look_up, look_up, look_up]; rfl
theorem stU {M : Model} {A : Around} {E : Value → Shared → Prop} {s : Shared} {name : Str} {scope : Scope} {L a : Addr} {cd : Value} {h₀ : Heap} {m : Str → Option Value} {news : List (Addr × Obj)} {x : Str} {v : Value} {Q : Unit → Shared → Prop} (F : Fr h₀ L s.heap m) (N : News h₀ L s.heap news)
    (h : ∀ h', Fr h₀ L h' (up m x v) → News h₀ L h' news → Heap.SameBut L s.heap h' → Q () { s with heap := h', toks := s.toks + 1 })
    (hk : scope.kind = .function := by rfl) (hl : (envOf name scope L a cd).kindOf x = some .local := by rfl) :
    wpAny M A (storeName (envOf name scope L a cd) x v) Q E s :=
  wpAny_storeName_local hl F.ns (fun h' hn hs => h h' (F.set hn hs) (N.set hs) hs)
    (by show (scope.kind == .class || (scope.kind == .module && L != mainGlobals)) = false; rw [hk]; rfl)
abbrev Keep (h h' : Heap) : Prop := ∀ b o, h.get? b = some o → h'.get? b = some o
theorem News.keep {h₀ h h' : Heap} {L : Addr} {nx : List (Addr × Obj)} (N : News h₀ L h nx) (hk : ∀ p ∈ nx, ∀ o, h.get? p.1 = some o → h'.get? p.1 = some o) : News h₀ L h' nx :=
  fun p hp => ⟨hk p hp _ (N p hp).1, (N p hp).2⟩
def TurnEnd (h₀ : Heap) (L : Addr) (R : Result → Shared → Prop) (J : (Str → Option Value) → List (Addr × Obj) → Array GenState → Prop) (wr mt : List Addr) (h : Heap) (s : Shared) (f : Flow) (s' : Shared) : Prop := match f with
  | .ret v => R (.ok (.ret v)) s'
  | .brk => R (.ok .next) s'
  | _ => ∃ h' tk' g' m₂ nx₂, s' = { s with heap := h', toks := tk', gens := g' } ∧ Fr h₀ L h' m₂ ∧ News h₀ L h' nx₂ ∧ J m₂ nx₂ g' ∧ (∀ p ∈ nx₂, p.1 ∉ wr) ∧ (∀ b o, b ≠ L → b ∉ mt → h.get? b = some o → h'.get? b = some o)
section
variable {prog : Program} {w : World} {A : Around} {R : Result → Shared → Prop} {s : Shared} {env : Env} {h₀ : Heap} {x : Str} {px : Pos} {body : List Stmt} {I : Addr} {fp wr mt : List Addr} {n : Nat} {P : Nat → Value → Prop} {St : Nat → Heap → Prop}
theorem for_walk {m₀ : Str → Option Value} {news : List (Addr × Obj)} (W : Walks prog w A I fp wr n P St) (hex : ∀ i h, St i h → ∀ b ∈ wr, ∃ o, h.get? b = some o)
    (J : Nat → (Str → Option Value) → List (Addr × Obj) → Array GenState → Prop) (mt : List Addr)
    (hLf : env.locals ∉ fp) (hmf : ∀ a ∈ mt, a ∉ fp) (hw0 : ∀ b ∈ wr, h₀.get? b = none)
    (F : Fr h₀ env.locals s.heap m₀) (N : News h₀ env.locals s.heap news) (hst : St 0 s.heap) (hJ : J 0 m₀ news s.gens) (hnw : ∀ p ∈ news, p.1 ∉ wr)
    (turn : ∀ i v m₁ nx h tk g, i < n → P i v → J i m₁ nx g → Fr h₀ env.locals h (up m₁ x v) → News h₀ env.locals h nx → (∀ p ∈ nx, p.1 ∉ wr) → (∀ b ∈ wr, ∃ o, h.get? b = some o) → ∀ E',
      wpAny (model prog w) A (execs body env) (TurnEnd h₀ env.locals R (J (i + 1)) wr mt h s) E' { s with heap := h, toks := tk, gens := g })
    (done : ∀ m₁ nx h tk g, J n m₁ nx g → Fr h₀ env.locals h m₁ → News h₀ env.locals h nx → (∀ p ∈ nx, p.1 ∉ wr) → R (.ok .next) { s with heap := h, toks := tk, gens := g })
    (hkx : env.kindOf x = some .local := by rfl) (hp : (env.scope.kind == .class || (env.scope.kind == .module && env.locals != env.globals)) = false := by rfl) :
    codeAny (model prog w) A (.forLoop (.Name x px) (.ref I) body [] env) R s := by
  have hLw : env.locals ∉ wr := fun q => hLf (W.sub _ q)
  refine codeAny_forLoop (fun k s' => ∃ i h tk g m₁ nx, s' = { s with heap := h, toks := tk, gens := g } ∧ i ≤ n ∧ k = n + 1 - i ∧ St i h ∧ J i m₁ nx g ∧ Fr h₀ env.locals h m₁ ∧ News h₀ env.locals h nx ∧ (∀ p ∈ nx, p.1 ∉ wr)) ?_ (n + 1)
    ⟨0, s.heap, s.toks, s.gens, m₀, news, rfl, Nat.zero_le _, rfl, hst, hJ, F, N, hnw⟩
  rintro k s' ⟨i, h, tk, g, m₁, nx, rfl, hi, rfl, hsti, hJi, Fi, Ni, hni⟩
  by_cases hlt : i < n
  · refine W.item i _ _ _ hlt hsti fun v h₁ tk₁ hP hst₁ hk₁ => ?_
    have F₁ : Fr h₀ env.locals h₁ m₁ := ⟨Fi.ns.at' fun o e => hk₁ _ o hLw e, fun b o e => hk₁ b o (fun q => by rw [hw0 b q] at e; cases e) (Fi.keep b o e), Fi.above⟩
    have N₁ : News h₀ env.locals h₁ nx := News.keep Ni fun p hp o e => hk₁ _ _ (hni p hp) e
    refine wpAny_assign_Name (wpAny_storeName_local hkx F₁.ns (fun h₂ hn₂ hs₂ => ?_) hp)
    have F₂ : Fr h₀ env.locals h₂ (up m₁ x v) := F₁.set hn₂ hs₂
    have N₂ : News h₀ env.locals h₂ nx := N₁.set hs₂
    have st₂ : St (i + 1) h₂ := W.frame _ _ _ hst₁ fun b hb o e => hs₂.extBut b o (fun q => hLf (q ▸ hb)) e
    refine wpAny_mono (turn i v m₁ nx h₂ (tk₁ + 1) g hlt hP hJi F₂ N₂ hni (hex _ _ st₂) _) (fun f s₃ ht => ?_) fun _ _ e => e
    have fin : (∃ h' tk' g' m₂ nx₂, s₃ = { s with heap := h', toks := tk', gens := g' } ∧ Fr h₀ env.locals h' m₂ ∧ News h₀ env.locals h' nx₂ ∧ J (i + 1) m₂ nx₂ g' ∧ (∀ p ∈ nx₂, p.1 ∉ wr) ∧ (∀ b o, b ≠ env.locals → b ∉ mt → h₂.get? b = some o → h'.get? b = some o)) →
        ∃ m, m < n + 1 - i ∧ ∃ i h tk g m₁ nx, s₃ = { s with heap := h, toks := tk, gens := g } ∧ i ≤ n ∧ m = n + 1 - i ∧ St i h ∧ J i m₁ nx g ∧ Fr h₀ env.locals h m₁ ∧ News h₀ env.locals h nx ∧ (∀ p ∈ nx, p.1 ∉ wr) := by
      rintro ⟨h', tk', g', m₂, nx₂, rfl, F', N', hJ', hn', hk'⟩
      exact ⟨n + 1 - (i + 1), by omega, i + 1, h', tk', g', m₂, nx₂, rfl, hlt, rfl, W.frame _ _ _ st₂ fun b hb o e => hk' b o (fun q => hLf (q ▸ hb)) (fun q => hmf b q hb) e, hJ', F', N', hn'⟩
    cases f with
    | ret v => exact ht
    | brk => exact ht
    | next => exact fin ht
    | cont => exact fin ht
  · obtain rfl : i = n := by omega
    refine W.done _ _ _ hsti fun h₁ tk₁ hk₁ => wpAny_execs_nil ?_
    exact done m₁ nx h₁ tk₁ g hJi ⟨Fi.ns.at' fun o e => hk₁ _ o hLw e, fun b o e => hk₁ b o (fun q => by rw [hw0 b q] at e; cases e) (Fi.keep b o e), Fi.above⟩ (News.keep Ni fun p hp o e => hk₁ _ _ (hni p hp) e) hni
end
end Mine
end
section 
open PySem PySem.W PyProof.Rows PySem.Calls PySem.Spec
set_option maxRecDepth 100000
set_option maxHeartbeats 4000000
namespace Mine
def bnames : List Str := ["int", "ValueError", "len", "range", "min", "max", "sum", "str", "zip", "type"]
/-- what the top has left, as far as the law's call reads it -/
structure Wd (mg mb : Str → Option Value) (h : Heap) : Prop where
  g : h.Ns mainGlobals mg
  b : h.Ns builtinsNs mb
  lim : h.NoLimit
  bi : ∀ x : Str, x ≠ "__name__" → mb x = bootBuiltins x
  nob : ∀ x ∈ bnames, mg x = none
  char : ∃ t, mg "CHAR_MAX" = some (.int 127 t)
  re : mg "_twin_re_1" = some (.ref 50)
  pat : PatAt h 50
  coll : mg "_strcoll" = some (.ref 38)
  fcoll : FnIs h 38 "_strcoll" 2
  grp : mg "_grouping_intervals" = some (.ref 45)
  fgrp : FnIs h 45 "_grouping_intervals" 4
  cv : mg "_comparable_version" = some (.ref 58)
  fcv : FnIs h 58 "_comparable_version" 8
theorem Wd.keeps {mg mb : Str → Option Value} {h h' : Heap} (x : Wd mg mb h) (hk : Keep h h') : Wd mg mb h' where
  g := x.g.keeps hk
  b := x.b.keeps hk
  lim := x.lim.keeps hk
  bi := x.bi
  nob := x.nob
  char := x.char
  re := x.re
  pat := x.pat.keeps hk
  coll := x.coll
  fcoll := x.fcoll.keeps hk
  grp := x.grp
  fgrp := x.fgrp.keeps hk
  cv := x.cv
  fcv := x.fcv.keeps hk
section
variable {M : Model} {A : Around} {E : Value → Shared → Prop} {s : Shared} {env : Env} {mg mb : Str → Option Value} {Q : Value → Shared → Prop}
/-- a global of the text -/
theorem ldG {x : Str} {pos : Pos} {v : Value} (W : Wd mg mb s.heap) (hv : mg x = some v) (h : Q v s) (hg : env.globals = mainGlobals := by rfl) (hk : env.scope.kind = .function := by rfl) (hx : env.kindOf x = some .globalImplicit := by rfl) (hd : (x == ("__debug__" : Str)) = false := by decide) :
    wpAny M A (eval (.Name x pos) env) Q E s := Name_function_global hk hx (loadGlobal_global (hg ▸ W.g) hv h) hd
/-- a built-in name -/
theorem ldB {x : Str} {pos : Pos} {v : Value} (W : Wd mg mb s.heap) (hv : bootBuiltins x = some v) (h : Q v s) (hm : x ∈ bnames := by decide) (hn : x ≠ "__name__" := by decide) (hg : env.globals = mainGlobals := by rfl) (hb : env.builtins = builtinsNs := by rfl)
    (hk : env.scope.kind = .function := by rfl) (hx : env.kindOf x = some .globalImplicit := by rfl) (hd : (x == ("__debug__" : Str)) = false := by decide) :
    wpAny M A (eval (.Name x pos) env) Q E s := Name_function_global hk hx (loadGlobal_builtin (hg ▸ W.g) (W.nob x hm) (hb ▸ W.b) ((W.bi x hn).trans hv) h) hd
/-- a local name of any env -/
theorem ldE {x : Str} {pos : Pos} {m : Str → Option Value} {v : Value} (hn : s.heap.Ns env.locals m) (hv : m x = some v) (h : Q v s) (hk : env.scope.kind = .function := by rfl) (hl : env.kindOf x = some .local := by rfl) (hd : (x == ("__debug__" : Str)) = false := by decide) :
    wpAny M A (eval (.Name x pos) env) Q E s := wpAny_Name (wpAny_loadName_local hk hl hn hv h) hd
end
section
variable {M : Model} {A : Around} {E : Value → Shared → Prop} {s : Shared} {env : Env}
theorem cwT {pos : Pos} {T : String} {e : Expr} {rest : List Expr} {Q : Value → Shared → Prop}
    (h : wpAny M A (spliced (backTo pos (starEach (e :: rest) env))) (fun vs s₁ => wpAny M A (call (.type T) vs) Q E s₁) E s)
    (he : starEach (e :: rest) env = (false, eval e env) :: starEach rest env := by exact Eq.refl _)
    (hplain : (backTo pos (starEach rest env)).any (·.1) = false := by exact Eq.refl false) :
    wpAny M A (callWith pos (.type T) [] (backTo pos (starEach (e :: rest) env)) []) Q E s := callWith_type1 h he hplain
theorem cwB {pos : Pos} {id : String} {e : Expr} {rest : List Expr} {Q : Value → Shared → Prop}
    (h : wpAny M A (spliced (backTo pos (starEach (e :: rest) env))) (fun vs s₁ => wpAny M A (call (.builtin id) vs) Q E s₁) E s)
    (he : starEach (e :: rest) env = (false, eval e env) :: starEach rest env := by exact Eq.refl _)
    (hplain : (backTo pos (starEach rest env)).any (·.1) = false := by exact Eq.refl false) :
    wpAny M A (callWith pos (.builtin id) [] (backTo pos (starEach (e :: rest) env)) []) Q E s := callWith_builtin1 h he hplain
end
theorem boot_int : bootBuiltins "int" = some (.type "int") := by decide +kernel
abbrev lobj (vs : List Value) (n : Nat) : Obj := { cls := .type "list", data := .seq vs.toArray n }
abbrev tobj (vs : List Value) : Obj := { cls := .type "tuple", data := .seq vs.toArray }
section
variable {M : Model} {A : Around} {E : Value → Shared → Prop} {s : Shared} {Q : Value → Shared → Prop}
theorem newTup {vs : List Value} (h : Q (.ref s.heap.objs.size) { s with heap := s.heap.push (tobj vs) }) (hsz : vs.length ≤ 10000 := by simp) : wpAny M A (newTuple vs) Q E s :=
  wpAny_newObj_type h (by show vs.toArray.size ≤ sizeLine; rw [List.size_toArray, sizeLine_eq]; omega)
theorem newLst {vs : List Value} (h : Q (.ref s.heap.objs.size) { s with heap := s.heap.push (lobj vs 0) }) (hsz : vs.length ≤ 10000 := by simp) : wpAny M A (newList vs) Q E s :=
  wpAny_newObj_type h (by show vs.toArray.size ≤ sizeLine; rw [List.size_toArray, sizeLine_eq]; omega)
end
theorem Keep.push (h : Heap) (o : Obj) : Keep h (h.push o) := fun _ _ e => Heap.get?_push_of_some _ e
theorem Keep.trans {a b c : Heap} (x : Keep a b) (y : Keep b c) : Keep a c := fun _ _ e => y _ _ (x _ _ e)
section
variable {prog : Program} {w : World} {A : Around} {E : Value → Shared → Prop} {s : Shared} {env : Env} {h₀ : Heap}
theorem for_list {R : Result → Shared → Prop} {x : Str} {px : Pos} {body : List Stmt} {m₀ : Str → Option Value} {news : List (Addr × Obj)} {l : Addr} {items : Array Value} (hh : A.handled = none) (hl : s.heap.IsList l items)
    (J : Nat → (Str → Option Value) → List (Addr × Obj) → Array GenState → Prop) (mt : List Addr) (hlm : l ∉ mt) (hlL : l ≠ env.locals) (hmt : ∀ a ∈ mt, a < s.heap.objs.size)
    (F : Fr h₀ env.locals s.heap m₀) (N : News h₀ env.locals s.heap news) (hJ : J 0 m₀ news s.gens)
    (turn : ∀ I i v m₁ nx h tk g, items[i]? = some v → J i m₁ nx g → Fr h₀ env.locals h (up m₁ x v) → News h₀ env.locals h nx → (∀ p ∈ nx, p.1 ≠ I) → I < h.objs.size → I ≠ env.locals → I ∉ mt → ∀ E',
      wpAny (model prog w) A (execs body env) (TurnEnd h₀ env.locals R (J (i + 1)) [I] mt h s) E' { s with heap := h, toks := tk, gens := g })
    (done : ∀ m₁ nx h tk g, J items.size m₁ nx g → Fr h₀ env.locals h m₁ → News h₀ env.locals h nx → R (.ok .next) { s with heap := h, toks := tk, gens := g })
    (hkx : env.kindOf x = some .local := by rfl) (hp : (env.scope.kind == .class || (env.scope.kind == .module && env.locals != env.globals)) = false := by rfl) :
    wpAny (model prog w) A (pyIter (.ref l)) (fun it s₂ => codeAny (model prog w) A (.forLoop (.Name x px) it body [] env) R s₂) E s := by
  refine wpAny_pyIter_list hl ?_
  obtain ⟨ol, hol, _⟩ := id hl
  have hlI : l ≠ s.heap.objs.size := Nat.ne_of_lt (Heap.lt_size hol)
  have hLI : env.locals ≠ s.heap.objs.size := Nat.ne_of_lt F.ns.lt
  have hIm : s.heap.objs.size ∉ mt := fun q => Nat.lt_irrefl _ (hmt _ q)
  refine for_walk (Walks.list hh s.heap.objs.size l hlI items) (fun i h st b hb => ?_) J mt ?_ ?_ ?_ (F.push _) (fun p hp => ⟨Heap.get?_push_of_some _ (N p hp).1, (N p hp).2⟩) ⟨⟨_, Heap.get?_push_size _ rfl, rfl, rfl⟩, hl.push _⟩ hJ ?_ ?_ ?_ hkx hp
  · obtain ⟨o, ho, _⟩ := st.1
    exact ⟨o, (List.mem_singleton.mp hb) ▸ ho⟩
  · intro q
    rcases List.mem_cons.mp q with e | q
    · exact hLI e
    · exact hlL (List.mem_singleton.mp q).symm
  · intro a ha q
    rcases List.mem_cons.mp q with e | q
    · exact hIm (e ▸ ha)
    · exact hlm ((List.mem_singleton.mp q) ▸ ha)
  · intro b hb
    rw [List.mem_singleton.mp hb]
    cases q : h₀.get? s.heap.objs.size with
    | none => rfl
    | some o => exact absurd (Heap.lt_size (F.keep _ _ q)) (Nat.lt_irrefl _)
  · intro p hp q
    exact absurd (Heap.lt_size (N p hp).1) ((List.mem_singleton.mp q) ▸ Nat.lt_irrefl _)
  · intro i v m₁ nx h tk g hi hP hJi Fi Ni hni hx E'
    obtain ⟨o, ho⟩ := hx _ (List.mem_singleton.mpr rfl)
    exact turn _ i v m₁ nx h tk g hP hJi Fi Ni (fun p hp e => hni p hp (List.mem_singleton.mpr e)) (Heap.lt_size ho) (Ne.symm hLI) hIm E'
  · intro m₁ nx h tk g hJn Fn Nn _
    exact done m₁ nx h tk g hJn Fn Nn
end
end Mine
end
section 
open PySem PySem.W PyProof.Rows PySem.Calls PySem.Spec PySem.NumText
set_option maxRecDepth 100000
set_option maxHeartbeats 4000000
namespace Mine
theorem slot_split : Slot "re.Pattern" "split" "re.Pattern.split" :=
  .of (owner := "re.Pattern") (n := "split") (by rw [typeLookup_type, builtinLookup_eq_fast]; kernel_rfl) (by decide +kernel) (by decide +kernel) (by decide +kernel)
    (by first | exact .inl (by decide +kernel) | exact .inr (by decide +kernel)) (by rw [isSubtype_type]; kernel_rfl)
theorem entry_split : entryFor table "re.Pattern.split" = some Builtin.«re.Pattern.split» := entryFor_of_tree (by kernel_rfl)
theorem args_split (a b : Value) : argsOk "re.Pattern.split" ⟨[a, b], []⟩ := by kernel_rfl
theorem plain_pat : PlainAttrs "re.Pattern" := ⟨⟨"object.__getattribute__", by rw [typeLookup_type, builtinLookup_eq_fast]; kernel_rfl, by decide +kernel⟩, by rw [typeLookup_type, builtinLookup_eq_fast]; kernel_rfl⟩
theorem ty_split : typeOf (.builtin "re.Pattern.split") = pure (.type "method_descriptor") := by kernel_rfl
theorem meets_split {pa : Addr} {x : Str} {t : Tok} {ps : List (List Nat)} (hx : x.cps.toList = ps.flatten) (hc : Cut ps) (hs : x.cps.size ≤ 100000) :
    Meets (Builtin.«re.Pattern.split» ⟨[.ref pa, .str x t], []⟩) (fun _ R s => PatAt s.heap pa ∧ ∀ vs tk, StrsAre vs (spOut ps ++ [[]]) → R (.ok (.ret (.ref s.heap.objs.size))) { s with heap := s.heap.push { cls := .type "list", data := .seq vs.toArray }, toks := tk }) :=
  .of_wp fun prog w A R s h => split_re h.1 hx hc hs h.2
section
variable {prog : Program} {w : World} {A : Around} {E : Value → Shared → Prop} {s : Shared} {env : Env}
/-- a method of a built-in type, one argument -/
theorem meth1 {o e : Expr} {name : Str} {apos pos : Pos} {T id : String} {B : Builtin} {Q : Value → Shared → Prop} (pa : PlainAttrs T) (slot : Slot T name id) (hty : typeOf (.builtin id) = pure (.type "method_descriptor")) (entry : entryFor table id = some B)
    (h : wpAny (model prog w) A (eval o env) (fun ov s₁ => s₁.TypeIs ov T ∧ (∀ a, ov = .ref a → ∃ ob, s₁.heap.get? a = some ob ∧ ob.dict = none) ∧
      wpAny (model prog w) A (eval e env) (fun v s₂ => s₂.TypeIs ov T ∧ argsOk id ⟨[ov, v], []⟩ ∧ ∃ S, Meets (B ⟨[ov, v], []⟩) S ∧ S A (wants Q E) s₂) E s₁) E s)
    (hbase : attributeBase o name env (eval o env) = eval o env := by rfl)
    (hfew : ((backTo pos (starEach [e] env)).all (fun x => !x.1) && (backToKw pos (keywordEach [] env)).all (fun x => x.1.isSome)
      && decide ([e].length + ([] : List Keyword).length + (if ([] : List Keyword).isEmpty then 0 else 1) < 30)) = true := by rfl)
    (hline : (apos.endLine == pos.line) = true := by rfl) (he : starEach [e] env = [(false, eval e env)] := by rfl) :
    wpAny (model prog w) A (eval (.Call (.Attribute o name apos) [e] [] pos) env) Q E s := by
  refine wpAny_Call_method hbase hfew hline pa slot hty (wpAny_mono h (fun ov s₁ h₁ => ⟨h₁.1, h₁.2.1, ?_⟩) fun _ _ x => x)
  refine method_meets slot entry (by rw [he]; rfl) ?_
  rw [he]
  exact evalArgs_plain (spliced_cons (wpAny_mono h₁.2.2 (fun v s₂ h₂ => spliced_nil ⟨rfl, h₂⟩) fun _ _ x => x))
end
end Mine
end
section 
open PySem PySem.W PyProof.Rows PySem.Calls PySem.Spec PySem.NumText
set_option maxRecDepth 100000
set_option maxHeartbeats 4000000
namespace Mine
local macro_rules | `(tactic| walk_at "lk") => `(tactic| (repeat (first | exact up_eq | assumption | refine up_of ?_ (by decide))))
theorem ty_extend : typeOf (.builtin "list.extend") = pure (.type "method_descriptor") := by kernel_rfl
def dgB : List Nat → Bool
  | [] => false
  | c :: _ => decide (48 ≤ c ∧ c ≤ 57)
def outOf (q : List Nat) : List Int := if dgB q = true then [100, (digitsVal q : Nat)] else []
def cvOut (ps : List (List Nat)) : List Int := ps.flatMap outOf
theorem out_items (ps : List (List Nat)) : (spOut ps ++ [[]]).flatMap outOf = cvOut ps := by
  induction ps with
  | nil => rfl
  | cons q r ih =>
    simp only [spOut, cvOut, List.flatMap_cons, List.cons_append, List.nil_append, List.flatMap_append] at *
    show outOf [] ++ (outOf q ++ _) = _
    rw [ih]
    rfl
/-- an item of what split gives: nothing, a separator, a run of figures -/
def itemOk (q : List Nat) : Prop := q = [] ∨ sepP q ∨ digP q
theorem items_ok {ps : List (List Nat)} (hc : Cut ps) : ∀ q ∈ spOut ps ++ [[]], itemOk q := by
  induction ps with
  | nil => intro q hq; simp [spOut] at hq; exact .inl hq
  | cons p r ih =>
    intro q hq
    have : q = [] ∨ q = p ∨ q ∈ spOut r ++ [[]] := by
      simp only [spOut, List.flatMap_cons, List.mem_append, List.mem_cons, List.not_mem_nil, or_false] at hq ⊢
      rcases hq with ((h | h) | h) | h
      · exact .inl h
      · exact .inr (.inl h)
      · exact .inr (.inr (.inl h))
      · exact .inl h
    rcases this with h | rfl | h
    · exact .inl h
    · exact .inr (hc.1.imp id fun h => h.1)
    · exact ih hc.2 q h
theorem sep_out {q : List Nat} (h : sepP q) : dgB q = false := by
  obtain ⟨c, rfl, hc⟩ := h
  rcases hc with rfl | rfl | rfl | rfl <;> rfl
theorem dig_out {q : List Nat} (h : digP q) : dgB q = true := by
  obtain ⟨hne, hd⟩ := h
  cases q with
  | nil => exact absurd rfl hne
  | cons c r => exact decide_eq_true (hd c (.head _))
theorem in_signs {q : List Nat} (h : itemOk q) : (!(Builtin.Str.occurrences "._+-" ⟨q.toArray⟩ 0 (Str.length "._+-") 1).isEmpty) = !dgB q := by
  rcases h with rfl | h | h
  · decide +kernel
  · rw [sep_out h]
    obtain ⟨c, rfl, hc⟩ := h
    rcases hc with rfl | rfl | rfl | rfl <;> decide +kernel
  · rw [dig_out h]
    obtain ⟨hne, hd⟩ := h
    cases q with
    | nil => exact absurd rfl hne
    | cons c r =>
      have hc := hd c (.head _)
      rw [Bool.not_true, ← Bool.not_eq_true, StrLaws.found_iff]
      rintro ⟨i, h1, h2⟩
      rw [StrLaws.subAt_eq] at h2
      have h3 : ((("._+-" : Str).cps.toList.drop i).take (c :: r).length) = c :: r := by simpa [Str.length] using h2
      have h4 : c ∈ ("._+-" : Str).cps.toList := List.mem_of_mem_drop (List.mem_of_mem_take (h3 ▸ List.Mem.head _))
      have h5 : ("._+-" : Str).cps.toList = [46, 95, 43, 45] := by decide +kernel
      rw [h5] at h4
      unfold isDig at hc
      simp at h4
      omega
theorem StrsAre.get {vs : List Value} {qs : List (List Nat)} (h : StrsAre vs qs) {i : Nat} {v : Value} (e : vs[i]? = some v) : ∃ q t, qs[i]? = some q ∧ v = .str ⟨q.toArray⟩ t := by
  induction h generalizing i with
  | nil => simp at e
  | cons _ ih =>
    cases i with
    | zero => simp at e; exact ⟨_, _, by simp, e.symm⟩
    | succ i => simp at e; simpa using ih e
theorem up_lobj {vs : List Value} {n : Nat} {a b : Value} : Obj.mapSeq (fun x => x ++ #[a, b]) (lobj vs n) = lobj (vs ++ [a, b]) (n + 1) := by
  simp [lobj, Obj.mapSeq]
theorem news_ext {h₀ h : Heap} {L tp rs : Addr} {m : Str → Option Value} {to : Obj} {vs : List Value} {n : Nat} (F : Fr h₀ L h m) (N : News h₀ L h [(tp, to), (rs, lobj vs n)]) (hne : tp ≠ rs) (a b : Value) :
    Fr h₀ L (h.update rs (Obj.mapSeq fun x => x ++ #[a, b])) m ∧ News h₀ L (h.update rs (Obj.mapSeq fun x => x ++ #[a, b])) [(tp, to), (rs, lobj (vs ++ [a, b]) (n + 1))] :=
  news_upd (pre := [(tp, to)]) (post := []) F N (fun p hp => by rw [List.mem_singleton.mp hp]; exact hne) (fun p hp => by cases hp) up_lobj rfl
theorem cv_len {vs : List Value} {ps : List (List Nat)} {k : Nat} (h : IntsAre vs (((spOut ps ++ [[]]).take k).flatMap outOf)) (hc : Cut ps) (hs : ps.flatten.length ≤ 600) : vs.length ≤ 4000 := by
  have h1 := h.length
  have h2 : ∀ l : List (List Nat), (l.flatMap outOf).length ≤ 2 * l.length := by
    intro l
    induction l with
    | nil => simp
    | cons q r ih =>
      simp only [List.flatMap_cons, List.length_append, List.length_cons]
      have : (outOf q).length ≤ 2 := by unfold outOf; split <;> simp
      omega
  have h3 := h2 ((spOut ps ++ [[]]).take k)
  have h4 : ((spOut ps ++ [[]]).take k).length ≤ (spOut ps ++ [[]]).length := List.length_take_le' ..
  rw [List.length_append, spOut_len] at h4
  have := hc.len
  simp only [List.length_cons, List.length_nil] at h4
  omega
theorem ints_append {a b : List Value} {x y : List Int} (h : IntsAre a x) (k : IntsAre b y) : IntsAre (a ++ b) (x ++ y) := by
  induction h with
  | nil => exact k
  | cons n t _ ih => exact .cons n t ih
theorem take_flat {α β : Type} (f : α → List β) {l : List α} {i : Nat} {q : α} (h : l[i]? = some q) : (l.take (i + 1)).flatMap f = (l.take i).flatMap f ++ f q := by
  rw [List.take_add_one, h]; simp
section
variable {prog : Program} {w : World} {A : Around} {R : Result → Shared → Prop} {s : Shared} {mg mb : Str → Option Value}
theorem cv_spec {x : Str} {t : Tok} {ps : List (List Nat)} (W : Wd mg mb s.heap) (hroom : A.depth < recursionLimit) (hh : A.handled = none) (hx : x.cps.toList = ps.flatten) (hc : Cut ps) (hs : x.cps.size ≤ 600)
    (h : ∀ r vs n h' tk, s.heap.get? r = none → h'.get? r = some (lobj vs n) → IntsAre vs (cvOut ps) → Keep s.heap h' → R (.ok (.ret (.ref r))) { s with heap := h', toks := tk }) :
    codeAny (model prog w) A (.call (.ref 58) ⟨[.str x t], []⟩) R s := by
  refine call_fn (binds := [("version", .str x t)]) W.fcv hroom W.lim (fun _ _ _ => rfl) (by rfl) fun cd h₁ F => ?_
  rw [bm1] at F
  have W₁ := W.keeps F.keep
  refine wpAny_execs_cons (wpAny_Assign_Name (ldG W₁ W.re (stU F News.nil fun h₂ F₂ N₂ S₂ => ?_)))
  refine wpAny_execs_cons (wpAny_Assign_Name (List_ (args_nil (newList_N F₂ N₂ fun h₃ F₃ N₃ => stU F₃ N₃ fun h₄ F₄ N₄ S₄ => ?_))))
  have W₄ := W.keeps F₄.keep
  obtain ⟨op, f0, f1, ca, oc, ep, hp1, hp2, hp3, hpd, hp4, hp5⟩ := W₄.pat.ex
  refine wpAny_execs_cons (wpAny_For (meth1 plain_pat slot_split ty_split entry_split (ld (v := .ref 50) F₄ (by walk_at "lk") ⟨⟨op, hp1, hp3⟩, fun a e => ⟨op, (Value.ref.inj e) ▸ hp1, hpd⟩, ld (v := .str x t) F₄ (by walk_at "lk") ?_⟩)))
  refine ⟨⟨op, hp1, hp3⟩, args_split _ _, _, meets_split hx hc (by omega), W₄.pat, fun vs tk hvs => ?_⟩
  dsimp only
  generalize hrs : h₂.objs.size = rs at *
  refine for_list hh (l := h₄.objs.size) (items := vs.toArray) ⟨_, Heap.get?_push_size _ rfl, rfl, _, rfl⟩
    (fun i m nx g => g = s.gens ∧ m "result" = some (.ref rs) ∧ ∃ vs' n', nx = [(rs, lobj vs' n')] ∧ IntsAre vs' (((spOut ps ++ [[]]).take i).flatMap outOf)) [rs] ?_ ?_ ?_ (F₄.push _)
    (News.keep N₄ fun p _ o e => Heap.get?_push_of_some _ e) ⟨rfl, up_eq, [], 0, rfl, .nil⟩ ?_ ?_
  · intro e
    exact absurd (Heap.lt_size (N₄.get (.head _))) ((List.mem_singleton.mp e) ▸ Nat.lt_irrefl _)
  · exact Nat.ne_of_gt F₄.ns.lt
  · intro a ha
    rw [List.mem_singleton.mp ha]
    show rs < (h₄.push _).objs.size
    rw [Heap.size_push]
    exact Nat.lt_succ_of_lt (Heap.lt_size (N₄.get (.head _)))
  · rintro I i v m₁ nx h tk g hv ⟨rfl, hm, vs', n', rfl, hi'⟩ Fi Ni hnI hI hIL hIm E'
    obtain ⟨q, tq, hq, rfl⟩ := hvs.get (by simpa using hv)
    have hok := items_ok hc q (List.mem_of_getElem? hq)
    refine wpAny_execs_cons (wpAny_If (wpAny_isTrue_Compare1 (ld Fi up_eq (Constant_str (P.notIn_str (wpAny_truthy_bool ?_))))))
    rw [in_signs hok, Bool.not_not]
    cases hd : dgB q with
    | false =>
      rw [if_neg Bool.false_ne_true]
      refine wpAny_execs_nil (wpAny_execs_nil ?_)
      refine ⟨h, _, _, _, _, rfl, Fi, Ni, ⟨rfl, up_of hm, vs', n', rfl, ?_⟩, fun p hp e => hnI p hp (List.mem_singleton.mp e), fun b o _ _ e => e⟩
      rw [take_flat _ hq]
      simpa [outOf, hd] using hi'
    | true =>
      rw [if_pos rfl]
      have hdg : digP q := by
        rcases hok with rfl | h | h
        · cases hd
        · rw [sep_out h] at hd; cases hd
        · exact h
      have hql : q.length ≤ 600 := by
        have h1 : q.length ≤ ps.flatten.length := by
          have h2 := List.mem_of_getElem? hq
          rcases List.mem_append.mp h2 with h3 | h3
          · obtain ⟨p, hp, hpq⟩ := List.mem_flatMap.mp h3
            rcases List.mem_cons.mp hpq with rfl | hpq
            · exact Nat.zero_le _
            · rw [List.mem_singleton.mp hpq]
              exact (List.sublist_flatten_of_mem hp).length_le
          · rw [List.mem_singleton.mp h3]; exact Nat.zero_le _
        have h2 : x.cps.size = ps.flatten.length := by rw [← hx]; simp
        omega
      have hn : PySem.intText? ⟨q.toArray⟩ = some ((digitsVal q : Nat) : Int) := intText_digits (x := ⟨q.toArray⟩) (fun c hc => hdg.2 c (by simpa using hc)) (by simpa using hdg.1) (by show q.toArray.size ≤ 4300; simp; omega)
      have Wi := W.keeps Fi.keep
      refine wpAny_execs_cons (wpAny_Try_except ?_)
      refine wpAny_execs_cons (wpAny_Assign_Name (Call_ (ldB Wi boot_int (cwT (args_cons (ld Fi up_eq (args_cons (wpAny_Constant_int (args_nil (call_text10 hn (by show q.toArray.size ≤ 640; simp; omega) ?_))))))))))
      refine stU Fi Ni fun h₅ F₅ N₅ S₅ => ?_
      refine wpAny_execs_cons (wpAny_Assign_Name (wpAny_Constant_int (stU F₅ N₅ fun h₆ F₆ N₆ S₆ => ?_)))
      refine wpAny_execs_nil (wpAny_execs_nil ?_)
      refine wpAny_execs_cons (wpAny_Expr_any (meth1 PySem.F.plainAttrs_list PySem.F.slot_list_extend ty_extend PySem.F.entry_list_extend (ld (v := .ref rs) F₆ (by walk_at "lk") ⟨⟨_, N₆.get (.head _), rfl⟩, fun a e => ⟨_, (Value.ref.inj e) ▸ N₆.get (.head _), rfl⟩, ?_⟩)))
      refine Tuple_ (args_cons (ld F₆ (by walk_at "lk") (args_cons (ld F₆ (by walk_at "lk") (args_nil ?_)))))
      refine newTup ?_
      dsimp only
      have F₇ := F₆.push (tobj [.int 100 (tk + 1 + 1 + 1 + 1), .int (digitsVal q : Nat) (tk + 1 + 1)])
      have N₇ := N₆.push F₆ (tobj [.int 100 (tk + 1 + 1 + 1 + 1), .int (digitsVal q : Nat) (tk + 1 + 1)])
      have hvl := cv_len hi' hc (by have h2 : x.cps.size = ps.flatten.length := by rw [← hx]; simp
                                    omega)
      have hne : h₆.objs.size ≠ rs := Nat.ne_of_gt (Heap.lt_size (N₆.get (.head _)))
      refine ⟨⟨_, N₇.get (.tail _ (.head _)), rfl⟩, PySem.F.args_list_extend_2 _ _, _, AutoSeq1.list_extend_list_tuple_0 rs vs'.toArray n' h₆.objs.size #[.int 100 _, .int _ _] 0 ?_ ?_ ?_, N₇.get (.tail _ (.head _)), N₇.get (.head _), ?_⟩
      · have : Builtin.List.listTooLong (vs'.toArray.size + 2) = false := by
          unfold Builtin.List.listTooLong
          rw [sizeLine_eq, List.size_toArray]
          exact decide_eq_false (by omega)
        show ¬ (_ && Builtin.List.listTooLong (vs'.toArray.size + 2)) = true
        rw [this, Bool.and_false]
        exact Bool.false_ne_true
      · rw [sizeLine_eq, List.size_toArray]; omega
      · show vs'.toArray.size + 2 ≤ _
        rw [sizeLine_eq, List.size_toArray]; omega
      · refine wpAny_execs_nil (wpAny_execs_nil ?_)
        refine ⟨_, _, _, _, [(rs, lobj (vs' ++ [_, _]) (n' + 1))], rfl, (news_ext F₇ N₇ hne _ _).1, fun p hp => (news_ext F₇ N₇ hne _ _).2 p (.tail _ hp), ⟨rfl, by walk_at "lk", _, _, rfl, ?_⟩, fun p hp e => ?_, fun b o h1 h2 e => ?_⟩
        · rw [take_flat _ hq]
          refine ints_append hi' ?_
          rw [show outOf q = [(100 : Int), ((digitsVal q : Nat) : Int)] from by simp [outOf, hd]]
          exact .cons _ _ (.cons _ _ .nil)
        · rw [List.mem_singleton.mp hp] at e
          exact hnI (rs, _) (.head _) (List.mem_singleton.mp e)
        · have hb : b ≠ rs := fun q => h2 (q ▸ .head _)
          refine (Heap.get?_update_ne _ _ _ _ hb).trans ?_
          exact Heap.get?_push_of_some _ (S₆.extBut b o h1 (S₅.extBut b o h1 e))
  · rintro m₁ nx h' tk g ⟨rfl, hm, vs', n', rfl, hi'⟩ Fn Nn
    dsimp only
    refine wpAny_execs_cons (wpAny_Return_some (ld (v := .ref rs) Fn hm ?_))
    refine h rs vs' n' h' tk ?_ (Nn.get (.head _)) ?_ Fn.keep
    · exact (Nn _ (.head _)).2.2
    · rw [show vs.toArray.size = (spOut ps ++ [[]]).length from by rw [List.size_toArray, hvs.length], List.take_length, out_items] at hi'
      exact hi'
end
end Mine
end
section 
open PySem PySem.W PyProof.Rows PySem.Calls PySem.Spec
set_option maxRecDepth 100000
set_option maxHeartbeats 4000000
namespace Mine
section
variable {M : Model} {A : Around} {R : GenEnd} {Y : Protocol} {n : Nat} {s₀ : Shared} {c : Code} {fs : List Frame} {s : Shared} {env : Env} {α β : Type}
theorem seg_bindw {m : Sem α} {k : α → Sem β} {K : β → Sem Fin} {H : Value → Sem Fin} {gd : Bool → Bool} {lv : List Value → List Value}
    (h : wpAny M (A.over c fs) m (fun a s' => Seg M A R Y n s₀ c ((k a).wrap K H gd lv) fs s') (fun x s' => Seg M A R Y n s₀ c (H x) fs s') s) : Seg M A R Y n s₀ c ((m >>= k).wrap K H gd lv) fs s := by
  rw [Sem.bind_eq_wrap', Sem.wrap_wrap]
  exact seg_wrap h
variable {K : Flow → Sem Fin} {H : Value → Sem Fin} {gd : Bool → Bool} {lv : List Value → List Value}
theorem seg_If {test : Expr} {body orelse : List Stmt} {pos : Pos}
    (h : wpAny M (A.over c fs) (isTrue test env (eval test env)) (fun b s₂ => if b = true then Seg M A R Y n s₀ c ((execs body env).wrap K H gd lv) fs s₂ else Seg M A R Y n s₀ c ((execs orelse env).wrap K H gd lv) fs s₂) (fun x s' => Seg M A R Y n s₀ c (H x) fs s') s) :
    Seg M A R Y n s₀ c ((exec (.If test body orelse pos) env).wrap K H gd lv) fs s := by
  rw [exec_If]
  refine seg_bindw (wpAny_standAt (seg_bindw (wpAny_mono h (fun b s₂ hb => ?_) fun _ _ x => x)))
  cases b with
  | true => rw [if_pos rfl] at hb; exact hb
  | false => rw [if_neg Bool.false_ne_true] at hb; exact hb
def retK (env : Env) (K : Flow → Sem Fin) (H : Value → Sem Fin) (gd : Bool → Bool) (lv : List Value → List Value) : Result → Sem Fin := fun r => ((match r with | .ok f => (.pure f : Sem Flow) | .error e => .raise e).onRaise fun (x : Value) => do
        if (← field x 1) == Value.none then unsupported "frame.own-activation:exception-without-traceback"
        setFlight x env.frame).wrap K H gd lv
theorem seg_For {target iter : Expr} {body orelse : List Stmt} {pos : Pos}
    (h : wpAny M (A.over c fs) (eval iter env) (fun xv s₁ => wpAny M (A.over c fs) (pyIter xv) (fun it s₂ => ∀ p, Seg M A R Y n s₀ (.forLoop target it body orelse env) (M.den (.forLoop target it body orelse env))
      (.ret (retK env K H gd lv) none (gd false) (lv []) c p [] :: fs) s₂) (fun x s' => Seg M A R Y n s₀ c (H x) fs s') s₁) (fun x s' => Seg M A R Y n s₀ c (H x) fs s') s)
    (hs : ∀ x, foldedSetIterable iter env x = pure x := by intro _; rfl) :
    Seg M A R Y n s₀ c ((exec (.For target iter body orelse pos) env).wrap K H gd lv) fs s := by
  rw [exec_For]
  refine seg_bindw (wpAny_standAt (seg_bindw (wpAny_mono h (fun xv s₁ h₁ => ?_) fun _ _ x => x)))
  refine seg_bindw (wpAny_of_eq (hs xv) (seg_bindw (wpAny_standAt (seg_bindw (wpAny_holding (wpAny_mono h₁ (fun it s₂ h₂ => ?_) fun _ _ x => x))))))
  exact seg_call h₂
end
section
variable {prog : Program} {w : World} {A : Around} {R : GenEnd} {Y : Protocol} {n : Nat} {s₀ : Shared} {fs : List Frame} {s : Shared} {env : Env}
def notH (env : Env) : Value → Sem Fin := fun e => (do noteFrame e env; theTreesLotGoes e : Sem Unit).wrap (fun _ => .raise e) .raise id id
def forK (target : Expr) (it : Value) (body orelse : List Stmt) (env : Env) : Flow → Sem Fin := fun f => match f with
  | .next | .cont => .pure (.again (.forLoop target it body orelse env))
  | .brk => .pure (.done .next)
  | .ret v => .pure (.done (.ret v))
theorem seg_forLoop {target : Expr} {it : Value} {body orelse : List Stmt} (ht : ∀ v, letOwnedTupleGo target it v = pure ())
    (h : wpAny (model prog w) (A.over (.forLoop target it body orelse env) fs) (pyNext it) (fun r s₁ => match r with
        | none => Seg (model prog w) A R Y n s₀ (.block orelse env) ((model prog w).den (.block orelse env)) fs s₁
        | some v => wpAny (model prog w) (A.over (.forLoop target it body orelse env) fs) (assign target env v) (fun _ s₂ => Seg (model prog w) A R Y n s₀ (.forLoop target it body orelse env) ((execs body env).wrap (forK target it body orelse env) (notH env) id id) fs s₂)
            (fun x s' => Seg (model prog w) A R Y n s₀ (.forLoop target it body orelse env) (notH env x) fs s') s₁)
      (fun x s' => Seg (model prog w) A R Y n s₀ (.forLoop target it body orelse env) (notH env x) fs s') s) :
    Seg (model prog w) A R Y n s₀ (.forLoop target it body orelse env) ((model prog w).den (.forLoop target it body orelse env)) fs s := by
  have e : ∀ x, (do noteFrame x env; theTreesLotGoes x : Sem Unit).bind (fun _ => .raise x) = notH env x := fun x => Sem.bind_eq_wrap _ _
  show Seg _ A R Y n s₀ _ ((forTurn target it body orelse env).onRaise (fun x => do noteFrame x env; theTreesLotGoes x)) fs s
  unfold forTurn
  rw [Sem.onRaise_eq_wrap]
  refine seg_bindw (wpAny_standAt (seg_bindw (wpAny_onRaise (wpAny_mono h (fun r s₁ h₁ => ?_) fun x s' hx => wpAny_standAt ?_))))
  · cases r with
    | none => exact seg_again rfl h₁
    | some v =>
      refine seg_bindw (wpAny_of_eq (ht v) (seg_bindw (wpAny_mono h₁ (fun _ s₂ h₂ => ?_) fun x s' hx => ?_)))
      · rw [Sem.bind_eq_wrap', Sem.wrap_wrap]
        refine Eq.mpr (congrArg (fun t => Seg (model prog w) A R Y n s₀ (.forLoop target it body orelse env) t fs s₂) (Sem.wrap_congr (execs body env) id id (K' := forK target it body orelse env) (H' := notH env) (fun f => ?_) (fun x => e x))) h₂
        cases f <;> rfl
      · rw [e x]; exact hx
  · rw [e x]; exact hx
theorem seg_block_nil {fs : List Frame} {k : Result → Sem Fin} {hd : Option Value} {g : Bool} {l : List Value} {c₁ : Code} {p₁ : Pos} {kp}
    (h : Seg (model prog w) A R Y n s₀ c₁ (k (.ok .next)) fs s) : Seg (model prog w) A R Y n s₀ (.block [] env) ((model prog w).den (.block [] env)) (.ret k hd g l c₁ p₁ kp :: fs) s :=
  seg_leaf (.ok .next) h
end
end Mine
end
section 
open PySem PySem.W PyProof.Rows PySem.Calls PySem.Spec
set_option maxRecDepth 100000
set_option maxHeartbeats 4000000
namespace Mine
local macro_rules | `(tactic| walk_at "lk") => `(tactic| (repeat (first | exact up_eq | assumption | refine up_of ?_ (by decide))))
/-- what the walk over the sizes hands on: the k-th, where one comes -/
def gout : List Int → Option Int → Nat → Option Int
  | [], _, _ => none
  | x :: r, last, k => if x = 127 then none else if x = 0 then last else match k with
    | 0 => some x
    | k + 1 => gout r (some x) k
theorem ne_none {h : Heap} {b c : Addr} {o : Obj} (h1 : h.get? c = none) (h2 : h.get? b = some o) : b ≠ c := fun q => by rw [q, h1] at h2; cases h2
def gTgt : Expr := match ((bdyP 4)[1]? : Option Stmt) with | some (Stmt.For t _ _ _ _) => t | _ => .Constant .none 0 ⟨0, 0, 0, 0⟩
def gFor : List Stmt := match ((bdyP 4)[1]? : Option Stmt) with | some (Stmt.For _ _ b _ _) => b | _ => []
def gIf : List Stmt := match (gFor[1]? : Option Stmt) with | some (Stmt.If _ b _ _) => b | _ => []
def gWhT : Expr := match (gIf[1]? : Option Stmt) with | some (Stmt.While t _ _ _) => t | _ => .Constant .none 0 ⟨0, 0, 0, 0⟩
def gWhB : List Stmt := match (gIf[1]? : Option Stmt) with | some (Stmt.While _ b _ _) => b | _ => []
abbrev genv (L : Addr) (cd : Value) : Env := envOf "_grouping_intervals" (scpP 4) L 45 cd
/-- the frame of the walk, between two of its sizes -/
structure GFr (hB : Heap) (L I l : Addr) (i : Nat) (lastV : Value) (h : Heap) : Prop where
  keep : Keep hB h
  ns : ∃ m, h.Ns L m ∧ m "grouping" = some (.ref l) ∧ m "last_interval" = some lastV
  it : h.IsListIter I l i
/-- what a stretch of the walk leaves alone -/
structure GKeep (L I : Addr) (s₀ s : Shared) : Prop where
  ex : ∃ h tk, s = { s₀ with heap := h, toks := tk }
  keep : ∀ b o, b ≠ L → b ≠ I → s₀.heap.get? b = some o → s.heap.get? b = some o
def YG (hB : Heap) (L I : Addr) (out : Nat → Option Int) (N : Nat) : Protocol := fun n s₀ v s' kap =>
  ∃ x t, v = .int x t ∧ out (N - (n + 1)) = some x ∧ GKeep L I s₀ s' ∧ Keep hB s'.heap ∧ (L < s'.heap.objs.size ∧ I < s'.heap.objs.size) ∧
    (n ≠ 0 → ∀ s'' : Shared, Keep hB s''.heap → (∀ o, s'.heap.get? L = some o → s''.heap.get? L = some o) → (∀ o, s'.heap.get? I = some o → s''.heap.get? I = some o) → kap (.send .none) s'')
def PG (L I : Addr) (out : Nat → Option Int) (N : Nat) : Nat → Shared → Shared → Prop := fun n s₀ s₁ => out (N - n) = none ∧ GKeep L I s₀ s₁
abbrev RG (L I : Addr) (out : Nat → Option Int) (N : Nat) : GenEnd := fun n s₀ r s₁ => r = .ok (.ret .none) ∧ PG L I out N n s₀ s₁
theorem GKeep.trans {L I : Addr} {a b c : Shared} (x : GKeep L I a b) (y : GKeep L I b c) : GKeep L I a c := by
  obtain ⟨⟨h, tk, rfl⟩, k⟩ := x
  obtain ⟨⟨h', tk', rfl⟩, k'⟩ := y
  exact ⟨⟨h', tk', rfl⟩, fun b o h1 h2 e => k' b o h1 h2 (k b o h1 h2 e)⟩
theorem GKeep.refl {L I : Addr} {s : Shared} : GKeep L I s s := ⟨⟨s.heap, s.toks, rfl⟩, fun _ _ _ _ e => e⟩
theorem GKeep.set {L I : Addr} {s₀ s : Shared} {h' : Heap} {tk : Nat} (x : GKeep L I s₀ s) (hs : Heap.SameBut L s.heap h') : GKeep L I s₀ { s with heap := h', toks := tk } := by
  obtain ⟨⟨h, tk', rfl⟩, k⟩ := x
  exact ⟨⟨h', tk, rfl⟩, fun b o h1 h2 e => hs.extBut b o h1 (k b o h1 h2 e)⟩
theorem GKeep.toks {L I : Addr} {s₀ s : Shared} {tk : Nat} (x : GKeep L I s₀ s) : GKeep L I s₀ { s with toks := tk } := by
  obtain ⟨⟨h, tk', rfl⟩, k⟩ := x
  exact ⟨⟨h, tk, rfl⟩, k⟩
section
variable {prog : Program} {w : World} {A : Around} {mg mb : Str → Option Value} {hB : Heap} {L I l : Addr} {cd : Value} {out : Nat → Option Int} {N : Nat}
/-- the tree below the loop -/
def gK (env : Env) : Flow → Sem Fin := fun f => match f with | .next => (execs [] env).wrap (fun f => .pure (.done (.ret (match f with | .ret v => v | _ => .none)))) (fun e => (leaving env e).wrap (fun _ => .raise e) .raise id id) id id | f => .pure (.done (.ret (match f with | .ret v => v | _ => .none)))
def gH (env : Env) : Value → Sem Fin := fun e => (leaving env e).wrap (fun _ => .raise e) .raise id id
abbrev gFrame (env : Env) (p : Pos) : Frame := .ret (retK env (gK env) (gH env) id id) none (id false) (id []) (.func (bdyP 4) env) p []
/-- the endless part -/
theorem seg_endless {p p' : Pos} {y : Int} {ty : Tok} {k' : Result → Sem Fin} (W : Wd mg mb hB) (hLI : L ≠ I) :
    ∀ (n j : Nat) (s₀ s : Shared), n + 1 ≤ N → (∀ k, out (N - (n + 1) + k) = some y) → GFr hB L I l j (.int y ty) s.heap → GKeep L I s₀ s →
      Seg (model prog w) A (RG L I out N) (YG hB L I out N) (n + 1) s₀ (.whileLoop gWhT gWhB [] (genv L cd)) ((model prog w).den (.whileLoop gWhT gWhB [] (genv L cd)))
        [.ret k' none (id false) (id []) (.forLoop gTgt (.ref I) gFor [] (genv L cd)) p' [], gFrame (genv L cd) p] s := by
  intro n
  induction n with
  | zero =>
    intro j s₀ s hn hout G K
    obtain ⟨m, hm, hg, hl⟩ := G.ns
    refine seg_whileLoop (wpAny_isTrue_value (wpAny_Constant_bool (wpAny_truthy_bool ?_)))
    rw [if_pos rfl]
    refine seg_execs_cons (seg_Expr_Yield rfl rfl rfl (ldE hm hl ?_))
    intro kap hk
    exact ⟨y, ty, rfl, by simpa using hout 0, K, G.keep, ⟨hm.lt, let ⟨_, ho, _⟩ := G.it; Heap.lt_size ho⟩, fun h => absurd rfl h⟩
  | succ n ih =>
    intro j s₀ s hn hout G K
    obtain ⟨m, hm, hg, hl⟩ := G.ns
    refine seg_whileLoop (wpAny_isTrue_value (wpAny_Constant_bool (wpAny_truthy_bool ?_)))
    rw [if_pos rfl]
    refine seg_execs_cons (seg_Expr_Yield rfl rfl rfl (ldE hm hl ?_))
    intro kap hk
    refine ⟨y, ty, rfl, by simpa using hout 0, K, G.keep, ⟨hm.lt, let ⟨_, ho, _⟩ := G.it; Heap.lt_size ho⟩, fun _ s'' hkB hkL hkI => hk .none s'' ?_⟩
    refine seg_execs_nil (seg_again rfl ?_)
    refine ih j s'' s'' (by omega) (fun k => ?_) ⟨hkB, ⟨m, hm.at' fun o e => hkL o e, hg, hl⟩, G.it.at fun o e => hkI o e⟩ .refl
    have := hout (k + 1)
    rwa [show N - (n + 1 + 1) + (k + 1) = N - (n + 1) + k by omega] at this
theorem gout_at {ns : List Int} {i : Nat} {last : Option Int} (k : Nat) {x : Int} (hx : ns[i]? = some x) : gout (ns.drop i) last k = if x = 127 then none else if x = 0 then last else match k with | 0 => some x | k + 1 => gout (ns.drop (i + 1)) (some x) k := by
  obtain ⟨hi, rfl⟩ := List.getElem?_eq_some_iff.mp hx
  rw [List.drop_eq_getElem_cons hi]
  rfl
/-- the loop over the sizes -/
theorem seg_loop {p : Pos} {vs : List Value} {ns : List Int} (W : Wd mg mb hB) (hLI : L ≠ I) (hLB : hB.get? L = none) (hIB : hB.get? I = none) (hh : A.handled = none) (hl : hB.IsList l vs.toArray) (hi : IntsAre vs ns) :
    ∀ (n i : Nat) (last : Option Int) (lastV : Value) (s₀ s : Shared), n + 1 ≤ N → (∀ k, out (N - (n + 1) + k) = gout (ns.drop i) last k) → ((last = none ∧ lastV = .none ∧ ns[i]? ≠ some 0) ∨ ∃ y ty, last = some y ∧ lastV = .int y ty) → GFr hB L I l i lastV s.heap → GKeep L I s₀ s →
      Seg (model prog w) A (RG L I out N) (YG hB L I out N) (n + 1) s₀ (.forLoop gTgt (.ref I) gFor [] (genv L cd)) ((model prog w).den (.forLoop gTgt (.ref I) gFor [] (genv L cd))) [gFrame (genv L cd) p] s := by
  intro n
  induction n using Nat.strongRecOn with
  | ind n ih =>
    intro i last lastV s₀ s hn hout hlast G K
    obtain ⟨m, hm, hg, hlv⟩ := G.ns
    have hls : s.heap.IsList l vs.toArray := hl.at fun o e => G.keep l o e
    have hA : (A.over (.forLoop gTgt (.ref I) gFor [] (genv L cd)) [gFrame (genv L cd) p]).handled = none := by
      show (marksOver [gFrame (genv L cd) p] (A.handled, A.handled)).1 = none
      rw [hh]; rfl
    refine seg_forLoop (fun _ => rfl) ?_
    cases hx : vs[i]? with
    | none =>
      refine wpAny_pyNext_list_end hA G.it hls (by simpa using hx) fun h' he' => ?_
      refine seg_block_nil ?_
      refine seg_end (.ok (.ret .none)) ⟨rfl, ?_, ?_⟩
      · have h0 := hout 0
        have hlen : ns.length ≤ i := by rw [← hi.length]; exact List.getElem?_eq_none_iff.mp hx
        rw [List.drop_eq_nil_of_le hlen] at h0
        exact h0
      · obtain ⟨⟨h, tk, rfl⟩, k⟩ := K
        exact ⟨⟨h', tk, rfl⟩, fun b o h1 h2 e => he' b o h2 (k b o h1 h2 e)⟩
    | some v =>
      refine wpAny_pyNext_list_item G.it hls (x := v) (by simpa using hx) fun h' hit' hs' => ?_
      have hlt : i < ns.length := by rw [← hi.length]; exact (List.getElem?_eq_some_iff.mp hx).1
      have hxn : ns[i]? = some ns[i] := List.getElem?_eq_some_iff.mpr ⟨hlt, rfl⟩
      obtain ⟨tx, hvx⟩ := hi.get i ns[i] hxn
      generalize hxx : ns[i] = x at hxn hvx
      obtain rfl : v = .int x tx := by rw [hx] at hvx; exact Option.some.inj hvx
      have hm' : h'.Ns L m := hm.at' fun o e => hs'.extBut L o hLI e
      refine wpAny_assign_Name (wpAny_storeName_local (env := genv L cd) rfl hm' (fun h₂ hn₂ hs₂ => ?_) rfl)
      have hn₂ : h₂.Ns L (up m "interval" (.int x tx)) := hn₂
      have kB₂ : Keep hB h₂ := fun b o e => hs₂.extBut b o (ne_none hLB e) (hs'.extBut b o (ne_none hIB e) (G.keep b o e))
      have it₂ : h₂.IsListIter I l (i + 1) := hit'.at fun o e => hs₂.extBut I o (Ne.symm hLI) e
      have K₂ : GKeep L I s₀ { s with heap := h₂, toks := s.toks + 1 } := by
        obtain ⟨⟨h, tk, rfl⟩, k⟩ := K
        exact ⟨⟨h₂, _, rfl⟩, fun b o h1 h2 e => hs₂.extBut b o h1 (hs'.extBut b o h2 (k b o h1 h2 e))⟩
      have W₂ := W.keeps kB₂
      obtain ⟨tc, hch⟩ := W.char
      have ho := fun k => (hout k).trans (gout_at k hxn)
      refine seg_execs_cons (seg_If (wpAny_isTrue_Compare1 (ldE hn₂ up_eq (ldG W₂ hch (eq_int (wpAny_truthy_bool ?_))))))
      by_cases h127 : x = 127
      · subst h127
        rw [if_pos (by decide)]
        refine seg_execs_cons (seg_wrap (wpAny_Return_none ?_))
        refine seg_leaf (.ok (.ret .none)) (seg_end (.ok (.ret .none)) ⟨rfl, ?_, K₂⟩)
        exact ho 0
      · rw [if_neg (by simpa using h127)]
        refine seg_execs_nil ?_
        have ho1 := fun k => (ho k).trans (if_neg h127)
        refine seg_execs_cons (seg_If (wpAny_isTrue_Compare1 (ldE hn₂ up_eq (wpAny_Constant_int (eq_int (wpAny_truthy_bool ?_))))))
        by_cases h00 : x = 0
        · subst h00
          rw [if_pos (by decide)]
          rcases hlast with ⟨_, _, hne⟩ | ⟨y, ty, rfl, rfl⟩
          · exact absurd hxn hne
          · refine seg_execs_cons (seg_If (wpAny_isTrue_Compare1 (ldE hn₂ (up_of hlv) (wpAny_Constant_none (is_int_none (wpAny_truthy_bool ?_))))))
            rw [if_neg Bool.false_ne_true]
            refine seg_execs_nil (seg_execs_cons (seg_While fun p' => ?_))
            refine seg_endless W hLI n (i + 1) s₀ _ hn (fun k => ho1 k) ⟨kB₂, ⟨_, hn₂, up_of hg, up_of hlv⟩, it₂⟩ ?_
            exact K₂.toks
        · rw [if_neg (by simpa using h00)]
          have ho2 := fun k => (ho1 k).trans (if_neg h00)
          refine seg_execs_nil (seg_execs_cons (seg_Expr_Yield rfl rfl rfl (ldE hn₂ up_eq ?_)))
          intro kap hk
          refine ⟨x, tx, rfl, ho2 0, K₂.toks, kB₂, ⟨hn₂.lt, let ⟨_, ho, _⟩ := it₂; Heap.lt_size ho⟩, fun hn0 s'' hkB hkL hkI => hk .none s'' ?_⟩
          obtain ⟨n, rfl⟩ : ∃ n', n = n' + 1 := ⟨n - 1, by omega⟩
          have hn₃ : s''.heap.Ns L (up m "interval" (.int x tx)) := hn₂.at' fun o e => hkL o e
          have it₃ : s''.heap.IsListIter I l (i + 1) := it₂.at fun o e => hkI o e
          refine seg_execs_cons (seg_wrap (wpAny_Assign_Name (ldE hn₃ up_eq (wpAny_storeName_local (env := genv L cd) rfl hn₃ (fun h₄ hn₄ hs₄ => ?_) rfl))))
          have hn₄ : h₄.Ns L (up (up m "interval" (.int x tx)) "last_interval" (.int x tx)) := hn₄
          refine seg_execs_nil (seg_again rfl ?_)
          refine ih n (by omega) (i + 1) (some x) (.int x tx) s'' _ (by omega) (fun k => ?_) (.inr ⟨x, tx, rfl, rfl⟩) ⟨fun b o e => hs₄.extBut b o (ne_none hLB e) (hkB b o e), ⟨_, hn₄, by walk_at "lk", up_eq⟩, it₃.at fun o e => hs₄.extBut I o (Ne.symm hLI) e⟩ (GKeep.refl.set hs₄)
          have := ho2 (k + 1)
          rwa [show N - (n + 1 + 1) + (k + 1) = N - (n + 1) + k by omega] at this
end
end Mine
end
section 
open PySem PySem.W PyProof.Rows PySem.Calls PySem.Spec
set_option maxRecDepth 100000
set_option maxHeartbeats 4000000
namespace Mine
local macro_rules | `(tactic| walk_at "lk") => `(tactic| (repeat (first | exact up_eq | assumption | refine up_of ?_ (by decide))))
section
variable {prog : Program} {w : World} {A : Around} {E : Value → Shared → Prop} {s : Shared} {mg mb : Str → Option Value}
theorem pyNext_G {a : Addr} {g n : Nat} {gs : GenState} {P : Nat → Shared → Shared → Prop} {Y : Protocol} {Q : Option Value → Shared → Prop} (hh : A.handled = none)
    (hl : s.heap.NoLimit) (hroom : A.depth < recursionLimit) (hg : s.heap.IsGen a g) (hgs : s.gens[g]? = some gs)
    (hgo : gs.Goes (model prog w) A.in1 (fun n s₀ r s₁ => r = .ok (.ret .none) ∧ P n s₀ s₁) Y n (.send .none) (s.setGen g .running))
    (hY : ∀ v s₁ gs', gs'.bare = true → Y (n - 1) (s.setGen g .running) v s₁ (fun r' s'' => match n with
        | 0 => False
        | m + 1 => gs'.Goes (model prog w) A.in1 (fun n s₀ r s₁ => r = .ok (.ret .none) ∧ P n s₀ s₁) Y m r' s'') → Q (some v) (s₁.setGen g gs'))
    (hP : ∀ s₁, P n (s.setGen g .running) s₁ → ∀ h', Keep s₁.heap h' → Q none { s₁.setGen g .finished with heap := h' }) :
    wpAny (model prog w) A (pyNext (.ref a)) Q E s := by
  unfold pyNext
  refine wpAny_bind (wpAny_attempt (wpAny_callSpecial?_slot (name := Str.ofString "__next__") hg.typeIs slot_gen_next
    (wpAny_call_entry slot_gen_next hg.typeIs entry_gen_next ?_ (args_gen_next _))))
  show wpAny _ A.in1 (Builtin.Generator.genWake (.ref a) (.send .none)) _ _ s
  unfold Builtin.Generator.genWake
  refine wpAny_bind (wpAny_holding (wpAny_genNumber hg (wpAny_bind (wpAny_genState hgs ?_))))
  cases gs with
  | running => exact hgo.elim
  | finished => exact hgo.elim
  | _ =>
    refine wpAny_bind (wpAny_roomToWake hl hroom ?_)
    show wpAny _ A.in1 (.resume g (.send .none) [] _) _ _ s
    refine wpAny_resumeQ hgs hgo (fun x s₁ hx => ?_) (fun v s₁ gs' hb hv => ?_)
    · obtain ⟨rfl, hp⟩ := hx
      show wpAny _ A.in1 (newExc (.type "StopIteration") [] >>= _) _ _ _
      refine wpAny_bind ?_
      simp only [newExc, newTuple]
      refine wpAny_bind (wpAny_newObj_type ?_ (by size_fits))
      refine wpAny_bind (m := firstArgMember _ _) (wpAny_of_eq (a := Value.none) (by first | rfl | (simp only [firstArgMember]; rfl)) ?_)
      refine wpAny_newObj_type ?_ (by size_fits)
      simp only [raiseNew]
      refine wpAny_bind (wpAny_bind (wpAny_handled ?_))
      first | rw [show A.in1.handled = none from hh] | rw [hh]
      refine wpAny_throw ?_
      refine wpAny_bind (wpAny_isInstance (T := "StopIteration") (b := true) ⟨_, Heap.get?_push_size _ rfl, rfl⟩ isSubtype_stop ?_)
      exact wpAny_pure (hP s₁ hp _ fun b o hb => Heap.get?_push_of_some _ (Heap.get?_push_of_some _ hb))
    · exact wpAny_pure ⟨v, rfl, wpAny_pure (hY v s₁ gs' hb hv)⟩
/-- the walk from its start -/
theorem goes_start {hB : Heap} {L l : Addr} {cd : Value} {out : Nat → Option Int} {n : Nat} {vs : List Value} {ns : List Int} {m : Str → Option Value} (W : Wd mg mb hB) (hLB : hB.get? L = none) (hh : A.handled = none) (hl : hB.IsList l vs.toArray) (hi : IntsAre vs ns)
    (hout : ∀ k, out k = gout ns none k) (h0 : ns[0]? ≠ some 0) (hk : Keep hB s.heap) (hm : s.heap.Ns L m) (hg : m "grouping" = some (.ref l)) :
    (GenState.fresh (.func (bdyP 4) (genv L cd))).Goes (model prog w) A (RG L s.heap.objs.size out (n + 1)) (YG hB L s.heap.objs.size out (n + 1)) (n + 1) (.send .none) s := by
  refine ⟨rfl, ?_⟩
  have hIB : hB.get? s.heap.objs.size = none := by
    cases q : hB.get? s.heap.objs.size with
    | none => rfl
    | some o => exact absurd (Heap.lt_size (hk _ _ q)) (Nat.lt_irrefl _)
  refine seg_func (seg_execs_cons (seg_wrap (wpAny_Assign_Name (wpAny_Constant_none (wpAny_storeName_local (env := genv L cd) rfl hm (fun h₂ hn₂ hs₂ => ?_) rfl)))))
  have hn₂ : h₂.Ns L (up m "last_interval" .none) := hn₂
  have kB₂ : Keep hB h₂ := fun b o e => hs₂.extBut b o (ne_none hLB e) (hk b o e)
  have hsz : h₂.objs.size = s.heap.objs.size := hs₂.1
  refine seg_execs_cons (seg_For (ldE hn₂ (up_of hg) (wpAny_pyIter_list (hl.at fun o e => kB₂ l o e) fun p => ?_)))
  dsimp only
  rw [hsz]
  have hLI : L ≠ s.heap.objs.size := Nat.ne_of_lt hm.lt
  refine seg_loop W hLI hLB hIB hh hl hi n 0 none .none _ _ (Nat.le_refl _) (fun k => ?_) (.inl ⟨rfl, rfl, h0⟩) ⟨fun b o e => Heap.get?_push_of_some _ (kB₂ b o e), ⟨_, hn₂.push _, up_of hg, up_eq⟩, ⟨_, by rw [← hsz]; exact Heap.get?_push_size _ rfl, rfl, rfl⟩⟩ ⟨⟨_, _, rfl⟩, fun b o h1 h2 e => ?_⟩
  · rw [Nat.sub_self, Nat.zero_add, hout]; rfl
  · exact Heap.get?_push_of_some _ (hs₂.extBut b o h1 e)
end
end Mine
end
section 
open PySem PySem.W PyProof.Rows PySem.Calls PySem.Spec
set_option maxRecDepth 100000
set_option maxHeartbeats 4000000
namespace Mine
theorem allBare_set {gens : Array GenState} {g : Nat} {x : GenState} (h : AllBare gens) (hx : x.bare = true) : AllBare (gens.setIfInBounds g x) := by
  intro y hy
  obtain ⟨i, hi, rfl⟩ := Array.mem_iff_getElem.mp hy
  have hi' : i < gens.size := by simpa using hi
  rw [Array.getElem_setIfInBounds hi']
  split
  · exact hx
  · exact h _ (Array.getElem_mem _)
theorem get_set {gens : Array GenState} {g : Nat} {x y : GenState} (h : gens[g]? = some y) : (gens.setIfInBounds g x)[g]? = some x := by
  obtain ⟨hi, _⟩ := Array.getElem?_eq_some_iff.mp h
  simp [hi]
section
variable {prog : Program} {w : World} {A : Around} {R : Result → Shared → Prop} {s : Shared} {env : Env} {h₀ : Heap} {x : Str} {px : Pos} {body : List Stmt} {mg mb : Str → Option Value}
/-- a loop over the walk, N turns at most -/
theorem for_gen {m₀ : Str → Option Value} {news : List (Addr × Obj)} {ga L l : Addr} {g n : Nat} {cd : Value} {mL : Str → Option Value} {vs : List Value} {ns : List Int} (hh : A.handled = none) (hroom : A.depth < recursionLimit) (W : Wd mg mb h₀)
    (J : Nat → (Str → Option Value) → List (Addr × Obj) → Prop) (mt : List Addr)
    (hLB : h₀.get? L = none) (hl : h₀.IsList l vs.toArray) (hi : IntsAre vs ns) (h0 : ns[0]? ≠ some 0) (hmL : s.heap.Ns L mL) (hgr : mL "grouping" = some (.ref l)) (hLe : L ≠ env.locals)
    (hga : s.heap.IsGen ga g) (hgaL : ga ≠ L) (hgae : ga ≠ env.locals) (hgam : ga ∉ mt) (hgs : s.gens[g]? = some (.fresh (.func (bdyP 4) (genv L cd)))) (hab : AllBare s.gens)
    (hLm : L ∉ mt) (hmt : ∀ a ∈ mt, a < s.heap.objs.size)
    (F : Fr h₀ env.locals s.heap m₀) (N : News h₀ env.locals s.heap news) (hnL : ∀ p ∈ news, p.1 ≠ L) (hJ : J 0 m₀ news)
    (turn : ∀ k y t m₁ nx h tk gg, k < n + 1 → gout ns none k = some y → J k m₁ nx → Fr h₀ env.locals h (up m₁ x (.int y t)) → News h₀ env.locals h nx → (∀ p ∈ nx, p.1 ≠ L ∧ p.1 ≠ s.heap.objs.size) → L < h.objs.size → s.heap.objs.size < h.objs.size → AllBare gg → ∀ E',
      wpAny (model prog w) A (execs body env) (TurnEnd h₀ env.locals R (fun m₂ nx₂ gg' => J (k + 1) m₂ nx₂ ∧ k + 1 < n + 1 ∧ gg' = gg) [L, s.heap.objs.size] mt h s) E' { s with heap := h, toks := tk, gens := gg })
    (done : ∀ k m₁ nx h tk gg, gout ns none k = none → J k m₁ nx → Fr h₀ env.locals h m₁ → News h₀ env.locals h nx → AllBare gg → R (.ok .next) { s with heap := h, toks := tk, gens := gg })
    (hkx : env.kindOf x = some .local := by rfl) (hp : (env.scope.kind == .class || (env.scope.kind == .module && env.locals != env.globals)) = false := by rfl) :
    codeAny (model prog w) A (.forLoop (.Name x px) (.ref ga) body [] env) R s := by
  have hIB : h₀.get? s.heap.objs.size = none := by
    cases q : h₀.get? s.heap.objs.size with
    | none => rfl
    | some o => exact absurd (Heap.lt_size (F.keep _ _ q)) (Nat.lt_irrefl _)
  have hIe : s.heap.objs.size ≠ env.locals := Nat.ne_of_gt F.ns.lt
  have hIm : s.heap.objs.size ∉ mt := fun q => absurd (hmt _ q) (Nat.lt_irrefl _)
  have hLI : L ≠ s.heap.objs.size := Nat.ne_of_lt hmL.lt
  have hgaI : ga ≠ s.heap.objs.size := by obtain ⟨o, _, _, ho, _⟩ := hga; exact Nat.ne_of_lt (Heap.lt_size ho)
  generalize hI : s.heap.objs.size = I at hIB hIe hIm hLI hgaI turn
  refine codeAny_forLoop (fun k' s' => ∃ k h tk gg m₁ nx gs, s' = { s with heap := h, toks := tk, gens := gg } ∧ k < n + 1 ∧ k' = n + 1 - k ∧ AllBare gg ∧ gg[g]? = some gs ∧
      (∀ s'' : Shared, s''.heap = h → gs.Goes (model prog w) A.in1 (RG L I (gout ns none) (n + 1)) (YG h₀ L I (gout ns none) (n + 1)) (n + 1 - k) (.send .none) s'') ∧
      J k m₁ nx ∧ Fr h₀ env.locals h m₁ ∧ News h₀ env.locals h nx ∧ (∀ p ∈ nx, p.1 ≠ L ∧ p.1 ≠ I) ∧ h.IsGen ga g) ?_ (n + 1)
    ⟨0, s.heap, s.toks, s.gens, m₀, news, _, rfl, by omega, rfl, hab, hgs, ?_, hJ, F, N, fun p hp => ⟨hnL p hp, fun e => absurd (Heap.lt_size (N p hp).1) (by rw [e, ← hI]; exact Nat.lt_irrefl _)⟩, hga⟩
  · rintro k' s' ⟨k, h, tk, gg, m₁, nx, gs, rfl, hk, rfl, hbg, hgg, hgo, hJk, Fk, Nk, hnk, hgk⟩
    obtain ⟨d, hd⟩ : ∃ d, n + 1 - k = d + 1 := ⟨n - k, by omega⟩
    have hkd : n + 1 - (d + 1) = k := by omega
    rw [hd] at hgo
    refine pyNext_G (n := d + 1) hh (W.keeps Fk.keep).lim hroom hgk hgg (hgo _ rfl) (fun v s₁ gs' hb hv => ?_) (fun s₁ hP h' hk' => ?_)
    · obtain ⟨y, ty, rfl, hy, K, kB, ⟨hL₁, hI₁⟩, hnext⟩ := hv
      rw [show d + 1 - 1 = d from rfl, hkd] at hy
      obtain ⟨⟨h₁, tk₁, rfl⟩, kk⟩ := K
      dsimp only [Shared.setGen] at kk kB hL₁ hI₁ hnext ⊢
      have F₁ : Fr h₀ env.locals h₁ m₁ := ⟨Fk.ns.at' fun o e => kk _ o (Ne.symm hLe) (Ne.symm hIe) e, kB, Fk.above⟩
      have N₁ : News h₀ env.locals h₁ nx := News.keep Nk fun p hp o e => kk _ _ (hnk p hp).1 (hnk p hp).2 e
      refine wpAny_assign_Name (wpAny_storeName_local hkx F₁.ns (fun h₂ hn₂ hs₂ => ?_) hp)
      have F₂ : Fr h₀ env.locals h₂ (up m₁ x (.int y ty)) := F₁.set hn₂ hs₂
      have N₂ : News h₀ env.locals h₂ nx := N₁.set hs₂
      have hsz : h₂.objs.size = h₁.objs.size := hs₂.1
      refine wpAny_mono (turn k y ty m₁ nx h₂ (tk₁ + 1) _ hk hy hJk F₂ N₂ hnk (hsz ▸ hL₁) (hsz ▸ hI₁) (allBare_set (allBare_set hbg rfl) hb) _) (fun f s₃ ht => ?_) fun _ _ e => e
      cases f with
      | ret v => exact ht
      | brk => exact ht
      | _ =>
        obtain ⟨h', tk', g', m₂, nx₂, rfl, F', N', ⟨hJ', hk1, rfl⟩, hn', hk'⟩ := ht
        refine ⟨n + 1 - (k + 1), by omega, k + 1, h', tk', _, m₂, nx₂, gs', rfl, hk1, rfl, allBare_set (allBare_set hbg rfl) hb, get_set (get_set hgg), fun s'' hs'' => ?_, hJ', F', N', fun p hp => ⟨fun e => hn' p hp (by rw [e]; simp), fun e => hn' p hp (by rw [e]; simp)⟩, ?_⟩
        · rw [show n + 1 - (k + 1) = d by omega]
          exact hnext (by omega) s'' (by rw [hs'']; exact F'.keep) (fun o e => by rw [hs'']; exact hk' _ o hLe hLm (hs₂.extBut _ o hLe e)) (fun o e => by rw [hs'']; exact hk' _ o hIe hIm (hs₂.extBut _ o hIe e))
        · obtain ⟨o, nm, qn, ho, r⟩ := hgk
          exact ⟨o, nm, qn, hk' _ o hgae hgam (hs₂.extBut _ o hgae (kk _ o hgaL hgaI ho)), r⟩
    · obtain ⟨hy, ⟨h₁, tk₁, rfl⟩, kk⟩ := hP
      rw [hkd] at hy
      dsimp only [Shared.setGen] at kk hk' ⊢
      refine wpAny_execs_nil ?_
      refine done k m₁ nx h' tk₁ _ hy hJk ⟨Fk.ns.at' fun o e => hk' _ _ (kk _ o (Ne.symm hLe) (Ne.symm hIe) e), fun b o e => hk' _ _ (kk b o (ne_none hLB e) (ne_none hIB e) (Fk.keep b o e)), Fk.above⟩ (News.keep Nk fun p hp o e => hk' _ _ (kk _ _ (hnk p hp).1 (hnk p hp).2 e)) ?_
      exact allBare_set (allBare_set hbg rfl) rfl
  · intro s'' hs''
    subst hI
    have := goes_start (prog := prog) (w := w) (A := A.in1) (s := s'') (cd := cd) (out := gout ns none) (n := n) W hLB hh hl hi (fun _ => rfl) h0 (by rw [hs'']; exact F.keep) (by rw [hs'']; exact hmL) hgr
    rw [hs''] at this
    exact this
end
end Mine
end
section 
open PySem PySem.W PyProof.Rows PySem.Calls PySem.Spec
set_option maxRecDepth 100000
set_option maxHeartbeats 4000000
namespace Mine
section
variable {prog : Program} {w : World} {A : Around} {R : Result → Shared → Prop} {s : Shared} {mg mb : Str → Option Value}
/-- a walk is made -/
theorem grp_call {v : Value} (W : Wd mg mb s.heap) (hroom : A.depth < recursionLimit)
    (h : ∀ cd h₁ tk ob, h₁.Ns s.heap.objs.size (up m0 "grouping" v) → Keep s.heap h₁ → h₁.objs.size = s.heap.objs.size + 1 → (h₁.push ob).IsGen (s.heap.objs.size + 1) s.gens.size → ob.isFreed = false →
      R (.ok (.ret (.ref (s.heap.objs.size + 1)))) { s with gens := s.gens.push (.fresh (.func (bdyP 4) (genv s.heap.objs.size cd))), toks := tk, heap := h₁.push ob }) :
    codeAny (model prog w) A (.call (.ref 45) ⟨[v], []⟩) R s := by
  obtain ⟨o, pm, cd, doc, h1, h2, h3⟩ := W.fgrp
  refine codeAny_call_generator (fd := docDef "_grouping_intervals" (prmP 4) (bdyP 4) (scpP 4) pm cd doc) (body := bdyP 4) hroom h1 h2 rfl rfl rfl h3 ?_
  have hb : bindArgs (docDef "_grouping_intervals" (prmP 4) (bdyP 4) (scpP 4) pm cd doc) ⟨[v], []⟩ = (pure [(("grouping" : Str), v)] : Sem (List (Str × Value))) := rfl
  rw [hb]
  refine wpAny_pure (wpAny_newFunctionEnv (show ∀ x ∈ (scpP 4).names, x.2 ≠ .cell by decide) (locs (by rfl)) (fun h₁ hns hsb => ?_) rfl)
  have hk : Keep s.heap h₁ := fun b o e => hsb.extBut b o (Nat.ne_of_lt (Heap.lt_size e)) (Heap.get?_push_of_some _ e)
  have hsz : h₁.objs.size = s.heap.objs.size + 1 := by rw [hsb.1, Heap.size_push]
  refine ⟨W.lim.keeps hk, ?_⟩
  rw [bm1] at hns
  have z := h cd h₁ (s.toks + 1 + 1 + 1) { cls := .type "generator", data := .fields #[.int s.gens.size 0, .str "_grouping_intervals" (s.toks + 1), .str "_grouping_intervals" (s.toks + 1 + 1)] } hns hk hsz ⟨_, _, _, by rw [← hsz]; exact Heap.get?_push_size _ rfl, rfl, rfl, rfl⟩ rfl
  rw [← hsz] at z
  exact z
end
end Mine
end
section 
open PySem PySem.W PyProof.Rows PySem.Calls PySem.Spec
set_option maxRecDepth 100000
set_option maxHeartbeats 4000000
namespace Mine
local macro_rules | `(tactic| walk_at "lk") => `(tactic| (repeat (first | exact up_eq | assumption | refine up_of ?_ (by decide))))
section
variable {M : Model} {A : Around} {E : Value → Shared → Prop} {s : Shared} {env : Env}
/-- a call of a def of the text -/
theorem cwF {pos : Pos} {f : Addr} {name : Str} {i : Nat} {e : Expr} {rest : List Expr} {Q : Value → Shared → Prop} (hf : FnIs s.heap f name i)
    (h : wpAny M A (spliced (backTo pos (starEach (e :: rest) env))) (fun vs s₁ => Keep s.heap s₁.heap ∧ codeAny M A (.call (.ref f) ⟨vs, []⟩) (wants Q E) s₁) E s)
    (he : starEach (e :: rest) env = (false, eval e env) :: starEach rest env := by exact Eq.refl _) :
    wpAny M A (callWith pos (.ref f) [] (backTo pos (starEach (e :: rest) env)) []) Q E s := by
  obtain ⟨o, pm, cd, doc, h1, h2, h3⟩ := hf
  exact callWith_def h2 (wpAny_mono h (fun vs s₁ h₁ => ⟨h₁.1 _ _ h1, wpAny_call h₁.2⟩) fun _ _ x => x) he
end
theorem ty_append : typeOf (.builtin "list.append") = pure (.type "method_descriptor") := by kernel_rfl
theorem boot_len : bootBuiltins "len" = some (.builtin "len") := by decide +kernel
def outs (f : Nat → Option Int) : Nat → Nat → List Int
  | _, 0 => []
  | k, d + 1 => match f k with
    | none => []
    | some y => y :: outs f (k + 1) d
def psum (t : Int) : List Int → List Int
  | [] => []
  | y :: r => (t + y) :: psum (t + y) r
theorem psum_snoc (ys : List Int) (t y : Int) : psum t (ys ++ [y]) = psum t ys ++ [t + ys.sum + y] := by
  induction ys generalizing t with
  | nil => simp [psum]
  | cons x r ih => simp only [List.cons_append, psum, ih, List.sum_cons]; congr 3; omega
theorem psum_len (ys : List Int) (t : Int) : (psum t ys).length = ys.length := by
  induction ys generalizing t with
  | nil => rfl
  | cons x r ih => simp [psum, ih]
theorem app_lobj {vs : List Value} {n : Nat} {a : Value} : Obj.mapSeq (fun x => x.push a) (lobj vs n) = lobj (vs ++ [a]) (n + 1) := by
  simp [lobj, Obj.mapSeq]
theorem news_app {h₀ h : Heap} {L rs : Addr} {m : Str → Option Value} {vs : List Value} {n : Nat} (F : Fr h₀ L h m) (N : News h₀ L h [(rs, lobj vs n)]) (a : Value) :
    Fr h₀ L (h.update rs (Obj.mapSeq fun x => x.push a)) m ∧ News h₀ L (h.update rs (Obj.mapSeq fun x => x.push a)) [(rs, lobj (vs ++ [a]) (n + 1))] :=
  news_upd (pre := []) (post := []) F N (fun p hp => by cases hp) (fun p hp => by cases hp) app_lobj rfl
theorem outs_cons {f : Nat → Option Int} {k d : Nat} {y : Int} (h : f k = some y) : outs f k (d + 1) = y :: outs f (k + 1) d := by
  rw [outs, h]
theorem outs_none {f : Nat → Option Int} {k d : Nat} (h : f k = none) : outs f k (d + 1) = [] := by
  rw [outs, h]
section
variable {prog : Program} {w : World} {A : Around} {R : Result → Shared → Prop} {s : Shared} {mg mb : Str → Option Value}
theorem marks_spec {f l : Addr} {vs : List Value} {ns : List Int} {c : Nat} {tc : Tok} (hf : FnIs s.heap f "_law_marks" 11) (W : Wd mg mb s.heap) (hroom : A.depth + 1 < recursionLimit) (hu : A.units + 10 < cLine) (hh : A.handled = none)
    (hl : s.heap.IsList l vs.toArray) (hi : IntsAre vs ns) (h0 : ns[0]? ≠ some 0) (hc : c < 1000) (hab : AllBare s.gens)
    (hR : ∀ r us n h' tk gg, s.heap.get? r = none → h'.get? r = some (lobj us n) → IntsAre us (psum 0 (outs (gout ns none) 0 (c + 1))) → Keep s.heap h' → AllBare gg → R (.ok (.ret (.ref r))) { s with heap := h', toks := tk, gens := gg }) :
    codeAny (model prog w) A (.call (.ref f) ⟨[.ref l, .int (c + 1 : Nat) tc], []⟩) R s := by
  refine call_fn (binds := [("sizes", .ref l), ("count", .int (c + 1 : Nat) tc)]) hf (by omega) W.lim (fun _ _ _ => rfl) (by rfl) fun cd h₁ F => ?_
  rw [bm2] at F
  refine wpAny_execs_cons (wpAny_Assign_Name (List_ (args_nil (newLst ?_))))
  have F₂ := F.push (lobj [] 0)
  have N₂ := (News.nil (h₀ := s.heap) (L := s.heap.objs.size) (h := h₁)).push F (lobj [] 0)
  dsimp only
  generalize hmk : h₁.objs.size = mk at *
  generalize hh₂ : h₁.push (lobj [] 0) = h₂ at *
  refine stU F₂ N₂ fun h₃ F₃ N₃ S₃ => ?_
  refine wpAny_execs_cons (wpAny_Assign_Name (wpAny_Constant_int (stU F₃ N₃ fun h₄ F₄ N₄ S₄ => ?_)))
  have W₄ := W.keeps F₄.keep
  refine wpAny_execs_cons (wpAny_For (Call_ (ldG W₄ W.grp (cwF W₄.fgrp (args_cons (ld F₄ (by walk_at "lk") (args_nil ⟨fun _ _ e => e, grp_call W₄ ?_ ?_⟩)))))))
  · show A.depth + 1 < recursionLimit; exact hroom
  intro gcd h₅ tk₅ ob hns₅ hk₅ hsz₅ hgen hfree
  dsimp only [wants] at hns₅ hk₅ hsz₅ hgen ⊢
  refine wpAny_pyIter_gen hgen ?_
  have hmk4 : mk < h₄.objs.size := Heap.lt_size (N₄.get (.head _))
  have hmks : s.heap.objs.size < h₄.objs.size := F₄.ns.lt
  refine for_gen (L := h₄.objs.size) (n := c) (mt := [mk]) (cd := gcd) (g := s.gens.size) (vs := vs) (ns := ns) hh (by show A.depth + 1 < recursionLimit; exact hroom) W
    (fun k m nx => ∃ T tt Ys vs' n', m "marks" = some (.ref mk) ∧ m "count" = some (.int (c + 1 : Nat) tc) ∧ m "total" = some (.int T tt) ∧ nx = [(mk, lobj vs' n')] ∧ Ys.length = k ∧ outs (gout ns none) 0 (c + 1) = Ys ++ outs (gout ns none) k (c + 1 - k) ∧ IntsAre vs' (psum 0 Ys) ∧ T = Ys.sum)
    ?_ hl hi h0 (hns₅.push _) up_eq (Nat.ne_of_gt hmks) hgen (Nat.succ_ne_self _) (Nat.ne_of_gt (Nat.lt_succ_of_lt hmks)) ?_ (by simp) (hab.push rfl) ?_ ?_ ((F₄.after hk₅).push _) (News.keep N₄ fun p hp o e => Heap.get?_push_of_some _ (hk₅ _ _ e)) ?_ ?_ ?_ ?_
  · cases q : s.heap.get? h₄.objs.size with
    | none => rfl
    | some o => exact absurd (Heap.lt_size (F₄.keep _ _ q)) (Nat.lt_irrefl _)
  · intro q; exact absurd (List.mem_singleton.mp q) (Nat.ne_of_gt (Nat.lt_succ_of_lt hmk4))
  · intro q; exact absurd (List.mem_singleton.mp q) (Nat.ne_of_gt hmk4)
  · intro a ha
    rw [List.mem_singleton.mp ha]
    show mk < (h₅.push ob).objs.size
    rw [Heap.size_push, hsz₅]
    exact Nat.lt_succ_of_lt (Nat.lt_succ_of_lt hmk4)
  · intro p hp
    rw [List.mem_singleton.mp hp]
    exact Nat.ne_of_lt hmk4
  · exact ⟨0, _, [], [], 0, by walk_at "lk", by walk_at "lk", by walk_at "lk", rfl, rfl, rfl, .nil, rfl⟩
  · rintro k y t m₁ nx h tk gg hk hy ⟨T, tt, Ys, vs', n', hm1, hm2, hm3, rfl, hYl, hout, hvs', rfl⟩ Fk Nk hnk hLk hIk hbk E'
    have hlen : vs'.length = k := by rw [hvs'.length, psum_len, hYl]
    have hk1 : outs (gout ns none) k (c + 1 - k) = y :: outs (gout ns none) (k + 1) (c + 1 - (k + 1)) := by
      rw [show c + 1 - k = (c + 1 - (k + 1)) + 1 by omega]; exact outs_cons hy
    refine wpAny_execs_cons (wpAny_AugAssign_Name (ldn (v := .int Ys.sum tt) Fk (by walk_at "lk") (ld (v := .int y t) Fk (by walk_at "lk") (iadd_int (stU Fk Nk fun h₆ F₆ N₆ S₆ => ?_)))))
    dsimp only at S₆ ⊢
    refine wpAny_execs_cons (wpAny_Expr_any (meth1 PySem.F.plainAttrs_list PySem.F.slot_list_append ty_append PySem.F.entry_list_append (ld (v := .ref mk) F₆ (by walk_at "lk") ⟨⟨_, N₆.get (.head _), rfl⟩, fun a e => ⟨_, (Value.ref.inj e) ▸ N₆.get (.head _), rfl⟩, ld (v := .int (Ys.sum + y) tk) F₆ (by walk_at "lk") ?_⟩)))
    refine ⟨⟨_, N₆.get (.head _), rfl⟩, PySem.F.args_list_append_2 _ _, _, list_append mk vs'.toArray n' _ (by rw [sizeLine_eq, List.size_toArray]; omega), N₆.get (.head _), ?_⟩
    obtain ⟨F₇, N₇⟩ := news_app F₆ N₆ (.int (Ys.sum + y) tk)
    dsimp only
    have hb7 : ∀ b o, b ≠ s.heap.objs.size → b ∉ [mk] → h.get? b = some o → (h₆.update mk (Obj.mapSeq fun x => x.push (.int (Ys.sum + y) tk))).get? b = some o := fun b o h1 h2 e =>
      (Heap.get?_update_ne _ _ _ _ (fun (q : b = mk) => h2 (q ▸ .head _))).trans (S₆.extBut b o h1 e)
    generalize h₆.update mk (Obj.mapSeq fun x => x.push (.int (Ys.sum + y) tk)) = h₇ at F₇ N₇ hb7 ⊢
    have W₇ := W.keeps F₇.keep
    have hints : IntsAre (vs' ++ [.int (Ys.sum + y) tk]) (psum 0 (Ys ++ [y])) := by
      rw [psum_snoc, Int.zero_add]
      exact ints_append hvs' (.cons _ _ .nil)
    refine wpAny_execs_cons (wpAny_If (wpAny_isTrue_Compare1 (Call_ (ldB W₇ boot_len (cwB (args_cons (ld (v := .ref mk) F₇ (by walk_at "lk") (args_nil (call_len_list ⟨_, N₇.get (.head _), rfl, _, rfl⟩ ?_ (ld (v := .int (c + 1 : Nat) tc) F₇ (by walk_at "lk") (eq_int (wpAny_truthy_bool ?_))))))))))))
    · rw [List.size_toArray, List.length_append]; simp only [List.length_cons, List.length_nil]; omega
    rw [List.size_toArray, List.length_append, hlen]
    by_cases hkc : k = c
    · rw [if_pos (by subst hkc; simp)]
      refine wpAny_execs_cons (wpAny_Return_some (ld (v := .ref mk) F₇ (by walk_at "lk") ?_))
      refine hR mk _ _ h₇ _ gg (Nk _ (.head _)).2.2 (N₇.get (.head _)) ?_ F₇.keep hbk
      rw [hout, hk1, hkc, Nat.sub_self]
      exact hints
    · rw [if_neg (by simp; omega)]
      refine wpAny_execs_nil (wpAny_execs_nil ?_)
      refine ⟨h₇, _, gg, _, _, rfl, F₇, N₇, ⟨⟨_, _, Ys ++ [y], _, _, by walk_at "lk", by walk_at "lk", by walk_at "lk", rfl, by simp [hYl], ?_, hints, by simp⟩, by omega, rfl⟩, fun p hp => ?_, hb7⟩
      · rw [hout, hk1]; simp
      · rw [List.mem_singleton.mp hp]
        have := hnk _ (.head _)
        simp only [List.mem_cons, List.not_mem_nil, or_false, not_or]
        exact this
  · rintro k m₁ nx h' tk gg hy ⟨T, tt, Ys, vs', n', hm1, hm2, hm3, rfl, hYl, hout, hvs', rfl⟩ Fk Nk hbk
    dsimp only
    refine wpAny_execs_cons (wpAny_Return_some (ld (v := .ref mk) Fk hm1 ?_))
    refine hR mk _ _ h' _ gg (Nk _ (.head _)).2.2 (Nk.get (.head _)) ?_ Fk.keep hbk
    rw [hout]
    have : outs (gout ns none) k (c + 1 - k) = [] := by
      cases hd : c + 1 - k with
      | zero => rfl
      | succ d => exact outs_none hy
    rw [this, List.append_nil]
    exact hvs'
end
end Mine
end
section 
open PySem PySem.W PyProof.Rows PySem.Calls PySem.Spec
set_option maxRecDepth 100000
set_option maxHeartbeats 4000000
namespace Mine
/-- the order of two lists of ints, as the codes of the operators go -/
def lexB (c : Nat) : List Int → List Int → Bool
  | x :: r, y :: t => if x = y then lexB c r t else if c = 0 then decide (x < y) else if c = 4 then decide (y < x) else true
  | [], [] => false
  | [], _ :: _ => if c = 0 then true else if c = 4 then false else true
  | _ :: _, [] => if c = 0 then false else if c = 4 then true else true
section
variable {l b : Addr} {items items2 : Array Value} {k1 k2 : Nat}
abbrev twoL (l b : Addr) (items items2 : Array Value) (k1 k2 : Nat) (v : Bool) : PySem.Spec := fun _ R s => s.heap.get? l = some { cls := .type "list", dict := none, data := .seq items k1, slots := #[] } ∧ s.heap.get? b = some { cls := .type "list", dict := none, data := .seq items2 k2, slots := #[] } ∧ R (.ok (.ret (.bool v))) s
theorem rich_lt {prog : Program} {w : World} {A : Around} {E : Value → Shared → Prop} {s : Shared} {Q : Value → Shared → Prop} {x y : Int} {t u : Tok} (h : Q (.bool (decide (x < y))) s) : wpAny (model prog w) A (richCompare .Lt (.int x t) (.int y u)) Q E s := lt_int h
theorem rich_gt {prog : Program} {w : World} {A : Around} {E : Value → Shared → Prop} {s : Shared} {Q : Value → Shared → Prop} {x y : Int} {t u : Tok} (h : Q (.bool (decide (y < x))) s) : wpAny (model prog w) A (richCompare .Gt (.int x t) (.int y u)) Q E s := gt_int h
theorem cmp_step {i c : Nat} {x y : Int} {t u : Tok} {v : Bool} (h1 : items[i]? = some (.int x t)) (h2 : items2[i]? = some (.int y u)) (hc : c = 0 ∨ c = 4 ∨ c = 3)
    (hne : x ≠ y → v = if c = 0 then decide (x < y) else if c = 4 then decide (y < x) else true)
    (next : x = y → Meets (Builtin.«list.__eq__.loop» ⟨[.ref l, .ref b, rawInt (i + 1 : Nat), rawInt c], []⟩) (twoL l b items items2 k1 k2 v)) :
    Meets (Builtin.«list.__eq__.loop» ⟨[.ref l, .ref b, rawInt i, rawInt c], []⟩) (twoL l b items items2 k1 k2 v) := by
  intro prog w A R s h
  obtain ⟨hp, g, d, tk, os⟩ := s; obtain ⟨hl, hb, h⟩ := h
  have hi1 : items[((i : Nat) : Int).toNat]? = some (.int x t) := by simpa using h1
  have hi2 : items2[((i : Nat) : Int).toNat]? = some (.int y u) := by simpa using h2
  have hcc : ((i : Int) + 1) = ((i + 1 : Nat) : Int) := by push_cast; rfl
  rcases hc with rfl | rfl | rfl
  all_goals
    wp_walk using wpAny_loadPart' hl, wpAny_loadPart' hb
    rw [hi1, hi2]
    refine wpAny_bind (wpAny_eqBool_int ?_)
    by_cases hxy : x = y
    · rw [show (x == y) = true by simp [hxy]]
      wp_walk
      rw [hcc]
      exact ⟨plainId_quiet MeetsSeq3.plain_eq_loop _, codeAny_builtin MeetsSeq3.entry_eq_loop (by
        rw [Around.under_plainId MeetsSeq3.plain_eq_loop _]
        exact next hxy prog w A R _ ⟨hl, hb, h⟩)⟩
    · rw [show (x == y) = false by simpa using hxy]
      rw [hne hxy] at h
      wp_walk using wpAny_loadPart' hl, wpAny_loadPart' hb
      rw [hi1, hi2]
      first
        | ((with_reducible show wpAny _ _ (richCompare CmpOp.Lt _ _ >>= _) _ _ _); refine wpAny_bind (rich_lt ?_); exact wpAny_pure h)
        | ((with_reducible show wpAny _ _ (richCompare CmpOp.Gt _ _ >>= _) _ _ _); refine wpAny_bind (rich_gt ?_); exact wpAny_pure h)
        | exact wpAny_pure h
theorem cmp_end {i c : Nat} {v : Bool} (h1 : items[i]? = none ∨ items2[i]? = none) (hc : c = 0 ∨ c = 4 ∨ c = 3)
    (hv : v = if c = 0 then decide (items.size < items2.size) else if c = 4 then decide (items2.size < items.size) else items.size != items2.size) :
    Meets (Builtin.«list.__eq__.loop» ⟨[.ref l, .ref b, rawInt i, rawInt c], []⟩) (twoL l b items items2 k1 k2 v) := by
  intro prog w A R s h
  obtain ⟨hp, g, d, tk, os⟩ := s; obtain ⟨hl, hb, h⟩ := h
  rw [hv] at h
  have hi : (((i : Nat) : Int)).toNat = i := by simp
  rcases hc with rfl | rfl | rfl
  all_goals
    wp_walk using wpAny_loadPart' hl, wpAny_loadPart' hb
    rw [hi]
    rcases h1 with h1 | h1
    · rw [h1]
      wp_walk using wpAny_loadPart' hl, wpAny_loadPart' hb
      exact h
    · rw [h1]
      cases items[i]? with
      | none =>
        wp_walk using wpAny_loadPart' hl, wpAny_loadPart' hb
        exact h
      | some x =>
        wp_walk using wpAny_loadPart' hl, wpAny_loadPart' hb
        exact h
end
theorem lexB_nil {c : Nat} {xs ys : List Int} (h : xs = [] ∨ ys = []) (hc : c = 0 ∨ c = 4 ∨ c = 3) : lexB c xs ys = if c = 0 then decide (xs.length < ys.length) else if c = 4 then decide (ys.length < xs.length) else xs.length != ys.length := by
  rcases h with rfl | rfl
  · cases ys <;> rcases hc with rfl | rfl | rfl <;> simp [lexB]
  · cases xs <;> rcases hc with rfl | rfl | rfl <;> simp [lexB]
theorem cmp_loop {l b : Addr} {vs us : List Value} {xs ys : List Int} {k1 k2 c : Nat} (hx : IntsAre vs xs) (hy : IntsAre us ys) (hc : c = 0 ∨ c = 4 ∨ c = 3) :
    ∀ d i, xs.length - i = d → i ≤ xs.length → i ≤ ys.length → Meets (Builtin.«list.__eq__.loop» ⟨[.ref l, .ref b, rawInt i, rawInt c], []⟩) (twoL l b vs.toArray us.toArray k1 k2 (lexB c (xs.drop i) (ys.drop i))) := by
  intro d
  induction d with
  | zero =>
    intro i h1 h2 h3
    have hi : i = xs.length := by omega
    have e1 : xs.drop i = [] := by rw [hi]; simp
    refine cmp_end (.inl ?_) hc ?_
    · simp [hx.length]; omega
    · rw [lexB_nil (.inl e1) hc, List.length_drop, List.length_drop, List.size_toArray, List.size_toArray, hx.length, hy.length]
      have a1 : (decide (xs.length - i < ys.length - i)) = decide (xs.length < ys.length) := by simp only [decide_eq_decide]; omega
      have a2 : (decide (ys.length - i < xs.length - i)) = decide (ys.length < xs.length) := by simp only [decide_eq_decide]; omega
      have a3 : (xs.length - i != ys.length - i) = (xs.length != ys.length) := by
        rw [Bool.eq_iff_iff]; simp only [bne_iff_ne, ne_eq]; omega
      rw [a1, a2, a3]
  | succ d ih =>
    intro i h1 h2 h3
    by_cases hy3 : i = ys.length
    · have e2 : ys.drop i = [] := by rw [hy3]; simp
      refine cmp_end (.inr ?_) hc ?_
      · simp [hy.length]; omega
      · rw [lexB_nil (.inr e2) hc, List.length_drop, List.length_drop, List.size_toArray, List.size_toArray, hx.length, hy.length]
        have a1 : (decide (xs.length - i < ys.length - i)) = decide (xs.length < ys.length) := by simp only [decide_eq_decide]; omega
        have a2 : (decide (ys.length - i < xs.length - i)) = decide (ys.length < xs.length) := by simp only [decide_eq_decide]; omega
        have a3 : (xs.length - i != ys.length - i) = (xs.length != ys.length) := by
          rw [Bool.eq_iff_iff]; simp only [bne_iff_ne, ne_eq]; omega
        rw [a1, a2, a3]
    · have hix : i < xs.length := by omega
      have hiy : i < ys.length := by omega
      obtain ⟨t, ht⟩ := hx.get i xs[i] (List.getElem?_eq_some_iff.mpr ⟨hix, rfl⟩)
      obtain ⟨u, hu⟩ := hy.get i ys[i] (List.getElem?_eq_some_iff.mpr ⟨hiy, rfl⟩)
      have e : lexB c (xs.drop i) (ys.drop i) = if xs[i] = ys[i] then lexB c (xs.drop (i + 1)) (ys.drop (i + 1)) else if c = 0 then decide (xs[i] < ys[i]) else if c = 4 then decide (ys[i] < xs[i]) else true := by
        rw [List.drop_eq_getElem_cons hix, List.drop_eq_getElem_cons hiy]; rfl
      refine cmp_step (x := xs[i]) (y := ys[i]) (t := t) (u := u) (by simpa using ht) (by simpa using hu) hc (fun hne => by rw [e, if_neg hne]) fun heq => ?_
      rw [e, if_pos heq]
      exact ih (i + 1) (by omega) (by omega) (by omega)
end Mine
end
section 
open PySem PySem.W PyProof.Rows PySem.Calls PySem.Spec
set_option maxRecDepth 100000
set_option maxHeartbeats 4000000
namespace Mine
section
variable {l b : Addr} {vs us : List Value} {xs ys : List Int} {k1 k2 : Nat}
theorem meets_gt (hx : IntsAre vs xs) (hy : IntsAre us ys) : Meets (Builtin.«list.__gt__» ⟨[.ref l, .ref b], []⟩) (twoL l b vs.toArray us.toArray k1 k2 (lexB 4 xs ys)) := by
  intro prog w A R s h
  obtain ⟨hp, g, d, tk, os⟩ := s; obtain ⟨hl, hb, h⟩ := h
  have f3 := AutoSeq1.sub_list_list
  wp_walk using wpAny_loadPart' hl, wpAny_loadPart' hb
  exact ⟨plainId_quiet MeetsSeq3.plain_eq_loop _, codeAny_builtin MeetsSeq3.entry_eq_loop (by
    rw [Around.under_plainId MeetsSeq3.plain_eq_loop _]
    exact cmp_loop (c := 4) hx hy (.inr (.inl rfl)) _ 0 rfl (Nat.zero_le _) (Nat.zero_le _) prog w A R _ ⟨hl, hb, h⟩)⟩
theorem meets_lt (hx : IntsAre vs xs) (hy : IntsAre us ys) : Meets (Builtin.«list.__lt__» ⟨[.ref l, .ref b], []⟩) (twoL l b vs.toArray us.toArray k1 k2 (lexB 0 xs ys)) := by
  intro prog w A R s h
  obtain ⟨hp, g, d, tk, os⟩ := s; obtain ⟨hl, hb, h⟩ := h
  have f3 := AutoSeq1.sub_list_list
  wp_walk using wpAny_loadPart' hl, wpAny_loadPart' hb
  exact ⟨plainId_quiet MeetsSeq3.plain_eq_loop _, codeAny_builtin MeetsSeq3.entry_eq_loop (by
    rw [Around.under_plainId MeetsSeq3.plain_eq_loop _]
    exact cmp_loop (c := 0) hx hy (.inl rfl) _ 0 rfl (Nat.zero_le _) (Nat.zero_le _) prog w A R _ ⟨hl, hb, h⟩)⟩
theorem meets_ne (hx : IntsAre vs xs) (hy : IntsAre us ys) : Meets (Builtin.«list.__ne__» ⟨[.ref l, .ref b], []⟩) (twoL l b vs.toArray us.toArray k1 k2 (xs != ys)) := by
  intro prog w A R s h
  obtain ⟨hp, g, d, tk, os⟩ := s; obtain ⟨hl, hb, h⟩ := h
  have f3 := AutoSeq1.sub_list_list
  by_cases hs : vs.length = us.length
  · have hne : ¬ (vs.toArray.size != us.toArray.size) = true := by simp [hs]
    have e : (xs != ys) = lexB 3 xs ys := by
      have hs' : xs.length = ys.length := by rw [← hx.length, ← hy.length, hs]
      clear h hx hy hl hb hne hs f3
      induction xs generalizing ys with
      | nil => cases ys with
        | nil => rfl
        | cons => simp at hs'
      | cons x r ih => cases ys with
        | nil => simp at hs'
        | cons y t =>
          have := ih (ys := t) (by simpa using hs')
          simp only [lexB]
          by_cases hxy : x = y
          · subst hxy; rw [if_pos rfl, ← this]; simp [bne]
          · simp [hxy]
    rw [e] at h
    wp_walk using wpAny_loadPart' hl, wpAny_loadPart' hb
    exact ⟨plainId_quiet MeetsSeq3.plain_eq_loop _, codeAny_builtin MeetsSeq3.entry_eq_loop (by
      rw [Around.under_plainId MeetsSeq3.plain_eq_loop _]
      exact cmp_loop (c := 3) hx hy (.inr (.inr rfl)) _ 0 rfl (Nat.zero_le _) (Nat.zero_le _) prog w A R _ ⟨hl, hb, h⟩)⟩
  · have hne : (vs.toArray.size != us.toArray.size) = true := by simpa using hs
    have e : (xs != ys) = true := by
      rw [bne_iff_ne]
      rintro rfl
      exact hs (by rw [hx.length, hy.length])
    rw [e] at h
    wp_walk using wpAny_loadPart' hl, wpAny_loadPart' hb
    exact h
end
section
variable {prog : Program} {w : World} {A : Around} {E : Value → Shared → Prop} {s : Shared} {Q : Value → Shared → Prop} {l b : Addr} {vs us : List Value} {xs ys : List Int} {k1 k2 : Nat}
theorem gt_ints (hu : A.units < cLine) (hl : s.heap.get? l = some (lobj vs k1)) (hb : s.heap.get? b = some (lobj us k2)) (hx : IntsAre vs xs) (hy : IntsAre us ys) (h : Q (.bool (lexB 4 xs ys)) s) : wpAny (model prog w) A (compareOp .Gt (.ref l) (.ref b)) Q E s :=
  richCompare_meets_room (op := .Gt) ⟨_, hl, rfl⟩ ⟨_, hb, rfl⟩ PySem.F.slot_list_gt PySem.F.entry_list_gt (PySem.F.args_list_gt_2 _ _) (meets_gt hx hy) ⟨hl, hb, nofun, h⟩ hu
theorem lt_ints (hu : A.units < cLine) (hl : s.heap.get? l = some (lobj vs k1)) (hb : s.heap.get? b = some (lobj us k2)) (hx : IntsAre vs xs) (hy : IntsAre us ys) (h : Q (.bool (lexB 0 xs ys)) s) : wpAny (model prog w) A (compareOp .Lt (.ref l) (.ref b)) Q E s :=
  richCompare_meets_room (op := .Lt) ⟨_, hl, rfl⟩ ⟨_, hb, rfl⟩ PySem.F.slot_list_lt PySem.F.entry_list_lt (PySem.F.args_list_lt_2 _ _) (meets_lt hx hy) ⟨hl, hb, nofun, h⟩ hu
theorem ne_ints (hu : A.units < cLine) (hl : s.heap.get? l = some (lobj vs k1)) (hb : s.heap.get? b = some (lobj us k2)) (hx : IntsAre vs xs) (hy : IntsAre us ys) (h : Q (.bool (xs != ys)) s) : wpAny (model prog w) A (compareOp .NotEq (.ref l) (.ref b)) Q E s :=
  richCompare_meets_room (op := .NotEq) ⟨_, hl, rfl⟩ ⟨_, hb, rfl⟩ PySem.F.slot_list_ne PySem.F.entry_list_ne (PySem.F.args_list_ne_2 _ _) (meets_ne hx hy) ⟨hl, hb, nofun, h⟩ hu
end
def sgnI (n m : Int) : Int := if m < n then 1 else if n < m then -1 else 0
section
variable {prog : Program} {w : World} {A : Around} {R : Result → Shared → Prop} {s : Shared} {mg mb : Str → Option Value}
theorem coll_ints {l b : Addr} {vs us : List Value} {n m : Int} {k1 k2 : Nat} (W : Wd mg mb s.heap) (hroom : A.depth < recursionLimit) (hu : A.units + 10 < cLine)
    (hl : s.heap.get? l = some (lobj vs k1)) (hb : s.heap.get? b = some (lobj us k2)) (hx : IntsAre vs [100, n]) (hy : IntsAre us [100, m])
    (h : ∀ h' tk t, Keep s.heap h' → R (.ok (.ret (.int (sgnI n m) t))) { s with heap := h', toks := tk }) :
    codeAny (model prog w) A (.call (.ref 38) ⟨[.ref l, .ref b], []⟩) R s := by
  refine call_fn (binds := [("a", .ref l), ("b", .ref b)]) W.fcoll hroom W.lim (fun _ _ _ => rfl) (by rfl) fun cd h₁ F => ?_
  rw [bm2] at F
  have hu' : (A.deeper (envOf "_strcoll" (scpP 2) s.heap.objs.size 38 cd)).units < cLine := by rw [Around.deeper_units]; omega
  refine wpAny_execs_cons (wpAny_Return_some (wpAny_BinOp (wpAny_Compare1 ?_)))
  refine ld (v := .ref l) F (up_of up_eq) (ld (v := .ref b) F up_eq ?_)
  refine gt_ints hu' (F.keep _ _ hl) (F.keep _ _ hb) hx hy ?_
  refine wpAny_Compare1 (ld (v := .ref l) F (up_of up_eq) (ld (v := .ref b) F up_eq ?_))
  refine lt_ints hu' (F.keep _ _ hl) (F.keep _ _ hb) hx hy ?_
  refine sub_bool ?_
  have e : b2i (lexB 4 [100, n] [100, m]) - b2i (lexB 0 [100, n] [100, m]) = sgnI n m := by
    simp only [lexB, sgnI]
    by_cases h1 : n = m
    · subst h1; simp [b2i]
    · rcases Int.lt_or_gt_of_ne h1 with h2 | h2
      · have h3 : ¬ m < n := by omega
        simp [h1, h2, h3, b2i]
      · have h3 : ¬ n < m := by omega
        simp [h1, h2, h3, b2i]
  rw [e]
  exact h _ _ _ F.keep
end
end Mine
end
section 
open PySem PySem.W PyProof.Rows PySem.Calls PySem.Spec
set_option maxRecDepth 100000
set_option maxHeartbeats 4000000
namespace Mine
theorem none_of_ge {h : Heap} {a : Addr} (ha : h.objs.size ≤ a) : h.get? a = none := by
  cases e : h.get? a with
  | none => rfl
  | some o' => exact absurd (Heap.lt_size e) (Nat.not_lt.mpr ha)
section
variable {prog : Program} {w : World} {A : Around} {R : Result → Shared → Prop} {s : Shared}
/-- what one element leaves: the new objects are free of what the loop itself writes -/
def Elt (h : Heap) (C : Addr) (off : List Addr) (h₁ : Heap) (F : Value → Heap → Prop) (s₁ : Shared) (y : Value) (s' : Shared) : Prop :=
  ∃ h' tk', s' = { s₁ with heap := h', toks := tk' } ∧ (∀ b o, b ≠ C → h.get? b = some o → h'.get? b = some o) ∧ (∃ m', h'.Ns C m') ∧
    ∀ h'', (∀ b o, h.get? b = none → h'.get? b = some o → h''.get? b = some o) → (∀ b o, b ∉ off → h₁.get? b = some o → h''.get? b = some o) → F y h''
theorem comp_loop {elt target iter : Expr} {scope : Scope} {pos : Pos} {I ax D : Addr} {cenv : Env} {items : Array Value} {m : Str → Option Value} {off : List Addr} {h₁ : Heap} (F : Nat → Value → Heap → Prop)
    (hh : A.handled = none) (hax : ax ≠ I) (hDI : D ≠ I) (hDC : D ≠ cenv.locals) (hIC : I ≠ cenv.locals) (haC : ax ≠ cenv.locals) (haD : ax ≠ D)
    (h1I : h₁.get? I = none) (h1D : h₁.get? D = none) (h1C : h₁.get? cenv.locals = none) (hk₁ : Keep h₁ s.heap) (hoff : ∀ b ∈ off, ∃ o, h₁.get? b = some o)
    (hit : s.heap.IsListIter I ax 0) (hl : s.heap.IsList ax items) (hacc : s.heap.PlainList D #[]) (hn : s.heap.Ns cenv.locals m)
    (hlet : ∀ i v s' (Q : Unit → Shared → Prop) E', items[i]? = some v → s'.heap.IsListIter I ax (i + 1) → Q () s' → wpAny (model prog w) A (letOwnedTupleGo target (.ref I) v) Q E' s')
    (helt : ∀ i v h tk m₃ E', items[i]? = some v → h.Ns cenv.locals m₃ → Keep h₁ h →
      wpAny (model prog w) A (assign target cenv v) (fun _ s₄ => wpAny (model prog w) A (eval elt cenv) (Elt h cenv.locals off h₁ (F i) s) E' s₄) E' { s with heap := h, toks := tk })
    (hR : ∀ h' tk m' ys, h'.Ns cenv.locals m' → h'.PlainList D (List.toArray ys) → ys.length = items.size →
      (∀ h'', (∀ b o, h₁.get? b = none → b ≠ cenv.locals → b ≠ I → b ≠ D → h'.get? b = some o → h''.get? b = some o) → (∀ b o, b ∉ off → h₁.get? b = some o → h''.get? b = some o) → ∀ i y, ys[i]? = some y → F i y h'') →
      Keep h₁ h' → R (.ok .next) { s with heap := h', toks := tk })
    (hsz : items.size ≤ sizeLine := by size_fits) :
    codeAny (model prog w) A (.compLoop (.ListComp elt [⟨target, iter, [], 0⟩] scope pos) 0 (.ref I) (.ref D) cenv) R s := by
  have n1 : ∀ {b c o}, h₁.get? c = none → h₁.get? b = some o → b ≠ c := fun hc e q => by rw [q, hc] at e; cases e
  refine kcp_loop
    (fun k s' => ∃ h' tk m' ys i, s' = { s with heap := h', toks := tk } ∧ h'.IsListIter I ax i ∧ h'.IsList ax items ∧ h'.PlainList D (List.toArray ys) ∧ h'.Ns cenv.locals m' ∧
      ys.length = i ∧ i ≤ items.size ∧ k = items.size + 1 - i ∧ Keep h₁ h' ∧
      (∀ h'', (∀ b o, h₁.get? b = none → b ≠ cenv.locals → b ≠ I → b ≠ D → h'.get? b = some o → h''.get? b = some o) → (∀ b o, b ∉ off → h₁.get? b = some o → h''.get? b = some o) → ∀ i y, ys[i]? = some y → F i y h'')) ?_ (items.size + 1)
    ⟨s.heap, s.toks, m, [], 0, rfl, hit, hl, hacc, hn, rfl, Nat.zero_le _, rfl, hk₁, fun _ _ _ i y e => by simp at e⟩
  rintro k s' ⟨H, tk, m', ys, i, rfl, hit', hl', hacc', hn', hlen, hi, rfl, hk, hF⟩
  cases hv : items[i]? with
  | none =>
    have hsz : items.size ≤ i := by simpa using hv
    refine wpAny_pyNext_list_end hh hit' hl' hv fun h₂ he₂ => ?_
    exact hR h₂ tk m' ys (hn'.extBut he₂ (Ne.symm hIC)) (hacc'.at fun o e => he₂ _ o hDI e) (by omega)
      (fun h'' k1 k2 => hF h'' (fun b o e1 hc hI hD e => k1 b o e1 hc hI hD (he₂ b o hI e)) k2) fun b o e => he₂ b o (n1 h1I e) (hk b o e)
  | some v =>
    have hlt : i < items.size := (Array.getElem?_eq_some_iff.mp hv).1
    refine wpAny_pyNext_list_item hit' hl' hv fun h₂ hit₂ hs₂ => ?_
    refine hlet i v _ _ _ hv hit₂ ?_
    have hn₂ : h₂.Ns cenv.locals m' := hn'.sameBut hs₂ (Ne.symm hIC)
    have hk₂ : Keep h₁ h₂ := fun b o e => hs₂.extBut b o (n1 h1I e) (hk b o e)
    refine wpAny_mono (helt i v h₂ tk m' _ hv hn₂ hk₂) (fun _ s₄ h₄ => wpAny_mono h₄ (fun y s₅ h₅ => ?_) fun _ _ e => e) fun _ _ e => e
    obtain ⟨h₅, tk₅, rfl, hk₅, ⟨m₅, hn₅⟩, hF₅⟩ := h₅
    have hacc₅ : h₅.PlainList D (List.toArray ys) := hacc'.at fun o e => hk₅ _ o hDC (hs₂.extBut _ o hDI e)
    refine wpAny_list_append_plain (hsz := by simp; omega) hacc₅ fun h₆ hl₆ hs₆ => ?_
    have hk₆ : Keep h₁ h₆ := fun b o e => hs₆.extBut b o (n1 h1D e) (hk₅ b o (n1 h1C e) (hk₂ b o e))
    refine ⟨items.size + 1 - (i + 1), by omega, h₆, tk₅, _, ys ++ [y], i + 1, rfl, ?_, ?_, ?_, hn₅.sameBut hs₆ (Ne.symm hDC), by simp [hlen], hlt, rfl, hk₆, ?_⟩
    · exact hit₂.at fun o e => hs₆.extBut _ o (Ne.symm hDI) (hk₅ _ o hIC e)
    · exact hl'.at fun o e => hs₆.extBut _ o haD (hk₅ _ o haC (hs₂.extBut _ o hax e))
    · simpa using hl₆
    · intro h'' k1 k2 j z hz
      by_cases hj : j < i
      · rw [List.getElem?_append_left (by omega)] at hz
        exact hF h'' (fun b o e1 hc hI hD e => k1 b o e1 hc hI hD (hs₆.extBut b o hD (hk₅ b o hc (hs₂.extBut b o hI e)))) k2 j z hz
      · have hj' : j = i := by
          have : (ys ++ [y])[j]? = some z := hz
          have := (List.getElem?_eq_some_iff.mp this).1
          simp at this; omega
        subst hj'
        rw [List.getElem?_append_right (by omega), hlen, Nat.sub_self] at hz
        obtain rfl : y = z := by simpa using hz
        refine hF₅ h'' (fun b o e0 e => ?_) k2
        have hbC : b ≠ cenv.locals := fun q => by
          obtain ⟨_, _, _, ho, _⟩ := hn₂; rw [q, ho] at e0; cases e0
        have hbI : b ≠ I := fun q => by
          obtain ⟨_, ho, _⟩ := hit₂; rw [q, ho] at e0; cases e0
        have hbD : b ≠ D := fun q => by
          obtain ⟨_, ho⟩ := hacc'; rw [q, hs₂.extBut _ _ hDI ho] at e0; cases e0
        refine k1 b o ?_ hbC hbI hbD (hs₆.extBut b o hbD e)
        cases q : h₁.get? b with
        | none => rfl
        | some o' => rw [hk₂ b o' q] at e0; cases e0
end
end Mine
end
section 
open PySem PySem.W PyProof.Rows PySem.Calls PySem.Spec
set_option maxRecDepth 100000
set_option maxHeartbeats 4000000
namespace Mine
section
variable {prog : Program} {w : World} {A : Around} {E : Value → Shared → Prop} {R : Result → Shared → Prop} {s₁ : Shared} {env : Env}
theorem comp_block {elt target iter : Expr} {scope : Scope} {cl : List (Str × Addr)} {pos : Pos} {ax : Addr} {items : Array Value} {off : List Addr} {RR : Value → Addr → Result → Shared → Prop} (F : Nat → Value → Heap → Prop)
    (hh : A.handled = none) (hcell : ∀ y ∈ scope.names, y.2 ≠ .cell) (hkind : scope.kind = .function) (hl : s₁.heap.IsList ax items) (hsz : items.size ≤ sizeLine) (hoff : ∀ b ∈ off, ∃ o, s₁.heap.get? b = some o)
    (hlet : ∀ I i v s' (Q : Unit → Shared → Prop) E', items[i]? = some v → s'.heap.IsListIter I ax (i + 1) → Q () s' → wpAny (model prog w) A (letOwnedTupleGo target (.ref I) v) Q E' s')
    (helt : ∀ C i v h tk m₃ E', items[i]? = some v → h.Ns C m₃ → Keep s₁.heap h → s₁.heap.get? C = none →
      wpAny (model prog w) A (assign target (compEnvC scope cl C env) v) (fun _ s₄ => wpAny (model prog w) A (eval elt (compEnvC scope cl C env)) (Elt h C off s₁.heap (F i) s₁) E' s₄) E' { s₁ with heap := h, toks := tk })
    (hRR : ∀ D C h' tk m' ys n, s₁.heap.get? D = none → s₁.heap.get? C = none → D ≠ C → h'.Ns C m' → h'.get? D = some (lobj ys n) → ys.length = items.size →
      (∀ h'', (∀ b o, s₁.heap.get? b = none → b ≠ C → b ≠ D → h'.get? b = some o → h''.get? b = some o) → (∀ b o, b ∉ off → s₁.heap.get? b = some o → h''.get? b = some o) → ∀ i y, ys[i]? = some y → F i y h'') →
      Keep s₁.heap h' → RR (.ref D) C (.ok .next) { s₁ with heap := h', toks := tk }) :
    wpAny (model prog w) A (pyIter (.ref ax)) (fun it s₂ => wpAny (model prog w) A (newList []) (fun acc s₃ => wpAny (model prog w) A (newFunctionEnv scope env.globals cl [] env.qual none .none (some env)) (fun cenv s₄ =>
      codeAny (model prog w) A (.compStart (.ListComp elt [⟨target, iter, [], 0⟩] scope pos) 0 it acc { cenv with scope := relabel scope env }) (RR acc cenv.locals) s₄) E s₃) E s₂) E s₁ := by
  obtain ⟨ol, hol, hol'⟩ := id hl
  have hax : ax < s₁.heap.objs.size := Heap.lt_size hol
  refine wpAny_pyIter_list hl (wpAny_newObj_type (hd := by size_fits) (wpAny_newFunctionEnv hcell (by intro y hy; simp at hy) (fun h₁ hns₁ hsb₁ => ?_) hkind))
  dsimp only at hns₁ hsb₁ ⊢
  generalize hH1 : s₁.heap.push { cls := .type "list_iterator", data := .fields #[.ref ax, .int 0 0] } = H1 at hns₁ hsb₁ ⊢
  have hD : H1.objs.size = s₁.heap.objs.size + 1 := by rw [← hH1, Heap.size_push]
  generalize hH2 : H1.push { cls := .type "list", dict := none, data := .seq ([] : List Value).toArray } = H2 at hns₁ hsb₁ ⊢
  have hC : H2.objs.size = s₁.heap.objs.size + 2 := by rw [← hH2, Heap.size_push, hD]
  have hDI : H1.objs.size ≠ s₁.heap.objs.size := by rw [hD]; exact Nat.succ_ne_self _
  have hDC : H1.objs.size ≠ H2.objs.size := by rw [hD, hC]; exact Nat.ne_of_lt (Nat.lt_succ_self _)
  have hIC : s₁.heap.objs.size ≠ H2.objs.size := by rw [hC]; exact Nat.ne_of_lt (Nat.lt_succ_of_lt (Nat.lt_succ_self _))
  have below : ∀ b, b < s₁.heap.objs.size → b ≠ H2.objs.size ∧ b ≠ s₁.heap.objs.size ∧ b ≠ H1.objs.size := fun b hb =>
    ⟨by rw [hC]; exact Nat.ne_of_lt (Nat.lt_succ_of_lt (Nat.lt_succ_of_lt hb)), Nat.ne_of_lt hb, by rw [hD]; exact Nat.ne_of_lt (Nat.lt_succ_of_lt hb)⟩
  have old : Keep s₁.heap h₁ := fun b o e =>
    hsb₁.extBut b o (below b (Heap.lt_size e)).1 (Heap.get?_push_of_some _ (hH2 ▸ Heap.get?_push_of_some _ (hH1 ▸ Heap.get?_push_of_some _ e)))
  have hit : h₁.IsListIter s₁.heap.objs.size ax 0 :=
    ⟨_, hsb₁.extBut _ _ hIC (Heap.get?_push_of_some _ (hH2 ▸ Heap.get?_push_of_some _ (hH1 ▸ Heap.get?_push_size _ rfl))), rfl, rfl⟩
  have hacc : h₁.PlainList H1.objs.size #[] := ⟨_, hsb₁.extBut _ _ hDC (Heap.get?_push_of_some _ (hH2 ▸ Heap.get?_push_size _ rfl))⟩
  have hl₁ : h₁.IsList ax items := ⟨ol, old _ _ hol, hol'⟩
  have nD : s₁.heap.get? H1.objs.size = none := none_of_ge (by rw [hD]; exact Nat.le_succ _)
  have nC : s₁.heap.get? H2.objs.size = none := none_of_ge (by rw [hC]; exact Nat.le_add_right _ 2)
  have loop : ∀ s₂ : Shared, s₂ = { s₁ with heap := h₁, toks := s₁.toks + ([] : List (Str × Value)).length } →
      codeAny (model prog w) A (.compLoop (.ListComp elt [⟨target, iter, [], 0⟩] scope pos) 0 (.ref s₁.heap.objs.size) (.ref H1.objs.size) (compEnvC scope cl H2.objs.size env))
        (RR (.ref H1.objs.size) H2.objs.size) s₂ := by
    rintro s₂ rfl
    refine comp_loop (cenv := compEnvC scope cl H2.objs.size env) (h₁ := s₁.heap) (off := off) F hh (below _ hax).2.1 hDI hDC hIC (below _ hax).1 (below _ hax).2.2 (none_of_ge (Nat.le_refl _)) nD nC old hoff hit hl₁ hacc hns₁ (hlet _) ?_ ?_ hsz
    · intro i v h tk m₃ E' hv hn hk
      exact helt H2.objs.size i v h tk m₃ E' hv hn hk nC
    · rintro h' tk m' ys hn ⟨n, hpl⟩ hlen hF hk
      refine hRR _ _ h' tk m' ys n nD nC hDC hn hpl hlen (fun h'' k1 k2 => hF h'' (fun b o e0 hc hI hD' e => k1 b o e0 hc hD' e) k2) hk
  exact codeAny_compStart_list (loop _ rfl) (wpAny_pyIter_listiter hit (loop _ rfl))
/-- a comprehension's value -/
theorem comp_eval {s : Shared} {elt target iter : Expr} {scope : Scope} {cl : List (Str × Addr)} {pos : Pos} {Q : Value → Shared → Prop}
    (hh : A.handled = none)
    (h : wpAny (model prog w) A (eval iter env) (fun xv s₁ => ∃ (ax : Addr) (items : Array Value) (F : Nat → Value → Heap → Prop), xv = .ref ax ∧ s₁.heap.IsList ax items ∧ items.size ≤ sizeLine ∧
      (∀ I i v s' (Q : Unit → Shared → Prop) E', items[i]? = some v → s'.heap.IsListIter I ax (i + 1) → Q () s' → wpAny (model prog w) A (letOwnedTupleGo target (.ref I) v) Q E' s') ∧
      (∀ C i v h tk m₃ E', items[i]? = some v → h.Ns C m₃ → Keep s₁.heap h → s₁.heap.get? C = none →
        wpAny (model prog w) A (assign target (compEnvC scope cl C env) v) (fun _ s₄ => wpAny (model prog w) A (eval elt (compEnvC scope cl C env)) (Elt h C [] s₁.heap (F i) s₁) E' s₄) E' { s₁ with heap := h, toks := tk }) ∧
      (∀ D h' tk ys n, s₁.heap.get? D = none → h'.get? D = some (lobj ys n) → ys.length = items.size → (∀ i y, ys[i]? = some y → F i y h') → Keep s₁.heap h' → Q (.ref D) { s₁ with heap := h', toks := tk })) E s)
    (hclos : closureFor scope env = pure cl := by rfl) (hcell : ∀ y ∈ scope.names, y.2 ≠ .cell := by decide) (hkind : scope.kind = .function := by rfl)
    (hnames : ∀ y ∈ scope.names, y.2 = .local → scope.names.lookup y.1 = some .local := by decide)
    (hs : ∀ x, foldedSetIterable iter env x = pure x := by intro _; rfl) :
    wpAny (model prog w) A (eval (.ListComp elt [⟨target, iter, [], 0⟩] scope pos) env) Q E s := by
  rw [eval_ListComp]
  refine wpAny_comprehension_free (use := none) rfl hs hclos hkind hnames (wpAny_mono h (fun xv s₁ h₁ => ?_) fun _ _ e => e)
  obtain ⟨ax, items, F, rfl, hl, hsz, hlet, helt, hQ⟩ := h₁
  refine comp_block (off := []) (RR := fun acc C => compPost (model prog w) A E none Q acc C) F hh hcell hkind hl hsz (fun b hb => by cases hb) hlet helt ?_
  intro D C h' tk m' ys n hD hC hDC hn hl hlen hF hk
  refine ⟨m', hn, fun h'' hs'' => ?_⟩
  have nC : ∀ {b o}, s₁.heap.get? b = some o → b ≠ C := fun e q => by rw [q, hC] at e; cases e
  have hk'' : Keep s₁.heap h'' := fun b o e => hs''.extBut b o (nC e) (hk b o e)
  exact hQ D h'' tk ys n hD (hs''.extBut _ _ hDC hl) hlen (hF h'' (fun b o _ hc _ e => hs''.extBut b o hc e) fun b o _ e => hk'' b o e) hk''
/-- a comprehension put under a name at once -/
theorem comp_assign {s : Shared} {h₀ : Heap} {elt target iter : Expr} {y : Str} {py : Pos} {scope : Scope} {cl : List (Str × Addr)} {pos spos : Pos} {Q : Flow → Shared → Prop}
    (hh : A.handled = none)
    (h : wpAny (model prog w) A (eval iter env) (fun xv s₁ => ∃ (ax : Addr) (items : Array Value) (F : Nat → Value → Heap → Prop) (m : Str → Option Value) (news : List (Addr × Obj)), xv = .ref ax ∧ s₁.heap.IsList ax items ∧ items.size ≤ sizeLine ∧ Fr h₀ env.locals s₁.heap m ∧ News h₀ env.locals s₁.heap news ∧
      (∀ I i v s' (Q : Unit → Shared → Prop) E', items[i]? = some v → s'.heap.IsListIter I ax (i + 1) → Q () s' → wpAny (model prog w) A (letOwnedTupleGo target (.ref I) v) Q E' s') ∧
      (∀ C i v h tk m₃ E', items[i]? = some v → h.Ns C m₃ → Keep s₁.heap h → s₁.heap.get? C = none →
        wpAny (model prog w) A (assign target (compEnvC scope cl C env) v) (fun _ s₄ => wpAny (model prog w) A (eval elt (compEnvC scope cl C env)) (Elt h C [env.locals] s₁.heap (F i) s₁) E' s₄) E' { s₁ with heap := h, toks := tk }) ∧
      (∀ D h' tk ys n, h'.get? D = some (lobj ys n) → ys.length = items.size → (∀ i y, ys[i]? = some y → F i y h') → Fr h₀ env.locals h' (up m y (.ref D)) → News h₀ env.locals h' ((D, lobj ys n) :: news) →
        (∀ b o, b ≠ env.locals → s₁.heap.get? b = some o → h'.get? b = some o) → s₁.heap.get? D = none → Q .next { s₁ with heap := h', toks := tk })) E s)
    (hsw : swapsWith (.ListComp elt [⟨target, iter, [], 0⟩] scope pos) (some (.Name y py)) spos.line env = pure true := by rfl)
    (hclos : closureFor scope env = pure cl := by rfl) (hcell : ∀ y ∈ scope.names, y.2 ≠ .cell := by decide) (hkind : scope.kind = .function := by rfl)
    (hnames : ∀ y ∈ scope.names, y.2 = .local → scope.names.lookup y.1 = some .local := by decide)
    (hy : env.kindOf y = some .local := by rfl) (hp : (env.scope.kind == .class || (env.scope.kind == .module && env.locals != env.globals)) = false := by rfl)
    (hs : ∀ x, foldedSetIterable iter env x = pure x := by intro _; rfl) :
    wpAny (model prog w) A (exec (.Assign [.Name y py] (.ListComp elt [⟨target, iter, [], 0⟩] scope pos) spos) env) Q E s := by
  rw [exec_Assign_Name_used _ _ _ _ hsw]
  refine wpAny_bind (wpAny_standAt (wpAny_bind ?_))
  show wpAny _ A (do let _ ← comprehension (.ListComp elt [⟨target, iter, [], 0⟩] scope pos) scope env _ (newList []) false (eval iter env) (some (assign (.Name y py) env))) _ _ s
  refine wpAny_bind (wpAny_mono (wpAny_comprehension_free (use := some (assign (.Name y py) env)) (Q := fun _ s' => Q .next s') rfl hs hclos hkind hnames
    (wpAny_mono h (fun xv s₁ h₁ => ?_) fun _ _ e => e)) (fun _ s' hq => wpAny_pure (wpAny_pure hq)) fun _ _ e => e)
  obtain ⟨ax, items, F, m, news, rfl, hl, hsz, Fr₁, N₁, hlet, helt, hQ⟩ := h₁
  refine comp_block (off := [env.locals]) (RR := fun acc C => compPost (model prog w) A E (some (assign (.Name y py) env)) (fun _ s' => Q .next s') acc C) F hh hcell hkind hl hsz ?_ hlet helt ?_
  · intro b hb
    obtain ⟨o, _, _, ho, _⟩ := Fr₁.ns
    exact ⟨o, (List.mem_singleton.mp hb) ▸ ho⟩
  intro D C h' tk m' ys n hD hC hDC hnC hlD hlen hF hk
  have nC : ∀ {b o}, s₁.heap.get? b = some o → b ≠ C := fun e q => by rw [q, hC] at e; cases e
  have nD : ∀ {b o}, s₁.heap.get? b = some o → b ≠ D := fun e q => by rw [q, hD] at e; cases e
  obtain ⟨oL, _, _, hoL, _⟩ := id Fr₁.ns
  have hLC : env.locals ≠ C := nC hoL
  have hLD : env.locals ≠ D := nD hoL
  show wpAny _ A (assign (.Name y py) env (.ref D)) _ _ _
  have F' : Fr h₀ env.locals h' m := Fr₁.after hk
  refine wpAny_assign_Name (wpAny_storeName_local hy F'.ns (fun h₂ hn₂ hs₂ => ?_) hp)
  have F₂ : Fr h₀ env.locals h₂ (up m y (.ref D)) := F'.set hn₂ hs₂
  refine ⟨m', hnC.sameBut hs₂ (Ne.symm hLC), fun h₃ hs₃ => ?_⟩
  have hk₃ : ∀ b o, b ≠ env.locals → s₁.heap.get? b = some o → h₃.get? b = some o := fun b o hb e => hs₃.extBut b o (nC e) (hs₂.extBut b o hb (hk b o e))
  have hD₃ : h₃.get? D = some (lobj ys n) := hs₃.extBut _ _ hDC (hs₂.extBut _ _ (Ne.symm hLD) hlD)
  have h0D : h₀.get? D = none := by
    cases q : h₀.get? D with
    | none => rfl
    | some o => rw [Fr₁.keep _ _ q] at hD; cases hD
  have h0C : h₀.get? C = none := by
    cases q : h₀.get? C with
    | none => rfl
    | some o => rw [Fr₁.keep _ _ q] at hC; cases hC
  have F₃ : Fr h₀ env.locals h₃ (up m y (.ref D)) := F₂.change hs₃ (Ne.symm hLC) h0C
  refine hQ D h₃ _ ys n hD₃ hlen (hF h₃ (fun b o e0 hc hd e => ?_) fun b o hb e => hk₃ b o (fun q => hb (q ▸ .head _)) e) F₃ ?_ hk₃ hD
  · refine hs₃.extBut b o hc (hs₂.extBut b o (fun q => ?_) e)
    rw [q, hoL] at e0; cases e0
  · intro p hp
    rcases List.mem_cons.mp hp with rfl | hp
    · exact ⟨hD₃, Ne.symm hLD, h0D⟩
    · exact ⟨hk₃ _ _ (N₁ p hp).2.1 (N₁ p hp).1, (N₁ p hp).2⟩
end
end Mine
end
section 
open PySem PySem.W PyProof.Rows PySem.Calls PySem.Spec
set_option maxRecDepth 100000
set_option maxHeartbeats 4000000
namespace Mine
section
variable {prog : Program} {w : World} {A : Around} {E : Value → Shared → Prop} {s s₁ : Shared} {env : Env}
/-- an element under one name -/
theorem elt_name {elt : Expr} {x : Str} {px : Pos} {v : Value} {h : Heap} {tk : Nat} {m : Str → Option Value} {off : List Addr} {F : Value → Heap → Prop} (hn : h.Ns env.locals m) (hk : Keep s₁.heap h) (hC : s₁.heap.get? env.locals = none)
    (step : ∀ h₂ tk₂, h₂.Ns env.locals (up m x v) → Keep s₁.heap h₂ →
      wpAny (model prog w) A (eval elt env) (fun y s₅ => ∃ h' tk', s₅ = { s₁ with heap := h', toks := tk' } ∧ Keep h₂ h' ∧
        ∀ h'', (∀ b o, h₂.get? b = none → h'.get? b = some o → h''.get? b = some o) → (∀ b o, b ∉ off → s₁.heap.get? b = some o → h''.get? b = some o) → F y h'') E { s₁ with heap := h₂, toks := tk₂ })
    (hx : env.kindOf x = some .local := by rfl) (hp : (env.scope.kind == .class || (env.scope.kind == .module && env.locals != env.globals)) = false := by rfl) :
    wpAny (model prog w) A (assign (.Name x px) env v) (fun _ s₄ => wpAny (model prog w) A (eval elt env) (Elt h env.locals off s₁.heap F s₁) E s₄) E { s₁ with heap := h, toks := tk } := by
  refine wpAny_assign_Name (wpAny_storeName_local hx hn (fun h₂ hn₂ hs₂ => ?_) hp)
  have hk₂ : Keep s₁.heap h₂ := fun b o e => hs₂.extBut b o (fun q => by rw [q, hC] at e; cases e) (hk b o e)
  refine wpAny_mono (step h₂ _ hn₂ hk₂) (fun y s₅ h₅ => ?_) fun _ _ e => e
  obtain ⟨h', tk', rfl, hk', hF⟩ := h₅
  refine ⟨h', tk', rfl, fun b o hb e => hk' b o (hs₂.extBut b o hb e), ⟨_, hn₂.keeps hk'⟩, fun h'' k1 k2 => hF h'' (fun b o e0 e => k1 b o ?_ e) k2⟩
  cases q : h.get? b with
  | none => rfl
  | some o' =>
    by_cases hb : b = env.locals
    · obtain ⟨_, _, _, ho, _⟩ := hn₂
      rw [hb, ho] at e0; cases e0
    · rw [hs₂.extBut b o' hb q] at e0; cases e0
theorem pair_list {a b : Str} {pa pb tp : Pos} {kk : Nat} {l : Addr} {x y : Value} {m : Str → Option Value} {Q : Unit → Shared → Prop} (hh : A.handled = none) (hl : s.heap.IsList l #[x, y])
    (hn : s.heap.Ns env.locals m)
    (h : ∀ (h' : Heap) (tk : Nat), h'.Ns env.locals (up (up m a x) b y) → (∀ c o, c ≠ env.locals → s.heap.get? c = some o → h'.get? c = some o) → Q () { s with heap := h', toks := tk })
    (ha : env.kindOf a = some .local := by rfl) (hb : env.kindOf b = some .local := by rfl) (hp : (env.scope.kind == .class || (env.scope.kind == .module && env.locals != env.globals)) = false := by rfl) :
    wpAny (model prog w) A (assign (.Tuple [.Name a pa, .Name b pb] kk tp) env (.ref l)) Q E s := by
  rw [assign_Tuple]
  refine wpAny_bind (wpAny_standAt ?_)
  unfold unpack
  have e1 : (assignEach [.Name a pa, .Name b pb] env).length = (#[x, y] : Array Value).size := by rfl
  have e2 : (assignEach [.Name a pa, .Name b pb] env).findIdx? (·.1) = none := by rfl
  rw [e1, e2]
  refine wpAny_bind (wpAny_holding (kun_itemsOf hh hl fun h₁ he₁ => ?_))
  have hL : env.locals ≠ s.heap.objs.size := Nat.ne_of_lt hn.lt
  have hn₁ : h₁.Ns env.locals m := hn.at' fun o e => he₁ _ o hL e
  have up₁ : ∀ c o, s.heap.get? c = some o → h₁.get? c = some o := fun c o e => he₁ c o (Nat.ne_of_lt (Heap.lt_size e)) e
  show wpAny _ _ (assignInOrder [assign (.Name a pa) env, assign (.Name b pb) env] [x, y]) _ _ _
  refine assignInOrder_cons ?_
  refine wpAny_assign_Name (wpAny_storeName_local ha hn₁ (fun h₂ hn₂ hs₂ => ?_) hp)
  refine assignInOrder_cons ?_
  refine wpAny_assign_Name (wpAny_storeName_local hb hn₂ (fun h₃ hn₃ hs₃ => ?_) hp)
  refine assignInOrder_nil ?_
  exact h h₃ _ hn₃ fun c o hc e => hs₃.extBut c o hc (hs₂.extBut c o hc (up₁ c o e))
theorem sub_list {value slice : Expr} {l : Addr} {vs : List Value} {k : Int} {u : Tok} {x : Value} {Q : Value → Shared → Prop} (hl : s.heap.IsList l vs.toArray) (h0 : 0 ≤ k) (hfit : k < 2 ^ 63) (hx : vs[k.toNat]? = some x) (h : Q x s)
    (hs : subscripted slice false (.ref l) (.int k u) = operate [.ref l, .int k u] (getItem (.ref l) (.int k u)) := by with_unfolding_all rfl) :
    wpAny (model prog w) A (subscriptTail value slice (.ref l) (.int k u)) Q E s :=
  tail_any hl.typeIs slot_list_getitem.lookup (wpAny_getItem_list hl h0 hfit (by rw [List.getElem?_toArray]; exact hx) h) hs
/-- a method of a built-in type, two arguments -/
theorem meth2 {o e e2 : Expr} {name : Str} {apos pos : Pos} {T id : String} {B : Builtin} {Q : Value → Shared → Prop} (pa : PlainAttrs T) (slot : Slot T name id) (hty : typeOf (.builtin id) = pure (.type "method_descriptor")) (entry : entryFor table id = some B)
    (h : wpAny (model prog w) A (eval o env) (fun ov s₁ => s₁.TypeIs ov T ∧ (∀ a, ov = .ref a → ∃ ob, s₁.heap.get? a = some ob ∧ ob.dict = none) ∧
      wpAny (model prog w) A (eval e env) (fun v s₂ => wpAny (model prog w) A (eval e2 env) (fun v2 s₃ => s₃.TypeIs ov T ∧ argsOk id ⟨[ov, v, v2], []⟩ ∧ ∃ S, Meets (B ⟨[ov, v, v2], []⟩) S ∧ S A (wants Q E) s₃) E s₂) E s₁) E s)
    (hbase : attributeBase o name env (eval o env) = eval o env := by rfl)
    (hfew : ((backTo pos (starEach [e, e2] env)).all (fun x => !x.1) && (backToKw pos (keywordEach [] env)).all (fun x => x.1.isSome)
      && decide ([e, e2].length + ([] : List Keyword).length + (if ([] : List Keyword).isEmpty then 0 else 1) < 30)) = true := by rfl)
    (hline : (apos.endLine == pos.line) = true := by rfl) (he : starEach [e, e2] env = [(false, eval e env), (false, eval e2 env)] := by rfl) :
    wpAny (model prog w) A (eval (.Call (.Attribute o name apos) [e, e2] [] pos) env) Q E s := by
  refine wpAny_Call_method hbase hfew hline pa slot hty (wpAny_mono h (fun ov s₁ h₁ => ⟨h₁.1, h₁.2.1, ?_⟩) fun _ _ x => x)
  refine method_meets slot entry (by rw [he]; rfl) ?_
  rw [he]
  exact evalArgs_plain (spliced_cons (wpAny_mono h₁.2.2 (fun v s₂ h₂ => spliced_cons (wpAny_mono h₂ (fun v2 s₃ h₃ => spliced_nil ⟨rfl, h₃⟩) fun _ _ x => x)) fun _ _ x => x))
end
theorem ty_insert : typeOf (.builtin "list.insert") = pure (.type "method_descriptor") := PySem.F.type_list_insert
theorem News.consNew {h₀ h h' : Heap} {L r : Addr} {m : Str → Option Value} {nx : List (Addr × Obj)} {o : Obj} (F : Fr h₀ L h m) (N : News h₀ L h' nx) (hr : h.get? r = none) (hr' : h'.get? r = some o) : News h₀ L h' ((r, o) :: nx) := by
  intro p hp
  rcases List.mem_cons.mp hp with rfl | hp
  · refine ⟨hr', fun q => ?_, ?_⟩
    · obtain ⟨_, _, _, ho, _⟩ := F.ns
      change r = L at q
      rw [q, ho] at hr; cases hr
    · cases q : h₀.get? r with
      | none => rfl
      | some o => rw [F.keep _ _ q] at hr; cases hr
  · exact N p hp
end Mine
end
section 
open PySem PySem.W PyProof.Rows PySem.Calls PySem.Spec PySem.NumText
set_option maxRecDepth 100000
set_option maxHeartbeats 4000000
namespace Mine
section
variable {prog : Program} {w : World} {A : Around} {E : Value → Shared → Prop} {s : Shared} {env : Env} {h₀ : Heap}
/-- for_list, with the iterator's object alive -/
theorem for_list2 {R : Result → Shared → Prop} {x : Str} {px : Pos} {body : List Stmt} {m₀ : Str → Option Value} {news : List (Addr × Obj)} {l : Addr} {items : Array Value} (hh : A.handled = none) (hl : s.heap.IsList l items)
    (J : Nat → (Str → Option Value) → List (Addr × Obj) → Array GenState → Prop) (mt : List Addr) (hlm : l ∉ mt) (hlL : l ≠ env.locals) (hmt : ∀ a ∈ mt, a < s.heap.objs.size)
    (F : Fr h₀ env.locals s.heap m₀) (N : News h₀ env.locals s.heap news) (hJ : J 0 m₀ news s.gens)
    (turn : ∀ I i v m₁ nx h tk g, items[i]? = some v → J i m₁ nx g → Fr h₀ env.locals h (up m₁ x v) → News h₀ env.locals h nx → (∀ p ∈ nx, p.1 ≠ I) → (∃ o, h.get? I = some o) → I ≠ env.locals → I ∉ mt → ∀ E',
      wpAny (model prog w) A (execs body env) (TurnEnd h₀ env.locals R (J (i + 1)) [I] mt h s) E' { s with heap := h, toks := tk, gens := g })
    (done : ∀ m₁ nx h tk g, J items.size m₁ nx g → Fr h₀ env.locals h m₁ → News h₀ env.locals h nx → R (.ok .next) { s with heap := h, toks := tk, gens := g })
    (hkx : env.kindOf x = some .local := by rfl) (hp : (env.scope.kind == .class || (env.scope.kind == .module && env.locals != env.globals)) = false := by rfl) :
    wpAny (model prog w) A (pyIter (.ref l)) (fun it s₂ => codeAny (model prog w) A (.forLoop (.Name x px) it body [] env) R s₂) E s := by
  refine wpAny_pyIter_list hl ?_
  obtain ⟨ol, hol, _⟩ := id hl
  have hlI : l ≠ s.heap.objs.size := Nat.ne_of_lt (Heap.lt_size hol)
  have hLI : env.locals ≠ s.heap.objs.size := Nat.ne_of_lt F.ns.lt
  have hIm : s.heap.objs.size ∉ mt := fun q => Nat.lt_irrefl _ (hmt _ q)
  refine for_walk (Walks.list hh s.heap.objs.size l hlI items) (fun i h st b hb => ?_) J mt ?_ ?_ ?_ (F.push _) (fun p hp => ⟨Heap.get?_push_of_some _ (N p hp).1, (N p hp).2⟩) ⟨⟨_, Heap.get?_push_size _ rfl, rfl, rfl⟩, hl.push _⟩ hJ ?_ ?_ ?_ hkx hp
  · obtain ⟨o, ho, _⟩ := st.1
    exact ⟨o, (List.mem_singleton.mp hb) ▸ ho⟩
  · intro q
    rcases List.mem_cons.mp q with e | q
    · exact hLI e
    · exact hlL (List.mem_singleton.mp q).symm
  · intro a ha q
    rcases List.mem_cons.mp q with e | q
    · exact hIm (e ▸ ha)
    · exact hlm ((List.mem_singleton.mp q) ▸ ha)
  · intro b hb
    rw [List.mem_singleton.mp hb]
    cases q : h₀.get? s.heap.objs.size with
    | none => rfl
    | some o => exact absurd (Heap.lt_size (F.keep _ _ q)) (Nat.lt_irrefl _)
  · intro p hp q
    exact absurd (Heap.lt_size (N p hp).1) ((List.mem_singleton.mp q) ▸ Nat.lt_irrefl _)
  · intro i v m₁ nx h tk g hi hP hJi Fi Ni hni hx E'
    exact turn _ i v m₁ nx h tk g hP hJi Fi Ni (fun p hp e => hni p hp (List.mem_singleton.mpr e)) (hx _ (List.mem_singleton.mpr rfl)) (Ne.symm hLI) hIm E'
  · intro m₁ nx h tk g hJn Fn Nn _
    exact done m₁ nx h tk g hJn Fn Nn
end
/-! the plain insertion -/
def insD (q : List Nat) : List (List Nat) → List (List Nat)
  | [] => [q]
  | p :: r => if digitsVal q ≤ digitsVal p then p :: insD q r else q :: p :: r
def fall (qs : List (List Nat)) : List (List Nat) := qs.foldl (fun row q => insD q row) []
theorem insD_at (q : List Nat) (row : List (List Nat)) (k : Nat) (hk : k ≤ row.length) (h1 : ∀ j p, j < k → row[j]? = some p → digitsVal q ≤ digitsVal p) (h2 : ∀ p, row[k]? = some p → ¬ digitsVal q ≤ digitsVal p) :
    insD q row = row.take k ++ q :: row.drop k := by
  induction row generalizing k with
  | nil => simp at hk; subst hk; rfl
  | cons p r ih =>
    cases k with
    | zero => simp [insD, h2 p (by simp)]
    | succ k =>
      rw [insD, if_pos (h1 0 p (by omega) (by simp)), ih k (by simpa using hk) (fun j p' hj e => h1 (j + 1) p' (by omega) (by simpa using e)) (fun p' e => h2 p' (by simpa using e))]
      simp
theorem insD_len (q : List Nat) (row : List (List Nat)) : (insD q row).length = row.length + 1 := by
  induction row with
  | nil => rfl
  | cons p r ih => simp only [insD]; split <;> simp [ih]
theorem fall_snoc (qs : List (List Nat)) (q : List Nat) : fall (qs ++ [q]) = insD q (fall qs) := by simp [fall, List.foldl_append]
theorem fall_len (qs : List (List Nat)) : (fall qs).length = qs.length := by
  have : ∀ (qs row : List (List Nat)), (qs.foldl (fun row q => insD q row) row).length = row.length + qs.length := by
    intro qs
    induction qs with
    | nil => intro row; rfl
    | cons q r ih => intro row; simp only [List.foldl_cons, ih, insD_len, List.length_cons]; omega
  rw [fall, this qs []]; simp
theorem Paired.get {α β : Type} {F : α → β → Prop} {l₁ : List α} {l₂ : List β} (h : Paired F l₁ l₂) : ∀ {i : Nat} {b : β}, l₂[i]? = some b → ∃ a, l₁[i]? = some a ∧ F a b := by
  induction h with
  | nil => intro i b e; simp at e
  | cons h t ih =>
    intro i b e
    cases i with
    | zero => exact ⟨_, rfl, by simp at e; exact e ▸ h⟩
    | succ i => simpa using ih (i := i) (by simpa using e)
theorem Paired.append {α β : Type} {F : α → β → Prop} {l₁ k₁ : List α} {l₂ k₂ : List β} (h : Paired F l₁ l₂) (k : Paired F k₁ k₂) : Paired F (l₁ ++ k₁) (l₂ ++ k₂) := by
  induction h with
  | nil => exact k
  | cons h t ih => exact .cons h ih
theorem Paired.take {α β : Type} {F : α → β → Prop} {l₁ : List α} {l₂ : List β} (h : Paired F l₁ l₂) : ∀ n, Paired F (l₁.take n) (l₂.take n) := by
  induction h with
  | nil => intro n; simp only [List.take_nil]; exact .nil
  | cons h t ih => intro n; cases n with
    | zero => exact .nil
    | succ n => exact .cons h (ih n)
theorem Paired.drop {α β : Type} {F : α → β → Prop} {l₁ : List α} {l₂ : List β} (h : Paired F l₁ l₂) : ∀ n, Paired F (l₁.drop n) (l₂.drop n) := by
  induction h with
  | nil => intro n; simp only [List.drop_nil]; exact .nil
  | cons h t ih => intro n; cases n with
    | zero => exact .cons h t
    | succ n => exact ih n
theorem Paired.imp {α β : Type} {F G : α → β → Prop} {l₁ : List α} {l₂ : List β} (h : Paired F l₁ l₂) (k : ∀ a b, F a b → G a b) : Paired G l₁ l₂ := by
  induction h with
  | nil => exact .nil
  | cons h t ih => exact .cons (k _ _ h) ih
/-- one entry of the row -/
def Cell (rest : List (Addr × Obj)) (v : Value) (q : List Nat) : Prop :=
  ∃ a rd us k n t, v = .ref a ∧ (a, lobj [.ref rd, .str ⟨q.toArray⟩ t] n) ∈ rest ∧ (rd, lobj us k) ∈ rest ∧ IntsAre us [100, (digitsVal q : Nat)]
theorem ins_lobj {vs : List Value} {n k : Nat} {y : Value} (hk : k ≤ vs.length) :
    Obj.mapSeq (fun xs : Array Value => have j := if (k : Int) < 0 then ((k : Int) + (xs.size : Int)).toNat else min (k : Int).toNat xs.size; (xs.extract 0 j).push y ++ xs.extract j) (lobj vs n) = lobj (vs.take k ++ y :: vs.drop k) (n + 1) := by
  have e : (if (k : Int) < 0 then ((k : Int) + (vs.toArray.size : Int)).toNat else min (k : Int).toNat vs.toArray.size) = k := by
    rw [if_neg (by omega)]; simp; omega
  have e2 : (vs.toArray.extract 0 k).push y ++ vs.toArray.extract k = (vs.take k ++ y :: vs.drop k).toArray := by
    apply Array.toList_inj.mp
    simp
    exact List.take_of_length_le (by simp)
  simp only [lobj, Obj.mapSeq, e, e2]
  simp
  omega
end Mine
end
section 
open PySem PySem.W PyProof.Rows PySem.Calls PySem.Spec PySem.NumText
set_option maxRecDepth 100000
set_option maxHeartbeats 4000000
namespace Mine
local macro_rules | `(tactic| walk_at "lk") => `(tactic| (repeat (first | exact up_eq | assumption | refine up_of ?_ (by decide))))
theorem cut_one {q : List Nat} (h : digP q) : Cut [q] := ⟨.inr ⟨h, fun c e => by simp at e⟩, trivial⟩
theorem dgB_of {q : List Nat} (h : digP q) : dgB q = true := by
  obtain ⟨h1, h2⟩ := h
  cases q with
  | nil => exact absurd rfl h1
  | cons c r => exact decide_eq_true (h2 c (.head _))
theorem cv_one {q : List Nat} (h : digP q) : cvOut [q] = [(100 : Int), ((digitsVal q : Nat) : Int)] := by simp [cvOut, outOf, dgB_of h]
theorem StrsAre.len {vs : List Value} {qs : List (List Nat)} (h : StrsAre vs qs) : vs.length = qs.length := by
  induction h with
  | nil => rfl
  | cons h ih => simp [ih]
theorem strs_of {vs : List Value} : ∀ {qs : List (List Nat)}, vs.length = qs.length → (∀ (i : Nat) (v : Value), vs[i]? = some v → ∃ (q : List Nat) (t : Tok), qs[i]? = some q ∧ v = Value.str ⟨q.toArray⟩ t) → StrsAre vs qs := by
  induction vs with
  | nil => intro qs hl _; cases qs with
    | nil => exact .nil
    | cons => simp at hl
  | cons v r ih => intro qs hl h; cases qs with
    | nil => simp at hl
    | cons q qs =>
      obtain ⟨q', t, e, rfl⟩ := h 0 v rfl
      obtain rfl : q = q' := by simpa using e
      exact .cons (ih (by simpa using hl) fun i v e => by simpa using h (i + 1) v (by simpa using e))
def insF (x : Int) (y : Value) (xs : Array Value) : Array Value := have j := if x < 0 then (x + (xs.size : Int)).toNat else min x.toNat xs.size; (xs.extract 0 j).push y ++ xs.extract j
theorem ins_meets {r : Addr} {rvs : List Value} {n : Nat} {x : Int} {tt : Tok} {y : Value} {A : Around} {R : Result → Shared → Prop} {s : Shared} (hl : 0 ≤ x ∧ x < 10000 ∧ rvs.length < 10000) (h0 : s.heap.get? r = some (lobj rvs n))
    (hR : R (.ok (.ret .none)) { s with heap := s.heap.update r (Obj.mapSeq (insF x y)) }) : ∃ S, Meets (Builtin.«list.insert» ⟨[.ref r, .int x tt, y], []⟩) S ∧ S A R s := by
  have hfit : ¬(!Builtin.List.listFitsIndex x) = true := by
    unfold Builtin.List.listFitsIndex
    simp
    omega
  have hs : rvs.toArray.size ≤ sizeLine := by rw [sizeLine_eq, List.size_toArray]; omega
  have hM := @PySem.AutoSeq1.list_insert_list_int_val_1 r rvs.toArray n x tt y hfit
  exact ⟨_, hM hs, h0, hR⟩
theorem insF_lobj {vs : List Value} {n k : Nat} {y : Value} (hk : k ≤ vs.length) : Obj.mapSeq (insF (k : Nat) y) (lobj vs n) = lobj (vs.take k ++ y :: vs.drop k) (n + 1) := ins_lobj hk
theorem news_swap {h₀ h : Heap} {L : Addr} {a b : Addr × Obj} {r : List (Addr × Obj)} (N : News h₀ L h (a :: b :: r)) : News h₀ L h (b :: a :: r) := fun p hp => N p (by
  simp only [List.mem_cons] at hp ⊢
  rcases hp with h | h | h
  · exact .inr (.inl h)
  · exact .inl h
  · exact .inr (.inr h))
section
variable {prog : Program} {w : World} {A : Around} {R : Result → Shared → Prop} {s : Shared} {mg mb : Str → Option Value}
theorem falling_spec {f l : Addr} {vs : List Value} {qs : List (List Nat)} (hf : FnIs s.heap f "_law_falling" 10) (W : Wd mg mb s.heap) (hroom : A.depth + 1 < recursionLimit) (hu : A.units + 100 < cLine) (hh : A.handled = none)
    (hl : s.heap.IsList l vs.toArray) (hi : StrsAre vs qs) (hd : ∀ q ∈ qs, digP q ∧ q.length ≤ 600) (hlen : qs.length < 1000)
    (hR : ∀ r us n h' tk, s.heap.get? r = none → h'.get? r = some (lobj us n) → StrsAre us (fall qs) → Keep s.heap h' → R (.ok (.ret (.ref r))) { s with heap := h', toks := tk }) :
    codeAny (model prog w) A (.call (.ref f) ⟨[.ref l], []⟩) R s := by
  refine call_fn (binds := [("texts", .ref l)]) hf (by omega) W.lim (fun _ _ _ => rfl) (by rfl) fun cd h₁ F => ?_
  rw [bm1] at F
  refine wpAny_execs_cons (wpAny_Assign_Name (List_ (args_nil (newLst ?_))))
  have F₂ := F.push (lobj [] 0)
  have N₂ := (News.nil (h₀ := s.heap) (L := s.heap.objs.size) (h := h₁)).push F (lobj [] 0)
  dsimp only
  generalize hmk : h₁.objs.size = rw at *
  generalize hh₂ : h₁.push (lobj [] 0) = h₂ at *
  refine stU F₂ N₂ fun h₃ F₃ N₃ S₃ => ?_
  have hlL : l ≠ s.heap.objs.size := by obtain ⟨o, ho, _⟩ := hl; exact Nat.ne_of_lt (Heap.lt_size ho)
  have hrw : rw ≠ s.heap.objs.size := (N₃ _ (.head _)).2.1
  have hrw0 : s.heap.get? rw = none := (N₃ _ (.head _)).2.2
  have hlr : l ≠ rw := fun q => by obtain ⟨o, ho, _⟩ := hl; rw [q, hrw0] at ho; cases ho
  have hl₃ : h₃.IsList l vs.toArray := hl.at fun o e => F₃.keep _ o e
  have hh' : (A.deeper (envOf "_law_falling" (scpP 10) s.heap.objs.size f cd)).handled = none := hh
  refine wpAny_execs_cons (wpAny_For (ld (v := .ref l) F₃ (by walk_at "lk") ?_))
  refine for_list2 (env := envOf "_law_falling" (scpP 10) s.heap.objs.size f cd) hh' hl₃
    (fun i m nx g => ∃ rvs n rest, nx = (rw, lobj rvs n) :: rest ∧ m "row" = some (.ref rw) ∧ Paired (Cell rest) rvs (fall (qs.take i)) ∧ (∀ p ∈ rest, p.1 ≠ rw) ∧ g = s.gens) [rw] ?_ hlL ?_ F₃ N₃ ?_ ?_ ?_
  · intro q; exact hlr (List.mem_singleton.mp q)
  · intro a ha; rw [List.mem_singleton.mp ha]; exact Heap.lt_size (N₃.get (.head _))
  · exact ⟨[], 0, [], rfl, by walk_at "lk", (by simp [fall]; exact .nil), fun p hp => (by cases hp), rfl⟩
  · rintro I i v m₁ nx h tk g hv ⟨rvs, n, rest, rfl, hm, hrow, hrest, rfl⟩ Fi Ni hnI hIx hIL hIm E'
    obtain ⟨q, t, hq, rfl⟩ := hi.get (by simpa using hv)
    have hlt : i < qs.length := (List.getElem?_eq_some_iff.mp hq).1
    have hdq := hd q (List.mem_of_getElem? hq)
    have Wi := W.keeps Fi.keep
    refine wpAny_execs_cons (wpAny_Assign_Name (Call_ (ldG Wi W.cv (cwF Wi.fcv (args_cons (ld (v := .str ⟨q.toArray⟩ t) Fi (by walk_at "lk") (args_nil ⟨fun _ _ e => e, cv_spec (ps := [q]) Wi ?_ hh' (by simp) (cut_one hdq.1) (by simpa using hdq.2) ?_⟩)))))))
    · show A.depth + 1 < recursionLimit; exact hroom
    intro rd us nk h₄ tk₄ hrd hrd' hus hk₄
    rw [cv_one hdq.1] at hus
    dsimp only [wants] at hrd hrd' hk₄ ⊢
    have F₄ := Fi.after hk₄
    have N₄ : News s.heap s.heap.objs.size h₄ ((rw, lobj rvs n) :: (rd, lobj us nk) :: rest) := news_swap (News.consNew Fi (News.keep Ni fun p hp o e => hk₄ _ _ e) hrd hrd')
    have hrdw : rd ≠ rw := fun e => by rw [e, (Ni _ (.head _)).1] at hrd; cases hrd
    have hrdI : rd ≠ I := fun e => by obtain ⟨o, ho⟩ := hIx; rw [e, ho] at hrd; cases hrd
    refine stU F₄ N₄ fun h₅ F₅ N₅ S₅ => ?_
    refine wpAny_execs_cons (wpAny_Assign_Name (wpAny_Constant_int (stU F₅ N₅ fun h₆ F₆ N₆ S₆ => ?_)))
    dsimp only at S₅ S₆ ⊢
    have hk₆ : ∀ b o, b ≠ s.heap.objs.size → h.get? b = some o → h₆.get? b = some o := fun b o hb e => S₆.extBut b o hb (S₅.extBut b o hb (hk₄ b o e))
    have hrl : rvs.length = (fall (qs.take i)).length := hrow.length
    have hrl' : (fall (qs.take i)).length = i := by rw [fall_len, List.length_take]; omega
    refine wpAny_execs_cons (wpAny_While (codeAny_mono (codeAny_whileLoop (R := fun r s' => ∃ h' tk' m' k tt, r = .ok .next ∧ s' = { s with heap := h', toks := tk' } ∧ Fr s.heap s.heap.objs.size h' m' ∧ News s.heap s.heap.objs.size h' ((rw, lobj rvs n) :: (rd, lobj us nk) :: rest) ∧
        m' "row" = some (.ref rw) ∧ m' "text" = some (.str ⟨q.toArray⟩ t) ∧ m' "read" = some (.ref rd) ∧ m' "k" = some (.int (k : Nat) tt) ∧ k ≤ (fall (qs.take i)).length ∧ (∀ j p, j < k → (fall (qs.take i))[j]? = some p → digitsVal q ≤ digitsVal p) ∧
        (∀ b o, b ≠ s.heap.objs.size → h.get? b = some o → h'.get? b = some o) ∧ ∀ p, (fall (qs.take i))[k]? = some p → ¬ digitsVal q ≤ digitsVal p)
      (fun nn s' => ∃ h' tk' m' k tt, s' = { s with heap := h', toks := tk' } ∧ Fr s.heap s.heap.objs.size h' m' ∧ News s.heap s.heap.objs.size h' ((rw, lobj rvs n) :: (rd, lobj us nk) :: rest) ∧
        m' "row" = some (.ref rw) ∧ m' "text" = some (.str ⟨q.toArray⟩ t) ∧ m' "read" = some (.ref rd) ∧ m' "k" = some (.int (k : Nat) tt) ∧ k ≤ (fall (qs.take i)).length ∧ (∀ j p, j < k → (fall (qs.take i))[j]? = some p → digitsVal q ≤ digitsVal p) ∧
        (∀ b o, b ≠ s.heap.objs.size → h.get? b = some o → h'.get? b = some o) ∧ nn = (fall (qs.take i)).length - k) ?_ ((fall (qs.take i)).length - 0)
      ⟨h₆, _, _, 0, _, rfl, F₆, N₆, by walk_at "lk", by walk_at "lk", by walk_at "lk", by walk_at "lk", Nat.zero_le _, fun j p hj => absurd hj (Nat.not_lt_zero _), hk₆, rfl⟩) ?_))
    · rintro nn s' ⟨h₇, tk₇, m', k, tt, rfl, F₇, N₇, hm1, hm2, hm3, hm4, hk, hall, hkeep, rfl⟩
      have W₇ := W.keeps F₇.keep
      refine wpAny_isTrue_BoolOp (wpAny_allTrue_And_cons (wpAny_isTrue_Compare1 (ld (v := .int (k : Nat) tt) F₇ hm4 (Call_ (ldB W₇ boot_len (cwB (args_cons (ld (v := .ref rw) F₇ hm1 (args_nil (call_len_list ⟨_, N₇.get (.head _), rfl, _, rfl⟩ ?_ (lt_int (wpAny_truthy_bool ?_))))))))))))
      · rw [List.size_toArray]; omega
      rw [List.size_toArray, hrl]
      by_cases hkl : k < (fall (qs.take i)).length
      · rw [if_pos (by simpa using hkl)]
        obtain ⟨p, hp⟩ : ∃ p, (fall (qs.take i))[k]? = some p := ⟨_, List.getElem?_eq_getElem hkl⟩
        obtain ⟨v, hv', a, rp, up', kp, np, tp, rfl, ha, hrp, hup⟩ := Paired.get hrow hp
        have ha7 := N₇.get (.tail _ (.tail _ ha))
        have hr7 := N₇.get (.tail _ (.tail _ hrp))
        refine wpAny_allTrue_And_cons (wpAny_isTrue_Compare1 (Call_ (ldG W₇ W.coll (cwF W₇.fcoll (args_cons (Subscript_ (Subscript_ (ld (v := .ref rw) F₇ hm1 (ld (v := .int (k : Nat) tt) F₇ hm4 (sub_list (vs := rvs) (x := .ref a) ⟨_, N₇.get (.head _), rfl, _, rfl⟩ (by omega) (by omega) (by simpa using hv') (wpAny_Constant_int
          (sub_list (vs := [.ref rp, .str ⟨p.toArray⟩ tp]) (x := .ref rp) ⟨_, ha7, rfl, _, rfl⟩ (by omega) (by omega) rfl (args_cons (ld (v := .ref rd) F₇ hm3 (args_nil ⟨fun _ _ e => e, coll_ints W₇ ?_ ?_ hr7 (N₇.get (.tail _ (.head _))) hup hus ?_⟩)))))))))))))))
        · show A.depth + 1 < recursionLimit; exact hroom
        · rw [Around.deeper_units]; omega
        intro h₈ tk₈ t₈ hk₈
        dsimp only [wants] at hk₈ ⊢
        have F₈ := F₇.after hk₈
        have N₈ := News.keep N₇ fun p hp o e => hk₈ _ _ e
        refine wpAny_Constant_int (ge_int (wpAny_truthy_bool ?_))
        dsimp only
        by_cases hqp : digitsVal q ≤ digitsVal p
        · have e1 : (0 : Int) ≤ sgnI (digitsVal p : Nat) (digitsVal q : Nat) := by
            unfold sgnI; split
            · omega
            · split <;> omega
          rw [if_pos (by simpa using e1)]
          refine wpAny_allTrue_And_nil ?_
          rw [if_pos rfl]
          refine wpAny_execs_cons (wpAny_AugAssign_Name (ldn (v := .int (k : Nat) tt) F₈ hm4 (wpAny_Constant_int (iadd_int (stU F₈ N₈ fun h₉ F₉ N₉ S₉ => wpAny_execs_nil ?_)))))
          dsimp only at S₉ ⊢
          refine ⟨_, ?_, h₉, _, _, k + 1, _, rfl, F₉, N₉, by walk_at "lk", by walk_at "lk", by walk_at "lk", up_eq, hkl, ?_, fun b o hb e => S₉.extBut b o hb (hk₈ b o (hkeep b o hb e)), rfl⟩
          · omega
          · intro j p' hj e
            by_cases hjk : j < k
            · exact hall j p' hjk e
            · obtain rfl : j = k := by omega
              rw [hp] at e; cases e; exact hqp
        · have e1 : ¬ (0 : Int) ≤ sgnI (digitsVal p : Nat) (digitsVal q : Nat) := by
            unfold sgnI
            rw [if_neg (by omega), if_pos (by omega)]; omega
          rw [if_neg (by simpa using e1)]
          rw [if_neg (by decide)]
          exact wpAny_execs_nil ⟨h₈, _, m', k, tt, rfl, rfl, F₈, N₈, hm1, hm2, hm3, hm4, hk, hall, fun b o hb e => hk₈ b o (hkeep b o hb e), fun p' e => by rw [hp] at e; cases e; exact hqp⟩
      · rw [if_neg (by simpa using hkl)]
        rw [if_neg (by decide)]
        exact wpAny_execs_nil ⟨h₇, _, m', k, tt, rfl, rfl, F₇, N₇, hm1, hm2, hm3, hm4, hk, hall, hkeep, fun p' e => absurd (List.getElem?_eq_some_iff.mp e).1 hkl⟩
    · rintro r s' ⟨h₇, tk₇, m', k, tt, rfl, rfl, F₇, N₇, hm1, hm2, hm3, hm4, hk, hall, hkeep, hex⟩
      dsimp only
      have hrw7 := N₇.get (.head _)
      refine wpAny_execs_cons (wpAny_Expr_any (meth2 PySem.F.plainAttrs_list PySem.F.slot_list_insert ty_insert PySem.F.entry_list_insert (ld (v := .ref rw) F₇ hm1 ⟨⟨_, hrw7, rfl⟩, fun a e => ⟨_, (Value.ref.inj e) ▸ hrw7, rfl⟩, ld (v := .int (k : Nat) tt) F₇ hm4 (List_ (args_cons (ld (v := .ref rd) F₇ hm3 (args_cons (ld (v := .str ⟨q.toArray⟩ t) F₇ hm2 (args_nil (newLst ?_)))))))⟩)))
      have F₈ := F₇.push (lobj [.ref rd, .str ⟨q.toArray⟩ t] 0)
      have N₈ := news_swap (N₇.push F₇ (lobj [.ref rd, .str ⟨q.toArray⟩ t] 0))
      have hpl : h₇.objs.size ≠ rw := Nat.ne_of_gt (Heap.lt_size hrw7)
      have hpI : h₇.objs.size ≠ I := by
        obtain ⟨o, ho⟩ := hIx
        exact Nat.ne_of_gt (Heap.lt_size (hkeep _ _ hIL ho))
      have hk₈ : Keep h₇ (h₇.push (lobj [.ref rd, .str ⟨q.toArray⟩ t] 0)) := Keep.push _ _
      dsimp only
      generalize h₇.push (lobj [.ref rd, .str ⟨q.toArray⟩ t] 0) = h₈ at F₈ N₈ hk₈ ⊢
      refine ⟨⟨_, N₈.get (.head _), rfl⟩, PySem.F.args_list_insert_3 _ _ _, ins_meets (n := n) (rvs := rvs) (by omega) (N₈.get (.head _)) ?_⟩
      obtain ⟨F₉, N₉⟩ := news_upd (pre := []) (post := (h₇.objs.size, lobj [.ref rd, .str ⟨q.toArray⟩ t] 0) :: (rd, lobj us nk) :: rest) F₈ N₈ (fun p hp => by cases hp) (fun p hp => by
        rcases List.mem_cons.mp hp with rfl | hp
        · exact hpl
        · rcases List.mem_cons.mp hp with rfl | hp
          · exact hrdw
          · exact hrest p hp) (insF_lobj (vs := rvs) (n := n) (k := k) (y := .ref h₇.objs.size) (by omega)) rfl
      dsimp only [wants]
      refine wpAny_execs_nil ?_
      refine ⟨_, _, s.gens, _, _, rfl, F₉, N₉, ⟨_, _, _, rfl, hm1, ?_, ?_, rfl⟩, ?_, ?_⟩
      · have hn1 : qs.take (i + 1) = qs.take i ++ [q] := by rw [List.take_add_one, hq]; rfl
        rw [hn1, fall_snoc, insD_at q _ k hk hall hex]
        have hrow' : Paired (Cell ((h₇.objs.size, lobj [.ref rd, .str ⟨q.toArray⟩ t] 0) :: (rd, lobj us nk) :: rest)) rvs (fall (qs.take i)) :=
          Paired.imp hrow fun v p ⟨a, rp, up', kp, np, tp, e, ha, hrp, hup⟩ => ⟨a, rp, up', kp, np, tp, e, .tail _ (.tail _ ha), .tail _ (.tail _ hrp), hup⟩
        have hc : Cell ((h₇.objs.size, lobj [.ref rd, .str ⟨q.toArray⟩ t] 0) :: (rd, lobj us nk) :: rest) (.ref h₇.objs.size) q := ⟨h₇.objs.size, rd, us, nk, 0, t, rfl, List.mem_cons_self, List.mem_cons_of_mem _ List.mem_cons_self, hus⟩
        exact Paired.append (Paired.take hrow' k) (.cons hc (Paired.drop hrow' k))
      · intro p hp
        rcases List.mem_cons.mp hp with rfl | hp
        · exact hpl
        · rcases List.mem_cons.mp hp with rfl | hp
          · exact hrdw
          · exact hrest p hp
      · intro p hp q'
        have q' := List.mem_singleton.mp q'
        rcases List.mem_cons.mp hp with rfl | hp
        · exact hnI _ (.head _) q'
        · rcases List.mem_cons.mp hp with rfl | hp
          · exact hpI q'
          · rcases List.mem_cons.mp hp with rfl | hp
            · exact hrdI q'
            · exact hnI _ (.tail _ hp) q'
      · intro b o hb hb' e
        refine (Heap.get?_update_ne _ _ _ _ (fun (z : b = rw) => hb' (z ▸ .head _))).trans (hk₈ _ _ (hkeep b o hb e))
  · rintro m₁ nx h tk g ⟨rvs, n, rest, rfl, hm, hrow, hrest, rfl⟩ Fn Nn
    dsimp only
    have hfin : fall (qs.take vs.toArray.size) = fall qs := by
      rw [List.size_toArray, hi.len, List.take_length]
    rw [hfin] at hrow
    have hrl : rvs.length = qs.length := by rw [hrow.length, fall_len]
    refine wpAny_execs_cons (wpAny_Return_some (comp_eval hh' (ld (v := .ref rw) Fn hm ⟨rw, rvs.toArray, fun i y _ => ∃ q t, (fall qs)[i]? = some q ∧ y = Value.str ⟨q.toArray⟩ t, rfl, ⟨_, Nn.get (.head _), rfl, _, rfl⟩, ?_, ?_, ?_, ?_⟩)))
    · rw [sizeLine_eq, List.size_toArray]; omega
    · intro I i v s' Q E' hv hit hQ
      obtain ⟨q, hq⟩ : ∃ q, (fall qs)[i]? = some q := by
        have : i < rvs.length := by simpa using (Array.getElem?_eq_some_iff.mp hv).1
        exact ⟨_, List.getElem?_eq_getElem (by rw [fall_len]; omega)⟩
      obtain ⟨v', hv', a, rp, up', kp, np, tp, rfl, ha, hrp, hup⟩ := Paired.get hrow hq
      obtain rfl : v = .ref a := by rw [List.getElem?_toArray, hv'] at hv; cases hv; rfl
      exact wpAny_letOwnedTupleGo_listiter hit hQ
    · intro C i v h' tk' m₃ E' hv hn hk hC
      obtain ⟨q, hq⟩ : ∃ q, (fall qs)[i]? = some q := by
        have : i < rvs.length := by simpa using (Array.getElem?_eq_some_iff.mp hv).1
        exact ⟨_, List.getElem?_eq_getElem (by rw [fall_len]; omega)⟩
      obtain ⟨v', hv', a, rp, up', kp, np, tp, rfl, ha, hrp, hup⟩ := Paired.get hrow hq
      obtain rfl : v = .ref a := by rw [List.getElem?_toArray, hv'] at hv; cases hv; rfl
      have ha' := hk _ _ (Nn.get (.tail _ ha))
      refine pair_list (m := m₃) hh' ⟨_, ha', rfl, _, rfl⟩ hn fun h₂ tk₂ hn₂ hk₂ => ?_
      refine ldE hn₂ up_eq ⟨h₂, tk₂, rfl, hk₂, ⟨_, hn₂⟩, fun h'' _ _ => ⟨q, tp, hq, rfl⟩⟩
    · intro D h' tk' ys n' hD hD' hlen' hF hk
      refine hR D ys n' h' tk' ?_ hD' (strs_of (by rw [hlen', List.size_toArray, fall_len, hrl]) hF) fun b o e => hk b o (Fn.keep b o e)
      cases e : s.heap.get? D with
      | none => rfl
      | some o => rw [Fn.keep _ _ e] at hD; cases hD
end
end Mine
end
section 
open PySem PySem.W PyProof.Rows PySem.Calls PySem.Spec
set_option maxRecDepth 100000
set_option maxHeartbeats 4000000
namespace Mine
/-- what the comprehension's own objects (its names, its cells) hold -/
structure Own (own : List Addr) (St : Heap → Prop) : Prop where
  alive : ∀ h, St h → ∀ b ∈ own, ∃ o, h.get? b = some o
  frame : ∀ h h', St h → (∀ b ∈ own, ∀ o, h.get? b = some o → h'.get? b = some o) → St h'
section
variable {prog : Program} {w : World} {A : Around} {E : Value → Shared → Prop} {R : Result → Shared → Prop} {s s₁ : Shared}
def EltG (h : Heap) (own : List Addr) (St : Heap → Prop) (h₁ : Heap) (F : Value → Heap → Prop) (s₁ : Shared) (y : Value) (s' : Shared) : Prop :=
  ∃ h' tk', s' = { s₁ with heap := h', toks := tk' } ∧ (∀ b o, b ∉ own → h.get? b = some o → h'.get? b = some o) ∧ St h' ∧
    ∀ h'', (∀ b o, h.get? b = none → h'.get? b = some o → h''.get? b = some o) → Keep h₁ h'' → F y h''
theorem comp_loopG {elt target iter : Expr} {scope : Scope} {pos : Pos} {I ax D : Addr} {cenv : Env} {items : Array Value} {own : List Addr} {St : Heap → Prop} {h₁ : Heap} (O : Own own St) (F : Nat → Value → Heap → Prop)
    (hh : A.handled = none) (hax : ax ≠ I) (hDI : D ≠ I) (hDC : D ∉ own) (hIC : I ∉ own) (haC : ax ∉ own) (haD : ax ≠ D)
    (h1I : h₁.get? I = none) (h1D : h₁.get? D = none) (h1C : ∀ b ∈ own, h₁.get? b = none) (hk₁ : Keep h₁ s.heap)
    (hit : s.heap.IsListIter I ax 0) (hl : s.heap.IsList ax items) (hacc : s.heap.PlainList D #[]) (hn : St s.heap)
    (hlet : ∀ i v s' (Q : Unit → Shared → Prop) E', items[i]? = some v → s'.heap.IsListIter I ax (i + 1) → Q () s' → wpAny (model prog w) A (letOwnedTupleGo target (.ref I) v) Q E' s')
    (helt : ∀ i v h tk E', items[i]? = some v → St h → Keep h₁ h →
      wpAny (model prog w) A (assign target cenv v) (fun _ s₄ => wpAny (model prog w) A (eval elt cenv) (EltG h own St h₁ (F i) s) E' s₄) E' { s with heap := h, toks := tk })
    (hR : ∀ h' tk ys, St h' → h'.PlainList D (List.toArray ys) → ys.length = items.size →
      (∀ h'', (∀ b o, h₁.get? b = none → b ∉ own → b ≠ I → b ≠ D → h'.get? b = some o → h''.get? b = some o) → Keep h₁ h'' → ∀ i y, ys[i]? = some y → F i y h'') →
      Keep h₁ h' → R (.ok .next) { s with heap := h', toks := tk })
    (hsz : items.size ≤ sizeLine := by size_fits) :
    codeAny (model prog w) A (.compLoop (.ListComp elt [⟨target, iter, [], 0⟩] scope pos) 0 (.ref I) (.ref D) cenv) R s := by
  have n1 : ∀ {b c o}, h₁.get? c = none → h₁.get? b = some o → b ≠ c := fun hc e q => by rw [q, hc] at e; cases e
  have nO : ∀ {b o}, h₁.get? b = some o → b ∉ own := fun e q => by rw [h1C _ q] at e; cases e
  refine kcp_loop
    (fun k s' => ∃ h' tk ys i, s' = { s with heap := h', toks := tk } ∧ h'.IsListIter I ax i ∧ h'.IsList ax items ∧ h'.PlainList D (List.toArray ys) ∧ St h' ∧
      ys.length = i ∧ i ≤ items.size ∧ k = items.size + 1 - i ∧ Keep h₁ h' ∧
      (∀ h'', (∀ b o, h₁.get? b = none → b ∉ own → b ≠ I → b ≠ D → h'.get? b = some o → h''.get? b = some o) → Keep h₁ h'' → ∀ i y, ys[i]? = some y → F i y h'')) ?_ (items.size + 1)
    ⟨s.heap, s.toks, [], 0, rfl, hit, hl, hacc, hn, rfl, Nat.zero_le _, rfl, hk₁, fun _ _ _ i y e => by simp at e⟩
  rintro k s' ⟨H, tk, ys, i, rfl, hit', hl', hacc', hn', hlen, hi, rfl, hk, hF⟩
  cases hv : items[i]? with
  | none =>
    have hsz : items.size ≤ i := by simpa using hv
    refine wpAny_pyNext_list_end hh hit' hl' hv fun h₂ he₂ => ?_
    exact hR h₂ tk ys (O.frame _ _ hn' fun b hb o e => he₂ b o (fun q => hIC (q ▸ hb)) e) (hacc'.at fun o e => he₂ _ o hDI e) (by omega)
      (fun h'' k1 k2 => hF h'' (fun b o e1 hc hI hD e => k1 b o e1 hc hI hD (he₂ b o hI e)) k2) fun b o e => he₂ b o (n1 h1I e) (hk b o e)
  | some v =>
    have hlt : i < items.size := (Array.getElem?_eq_some_iff.mp hv).1
    refine wpAny_pyNext_list_item hit' hl' hv fun h₂ hit₂ hs₂ => ?_
    refine hlet i v _ _ _ hv hit₂ ?_
    have hn₂ : St h₂ := O.frame _ _ hn' fun b hb o e => hs₂.extBut b o (fun q => hIC (q ▸ hb)) e
    have hk₂ : Keep h₁ h₂ := fun b o e => hs₂.extBut b o (n1 h1I e) (hk b o e)
    refine wpAny_mono (helt i v h₂ tk _ hv hn₂ hk₂) (fun _ s₄ h₄ => wpAny_mono h₄ (fun y s₅ h₅ => ?_) fun _ _ e => e) fun _ _ e => e
    obtain ⟨h₅, tk₅, rfl, hk₅, hn₅, hF₅⟩ := h₅
    have hacc₅ : h₅.PlainList D (List.toArray ys) := hacc'.at fun o e => hk₅ _ o hDC (hs₂.extBut _ o hDI e)
    refine wpAny_list_append_plain (hsz := by simp; omega) hacc₅ fun h₆ hl₆ hs₆ => ?_
    have hk₆ : Keep h₁ h₆ := fun b o e => hs₆.extBut b o (n1 h1D e) (hk₅ b o (nO e) (hk₂ b o e))
    refine ⟨items.size + 1 - (i + 1), by omega, h₆, tk₅, ys ++ [y], i + 1, rfl, ?_, ?_, ?_, O.frame _ _ hn₅ (fun b hb o e => hs₆.extBut b o (fun q => hDC (q ▸ hb)) e), by simp [hlen], hlt, rfl, hk₆, ?_⟩
    · exact hit₂.at fun o e => hs₆.extBut _ o (Ne.symm hDI) (hk₅ _ o hIC e)
    · exact hl'.at fun o e => hs₆.extBut _ o haD (hk₅ _ o haC (hs₂.extBut _ o hax e))
    · simpa using hl₆
    · intro h'' k1 k2 j z hz
      by_cases hj : j < i
      · rw [List.getElem?_append_left (by omega)] at hz
        exact hF h'' (fun b o e1 hc hI hD e => k1 b o e1 hc hI hD (hs₆.extBut b o hD (hk₅ b o hc (hs₂.extBut b o hI e)))) k2 j z hz
      · have hj' : j = i := by
          have := (List.getElem?_eq_some_iff.mp hz).1
          simp at this; omega
        subst hj'
        rw [List.getElem?_append_right (by omega), hlen, Nat.sub_self] at hz
        obtain rfl : y = z := by simpa using hz
        refine hF₅ h'' (fun b o e0 e => ?_) k2
        have hbC : b ∉ own := fun q => by
          obtain ⟨_, ho⟩ := O.alive _ hn₂ b q; rw [ho] at e0; cases e0
        have hbI : b ≠ I := fun q => by
          obtain ⟨_, ho, _⟩ := hit₂; rw [q, ho] at e0; cases e0
        have hbD : b ≠ D := fun q => by
          obtain ⟨_, ho⟩ := hacc'; rw [q, hs₂.extBut _ _ hDI ho] at e0; cases e0
        refine k1 b o ?_ hbC hbI hbD (hs₆.extBut b o hbD e)
        cases q : h₁.get? b with
        | none => rfl
        | some o' => rw [hk₂ b o' q] at e0; cases e0
/-- the comprehension's own block where its one name is a cell -/
theorem comp_evalK {env : Env} {elt iter : Expr} {x : Str} {px : Pos} {scope : Scope} {cl : List (Str × Addr)} {pos : Pos} {Q : Value → Shared → Prop}
    (hh : A.handled = none)
    (h : wpAny (model prog w) A (eval iter env) (fun xv s₁ => ∃ (ax : Addr) (items : Array Value) (F : Nat → Value → Heap → Prop), xv = .ref ax ∧ s₁.heap.IsList ax items ∧ items.size ≤ sizeLine ∧
      (∀ C c i v h tk E', items[i]? = some v → h.IsCell c (some v) → Keep s₁.heap h →
        wpAny (model prog w) A (eval elt (compEnvC scope ((x, c) :: cl) C env)) (fun y s₅ => ∃ h' tk', s₅ = { s₁ with heap := h', toks := tk' } ∧ Keep h h' ∧
          ∀ h'', (∀ b o, h.get? b = none → h'.get? b = some o → h''.get? b = some o) → Keep s₁.heap h'' → F i y h'') E' { s₁ with heap := h, toks := tk }) ∧
      (∀ D h' tk ys n, s₁.heap.get? D = none → h'.get? D = some (lobj ys n) → ys.length = items.size → (∀ i y, ys[i]? = some y → F i y h') → Keep s₁.heap h' → Q (.ref D) { s₁ with heap := h', toks := tk })) E s)
    (hx : ∀ n, cellsFrom n scope.names cl = (x, n) :: cl) (hpc : ∀ h, pushCells h scope.names = h.push { cls := .type "cell", data := .cell none })
    (hkx : (relabel scope env).names.lookup x = some .cell)
    (hclos : closureFor scope env = pure cl := by rfl) (hkind : scope.kind = .function := by rfl)
    (hnames : ∀ y ∈ scope.names, y.2 = .local → scope.names.lookup y.1 = some .local := by decide)
    (hs : ∀ x, foldedSetIterable iter env x = pure x := by intro _; rfl) :
    wpAny (model prog w) A (eval (.ListComp elt [⟨.Name x px, iter, [], 0⟩] scope pos) env) Q E s := by
  rw [eval_ListComp]
  refine wpAny_comprehension_free (use := none) rfl hs hclos hkind hnames (wpAny_mono h (fun xv s₁ h₁ => ?_) fun _ _ e => e)
  obtain ⟨ax, items, F, rfl, hl, hsz, helt, hQ⟩ := h₁
  obtain ⟨ol, hol, hol'⟩ := id hl
  have hax : ax < s₁.heap.objs.size := Heap.lt_size hol
  refine wpAny_pyIter_list hl (wpAny_newObj_type (hd := by size_fits) ?_)
  simp only [newFunctionEnv, Option.isSome_some, if_true]
  refine wpAny_bind (wpAny_alloc ?_)
  refine wpAny_bind (wpAny_layCells _ (fun name kind cells => by cases hkc : kind == NameKind.cell <;> simp [hkc]) _ _ _ _ ?_)
  dsimp only
  generalize hH1 : s₁.heap.push { cls := .type "list_iterator", data := .fields #[.ref ax, .int 0 0] } = H1
  have hD : H1.objs.size = s₁.heap.objs.size + 1 := by rw [← hH1, Heap.size_push]
  generalize hH2 : H1.push { cls := .type "list", dict := none, data := .seq ([] : List Value).toArray } = H2
  have hC : H2.objs.size = s₁.heap.objs.size + 2 := by rw [← hH2, Heap.size_push, hD]
  generalize hH3 : H2.push { cls := .type "dict", dict := none, data := .dict #[] } = H3
  have hc : H3.objs.size = s₁.heap.objs.size + 3 := by rw [← hH3, Heap.size_push, hC]
  rw [hx, hpc]
  generalize hH4 : H3.push { cls := .type "cell", dict := none, data := .cell none } = H4
  refine wpAny_bind (wpAny_pure (wpAny_pure ?_))
  dsimp only
  have lt1 : s₁.heap.objs.size < s₁.heap.objs.size + 1 := Nat.lt_succ_self _
  have hDI : H1.objs.size ≠ s₁.heap.objs.size := by rw [hD]; exact Nat.succ_ne_self _
  have k4 : Keep s₁.heap H4 := fun b o e => hH4 ▸ Heap.get?_push_of_some _ (hH3 ▸ Heap.get?_push_of_some _ (hH2 ▸ Heap.get?_push_of_some _ (hH1 ▸ Heap.get?_push_of_some _ e)))
  have hit : H4.IsListIter s₁.heap.objs.size ax 0 := ⟨_, hH4 ▸ Heap.get?_push_of_some _ (hH3 ▸ Heap.get?_push_of_some _ (hH2 ▸ Heap.get?_push_of_some _ (hH1 ▸ Heap.get?_push_size _ rfl))), rfl, rfl⟩
  have hacc : H4.PlainList H1.objs.size #[] := ⟨_, hH4 ▸ Heap.get?_push_of_some _ (hH3 ▸ Heap.get?_push_of_some _ (hH2 ▸ Heap.get?_push_size _ rfl))⟩
  have hns : H4.Ns H2.objs.size fun _ => none := (Heap.Ns.new H2 (.type "dict")).keeps fun b o e => hH4 ▸ Heap.get?_push_of_some _ (hH3 ▸ e)
  have hcell : H4.IsCell H3.objs.size none := ⟨_, hH4 ▸ Heap.get?_push_size _ rfl, rfl⟩
  have nn : ∀ {a : Nat}, s₁.heap.objs.size ≤ a → s₁.heap.get? a = none := fun h => none_of_ge h
  have hCc : H3.objs.size ≠ H2.objs.size := by rw [hc, hC]; exact Nat.succ_ne_self _
  have O : Own [H2.objs.size, H3.objs.size] (fun h => (∃ m, h.Ns H2.objs.size m) ∧ ∃ v, h.IsCell H3.objs.size v) := by
    refine ⟨fun h st b hb => ?_, fun h h' st hk => ?_⟩
    · obtain ⟨⟨m, o, _, _, ho, _⟩, v, o', ho', _⟩ := st
      rcases List.mem_cons.mp hb with e | hb
      · exact ⟨o, e ▸ ho⟩
      · exact ⟨o', (List.mem_singleton.mp hb) ▸ ho'⟩
    · obtain ⟨⟨m, hm⟩, v, o', ho', hd⟩ := st
      exact ⟨⟨m, hm.at' fun o e => hk _ (.head _) o e⟩, v, o', hk _ (.tail _ (.head _)) _ ho', hd⟩
  have out : ∀ {b : Nat}, b < s₁.heap.objs.size + 2 → b ∉ [H2.objs.size, H3.objs.size] := fun {b} hb q => by
    rw [hC, hc] at q
    rcases List.mem_cons.mp q with e | q
    · exact absurd e (Nat.ne_of_lt hb)
    · exact absurd (List.mem_singleton.mp q) (Nat.ne_of_lt (Nat.lt_succ_of_lt hb))
  have loop : ∀ s₂ : Shared, s₂ = { s₁ with heap := H4 } →
      codeAny (model prog w) A (.compLoop (.ListComp elt [⟨.Name x px, iter, [], 0⟩] scope pos) 0 (.ref s₁.heap.objs.size) (.ref H1.objs.size) (compEnvC scope ((x, H3.objs.size) :: cl) H2.objs.size env))
        (compPost (model prog w) A E none Q (.ref H1.objs.size) H2.objs.size) s₂ := by
    rintro s₂ rfl
    refine comp_loopG (cenv := compEnvC scope ((x, H3.objs.size) :: cl) H2.objs.size env) (h₁ := s₁.heap) O F hh (Nat.ne_of_lt hax) hDI (out (by rw [hD]; exact Nat.lt_succ_self _)) (out (Nat.lt_succ_of_lt lt1)) (out (Nat.lt_succ_of_lt (Nat.lt_succ_of_lt hax))) (by rw [hD]; exact Nat.ne_of_lt (Nat.lt_succ_of_lt hax))
      (nn (Nat.le_refl _)) (nn (by rw [hD]; exact Nat.le_succ _)) (fun b hb => ?_) k4 hit (hl.at fun o e => k4 _ o e) hacc ⟨⟨_, hns⟩, _, hcell⟩ (fun i v s' Q E' _ _ hQ => wpAny_pure hQ) ?_ ?_ hsz
    · rw [hC, hc] at hb
      rcases List.mem_cons.mp hb with e | hb
      · exact nn (by rw [e]; exact Nat.le_add_right _ 2)
      · exact nn (by rw [List.mem_singleton.mp hb]; exact Nat.le_add_right _ 3)
    · rintro i v h tk E' hv ⟨⟨m, hm⟩, v₀, hv₀⟩ hk
      refine wpAny_assign_Name (wpAny_storeName_cell (c := H3.objs.size) hkind hkx (by simp [compEnvC]) hv₀ fun h₂ hc₂ hs₂ => ?_)
      have hk₂ : Keep s₁.heap h₂ := fun b o e => hs₂.extBut b o (fun q => by
        have := Heap.lt_size e
        rw [q, hc] at this
        exact absurd this (Nat.not_lt.mpr (Nat.le_add_right _ 3))) (hk b o e)
      refine wpAny_mono (helt H2.objs.size H3.objs.size i v h₂ tk _ hv hc₂ hk₂) (fun y s₅ h₅ => ?_) fun _ _ e => e
      obtain ⟨h', tk', rfl, hk', hF⟩ := h₅
      refine ⟨h', tk', rfl, fun b o hb e => hk' b o (hs₂.extBut b o (fun q => hb (q ▸ .tail _ (.head _))) e), ⟨⟨m, (hm.sameBut hs₂ (Ne.symm hCc)).keeps hk'⟩, _, hc₂.keeps hk'⟩, fun h'' k1 k2 => hF h'' (fun b o e0 e => k1 b o ?_ e) k2⟩
      cases q : h.get? b with
      | none => rfl
      | some o' =>
        by_cases hb : b = H3.objs.size
        · obtain ⟨_, ho, _⟩ := hc₂
          rw [hb, ho] at e0; cases e0
        · rw [hs₂.extBut b o' hb q] at e0; cases e0
    · rintro h' tk ys ⟨⟨m, hm⟩, _⟩ ⟨n, hpl⟩ hlen hF hk
      refine ⟨m, hm, fun h'' hs'' => ?_⟩
      have hnC : ∀ {b o}, s₁.heap.get? b = some o → b ≠ H2.objs.size := fun {b o} e q => by
        have := Heap.lt_size e
        rw [q, hC] at this
        exact absurd this (Nat.not_lt.mpr (Nat.le_add_right _ 2))
      have hk'' : Keep s₁.heap h'' := fun b o e => hs''.extBut b o (hnC e) (hk b o e)
      exact hQ H1.objs.size h'' tk ys n (nn (by rw [hD]; exact Nat.le_succ _)) (hs''.extBut _ _ (by rw [hD, hC]; exact Nat.ne_of_lt (Nat.lt_succ_self _)) hpl) hlen
        (hF h'' (fun b o _ hc' _ _ e => hs''.extBut b o (fun q => hc' (q ▸ .head _)) e) hk'') hk''
  exact codeAny_compStart_list (loop _ rfl) (wpAny_pyIter_listiter hit (loop _ rfl))
end
end Mine
end
section 
open PySem PySem.W PyProof.Rows PySem.Calls PySem.Spec PySem.NumText
set_option maxRecDepth 100000
set_option maxHeartbeats 4000000
namespace Mine
local macro_rules | `(tactic| walk_at "lk") => `(tactic| (repeat (first | exact up_eq | assumption | refine up_of ?_ (by decide))))
theorem ints_of {ys : List Value} : ∀ {zs : List Int}, ys.length = zs.length → (∀ (i : Nat) (y : Value), ys[i]? = some y → ∃ (z : Int) (t : Tok), zs[i]? = some z ∧ y = Value.int z t) → IntsAre ys zs := by
  induction ys with
  | nil => intro qs hl _; cases qs with
    | nil => exact .nil
    | cons => simp at hl
  | cons v r ih => intro qs hl h; cases qs with
    | nil => simp at hl
    | cons q qs =>
      obtain ⟨q', t, e, rfl⟩ := h 0 v rfl
      obtain rfl : q = q' := by simpa using e
      exact .cons _ _ (ih (by simpa using hl) fun i v e => by simpa using h (i + 1) v (by simpa using e))
def pos0 (x : Int) : Int := if 0 > x then 0 else x
def toldAt (ns : List Int) (i k : Int) : Int := i * k + (ns.map fun n => pos0 (n - k)).sum
def IsMinT (ns : List Int) (i M : Int) : Prop := (∃ k ∈ ns, M = toldAt ns i k) ∧ ∀ k ∈ ns, M ≤ toldAt ns i k
section
variable {prog : Program} {w : World} {A : Around} {E : Value → Shared → Prop} {s : Shared} {env : Env} {mg mb : Str → Option Value}
theorem ldCell {x : Str} {pos : Pos} {c : Addr} {v : Value} {Q : Value → Shared → Prop} (hv : s.heap.IsCell c (some v)) (h : Q v s) (hc : env.cells.lookup x = some c := by rfl)
    (hk : env.scope.kind = .function := by rfl) (hl : env.kindOf x = some .cell := by rfl) (hd : (x == ("__debug__" : Str)) = false := by decide) :
    wpAny (model prog w) A (eval (.Name x pos) env) Q E s := wpAny_Name (wpAny_loadName_cell hk hl hc hv h) hd
theorem min_L {l : Addr} {vs : List Value} {ns : List Int} {Q : Value → Shared → Prop} (hh : A.handled = none) (hl : s.heap.IsList l vs.toArray) (hi : IntsAre vs ns) (hne : 0 < ns.length)
    (h : ∀ h' M (t : Tok) tk, Keep s.heap h' → M ∈ ns → (∀ a, a ∈ ns → M ≤ a) → Q (.int M t) { s with heap := h', toks := tk }) :
    wpAny (model prog w) A (call (.builtin "min") [.ref l]) Q E s := by
  obtain ⟨xs, e⟩ := hi.allInts.items
  have hns : ns = xs.toList.map (·.1) := by
    rw [← hi.numsOf, ← nums_intItems, ← e]
  have hsz : 0 < xs.size := by
    have h3 := hne; rw [hns, List.length_map, Array.length_toList] at h3; exact h3
  rw [e] at hl
  refine min_intList hh hl hsz fun v h' tk hv hk => ?_
  obtain ⟨t, rfl⟩ := intItems_at hv
  obtain ⟨h1, h2⟩ := argBest_lt (numAt xs) (xs.size - 1)
  refine h _ _ t tk hk ?_ fun a ha => ?_
  · rw [hns, numAt_eq]; exact getD_mem (by rw [List.length_map, Array.length_toList]; omega)
  · rw [hns] at ha
    obtain ⟨j, hj, rfl⟩ := mem_getD ha
    rw [List.length_map, Array.length_toList] at hj
    rw [← numAt_eq]; exact h2 j (by omega)
theorem sum_L {l : Addr} {vs : List Value} {ns : List Int} {Q : Value → Shared → Prop} (hh : A.handled = none) (hl : s.heap.IsList l vs.toArray) (hi : IntsAre vs ns)
    (h : ∀ h' tk t', Keep s.heap h' → Q (.int ns.sum t') { s with heap := h', toks := tk }) : wpAny (model prog w) A (call (.builtin "sum") [.ref l]) Q E s := by
  obtain ⟨xs, hx⟩ := hi.allInts.items
  have hl' : s.heap.IsList l (intItems xs) := hx ▸ hl
  refine sum_intListG hh hl' fun h' tk t' hk => ?_
  have e1 : ns = xs.toList.map (·.1) := by
    rw [← nums_intItems, ← hx]
    exact (show numsOf vs.toArray.toList = ns from hi.numsOf).symm
  have e2 : preSum (numAt xs) xs.size = ns.sum := by
    rw [preSum_eq, List.take_of_length_le (by simp), e1]
  rw [e2]
  exact h h' tk t' hk
/-- store under a local name, any env -/
theorem stE {h₀ : Heap} {m : Str → Option Value} {news : List (Addr × Obj)} {x : Str} {v : Value} {Q : Unit → Shared → Prop} (F : Fr h₀ env.locals s.heap m) (N : News h₀ env.locals s.heap news)
    (h : ∀ h', Fr h₀ env.locals h' (up m x v) → News h₀ env.locals h' news → Heap.SameBut env.locals s.heap h' → Q () { s with heap := h', toks := s.toks + 1 })
    (hl : env.kindOf x = some .local := by rfl) (hp : (env.scope.kind == .class || (env.scope.kind == .module && env.locals != env.globals)) = false := by rfl) :
    wpAny (model prog w) A (storeName env x v) Q E s :=
  wpAny_storeName_local hl F.ns (fun h' hn hs => h h' (F.set hn hs) (N.set hs) hs) hp
end
theorem IntsAre.item {vs : List Value} {ns : List Int} (h : IntsAre vs ns) {i : Nat} {v : Value} (e : vs[i]? = some v) : ∃ n t, v = .int n t ∧ ns[i]? = some n := h.at i v e
abbrev E0 (L f : Addr) (cd : Value) : Env := envOfC "_law_told" (scpP 12) L f cd
def tBody : List Stmt := match (bdyP 12)[1]? with | some (Stmt.For _ _ b _ _) => b | _ => []
section
variable {prog : Program} {w : World} {A : Around} {R : Result → Shared → Prop} {s : Shared} {mg mb : Str → Option Value}
theorem told_loop {h₀ : Heap} {L f l td I : Addr} {cd : Value} {px : Pos} {m : Str → Option Value} {oi on : Obj} {vs : List Value} {ns : List Int} {c : Nat} (W : Wd mg mb h₀) (hh : A.handled = none)
    (hl : h₀.IsList l vs.toArray) (hi : IntsAre vs ns) (hne : 0 < ns.length) (hlen : ns.length < 1000) (hb : ∀ n ∈ ns, 0 ≤ n ∧ n ≤ 1000) (hc : c < 1000)
    (F : Fr h₀ L s.heap m) (N : News h₀ L s.heap [(td, lobj [] 0), (L + 1 + 1, oi), (L + 1, on)]) (hm : m "told" = some (.ref td)) (hoi : oi.data = .cell none) (hon : on.data = .cell (some (.ref l)))
    (hit : IsRangeIter s.heap I 1 (c : Int) 1) (hI0 : h₀.get? I = none) (hIL : I ≠ L) (hI1 : I ≠ td) (hI2 : I ≠ L + 1 + 1) (hI3 : I ≠ L + 1) (hd1 : td ≠ L + 1 + 1) (hd2 : td ≠ L + 1)
    (done : ∀ h' tk us n ms, Fr h₀ L h' m → News h₀ L h' [(td, lobj us n)] → IntsAre us ms → ms.length = c → (∀ (j : Nat) M, ms[j]? = some M → IsMinT ns ((j : Int) + 1) M) → R (.ok .next) { s with heap := h', toks := tk }) :
    codeAny (model prog w) A (.forLoop (.Name "i" px) (.ref I) tBody [] (E0 L f cd)) R s := by
  refine codeAny_forLoop (fun k s' => ∃ h' tk' us n ms oi' j v, s' = { s with heap := h', toks := tk' } ∧ IsRangeIter h' I (1 + (j : Nat)) ((c : Int) - (j : Nat)) 1 ∧ Fr h₀ L h' m ∧ News h₀ L h' [(td, lobj us n), (L + 1 + 1, oi'), (L + 1, on)] ∧ oi'.data = .cell v ∧
      IntsAre us ms ∧ ms.length = j ∧ (∀ (j : Nat) M, ms[j]? = some M → IsMinT ns ((j : Int) + 1) M) ∧ j ≤ c ∧ k = c + 1 - j) ?_ (c + 1)
    ⟨s.heap, s.toks, [], 0, [], oi, 0, none, rfl, by simpa using hit, F, N, hoi, .nil, rfl, fun j M e => by simp at e, Nat.zero_le _, rfl⟩
  rintro k s' ⟨h, tk, us, n, ms, oi', j, v₀, rfl, hit', F₁, N₁, hoi', hus, hms, hmin, hj, rfl⟩
  by_cases hlt : j < c
  · refine wpAny_pyNext_range_item hit' (by omega) fun h₂ hit₂ hs₂ => ?_
    have F₂ : Fr h₀ L h₂ m := F₁.change hs₂ hIL hI0
    have N₂ : News h₀ L h₂ [(td, lobj us n), (L + 1 + 1, oi'), (L + 1, on)] := News.keep N₁ fun p hp o e => hs₂.extBut _ _ (by
      simp only [List.mem_cons, List.not_mem_nil, or_false] at hp
      rcases hp with rfl | rfl | rfl
      · exact Ne.symm hI1
      · exact Ne.symm hI2
      · exact Ne.symm hI3) e
    refine wpAny_assign_Name (wpAny_storeName_cell (c := L + 1 + 1) (v₀ := v₀) rfl rfl rfl ⟨oi', N₂.get (.tail _ (.head _)), hoi'⟩ fun h₃ hc₃ hs₃ => ?_)
    dsimp only at hs₃ hc₃ ⊢
    obtain ⟨oj, hoj, hojd⟩ := hc₃
    have hLi : L + 1 + 1 ≠ L := (N₂ _ (.tail _ (.head _))).2.1
    have h0i : h₀.get? (L + 1 + 1) = none := (N₂ _ (.tail _ (.head _))).2.2
    have F₃ : Fr h₀ L h₃ m := F₂.change hs₃ hLi h0i
    have N₃ : News h₀ L h₃ [(td, lobj us n), (L + 1 + 1, oj), (L + 1, on)] := by
      intro p hp
      simp only [List.mem_cons, List.not_mem_nil, or_false] at hp
      rcases hp with rfl | rfl | rfl
      · exact ⟨hs₃.extBut _ _ hd1 (N₂ _ (.head _)).1, (N₂ _ (.head _)).2⟩
      · exact ⟨hoj, hLi, h0i⟩
      · exact ⟨hs₃.extBut _ _ (Nat.ne_of_lt (Nat.lt_succ_self _)) (N₂ _ (.tail _ (.tail _ (.head _)))).1, (N₂ _ (.tail _ (.tail _ (.head _)))).2⟩
    have hit₃ : IsRangeIter h₃ I (1 + ((j + 1 : Nat) : Int)) ((c : Int) - ((j + 1 : Nat) : Int)) 1 := by
      have := hs₃.extBut _ _ hI2 hit₂
      have e1 : (1 : Int) + ((j + 1 : Nat) : Int) = 1 + (j : Nat) + 1 := by omega
      have e2 : (c : Int) - ((j + 1 : Nat) : Int) = (c : Int) - (j : Nat) - 1 := by omega
      rw [e1, e2]; exact this
    have W₃ := W.keeps F₃.keep
    have htd := N₃.get (.head _)
    refine wpAny_execs_cons (wpAny_Expr_any (meth1 PySem.F.plainAttrs_list PySem.F.slot_list_append ty_append PySem.F.entry_list_append (ldE (v := .ref td) F₃.ns hm ⟨⟨_, htd, rfl⟩, fun a e => ⟨_, (Value.ref.inj e) ▸ htd, rfl⟩, Call_ (ldB W₃ boot_min (cwB (args_cons ?_)))⟩)))
    have hl₃ : h₃.IsList l vs.toArray := hl.at fun o e => F₃.keep _ o e
    have hvl : vs.length = ns.length := hi.length
    have hszl : vs.toArray.size ≤ sizeLine := by rw [sizeLine_eq, List.size_toArray]; omega
    have hon₃ : h₃.IsCell (L + 1) (some (.ref l)) := ⟨on, N₃.get (.tail _ (.tail _ (.head _))), hon⟩
    have hoi₃ : h₃.IsCell (L + 1 + 1) (some (.int (1 + (j : Nat)) tk)) := ⟨oj, hoj, hojd⟩
    refine comp_evalK (x := "k") (cl := [("numbers", L + 1), ("i", L + 1 + 1)]) hh (ldCell (c := L + 1) hon₃ ⟨l, vs.toArray, fun i y _ => ∃ k t, ns[i]? = some k ∧ y = Value.int (toldAt ns (1 + (j : Nat)) k) t, rfl, hl₃, hszl, ?_, ?_⟩) (fun n => rfl) (fun h => rfl) rfl
    · intro C c' i v h₄ tk₄ E' hv hcell hk₄
      obtain ⟨kk, t', rfl, hkk⟩ := IntsAre.item hi (by simpa using hv)
      have hkb := hb kk (List.mem_of_getElem? hkk)
      have W₄ := W₃.keeps hk₄
      refine wpAny_BinOp (wpAny_BinOp (ldCell (c := L + 1 + 1) (hoi₃.keeps hk₄) (ldCell (c := c') hcell (mul_int ?_ (IntMulOk.of_left (intBits_le_64 (by omega) (by omega)))))))
      refine Call_ (ldB W₄ boot_sum (cwB (args_cons (comp_eval hh (ldCell (c := L + 1) (hon₃.keeps hk₄) ⟨l, vs.toArray, fun i y _ => ∃ n t, ns[i]? = some n ∧ y = Value.int (pos0 (n - kk)) t, rfl, hl₃.at (fun o e => hk₄ _ o e), hszl, ?_, ?_, ?_⟩)))))
      · intro I i v s' Q E' _ _ hQ; exact wpAny_pure hQ
      · intro C2 i2 v2 h₅ tk₅ m₅ E2 hv2 hn₅ hk₅ hC2
        obtain ⟨n2, t2, rfl, hn2⟩ := IntsAre.item hi (by simpa using hv2)
        refine elt_name hn₅ hk₅ hC2 fun h₆ tk₆ hn₆ hk₆ => ?_
        refine Call_ (ldB (W₄.keeps hk₆) boot_max (cwB (args_cons (wpAny_BinOp (ldE hn₆ up_eq (ldCell (c := c') (hcell.keeps hk₆) (sub_int (args_cons (wpAny_Constant_int (args_nil (max_two_ints hh fun h₇ tk₇ hk₇ => ?_)))))))))))
        refine ⟨h₇, tk₇, rfl, hk₇, fun h'' _ _ => ?_⟩
        unfold pos0
        by_cases hp : (0 : Int) > n2 - kk
        · rw [if_pos hp]; exact ⟨n2, _, hn2, by rw [if_pos hp]⟩
        · rw [if_neg hp]; exact ⟨n2, _, hn2, by rw [if_neg hp]⟩
      · intro D h₆ tk₆ ys n₆ hD hD' hlen' hF hk₆
        refine args_nil (sum_L (ns := ns.map fun n => pos0 (n - kk)) hh ⟨_, hD', rfl, _, rfl⟩ (ints_of (by rw [hlen', List.size_toArray, List.length_map]; exact hvl) fun i y e => ?_) fun h₇ tk₇ t₇ hk₇ => add_int ?_)
        · obtain ⟨n2, t2, e1, rfl⟩ := hF i y e
          exact ⟨_, t2, by rw [List.getElem?_map, e1]; rfl, rfl⟩
        · exact ⟨h₇, _, rfl, Keep.trans hk₆ hk₇, fun h'' _ _ => ⟨kk, _, hkk, rfl⟩⟩
    · intro D h₅ tk₅ ys n₅ hD hD' hlen' hF hk₅
      refine args_nil (min_L (ns := ns.map fun k => toldAt ns (1 + (j : Nat)) k) hh ⟨_, hD', rfl, _, rfl⟩ (ints_of (by rw [hlen', List.size_toArray, List.length_map]; exact hvl) fun i y e => ?_) (by rw [List.length_map]; exact hne) fun h₆ M t₆ tk₆ hk₆ hM hMin => ?_)
      · obtain ⟨n2, t2, e1, rfl⟩ := hF i y e
        exact ⟨_, t2, by rw [List.getElem?_map, e1]; rfl, rfl⟩
      have hk : Keep h₃ h₆ := Keep.trans hk₅ hk₆
      have F₆ : Fr h₀ L h₆ m := F₃.after hk
      have N₆ := News.keep N₃ fun p hp o e => hk _ _ e
      have hul : us.length = j := by rw [hus.length, hms]
      refine ⟨⟨_, N₆.get (.head _), rfl⟩, PySem.F.args_list_append_2 _ _, _, list_append td us.toArray n _ (by rw [sizeLine_eq, List.size_toArray]; omega), N₆.get (.head _), ?_⟩
      obtain ⟨F₇, N₇⟩ := news_upd (pre := []) (post := [(L + 1 + 1, oj), (L + 1, on)]) F₆ N₆ (fun p hp => by cases hp) (fun p hp => by
        simp only [List.mem_cons, List.not_mem_nil, or_false] at hp
        rcases hp with rfl | rfl
        · exact Ne.symm hd1
        · exact Ne.symm hd2) (app_lobj (vs := us) (n := n) (a := .int M t₆)) rfl
      dsimp only [wants]
      refine wpAny_execs_nil ?_
      refine ⟨c + 1 - (j + 1), by omega, _, _, us ++ [Value.int M t₆], n + 1, ms ++ [M], oj, j + 1, _, rfl, ?_, F₇, N₇, hojd, ints_append hus (.cons _ _ .nil), by simp [hms], ?_, hlt, rfl⟩
      · exact (Heap.get?_update_ne _ _ _ _ hI1).trans (hk _ _ hit₃)
      · intro j' M' e
        by_cases hj' : j' < ms.length
        · rw [List.getElem?_append_left hj'] at e; exact hmin j' M' e
        · have hlt' := (List.getElem?_eq_some_iff.mp e).1
          simp only [List.length_append, List.length_cons, List.length_nil] at hlt'
          have hj'' : j' = ms.length := by omega
          subst hj''
          rw [List.getElem?_append_right (Nat.le_refl _), Nat.sub_self] at e
          obtain rfl : M = M' := by simpa using e
          rw [hms, Int.add_comm]
          obtain ⟨k', hk', rfl⟩ := List.mem_map.mp hM
          exact ⟨⟨k', hk', rfl⟩, fun k'' hk'' => hMin _ (List.mem_map.mpr ⟨k'', hk'', rfl⟩)⟩
  · obtain rfl : j = c := by omega
    refine wpAny_pyNext_range_end hh hit' (by omega) fun h₂ he₂ => wpAny_execs_nil ?_
    have hk₂ : ∀ b o, b ≠ I → h.get? b = some o → h₂.get? b = some o := fun b o hb e => he₂ b o hb e
    refine done h₂ _ us n ms ⟨F₁.ns.at' fun o e => hk₂ _ o (Ne.symm hIL) e, fun b o e => hk₂ b o (fun q => by rw [q, hI0] at e; cases e) (F₁.keep b o e), F₁.above⟩ (fun p hp => ?_) hus hms hmin
    rw [List.mem_singleton.mp hp]
    exact ⟨hk₂ _ _ (Ne.symm hI1) (N₁ _ (.head _)).1, (N₁ _ (.head _)).2⟩
end
section
variable {prog : Program} {w : World} {A : Around} {R : Result → Shared → Prop} {s : Shared} {mg mb : Str → Option Value}
theorem told_spec {f l : Addr} {vs : List Value} {ns : List Int} {c : Nat} {tc : Tok} (hf : FnIs s.heap f "_law_told" 12) (W : Wd mg mb s.heap) (hroom : A.depth + 1 < recursionLimit) (hu : A.units + 100 < cLine) (hh : A.handled = none)
    (hl : s.heap.IsList l vs.toArray) (hi : IntsAre vs ns) (hne : 0 < ns.length) (hlen : ns.length < 1000) (hb : ∀ n ∈ ns, 0 ≤ n ∧ n ≤ 1000) (hc : c < 1000)
    (hR : ∀ r us n ms h' tk, s.heap.get? r = none → h'.get? r = some (lobj us n) → IntsAre us ms → ms.length = c → (∀ (j : Nat) M, ms[j]? = some M → IsMinT ns ((j : Int) + 1) M) → Keep s.heap h' → R (.ok (.ret (.ref r))) { s with heap := h', toks := tk }) :
    codeAny (model prog w) A (.call (.ref f) ⟨[.ref l, .int (c : Nat) tc], []⟩) R s := by
  obtain ⟨o, pm, cd, doc, h1, h2, h3⟩ := hf
  refine call_cellsN_ret (binds := [("numbers", .ref l), ("count", .int (c : Nat) tc)]) (by omega) h1 h2 W.lim h3 rfl ?_ (by decide) fun h₁ tk₁ cells F N X => ?_
  · intro x hx
    rcases List.mem_cons.mp hx with rfl | hx
    · exact .inr ⟨rfl, rfl⟩
    · rw [List.mem_singleton.mp hx]; exact .inl rfl
  have X' : CellsAre (bindC (envOfC "_law_told" (scpP 12) s.heap.objs.size f cd).kindOf [("numbers", .ref l), ("count", .int (c : Nat) tc)] fun _ => none) [("i", s.heap.objs.size + 1 + 1), ("numbers", s.heap.objs.size + 1)] cells := X
  obtain ⟨oi, on, rfl, hoi, hon⟩ := X'.two
  have hon' : on.data = .cell (some (.ref l)) := hon
  clear hon X X'
  generalize hm₀ : bindL (envOfC "_law_told" (scpP 12) s.heap.objs.size f cd).kindOf [("numbers", .ref l), ("count", .int (c : Nat) tc)] (fun _ => none) = m₀ at F
  have hm1 : m₀ "count" = some (.int (c : Nat) tc) := by rw [← hm₀]; rfl
  have hL1 : s.heap.objs.size + 1 ≠ s.heap.objs.size := Nat.succ_ne_self _
  refine wpAny_execs_cons (wpAny_Assign_Name (List_ (args_nil (newLst ?_))))
  have F₂ := F.push (lobj [] 0)
  have N₂ := N.push F (lobj [] 0)
  dsimp only at F₂ N₂ ⊢
  generalize hmk : h₁.objs.size = td at *
  generalize hh₂ : h₁.push (lobj [] 0) = h₂ at *
  refine stE (env := E0 s.heap.objs.size f cd) F₂ N₂ fun h₃ F₃ N₃ S₃ => ?_
  have W₃ := W.keeps F₃.keep
  have hh' : (A.deeper (E0 s.heap.objs.size f cd)).handled = none := hh
  refine wpAny_execs_cons (wpAny_For (Call_ (ldB W₃ boot_range (cwT (args_cons (wpAny_Constant_int (args_cons (wpAny_BinOp (ldE (v := .int (c : Nat) tc) F₃.ns (by walk_at "lk") (wpAny_Constant_int (add_int (args_nil (call_range_2 ?_)))))))))))))
  refine wpAny_pyIter_range (IsRange.new ..) (small_one (by omega) (by omega) (by omega) (by omega)) ?_
  have hsz : Builtin.Range.rangeSize 1 ((c : Nat) + 1) 1 = ((c : Nat) : Int) := by rw [rangeSize_one]; split <;> omega
  rw [hsz]
  have hgt : s.heap.objs.size + 1 + 1 < td := by rw [← hmk]; exact Heap.lt_size (N _ (.head _)).1
  have htd₃ : td < h₃.objs.size := Heap.lt_size (N₃.get (.head _))
  dsimp only
  have hr : h₃.objs.size < (h₃.push { cls := .type "range", data := .fields #[.int 1 0, .int ((c : Nat) + 1) 0, .int 1 0] }).objs.size := by rw [Heap.size_push]; exact Nat.lt_succ_self _
  refine told_loop (s := { s with heap := _, toks := _ }) (mg := mg) (mb := mb) (td := td) (oi := oi) (on := on) (m := up m₀ "told" (.ref td)) W hh' hl hi hne hlen hb hc ((F₃.push _).push _) (fun p hp => ⟨Heap.get?_push_of_some _ (Heap.get?_push_of_some _ (N₃ p hp).1), (N₃ p hp).2⟩) up_eq hoi hon' (Heap.get?_push_size _ rfl) ?_ ?_ ?_ ?_ ?_ ?_ ?_ ?_
  · exact none_of_ge (Nat.le_trans (Nat.le_of_lt F₃.ns.lt) (by rw [Heap.size_push]; exact Nat.le_succ _))
  · rw [Heap.size_push]; exact Nat.ne_of_gt (Nat.lt_succ_of_lt F₃.ns.lt)
  · rw [Heap.size_push]; exact Nat.ne_of_gt (Nat.lt_succ_of_lt htd₃)
  · rw [Heap.size_push]; exact Nat.ne_of_gt (Nat.lt_succ_of_lt (Nat.lt_trans hgt htd₃))
  · rw [Heap.size_push]; exact Nat.ne_of_gt (Nat.lt_succ_of_lt (Nat.lt_trans (Nat.lt_of_succ_lt hgt) htd₃))
  · exact Nat.ne_of_gt hgt
  · exact Nat.ne_of_gt (Nat.lt_of_succ_lt hgt)
  · intro h' tk' us n ms F' N' hus hms hmin
    dsimp only
    refine wpAny_execs_cons (wpAny_Return_some (ldE (v := .ref td) F'.ns up_eq ?_))
    exact hR td us n ms h' tk' (N' _ (.head _)).2.2 (N'.get (.head _)) hus hms hmin F'.keep
end
end Mine
end
section 
open PySem PySem.W PyProof.Rows PySem.Calls PySem.Spec
set_option maxRecDepth 100000
set_option maxHeartbeats 4000000
namespace Mine
section
variable {M : Model} {A : Around} {E : Value → Shared → Prop} {s : Shared}
/-- the frame that raised notes a new exception -/
theorem looks_madeW {base h : Heap} {env : Env} {outer : List Env} {L e : Addr} {cls : Value} {args : List Value} {Q : Unit → Shared → Prop}
    (hfr : A.frames = some (env :: outer)) (hf : env.frame = some L) (hkb : base.StaysIn h) (hl : h.FunFrames base (env :: outer)) (hx : Heap.MadeExcOf h s.heap e cls args)
    (hQ : ∀ h' t, Heap.HeldW base (env :: outer) e cls (.ref t) L h' → h'.TupAt t args → s.heap.UpToSlots h' → Q () { s with heap := h' }) : wpAny M A (noteFrame (.ref e) env) Q E s := by
  obtain ⟨t, he, htn, ht⟩ := hx.there
  have fresh : ∀ b, h.get? b = none → base.get? b = none := fun b hb => by
    cases hq : base.get? b with
    | none => rfl
    | some o' => have := hkb b o' hq; rw [hb] at this; cases this
  unfold noteFrame
  simp only [hf]
  refine wpAny_bind (wpAny_field (x := .none) he rfl rfl ?_)
  rw [if_neg (by decide)]
  refine wpAny_entryW (a0 := .ref t) hfr (hl.of_keeps fun b o hb _ => ⟨o, hx.keeps b o hb, rfl⟩) hf he (fun b o hb => hx.keeps b o (hkb b o hb)) (fresh e hx.new) rfl (by simp) rfl fun h' hN => ?_
  obtain ⟨k1, k2, k3, k4⟩ := hN
  exact hQ h' t ⟨k1, fresh e hx.new, k2, k3⟩ (Heap.TupAt.of_slots ⟨_, _, ht, rfl, rfl⟩ k4) k4
theorem setFlight_someW {base : Heap} {l : List Env} {e L : Addr} {cls a0 : Value} {Q : Unit → Shared → Prop} (hh : Heap.HeldW base l e cls a0 L s.heap)
    (hQ : ∀ h', Heap.HeldW base l e cls a0 L h' → s.heap.UpToSlots h' → Q () { s with heap := h' }) : wpAny M A (setFlight (.ref e) (some L)) Q E s := by
  obtain ⟨hkb, hen, hl, oe, vs, T, oT, ts, he, hcls, hd, h1, hnT, hTe, hT, hdT, h3⟩ := hh
  have hsz3 : 3 < ts.size := (Array.getElem?_eq_some_iff.mp h3).1
  have other : ∀ b, b ≠ T → (s.heap.update T (Obj.mapFields (·.setIfInBounds 3 ((some L : Option Addr).elim Value.none fun f => rawInt f)))).get? b = s.heap.get? b :=
    fun b hb => Heap.get?_update_other _ _ (Ne.symm hb)
  have noRecord : ∀ b o, s.heap.get? b = some o → (∀ vs, o.data ≠ .fields vs) → b ≠ T := fun b o hb hnf q => by
    rw [q, hT] at hb; injection hb with hb; subst hb; exact hnf ts hdT
  unfold setFlight
  refine wpAny_bind (wpAny_field he hd h1 ?_)
  rw [if_pos (show (Value.ref T != Value.none) = true from by simp)]
  refine wpAny_setField hT hdT hsz3 (hQ _ ⟨fun b o hbo => (other b fun q => by rw [q, hnT] at hbo; cases hbo).trans (hkb b o hbo), hen,
    hl.of_keeps fun b o hb hnf => ⟨o, (other b (noRecord b o hb hnf)).trans hb, rfl⟩, ?_⟩ fun b o hb hnf => ⟨o.slots, (other b (noRecord b o hb hnf)).trans hb⟩)
  exact ⟨oe, vs, T, _, _, (other e (Ne.symm hTe)).trans he, hcls, hd, h1, hnT, hTe, Heap.get?_update_self _ hT (Obj.isFreed_of_fields (Obj.data_mapFields hdT _)), Obj.data_mapFields hdT _, by simp [hsz3]⟩
/-- back in the own frame -/
theorem backW {base : Heap} {l : List Env} {e L : Addr} {cls a0 : Value} {env : Env} {Q : Unit → Shared → Prop} (hf : env.frame = some L) (hh : Heap.HeldW base l e cls a0 L s.heap)
    (hQ : ∀ h', Heap.HeldW base l e cls a0 L h' → s.heap.UpToSlots h' → Q () { s with heap := h' }) :
    wpAny M A (do
      if (← field (.ref e) 1) == .none then unsupported "frame.own-activation:exception-without-traceback"
      setFlight (.ref e) env.frame) Q E s := by
  obtain ⟨hkb, hen, hl, oe, vs, T, oT, ts, he, hcls, hd, h1, r⟩ := id hh
  refine wpAny_bind (wpAny_field he hd h1 ?_)
  rw [if_neg (show ¬ (Value.ref T == Value.none) = true from by simp)]
  rw [hf]
  exact setFlight_someW hh hQ
end
end Mine
end
section 
open PySem PySem.W PyProof.Rows PySem.Calls PySem.Spec
set_option maxRecDepth 100000
set_option maxHeartbeats 4000000
namespace Mine
local macro_rules | `(tactic| walk_at "lk") => `(tactic| (repeat (first | exact up_eq | assumption | refine up_of ?_ (by decide))))
theorem funFrames_step {h h' base : Heap} {l : List Env} (k : ∀ b o, h.get? b = some o → (∀ vs, o.data ≠ .fields vs) → ∃ o', h'.get? b = some o' ∧ ∀ vs, o'.data ≠ .fields vs) (hl : h.FunFrames base l) : h'.FunFrames base l := by
  induction l with
  | nil => trivial
  | cons env rest ih =>
    obtain ⟨hk, ⟨L, o, hf, hn, ho, hd⟩, hr⟩ := hl
    obtain ⟨o', ho', hd'⟩ := k L o ho hd
    exact ⟨hk, ⟨L, o', hf, hn, ho', hd'⟩, ih hr⟩
theorem boot_VE : bootBuiltins "ValueError" = some (.type "ValueError") := by decide +kernel
theorem leaves_heldW' {M : Model} {A : Around} {E : Value → Shared → Prop} {s : Shared} {base : Heap} {env : Env} {outer : List Env} {L e : Addr} {cls a0 : Value} {Q : Unit → Shared → Prop} (hf : env.frame = some L)
    (hh : Heap.HeldW base (env :: outer) e cls a0 L s.heap) (hQ : ∀ h', Heap.FlyingW base outer e cls a0 h' → s.heap.UpToSlots h' → Q () { s with heap := h' }) : wpAny M A (leaving env (.ref e)) Q E s := by
  unfold leaving
  refine wpAny_bind (wpAny_noteFrame_againW hf hh.2.2.2 ?_)
  refine wpAny_landsW hh fun h' hfl ups => ?_
  obtain ⟨k1, k2, ⟨_, _, k3⟩, k4⟩ := hfl
  exact hQ h' ⟨k1, k2, k3, k4⟩ ups
/-- the walk's first step raises -/
def RE (base : Heap) (outer : List Env) (L : Addr) : GenEnd := fun _ s₀ r s₁ => ∃ e t tt h' tk, r = .error (.ref e) ∧ s₁ = { s₀ with heap := h', toks := tk } ∧ Heap.FlyingW base outer e (.type "ValueError") (.ref t) h' ∧ h'.TupAt t [.str "invalid grouping" tt] ∧
  ∀ b o, b ≠ L → s₀.heap.get? b = some o → (∀ vs, o.data ≠ .fields vs) → ∃ sl, h'.get? b = some { o with slots := sl }
section
variable {prog : Program} {w : World} {A : Around} {E : Value → Shared → Prop} {s : Shared} {mg mb : Str → Option Value}
theorem goes_raise {base hB : Heap} {outer : List Env} {L l : Addr} {cd : Value} {n : Nat} {Y : Protocol} {vs : List Value} {ns : List Int} {m : Str → Option Value} (W : Wd mg mb hB) (hLB : hB.get? L = none) (hh : A.handled = none) (hl : hB.IsList l vs.toArray) (hi : IntsAre vs ns)
    (h0 : ns[0]? = some 0) (hk : Keep hB s.heap) (hm : s.heap.Ns L m) (hg : m "grouping" = some (.ref l)) (hfr : A.frames = some outer) (hbase : base.StaysIn hB) (hfun : s.heap.FunFrames base outer) :
    (GenState.fresh (.func (bdyP 4) (genv L cd))).Goes (model prog w) A (RE base outer L) Y n (.send .none) s := by
  refine ⟨rfl, ?_⟩
  have hLb : base.get? L = none := by
    cases q : base.get? L with
    | none => rfl
    | some o => rw [hbase _ _ q] at hLB; cases hLB
  have hIB : hB.get? s.heap.objs.size = none := by
    cases q : hB.get? s.heap.objs.size with
    | none => rfl
    | some o => exact absurd (Heap.lt_size (hk _ _ q)) (Nat.lt_irrefl _)
  refine seg_func (seg_execs_cons (seg_wrap (wpAny_Assign_Name (wpAny_Constant_none (wpAny_storeName_local (env := genv L cd) rfl hm (fun h₂ hn₂ hs₂ => ?_) rfl)))))
  have hn₂ : h₂.Ns L (up m "last_interval" .none) := hn₂
  have kB₂ : Keep hB h₂ := fun b o e => hs₂.extBut b o (ne_none hLB e) (hk b o e)
  have hsz : h₂.objs.size = s.heap.objs.size := hs₂.1
  refine seg_execs_cons (seg_For (ldE hn₂ (up_of hg) (wpAny_pyIter_list (hl.at fun o e => kB₂ l o e) fun p => ?_)))
  dsimp only
  rw [hsz]
  have hLI : L ≠ s.heap.objs.size := Nat.ne_of_lt hm.lt
  generalize hI : s.heap.objs.size = I at *
  have it₃ : (h₂.push { cls := .type "list_iterator", data := .fields #[.ref l, .int 0 0] }).IsListIter I l 0 := ⟨_, by rw [← hsz]; exact Heap.get?_push_size _ rfl, rfl, rfl⟩
  have kp₃ : Keep h₂ (h₂.push { cls := .type "list_iterator", data := .fields #[.ref l, .int 0 0] }) := Keep.push _ _
  generalize h₂.push { cls := .type "list_iterator", data := .fields #[.ref l, .int 0 0] } = h₃ at it₃ kp₃ ⊢
  have kB₃ : Keep hB h₃ := Keep.trans kB₂ kp₃
  have hA : (A.over (.forLoop gTgt (.ref I) gFor [] (genv L cd)) [gFrame (genv L cd) p]).handled = none := by
    show (marksOver [gFrame (genv L cd) p] (A.handled, A.handled)).1 = none
    rw [hh]; rfl
  have hAf : (A.over (.forLoop gTgt (.ref I) gFor [] (genv L cd)) [gFrame (genv L cd) p]).frames = some (genv L cd :: outer) := by
    unfold Around.over
    dsimp only
    rw [hfr]
    rfl
  refine seg_forLoop (fun _ => rfl) ?_
  obtain ⟨t0, hv0⟩ := hi.get 0 0 h0
  refine wpAny_pyNext_list_item it₃ (hl.at fun o e => kB₃ l o e) (x := .int 0 t0) (by simpa using hv0) fun h₄ it₄ hs₄ => ?_
  have hn₄ : h₄.Ns L (up m "last_interval" .none) := (hn₂.keeps kp₃).at' fun o e => hs₄.extBut L o hLI e
  refine wpAny_assign_Name (wpAny_storeName_local (env := genv L cd) rfl hn₄ (fun h₅ hn₅ hs₅ => ?_) rfl)
  have hn₅ : h₅.Ns L (up (up m "last_interval" .none) "interval" (.int 0 t0)) := hn₅
  have kB₅ : Keep hB h₅ := fun b o e => hs₅.extBut b o (ne_none hLB e) (hs₄.extBut b o (ne_none hIB e) (kB₃ b o e))
  have W₅ := W.keeps kB₅
  have step : ∀ b o, b ≠ L → s.heap.get? b = some o → h₅.get? b = some o := fun b o hb e =>
    hs₅.extBut b o hb (hs₄.extBut b o (fun q => absurd (Heap.lt_size e) (by rw [q, ← hI]; exact Nat.lt_irrefl _)) (kp₃ _ _ (hs₂.extBut b o hb e)))
  have fun₅ : h₅.FunFrames base outer := funFrames_step (fun b o e hd => by
    by_cases hb : b = L
    · obtain ⟨o', _, _, ho', hd', _⟩ := hn₅
      exact ⟨o', hb ▸ ho', fun vs q => by rw [hd'] at q; cases q⟩
    · exact ⟨o, step b o hb e, hd⟩) hfun
  have funG : h₅.FunFrames base (genv L cd :: outer) := .cons (by show (scpP 4).kind ≠ .module; decide) rfl hn₅ hLb fun₅
  obtain ⟨tc, hch⟩ := W.char
  refine seg_execs_cons (seg_If (wpAny_isTrue_Compare1 (ldE hn₅ up_eq (ldG W₅ hch (eq_int (wpAny_truthy_bool ?_))))))
  rw [if_neg (by decide)]
  refine seg_execs_nil (seg_execs_cons (seg_If (wpAny_isTrue_Compare1 (ldE hn₅ up_eq (wpAny_Constant_int (eq_int (wpAny_truthy_bool ?_)))))))
  rw [if_pos (by decide)]
  refine seg_execs_cons (seg_If (wpAny_isTrue_Compare1 (ldE hn₅ (up_of up_eq) (wpAny_Constant_none (is_none_none (wpAny_truthy_bool ?_))))))
  rw [if_pos rfl]
  refine seg_execs_cons (seg_wrap (Raise_madeB PySem.F.excCall_ValueError PySem.F.excRaise_ValueError hA (ldB W₅ boot_VE ⟨rfl, args_cons (wpAny_Constant_str (args_nil ⟨by rw [sizeLine_eq]; simp, fun h₆ e hx => ?_⟩))⟩)))
  dsimp only at hx ⊢
  refine seg_wrap (wpAny_bind (looks_madeW hAf rfl (fun b o e => kB₅ b o (hbase b o e)) funG (Heap.MadeExc.of hx) fun h₇ t held tup ups₇ => wpAny_theTreesLotGoes ?_))
  refine seg_leaf (.error (.ref e)) ?_
  refine seg_wrap (wpAny_onRaise (wpAny_throw (backW (l := genv L cd :: outer) rfl held fun h₈ held₈ ups₈ => ?_)))
  refine seg_wrap (leaves_heldW' rfl held₈ fun h₉ fly ups₉ => ?_)
  refine seg_end (.error (.ref e)) ⟨e, t, _, h₉, _, rfl, rfl, fly, (tup.of_slots ups₈).of_slots ups₉, fun b o hb e0 hd => ?_⟩
  exact ((Heap.UpToSlots.of_keeps hx.keeps).trans (ups₇.trans (ups₈.trans ups₉))) b o (step b o hb e0) hd
end
end Mine
end
section 
open PySem PySem.W PyProof.Rows PySem.Calls PySem.Spec
set_option maxRecDepth 100000
set_option maxHeartbeats 4000000
namespace Mine
def offOne (h : Heap) (a : Addr) : Heap := h.update a fun o => { o with data := .freed }
theorem offOne_self (h : Heap) (a : Addr) : (offOne h a).get? a = none := by
  obtain ⟨objs, l⟩ := h
  unfold offOne Heap.update Heap.get?
  simp only [Array.getElem?_modify]
  cases q : objs[a]? with
  | none => simp
  | some o => simp
theorem offOne_ne {h : Heap} {a b : Addr} (hb : b ≠ a) : (offOne h a).get? b = h.get? b := Heap.get?_update_ne _ _ _ _ hb
/-- the heap without the objects at S -/
def offs (h : Heap) : List Addr → Heap
  | [] => h
  | a :: S => offOne (offs h S) a
theorem offs_mem {h : Heap} {S : List Addr} {a : Addr} (ha : a ∈ S) : (offs h S).get? a = none := by
  induction S with
  | nil => cases ha
  | cons x S ih =>
    by_cases e : a = x
    · subst e; exact offOne_self _ _
    · rw [offs, offOne_ne e]
      exact ih ((List.mem_cons.mp ha).resolve_left e)
theorem offs_not {h : Heap} {S : List Addr} {a : Addr} (ha : a ∉ S) : (offs h S).get? a = h.get? a := by
  induction S with
  | nil => rfl
  | cons x S ih =>
    have hx : a ≠ x := fun e => ha (by rw [e]; exact .head _)
    rw [offs, offOne_ne hx]
    exact ih fun q => ha (.tail _ q)
theorem offs_sub {h : Heap} {S : List Addr} {a : Addr} {o : Obj} (e : (offs h S).get? a = some o) : a ∉ S ∧ h.get? a = some o := by
  by_cases ha : a ∈ S
  · rw [offs_mem ha] at e; cases e
  · exact ⟨ha, (offs_not ha) ▸ e⟩
theorem offs_stays {h h' : Heap} {S : List Addr} (k : ∀ b o, b ∉ S → h.get? b = some o → h'.get? b = some o) : (offs h S).StaysIn h' := fun b o e => k b o (offs_sub e).1 (offs_sub e).2
theorem funFrames_base {h base base' : Heap} {l : List Env} (hl : h.FunFrames base l) (hb : ∀ L ∈ l.filterMap (·.frame), base'.get? L = none) : h.FunFrames base' l := by
  induction l with
  | nil => trivial
  | cons env rest ih =>
    obtain ⟨hk, ⟨L, o, hf, hn, ho, hd⟩, hr⟩ := hl
    refine ⟨hk, ⟨L, o, hf, hb L (by rw [List.filterMap_cons, hf]; exact .head _), ho, hd⟩, ih hr fun L' hL' => hb L' ?_⟩
    rw [List.filterMap_cons, hf]; exact .tail _ hL'
theorem FlyingW_mono {base base' h : Heap} {l : List Env} {e : Addr} {cls a0 : Value} (k : ∀ b o, base'.get? b = some o → base.get? b = some o) (x : Heap.FlyingW base l e cls a0 h) : Heap.FlyingW base' l e cls a0 h := by
  have nn : ∀ b, base.get? b = none → base'.get? b = none := fun b hb => by
    cases q : base'.get? b with
    | none => rfl
    | some o => rw [k b o q] at hb; cases hb
  obtain ⟨f1, f2, f3, oe, vs, T, oT, ts, he, hc, hd, h1, hT, r⟩ := x
  exact ⟨fun b o q => f1 b o (k b o q), nn _ f2, funFrames_base f3 fun L hL => nn _ (f3.mem hL).1, oe, vs, T, oT, ts, he, hc, hd, h1, nn _ hT, r⟩
theorem sub_VE_stop : isSubtype (.type "ValueError") (.type "StopIteration") = pure false := by rw [isSubtype_type]; kernel_rfl
section
variable {prog : Program} {w : World} {A : Around} {E : Value → Shared → Prop} {s : Shared} {mg mb : Str → Option Value}
theorem pyNext_E {base : Heap} {outer : List Env} {a L : Addr} {g n : Nat} {gs : GenState} {oa : Obj} {x1 x2 x3 : Value} {Q : Option Value → Shared → Prop} (hh : A.handled = none)
    (hl : s.heap.NoLimit) (hroom : A.depth < recursionLimit) (hg : s.heap.IsGen a g) (hgs : s.gens[g]? = some gs) (hoa : s.heap.get? a = some oa) (hba : base.get? a = some oa) (hd : oa.data = .fields #[x1, x2, x3])
    (hgo : gs.Goes (model prog w) A.in1 (RE base outer L) (fun _ _ _ _ _ => False) n (.send .none) (s.setGen g .running))
    (hE : ∀ e t tt h' tk, Heap.FlyingW base outer e (.type "ValueError") (.ref t) h' → h'.TupAt t [.str "invalid grouping" tt] → (∀ b o, b ≠ L → s.heap.get? b = some o → (∀ vs, o.data ≠ .fields vs) → ∃ sl, h'.get? b = some { o with slots := sl }) →
      E (.ref e) { s with heap := h', toks := tk, gens := (s.gens.setIfInBounds g .running).setIfInBounds g .finished }) :
    wpAny (model prog w) A (pyNext (.ref a)) Q E s := by
  unfold pyNext
  refine wpAny_bind (wpAny_attempt (wpAny_callSpecial?_slot (name := Str.ofString "__next__") hg.typeIs slot_gen_next
    (wpAny_call_entry slot_gen_next hg.typeIs entry_gen_next ?_ (args_gen_next _))))
  show wpAny _ A.in1 (Builtin.Generator.genWake (.ref a) (.send .none)) _ _ s
  unfold Builtin.Generator.genWake
  refine wpAny_bind (wpAny_holding (wpAny_genNumber hg (wpAny_bind (wpAny_genState hgs ?_))))
  cases gs with
  | running => exact hgo.elim
  | finished => exact hgo.elim
  | _ =>
    refine wpAny_bind (wpAny_roomToWake hl hroom ?_)
    show wpAny _ A.in1 (.resume g (.send .none) [] _) _ _ s
    refine wpAny_resumeQ hgs hgo (fun x s₁ hx => ?_) (fun v s₁ gs' hb hv => hv.elim)
    obtain ⟨e, t, tt, h', tk, rfl, rfl, fly, tup, ups⟩ := hx
    show wpAny _ A.in1 (Builtin.Generator.genLeft (.ref a) (.ref e)) _ _ _
    obtain ⟨ob, hob, hcls⟩ := fly.there
    have ha' : h'.get? a = some oa := fly.1 _ _ hba
    unfold Builtin.Generator.genLeft Builtin.Generator.madeByALambda Builtin.Generator.genEscaped
    dsimp only
    refine wpAny_bind (wpAny_bind (wpAny_load (o := oa) ha' (wpAny_pure ?_)))
    refine wpAny_bind (wpAny_isInstance (T := "ValueError") (b := false) ⟨ob, hob, hcls⟩ sub_VE_stop ?_)
    rw [Bool.and_false, if_neg (by decide)]
    refine wpAny_bind (wpAny_isInstance (T := "ValueError") (b := false) ⟨ob, hob, hcls⟩ sub_VE_stop ?_)
    rw [if_pos (by decide)]
    refine wpAny_bind (wpAny_throw ?_)
    refine wpAny_bind (wpAny_isInstance (T := "ValueError") (b := false) ⟨ob, hob, hcls⟩ sub_VE_stop ?_)
    rw [if_neg (by decide)]
    exact wpAny_throw (hE e t tt h' tk fly tup ups)
end
end Mine
end
section 
open PySem PySem.W PyProof.Rows PySem.Calls PySem.Spec
set_option maxRecDepth 100000
set_option maxHeartbeats 4000000
namespace Mine
local macro_rules | `(tactic| walk_at "lk") => `(tactic| (repeat (first | exact up_eq | assumption | refine up_of ?_ (by decide))))
section
variable {prog : Program} {w : World} {A : Around} {R : Result → Shared → Prop} {s : Shared} {mg mb : Str → Option Value}
theorem marks_raise {base : Heap} {outer : List Env} {f l : Addr} {vs : List Value} {ns : List Int} {c : Int} {tc : Tok} (hf : FnIs s.heap f "_law_marks" 11) (W : Wd mg mb base) (hroom : A.depth + 1 < recursionLimit) (hh : A.handled = none)
    (hfr : A.frames = some outer) (hbase : base.StaysIn s.heap) (hfun : s.heap.FunFrames base outer)
    (hl : s.heap.IsList l vs.toArray) (hlo : l ∉ outer.filterMap (·.frame)) (hi : IntsAre vs ns) (h0 : ns[0]? = some 0) (hab : AllBare s.gens)
    (hR : ∀ e t tt h' tk gg, Heap.FlyingW base outer e (.type "ValueError") (.ref t) h' → h'.TupAt t [.str "invalid grouping" tt] → s.heap.UpToSlots h' → AllBare gg → R (.error (.ref e)) { s with heap := h', toks := tk, gens := gg }) :
    codeAny (model prog w) A (.call (.ref f) ⟨[.ref l, .int c tc], []⟩) R s := by
  have W₀ : Wd mg mb s.heap := W.keeps hbase
  refine call_fn (binds := [("sizes", .ref l), ("count", .int c tc)]) hf (by omega) W₀.lim (fun _ _ _ => rfl) (by rfl) fun cd h₁ F => ?_
  rw [bm2] at F
  refine wpAny_execs_cons (wpAny_Assign_Name (List_ (args_nil (newLst ?_))))
  have F₂ := F.push (lobj [] 0)
  have N₂ := (News.nil (h₀ := s.heap) (L := s.heap.objs.size) (h := h₁)).push F (lobj [] 0)
  dsimp only
  generalize hmk : h₁.objs.size = mk at *
  generalize hh₂ : h₁.push (lobj [] 0) = h₂ at *
  refine stU F₂ N₂ fun h₃ F₃ N₃ S₃ => ?_
  refine wpAny_execs_cons (wpAny_Assign_Name (wpAny_Constant_int (stU F₃ N₃ fun h₄ F₄ N₄ S₄ => ?_)))
  have W₄ := W₀.keeps F₄.keep
  refine wpAny_execs_cons (wpAny_For (Call_ (ldG W₄ W₀.grp (cwF W₄.fgrp (args_cons (ld F₄ (by walk_at "lk") (args_nil ⟨fun _ _ e => e, grp_call W₄ ?_ ?_⟩)))))))
  · show A.depth + 1 < recursionLimit; exact hroom
  intro gcd h₅ tk₅ ob hns₅ hk₅ hsz₅ hgen hfree
  dsimp only [wants] at hns₅ hk₅ hsz₅ hgen ⊢
  refine wpAny_pyIter_gen hgen ?_
  have hk₆ : Keep h₄ (h₅.push ob) := Keep.trans hk₅ (Keep.push _ _)
  have hns₆ : (h₅.push ob).Ns h₄.objs.size (up m0 "grouping" (.ref l)) := hns₅.push _
  have F₆ : Fr s.heap s.heap.objs.size (h₅.push ob) _ := F₄.after hk₆
  generalize h₅.push ob = h₆ at hgen hk₆ hns₆ F₆ ⊢
  obtain ⟨oa, nm, qn, hoa, hgc, hgd, hge⟩ := id hgen
  have hLg : s.heap.objs.size < h₄.objs.size := F₄.ns.lt
  have hAf := Around.frames_deeper (env := envOf "_law_marks" (scpP 11) s.heap.objs.size f cd) hfr
  have hoS : ∀ L ∈ outer.filterMap (·.frame), L < s.heap.objs.size := fun L hL => by
    obtain ⟨_, o, ho, _⟩ := hfun.mem hL
    exact Heap.lt_size ho
  have hlS : l < s.heap.objs.size := by obtain ⟨o, ho, _⟩ := hl; exact Heap.lt_size ho
  generalize hS : s.heap.objs.size :: h₄.objs.size :: outer.filterMap (·.frame) = S
  have inS : ∀ {b}, b ∈ S ↔ b = s.heap.objs.size ∨ b = h₄.objs.size ∨ b ∈ outer.filterMap (·.frame) := by
    intro b; rw [← hS]; simp only [List.mem_cons]
  have haS : h₄.objs.size + 1 ∉ S := fun q => by
    rcases inS.mp q with q | q | q
    · exact absurd q (Nat.ne_of_gt (Nat.lt_succ_of_lt hLg))
    · exact absurd q (Nat.succ_ne_self _)
    · exact absurd (hoS _ q) (Nat.not_lt.mpr (Nat.le_of_lt (Nat.lt_succ_of_lt hLg)))
  have hlS' : l ∉ S := fun q => by
    rcases inS.mp q with q | q | q
    · exact absurd q (Nat.ne_of_lt hlS)
    · exact absurd q (Nat.ne_of_lt (Nat.lt_trans hlS hLg))
    · exact hlo q
  have hbS : ∀ b o, base.get? b = some o → b ∉ S := fun b o e q => by
    rcases inS.mp q with q | q | q
    · exact absurd (Heap.lt_size (hbase _ _ e)) (by rw [q]; exact Nat.lt_irrefl _)
    · exact absurd (Heap.lt_size (hbase _ _ e)) (by rw [q]; exact Nat.not_lt.mpr (Nat.le_of_lt hLg))
    · rw [(hfun.mem q).1] at e; cases e
  have sub : ∀ b o, base.get? b = some o → (offs h₆ S).get? b = some o := fun b o e => (offs_not (hbS b o e)).trans (F₆.keep _ _ (hbase _ _ e))
  have kS : Keep (offs h₆ S) h₆ := fun b o e => (offs_sub e).2
  have fun₆ : h₆.FunFrames (offs h₆ S) (envOf "_law_marks" (scpP 11) s.heap.objs.size f cd :: outer) :=
    .cons (by show (scpP 11).kind ≠ .module; decide) rfl F₆.ns (offs_mem (inS.mpr (.inl rfl)))
      (funFrames_base (hfun.of_keeps fun b o e _ => ⟨o, F₆.keep _ _ e, rfl⟩) fun L hL => offs_mem (inS.mpr (.inr (.inr hL))))
  have hh' : (A.deeper (envOf "_law_marks" (scpP 11) s.heap.objs.size f cd)).handled = none := hh
  refine codeAny_forLoop (fun _ s' => s' = { s with heap := h₆, toks := _, gens := s.gens.push (.fresh (.func (bdyP 4) (genv h₄.objs.size gcd))) }) ?_ 0 rfl
  rintro _ s' rfl
  refine pyNext_E (base := offs h₆ S) (outer := envOf "_law_marks" (scpP 11) s.heap.objs.size f cd :: outer) (L := h₄.objs.size) (g := s.gens.size) (n := 1) (gs := .fresh (.func (bdyP 4) (genv h₄.objs.size gcd))) hh' (W₀.keeps F₆.keep).lim ?_ hgen (by simp) hoa ((offs_not haS).trans hoa) hgd ?_ ?_
  · show A.depth + 1 < recursionLimit; exact hroom
  · refine goes_raise (hB := offs h₆ S) (W.keeps sub) (offs_mem (inS.mpr (.inr (.inl rfl)))) hh' (l := l) (vs := vs) (ns := ns) ?_ hi h0 kS hns₆ up_eq hAf (fun _ _ e => e) fun₆
    exact hl.at fun o e => (offs_not hlS').trans (F₆.keep _ o e)
  · intro e t tt h' tk fly tup ups
    dsimp only at ups ⊢
    refine wpAny_looks_onW hAf rfl fly fun h₈ held ups₈ => ?_
    refine backW (l := envOf "_law_marks" (scpP 11) s.heap.objs.size f cd :: outer) rfl held fun h₉ held₉ ups₉ => ?_
    refine leaves_heldW' rfl held₉ fun hX flyX upsX => ?_
    refine hR e t tt hX _ _ (FlyingW_mono sub flyX) (((tup.of_slots ups₈).of_slots ups₉).of_slots upsX) ?_ ?_
    · intro b o eb hd
      have hbg : b ≠ h₄.objs.size := Nat.ne_of_lt (Nat.lt_trans (Heap.lt_size eb) hLg)
      obtain ⟨sl, e1⟩ := ups b o hbg (F₆.keep _ _ eb) hd
      obtain ⟨sl2, e2⟩ := (ups₈.trans (ups₉.trans upsX)) b _ e1 hd
      exact ⟨sl2, e2⟩
    · exact allBare_set (allBare_set (hab.push rfl) rfl) rfl
end
end Mine
end
section 
open PySem PySem.W PyProof.Rows PySem.Calls PySem.Spec
set_option maxRecDepth 100000
set_option maxHeartbeats 4000000
namespace Mine
section
variable {prog : Program} {w : World} {A : Around} {E : Value → Shared → Prop} {s : Shared} {env : Env}
/-- a slice of a list, the slice's object just made -/
theorem sub_slice {value slice : Expr} {l : Addr} {vs : List Value} {vl vu vk : Value} {lo hi st : Option Int} {Q : Value → Shared → Prop} (hl : s.heap.IsList l vs.toArray) (pl : IsPart vl lo) (pu : IsPart vu hi) (pk : IsPart vk st) (h0 : st ≠ some 0) (hsz : vs.length ≤ 10000)
    (h : ∀ h' D, Keep s.heap h' → s.heap.get? D = none → h'.get? D = some (lobj (slicePick vs.toArray lo hi st).toList 0) → Q (.ref D) { s with heap := h' })
    (hs : ∃ ops, subscripted slice false (.ref l) (.ref s.heap.objs.size) = operate ops (getItem (.ref l) (.ref s.heap.objs.size)) := by exact ⟨_, by with_unfolding_all rfl⟩) :
    wpAny (model prog w) A (subscriptTail value slice (.ref l) (.ref s.heap.objs.size)) Q E { s with heap := s.heap.push { cls := .type "slice", data := .fields #[vl, vu, vk] } } := by
  obtain ⟨ops, hs⟩ := hs
  refine tail_any (Heap.IsList.typeIs (s := { s with heap := s.heap.push { cls := .type "slice", data := .fields #[vl, vu, vk] } }) (hl.push _)) list_getitem_lookup
    (wpAny_getItem_list_slice (hl.push _) (Heap.IsSliceOf.new ..) pl pu pk h0 ?_ (by rw [sizeLine_eq, List.size_toArray]; omega)) hs
  refine h _ _ (Keep.trans (Keep.push _ _) (Keep.push _ _)) (none_of_ge ?_) ?_
  · show s.heap.objs.size ≤ (s.heap.push _).objs.size
    rw [Heap.size_push]; exact Nat.le_succ _
  · show (Heap.push _ _).get? (s.heap.push _).objs.size = _
    rw [Heap.get?_push_size _ rfl]
end
end Mine
end
section 
open PySem PySem.W PyProof.Rows PySem.Calls PySem.Spec PySem.NumText
set_option maxRecDepth 100000
set_option maxHeartbeats 4000000
namespace Mine
/-- the drawn number's number and text -/
def numL (x : Int) : Int := 1 + x.fmod 126
def zerosL (x : Int) : Int := (x.fdiv 126).fmod 3
def numT (n : Int) : List Nat := (Str.ofString (toString n)).cps.toList
def txtL (x : Int) : List Nat := List.replicate (zerosL x).toNat 48 ++ numT (numL x)
theorem numL_range (x : Int) : 1 ≤ numL x ∧ numL x ≤ 126 := by
  have h1 := Int.fmod_nonneg_of_pos x (show (0 : Int) < 126 by omega)
  have h2 := Int.fmod_lt_of_pos x (show (0 : Int) < 126 by omega)
  unfold numL; omega
theorem zerosL_range (x : Int) : 0 ≤ zerosL x ∧ zerosL x ≤ 2 := by
  have h1 := Int.fmod_nonneg_of_pos (x.fdiv 126) (show (0 : Int) < 3 by omega)
  have h2 := Int.fmod_lt_of_pos (x.fdiv 126) (show (0 : Int) < 3 by omega)
  unfold zerosL; omega
def txtOk (z n : Nat) : Bool := let q := List.replicate z 48 ++ numT (n : Int); !q.isEmpty && q.all (fun c => decide (48 ≤ c) && decide (c ≤ 57)) && decide (digitsVal q = n) && decide (q.length ≤ 5)
theorem txt_all : (List.range 3).all (fun z => (List.range 127).all fun n => txtOk z n) = true := by decide +kernel
theorem txtL_ok (x : Int) : digP (txtL x) ∧ (digitsVal (txtL x) : Int) = numL x ∧ (txtL x).length ≤ 5 := by
  obtain ⟨h1, h2⟩ := numL_range x
  obtain ⟨z1, z2⟩ := zerosL_range x
  obtain ⟨n, hn⟩ : ∃ n : Nat, numL x = (n : Int) := ⟨(numL x).toNat, by omega⟩
  have hz := List.all_eq_true.mp txt_all (zerosL x).toNat (List.mem_range.mpr (by omega))
  have hq := List.all_eq_true.mp hz n (List.mem_range.mpr (by omega))
  unfold txtL
  rw [hn]
  unfold txtOk at hq
  generalize List.replicate (zerosL x).toNat 48 ++ numT (n : Int) = q at hq ⊢
  simp only [Bool.and_eq_true, decide_eq_true_eq, List.all_eq_true, Bool.not_eq_true'] at hq
  obtain ⟨⟨⟨a, b⟩, c⟩, d⟩ := hq
  exact ⟨⟨fun e => by rw [e] at a; simp at a, fun c hc => b c hc⟩, by omega, d⟩
end Mine
end
section 
open PySem PySem.W PyProof.Rows PySem.Calls PySem.Spec PySem.NumText
set_option maxRecDepth 100000
set_option maxHeartbeats 4000000
namespace Mine
local macro_rules | `(tactic| walk_at "lk") => `(tactic| (repeat (first | exact up_eq | assumption | refine up_of ?_ (by decide))))
theorem elems_of {h₀ h : Heap} {L : Addr} {ys : List Value} : ∀ {P : Nat → List Value → Prop}, (∀ (i : Nat) y, ys[i]? = some y → ∃ a us k, y = Value.ref a ∧ h.get? a = some (lobj us k) ∧ a ≠ L ∧ h₀.get? a = none ∧ P i us) →
    ∃ els : List (Addr × Obj), News h₀ L h els ∧ ∀ (i : Nat) y, ys[i]? = some y → ∃ a us k, y = Value.ref a ∧ (a, lobj us k) ∈ els ∧ P i us := by
  induction ys with
  | nil => intro P _; exact ⟨[], fun p hp => (by cases hp), fun i y e => by simp at e⟩
  | cons v r ih =>
    intro P hP
    obtain ⟨els, N, hE⟩ := ih (P := fun i => P (i + 1)) fun i y e => hP (i + 1) y (by simpa using e)
    obtain ⟨a, us, k, rfl, ha, h1, h2, hp⟩ := hP 0 v rfl
    refine ⟨(a, lobj us k) :: els, fun p hp' => ?_, fun i y e => ?_⟩
    · rcases List.mem_cons.mp hp' with rfl | hp'
      · exact ⟨ha, h1, h2⟩
      · exact N p hp'
    · cases i with
      | zero =>
        obtain rfl : Value.ref a = y := by simpa using e
        exact ⟨a, us, k, rfl, .head _, hp⟩
      | succ i =>
        obtain ⟨a', us', k', e1, e2, e3⟩ := hE i y (by simpa using e)
        exact ⟨a', us', k', e1, .tail _ e2, e3⟩
theorem mul_zero_text (n : Int) (h : 0 ≤ n ∧ n ≤ 2) : Txt.mul (Str.ofString "0") n = ⟨(List.replicate n.toNat 48).toArray⟩ := by
  rcases (show n = 0 ∨ n = 1 ∨ n = 2 by omega) with rfl | rfl | rfl <;> decide
theorem mul_zero_ok (n : Int) (h : 0 ≤ n ∧ n ≤ 2) : MulOk (Str.ofString "0") n := by
  rcases (show n = 0 ∨ n = 1 ∨ n = 2 by omega) with rfl | rfl | rfl <;> (unfold MulOk; decide)
end Mine
end
section 
open PySem PySem.W PyProof.Rows PySem.Calls PySem.Spec PySem.NumText
set_option maxRecDepth 100000
set_option maxHeartbeats 4000000
namespace Mine
local macro_rules | `(tactic| walk_at "lk") => `(tactic| (repeat (first | exact up_eq | assumption | refine up_of ?_ (by decide))))
abbrev lawE (L : Addr) (cd : Value) : Env := envOf "law" (scpP 13) L 80 cd
def drawnL (script : List Int) : List Int := [8, 230, 9, 8] ++ script.take 5
def lawS (i : Nat) : List Stmt := (bdyP 13).drop i
section
variable {prog : Program} {w : World} {A : Around} {E : Value → Shared → Prop} {s : Shared} {mg mb : Str → Option Value} {h₀ : Heap} {L : Addr} {cd : Value} {m : Str → Option Value}
theorem law_drawn {sc : Addr} {svs : List Value} {script : List Int} {Q : Flow → Shared → Prop} (F : Fr h₀ L s.heap m) (hsc : m "script" = some (.ref sc)) (hl : h₀.IsList sc svs.toArray) (hi : IntsAre svs script) (hlen : script.length ≤ 63)
    (K : ∀ h' tk dr dvs, Fr h₀ L h' (up m "drawn" (.ref dr)) → News h₀ L h' [(dr, lobj dvs 0)] → IntsAre dvs (drawnL script) → wpAny (model prog w) A (execs (lawS 1) (lawE L cd)) Q E { s with heap := h', toks := tk }) :
    wpAny (model prog w) A (execs (lawS 0) (lawE L cd)) Q E s := by
  refine wpAny_execs_cons (wpAny_Assign_Name (wpAny_BinOp (List_ (args_cons (wpAny_Constant_int (args_cons (wpAny_Constant_int (args_cons (wpAny_Constant_int (args_cons (wpAny_Constant_int (args_nil (newLst ?_)))))))))))))
  have F₁ := F.push (lobj [.int 8 s.toks, .int 230 (s.toks + 1), .int 9 (s.toks + 1 + 1), .int 8 (s.toks + 1 + 1 + 1)] 0)
  have N₁ := (News.nil (h₀ := h₀) (L := L) (h := s.heap)).push F (lobj [.int 8 s.toks, .int 230 (s.toks + 1), .int 9 (s.toks + 1 + 1), .int 8 (s.toks + 1 + 1 + 1)] 0)
  have hi1 : IntsAre [.int 8 s.toks, .int 230 (s.toks + 1), .int 9 (s.toks + 1 + 1), .int 8 (s.toks + 1 + 1 + 1)] [8, 230, 9, 8] := .cons _ _ (.cons _ _ (.cons _ _ (.cons _ _ .nil)))
  dsimp only
  generalize [Value.int 8 s.toks, .int 230 (s.toks + 1), .int 9 (s.toks + 1 + 1), .int 8 (s.toks + 1 + 1 + 1)] = avs at F₁ N₁ hi1 ⊢
  generalize s.heap.push (lobj avs 0) = h₁ at F₁ N₁ ⊢
  generalize s.heap.objs.size = a1 at N₁ ⊢
  refine Subscript_ (ld (v := .ref sc) F₁ hsc (wpAny_Slice (wpAny_evalPart_none (wpAny_evalPart_some (wpAny_Constant_int (wpAny_evalPart_none ?_))))))
  refine sub_slice (vs := svs) (lo := none) (hi := some 5) (st := none) (hl.at fun o e => F₁.keep _ o e) .none (.int _ _) .none (by simp) (by rw [hi.length]; omega) fun h₂ D hk₂ hD hD' => ?_
  have e5 : (slicePick svs.toArray none (some 5) none).toList = svs.take 5 := by
    rw [show (some (5 : Int)) = some (((5 : Nat) : Nat) : Int) from rfl, slicePick_upto']
  rw [e5] at hD'
  have F₂ := F₁.after hk₂
  have N₂ := News.consNew F₁ (News.keep N₁ fun p hp o e => hk₂ _ _ e) hD hD'
  dsimp only
  refine add_lists_ints (vs := avs) (ws := svs.take 5) F₂ N₂ ⟨_, N₂.get (.tail _ (.head _)), rfl, _, rfl⟩ ⟨_, hD', rfl, _, rfl⟩ hi1 (hi.take 5) (fun h₃ F₃ N₃ hi₃ => ?_) (by rw [sizeLine_eq]; simp; omega)
  have N₃' : News h₀ L h₃ [(h₂.objs.size, lobj (avs ++ svs.take 5) 0)] := fun p hp => N₃ p (by rw [List.mem_singleton.mp hp]; exact .head _)
  refine stU F₃ N₃' fun h₄ F₄ N₄ S₄ => ?_
  exact K h₄ _ _ _ F₄ N₄ hi₃
end
end Mine
end
section 
open PySem PySem.W PyProof.Rows PySem.Calls PySem.Spec PySem.NumText
set_option maxRecDepth 100000
set_option maxHeartbeats 4000000
namespace Mine
local macro_rules | `(tactic| walk_at "lk") => `(tactic| (repeat (first | exact up_eq | assumption | refine up_of ?_ (by decide))))
section
variable {prog : Program} {w : World} {A : Around} {E : Value → Shared → Prop} {s : Shared} {mg mb : Str → Option Value} {h₀ : Heap} {L : Addr} {cd : Value} {m : Str → Option Value} {nx : List (Addr × Obj)}
theorem law_numbers {dr : Addr} {dvs : List Value} {kd : Nat} {xs : List Int} {Q : Flow → Shared → Prop} (hh : A.handled = none) (F : Fr h₀ L s.heap m) (N : News h₀ L s.heap nx) (hm : m "drawn" = some (.ref dr)) (hd : (dr, lobj dvs kd) ∈ nx) (hi : IntsAre dvs xs) (hlen : xs.length ≤ 100)
    (K : ∀ h' tk D ys n, Fr h₀ L h' (up m "numbers" (.ref D)) → News h₀ L h' ((D, lobj ys n) :: nx) → IntsAre ys (xs.map numL) → wpAny (model prog w) A (execs (lawS 2) (lawE L cd)) Q E { s with heap := h', toks := tk }) :
    wpAny (model prog w) A (execs (lawS 1) (lawE L cd)) Q E s := by
  have hl : s.heap.IsList dr dvs.toArray := ⟨_, N.get hd, rfl, _, rfl⟩
  refine wpAny_execs_cons (comp_assign (h₀ := h₀) hh (ld (v := .ref dr) F hm ⟨dr, dvs.toArray, fun i y _ => ∃ x t, xs[i]? = some x ∧ y = Value.int (numL x) t, m, nx, rfl, hl, ?_, F, N, ?_, ?_, ?_⟩))
  · rw [sizeLine_eq, List.size_toArray, hi.length]; omega
  · intro I i v s' Q E' _ _ hQ; exact wpAny_pure hQ
  · intro C i v h tk m₃ E' hv hn hk hC
    obtain ⟨x, t, rfl, hx⟩ := IntsAre.item hi (by simpa using hv)
    refine elt_name hn hk hC fun h₂ tk₂ hn₂ hk₂ => ?_
    refine wpAny_BinOp (wpAny_Constant_int (wpAny_BinOp (ldE hn₂ up_eq (wpAny_Constant_int (mod_int' (by decide) (add_int ?_))))))
    exact ⟨h₂, _, rfl, fun _ _ e => e, fun h'' _ _ => ⟨x, _, hx, rfl⟩⟩
  · intro D h' tk ys n hD hlen' hF F' N' _ _
    refine K h' tk D ys n F' N' (ints_of (by rw [hlen', List.size_toArray, List.length_map, hi.length]) fun i y e => ?_)
    obtain ⟨x, t, hx, rfl⟩ := hF i y e
    exact ⟨_, t, by rw [List.getElem?_map, hx]; rfl, rfl⟩
end
end Mine
end
section 
open PySem PySem.W PyProof.Rows PySem.Calls PySem.Spec PySem.NumText
set_option maxRecDepth 100000
set_option maxHeartbeats 4000000
namespace Mine
local macro_rules | `(tactic| walk_at "lk") => `(tactic| (repeat (first | exact up_eq | assumption | refine up_of ?_ (by decide))))
section
variable {prog : Program} {w : World} {A : Around} {E : Value → Shared → Prop} {s : Shared} {mg mb : Str → Option Value} {h₀ : Heap} {L : Addr} {cd : Value} {m : Str → Option Value} {nx : List (Addr × Obj)}
theorem mul0 {n : Int} {t u : Tok} {Q : Value → Shared → Prop} (hn : 0 ≤ n ∧ n ≤ 2) (h : ∀ t' k, Q (.str ⟨(List.replicate n.toNat 48).toArray⟩ t') { s with toks := k }) : wpAny (model prog w) A (binaryOp .Mult (.str "0" t) (.int n u)) Q E s := by
  refine SB.mul (mul_zero_ok n hn) fun t' k => ?_
  rw [mul_zero_text n hn]
  exact h t' k
theorem law_texts {dr : Addr} {dvs : List Value} {kd : Nat} {xs : List Int} {Q : Flow → Shared → Prop} (W : Wd mg mb h₀) (hh : A.handled = none) (F : Fr h₀ L s.heap m) (N : News h₀ L s.heap nx) (hm : m "drawn" = some (.ref dr)) (hd : (dr, lobj dvs kd) ∈ nx) (hi : IntsAre dvs xs) (hlen : xs.length ≤ 100)
    (K : ∀ h' tk D ys n, Fr h₀ L h' (up m "texts" (.ref D)) → News h₀ L h' ((D, lobj ys n) :: nx) → StrsAre ys (xs.map txtL) → wpAny (model prog w) A (execs (lawS 3) (lawE L cd)) Q E { s with heap := h', toks := tk }) :
    wpAny (model prog w) A (execs (lawS 2) (lawE L cd)) Q E s := by
  have hl : s.heap.IsList dr dvs.toArray := ⟨_, N.get hd, rfl, _, rfl⟩
  refine wpAny_execs_cons (comp_assign (h₀ := h₀) hh (ld (v := .ref dr) F hm ⟨dr, dvs.toArray, fun i y _ => ∃ x t, xs[i]? = some x ∧ y = Value.str ⟨(txtL x).toArray⟩ t, m, nx, rfl, hl, ?_, F, N, ?_, ?_, ?_⟩))
  · rw [sizeLine_eq, List.size_toArray, hi.length]; omega
  · intro I i v s' Q E' _ _ hQ; exact wpAny_pure hQ
  · intro C i v h tk m₃ E' hv hn hk hC
    obtain ⟨x, t, rfl, hx⟩ := IntsAre.item hi (by simpa using hv)
    refine elt_name hn hk hC fun h₂ tk₂ hn₂ hk₂ => ?_
    have W₂ := W.keeps (Keep.trans F.keep hk₂)
    have hz := zerosL_range x
    have hnr := numL_range x
    have hlt := (txtL_ok x).2.2
    refine wpAny_BinOp (wpAny_BinOp (wpAny_Constant_str (wpAny_BinOp (wpAny_BinOp (ldE hn₂ up_eq (wpAny_Constant_int (floordiv_int (by decide) ?_ (.inl (PyProof.noPylong_small (by decide)))))) ))))
    refine wpAny_Constant_int (mod_int' (by decide) ?_)
    refine mul0 hz fun t' k' => ?_
    dsimp only
    refine Call_ (ldB W₂ boot_str (cwT (args_cons (wpAny_BinOp (wpAny_Constant_int (wpAny_BinOp (ldE hn₂ up_eq (wpAny_Constant_int (mod_int' (by decide) (add_int (args_nil (P.str_of_int ?_ ?_))))))))))))
    · have h2 : (1 + x.fmod 126 : Int) ≤ 126 := hnr.2
      have h1 : 1 ≤ (1 + x.fmod 126 : Int) := hnr.1
      have h3 : (1 + x.fmod 126 : Int).natAbs < 2 ^ 7 := by omega
      exact Nat.lt_of_lt_of_le ((Nat.log2_lt (by omega)).mpr h3) (by decide)
    · dsimp only
      refine PyProof.Rows.add_str (fun t₉ tk₉ => ?_) ?_
      · refine ⟨h₂, _, rfl, fun _ _ e => e, fun h'' _ _ => ⟨x, t₉, hx, ?_⟩⟩
        congr 1
        apply congrArg Str.mk
        apply Array.toList_inj.mp
        simp [txtL, zerosL, numT, numL]
      · rw [sizeLine_eq]
        have e : (txtL x).length = (List.replicate ((x.fdiv 126).fmod 3).toNat 48).length + (Str.ofString (toString (1 + x.fmod 126))).length := by
          simp [txtL, zerosL, numT, numL, Str.length]
        have e2 : Str.length ⟨(List.replicate ((x.fdiv 126).fmod 3).toNat 48).toArray⟩ = (List.replicate ((x.fdiv 126).fmod 3).toNat 48).length := by simp [Str.length]
        omega
  · intro D h' tk ys n hD hlen' hF F' N' _ _
    refine K h' tk D ys n F' N' (strs_of (by rw [hlen', List.size_toArray, List.length_map, hi.length]) fun i y e => ?_)
    obtain ⟨x, t, hx, rfl⟩ := hF i y e
    exact ⟨_, t, by rw [List.getElem?_map, hx]; rfl, rfl⟩
end
end Mine
end
section 
open PySem PySem.W PyProof.Rows PySem.Calls PySem.Spec PySem.NumText
set_option maxRecDepth 100000
set_option maxHeartbeats 4000000
namespace Mine
local macro_rules | `(tactic| walk_at "lk") => `(tactic| (repeat (first | exact up_eq | assumption | refine up_of ?_ (by decide))))
section
variable {prog : Program} {w : World} {A : Around} {E : Value → Shared → Prop} {s : Shared} {env : Env} {h₀ : Heap}
/-- what a turn leaves that makes nothing of note -/
def TurnZ (h₀ : Heap) (L : Addr) (R : Result → Shared → Prop) (J : (Str → Option Value) → Prop) (h : Heap) (s : Shared) (f : Flow) (s' : Shared) : Prop := match f with
  | .ret v => R (.ok (.ret v)) s'
  | .brk => R (.ok .next) s'
  | _ => ∃ h' tk' m₂, s' = { s with heap := h', toks := tk' } ∧ Fr h₀ L h' m₂ ∧ J m₂ ∧ (∀ b o, b ≠ L → h.get? b = some o → h'.get? b = some o)
theorem for_zip {R : Result → Shared → Prop} {xa xb : Str} {pa pb pt : Pos} {kt : Nat} {body : List Stmt} {m₀ : Str → Option Value} {news : List (Addr × Obj)} {l1 l2 : Addr} {xs ys : Array Value} (hh : A.handled = none) (hl1 : s.heap.IsList l1 xs) (hl2 : s.heap.IsList l2 ys)
    (J : Nat → (Str → Option Value) → Prop) (h1L : l1 ≠ env.locals) (h2L : l2 ≠ env.locals)
    (F : Fr h₀ env.locals s.heap m₀) (N : News h₀ env.locals s.heap news) (hJ : J 0 m₀)
    (turn : ∀ i va vb m₁ h tk, xs[i]? = some va → ys[i]? = some vb → J i m₁ → Fr h₀ env.locals h (up (up m₁ xa va) xb vb) → News h₀ env.locals h news → ∀ E',
      wpAny (model prog w) A (execs body env) (TurnZ h₀ env.locals R (J (i + 1)) h s) E' { s with heap := h, toks := tk })
    (done : ∀ m₁ h tk, J (min xs.size ys.size) m₁ → Fr h₀ env.locals h m₁ → News h₀ env.locals h news → (∀ b o, b ≠ env.locals → s.heap.get? b = some o → h.get? b = some o) → R (.ok .next) { s with heap := h, toks := tk })
    (hka : env.kindOf xa = some .local := by rfl) (hkb : env.kindOf xb = some .local := by rfl) (hp : (env.scope.kind == .class || (env.scope.kind == .module && env.locals != env.globals)) = false := by rfl) :
    wpAny (model prog w) A (call (.type "zip") [.ref l1, .ref l2]) (fun xv s₁ => wpAny (model prog w) A (pyIter xv) (fun it s₂ => codeAny (model prog w) A (.forLoop (.Tuple [.Name xa pa, .Name xb pb] kt pt) it body [] env) R s₂) E s₁) E s := by
  refine zip_rows F hl1 hl2 fun h₁ z TI TO i1 i2 D hst F₁ hk₁ hz hTO hi1 hi2 hLs => ?_
  have W := WalksT.zip2 (prog := prog) (w := w) hh z TI TO i1 i2 l1 l2 D xs ys
  refine W.self 0 _ _ _ hst ?_
  have hLlt := F.ns.lt
  have hLw : env.locals ∉ [z, TO, i1, i2] := fun q => by
    simp only [List.mem_cons, List.not_mem_nil, or_false] at q
    obtain ⟨q1, q2, q3, q4⟩ := hLs
    rcases q with e | e | e | e
    · exact absurd (e ▸ q1) (Nat.lt_irrefl _)
    · exact absurd (e ▸ q2) (Nat.lt_irrefl _)
    · exact absurd (e ▸ q3) (Nat.lt_irrefl _)
    · exact absurd (e ▸ q4) (Nat.lt_irrefl _)
  have hTI0 : TI ≠ env.locals := fun q => by
    obtain ⟨_, hTI, _⟩ := hst
    obtain ⟨o, _, _, ho, hd, _⟩ := F₁.ns
    rw [← q, hTI] at ho
    cases ho
    cases hd
  have hLf : ∀ b ∈ [z, TI, TO, i1, i2, l1, l2], b ≠ env.locals := fun b hb q => by
    simp only [List.mem_cons, List.not_mem_nil, or_false] at hb
    rcases hb with e | e | e | e | e | e | e
    · exact hLw (by rw [← q, e]; exact .head _)
    · exact hTI0 (e ▸ q)
    · exact hLw (by rw [← q, e]; exact .tail _ (.head _))
    · exact hLw (by rw [← q, e]; exact .tail _ (.tail _ (.head _)))
    · exact hLw (by rw [← q, e]; exact .tail _ (.tail _ (.tail _ (.head _))))
    · exact h1L (e ▸ q)
    · exact h2L (e ▸ q)
  have hwge : ∀ b ∈ [z, TO, i1, i2], s.heap.objs.size ≤ b := fun b hb => by
    simp only [List.mem_cons, List.not_mem_nil, or_false] at hb
    rcases hb with rfl | rfl | rfl | rfl <;> assumption
  have hnw : ∀ b o, s.heap.get? b = some o → b ∉ [z, TO, i1, i2] := fun b o e hb => absurd (Heap.lt_size e) (Nat.not_lt.mpr (hwge b hb))
  have h0w : ∀ b o, h₀.get? b = some o → b ∉ [z, TO, i1, i2] := fun b o e => hnw b o (F.keep b o e)
  refine codeAny_forLoop_any (fun k s' => ∃ i h tk m₁, s' = { s with heap := h, toks := tk } ∧ i ≤ min xs.size ys.size ∧ k = min xs.size ys.size + 1 - i ∧
      (IsZip h z TI TO .none ∧ IsPair h TI (.ref i1) (.ref i2) ∧ (∃ a b, IsPair h TO a b) ∧ h.IsListIter i1 l1 i ∧ h.IsListIter i2 l2 i ∧ h.IsList l1 xs ∧ h.IsList l2 ys) ∧ J i m₁ ∧ Fr h₀ env.locals h m₁ ∧ News h₀ env.locals h news ∧ ∀ b o, b ≠ env.locals → s.heap.get? b = some o → h.get? b = some o) ?_ (min xs.size ys.size + 1)
    ⟨0, h₁, s.toks, m₀, rfl, Nat.zero_le _, rfl, hst, hJ, F₁, News.keep N fun p _ o e => hk₁ _ _ e, fun b o _ e => hk₁ b o e⟩
  rintro k s' ⟨i, h, tk, m₁, rfl, hi, rfl, hsti, hJi, Fi, Ni, hKi⟩
  have keepF : ∀ {h h' : Heap} {m}, Fr h₀ env.locals h m → (∀ b o, b ∉ [z, TO, i1, i2] → h.get? b = some o → h'.get? b = some o) → Fr h₀ env.locals h' m := fun G hk =>
    ⟨G.ns.at' fun o e => hk _ o hLw e, fun b o e => hk b o (h0w b o e) (G.keep b o e), G.above⟩
  have keepN : ∀ {h h' : Heap}, News h₀ env.locals h news → (∀ b o, b ∉ [z, TO, i1, i2] → h.get? b = some o → h'.get? b = some o) → News h₀ env.locals h' news := fun G hk =>
    News.keep G fun p hp o e => hk _ _ (hnw _ _ (N p hp).1) e
  by_cases hlt : i < min xs.size ys.size
  · refine W.item i _ _ _ hlt hsti fun T vals h₂ tk₂ hP hT hTup hMid hk₂ => ?_
    obtain ⟨va, vb, hva, hvb, rfl⟩ := hP
    have F₂ := keepF Fi hk₂
    have N₂ := keepN Ni hk₂
    refine W.go _ _ _ i T _ _ _ hMid fun h₃ st₃ hk₃ => ?_
    have F₃ := keepF F₂ hk₃
    have N₃ := keepN N₂ hk₃
    have hTw := W.apart i T _ hMid
    have hTup₃ : h₃.IsTuple T #[va, vb] := by obtain ⟨o, ho, r⟩ := hTup; exact ⟨o, hk₃ _ _ hTw ho, r⟩
    refine wpAny_assign_Tuple hh hTup₃ rfl rfl fun h₄ he₄ => ?_
    have k₄ : Keep h₃ h₄ := fun b o e => he₄ b o (Nat.ne_of_lt (Heap.lt_size e)) e
    have F₄ := F₃.after k₄
    have N₄ := News.keep N₃ fun p _ o e => k₄ _ _ e
    have st₄ := W.frame _ _ _ st₃ fun b _ o e => k₄ b o e
    show wpAny _ _ (assignInOrder [assign (.Name xa pa) env, assign (.Name xb pb) env] [va, vb]) _ _ _
    refine assignInOrder_cons (wpAny_assign_Name (stE F₄ N₄ (fun h₅ F₅ N₅ S₅ => assignInOrder_cons (wpAny_assign_Name (stE F₅ N₅ (fun h₆ F₆ N₆ S₆ => assignInOrder_nil ?_) hkb hp))) hka hp))
    dsimp only at S₅ S₆ ⊢
    have st₆ := W.frame _ _ _ st₄ fun b hb o e => S₆.extBut b o (hLf b hb) (S₅.extBut b o (hLf b hb) e)
    refine wpAny_mono (turn i va vb m₁ h₆ _ hva hvb hJi F₆ N₆ _) (fun f s₃ ht => ?_) fun _ _ e => e
    have fin : (∃ h' tk' m₂, s₃ = { s with heap := h', toks := tk' } ∧ Fr h₀ env.locals h' m₂ ∧ J (i + 1) m₂ ∧ (∀ b o, b ≠ env.locals → h₆.get? b = some o → h'.get? b = some o)) →
        ∃ mm, mm < min xs.size ys.size + 1 - i ∧ ∃ i h tk m₁, s₃ = { s with heap := h, toks := tk } ∧ i ≤ min xs.size ys.size ∧ mm = min xs.size ys.size + 1 - i ∧
      (IsZip h z TI TO .none ∧ IsPair h TI (.ref i1) (.ref i2) ∧ (∃ a b, IsPair h TO a b) ∧ h.IsListIter i1 l1 i ∧ h.IsListIter i2 l2 i ∧ h.IsList l1 xs ∧ h.IsList l2 ys) ∧ J i m₁ ∧ Fr h₀ env.locals h m₁ ∧ News h₀ env.locals h news ∧ ∀ b o, b ≠ env.locals → s.heap.get? b = some o → h.get? b = some o := by
      rintro ⟨h', tk', m₂, rfl, F', hJ', hk'⟩
      refine ⟨min xs.size ys.size + 1 - (i + 1), by omega, i + 1, h', tk', m₂, rfl, hlt, rfl, W.frame _ _ _ st₆ fun b hb o e => hk' b o (hLf b hb) e, hJ', F', News.keep N₆ fun p hp o e => hk' _ _ (N₆ p hp).2.1 e, fun b o hb e => hk' b o hb (S₆.extBut b o hb (S₅.extBut b o hb (k₄ b o (hk₃ b o (hnw b o e) (hk₂ b o (hnw b o e) (hKi b o hb e))))))⟩
    cases f with
    | ret v => exact ht
    | brk => exact ht
    | next => exact fin ht
    | cont => exact fin ht
  · obtain rfl : i = min xs.size ys.size := by omega
    refine W.done _ _ _ hsti fun h₂ tk₂ hk₂ => wpAny_execs_nil ?_
    exact done m₁ h₂ tk₂ hJi (keepF Fi hk₂) (keepN Ni hk₂) fun b o hb e => hk₂ b o (hnw b o e) (hKi b o hb e)
end
end Mine
end
section 
open PySem PySem.W PyProof.Rows PySem.Calls PySem.Spec PySem.NumText
set_option maxRecDepth 100000
set_option maxHeartbeats 4000000
namespace Mine
local macro_rules | `(tactic| walk_at "lk") => `(tactic| (repeat (first | exact up_eq | assumption | refine up_of ?_ (by decide))))
theorem none_of_keep {h h' : Heap} {a : Addr} (hk : Keep h h') (h1 : h'.get? a = none) : h.get? a = none := by
  cases q : h.get? a with
  | none => rfl
  | some o => rw [hk _ _ q] at h1; cases h1
/-- the i-th of ys is a list of [100, n], n the i-th of ns -/
def ReadsAre (els : List (Addr × Obj)) (ys : List Value) (ns : List Int) : Prop := ∀ (i : Nat) y, ys[i]? = some y → ∃ a us k n, y = Value.ref a ∧ (a, lobj us k) ∈ els ∧ ns[i]? = some n ∧ IntsAre us [100, n]
section
variable {prog : Program} {w : World} {A : Around} {E : Value → Shared → Prop} {s : Shared} {mg mb : Str → Option Value} {h₀ : Heap} {L : Addr} {cd : Value} {m : Str → Option Value} {nx : List (Addr × Obj)}
theorem law_reads {tl : Addr} {tvs : List Value} {kt : Nat} {qs : List (List Nat)} {Q : Flow → Shared → Prop} (W : Wd mg mb h₀) (hroom : A.depth < recursionLimit) (hh : A.handled = none) (F : Fr h₀ L s.heap m) (N : News h₀ L s.heap nx) (hm : m "texts" = some (.ref tl)) (ht : (tl, lobj tvs kt) ∈ nx) (hi : StrsAre tvs qs)
    (hd : ∀ q ∈ qs, digP q ∧ q.length ≤ 600) (hlen : qs.length ≤ 100)
    (K : ∀ h' tk D ys n els, Fr h₀ L h' (up m "reads" (.ref D)) → News h₀ L h' ((D, lobj ys n) :: els ++ nx) → ys.length = qs.length → ReadsAre els ys (qs.map fun q => ((digitsVal q : Nat) : Int)) → wpAny (model prog w) A (execs (lawS 4) (lawE L cd)) Q E { s with heap := h', toks := tk }) :
    wpAny (model prog w) A (execs (lawS 3) (lawE L cd)) Q E s := by
  have hl : s.heap.IsList tl tvs.toArray := ⟨_, N.get ht, rfl, _, rfl⟩
  refine wpAny_execs_cons (comp_assign (h₀ := h₀) hh (ld (v := .ref tl) F hm ⟨tl, tvs.toArray, fun i y h => ∃ a us k q, y = Value.ref a ∧ h.get? a = some (lobj us k) ∧ s.heap.get? a = none ∧ qs[i]? = some q ∧ IntsAre us [100, ((digitsVal q : Nat) : Int)], m, nx, rfl, hl, ?_, F, N, ?_, ?_, ?_⟩))
  · rw [sizeLine_eq, List.size_toArray, hi.length]; omega
  · intro I i v s' Q E' _ _ hQ; exact wpAny_pure hQ
  · intro C i v h tk m₃ E' hv hn hk hC
    obtain ⟨q, t, hq, rfl⟩ := hi.get (by simpa using hv)
    have hdq := hd q (List.mem_of_getElem? hq)
    refine elt_name hn hk hC fun h₂ tk₂ hn₂ hk₂ => ?_
    have W₂ := W.keeps (Keep.trans F.keep hk₂)
    refine Call_ (ldG W₂ W.cv (cwF W₂.fcv (args_cons (ldE hn₂ up_eq (args_nil ⟨fun _ _ e => e, cv_spec (ps := [q]) W₂ hroom hh (by simp) (cut_one hdq.1) (by simpa using hdq.2) ?_⟩)))))
    intro rd us nk h₄ tk₄ hrd hrd' hus hk₄
    rw [cv_one hdq.1] at hus
    dsimp only [wants] at hrd hrd' hk₄ ⊢
    refine ⟨h₄, tk₄, rfl, hk₄, fun h'' k1 _ => ⟨rd, us, nk, q, rfl, k1 _ _ hrd hrd', none_of_keep hk₂ hrd, hq, hus⟩⟩
  · intro D h' tk ys n hD hlen' hF F' N' hk' hD0
    obtain ⟨oL, _, _, hoL, _⟩ := id F.ns
    obtain ⟨els, Ne, hE⟩ := elems_of (h₀ := h₀) (h := h') (L := L) (ys := ys) (P := fun i us => ∃ q, qs[i]? = some q ∧ IntsAre us [100, ((digitsVal q : Nat) : Int)]) (fun i y e => by
      obtain ⟨a, us, k, q, rfl, ha, ha0, hq, hus⟩ := hF i y e
      exact ⟨a, us, k, rfl, ha, (fun z => by rw [z, hoL] at ha0; cases ha0), none_of_keep F.keep ha0, q, hq, hus⟩)
    refine K h' tk D ys n els F' (fun p hp => ?_) (by rw [hlen', List.size_toArray, hi.length]) fun i y e => ?_
    · rcases List.mem_append.mp hp with hp | hp
      · rcases List.mem_cons.mp hp with rfl | hp
        · exact N' _ (.head _)
        · exact Ne p hp
      · exact N' p (.tail _ hp)
    · obtain ⟨a, us, k, rfl, ha, q, hq, hus⟩ := hE i y e
      exact ⟨a, us, k, _, rfl, ha, by rw [List.getElem?_map, hq]; rfl, hus⟩
end
end Mine
end
section 
open PySem PySem.W PyProof.Rows PySem.Calls PySem.Spec PySem.NumText
set_option maxRecDepth 100000
set_option maxHeartbeats 4000000
namespace Mine
local macro_rules | `(tactic| walk_at "lk") => `(tactic| (repeat (first | exact up_eq | assumption | refine up_of ?_ (by decide))))
section
variable {prog : Program} {w : World} {A : Around} {E : Value → Shared → Prop} {s : Shared} {mg mb : Str → Option Value} {h₀ : Heap} {L : Addr} {cd : Value} {m : Str → Option Value} {nx : List (Addr × Obj)}
def loopN : List Str := ["one", "n", "two", "m", "answer"]
def SameOff (xs : List Str) (m m' : Str → Option Value) : Prop := ∀ x, x ∉ xs → m' x = m x
theorem SameOff.up {xs : List Str} {m m' : Str → Option Value} {x : Str} {v : Value} (h : SameOff xs m m') (hx : x ∈ xs := by decide) : SameOff xs m (up m' x v) := fun y hy => by
  show (if y = x then some v else m' y) = m y
  rw [if_neg (fun q => hy (by rw [q]; exact hx))]
  exact h y hy
theorem SameOff.at {xs : List Str} {m m' : Str → Option Value} {x : Str} {r : Option Value} (h : SameOff xs m m') (e : m x = r) (hx : x ∉ xs := by decide) : m' x = r := (h x hx).trans e
theorem law_pairs {rl nl : Addr} {rvs nvs : List Value} {kr kn : Nat} {ns : List Int} {Q : Flow → Shared → Prop} (W : Wd mg mb h₀) (hroom : A.depth < recursionLimit) (hu : A.units + 10 < cLine) (hh : A.handled = none) (F : Fr h₀ L s.heap m) (N : News h₀ L s.heap nx)
    (hm1 : m "reads" = some (.ref rl)) (hr : (rl, lobj rvs kr) ∈ nx) (hm2 : m "numbers" = some (.ref nl)) (hn : (nl, lobj nvs kn) ∈ nx) (hi : IntsAre nvs ns) (hR : ReadsAre nx rvs ns)
    (K : ∀ h' tk m', SameOff loopN m m' → Fr h₀ L h' m' → News h₀ L h' nx → wpAny (model prog w) A (execs (lawS 5) (lawE L cd)) Q E { s with heap := h', toks := tk }) :
    wpAny (model prog w) A (execs (lawS 4) (lawE L cd)) Q E s := by
  have hrL : rl ≠ L := (N _ hr).2.1
  have hnL : nl ≠ L := (N _ hn).2.1
  have lists : ∀ {h : Heap}, News h₀ L h nx → h.IsList rl rvs.toArray ∧ h.IsList nl nvs.toArray := fun Nh => ⟨⟨_, Nh.get hr, rfl, _, rfl⟩, ⟨_, Nh.get hn, rfl, _, rfl⟩⟩
  have W₁ := W.keeps F.keep
  refine wpAny_execs_cons (wpAny_For (Call_ (ldB W₁ boot_zip (cwT (args_cons (ld (v := .ref rl) F hm1 (args_cons (ld (v := .ref nl) F hm2 (args_nil ?_)))))))))
  refine for_zip (env := lawE L cd) hh (lists N).1 (lists N).2 (fun _ m' => SameOff loopN m m') hrL hnL F N (fun _ _ => rfl) ?_ ?_
  · intro i va vb m₁ h tk hva hvb hJ Fi Ni E'
    obtain ⟨a, us, k, n, rfl, ha, hn1, hus⟩ := hR i va (by simpa using hva)
    obtain ⟨n', tn, rfl, hn2⟩ := IntsAre.item hi (by simpa using hvb)
    obtain rfl : n = n' := by rw [hn1] at hn2; cases hn2; rfl
    have W₂ := W.keeps Fi.keep
    have hJ' : SameOff loopN m (up (up m₁ "one" (.ref a)) "n" (.int n tn)) := hJ.up.up
    have hone : up (up m₁ "one" (.ref a)) "n" (.int n tn) "one" = some (.ref a) := by walk_at "lk"
    have hnn : up (up m₁ "one" (.ref a)) "n" (.int n tn) "n" = some (.int n tn) := by walk_at "lk"
    generalize up (up m₁ "one" (.ref a)) "n" (.int n tn) = mi at Fi hJ' hone hnn
    refine wpAny_execs_cons (wpAny_For (Call_ (ldB W₂ boot_zip (cwT (args_cons (ld (v := .ref rl) Fi (hJ'.at hm1) (args_cons (ld (v := .ref nl) Fi (hJ'.at hm2) (args_nil ?_)))))))))
    refine for_zip (s := { s with heap := h, toks := tk }) (env := lawE L cd) hh (lists Ni).1 (lists Ni).2 (fun _ m' => SameOff ["two", "m", "answer"] mi m') hrL hnL Fi Ni (fun _ _ => rfl) ?_ ?_
    · intro j vc vd m₂ h₂ tk₂ hvc hvd hJ₂ F₂ N₂ E₂
      obtain ⟨b, us2, k2, p, rfl, hb, hp1, hus2⟩ := hR j vc (by simpa using hvc)
      obtain ⟨p', tp, rfl, hp2⟩ := IntsAre.item hi (by simpa using hvd)
      obtain rfl : p = p' := by rw [hp1] at hp2; cases hp2; rfl
      have W₃ := W.keeps F₂.keep
      have hJ₂' : SameOff ["two", "m", "answer"] mi (up (up m₂ "two" (.ref b)) "m" (.int p tp)) := hJ₂.up.up
      have htwo : up (up m₂ "two" (.ref b)) "m" (.int p tp) "two" = some (.ref b) := by walk_at "lk"
      have hmm : up (up m₂ "two" (.ref b)) "m" (.int p tp) "m" = some (.int p tp) := by walk_at "lk"
      generalize up (up m₂ "two" (.ref b)) "m" (.int p tp) = mj at F₂ hJ₂' htwo hmm
      refine wpAny_execs_cons (wpAny_Assign_Name (Call_ (ldG W₃ W.coll (cwF W₃.fcoll (args_cons (ld (v := .ref a) F₂ (hJ₂'.at hone) (args_cons (ld (v := .ref b) F₂ htwo (args_nil ⟨fun _ _ e => e, coll_ints W₃ hroom hu (N₂.get ha) (N₂.get hb) hus hus2 ?_⟩)))))))))
      intro h₄ tk₄ t₄ hk₄
      dsimp only [wants] at hk₄ ⊢
      have F₄ := F₂.after hk₄
      have N₄ := News.keep N₂ fun p hp o e => hk₄ _ _ e
      refine stU F₄ N₄ fun h₅ F₅ N₅ S₅ => ?_
      dsimp only at S₅ ⊢
      have W₅ := W.keeps F₅.keep
      have hans : up mj "answer" (.int (sgnI n p) t₄) "answer" = some (.int (sgnI n p) t₄) := up_eq
      have h5n : up mj "answer" (.int (sgnI n p) t₄) "n" = some (.int n tn) := up_of (hJ₂'.at hnn)
      have h5m : up mj "answer" (.int (sgnI n p) t₄) "m" = some (.int p tp) := up_of hmm
      have hJ₅ : SameOff ["two", "m", "answer"] mi (up mj "answer" (.int (sgnI n p) t₄)) := hJ₂'.up
      generalize up mj "answer" (.int (sgnI n p) t₄) = m₅ at F₅ hans h5n h5m hJ₅
      refine wpAny_execs_cons (wpAny_If (wpAny_isTrue_BoolOp (wpAny_allTrue_Or_cons (wpAny_isTrue_Compare1 (Call_ (ldB W₅ boot_type (cwT (args_cons (ld (v := .int (sgnI n p) t₄) F₅ hans (args_nil (call_type_of (Tx := "int") (typeIs_int _ _ _) (by decide) (ldB W₅ boot_int (isnot_type_same (wpAny_truthy_bool ?_)))))))))))))) 
      rw [if_neg (by decide)]
      refine wpAny_allTrue_Or_cons (wpAny_isTrue_Compare1 (ld (v := .int (sgnI n p) t₄) F₅ hans (IfExp_ (wpAny_isTrue_Compare1 (ld (v := .int n tn) F₅ h5n (ld (v := .int p tp) F₅ h5m (gt_int (wpAny_truthy_bool ?_))))))))
      have fin : ∀ (x : Int), x = sgnI n p → (sgnI n p != x) = false := fun x e => by rw [e]; simp
      by_cases c1 : p < n
      · rw [if_pos (decide_eq_true c1)]
        refine wpAny_Constant_int (ne_int (wpAny_truthy_bool ?_))
        rw [fin 1 (by unfold sgnI; rw [if_pos c1]), if_neg (by decide)]
        refine wpAny_allTrue_Or_nil ?_
        rw [if_neg (by decide)]
        refine wpAny_execs_nil (wpAny_execs_nil ?_)
        exact ⟨h₅, _, m₅, rfl, F₅, hJ₅, fun b o hb e => S₅.extBut b o hb (hk₄ b o e)⟩
      · rw [if_neg (by simpa using c1)]
        refine IfExp_ (wpAny_isTrue_Compare1 (ld (v := .int n tn) F₅ h5n (ld (v := .int p tp) F₅ h5m (lt_int (wpAny_truthy_bool ?_)))))
        by_cases c2 : n < p
        · rw [if_pos (decide_eq_true c2)]
          refine UnaryOp_ (wpAny_Constant_int (neg_int (ne_int (wpAny_truthy_bool ?_))))
          rw [fin (-1) (by unfold sgnI; rw [if_neg c1, if_pos c2]), if_neg (by decide)]
          refine wpAny_allTrue_Or_nil ?_
          rw [if_neg (by decide)]
          refine wpAny_execs_nil (wpAny_execs_nil ?_)
          exact ⟨h₅, _, m₅, rfl, F₅, hJ₅, fun b o hb e => S₅.extBut b o hb (hk₄ b o e)⟩
        · rw [if_neg (by simpa using c2)]
          refine wpAny_Constant_int (ne_int (wpAny_truthy_bool ?_))
          rw [fin 0 (by unfold sgnI; rw [if_neg c1, if_neg c2]), if_neg (by decide)]
          refine wpAny_allTrue_Or_nil ?_
          rw [if_neg (by decide)]
          refine wpAny_execs_nil (wpAny_execs_nil ?_)
          exact ⟨h₅, _, m₅, rfl, F₅, hJ₅, fun b o hb e => S₅.extBut b o hb (hk₄ b o e)⟩
    · intro m₂ h₂ tk₂ hJ₂ F₂ N₂ hK₂
      dsimp only
      refine wpAny_execs_nil ?_
      exact ⟨h₂, _, m₂, rfl, F₂, fun x hx => (hJ₂ x (fun q => hx (by revert q; simp only [loopN, List.mem_cons, List.not_mem_nil, or_false]; intro q; rcases q with q | q | q <;> simp [q]))).trans (hJ' x hx), hK₂⟩
  · intro m₂ h₂ tk₂ hJ₂ F₂ N₂ _
    exact K h₂ tk₂ m₂ hJ₂ F₂ N₂
end
end Mine
end
section 
open PySem PySem.W PyProof.Rows PySem.Calls PySem.Spec PySem.NumText
set_option maxRecDepth 100000
set_option maxHeartbeats 4000000
namespace Mine
/-- runs with one sign between -/
def sepC (c : Nat) : List (List Nat) → List (List Nat)
  | [] => []
  | [q] => [q]
  | q :: r => q :: [c] :: sepC c r
theorem sepC_cons (c : Nat) (q p : List Nat) (r : List (List Nat)) : sepC c (q :: p :: r) = q :: [c] :: sepC c (p :: r) := rfl
theorem join_flat (c : Nat) : ∀ qs : List (List Nat), (Txt.join ⟨#[c]⟩ (qs.map fun q => (⟨q.toArray⟩ : Str))).cps.toList = (sepC c qs).flatten := by
  intro qs
  unfold Txt.join
  rw [StrLaws.glued_eq_join]
  induction qs with
  | nil => rfl
  | cons q r ih =>
    cases r with
    | nil => simp [sepC, Str.join]
    | cons p r =>
      rw [sepC_cons, List.flatten_cons, List.flatten_cons, ← ih, List.map_cons]
      show (Str.cps (_ ++ _ ++ Str.join _ (List.map _ (p :: r)))).toList = _
      rw [Str.cps_append, Str.cps_append]
      simp
theorem sepC_cut {c : Nat} (hc : isSep c) : ∀ {qs : List (List Nat)} {tl : List (List Nat)}, (∀ q ∈ qs, digP q) → Cut tl → (∀ x, tl.flatten.head? = some x → ¬ isDig x) → Cut (sepC c qs ++ tl) := by
  intro qs
  induction qs with
  | nil => intro tl _ h _; exact h
  | cons q r ih =>
    intro tl hq h hx
    cases r with
    | nil => exact ⟨.inr ⟨hq q (.head _), hx⟩, h⟩
    | cons p r =>
      rw [sepC_cons]
      refine ⟨.inr ⟨hq q (.head _), fun x e => ?_⟩, .inl ⟨c, rfl, hc⟩, ih (fun q' h' => hq q' (.tail _ h')) h hx⟩
      obtain rfl : c = x := by simpa using e
      unfold isSep at hc
      unfold isDig
      omega
theorem sepC_out {c : Nat} (hc : isSep c) {qs : List (List Nat)} (hq : ∀ q ∈ qs, digP q) : cvOut (sepC c qs) = qs.flatMap fun q => [(100 : Int), ((digitsVal q : Nat) : Int)] := by
  induction qs with
  | nil => rfl
  | cons q r ih =>
    have e1 : outOf q = [(100 : Int), ((digitsVal q : Nat) : Int)] := by simp [outOf, dgB_of (hq q (.head _))]
    cases r with
    | nil => simp [sepC, cvOut, e1]
    | cons p r =>
      have e2 : outOf [c] = [] := by simp [outOf, sep_out ⟨c, rfl, hc⟩]
      have := ih fun q' h' => hq q' (.tail _ h')
      simp only [cvOut] at this ⊢
      rw [sepC_cons, List.flatMap_cons, List.flatMap_cons, this, e1, e2]
      simp
theorem cvOut_append (a b : List (List Nat)) : cvOut (a ++ b) = cvOut a ++ cvOut b := by simp [cvOut]
theorem sepC_len (c : Nat) : ∀ qs : List (List Nat), (sepC c qs).flatten.length ≤ (qs.map fun q => q.length + 1).sum := by
  intro qs
  induction qs with
  | nil => simp [sepC]
  | cons q r ih =>
    cases r with
    | nil => simp [sepC]
    | cons p r =>
      rw [sepC_cons, List.flatten_cons, List.flatten_cons, List.map_cons, List.sum_cons, List.length_append, List.length_append]
      simp only [List.length_cons, List.length_nil] at ih ⊢
      omega
theorem sum_le {qs : List (List Nat)} {k : Nat} (h : ∀ q ∈ qs, q.length ≤ k) : (qs.map fun q => q.length + 1).sum ≤ qs.length * (k + 1) := by
  induction qs with
  | nil => simp
  | cons q r ih =>
    have h1 := h q (.head _)
    have h2 := ih fun q' h' => h q' (.tail _ h')
    rw [List.map_cons, List.sum_cons, List.length_cons, Nat.succ_mul]
    omega
theorem strs_pairs {vs : List Value} {qs : List (List Nat)} (h : StrsAre vs qs) : ∃ l : List (Str × Tok), strValues l = vs ∧ l.map (·.1) = qs.map fun q => (⟨q.toArray⟩ : Str) := by
  induction h with
  | nil => exact ⟨[], rfl, rfl⟩
  | @cons q t vs qs _ ih =>
    obtain ⟨l, e1, e2⟩ := ih
    exact ⟨(⟨q.toArray⟩, t) :: l, by rw [← e1]; rfl, by rw [List.map_cons, e2]; rfl⟩
section
variable {prog : Program} {w : World} {A : Around} {E : Value → Shared → Prop} {s : Shared}
theorem join_meets {c : Nat} {t : Tok} {D : Addr} {vs : List Value} {qs : List (List Nat)} {Q : Value → Shared → Prop} (hl : s.heap.IsList D vs.toArray) (hi : StrsAre vs qs) (hq : ∀ q ∈ qs, q.length ≤ 600) (hn : qs.length ≤ 200)
    (h : ∀ t' k, Q (.str ⟨(sepC c qs).flatten.toArray⟩ t') { s with toks := k }) : ∃ S, Meets (Builtin.«str.join» ⟨[.str ⟨#[c]⟩ t, .ref D], []⟩) S ∧ S A (wants Q E) s := by
  obtain ⟨l, rfl, e⟩ := strs_pairs hi
  have hok : JoinOk ⟨#[c]⟩ (l.map (·.1)) = true := by
    refine joinOk_of_weight ?_ (by show (1 : Nat) ≤ 16; omega)
    rw [e, List.map_map, List.length_map]
    have h1 := sum_le hq
    have h2 : ∀ qs : List (List Nat), (qs.map ((fun x : Str => x.length) ∘ fun q => (⟨q.toArray⟩ : Str))).sum + qs.length = (qs.map fun q => q.length + 1).sum := by
      intro qs
      induction qs with
      | nil => rfl
      | cons q r ih =>
        simp only [List.map_cons, List.sum_cons, List.length_cons] at ih ⊢
        have e : ((fun x : Str => x.length) ∘ fun q => (⟨q.toArray⟩ : Str)) q = q.length := by simp [Str.length]
        omega
    have h3 := h2 qs
    have h4 : qs.length * 601 ≤ 200 * 601 := Nat.mul_le_mul_right _ hn
    omega
  have hok' := hok
  unfold JoinOk at hok
  rw [Bool.not_eq_true'] at hok
  have e2 : Txt.join ⟨#[c]⟩ (l.map (·.1)) = ⟨(sepC c qs).flatten.toArray⟩ := by
    rw [e]
    have := join_flat c qs
    generalize Txt.join ⟨#[c]⟩ (qs.map fun q => (⟨q.toArray⟩ : Str)) = z at this
    cases z with
    | mk a => simp only at this; rw [← this]
  refine ⟨_, PySem.meets_str_join_list ⟨#[c]⟩ t D l hok, hl, post_join l ⟨joinFit_length hok, ?_⟩⟩
  rw [e2]
  exact h
end
end Mine
end
section 
open PySem PySem.W PyProof.Rows PySem.Calls PySem.Spec PySem.NumText
set_option maxRecDepth 100000
set_option maxHeartbeats 4000000
namespace Mine
local macro_rules | `(tactic| walk_at "lk") => `(tactic| (repeat (first | exact up_eq | assumption | refine up_of ?_ (by decide))))
theorem picks2 {ns : List Int} : ∀ {vs : List Value}, IntsAre vs (ns.flatMap fun n => [100, n]) →
    IntsAre ((List.range ns.length).filterMap fun k => vs[2 * k + 0]?) (ns.map fun _ => 100) ∧ IntsAre ((List.range ns.length).filterMap fun k => vs[2 * k + 1]?) ns := by
  induction ns with
  | nil => intro vs _; exact ⟨.nil, .nil⟩
  | cons n r ih =>
    intro vs h
    have h' : IntsAre vs (100 :: n :: r.flatMap fun n => [100, n]) := by simpa using h
    cases h' with
    | cons _ t h1 => cases h1 with
      | cons _ u h2 =>
        obtain ⟨i1, i2⟩ := ih h2
        rw [List.length_cons, List.range_succ_eq_map, List.filterMap_cons, List.filterMap_cons, List.filterMap_map, List.filterMap_map]
        rename_i vs'
        have e : ∀ a : Nat, (fun k => (Value.int 100 t :: Value.int n u :: vs')[2 * k + a]?) ∘ Nat.succ = fun k => vs'[2 * k + a]? := fun a => by
          funext k
          show (Value.int 100 t :: Value.int n u :: vs')[2 * (k + 1) + a]? = _
          rw [show 2 * (k + 1) + a = (2 * k + a) + 1 + 1 by omega, List.getElem?_cons_succ, List.getElem?_cons_succ]
        rw [e 0, e 1]
        exact ⟨.cons _ _ i1, .cons _ _ i2⟩
theorem slice_two {vs : List Value} {n a : Nat} (hn : vs.length = 2 * n) (ha : a = 0 ∨ a = 1) : (slicePick vs.toArray (some (a : Int)) none (some 2)).toList = (List.range n).filterMap fun k => vs[2 * k + a]? := by
  unfold slicePick sliceBounds sliceRange
  simp only [List.size_toArray, hn, Option.getD_some]
  have e1 : max 0 (min (if (a : Int) < 0 then (a : Int) + ((2 * n : Nat) : Int) else (a : Int)) ((2 * n : Nat) : Int)) = if n = 0 then 0 else (a : Int) := by
    rw [if_neg (by omega)]; split <;> omega
  simp only [show ((2 : Int) > 0) = True from by simp, if_true, e1]
  by_cases h0 : n = 0
  · subst h0; simp
  · rw [if_neg h0, if_pos (by omega)]
    have e2 : ((((2 * n : Nat) : Int) - (a : Int) + 2 - 1) / 2).toNat = n := by omega
    rw [e2, List.filterMap_map]
    congr 1
    funext k
    have e3 : ((a : Int) + 2 * (k : Int)).toNat = 2 * k + a := by omega
    simp [e3]
/-- the four tails -/
def tailP (b : Int) : List (List Nat) := if b = 0 then [[46], [48]] else if b = 1 then [] else if b = 2 then [[46], [49, 50, 55], [43], [53]] else [[45], [48, 48], [95], [51]]
def tailN (b : Int) : List Int := if b = 0 then [0] else if b = 1 then [] else if b = 2 then [127, 5] else [0, 3]
theorem tail_ok (b : Int) (hb : 0 ≤ b ∧ b < 4) : Cut (tailP b) ∧ (∀ x, (tailP b).flatten.head? = some x → ¬ isDig x) ∧ cvOut (tailP b) = (tailN b).flatMap (fun n => [100, n]) ∧ (tailP b).flatten.length ≤ 6 := by
  rcases (show b = 0 ∨ b = 1 ∨ b = 2 ∨ b = 3 by omega) with rfl | rfl | rfl | rfl
  · refine ⟨⟨.inl ⟨46, rfl, .inl rfl⟩, .inr ⟨⟨by simp, by simp [isDig]⟩, by simp⟩, trivial⟩, by simp [tailP, isDig], by decide, by decide⟩
  · exact ⟨trivial, by simp [tailP], by decide, by decide⟩
  · refine ⟨⟨.inl ⟨46, rfl, .inl rfl⟩, .inr ⟨⟨by simp, by simp [isDig]⟩, by simp [isDig]⟩, .inl ⟨43, rfl, .inr (.inr (.inl rfl))⟩, .inr ⟨⟨by simp, by simp [isDig]⟩, by simp⟩, trivial⟩, by simp [tailP, isDig], by decide, by decide⟩
  · refine ⟨⟨.inl ⟨45, rfl, .inr (.inr (.inr rfl))⟩, .inr ⟨⟨by simp, by simp [isDig]⟩, by simp [isDig]⟩, .inl ⟨95, rfl, .inr (.inl rfl)⟩, .inr ⟨⟨by simp, by simp [isDig]⟩, by simp⟩, trivial⟩, by simp [tailP, isDig], by decide, by decide⟩
theorem insD_mem {q p : List Nat} {row : List (List Nat)} (h : p ∈ insD q row) : p = q ∨ p ∈ row := by
  induction row with
  | nil => exact .inl (List.mem_singleton.mp h)
  | cons x r ih =>
    simp only [insD] at h
    split at h
    · rcases List.mem_cons.mp h with rfl | h
      · exact .inr (.head _)
      · exact (ih h).imp id (.tail _)
    · rcases List.mem_cons.mp h with rfl | h
      · exact .inl rfl
      · exact .inr h
theorem fall_mem {qs : List (List Nat)} : ∀ {p : List Nat}, p ∈ fall qs → p ∈ qs := by
  have : ∀ (qs row : List (List Nat)) p, p ∈ qs.foldl (fun row q => insD q row) row → p ∈ qs ∨ p ∈ row := by
    intro qs
    induction qs with
    | nil => intro row p h; exact .inr h
    | cons q r ih =>
      intro row p h
      rcases ih _ p h with h | h
      · exact .inl (.tail _ h)
      · rcases insD_mem h with rfl | h
        · exact .inl (.head _)
        · exact .inr h
  intro p h
  rcases this qs [] p h with h | h
  · exact h
  · cases h
end Mine
end
section 
open PySem PySem.W PyProof.Rows PySem.Calls PySem.Spec PySem.NumText
set_option maxRecDepth 100000
set_option maxHeartbeats 4000000
namespace Mine
local macro_rules | `(tactic| walk_at "lk") => `(tactic| (repeat (first | exact up_eq | assumption | refine up_of ?_ (by decide))))
/-- the law's own helpers -/
structure Wl (mg : Str → Option Value) (h : Heap) : Prop where
  fal : ∃ f, mg "_law_falling" = some (.ref f) ∧ FnIs h f "_law_falling" 10
  mar : ∃ f, mg "_law_marks" = some (.ref f) ∧ FnIs h f "_law_marks" 11
  tol : ∃ f, mg "_law_told" = some (.ref f) ∧ FnIs h f "_law_told" 12
section
variable {prog : Program} {w : World} {A : Around} {E : Value → Shared → Prop} {s : Shared} {mg mb : Str → Option Value} {h₀ : Heap} {L : Addr} {cd : Value} {m : Str → Option Value} {nx : List (Addr × Obj)}
theorem law_behind {sc : Addr} {svs : List Value} {script : List Int} {Q : Flow → Shared → Prop} (W : Wd mg mb h₀) (hh : A.handled = none) (F : Fr h₀ L s.heap m) (N : News h₀ L s.heap nx) (hsc : m "script" = some (.ref sc)) (hl : h₀.IsList sc svs.toArray) (hi : IntsAre svs script)
    (K : ∀ h' tk t, Fr h₀ L h' (up m "behind" (.int (script.sum.fmod 4) t)) → News h₀ L h' nx → wpAny (model prog w) A (execs (lawS 6) (lawE L cd)) Q E { s with heap := h', toks := tk }) :
    wpAny (model prog w) A (execs (lawS 5) (lawE L cd)) Q E s := by
  have W₁ := W.keeps F.keep
  refine wpAny_execs_cons (wpAny_Assign_Name (wpAny_BinOp (Call_ (ldB W₁ boot_sum (cwB (args_cons (ld (v := .ref sc) F hsc (args_nil (sum_L (ns := script) hh (hl.at fun o e => F.keep _ o e) hi fun h₂ tk₂ t₂ hk₂ => wpAny_Constant_int (mod_int' (by decide) ?_))))))))))
  have F₂ := F.after hk₂
  have N₂ := News.keep N fun p hp o e => hk₂ _ _ e
  refine stU F₂ N₂ fun h₃ F₃ N₃ S₃ => ?_
  exact K h₃ _ _ F₃ N₃
theorem four_strs {env : Env} {a b c d : Str} {pa pb pc pd p : Pos} {Q : Value → Shared → Prop} (h : ∀ tk t1 t2 t3 t4, Q (.ref s.heap.objs.size) { s with heap := s.heap.push (lobj [.str a t1, .str b t2, .str c t3, .str d t4] 0), toks := tk }) :
    wpAny (model prog w) A (eval (.List [.Constant (.str a) 0 pa, .Constant (.str b) 0 pb, .Constant (.str c) 0 pc, .Constant (.str d) 0 pd] p) env) Q E s :=
  List_ (args_cons (wpAny_Constant_str (args_cons (wpAny_Constant_str (args_cons (wpAny_Constant_str (args_cons (wpAny_Constant_str (args_nil (newLst (h _ _ _ _ _)))))))))))
theorem law_text {tl : Addr} {tvs : List Value} {kt : Nat} {qs : List (List Nat)} {b : Int} {tb : Tok} {Q : Flow → Shared → Prop} (W : Wd mg mb h₀) (V : Wl mg h₀) (hroom : A.depth + 1 < recursionLimit) (hu : A.units + 100 < cLine) (hh : A.handled = none) (F : Fr h₀ L s.heap m) (N : News h₀ L s.heap nx)
    (hm : m "texts" = some (.ref tl)) (ht : (tl, lobj tvs kt) ∈ nx) (hi : StrsAre tvs qs) (hd : ∀ q ∈ qs, digP q ∧ q.length ≤ 5) (hlen : qs.length ≤ 9) (hb : m "behind" = some (.int b tb)) (hb4 : 0 ≤ b ∧ b < 4)
    (K : ∀ h' tk t, Fr h₀ L h' (up m "text" (.str ⟨(sepC 46 (fall qs) ++ tailP b).flatten.toArray⟩ t)) → News h₀ L h' nx → wpAny (model prog w) A (execs (lawS 7) (lawE L cd)) Q E { s with heap := h', toks := tk }) :
    wpAny (model prog w) A (execs (lawS 6) (lawE L cd)) Q E s := by
  have W₁ := W.keeps F.keep
  obtain ⟨ff, hff, hfn⟩ := V.fal
  have hfn₁ := hfn.keeps F.keep
  have hl : s.heap.IsList tl tvs.toArray := ⟨_, N.get ht, rfl, _, rfl⟩
  refine wpAny_execs_cons (wpAny_Assign_Name (wpAny_BinOp (meth1 PySem.F.plainAttrs_str PySem.F.slot_str_join PySem.F.type_str_join PySem.F.entry_str_join (wpAny_Constant_str ⟨typeIs_str _ _ _, (fun _ e => nomatch e), Call_ (ldG W₁ hff (cwF hfn₁ (args_cons (ld (v := .ref tl) F hm (args_nil ⟨fun _ _ e => e, falling_spec hfn₁ W₁ hroom hu hh hl hi (fun q hq => ⟨(hd q hq).1, by have := (hd q hq).2; omega⟩) (by omega) ?_⟩)))))⟩))))
  intro r us n h₂ tk₂ hr hr' hus hk₂
  dsimp only [wants] at hr hr' hk₂ ⊢
  refine ⟨typeIs_str _ _ _, PySem.F.args_str_join_2 _ _, join_meets (c := 46) (vs := us) ⟨_, hr', rfl, _, rfl⟩ hus (fun q hq => by have := (hd q (fall_mem hq)).2; omega) (by rw [fall_len]; omega) fun t₃ tk₃ => ?_⟩
  have F₂ := F.after hk₂
  have N₂ := News.keep N fun p hp o e => hk₂ _ _ e
  dsimp only
  refine Subscript_ (four_strs fun tk₄ t1 t2 t3 t4 => ?_)
  dsimp only
  have F₄ := F₂.push (lobj [.str ".0" t1, .str "" t2, .str ".127+5" t3, .str "-00_3" t4] 0)
  have hg : (h₂.push (lobj [.str ".0" t1, .str "" t2, .str ".127+5" t3, .str "-00_3" t4] 0)).get? h₂.objs.size = some _ := Heap.get?_push_size _ rfl
  have N₄ : News h₀ L (h₂.push (lobj [.str ".0" t1, .str "" t2, .str ".127+5" t3, .str "-00_3" t4] 0)) nx := News.keep N₂ fun p hp o e => Heap.get?_push_of_some _ e
  obtain ⟨t₅, hx⟩ : ∃ t₅, [Value.str ".0" t1, .str "" t2, .str ".127+5" t3, .str "-00_3" t4][b.toNat]? = some (.str ⟨(tailP b).flatten.toArray⟩ t₅) := by
    rcases (show b = 0 ∨ b = 1 ∨ b = 2 ∨ b = 3 by omega) with rfl | rfl | rfl | rfl
    · exact ⟨t1, rfl⟩
    · exact ⟨t2, rfl⟩
    · exact ⟨t3, rfl⟩
    · exact ⟨t4, rfl⟩
  generalize h₂.push (lobj [.str ".0" t1, .str "" t2, .str ".127+5" t3, .str "-00_3" t4] 0) = h₄ at F₄ hg N₄ ⊢
  refine ld (v := .int b tb) F₄ hb (sub_list (x := .str ⟨(tailP b).flatten.toArray⟩ t₅) ⟨_, hg, rfl, _, rfl⟩ hb4.1 (by omega) hx ?_)
  refine PyProof.Rows.add_str (fun t₉ tk₉ => ?_) ?_
  · have e : (⟨(sepC 46 (fall qs)).flatten.toArray⟩ : Str) ++ (⟨(tailP b).flatten.toArray⟩ : Str) = ⟨(sepC 46 (fall qs) ++ tailP b).flatten.toArray⟩ := by
      apply congrArg Str.mk
      apply Array.toList_inj.mp
      simp
    rw [e]
    refine stU F₄ N₄ fun h₅ F₅ N₅ S₅ => ?_
    exact K h₅ _ _ F₅ N₅
  · have h1 := sepC_len 46 (fall qs)
    have h2 := sum_le (qs := fall qs) (k := 5) fun q hq => (hd q (fall_mem hq)).2
    have h3 := (tail_ok b hb4).2.2.2
    have h4 : (fall qs).length * 6 ≤ 9 * 6 := Nat.mul_le_mul_right _ (by rw [fall_len]; exact hlen)
    show (sepC 46 (fall qs)).flatten.toArray.size + (tailP b).flatten.toArray.size ≤ _
    rw [sizeLine_eq, List.size_toArray, List.size_toArray]
    omega
end
end Mine
end
section 
open PySem PySem.W PyProof.Rows PySem.Calls PySem.Spec PySem.NumText
set_option maxRecDepth 100000
set_option maxHeartbeats 4000000
namespace Mine
local macro_rules | `(tactic| walk_at "lk") => `(tactic| (repeat (first | exact up_eq | assumption | refine up_of ?_ (by decide))))
/-- the numbers that are read -/
def nsP (qs : List (List Nat)) (b : Int) : List Int := (fall qs).map (fun q => ((digitsVal q : Nat) : Int)) ++ tailN b
theorem tailN_len (b : Int) : (tailN b).length ≤ 2 := by unfold tailN; (repeat' split) <;> simp
theorem nsP_len (qs : List (List Nat)) (b : Int) : (nsP qs b).length ≤ qs.length + 2 := by
  have := tailN_len b
  simp [nsP, fall_len]; omega
theorem cv_nsP {qs : List (List Nat)} {b : Int} (hd : ∀ q ∈ qs, digP q) (hb : 0 ≤ b ∧ b < 4) : cvOut (sepC 46 (fall qs) ++ tailP b) = (nsP qs b).flatMap fun n => [100, n] := by
  rw [cvOut_append, sepC_out (.inl rfl) (fun q hq => hd q (fall_mem hq)), (tail_ok b hb).2.2.1, nsP, List.flatMap_append, List.flatMap_map]
theorem cut_nsP {qs : List (List Nat)} {b : Int} (hd : ∀ q ∈ qs, digP q) (hb : 0 ≤ b ∧ b < 4) : Cut (sepC 46 (fall qs) ++ tailP b) :=
  sepC_cut (.inl rfl) (fun q hq => hd q (fall_mem hq)) (tail_ok b hb).1 (tail_ok b hb).2.1
theorem len_nsP {qs : List (List Nat)} {b : Int} (hd : ∀ q ∈ qs, q.length ≤ 5) (hb : 0 ≤ b ∧ b < 4) (hlen : qs.length ≤ 9) : (sepC 46 (fall qs) ++ tailP b).flatten.length ≤ 100 := by
  have h1 := sepC_len 46 (fall qs)
  have h2 := sum_le (qs := fall qs) (k := 5) fun q hq => hd q (fall_mem hq)
  have h3 := (tail_ok b hb).2.2.2
  have h4 : (fall qs).length * 6 ≤ 9 * 6 := Nat.mul_le_mul_right _ (by rw [fall_len]; exact hlen)
  rw [List.flatten_append, List.length_append]
  omega
theorem rep_fold (x : Value) (k : Nat) : List.foldl (fun x1 x2 => x1 ++ x2) #[] (List.replicate k #[x]) = (List.replicate k x).toArray := by
  have : ∀ (k : Nat) (acc : Array Value), List.foldl (fun x1 x2 => x1 ++ x2) acc (List.replicate k #[x]) = acc ++ (List.replicate k x).toArray := by
    intro k
    induction k with
    | zero => intro acc; simp
    | succ k ih =>
      intro acc
      rw [List.replicate_succ, List.foldl_cons, ih, List.replicate_succ]
      apply Array.toList_inj.mp
      simp
  rw [this]; simp
theorem ints_rep (ns : List Int) (c : Int) (t : Tok) : IntsAre (List.replicate ns.length (.int c t)) (ns.map fun _ => c) := by
  induction ns with
  | nil => exact .nil
  | cons n r ih => exact .cons _ _ ih
section
variable {prog : Program} {w : World} {A : Around} {E : Value → Shared → Prop} {s : Shared} {mg mb : Str → Option Value} {h₀ : Heap} {L : Addr} {cd : Value} {m : Str → Option Value} {nx : List (Addr × Obj)}
theorem law_read {ps : List (List Nat)} {t : Tok} {Q : Flow → Shared → Prop} (W : Wd mg mb h₀) (hroom : A.depth < recursionLimit) (hh : A.handled = none) (F : Fr h₀ L s.heap m) (N : News h₀ L s.heap nx)
    (hm : m "text" = some (.str ⟨ps.flatten.toArray⟩ t)) (hc : Cut ps) (hs : ps.flatten.length ≤ 600)
    (K : ∀ h' tk D us k, Fr h₀ L h' (up m "read" (.ref D)) → News h₀ L h' ((D, lobj us k) :: nx) → IntsAre us (cvOut ps) → wpAny (model prog w) A (execs (lawS 8) (lawE L cd)) Q E { s with heap := h', toks := tk }) :
    wpAny (model prog w) A (execs (lawS 7) (lawE L cd)) Q E s := by
  have W₁ := W.keeps F.keep
  refine wpAny_execs_cons (wpAny_Assign_Name (Call_ (ldG W₁ W.cv (cwF W₁.fcv (args_cons (ld (v := .str ⟨ps.flatten.toArray⟩ t) F hm (args_nil ⟨fun _ _ e => e, cv_spec (ps := ps) W₁ hroom hh (by simp) hc (by simpa using hs) ?_⟩)))))))
  intro rd us nk h₄ tk₄ hrd hrd' hus hk₄
  dsimp only [wants] at hrd hrd' hk₄ ⊢
  have F₄ := F.after hk₄
  have N₄ := News.consNew F (News.keep N fun p hp o e => hk₄ _ _ e) hrd hrd'
  refine stU F₄ N₄ fun h₅ F₅ N₅ S₅ => ?_
  exact K h₅ _ _ _ _ F₅ N₅ hus
theorem sub_slice2 {value : Expr} {pl pk p : Pos} {l : Addr} {vs : List Value} {n a : Nat} {Q : Value → Shared → Prop} {env : Env} (F : Fr h₀ L s.heap m) (N : News h₀ L s.heap nx) (hl : s.heap.IsList l vs.toArray) (hn : vs.length = 2 * n) (ha : a = 0 ∨ a = 1) (hsz : vs.length ≤ 10000)
    (h : ∀ h' D tk, Keep s.heap h' → s.heap.get? D = none → Fr h₀ L h' m → News h₀ L h' ((D, lobj ((List.range n).filterMap fun k => vs[2 * k + a]?) 0) :: nx) → Q (.ref D) { s with heap := h', toks := tk }) :
    wpAny (model prog w) A (eval (.Slice (some (.Constant (.int (a : Int)) 0 pl)) none (some (.Constant (.int 2) 0 pk)) p) env) (fun i s₂ => wpAny (model prog w) A (subscriptTail value (.Slice (some (.Constant (.int (a : Int)) 0 pl)) none (some (.Constant (.int 2) 0 pk)) p) (.ref l) i) Q E s₂) E s := by
  refine wpAny_Slice (wpAny_evalPart_some (wpAny_Constant_int (wpAny_evalPart_none (wpAny_evalPart_some (wpAny_Constant_int ?_)))))
  dsimp only
  refine sub_slice (s := { s with toks := s.toks + 1 + 1 }) (value := value) (slice := .Slice (some (.Constant (.int (a : Int)) 0 pl)) none (some (.Constant (.int 2) 0 pk)) p) (vs := vs) (lo := some (a : Int)) (hi := none) (st := some 2) hl (.int _ _) .none (.int _ _) (by simp) hsz fun h₂ D hk₂ hD hD' => ?_
  rw [slice_two hn ha] at hD'
  exact h h₂ D _ hk₂ hD (F.after hk₂) (News.consNew F (News.keep N fun p hp o e => hk₂ _ _ e) hD hD')
theorem law_hundreds {rd : Addr} {us : List Value} {kr : Nat} {ns : List Int} {Q : Flow → Shared → Prop} (W : Wd mg mb h₀) (hu : A.units + 10 < cLine) (hh : A.handled = none) (F : Fr h₀ L s.heap m) (N : News h₀ L s.heap nx)
    (hm : m "read" = some (.ref rd)) (hr : (rd, lobj us kr) ∈ nx) (hi : IntsAre us (ns.flatMap fun n => [100, n])) (hlen : ns.length ≤ 100)
    (K : ∀ h' tk, Fr h₀ L h' m → News h₀ L h' nx → wpAny (model prog w) A (execs (lawS 9) (lawE L cd)) Q E { s with heap := h', toks := tk }) :
    wpAny (model prog w) A (execs (lawS 8) (lawE L cd)) Q E s := by
  have hul : us.length = 2 * ns.length := by
    rw [hi.length]
    clear hi hlen
    induction ns with
    | nil => rfl
    | cons x r ih => simp only [List.flatMap_cons, List.length_append, List.length_cons, List.length_nil, ih]; omega
  have hl : s.heap.IsList rd us.toArray := ⟨_, N.get hr, rfl, _, rfl⟩
  refine wpAny_execs_cons (wpAny_If (wpAny_isTrue_Compare1 (Subscript_ (ld (v := .ref rd) F hm (sub_slice2 (a := 0) F N hl hul (.inl rfl) (by omega) fun h₂ D tk₂ hk₂ hD F₂ N₂ => ?_)))))
  have W₂ := W.keeps F₂.keep
  refine wpAny_BinOp (List_ (args_cons (wpAny_Constant_int (args_nil (newLst ?_)))))
  have F₃ := F₂.push (lobj [.int 100 tk₂] 0)
  have N₃ := N₂.push F₂ (lobj [.int 100 tk₂] 0)
  have hk₃ : Keep h₂ (h₂.push (lobj [.int 100 tk₂] 0)) := Keep.push _ _
  dsimp only
  generalize h₂.push (lobj [.int 100 tk₂] 0) = h₃ at F₃ N₃ hk₃ ⊢
  generalize h₂.objs.size = D3 at N₃ ⊢
  have W₃ := W.keeps F₃.keep
  refine wpAny_BinOp (Call_ (ldB W₃ boot_len (cwB (args_cons (ld (v := .ref rd) F₃ hm (args_nil (call_len_list (hl.at fun o e => hk₃ _ _ (hk₂ _ _ e)) ?_ (wpAny_Constant_int (floordiv_int (by decide) ?_ (.inl (PyProof.noPylong_small (by decide))))))))))))
  · rw [List.size_toArray]; omega
  dsimp only
  have e2 : Int.fdiv ((us.toArray.size : Nat) : Int) 2 = ((ns.length : Nat) : Int) := by rw [List.size_toArray, hul, Int.fdiv_eq_ediv_of_nonneg _ (by decide)]; omega
  rw [e2]
  refine mul_list F₃ N₃ (N₃.get (.head _)) (by omega) (by omega) ?_ fun h₄ F₄ N₄ => ?_
  · show 1 * _ ≤ _
    rw [Nat.one_mul]
    have : (2 : Nat) ^ 24 = 16777216 := by decide
    omega
  have e3 : List.foldl (fun x1 x2 => x1 ++ x2) #[] (List.replicate (if #[Value.int 100 tk₂].isEmpty = true then 0 else ((ns.length : Nat) : Int).toNat) #[Value.int 100 tk₂]) = (List.replicate ns.length (Value.int 100 tk₂)).toArray := by
    rw [if_neg (by simp), Int.toNat_natCast, rep_fold]
  dsimp only at N₄ ⊢
  rw [e3] at N₄
  refine ne_ints (by omega) (N₄.get (.tail _ (.tail _ (.head _)))) (N₄.get (.head _)) (picks2 hi).1 (ints_rep ns 100 tk₂) (wpAny_truthy_bool ?_)
  rw [if_neg (by simp)]
  refine wpAny_execs_nil ?_
  exact K h₄ _ F₄ fun p hp => N₄ p (.tail _ (.tail _ (.tail _ hp)))
end
end Mine
end
section 
open PySem PySem.W PyProof.Rows PySem.Calls PySem.Spec PySem.NumText
set_option maxRecDepth 100000
set_option maxHeartbeats 4000000
namespace Mine
local macro_rules | `(tactic| walk_at "lk") => `(tactic| (repeat (first | exact up_eq | assumption | refine up_of ?_ (by decide))))
def moreB (b : Int) : Nat := if b = 0 ∨ b = 3 then 3 else 0
section
variable {prog : Program} {w : World} {A : Around} {E : Value → Shared → Prop} {s : Shared} {mg mb : Str → Option Value} {h₀ : Heap} {L : Addr} {cd : Value} {m : Str → Option Value} {nx : List (Addr × Obj)}
theorem law_count {nl : Addr} {nvs : List Value} {kn : Nat} {ns : List Int} {b : Int} {tb : Tok} {Q : Flow → Shared → Prop} (W : Wd mg mb h₀) (F : Fr h₀ L s.heap m) (N : News h₀ L s.heap nx)
    (hm : m "numbers" = some (.ref nl)) (hn : (nl, lobj nvs kn) ∈ nx) (hi : IntsAre nvs ns) (hlen : ns.length ≤ 100) (hb : m "behind" = some (.int b tb))
    (K : ∀ h' tk m' t, SameOff ["count"] m m' → m' "count" = some (.int ((ns.length + moreB b : Nat) : Int) t) → Fr h₀ L h' m' → News h₀ L h' nx → wpAny (model prog w) A (execs (lawS 11) (lawE L cd)) Q E { s with heap := h', toks := tk }) :
    wpAny (model prog w) A (execs (lawS 9) (lawE L cd)) Q E s := by
  have W₁ := W.keeps F.keep
  have hl : s.heap.IsList nl nvs.toArray := ⟨_, N.get hn, rfl, _, rfl⟩
  refine wpAny_execs_cons (wpAny_Assign_Name (Call_ (ldB W₁ boot_len (cwB (args_cons (ld (v := .ref nl) F hm (args_nil (call_len_list hl ?_ ?_))))))))
  · rw [List.size_toArray, hi.length]; omega
  refine stU F N fun h₂ F₂ N₂ S₂ => ?_
  rw [List.size_toArray, hi.length] at F₂
  dsimp only
  have hb₂ : up m "count" (.int ((ns.length : Nat) : Int) (s.toks + 1)) "behind" = some (.int b tb) := up_of hb
  have done : ∀ tk, moreB b = 0 → wpAny (model prog w) A (execs (lawS 11) (lawE L cd)) Q E { s with heap := h₂, toks := tk } := fun tk e =>
    K h₂ tk _ (s.toks + 1) (fun x hx => if_neg fun q => hx (by rw [q]; exact .head _)) (by rw [e]; exact up_eq) F₂ N₂
  have more : ∀ tk, moreB b = 3 → wpAny (model prog w) A (execs (match (lawS 10)[0]? with | some (Stmt.If _ b _ _) => b | _ => []) (lawE L cd)) (fun f s' => match f with | .next => wpAny (model prog w) A (execs (lawS 11) (lawE L cd)) Q E s' | f => Q f s') E { s with heap := h₂, toks := tk } := fun tk e => by
    refine wpAny_execs_cons (wpAny_AugAssign_Name (ldn (v := .int ((ns.length : Nat) : Int) (s.toks + 1)) F₂ up_eq (wpAny_Constant_int (iadd_int (stU F₂ N₂ fun h₃ F₃ N₃ S₃ => wpAny_execs_nil ?_)))))
    refine K h₃ _ _ (tk + 1) (fun x hx => (if_neg fun q => hx (by rw [q]; exact .head _)).trans (if_neg fun q => hx (by rw [q]; exact .head _))) ?_ F₃ N₃
    rw [e]
    exact (if_pos rfl).trans rfl
  refine wpAny_execs_cons (wpAny_If (wpAny_isTrue_BoolOp (wpAny_allTrue_Or_cons (wpAny_isTrue_Compare1 (ld (v := .int b tb) F₂ hb₂ (wpAny_Constant_int (eq_int (wpAny_truthy_bool ?_))))))))
  by_cases h0 : b = 0
  · rw [if_pos (by simp [h0]), if_pos rfl]
    exact more _ (by simp [moreB, h0])
  · rw [if_neg (by simp [h0])]
    refine wpAny_allTrue_Or_cons (wpAny_isTrue_Compare1 (ld (v := .int b tb) F₂ hb₂ (wpAny_Constant_int (eq_int (wpAny_truthy_bool ?_)))))
    by_cases h3 : b = 3
    · rw [if_pos (by simp [h3]), if_pos rfl]
      exact more _ (by simp [moreB, h3])
    · rw [if_neg (by simp [h3])]
      refine wpAny_allTrue_Or_nil ?_
      rw [if_neg (by decide)]
      refine wpAny_execs_nil ?_
      exact done _ (by simp [moreB, h0, h3])
end
end Mine
end
section 
open PySem PySem.W PyProof.Rows PySem.Calls PySem.Spec PySem.NumText
set_option maxRecDepth 100000
set_option maxHeartbeats 4000000
namespace Mine
theorem perm_sum {a b : List Int} (h : a.Perm b) : a.sum = b.sum := by
  induction h with
  | nil => rfl
  | cons x _ ih => simp only [List.sum_cons, ih]
  | swap x y l => simp only [List.sum_cons]; omega
  | trans _ _ i1 i2 => exact i1.trans i2
theorem insD_perm (q : List Nat) (row : List (List Nat)) : (insD q row).Perm (q :: row) := by
  induction row with
  | nil => exact .refl _
  | cons p r ih =>
    simp only [insD]
    split
    · exact (ih.cons p).trans (.swap q p r)
    · exact .refl _
theorem fall_perm (qs : List (List Nat)) : (fall qs).Perm qs := by
  have : ∀ (qs row : List (List Nat)), (qs.foldl (fun row q => insD q row) row).Perm (row ++ qs) := by
    intro qs
    induction qs with
    | nil => intro row; rw [List.append_nil]; exact .refl _
    | cons q r ih =>
      intro row
      refine (ih _).trans ?_
      refine ((insD_perm q row).append_right r).trans ?_
      exact (List.perm_middle (l₁ := row)).symm
  exact this qs []
def dvI (q : List Nat) : Int := ((digitsVal q : Nat) : Int)
/-- falling, from each place on -/
def Desc : List Int → Prop
  | [] => True
  | x :: r => (∀ y ∈ r, y ≤ x) ∧ Desc r
theorem insD_desc (q : List Nat) (row : List (List Nat)) (h : Desc (row.map dvI)) : Desc ((insD q row).map dvI) := by
  induction row with
  | nil => exact ⟨by simp, trivial⟩
  | cons p r ih =>
    simp only [insD]
    obtain ⟨h1, h2⟩ := h
    split
    · rename_i hle
      refine ⟨fun y hy => ?_, ih h2⟩
      obtain ⟨z, hz, rfl⟩ := List.mem_map.mp hy
      rcases insD_mem hz with rfl | hz
      · show dvI z ≤ dvI p; unfold dvI; omega
      · exact h1 _ (List.mem_map.mpr ⟨z, hz, rfl⟩)
    · rename_i hle
      refine ⟨fun y hy => ?_, h1, h2⟩
      have hqp : dvI p ≤ dvI q := by unfold dvI; omega
      rcases List.mem_cons.mp hy with rfl | hy
      · exact hqp
      · exact Int.le_trans (h1 _ hy) hqp
theorem fall_desc (qs : List (List Nat)) : Desc ((fall qs).map dvI) := by
  have : ∀ (qs row : List (List Nat)), Desc (row.map dvI) → Desc ((qs.foldl (fun row q => insD q row) row).map dvI) := by
    intro qs
    induction qs with
    | nil => intro row h; exact h
    | cons q r ih => intro row h; exact ih _ (insD_desc q row h)
  exact this qs [] trivial
theorem pos0_ge (x : Int) : x ≤ pos0 x ∧ 0 ≤ pos0 x := by unfold pos0; split <;> omega
theorem low_take (S : List Int) (k : Int) : ∀ i : Nat, i ≤ S.length → (S.take i).sum ≤ (i : Int) * k + (S.map fun n => pos0 (n - k)).sum := by
  induction S with
  | nil => intro i hi; obtain rfl : i = 0 := by simpa using hi
           simp
  | cons x r ih =>
    intro i hi
    have hp := pos0_ge (x - k)
    cases i with
    | zero =>
      have := ih 0 (Nat.zero_le _)
      simp only [List.take_zero, List.map_cons, List.sum_cons] at this ⊢
      simp only [List.sum_nil] at this ⊢
      omega
    | succ i =>
      have := ih i (by simpa using hi)
      simp only [List.take_succ_cons, List.map_cons, List.sum_cons]
      have e : ((i + 1 : Nat) : Int) * k = (i : Int) * k + k := by rw [Int.natCast_add, Int.add_mul]; omega
      rw [e]; omega
theorem sum_zero_of (S : List Int) (k : Int) (h : ∀ y ∈ S, y ≤ k) : (S.map fun n => pos0 (n - k)).sum = 0 := by
  induction S with
  | nil => rfl
  | cons x r ih =>
    have h1 := h x (.head _)
    rw [List.map_cons, List.sum_cons, ih fun y hy => h y (.tail _ hy)]
    unfold pos0; split <;> omega
theorem eq_take (S : List Int) (hS : Desc S) (k : Int) : ∀ i : Nat, S[i]? = some k → ((i : Int) + 1) * k + (S.map fun n => pos0 (n - k)).sum = (S.take (i + 1)).sum := by
  induction S with
  | nil => intro i hi; simp at hi
  | cons x r ih =>
    intro i hi
    obtain ⟨h1, h2⟩ := hS
    cases i with
    | zero =>
      obtain rfl : x = k := by simpa using hi
      rw [List.map_cons, List.sum_cons, sum_zero_of r x h1]
      simp [pos0]
    | succ i =>
      have hi' : r[i]? = some k := by simpa using hi
      have := ih h2 i hi'
      have hk := h1 k (List.mem_of_getElem? hi')
      rw [List.take_succ_cons, List.map_cons, List.sum_cons, List.sum_cons]
      have e : (((i + 1 : Nat) : Int) + 1) * k = ((i : Int) + 1) * k + k := by rw [show (((i + 1 : Nat) : Int) + 1) = ((i : Int) + 1) + 1 by omega, Int.add_mul _ 1 k, Int.one_mul]
      have e2 : pos0 (x - k) = x - k := by unfold pos0; rw [if_neg (by omega)]
      rw [e, e2]; omega
theorem toldAt_perm {a b : List Int} (h : a.Perm b) (i k : Int) : toldAt a i k = toldAt b i k := by
  unfold toldAt
  rw [perm_sum (h.map _)]
theorem IsMinT.uniq {ns : List Int} {i M M' : Int} (h : IsMinT ns i M) (h' : IsMinT ns i M') : M = M' := by
  obtain ⟨⟨k, hk, rfl⟩, h1⟩ := h
  obtain ⟨⟨k', hk', rfl⟩, h2⟩ := h'
  exact Int.le_antisymm (h1 _ hk') (h2 _ hk)
/-- the least where the falling row still lasts -/
theorem min_in {S ns : List Int} (hp : S.Perm ns) (hS : Desc S) (i : Nat) (hi : i < S.length) : IsMinT ns ((i : Int) + 1) (S.take (i + 1)).sum := by
  refine ⟨⟨S[i], hp.mem_iff.mp (List.getElem_mem hi), ?_⟩, fun k hk => ?_⟩
  · rw [← toldAt_perm hp]
    exact (eq_take S hS S[i] i (List.getElem?_eq_getElem hi)).symm
  · rw [← toldAt_perm hp]
    have := low_take S k (i + 1) hi
    unfold toldAt
    have e : ((i + 1 : Nat) : Int) = (i : Int) + 1 := by omega
    rw [← e]; exact this
/-- and behind it -/
theorem min_past {S ns : List Int} (hp : S.Perm ns) (hS : Desc S) {n : Nat} (hn : S.length = n + 1) (last : Int) (hl : S[n]? = some last) (hmin : ∀ y ∈ S, last ≤ y) (d : Nat) : IsMinT ns (((n + d : Nat) : Int) + 1) (S.sum + (d : Int) * last) := by
  have e0 : S.take (n + 1) = S := by rw [← hn, List.take_length]
  have em : ∀ k : Int, (((n + d : Nat) : Int) + 1) * k = ((n : Int) + 1) * k + (d : Int) * k := fun k => by rw [← Int.add_mul]; congr 1; omega
  refine ⟨⟨last, hp.mem_iff.mp (List.mem_of_getElem? hl), ?_⟩, fun k hk => ?_⟩
  · rw [← toldAt_perm hp]
    have := eq_take S hS last n hl
    rw [e0] at this
    unfold toldAt
    rw [em]; omega
  · rw [← toldAt_perm hp]
    have h1 := low_take S k (n + 1) (by omega)
    rw [e0] at h1
    have hk' := hmin k (hp.mem_iff.mpr hk)
    have h2 : (d : Int) * last ≤ (d : Int) * k := Int.mul_le_mul_of_nonneg_left hk' (by omega)
    have e : ((n + 1 : Nat) : Int) = (n : Int) + 1 := by omega
    rw [e] at h1
    unfold toldAt
    rw [em]; omega
theorem desc_last {S : List Int} (hS : Desc S) : ∀ {n : Nat}, S.length = n + 1 → ∀ last, S[n]? = some last → ∀ y ∈ S, last ≤ y := by
  induction S with
  | nil => intro n hn; simp at hn
  | cons x r ih =>
    intro n hn last hl y hy
    obtain ⟨h1, h2⟩ := hS
    cases n with
    | zero =>
      have hr : r = [] := by simpa using hn
      subst hr
      obtain rfl : x = last := by simpa using hl
      rw [List.mem_singleton.mp hy]; exact Int.le_refl _
    | succ n =>
      have hl' : r[n]? = some last := by simpa using hl
      rcases List.mem_cons.mp hy with rfl | hy
      · exact h1 _ (List.mem_of_getElem? hl')
      · exact ih h2 (by simpa using hn) last hl' y hy
theorem gout_app {T : List Int} : ∀ (S : List Int) (last : Option Int), (∀ x ∈ S, x ≠ 0 ∧ x ≠ 127) → ∀ k, gout (S ++ T) last k = if k < S.length then S[k]? else gout T ((S.getLast?).or last) (k - S.length) := by
  intro S
  induction S with
  | nil => intro last _ k; simp
  | cons x r ih =>
    intro last h k
    obtain ⟨h0, h127⟩ := h x (.head _)
    have e0 : gout (x :: (r ++ T)) last k = match k with | 0 => some x | k + 1 => gout (r ++ T) (some x) k := by
      show (if x = 127 then none else if x = 0 then last else _) = _
      exact (if_neg h127).trans ((if_neg h0).trans (by cases k <;> rfl))
    rw [List.cons_append, e0]
    cases k with
    | zero => simp
    | succ k =>
      dsimp only
      rw [ih _ (fun y hy => h y (.tail _ hy)) k]
      by_cases hk : k < r.length
      · rw [if_pos hk, if_pos (by simpa using hk)]; simp
      · rw [if_neg hk, if_neg (by simpa using hk)]
        have e : (k + 1 - (x :: r).length) = k - r.length := by simp
        rw [e]
        congr 1
        cases r with
        | nil => simp
        | cons y r => simp [List.getLast?_cons]
theorem outs_app {f : Nat → Option Int} {d : Nat} : ∀ (S : List Int) (k : Nat), (∀ i : Nat, i < S.length → f (k + i) = S[i]?) → outs f k (S.length + d) = S ++ outs f (k + S.length) d := by
  intro S
  induction S with
  | nil => intro k _; simp
  | cons x r ih =>
    intro k h
    have h0 : f k = some x := by simpa using h 0 (by simp)
    rw [List.length_cons, show r.length + 1 + d = (r.length + d) + 1 by omega, outs_cons h0, ih (k + 1) fun i hi => by
      have := h (i + 1) (by simpa using hi)
      rw [show k + 1 + i = k + (i + 1) by omega, this]; simp]
    rw [show k + 1 + r.length = k + (r.length + 1) by omega]; rfl
theorem psum_get (ys : List Int) : ∀ (t : Int) (j : Nat), j < ys.length → (psum t ys)[j]? = some (t + (ys.take (j + 1)).sum) := by
  induction ys with
  | nil => intro t j hj; simp at hj
  | cons y r ih =>
    intro t j hj
    cases j with
    | zero => simp [psum]
    | succ j =>
      rw [psum, List.getElem?_cons_succ, ih _ j (by simpa using hj)]
      simp only [List.take_succ_cons, List.sum_cons]; congr 1; omega
end Mine
end
section 
open PySem PySem.W PyProof.Rows PySem.Calls PySem.Spec PySem.NumText
set_option maxRecDepth 100000
set_option maxHeartbeats 4000000
namespace Mine
theorem take_rep (S : List Int) (m : Nat) (l : Int) (n d : Nat) (hn : S.length = n + 1) (hd : d ≤ m) : ((S ++ List.replicate m l).take (n + d + 1)).sum = S.sum + (d : Int) * l := by
  have e : n + d + 1 = S.length + d := by omega
  rw [e, List.take_length_add_append, List.take_replicate, Nat.min_eq_left hd, List.sum_append]
  congr 1
  clear e hd
  induction d with
  | zero => simp
  | succ d ih => rw [List.replicate_succ, List.sum_cons, ih]; rw [Int.natCast_add, Int.add_mul]; omega
theorem gout_tail (b : Int) (hb : 0 ≤ b ∧ b < 4) (l : Int) : outs (fun k => gout (tailN b) (some l) k) 0 3 = List.replicate (moreB b) l := by
  rcases (show b = 0 ∨ b = 1 ∨ b = 2 ∨ b = 3 by omega) with rfl | rfl | rfl | rfl <;> rfl
theorem outs_shift {f g : Nat → Option Int} {d : Nat} : ∀ {n k j : Nat}, (∀ i, f (k + i) = g (j + i)) → outs f k n = outs g j n := by
  intro n
  induction n with
  | zero => intro k j _; rfl
  | succ n ih =>
    intro k j h
    have h0 : f k = g j := h 0
    simp only [outs]
    rw [h0]
    cases g j with
    | none => rfl
    | some y => dsimp only; rw [ih (k := k + 1) (j := j + 1) fun i => by have := h (i + 1); rwa [show k + (i + 1) = k + 1 + i by omega, show j + (i + 1) = j + 1 + i by omega] at this]
theorem marks_told {qs : List (List Nat)} {b : Int} (hb : 0 ≤ b ∧ b < 4) (hd : ∀ q ∈ qs, 1 ≤ dvI q ∧ dvI q ≤ 126) (hne : 0 < qs.length) {ms : List Int} (hms : ms.length = qs.length + moreB b)
    (hmin : ∀ (j : Nat) M, ms[j]? = some M → IsMinT (qs.map dvI) ((j : Int) + 1) M) : psum 0 (outs (gout (nsP qs b) none) 0 (qs.length + 3)) = ms := by
  have hp : ((fall qs).map dvI).Perm (qs.map dvI) := (fall_perm qs).map dvI
  have hD := fall_desc qs
  have hS : ∀ x ∈ (fall qs).map dvI, x ≠ 0 ∧ x ≠ 127 := fun x hx => by
    obtain ⟨q, hq, rfl⟩ := List.mem_map.mp hx
    have := hd q (fall_mem hq)
    omega
  have hl : ((fall qs).map dvI).length = qs.length := by rw [List.length_map, fall_len]
  have hns : nsP qs b = (fall qs).map dvI ++ tailN b := rfl
  rw [hns]
  generalize (fall qs).map dvI = S at *
  obtain ⟨n, hn⟩ : ∃ n, S.length = n + 1 := ⟨S.length - 1, by omega⟩
  obtain ⟨last, hlast⟩ : ∃ l, S[n]? = some l := ⟨_, List.getElem?_eq_getElem (by omega)⟩
  have hgl : S.getLast? = some last := by rw [List.getLast?_eq_getElem?, hn]; exact hlast
  have hg := gout_app (T := tailN b) S none hS
  have e1 : outs (gout (S ++ tailN b) none) 0 (qs.length + 3) = S ++ List.replicate (moreB b) last := by
    rw [← hl, outs_app S 0 fun i hi => by rw [Nat.zero_add, hg, if_pos hi]]
    congr 1
    rw [← gout_tail b hb last]
    refine outs_shift (d := 0) fun i => ?_
    rw [hg, if_neg (by omega), hgl]
    dsimp only [Option.or]
    congr 1
    omega
  rw [e1]
  have hlen : (S ++ List.replicate (moreB b) last).length = ms.length := by rw [List.length_append, List.length_replicate, hl, hms]
  refine List.ext_getElem? fun j => ?_
  by_cases hj : j < ms.length
  · rw [psum_get _ _ _ (by omega), List.getElem?_eq_getElem hj, Int.zero_add]
    congr 1
    refine IsMinT.uniq ?_ (hmin j _ (List.getElem?_eq_getElem hj))
    by_cases hjS : j < S.length
    · rw [List.take_append_of_le_length (by omega)]
      exact min_in hp hD j hjS
    · obtain ⟨d, rfl⟩ : ∃ d, j = n + d := ⟨j - n, by omega⟩
      rw [take_rep S _ last n d hn (by omega)]
      exact min_past hp hD hn last hlast (desc_last hD hn last hlast) d
  · rw [List.getElem?_eq_none (by rw [psum_len]; omega), List.getElem?_eq_none (by omega)]
end Mine
end
section 
open PySem PySem.W PyProof.Rows PySem.Calls PySem.Spec PySem.NumText
set_option maxRecDepth 100000
set_option maxHeartbeats 4000000
namespace Mine
local macro_rules | `(tactic| walk_at "lk") => `(tactic| (repeat (first | exact up_eq | assumption | refine up_of ?_ (by decide))))
theorem nsP_head {qs : List (List Nat)} {b : Int} (hd : ∀ q ∈ qs, 1 ≤ dvI q ∧ dvI q ≤ 126) (hne : 0 < qs.length) : (nsP qs b)[0]? ≠ some 0 := by
  have hl := fall_len qs
  have hm := fun q h => hd q (fall_mem (p := q) h)
  unfold nsP
  cases hf : fall qs with
  | nil => rw [hf] at hl; simp at hl; omega
  | cons p r =>
    have := hm p (by rw [hf]; exact .head _)
    intro e
    have e' : digitsVal p = 0 := by simpa using e
    unfold dvI at this
    omega
section
variable {prog : Program} {w : World} {A : Around} {E : Value → Shared → Prop} {s : Shared} {mg mb : Str → Option Value} {h₀ : Heap} {L : Addr} {cd : Value} {m : Str → Option Value} {nx : List (Addr × Obj)}
theorem flat2_len (ns : List Int) : (ns.flatMap fun n => [(100 : Int), n]).length = 2 * ns.length := by
  induction ns with
  | nil => rfl
  | cons x r ih => simp only [List.flatMap_cons, List.length_append, List.length_cons, List.length_nil, ih]; omega
theorem law_told11 {rd nl : Addr} {us nvs : List Value} {kr kn : Nat} {qs : List (List Nat)} {b : Int} {tc : Tok} {Q : Flow → Shared → Prop} (W : Wd mg mb h₀) (V : Wl mg h₀) (hroom : A.depth + 1 < recursionLimit) (hu : A.units + 100 < cLine) (hh : A.handled = none) (F : Fr h₀ L s.heap m) (N : News h₀ L s.heap nx)
    (hb : 0 ≤ b ∧ b < 4) (hd : ∀ q ∈ qs, 1 ≤ dvI q ∧ dvI q ≤ 126) (hne : 0 < qs.length) (hlen : qs.length ≤ 9)
    (hm1 : m "read" = some (.ref rd)) (hr : (rd, lobj us kr) ∈ nx) (hi : IntsAre us ((nsP qs b).flatMap fun n => [100, n]))
    (hm2 : m "numbers" = some (.ref nl)) (hn : (nl, lobj nvs kn) ∈ nx) (hin : IntsAre nvs (qs.map dvI)) (hm3 : m "count" = some (.int ((qs.length + moreB b : Nat) : Int) tc)) (hab : AllBare s.gens)
    (K : ∀ h' tk gg, Fr h₀ L h' m → News h₀ L h' nx → AllBare gg → wpAny (model prog w) A (execs (lawS 12) (lawE L cd)) Q E { s with heap := h', toks := tk, gens := gg }) :
    wpAny (model prog w) A (execs (lawS 11) (lawE L cd)) Q E s := by
  have W₁ := W.keeps F.keep
  obtain ⟨fm, hfm, hfmn⟩ := V.mar
  obtain ⟨ft, hft, hftn⟩ := V.tol
  have hfm₁ := hfmn.keeps F.keep
  have hnl := nsP_len qs b
  have hul : us.length = 2 * (nsP qs b).length := by rw [hi.length, flat2_len]
  have hl : s.heap.IsList rd us.toArray := ⟨_, N.get hr, rfl, _, rfl⟩
  refine wpAny_execs_cons (wpAny_If (wpAny_isTrue_Compare1 (Call_ (ldG W₁ hfm (cwF hfm₁ (args_cons (Subscript_ (ld (v := .ref rd) F hm1 (sub_slice2 (a := 1) F N hl hul (.inr rfl) (by omega) fun h₂ D tk₂ hk₂ hD F₂ N₂ => ?_)))))))))
  have W₂ := W.keeps F₂.keep
  have hnl₂ : h₂.IsList nl nvs.toArray := ⟨_, N₂.get (.tail _ hn), rfl, _, rfl⟩
  refine args_cons (wpAny_BinOp (Call_ (ldB W₂ boot_len (cwB (args_cons (ld (v := .ref nl) F₂ hm2 (args_nil (call_len_list hnl₂ ?_ (wpAny_Constant_int (add_int (args_nil ⟨hk₂, ?_⟩)))))))))))
  · rw [List.size_toArray, hin.length, List.length_map]; omega
  dsimp only
  have e3 : (((nvs.toArray.size : Nat) : Int) + 3) = ((qs.length + 2 + 1 : Nat) : Int) := by rw [List.size_toArray, hin.length, List.length_map]; omega
  rw [e3]
  refine marks_spec (c := qs.length + 2) (ns := nsP qs b) (hfmn.keeps F₂.keep) W₂ hroom (by omega) hh ⟨_, N₂.get (.head _), rfl, _, rfl⟩ (picks2 hi).2 (nsP_head hd hne) (by omega) hab fun r ms n h₃ tk₃ gg hr0 hr3 hims hk₃ hgg => ?_
  dsimp only [wants] at hr0 hr3 hk₃ ⊢
  have F₃ := F₂.after hk₃
  have N₃ := News.consNew F₂ (News.keep N₂ fun p hp o e => hk₃ _ _ e) hr0 hr3
  have W₃ := W.keeps F₃.keep
  have hnl₃ : h₃.IsList nl nvs.toArray := ⟨_, N₃.get (.tail _ (.tail _ hn)), rfl, _, rfl⟩
  refine Call_ (ldG W₃ hft (cwF (hftn.keeps F₃.keep) (args_cons (ld (v := .ref nl) F₃ hm2 (args_cons (ld (v := .int ((qs.length + moreB b : Nat) : Int) tc) F₃ hm3 (args_nil ⟨fun _ _ e => e, told_spec (ns := qs.map dvI) (c := qs.length + moreB b) (hftn.keeps F₃.keep) W₃ hroom hu hh hnl₃ hin ?_ ?_ ?_ ?_ ?_⟩)))))))
  · rw [List.length_map]; exact hne
  · rw [List.length_map]; omega
  · intro x hx
    obtain ⟨q, hq, rfl⟩ := List.mem_map.mp hx
    have := hd q hq
    omega
  · have : moreB b ≤ 3 := by unfold moreB; split <;> omega
    omega
  · intro r2 us2 n2 ms2 h₄ tk₄ hr20 hr24 hi2 hl2 hmin hk₄
    dsimp only [wants] at hr20 hr24 hk₄ ⊢
    have F₄ := F₃.after hk₄
    have N₄ := News.keep N₃ fun p hp o e => hk₄ _ _ e
    refine ne_ints (by omega) (N₄.get (.head _)) hr24 hims hi2 (wpAny_truthy_bool ?_)
    have e5 : qs.length + 2 + 1 = qs.length + 3 := by omega
    rw [e5, marks_told hb hd hne hl2 hmin, if_neg (by simp)]
    refine wpAny_execs_nil ?_
    exact K h₄ _ gg F₄ (fun p hp => N₄ p (.tail _ (.tail _ hp))) hgg
end
end Mine
end
section 
open PySem PySem.W PyProof.Rows PySem.Calls PySem.Spec PySem.NumText
set_option maxRecDepth 100000
set_option maxHeartbeats 4000000
namespace Mine
local macro_rules | `(tactic| walk_at "lk") => `(tactic| (repeat (first | exact up_eq | assumption | refine up_of ?_ (by decide))))
theorem cut_ahead {ps : List (List Nat)} (h : Cut ps) : Cut ([48] :: [46] :: ps) :=
  ⟨.inr ⟨⟨by simp, by simp [isDig]⟩, by simp [isDig]⟩, .inl ⟨46, rfl, .inl rfl⟩, h⟩
theorem out_ahead {ps : List (List Nat)} {ns : List Int} (h : cvOut ps = ns.flatMap fun n => [100, n]) : cvOut ([48] :: [46] :: ps) = (0 :: ns).flatMap fun n => [100, n] := by
  rw [List.flatMap_cons, ← h]; rfl
section
variable {prog : Program} {w : World} {A₀ : Around} {E : Value → Shared → Prop} {s : Shared} {mg mb : Str → Option Value} {h₀ : Heap} {L : Addr} {cd : Value} {m : Str → Option Value} {nx : List (Addr × Obj)}
theorem law_try {ps : List (List Nat)} {ns : List Int} {t : Tok} {Q : Flow → Shared → Prop} (W : Wd mg mb h₀) (V : Wl mg h₀) (B : Below A₀ h₀ [] h₀) (hroom : A₀.depth + 3 < recursionLimit) (hu : A₀.units + 200 < cLine) (hh : A₀.handled = none) (F : Fr h₀ L s.heap m) (N : News h₀ L s.heap nx)
    (hm : m "text" = some (.str ⟨ps.flatten.toArray⟩ t)) (hc : Cut ps) (hcv : cvOut ps = ns.flatMap fun n => [100, n]) (hs : ps.flatten.length ≤ 500) (hnl : ns.length ≤ 100) (hab : AllBare s.gens)
    (K : ∀ h' m' tk gg, Fr h₀ L h' m' → AllBare gg → Q (.ret (.bool true)) { s with heap := h', toks := tk, gens := gg }) :
    wpAny (model prog w) (A₀.deeper (lawE L cd)) (execs (lawS 12) (lawE L cd)) Q E s := by
  have W₁ := W.keeps F.keep
  obtain ⟨fm, hfm, hfmn⟩ := V.mar
  have hfm₁ := hfmn.keeps F.keep
  have hh' : (A₀.deeper (lawE L cd)).handled = none := hh
  refine wpAny_execs_cons (wpAny_Try_except ?_)
  refine wpAny_execs_cons (wpAny_Expr_any (Call_ (ldG W₁ hfm (cwF hfm₁ (args_cons (Subscript_ (Call_ (ldG W₁ W.cv (cwF W₁.fcv (args_cons (wpAny_BinOp (wpAny_Constant_str ?_))))))))))))
  refine ld (v := .str ⟨ps.flatten.toArray⟩ t) F hm ?_
  refine PyProof.Rows.add_str (fun t₂ tk₂ => args_nil ⟨fun _ _ e => e, ?_⟩) ?_
  · have e0 : ((Str.ofString "0.") ++ (⟨ps.flatten.toArray⟩ : Str)).cps.toList = ([48] :: [46] :: ps).flatten := by
      rw [Str.cps_append, Array.toList_append]
      rfl
    refine cv_spec (ps := [48] :: [46] :: ps) W₁ (by show A₀.depth + 1 < recursionLimit; omega) hh' e0 (cut_ahead hc) ?_ ?_
    · rw [← Array.length_toList, e0]
      simp only [List.flatten_cons, List.length_append, List.length_cons, List.length_nil]
      omega
    intro rd us nk h₄ tk₄ hrd hrd' hus hk₄
    rw [out_ahead hcv] at hus
    dsimp only [wants] at hrd hrd' hk₄ ⊢
    have F₄ := F.after hk₄
    have N₄ := News.consNew F (News.keep N fun p hp o e => hk₄ _ _ e) hrd hrd'
    have hul : us.length = 2 * (0 :: ns).length := by rw [hus.length, flat2_len]
    have hl : h₄.IsList rd us.toArray := ⟨_, N₄.get (.head _), rfl, _, rfl⟩
    refine sub_slice2 (a := 1) F₄ N₄ hl hul (.inr rfl) (by rw [hul, List.length_cons]; omega) fun h₅ D tk₅ hk₅ hD F₅ N₅ => ?_
    refine args_cons (wpAny_Constant_int (args_nil ⟨Keep.trans hk₄ hk₅, ?_⟩))
    have W₅ := W.keeps F₅.keep
    have B₅ := B.push (a := 80) (name := "law") (scope := scpP 13) (cd := cd) F₅
    refine marks_raise (base := h₀) (outer := [lawE L cd]) (ns := 0 :: ns) (c := 1) (hfmn.keeps F₅.keep) W ?_ hh' B₅.stack F₅.keep B₅.frames ⟨_, N₅.get (.head _), rfl, _, rfl⟩ ?_ (picks2 hus).2 rfl hab ?_
    · show A₀.depth + 1 + 1 < recursionLimit; omega
    · intro q
      exact (N₅ _ (.head _)).2.1 (List.mem_singleton.mp q)
    intro e te tt h₆ tk₆ gg fly tup ups hgg
    dsimp only [wants]
    refine wpAny_looks_onW (outer := []) B₅.stack rfl fly fun h₇ held₇ ups₇ => ?_
    refine wpAny_landsW held₇ fun h₈ fly₈ ups₈ => ?_
    have F₈ := (F₅.of_stays fly₈.1 (ups.trans (ups₇.trans ups₈)))
    have W₈ := W.keeps F₈.keep
    obtain ⟨ob, hob, hobc⟩ := fly₈.there
    refine wpAny_handleBy_builtin_as (X := "ValueError") (T := "ValueError") (b := true) PySem.F.isExc_ValueError PySem.F.notTuple_ValueError (by rw [isSubtype_type]; kernel_rfl) (ldB W₈ boot_VE ⟨rfl, ⟨ob, hob, hobc⟩, ?_⟩)
    rw [if_pos rfl]
    refine lands_againW fly₈ fun h₉ fly₉ ups₉ => ?_
    have F₉ := F₈.of_stays fly₉.1 ups₉
    have tup₉ := (((tup.of_slots ups₇).of_slots ups₈).of_slots ups₉)
    obtain ⟨oe, ws, hoe, hoec, hoed, hoe0⟩ := fly₉.first
    refine stU F₉ News.nil fun hA FA NA SA => ?_
    dsimp only at SA ⊢
    have WA := W.keeps FA.keep
    obtain ⟨oL, esL, epL, hoL, hLd, _⟩ := id F₉.ns
    have heL : e ≠ L := fun q => by rw [q, hoL] at hoe; cases hoe; rw [hLd] at hoed; cases hoed
    obtain ⟨ot, nt, hot, hotc, hotd⟩ := tup₉
    have htL : te ≠ L := fun q => by rw [q, hoL] at hot; cases hot; rw [hLd] at hotd; cases hotd
    have xA : hA.ExcAt e "ValueError" (.ref te) := ⟨oe, ws, SA.extBut _ _ heL hoe, hoec, hoed, hoe0⟩
    have tA : hA.TupAt te [.str "invalid grouping" tt] := ⟨ot, nt, SA.extBut _ _ htL hot, hotc, hotd⟩
    refine wpAny_execs_cons (wpAny_Return_some (wpAny_Compare1 (Call_ (ldB WA boot_str (cwT (args_cons (ld (v := .ref e) FA up_eq (args_nil (P.str_of_exc_one PySem.F.excStr_ValueError ?_ xA tA (wpAny_Constant_str (eq_str ?_)))))))))))
    · rw [Around.mark_units, Around.deeper_units]; omega
    refine name_goes FA News.nil fun hB m' FB NB => ?_
    have e9 : (("invalid grouping" : Str) == ("invalid grouping" : Str)) = true := by simp
    rw [e9]
    exact K hB m' _ gg FB hgg
  · show (Str.ofString "0.").cps.size + ps.flatten.toArray.size ≤ _
    have e2 : (Str.ofString "0.").cps.size = 2 := by decide
    rw [sizeLine_eq, e2, List.size_toArray]
    omega
end
end Mine
end
section 
open PySem PySem.W PyProof.Rows PySem.Calls PySem.Spec PySem.NumText
set_option maxRecDepth 100000
set_option maxHeartbeats 4000000
namespace Mine
local macro_rules | `(tactic| walk_at "lk") => `(tactic| (repeat (first | exact up_eq | assumption | refine up_of ?_ (by decide))))
theorem drawnL_len (script : List Int) : 4 ≤ (drawnL script).length ∧ (drawnL script).length ≤ 9 := by
  unfold drawnL
  rw [List.length_append, List.length_take]
  simp only [List.length_cons, List.length_nil]
  omega
theorem txt_num (xs : List Int) : (xs.map txtL).map dvI = xs.map numL := by
  rw [List.map_map]
  refine List.map_congr_left fun x _ => ?_
  exact (txtL_ok x).2.1
section
variable {prog : Program} {w : World} {A₀ : Around} {E : Value → Shared → Prop} {s : Shared} {mg mb : Str → Option Value} {h₀ : Heap} {L : Addr} {cd : Value} {m : Str → Option Value}
theorem law_body {sc : Addr} {svs : List Value} {script : List Int} {Q : Flow → Shared → Prop} (W : Wd mg mb h₀) (V : Wl mg h₀) (B : Below A₀ h₀ [] h₀) (hroom : A₀.depth + 3 < recursionLimit) (hu : A₀.units + 300 < cLine) (hh : A₀.handled = none)
    (F : Fr h₀ L s.heap m) (hsc : m "script" = some (.ref sc)) (hl : h₀.IsList sc svs.toArray) (hi : IntsAre svs script) (hlen : script.length ≤ 63) (hab : AllBare s.gens)
    (K : ∀ h' m' tk gg, Fr h₀ L h' m' → AllBare gg → Q (.ret (.bool true)) { s with heap := h', toks := tk, gens := gg }) :
    wpAny (model prog w) (A₀.deeper (lawE L cd)) (execs (lawS 0) (lawE L cd)) Q E s := by
  have hh' : (A₀.deeper (lawE L cd)).handled = none := hh
  have hd1 : (A₀.deeper (lawE L cd)).depth + 1 < recursionLimit := by show A₀.depth + 1 + 1 < recursionLimit; omega
  have hu1 : (A₀.deeper (lawE L cd)).units + 100 < cLine := by rw [Around.deeper_units]; omega
  obtain ⟨xl1, xl2⟩ := drawnL_len script
  refine law_drawn F hsc hl hi hlen fun h₁ t₁ dr dvs F₁ N₁ i₁ => ?_
  generalize drawnL script = xs at xl1 xl2 i₁
  refine law_numbers hh' F₁ N₁ up_eq (.head _) i₁ (by omega) fun h₂ t₂ nu nvs n₂ F₂ N₂ i₂ => ?_
  refine law_texts W hh' F₂ N₂ (up_of up_eq) (.tail _ (.head _)) i₁ (by omega) fun h₃ t₃ tx tvs n₃ F₃ N₃ i₃ => ?_
  have hq : ∀ q ∈ xs.map txtL, digP q ∧ q.length ≤ 5 := fun q hq => by
    obtain ⟨x, _, rfl⟩ := List.mem_map.mp hq
    exact ⟨(txtL_ok x).1, (txtL_ok x).2.2⟩
  have hqn : ∀ q ∈ xs.map txtL, 1 ≤ dvI q ∧ dvI q ≤ 126 := fun q hq => by
    obtain ⟨x, _, rfl⟩ := List.mem_map.mp hq
    have e : dvI (txtL x) = numL x := (txtL_ok x).2.1
    rw [e]; exact numL_range x
  have hql : (xs.map txtL).length = xs.length := List.length_map _
  rw [← txt_num] at i₂
  generalize xs.map txtL = qs at hq hqn hql i₂ i₃
  refine law_reads W (by omega) hh' F₃ N₃ up_eq (.head _) i₃ (fun q h => ⟨(hq q h).1, by have := (hq q h).2; omega⟩) (by omega) fun h₄ t₄ rl rvs n₄ els F₄ N₄ hrl hR => ?_
  have hR' : ReadsAre ((rl, lobj rvs n₄) :: els ++ ((tx, lobj tvs n₃) :: (nu, lobj nvs n₂) :: [(dr, lobj dvs 0)])) rvs (qs.map dvI) := fun i y e => by
    obtain ⟨a, us, k, n, e1, e2, e3, e4⟩ := hR i y e
    exact ⟨a, us, k, n, e1, .tail _ (List.mem_append.mpr (.inl e2)), e3, e4⟩
  have mtx : (tx, lobj tvs n₃) ∈ (rl, lobj rvs n₄) :: els ++ ((tx, lobj tvs n₃) :: (nu, lobj nvs n₂) :: [(dr, lobj dvs 0)]) := .tail _ (List.mem_append.mpr (.inr (.head _)))
  have mnu : (nu, lobj nvs n₂) ∈ (rl, lobj rvs n₄) :: els ++ ((tx, lobj tvs n₃) :: (nu, lobj nvs n₂) :: [(dr, lobj dvs 0)]) := .tail _ (List.mem_append.mpr (.inr (.tail _ (.head _))))
  have mrl : (rl, lobj rvs n₄) ∈ (rl, lobj rvs n₄) :: els ++ ((tx, lobj tvs n₃) :: (nu, lobj nvs n₂) :: [(dr, lobj dvs 0)]) := .head _
  generalize (rl, lobj rvs n₄) :: els ++ ((tx, lobj tvs n₃) :: (nu, lobj nvs n₂) :: [(dr, lobj dvs 0)]) = nx at N₄ hR' mtx mnu mrl
  refine law_pairs W (by omega) (by omega) hh' F₄ N₄ up_eq mrl (by walk_at "lk") mnu i₂ hR' fun h₅ t₅ m₅ sm₅ F₅ N₅ => ?_
  have k₅ : m₅ "script" = some (.ref sc) ∧ m₅ "numbers" = some (.ref nu) ∧ m₅ "texts" = some (.ref tx) := by
    refine ⟨sm₅.at (by walk_at "lk"), sm₅.at (by walk_at "lk"), sm₅.at (by walk_at "lk")⟩
  obtain ⟨k51, k52, k53⟩ := k₅
  refine law_behind W hh' F₅ N₅ k51 hl hi fun h₆ t₆ tb F₆ N₆ => ?_
  have hb : 0 ≤ script.sum.fmod 4 ∧ script.sum.fmod 4 < 4 := ⟨Int.fmod_nonneg_of_pos _ (by omega), Int.fmod_lt_of_pos _ (by omega)⟩
  generalize script.sum.fmod 4 = b at hb F₆
  refine law_text W V hd1 hu1 hh' F₆ N₆ (by walk_at "lk") mtx i₃ hq (by omega) up_eq hb fun h₇ t₇ tt F₇ N₇ => ?_
  have hdg : ∀ q ∈ qs, digP q := fun q h => (hq q h).1
  have hcut := cut_nsP (b := b) hdg hb
  have hout := cv_nsP (b := b) hdg hb
  have hln := len_nsP (b := b) (fun q h => (hq q h).2) hb (by omega)
  have hnl := nsP_len qs b
  generalize sepC 46 (fall qs) ++ tailP b = ps at hcut hout hln F₇
  refine law_read W (by omega) hh' F₇ N₇ up_eq hcut (by omega) fun h₈ t₈ rd us k₈ F₈ N₈ i₈ => ?_
  rw [hout] at i₈
  refine law_hundreds W (by omega) hh' F₈ N₈ up_eq (.head _) i₈ (by omega) fun h₉ t₉ F₉ N₉ => ?_
  refine law_count W F₉ N₉ (by walk_at "lk") (.tail _ mnu) i₂ (by rw [List.length_map]; omega) (by walk_at "lk") fun hA tA mA tc smA hcA FA NA => ?_
  rw [List.length_map] at hcA
  refine law_told11 W V hd1 hu1 hh' FA NA hb hqn (by omega) (by omega) (smA.at (by walk_at "lk")) (.head _) i₈ (smA.at (by walk_at "lk")) (.tail _ mnu) i₂ hcA hab fun hB tB gg FB NB hgg => ?_
  exact law_try W V B hroom (by omega) hh FB NB (smA.at (by walk_at "lk")) hcut hout (by omega) (by omega) hgg fun hC m' tk gg' FC hgg' => K hC m' tk gg' FC hgg'
end
end Mine
end
section 
open PySem PySem.W PyProof.Rows PySem.Calls PySem.Spec PySem.NumText
set_option maxRecDepth 100000
set_option maxHeartbeats 4000000
namespace Mine
theorem ns_some_of {K : Frag} {h : Heap} {N : Addr} {mg : Str → Option Value} {n : Str} {v : Value} (X : K.In h) (G : h.Ns N mg) (e : nsIn K N n = some (some v)) : mg n = some v := by
  obtain ⟨o, es, ep, ho, hd, _, hf⟩ := G
  unfold nsIn at e
  split at e
  · rename_i c d es' n' sl q
    have := X _ _ q
    rw [ho] at this
    cases this
    cases hd
    split at e
    · rename_i he
      rw [← hf]
      unfold nsFind findBy
      rw [← Array.find?_toList, he]
      injection e with e
    · split at e <;> cases e
  · cases e
theorem fn_of {p : Program} {loose : List Str} {mean : ExcName → Option Value} {mg mb : Str → Option Value} {h : Heap} (T : Top p loose mean mg mb h) {k i : Nat} {name : Str} {d : DefRec} (hd : (recsOf p)[k]? = some d) (e1 : d.name = name) (e2 : d.params = prmP i) (e3 : d.body = bdyP i) (e4 : d.scope = scpP i) :
    ∃ a, mg name = some (.ref a) ∧ FnIs h a name i := by
  obtain ⟨a, o, pm, cd, doc, h1, h2, h3, h4⟩ := T.fn d (List.mem_of_getElem? hd)
  subst e1
  rw [e2, e3, e4] at h3
  exact ⟨a, h1, o, pm, cd, doc, h2, h3, h4⟩
theorem fn_at {h : Heap} {mg : Str → Option Value} {name : Str} {i : Nat} {b : Addr} (hx : ∃ a, mg name = some (.ref a) ∧ FnIs h a name i) (e : mg name = some (.ref b)) : FnIs h b name i := by
  obtain ⟨a, h1, h2⟩ := hx
  rw [e] at h1
  cases h1
  exact h2
theorem const_of {p : Program} {loose : List Str} {mean : ExcName → Option Value} {mg mb : Str → Option Value} {h : Heap} (T : Top p loose mean mg mb h) {x : Str} {n : Int} (hv : valOf p x = some (.int n)) : ∃ t, mg x = some (.int n t) := by
  obtain ⟨v, h1, h2⟩ := T.const _ _ hv
  have h3 := h2 h
  cases h3
  exact ⟨_, h1⟩
end Mine
end
section 
open PySem PySem.W PyProof.Rows PySem.Calls PySem.Spec PySem.NumText
open Mine
set_option maxRecDepth 100000
set_option maxHeartbeats 4000000
theorem PySem.Challenge.cw_ph0022_01_holds : PySem.Challenge.rw_ph0022_01.Holds := by
  (w_on; o_law; k_head; (case hw => w_witness2))
  k_fill
  intro w s₀ s₁ mg mb G Y fa o pm cd doc dV kV ho hd hcd hD hmg hg args vals as hpre hlay hrd hwl hlo
  have KX := kIn_of Y
  refine Ground.open G ?_
  intro T B D TE TW
  wrow_args hpre hlay hrd hwl hlo
  have g1 : mg "_strcoll" = some (.ref 38) := ns_some_of KX T.g (by kernel_rfl)
  have g2 : mg "_grouping_intervals" = some (.ref 45) := ns_some_of KX T.g (by kernel_rfl)
  have g3 : mg "_comparable_version" = some (.ref 58) := ns_some_of KX T.g (by kernel_rfl)
  have g4 : mg "_twin_re_1" = some (.ref 50) := ns_some_of KX T.g (by kernel_rfl)
  have g5 : ∃ t, mg "CHAR_MAX" = some (.int 127 t) := const_of T (by kernel_rfl)
  have g6 : ∀ x ∈ bnames, mg x = none := by
    intro x hx
    refine ns_none_of KX T.g ?_
    simp only [bnames, List.mem_cons, List.not_mem_nil, or_false] at hx
    rcases hx with rfl | rfl | rfl | rfl | rfl | rfl | rfl | rfl | rfl | rfl <;> kernel_rfl
  have g7 : mg "law" = some (.ref 80) := ns_some_of KX T.g (by kernel_rfl)
  have f1 := fn_of T (k := 0) (i := 2) (name := "_strcoll") rfl rfl rfl rfl rfl
  have f2 := fn_of T (k := 1) (i := 4) (name := "_grouping_intervals") rfl rfl rfl rfl rfl
  have f3 := fn_of T (k := 2) (i := 8) (name := "_comparable_version") rfl rfl rfl rfl rfl
  have f4 := fn_of T (k := 3) (i := 10) (name := "_law_falling") rfl rfl rfl rfl rfl
  have f5 := fn_of T (k := 4) (i := 11) (name := "_law_marks") rfl rfl rfl rfl rfl
  have f6 := fn_of T (k := 5) (i := 12) (name := "_law_told") rfl rfl rfl rfl rfl
  have f7 := fn_of T (k := 6) (i := 13) (name := "law") rfl rfl rfl rfl rfl
  have pt : PatAt s₁.heap 50 := ⟨⟨_, _, _, _, _, 0, KX 50 _ (by with_unfolding_all rfl), rfl, rfl, rfl, KX _ _ (by with_unfolding_all rfl), by simp [cdA]⟩⟩
  have WD : Wd mg mb s₁.heap := ⟨T.g, T.b, T.nolimit, T.builtins, g6, g5, g4, pt, g1, fn_at f1 g1, g2, fn_at f2 g2, g3, fn_at f3 g3⟩
  have VL : Wl mg s₁.heap := ⟨f4, f5, f6⟩
  have f8 : fa = 80 := by
    have h : mg "law" = some (.ref fa) := hmg
    rw [g7] at h; cases h; rfl
  subst f8
  have FL := fn_at f7 g7
  clear f1 f2 f3 f4 f5 f6 f7 hd hcd hD hmg D B TE TW Y KX G g1 g2 g3 g4 g5 g6
  rename_i script _ _ _ _ _ _ _ sc svs _ hlist _ _ _ hints _ hcond _
  refine enter_call ?_
  have hlen : script.length ≤ 63 := by omega
  have hunits : callerA.units + 300 < cLine := by decide +kernel
  have hdep : callerA.depth + 3 < recursionLimit := by decide +kernel
  refine call_fn (binds := [("script", .ref sc)]) FL (by omega) WD.lim (fun _ _ _ => rfl) (by rfl) fun cd h₁ F => ?_
  rw [bm1] at F
  refine law_body (cd := cd) (svs := svs) WD VL (below_caller _) hdep hunits rfl F up_eq hlist hints hlen (by show AllBare s₁.gens; rw [hg]; exact fun y hy => by simp at hy) fun h' m' tk gg F' hgg => ?_
  refine ⟨.inl ⟨.bool true, .bool true, [], rfl, fun _ => rfl, .bool true, ?_, unshared_nil⟩, .of_keep F'.keep, rfl, hgg⟩
  wrow_post
end
