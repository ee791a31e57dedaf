import PyProof.Rows.All
import Wide.All
import OpenK.AllK
import Wide.FinOn
import PyProof.FactsAll.list
import PySem.Challenge.RW_nb0129_01
set_option Elab.async false
set_option linter.unusedSimpArgs false
set_option linter.unusedVariables false
/-! Hd -/
section
open PySem PySem.W PyProof.Rows
namespace Mine
set_option maxRecDepth 100000 in
set_option maxHeartbeats 8000000 in
open_top hd for PySem.Challenge.rw_nb0129_01
end Mine
end
/-! C0 -/
section
open PySem PySem.W PySem.Calls PyProof.Rows
set_option maxRecDepth 100000
namespace Mine
noncomputable abbrev pg : Program := PySem.Challenge.rw_nb0129_01.row.prog
noncomputable abbrev lz : List Str := looseW hd.view_39 [Str.ofString "insort_right", Str.ofString "bisect_right", Str.ofString "insort_left", Str.ofString "bisect_left", Str.ofString "_twin_re_1", Str.ofString "_twin_re_2"]
abbrev TR (mg mb : Str → Option Value) (h : Heap) : Prop := TopRead hd.view_39 lz mg mb h

theorem TR.stays {mg mb : Str → Option Value} {h h' : Heap} (T : TR mg mb h) (k : ∀ b o, h.get? b = some o → h'.get? b = some o) : TR mg mb h' :=
  ⟨T.g.keeps k, T.b.keeps k, T.nolimit.keeps k, T.builtins, T.free⟩

theorem enterS {w : World} {A : Around} {E : Value → Shared → Prop} {Q : Value → Shared → Prop} {s : Shared} {mg mb : Str → Option Value}
    {name qual : Str} {params : Arguments} {body : List Stmt} {scope : Scope} {dV kV doc pm cdv ct oc : Value} {an od : Option Addr} {osl : Array (Option Value)} {f : Addr} {pos : List Value} {kw : List (Str × Value)} {binds : List (Str × Value)}
    (X : (hd.heap_39 w.params).In s.heap) (T : TR mg mb s.heap)
    (ho : (hd.heap_39 w.params).lookup f = some ⟨oc, od, .func (fnOf name qual params body scope dV kV doc pm an cdv ct), osl⟩) (hcd : codeIn (hd.heap_39 w.params) cdv qual = true) (hroom : A.depth < recursionLimit)
    (hbind : ∀ S, peek (hd.heap_39 w.params) S (bindArgs (fnOf name qual params body scope dV kV doc pm an cdv ct) ⟨pos, kw⟩) = some binds) (hloc : ∀ y ∈ binds, scope.names.lookup y.1 = some .local)
    (h : ∀ h₁, Fr s.heap s.heap.objs.size h₁ (fun y => binds.reverse.lookup y) → News s.heap s.heap.objs.size h₁ [] →
      wpAny (model pg w) (A.deeper (envOf qual scope s.heap.objs.size f cdv)) (execs body (envOf qual scope s.heap.objs.size f cdv))
        (fun fl s' => Q (match fl with | .ret v => v | _ => .none) s') (fun _ _ => False)
        { s with heap := h₁, toks := s.toks + binds.length })
    (hco : scope.isCoroutine = false) (hgen : scope.isGenerator = false) (hk : scope.kind = .function)
    (hcell : ∀ x ∈ scope.names, x.2 ≠ .cell) : wpAny (model pg w) A (call (.ref f) pos kw) Q E s := by
  refine wpAny_call (codeAny_call_def (fd := fnOf name qual params body scope dV kV doc pm an cdv ct) hroom (X _ _ ho) rfl T.nolimit (codeRec_of X hcd) rfl (kp_binds X hbind) hcell hloc (fun h₀ hn hk' => ?_) hco hgen hk)
  refine wpAny_mono (h h₀ ⟨hn, hk', Nat.le_refl _⟩ News.nil) (fun fl s' q => q) (fun _ _ x => x.elim)

theorem Fr.stays {h₀ h h' : Heap} {L : Addr} {m : Str → Option Value} (F : Fr h₀ L h m) (st : h.StaysIn h') : Fr h₀ L h' m := ⟨F.ns.keeps st, fun b o e => st b o (F.keep b o e), F.above⟩
theorem News.stays {h₀ h h' : Heap} {L : Addr} {news : List (Addr × Obj)} (N : News h₀ L h news) (st : h.StaysIn h') : News h₀ L h' news := fun p hp => ⟨st _ _ (N p hp).1, (N p hp).2⟩
theorem fillMe {G : Prop} (h : PySem.Challenge.rw_nb0129_01 = PySem.Challenge.rw_nb0129_01 → hd.heap_39 = hd.heap_39 → G) : G := h rfl rfl
end Mine
end
/-! R2 -/
section
open PySem PySem.W PySem.Calls PyProof.Rows
set_option maxRecDepth 100000
namespace Mine
open PySem.Sre

/-- the machine comes to rest within n steps, and P holds there -/
inductive Rests (P : M → Prop) : Nat → M → Prop
  | done {m : M} {n : Nat} : m.outcome.isSome = true → P m → Rests P n m
  | step {m : M} {n : Nat} : m.outcome = none → Rests P n m.step → Rests P (n + 1) m

theorem Rests.runFor {P : M → Prop} {n : Nat} {m : M} (h : Rests P n m) : ∀ k, (∃ r, m.runFor k = r ∧ r.outcome.isSome = true ∧ P r) ∨ (k < n ∧ (m.runFor k).outcome = none ∧ Rests P (n - k) (m.runFor k)) := by
  induction h with
  | done h p =>
    intro k
    left
    cases k with
    | zero => exact ⟨_, rfl, h, p⟩
    | succ k => exact ⟨_, by unfold M.runFor; rw [if_pos h], h, p⟩
  | step h r ih =>
    intro k
    cases k with
    | zero => right; exact ⟨Nat.zero_lt_succ _, h, .step h r⟩
    | succ k =>
      have e : ∀ m : M, m.outcome = none → m.runFor (k + 1) = m.step.runFor k := fun m q => by
        show (if m.outcome.isSome = true then m else M.runFor k m.step) = _
        rw [if_neg (by rw [q]; exact Bool.false_ne_true)]
      rw [e _ h]
      rcases ih k with q | ⟨q1, q2, q3⟩
      · left; exact q
      · right; exact ⟨Nat.succ_lt_succ q1, q2, by rw [Nat.add_sub_add_right]; exact q3⟩

theorem drive {Mo : Model} {A : Around} {E : Value → Shared → Prop} {s : Shared} {Q : M → Shared → Prop} {P : M → Prop} (hQ : ∀ m, m.outcome.isSome = true → P m → Q m s) :
    ∀ (t n : Nat) (m : M), Rests P n m → n < 4 * t → wpAny Mo A (PySem.Builtin.Re.reDrive t m) Q E s
  | 0, n, m, _, h => absurd h (by omega)
  | t + 1, n, m, r, h => by
    unfold PySem.Builtin.Re.reDrive
    rcases r.runFor 4 with ⟨x, e, o, p⟩ | ⟨q1, q2, q3⟩
    · show wpAny Mo A (if (m.runFor 4).outcome.isSome = true then _ else _) _ _ s
      subst e
      rw [if_pos o]
      exact wpAny_pure (hQ _ o p)
    · show wpAny Mo A (if (m.runFor 4).outcome.isSome = true then _ else _) _ _ s
      rw [if_neg (by rw [q2]; exact Bool.false_ne_true)]
      exact wpAny_bind (wpAny_rule (drive hQ t (n - 4) _ q3 (by omega)))

theorem saids {Mo : Model} {A : Around} {E : Value → Shared → Prop} {s : Shared} {Q : PUnit → Shared → Prop} {f : Nat → PUnit → Sem (ForInStep PUnit)} (hf : ∀ i b (R : ForInStep PUnit → Shared → Prop), R (.yield PUnit.unit) s → wpAny Mo A (f i b) R E s) (h : Q PUnit.unit s) :
    ∀ l : List Nat, wpAny Mo A (forIn l PUnit.unit f) Q E s
  | [] => wpAny_pure h
  | i :: l => by
    rw [List.forIn_cons]
    exact wpAny_bind (hf _ _ _ (saids hf h l))

theorem runToEnd {Mo : Model} {A : Around} {E : Value → Shared → Prop} {s : Shared} {Q : Option M → Shared → Prop} {P : M → Prop} {m : M} {n : Nat} (r : Rests P n m) (hn : n < 2 ^ 60)
    (hQ : ∀ m, P m → (match m.outcome with | some .matched => Q (some m) s | some .failed => Q none s | _ => False)) : wpAny Mo A (PySem.Builtin.Re.reRunToEnd m) Q E s := by
  unfold PySem.Builtin.Re.reRunToEnd
  refine wpAny_bind (drive (fun m o p => ?_) (2 ^ 64) n m r (by omega))
  refine wpAny_bind (saids (fun i _ R q => ?_) ?_ _)
  · by_cases hi : m.seen.has i = true
    · rw [if_pos hi]; exact wpAny_bind (wpAny_rule (wpAny_pure q))
    · rw [if_neg hi]; exact wpAny_pure q
  have q := hQ m p
  revert q
  cases hm : m.outcome with
  | none => exact fun q => q.elim
  | some o => cases o with
    | matched => exact fun q => wpAny_pure q
    | failed => exact fun q => wpAny_pure q
    | stuck why => exact fun q => q.elim
end Mine
end
/-! R2b -/
section
open PySem PySem.W PySem.Calls PyProof.Rows
set_option maxRecDepth 100000
namespace Mine
open PySem.Sre
section
variable {P : M → Prop} {n : Nat} {m : M}

theorem ops16 : ops[16]? = some Op.LITERAL := rfl
theorem ops7 : ops[7]? = some Op.BRANCH := rfl
theorem ops15 : ops[15]? = some Op.JUMP := rfl
theorem ops1 : ops[1]? = some Op.SUCCESS := rfl
theorem ops5 : ops[5]? = some Op.ASSERT_NOT := rfl
theorem ops6 : ops[6]? = some Op.AT := rfl

theorem step_exec (ho : m.outcome = none) (ha : m.answer = none) (hp : m.pc < m.code.size) : m.step = m.exec := by
  unfold M.step
  rw [ho, ha, if_neg (by simp)]
  show (if m.pc < m.code.size then m.exec else _) = _
  rw [if_pos hp]

theorem r_lit_ok {k : Nat} (ho : m.outcome = none) (ha : m.answer = none) (hp : m.pc < m.code.size) (hw : m.code.getD m.pc 0 = 16) (hk : m.code.getD (m.pc + 1) 0 = k) (hl : m.pos < m.lim) (ht : m.text.getD m.pos 0 = k)
    (h : ∀ sn, Rests P n { m with seen := sn, pc := m.pc + 2, pos := m.pos + 1 }) : Rests P (n + 1) m := by
  refine .step ho ?_
  rw [step_exec ho ha hp]
  have : m.exec = { m with seen := m.seen.add 16, pc := m.pc + 2, pos := m.pos + 1 } := by
    simp [M.exec, M.word, hw, ops16, accepts, itemWidth, hk, ht, Nat.not_le.mpr hl]
  rw [this]; exact h _

theorem r_lit_no {k : Nat} (ho : m.outcome = none) (ha : m.answer = none) (hp : m.pc < m.code.size) (hw : m.code.getD m.pc 0 = 16) (hk : m.code.getD (m.pc + 1) 0 = k) (hl : m.lim ≤ m.pos ∨ m.text.getD m.pos 0 ≠ k)
    (h : ∀ sn, Rests P n { m with seen := sn, answer := some false }) : Rests P (n + 1) m := by
  refine .step ho ?_
  rw [step_exec ho ha hp]
  have : m.exec = { m with seen := m.seen.add 16, answer := some false } := by
    by_cases hle : m.lim ≤ m.pos
    · simp [M.exec, M.word, hw, ops16, hle, M.say]
    · have hne := hl.resolve_left hle
      have hb : (m.text.getD m.pos 0 == k) = false := by simpa using hne
      have hb' : (m.text[m.pos]?.getD 0 == k) = false := by simpa using hb
      simp [M.exec, M.word, hw, ops16, accepts, hk, hle, M.say, hb']
  rw [this]; exact h _

theorem r_jump {k : Nat} (ho : m.outcome = none) (ha : m.answer = none) (hp : m.pc < m.code.size) (hw : m.code.getD m.pc 0 = 15) (hk : m.code.getD (m.pc + 1) 0 = k)
    (h : ∀ sn, Rests P n { m with seen := sn, pc := m.pc + 1 + k }) : Rests P (n + 1) m := by
  refine .step ho ?_
  rw [step_exec ho ha hp]
  have : m.exec = { m with seen := m.seen.add 15, pc := m.pc + 1 + k } := by
    simp [M.exec, M.word, hw, ops15, hk]
  rw [this]; exact h _

theorem r_success (ho : m.outcome = none) (ha : m.answer = none) (hp : m.pc < m.code.size) (hw : m.code.getD m.pc 0 = 1) (hwt : m.wholeText = false) (hma : m.mustAdvance = false)
    (h : ∀ sn, Rests P n { m with seen := sn, handed := m.pos, answer := some true }) : Rests P (n + 1) m := by
  refine .step ho ?_
  rw [step_exec ho ha hp]
  have : m.exec = { m with seen := m.seen.add 1, handed := m.pos, answer := some true } := by
    simp [M.exec, M.word, hw, ops1, M.say, hwt, hma]
  rw [this]; exact h _

theorem r_branch {a : Nat} (ho : m.outcome = none) (ha : m.answer = none) (hp : m.pc < m.code.size) (hw : m.code.getD m.pc 0 = 7) (hk : m.code.getD (m.pc + 1) 0 = a) (ha0 : a ≠ 0) (hin : m.inner = none) (hwe : m.weight < 1000)
    (h : ∀ sn, Rests P n { m with seen := sn, frames := { wait := .nextBranch, pc := m.pc + 1, pos := m.pos, outermost := m.outermost, kept := { lastmark := m.lastmark, lastindex := m.lastindex } } :: m.frames, weight := m.weight + 1, pc := m.pc + 2, handed := m.pos }) : Rests P (n + 1) m := by
  refine .step ho ?_
  rw [step_exec ho ha hp]
  have : m.exec = { m with seen := m.seen.add 7, frames := { wait := .nextBranch, pc := m.pc + 1, pos := m.pos, outermost := m.outermost, kept := { lastmark := m.lastmark, lastindex := m.lastindex } } :: m.frames, weight := m.weight + 1, pc := m.pc + 2, handed := m.pos } := by
    have hk' : m.code[m.pc + 1]?.getD 0 = a := by simpa using hk
    simp [M.exec, M.word, hw, ops7, M.alternative, hk', ha0, M.keep, hin, M.attempt, M.frame, show ¬ (16777216 < m.weight + 1) by omega]
  rw [this]; exact h _

theorem r_lookNot (ho : m.outcome = none) (ha : m.answer = none) (hp : m.pc < m.code.size) (hw : m.code.getD m.pc 0 = 5) (hk : m.code.getD (m.pc + 2) 0 = 0) (hin : m.inner = none) (hwe : m.weight < 1000)
    (h : ∀ sn, Rests P n { m with seen := sn, frames := { wait := .lookNot, pc := m.pc, pos := m.pos, outermost := m.outermost, kept := { lastmark := m.lastmark, lastindex := m.lastindex } } :: m.frames, weight := m.weight + 1, pc := m.pc + 3, handed := m.pos, outermost := false }) : Rests P (n + 1) m := by
  refine .step ho ?_
  rw [step_exec ho ha hp]
  have : m.exec = { m with seen := m.seen.add 5, frames := { wait := .lookNot, pc := m.pc, pos := m.pos, outermost := m.outermost, kept := { lastmark := m.lastmark, lastindex := m.lastindex } } :: m.frames, weight := m.weight + 1, pc := m.pc + 3, handed := m.pos, outermost := false } := by
    have hk' : m.code[m.pc + 2]?.getD 0 = 0 := by simpa using hk
    simp [M.exec, M.word, hw, ops5, hk', M.keep, hin, M.attempt, M.frame, show ¬ (16777216 < m.weight + 1) by omega]
  rw [this]; exact h _

theorem r_bol_ok (ho : m.outcome = none) (ha : m.answer = none) (hp : m.pc < m.code.size) (hw : m.code.getD m.pc 0 = 6) (hk : m.code.getD (m.pc + 1) 0 = 1) (hb : m.pos = 0 ∨ m.text.getD (m.pos - 1) 0 = 10)
    (h : ∀ sn, Rests P n { m with seen := sn, pc := m.pc + 2 }) : Rests P (n + 1) m := by
  refine .step ho ?_
  rw [step_exec ho ha hp]
  have : m.exec = { m with seen := (m.seen.add 6).add 44, pc := m.pc + 2 } := by
    have hk' : m.code[m.pc + 1]?.getD 0 = 1 := by simpa using hk
    have hb' : m.pos = 0 ∨ m.text[m.pos - 1]?.getD 0 = 10 := by simpa using hb
    simp [M.exec, M.word, hw, ops6, hk', M.isAt, hb']
  rw [this]; exact h _
theorem r_bol_no (ho : m.outcome = none) (ha : m.answer = none) (hp : m.pc < m.code.size) (hw : m.code.getD m.pc 0 = 6) (hk : m.code.getD (m.pc + 1) 0 = 1) (hb : ¬ (m.pos = 0 ∨ m.text.getD (m.pos - 1) 0 = 10))
    (h : ∀ sn, Rests P n { m with seen := sn, answer := some false }) : Rests P (n + 1) m := by
  refine .step ho ?_
  rw [step_exec ho ha hp]
  have : m.exec = { m with seen := (m.seen.add 6).add 44, answer := some false } := by
    have hk' : m.code[m.pc + 1]?.getD 0 = 1 := by simpa using hk
    have hb' : ¬ (m.pos = 0 ∨ m.text[m.pos - 1]?.getD 0 = 10) := by simpa using hb
    simp [M.exec, M.word, hw, ops6, hk', M.isAt, hb', M.say]
  rw [this]; exact h _

theorem step_answer {f : Sre.Frame} {rest : List Sre.Frame} {yes : Bool} (ho : m.outcome = none) (ha : m.answer = some yes) (hf : m.frames = f :: rest) :
    m.step = M.resume { m with answer := none, frames := rest, weight := m.weight - (1 + f.kept.marks.size), pc := f.pc, pos := f.pos, outermost := f.outermost } f yes := by
  unfold M.step
  rw [ho, ha, hf, if_neg (by simp)]

theorem r_end {yes : Bool} (ho : m.outcome = none) (ha : m.answer = some yes) (hf : m.frames = []) (h : P { m with outcome := some (if yes then .matched else .failed) }) : Rests P (n + 1) m := by
  refine .step ho ?_
  have e : m.step = { m with outcome := some (if yes then .matched else .failed) } := by
    cases m
    dsimp only at ho ha hf
    subst ho ha hf
    rfl
  rw [e]
  exact .done rfl h

theorem r_yes {f : Sre.Frame} {rest : List Sre.Frame} (ho : m.outcome = none) (ha : m.answer = some true) (hf : m.frames = f :: rest) (hw : f.wait = .nextBranch ∨ f.wait = .nextStart)
    (h : Rests P n { m with answer := some true, frames := rest, weight := m.weight - (1 + f.kept.marks.size), pc := f.pc, pos := f.pos, outermost := f.outermost }) : Rests P (n + 1) m := by
  refine .step ho ?_
  rw [step_answer ho ha hf]
  rcases hw with hw | hw <;> (unfold M.resume; rw [hw]; exact h)

theorem r_branch_no {f : Sre.Frame} {rest : List Sre.Frame} {a b : Nat} (ho : m.outcome = none) (ha : m.answer = some false) (hf : m.frames = f :: rest) (hw : f.wait = .nextBranch) (hkw : f.kept.whole = false) (hks : f.kept.marks.size = 0)
    (hc : m.code.getD f.pc 0 = a) (hb : m.code.getD (f.pc + a) 0 = b) (hb0 : b ≠ 0) (hwe : m.weight < 1000)
    (h : Rests P n { m with answer := none, lastmark := f.kept.lastmark, lastindex := f.kept.lastindex, frames := { wait := .nextBranch, pc := f.pc + a, pos := f.pos, outermost := f.outermost, kept := f.kept } :: rest, weight := m.weight - 1 + 1, pc := f.pc + a + 1, pos := f.pos, handed := f.pos, outermost := f.outermost }) : Rests P (n + 1) m := by
  refine .step ho ?_
  rw [step_answer ho ha hf]
  unfold M.resume
  rw [hw]
  have : ∀ x : M, x = { m with answer := none, lastmark := f.kept.lastmark, lastindex := f.kept.lastindex, frames := rest, weight := m.weight - 1, pc := f.pc, pos := f.pos, outermost := f.outermost } →
      x.alternative (f.pc + a) f.kept = { m with answer := none, lastmark := f.kept.lastmark, lastindex := f.kept.lastindex, frames := { wait := .nextBranch, pc := f.pc + a, pos := f.pos, outermost := f.outermost, kept := f.kept } :: rest, weight := m.weight - 1 + 1, pc := f.pc + a + 1, pos := f.pos, handed := f.pos, outermost := f.outermost } := by
    rintro x rfl
    have hb' : m.code[f.pc + a]?.getD 0 = b := by simpa using hb
    simp [M.alternative, hb', hb0, M.attempt, M.frame, hks, show ¬ (16777216 < m.weight - 1 + 1) by omega]
  show Rests P n (if false = true then _ else M.alternative _ (f.pc + m.code.getD f.pc 0) f.kept)
  rw [if_neg Bool.false_ne_true, hc, this _ (by simp [M.putBack, hkw, hks])]
  exact h

theorem r_lookNot_no {f : Sre.Frame} {rest : List Sre.Frame} {a : Nat} (ho : m.outcome = none) (ha : m.answer = some false) (hf : m.frames = f :: rest) (hw : f.wait = .lookNot) (hkw : f.kept.whole = false) (hks : f.kept.marks.size = 0)
    (hc : m.code.getD (f.pc + 1) 0 = a)
    (h : Rests P n { m with answer := none, lastmark := f.kept.lastmark, lastindex := f.kept.lastindex, frames := rest, weight := m.weight - 1, pc := f.pc + 1 + a, pos := f.pos, outermost := f.outermost }) : Rests P (n + 1) m := by
  refine .step ho ?_
  rw [step_answer ho ha hf]
  unfold M.resume
  rw [hw]
  have hc' : m.code[f.pc + 1]?.getD 0 = a := by simpa using hc
  simpa [M.putBack, hkw, hks, M.word, hc'] using h
end
end Mine
end
/-! R2c -/
section
open PySem
set_option maxRecDepth 100000
namespace Mine
open PySem.Sre

def code2 : Array Nat := #[14, 9, 4, 1, 2, 16, 10, 16, 13, 0, 7, 7, 16, 13, 16, 10, 15, 18, 5, 16, 10, 15, 13, 11, 16, 13, 5, 5, 0, 16, 10, 1, 15, 2, 0, 1]
def code1 : Array Nat := #[14, 4, 0, 1, 1, 6, 1, 16, 46, 1]
def isEnd (c : Nat) : Bool := c == 10 || c == 13

theorem inSet2 (c : Nat) (seen : Seen) : ∃ sn, inSet code2 c 36 5 true seen = .ok (isEnd c, sn) := by
  by_cases h10 : c = 10
  · subst h10
    exact ⟨_, rfl⟩
  · by_cases h13 : c = 13
    · subst h13
      exact ⟨_, rfl⟩
    · have e1 : (c == 10) = false := by simpa using h10
      have e2 : (c == 13) = false := by simpa using h13
      refine ⟨((seen.add 16).add 16).add 0, ?_⟩
      have k : isEnd c = false := by simp [isEnd, e1, e2]
      rw [k]
      have s1 : ∀ f sn, inSet code2 c (f + 1) 5 true sn = inSet code2 c f 7 true (sn.add 16) := fun f sn => by
        show (if (c == 10) = true then _ else inSet code2 c f 7 true (sn.add 16)) = _
        rw [e1]; rfl
      have s2 : ∀ f sn, inSet code2 c (f + 1) 7 true sn = inSet code2 c f 9 true (sn.add 16) := fun f sn => by
        show (if (c == 13) = true then _ else inSet code2 c f 9 true (sn.add 16)) = _
        rw [e2]; rfl
      rw [s1, s2]
      rfl

theorem admitted2 {m : M} (hc : m.code = code2) : ∀ (f s : Nat) (seen : Seen), m.lim < s + f →
    (∃ i sn, M.admitted m f s seen = .ok (some i, sn) ∧ s ≤ i ∧ i < m.lim ∧ isEnd (m.text.getD i 0) = true ∧ ∀ j, s ≤ j → j < i → isEnd (m.text.getD j 0) = false) ∨
    (∃ sn, M.admitted m f s seen = .ok (none, sn) ∧ ∀ j, s ≤ j → j < m.lim → isEnd (m.text.getD j 0) = false)
  | 0, s, seen, h => .inr ⟨seen, rfl, fun j h1 h2 => by omega⟩
  | f + 1, s, seen, h => by
    by_cases hs : s ≥ m.lim
    · right
      exact ⟨seen, by unfold M.admitted; rw [if_pos hs], fun j h1 h2 => by omega⟩
    · obtain ⟨sn, e⟩ := inSet2 (m.text.getD s 0) seen
      have e' : inSet m.code (m.text.getD s 0) m.code.size 5 true seen = .ok (isEnd (m.text.getD s 0), sn) := by rw [hc]; exact e
      unfold M.admitted
      rw [if_neg hs, e']
      cases hb : isEnd (m.text.getD s 0) with
      | true => left; exact ⟨s, sn, rfl, Nat.le_refl _, by omega, hb, fun j h1 h2 => by omega⟩
      | false =>
        have key : ∀ j, s ≤ j → (s + 1 ≤ j → isEnd (m.text.getD j 0) = false) → isEnd (m.text.getD j 0) = false := fun j h1 h2 => by
          rcases Nat.eq_or_lt_of_le h1 with q | q
          · rw [← q]; exact hb
          · exact h2 q
        rcases admitted2 hc f (s + 1) sn (by omega) with ⟨i, sn', e1, e2, e3, e4, e5⟩ | ⟨sn', e1, e2⟩
        · left; exact ⟨i, sn', e1, by omega, e3, e4, fun j h1 h2 => key j h1 fun q => e5 j q h2⟩
        · right; exact ⟨sn', e1, fun j h1 h2 => key j h1 fun q => e2 j q h2⟩

/-- what a search by the second pattern (the ends of lines) comes to -/
def Found2 (text : Array Nat) (pos : Nat) (m : M) : Prop :=
  (m.outcome = some .failed ∧ ∀ j, pos ≤ j → j < text.size → isEnd (text.getD j 0) = false) ∨
  (m.outcome = some .matched ∧ pos ≤ m.start ∧ m.start < text.size ∧ (∀ j, pos ≤ j → j < m.start → isEnd (text.getD j 0) = false) ∧
    ((text.getD m.start 0 = 13 ∧ m.start + 1 < text.size ∧ text.getD (m.start + 1) 0 = 10 ∧ m.handed = m.start + 2) ∨
     (text.getD m.start 0 = 13 ∧ ¬ (m.start + 1 < text.size ∧ text.getD (m.start + 1) 0 = 10) ∧ m.handed = m.start + 1) ∨
     (text.getD m.start 0 = 10 ∧ m.handed = m.start + 1)))

def at2 (text : Array Nat) (s l : Nat) (sn : Seen) : M :=
  { code := code2, text, lim := text.size, start := s, lastStart := l, pc := 10, pos := s, handed := s, outermost := true, marks := #[], frames := [{ wait := .nextStart, pc := 10, pos := s, outermost := true }], weight := 1, seen := sn }

theorem at2_rests {text : Array Nat} {pos s l : Nat} {sn : Seen} (h1 : pos ≤ s) (h2 : s < text.size) (h3 : ∀ j, pos ≤ j → j < s → isEnd (text.getD j 0) = false) (h4 : isEnd (text.getD s 0) = true) :
    Rests (Found2 text pos) 40 (at2 text s l sn) := by
  unfold at2
  refine r_branch (a := 7) rfl rfl (by first | decide | exact Nat.le_of_ble_eq_true rfl) rfl rfl (by first | decide | exact Nat.le_of_ble_eq_true rfl) rfl (by first | decide | exact Nat.le_of_ble_eq_true rfl) (fun sn1 => ?_)
  dsimp only
  have h4' : text.getD s 0 = 10 ∨ text.getD s 0 = 13 := by simpa [isEnd] using h4
  rcases h4' with c | c
  · have c13 : text.getD s 0 ≠ 13 := by rw [c]; decide
    refine r_lit_no (k := 13) rfl rfl (by first | decide | exact Nat.le_of_ble_eq_true rfl) rfl rfl (.inr c13) (fun sn2 => ?_)
    dsimp only
    refine r_branch_no (a := 7) (b := 5) rfl rfl rfl rfl rfl rfl rfl rfl (by first | decide | exact Nat.le_of_ble_eq_true rfl) (by first | decide | exact Nat.le_of_ble_eq_true rfl) ?_
    dsimp only
    refine r_lit_ok (k := 10) rfl rfl (by first | decide | exact Nat.le_of_ble_eq_true rfl) rfl rfl h2 c (fun sn3 => ?_)
    dsimp only
    refine r_jump (k := 13) rfl rfl (by first | decide | exact Nat.le_of_ble_eq_true rfl) rfl rfl (fun sn4 => ?_)
    dsimp only
    refine r_success rfl rfl (by first | decide | exact Nat.le_of_ble_eq_true rfl) rfl rfl rfl (fun sn5 => ?_)
    dsimp only
    refine r_yes rfl rfl rfl (.inl rfl) ?_
    dsimp only
    refine r_yes rfl rfl rfl (.inr rfl) ?_
    dsimp only
    refine r_end (yes := true) rfl rfl rfl ?_
    dsimp only
    exact .inr ⟨rfl, h1, h2, h3, .inr (.inr ⟨c, rfl⟩)⟩
  · by_cases d : s + 1 < text.size ∧ text.getD (s + 1) 0 = 10
    · refine r_lit_ok (k := 13) rfl rfl (by first | decide | exact Nat.le_of_ble_eq_true rfl) rfl rfl h2 c (fun sn2 => ?_)
      refine r_lit_ok (k := 10) rfl rfl (by first | decide | exact Nat.le_of_ble_eq_true rfl) rfl rfl d.1 d.2 (fun sn3 => ?_)
      dsimp only
      refine r_jump (k := 18) rfl rfl (by first | decide | exact Nat.le_of_ble_eq_true rfl) rfl rfl (fun sn4 => ?_)
      dsimp only
      refine r_success rfl rfl (by first | decide | exact Nat.le_of_ble_eq_true rfl) rfl rfl rfl (fun sn5 => ?_)
      dsimp only
      refine r_yes rfl rfl rfl (.inl rfl) ?_
      dsimp only
      refine r_yes rfl rfl rfl (.inr rfl) ?_
      dsimp only
      refine r_end (yes := true) rfl rfl rfl ?_
      dsimp only
      exact .inr ⟨rfl, h1, h2, h3, .inl ⟨c, d.1, d.2, rfl⟩⟩
    · have d' : text.size ≤ s + 1 ∨ text.getD (s + 1) 0 ≠ 10 := by
        rcases Nat.lt_or_ge (s + 1) text.size with q | q
        · exact .inr fun e => d ⟨q, e⟩
        · exact .inl q
      have c10 : text.getD s 0 ≠ 10 := by rw [c]; decide
      refine r_lit_ok (k := 13) rfl rfl (by first | decide | exact Nat.le_of_ble_eq_true rfl) rfl rfl h2 c (fun sn2 => ?_)
      dsimp only
      refine r_lit_no (k := 10) rfl rfl (by first | decide | exact Nat.le_of_ble_eq_true rfl) rfl rfl d' (fun sn3 => ?_)
      dsimp only
      refine r_branch_no (a := 7) (b := 5) rfl rfl rfl rfl rfl rfl rfl rfl (by first | decide | exact Nat.le_of_ble_eq_true rfl) (by first | decide | exact Nat.le_of_ble_eq_true rfl) ?_
      dsimp only
      refine r_lit_no (k := 10) rfl rfl (by first | decide | exact Nat.le_of_ble_eq_true rfl) rfl rfl (.inr c10) (fun sn4 => ?_)
      dsimp only
      refine r_branch_no (a := 5) (b := 11) rfl rfl rfl rfl rfl rfl rfl rfl (by first | decide | exact Nat.le_of_ble_eq_true rfl) (by first | decide | exact Nat.le_of_ble_eq_true rfl) ?_
      dsimp only
      refine r_lit_ok (k := 13) rfl rfl (by first | decide | exact Nat.le_of_ble_eq_true rfl) rfl rfl h2 c (fun sn5 => ?_)
      dsimp only
      refine r_lookNot rfl rfl (by first | decide | exact Nat.le_of_ble_eq_true rfl) rfl rfl rfl (by first | decide | exact Nat.le_of_ble_eq_true rfl) (fun sn6 => ?_)
      dsimp only
      refine r_lit_no (k := 10) rfl rfl (by first | decide | exact Nat.le_of_ble_eq_true rfl) rfl rfl d' (fun sn7 => ?_)
      dsimp only
      refine r_lookNot_no (a := 5) rfl rfl rfl rfl rfl rfl rfl ?_
      dsimp only
      refine r_jump (k := 2) rfl rfl (by first | decide | exact Nat.le_of_ble_eq_true rfl) rfl rfl (fun sn8 => ?_)
      dsimp only
      refine r_success rfl rfl (by first | decide | exact Nat.le_of_ble_eq_true rfl) rfl rfl rfl (fun sn9 => ?_)
      dsimp only
      refine r_yes rfl rfl rfl (.inl rfl) ?_
      dsimp only
      refine r_yes rfl rfl rfl (.inr rfl) ?_
      dsimp only
      refine r_end (yes := true) rfl rfl rfl ?_
      dsimp only
      exact .inr ⟨rfl, h1, h2, h3, .inr (.inl ⟨c, d, rfl⟩)⟩

def from2 (text : Array Nat) (pos : Nat) : M :=
  { code := code2, text, lim := text.size, start := pos, pc := 10, pos, handed := pos, marks := #[], mustAdvance := false, seen := ({} : Seen).add 14, lastStart := text.size }

theorem search2 {text : Array Nat} {pos : Nat} (h : pos ≤ text.size) : Rests (Found2 text pos) 40 (forSearch code2 text 0 pos text.size false) := by
  by_cases hp : text.size - pos < 1
  · have e2 : pos = text.size := by omega
    unfold forSearch
    have e1 : header code2 = (1, 10) := rfl
    simp only [e1]
    rw [if_pos (by simp; omega)]
    refine r_end (yes := false) rfl rfl rfl ?_
    exact .inl ⟨rfl, fun j h1 h2 => by omega⟩
  · have e0 : forSearch code2 text 0 pos text.size false = (from2 text pos).attemptFrom pos true := by
      unfold forSearch
      have e1 : header code2 = (1, 10) := rfl
      simp only [e1]
      rw [if_neg (by simp; omega)]
      rfl
    rw [e0]
    unfold M.attemptFrom
    rw [if_neg (by show ¬ ((!true) = true); decide)]
    rcases admitted2 (m := from2 text pos) rfl ((from2 text pos).lim + 1 - pos) pos (from2 text pos).seen (by show text.size < pos + (text.size + 1 - pos); omega) with ⟨i, sn, e, g1, g2, g3, g4⟩ | ⟨sn, e, g⟩
    · rw [e]
      exact at2_rests (l := text.size) (sn := sn) g1 g2 g4 g3
    · rw [e]
      refine r_end (yes := false) rfl rfl rfl ?_
      exact .inl ⟨rfl, g⟩
end Mine
end
/-! R2d -/
section
open PySem
set_option maxRecDepth 100000
namespace Mine
open PySem.Sre

theorem Rests.mono {P : M → Prop} {n : Nat} {m : M} (h : Rests P n m) : ∀ k, n ≤ k → Rests P k m := by
  induction h with
  | done a b => exact fun k _ => .done a b
  | step a b ih => intro k hk; cases k with
    | zero => omega
    | succ k => exact .step a (ih k (by omega))

def bolDot (text : Array Nat) (j : Nat) : Prop := (j = 0 ∨ text.getD (j - 1) 0 = 10) ∧ text.getD j 0 = 46
/-- what a search by the first pattern (a dot that opens a line) comes to -/
def Found1 (text : Array Nat) (pos : Nat) (m : M) : Prop :=
  (m.outcome = some .failed ∧ ∀ j, pos ≤ j → j < text.size → ¬ bolDot text j) ∨
  (m.outcome = some .matched ∧ pos ≤ m.start ∧ m.start < text.size ∧ (∀ j, pos ≤ j → j < m.start → ¬ bolDot text j) ∧ bolDot text m.start ∧ m.handed = m.start + 1)

def at1 (text : Array Nat) (s : Nat) (b : Bool) (h : Nat) (sn : Seen) : M :=
  { code := code1, text, lim := text.size, start := s, lastStart := text.size, pc := 5, pos := s, handed := s, outermost := b, marks := #[], frames := [{ wait := .nextStart, pc := 5, pos := s, outermost := b }], weight := h, seen := sn }

theorem r_start_no {P : M → Prop} {n : Nat} {text : Array Nat} {s : Nat} {b : Bool} {m : M} (hs : s < text.size)
    (hm : ∃ pc pos hd sn, m = { code := code1, text, lim := text.size, start := s, lastStart := text.size, pc := pc, pos := pos, handed := hd, outermost := b, marks := #[], frames := [{ wait := .nextStart, pc := 5, pos := s, outermost := b }], weight := 1, seen := sn, answer := some false })
    (h : ∀ sn, Rests P n (at1 text (s + 1) false 1 sn)) : Rests P (n + 1) m := by
  obtain ⟨pc, pos, hd, sn, rfl⟩ := hm
  refine .step rfl ?_
  rw [step_answer (f := { wait := .nextStart, pc := 5, pos := s, outermost := b }) (rest := []) (yes := false) rfl rfl rfl]
  unfold M.resume
  show Rests P n (if false = true then _ else if s < text.size then _ else _)
  rw [if_neg Bool.false_ne_true, if_pos hs]
  exact h sn

theorem r_start_end {P : M → Prop} {n : Nat} {text : Array Nat} {s : Nat} {b : Bool} {m : M} (hs : ¬ s < text.size)
    (hm : ∃ pc pos hd sn, m = { code := code1, text, lim := text.size, start := s, lastStart := text.size, pc := pc, pos := pos, handed := hd, outermost := b, marks := #[], frames := [{ wait := .nextStart, pc := 5, pos := s, outermost := b }], weight := 1, seen := sn, answer := some false })
    (h : ∀ m : M, m.outcome = some .failed → P m) : Rests P (n + 2) m := by
  obtain ⟨pc, pos, hd, sn, rfl⟩ := hm
  refine .step rfl ?_
  rw [step_answer (f := { wait := .nextStart, pc := 5, pos := s, outermost := b }) (rest := []) (yes := false) rfl rfl rfl]
  unfold M.resume
  show Rests P (n + 1) (if false = true then _ else if s < text.size then _ else _)
  rw [if_neg Bool.false_ne_true, if_neg hs]
  exact r_end (yes := false) rfl rfl rfl (h _ rfl)

theorem at1_rests {text : Array Nat} {pos : Nat} : ∀ (k s : Nat) (b : Bool) (sn : Seen), text.size - s = k → s ≤ text.size → pos ≤ s → (∀ j, pos ≤ j → j < s → ¬ bolDot text j) → Rests (Found1 text pos) (4 * k + 6) (at1 text s b 1 sn) := by
  intro k
  induction k with
  | zero =>
    intro s b sn hk hs hp hn
    have e : s = text.size := by omega
    have fin : ∀ m : M, m.outcome = some .failed → Found1 text pos m := fun m hm => .inl ⟨hm, fun j h1 h2 => hn j h1 (by omega)⟩
    unfold at1
    by_cases hb : s = 0 ∨ text.getD (s - 1) 0 = 10
    · refine r_bol_ok rfl rfl (Nat.le_of_ble_eq_true rfl) rfl rfl hb (fun sn1 => ?_)
      refine r_lit_no (k := 46) rfl rfl (Nat.le_of_ble_eq_true rfl) rfl rfl (.inl (show text.size ≤ s by omega)) (fun sn2 => ?_)
      exact r_start_end (text := text) (s := s) (b := b) (by omega) ⟨_, _, _, _, rfl⟩ fin
    · refine r_bol_no rfl rfl (Nat.le_of_ble_eq_true rfl) rfl rfl hb (fun sn1 => ?_)
      exact r_start_end (text := text) (s := s) (b := b) (by omega) ⟨_, _, _, _, rfl⟩ fin
  | succ k ih =>
    intro s b sn hk hs hp hn
    have hlt : s < text.size := by omega
    have next : ¬ bolDot text s → ∀ j, pos ≤ j → j < s + 1 → ¬ bolDot text j := fun q j h1 h2 => by
      rcases Nat.lt_or_ge j s with x | x
      · exact hn j h1 x
      · have : j = s := by omega
        subst this; exact q
    have go : ¬ bolDot text s → ∀ sn, Rests (Found1 text pos) (4 * k + 6) (at1 text (s + 1) false 1 sn) := fun q sn => ih (s + 1) false sn (by omega) (by omega) (by omega) (next q)
    unfold at1
    rw [show 4 * (k + 1) + 6 = 4 * k + 6 + 1 + 3 by omega]
    by_cases hb : s = 0 ∨ text.getD (s - 1) 0 = 10
    · refine r_bol_ok rfl rfl (Nat.le_of_ble_eq_true rfl) rfl rfl hb (fun sn1 => ?_)
      by_cases hd : text.getD s 0 = 46
      · refine r_lit_ok (k := 46) rfl rfl (Nat.le_of_ble_eq_true rfl) rfl rfl hlt hd (fun sn2 => ?_)
        refine r_success rfl rfl (Nat.le_of_ble_eq_true rfl) rfl rfl rfl (fun sn3 => ?_)
        refine r_yes rfl rfl rfl (.inr rfl) ?_
        refine r_end (yes := true) rfl rfl rfl ?_
        exact .inr ⟨rfl, hp, hlt, hn, ⟨hb, hd⟩, rfl⟩
      · refine r_lit_no (k := 46) rfl rfl (Nat.le_of_ble_eq_true rfl) rfl rfl (.inr hd) (fun sn2 => ?_)
        refine r_start_no (text := text) (s := s) (b := b) hlt ⟨_, _, _, _, rfl⟩ ?_
        intro sn
        exact (go (fun q => hd q.2) sn).mono _ (by omega)
    · refine r_bol_no rfl rfl (Nat.le_of_ble_eq_true rfl) rfl rfl hb (fun sn1 => ?_)
      refine r_start_no (text := text) (s := s) (b := b) hlt ⟨_, _, _, _, rfl⟩ ?_
      intro sn
      exact (go (fun q => hb q.1) sn).mono _ (by omega)

theorem search1 {text : Array Nat} {pos : Nat} (h : pos ≤ text.size) : Rests (Found1 text pos) (4 * (text.size - pos) + 6) (forSearch code1 text 0 pos text.size false) := by
  by_cases hp : text.size - pos < 1
  · unfold forSearch
    have e1 : header code1 = (1, 5) := rfl
    simp only [e1]
    rw [if_pos (by simp; omega)]
    refine r_end (yes := false) rfl rfl rfl ?_
    exact .inl ⟨rfl, fun j h1 h2 => by omega⟩
  · have e0 : forSearch code1 text 0 pos text.size false = at1 text pos true 1 (({} : Seen).add 14) := by
      unfold forSearch
      have e1 : header code1 = (1, 5) := rfl
      simp only [e1]
      rw [if_neg (by simp; omega)]
      rfl
    rw [e0]
    exact at1_rests _ pos true _ rfl h (Nat.le_refl _) fun j h1 h2 => by omega
end Mine
end
/-! R3 -/
section
open PySem PySem.W PySem.Calls PyProof.Rows
set_option maxRecDepth 100000
namespace Mine
open PySem.Builtin.Re

/-- a compiled pattern of strs, without groups, stands at p -/
def PatAt (h : Heap) (p : Addr) (code : Array Nat) : Prop :=
  ∃ (o : Obj) (fs : Array Value) (c : Addr) (oc : Obj) (items : Array Value) (n : Nat), h.get? p = some o ∧ o.cls = .type "re.Pattern" ∧ o.data = .fields fs ∧ h.get? c = some oc ∧ oc.data = .seq items n ∧
    fs.getD 2 .none = .int 0 0 ∧ fs.getD 5 .none = .ref c ∧ fs.getD 6 .none = .int 0 0 ∧ (items.map reRawOf).map (·.toNat) = code
theorem PatAt.keeps {h h' : Heap} {p : Addr} {code : Array Nat} (x : PatAt h p code) (k : ∀ b o, h.get? b = some o → h'.get? b = some o) : PatAt h' p code := by
  obtain ⟨o, fs, c, oc, items, n, h1, h2, h3, h4, h5⟩ := x
  exact ⟨o, fs, c, oc, items, n, k _ _ h1, h2, h3, k _ _ h4, h5⟩

section
variable {M : Model} {A : Around} {E : Value → Shared → Prop} {s : Shared}
theorem wholeTarget {p : Addr} {code : Array Nat} {x : Str} {t : Tok} {Q : ReTarget → Shared → Prop} (hp : PatAt s.heap p code)
    (h : Q { pattern := .ref p, string := .str x t, code := code, text := x.cps, kind := 0, groups := 0, pos := 0, lim := x.cps.size } s) : wpAny M A (reWholeTarget (.ref p) (.str x t)) Q E s := by
  obtain ⟨o, fs, c, oc, items, n, h1, h2, h3, h4, h5, f2, f5, f6, hc⟩ := hp
  unfold reWholeTarget
  refine wpAny_bind ?_
  unfold fieldsOf
  refine wpAny_bind (wpAny_load h1 ?_)
  rw [h3]
  refine wpAny_pure ?_
  refine wpAny_bind (wpAny_pure ?_)
  rw [f6, f5, f2]
  show wpAny M A (reNoCollectionInside _ 0 >>= _) _ _ s
  refine wpAny_bind (wpAny_pure ?_)
  refine wpAny_bind ?_
  unfold reRawItems
  refine wpAny_bind ?_
  refine wpAny_seqItems h4 h5 ?_
  refine wpAny_pure ?_
  refine wpAny_pure ?_
  show Q { pattern := .ref p, string := .str x t, code := (items.map reRawOf).map (·.toNat), text := x.cps, kind := 0, groups := 0, pos := 0, lim := x.cps.size } s
  rw [hc]; exact h
end
end Mine
end
/-! R3b -/
section
open PySem PySem.W PySem.Calls PyProof.Rows
set_option maxRecDepth 100000
namespace Mine
open PySem.Builtin.Re PySem.Sre
theorem plain_subloop : plainId "re.Pattern.sub.loop" = true := by decide +kernel
theorem entry_subloop : entryFor table "re.Pattern.sub.loop" = some Builtin.«re.Pattern.sub.loop» := entryFor_of_fast (by kernel_rfl)

theorem push_D {M : Model} {A : Around} {E : Value → Shared → Prop} {s : Shared} {g : Heap} {D : Addr} {items : Array Value} {v : Value} {Q : Unit → Shared → Prop} (hg : g.StaysIn s.heap) (hD : g.get? D = none) (hl : s.heap.IsList D items) (hz : items.size ≤ 1000000)
    (h : ∀ h', g.StaysIn h' → h'.IsList D (items.push v) → Q () { s with heap := h' }) : wpAny M A (updateSeq D fun x => x.push v) Q E s := by
  obtain ⟨o, ho, hc, n, hd⟩ := id hl
  obtain ⟨n', hd'⟩ := Obj.data_mapSeq hd (·.push v)
  have e24 : sizeLine = 16777216 := by decide
  refine wpAny_updateSeq ho hd (h _ (fun b o' e => ?_) ?_) (by omega) (by rw [Array.size_push]; omega)
  · refine (Heap.get?_update_ne _ _ _ _ fun z => ?_).trans (hg b o' e)
    rw [z, hD] at e; cases e
  · exact ⟨_, Heap.get?_update_self _ ho (Obj.isFreed_of_seq hd'), (Obj.cls_mapSeq ..).trans hc, n', hd'⟩

theorem strs_push {items : Array Value} {ys : List Str} {y : Str} {t : Tok} (h : StrsAre items.toList ys) : StrsAre (items.push (.str y t)).toList (ys ++ [y]) := by
  rw [Array.toList_push]
  generalize items.toList = l at h
  induction h with
  | nil => exact .cons y t .nil
  | cons a b _ ih => exact .cons a b ih
theorem strs_length {l : List Value} {ys : List Str} (h : StrsAre l ys) : l.length = ys.length := by
  induction h with
  | nil => rfl
  | cons a b _ ih => simp [ih]
theorem glue0 (ys : List Str) : Txt.join ⟨#[]⟩ ys = ⟨(ys.map (·.cps.toList)).flatten.toArray⟩ := by
  have key : ∀ (l : List Str) (a : Array Nat), l.foldl (fun acc p => acc ++ (#[] : Array Nat) ++ p.cps) a = a ++ (l.map (·.cps.toList)).flatten.toArray := by
    intro l
    induction l with
    | nil => intro a; simp
    | cons y r ih =>
      intro a
      rw [List.foldl_cons, ih]
      apply Array.toList_inj.mp
      simp
  show (⟨(ys.drop 1).foldl (fun acc p => acc ++ (#[] : Array Nat) ++ p.cps) (ys.headD Str.empty).cps⟩ : Str) = _
  rw [key]
  cases ys with
  | nil => rfl
  | cons y r =>
    congr 1
    apply Array.toList_inj.mp
    simp
theorem sum_lens (ys : List Str) : (ys.map (·.length)).sum = ((ys.map (·.cps.toList)).flatten).length := by
  induction ys with
  | nil => rfl
  | cons y r ih => simp only [List.map_cons, List.sum_cons, List.flatten_cons, List.length_append, ih]; rfl

theorem slice_ok {M : Model} {A : Around} {E : Value → Shared → Prop} {s : Shared} {text : Array Nat} {b e : Nat} {Q : Value → Shared → Prop} (hs : text.size ≤ 1000) (h : ∀ t k, Q (.str ⟨text.extract b e⟩ t) { s with toks := k }) : wpAny M A (reSlice text 0 b e) Q E s := by
  show wpAny M A (mkStr ⟨text.extract b e⟩) Q E s
  have e24 : sizeLine = 16777216 := by decide
  exact wpAny_mkStr (h _ _) (by show (text.extract b e).size ≤ _; simp; omega)

theorem sub_loop {prog : Program} {w : World} {g : Heap} {p D : Addr} {code : Array Nat} {x r : Str} {t tr : Tok} {G : Nat → List Nat} {Fd : Nat → M → Prop}
    (hp : PatAt g p code) (hD : g.get? D = none) (hsz : x.cps.size ≤ 1000) (hr : r.cps.size ≤ 10)
    (hsearch : ∀ pos, pos ≤ x.cps.size → Rests (Fd pos) 5000 (forSearch code x.cps 0 pos x.cps.size false))
    (hG : ∀ pos m, pos ≤ x.cps.size → Fd pos m → (m.outcome = some .failed ∧ G pos = x.cps.toList.drop pos) ∨
      (m.outcome = some .matched ∧ pos ≤ m.start ∧ m.start < m.handed ∧ m.handed ≤ x.cps.size ∧ G pos = (x.cps.toList.drop pos).take (m.start - pos) ++ r.cps.toList ++ G m.handed)) :
    ∀ (k pos : Nat), x.cps.size - pos = k → pos ≤ x.cps.size → ∀ (A : Around) (R : Result → Shared → Prop) (s : Shared) (n : Int) (ys : List Str) (items : Array Value),
      g.StaysIn s.heap → s.heap.IsList D items → StrsAre items.toList ys → items.size ≤ 2 * pos → ((ys.map (·.cps.toList)).flatten).length ≤ 11 * pos →
      (∀ h' tk t', g.StaysIn h' → R (.ok (.ret (.str ⟨((ys.map (·.cps.toList)).flatten ++ G pos).toArray⟩ t'))) { s with heap := h', toks := tk }) →
      codeAny (model prog w) A (.builtin "re.Pattern.sub.loop" ⟨[.ref p, .str x t, .str r tr, rawInt 0, rawInt 0, rawInt n, rawInt pos, rawInt pos, .bool false, .ref D, .bool false], []⟩) R s := by
  intro k
  induction k using Nat.strongRecOn with
  | ind k ih =>
    intro pos hk hpos A R s n ys items hg hl hi hb1 hb2 hR
    refine codeAny_builtin entry_subloop ?_
    rw [Around.under_plainId plain_subloop _]
    unfold Builtin.«re.Pattern.sub.loop»
    dsimp only [rawInt]
    refine wpAny_bind (wholeTarget (hp.keeps hg) ?_)
    dsimp only
    rw [if_pos (show ((0 : Int) == 0) = true from rfl)]
    refine wpAny_bind (wpAny_pure ?_)
    rw [if_neg (show ¬ ((((0 : Int) != 0) && decide (n ≥ 0)) = true) from Bool.false_ne_true), Int.toNat_natCast]
    refine wpAny_bind (runToEnd (hsearch pos hpos) (by decide) (fun m hm => ?_))
    rcases hG pos m hpos hm with ⟨o, hg'⟩ | ⟨o, q1, q2, q3, hg'⟩
    · rw [o]
      dsimp only
      have fin : ∀ (s₂ : Shared) (items₂ : Array Value) (ys₂ : List Str), s₂.gens = s.gens → s₂.drawn = s.drawn → s₂.os = s.os → g.StaysIn s₂.heap → s₂.heap.IsList D items₂ → StrsAre items₂.toList ys₂ →
          ys₂.length ≤ 3000 → ((ys₂.map (·.cps.toList)).flatten).length ≤ 20000 → (ys₂.map (·.cps.toList)).flatten = (ys.map (·.cps.toList)).flatten ++ G pos →
          wpAny (model prog w) A.in1 (do
            let joiner ← reSlice x.cps 0 0 0
            let __do_lift ← seqItems? (Value.ref D)
            if (__do_lift.getD #[]).isEmpty = true then do
              let text ← pure joiner
              if false = true then do
                  let __do_lift ← holding [text] do
                      let __do_lift ← mkInt n
                      newTuple [text, __do_lift]
                  ret __do_lift
                else ret text
            else do
              let text ← call (Value.builtin (if (0 == 0) = true then "str.join" else "bytes.join")) [joiner, Value.ref D]
              if false = true then do
                  let __do_lift ← holding [text] do
                      let __do_lift ← mkInt n
                      newTuple [text, __do_lift]
                  ret __do_lift
                else ret text)
            (fun fin s' => match fin with | .done f => R (.ok f) s' | .again c' => c'.quiet = true ∧ codeAny (model prog w) A c' R s') (fun e s' => R (.error e) s') s₂ := by
        intro s₂ items₂ ys₂ e1 e2 e3 hg₂ hl₂ hi₂ hn₂ hm₂ hout
        refine wpAny_bind (slice_ok hsz fun tj kj => ?_)
        obtain ⟨ob, hob, hcb, nb, hdb⟩ := id hl₂
        refine wpAny_bind (wpAny_seqItems hob hdb ?_)
        dsimp only [Option.getD]
        have ex : x.cps.extract 0 0 = #[] := by simp
        by_cases he : items₂.isEmpty = true
        · rw [if_pos he]
          refine wpAny_bind (wpAny_pure ?_)
          rw [if_neg Bool.false_ne_true]
          refine wpAny_pure ?_
          have hx : items₂ = #[] := by simpa using he
          subst hx
          cases hi₂
          rw [ex]
          have := hR s₂.heap kj tj hg₂
          rw [← hout, ← e1, ← e2, ← e3] at this
          exact this
        · rw [if_neg he]
          rw [ex]
          refine wpAny_bind (join_list (ys := ys₂) hl₂ hi₂ (by rw [sum_lens]; show _ + ys₂.length * 0 ≤ _; omega) fun t' k' => ?_)
          rw [if_neg Bool.false_ne_true]
          refine wpAny_pure ?_
          have := hR s₂.heap k' t' hg₂
          rw [← hout, ← glue0, ← e1, ← e2, ← e3] at this
          exact this
      by_cases hlt : pos < x.cps.size
      · rw [if_pos hlt]
        refine wpAny_bind (slice_ok hsz fun ts ks => ?_)
        refine wpAny_bind (push_D hg hD hl (by omega) fun h' hg₂ hl₂ => ?_)
        have ext : (x.cps.extract pos x.cps.size).toList = x.cps.toList.drop pos := by simp only [Array.toList_extract, List.extract_eq_take_drop]; exact List.take_of_length_le (by simp)
        refine fin _ _ (ys ++ [⟨x.cps.extract pos x.cps.size⟩]) rfl rfl rfl hg₂ hl₂ (strs_push hi) ?_ ?_ ?_
        · have := strs_length hi; rw [Array.length_toList] at this; simp; omega
        · simp at hb2 ⊢; omega
        · rw [List.map_append, List.flatten_append, hg']; simp only [List.map_cons, List.map_nil, List.flatten_cons, List.flatten_nil, List.append_nil]; rw [ext]
      · rw [if_neg hlt]
        refine fin s items ys rfl rfl rfl hg hl hi ?_ ?_ ?_
        · have := strs_length hi; rw [Array.length_toList] at this; omega
        · omega
        · rw [hg', List.drop_eq_nil_of_le (by simp; omega), List.append_nil]
    · rw [o]
      dsimp only
      have hmust : (m.handed == m.start) = false := by simp; omega
      have step : ∀ (s₂ : Shared) (items₂ : Array Value) (ys₂ : List Str), s₂.gens = s.gens → s₂.drawn = s.drawn → s₂.os = s.os → g.StaysIn s₂.heap → s₂.heap.IsList D items₂ → StrsAre items₂.toList ys₂ →
          items₂.size ≤ 2 * pos + 1 → ((ys₂.map (·.cps.toList)).flatten).length ≤ 11 * pos + (m.start - pos) → (ys₂.map (·.cps.toList)).flatten = (ys.map (·.cps.toList)).flatten ++ (x.cps.toList.drop pos).take (m.start - pos) →
          wpAny (model prog w) A.in1 (if ((0 : Int) == 0) = true then do
              let item ← pure (Value.str r tr)
              if (item != Value.none) = true then do
                  updateSeq D fun x => x.push item
                  again (Code.builtin "re.Pattern.sub.loop" { pos := [Value.ref p, Value.str x t, Value.str r tr, Value.int 0 0, Value.int 0 0, Value.int (n + 1) 0, Value.int (↑m.handed) 0, Value.int (↑m.handed) 0, Value.bool (m.handed == m.start), Value.ref D, Value.bool false] })
                else again (Code.builtin "re.Pattern.sub.loop" { pos := [Value.ref p, Value.str x t, Value.str r tr, Value.int 0 0, Value.int 0 0, Value.int (n + 1) 0, Value.int (↑m.handed) 0, Value.int (↑m.handed) 0, Value.bool (m.handed == m.start), Value.ref D, Value.bool false] })
            else do
              let found ← reNewMatch (Value.ref p) (Value.str x t) 0 0 x.cps.size m
              let item ← holding [found] (if ((0 : Int) == 1) = true then call (Value.str r tr) [found] else do reExpand (Value.str r tr) (← reFound found))
              if (item != Value.none) = true then do
                  updateSeq D fun x => x.push item
                  again (Code.builtin "re.Pattern.sub.loop" { pos := [Value.ref p, Value.str x t, Value.str r tr, Value.int 0 0, Value.int 0 0, Value.int (n + 1) 0, Value.int (↑m.handed) 0, Value.int (↑m.handed) 0, Value.bool (m.handed == m.start), Value.ref D, Value.bool false] })
                else again (Code.builtin "re.Pattern.sub.loop" { pos := [Value.ref p, Value.str x t, Value.str r tr, Value.int 0 0, Value.int 0 0, Value.int (n + 1) 0, Value.int (↑m.handed) 0, Value.int (↑m.handed) 0, Value.bool (m.handed == m.start), Value.ref D, Value.bool false] }))
            (fun fin s' => match fin with | .done f => R (.ok f) s' | .again c' => c'.quiet = true ∧ codeAny (model prog w) A c' R s') (fun e s' => R (.error e) s') s₂ := by
        intro s₂ items₂ ys₂ e1 e2 e3 hg₂ hl₂ hi₂ hn₂ hm₂ hout
        rw [if_pos (show ((0 : Int) == 0) = true from rfl)]
        refine wpAny_bind (wpAny_pure ?_)
        rw [if_pos (show (Value.str r tr != Value.none) = true from rfl)]
        refine wpAny_bind (push_D hg₂ hD hl₂ (by omega) fun h' hg₃ hl₃ => ?_)
        rw [hmust]
        refine wpAny_pure ⟨plainId_quiet plain_subloop _, ?_⟩
        refine ih (x.cps.size - m.handed) (by omega) m.handed rfl q3 A R _ (n + 1) (ys₂ ++ [r]) _ hg₃ hl₃ (strs_push hi₂) ?_ ?_ ?_
        · rw [Array.size_push]; omega
        · rw [List.map_append, List.flatten_append]; simp at hm₂ ⊢; omega
        · intro h' tk t' hh
          have := hR h' tk t' hh
          rw [hg', ← e1, ← e2, ← e3] at this
          rw [List.map_append, List.flatten_append, hout]
          simpa using this
      by_cases hlt : pos < m.start
      · rw [if_pos hlt]
        refine wpAny_bind (slice_ok hsz fun ts ks => ?_)
        refine wpAny_bind (push_D hg hD hl (by omega) fun h' hg₂ hl₂ => ?_)
        have ext : (x.cps.extract pos m.start).toList = (x.cps.toList.drop pos).take (m.start - pos) := by simp [Array.toList_extract, List.extract_eq_take_drop]
        refine step _ _ (ys ++ [⟨x.cps.extract pos m.start⟩]) rfl rfl rfl hg₂ hl₂ (strs_push hi) ?_ ?_ ?_
        · rw [Array.size_push]; omega
        · rw [List.map_append, List.flatten_append]; simp at hb2 ⊢; omega
        · rw [List.map_append, List.flatten_append]; simp only [List.map_cons, List.map_nil, List.flatten_cons, List.flatten_nil, List.append_nil]; rw [ext]
      · rw [if_neg hlt]
        have e0 : m.start - pos = 0 := by omega
        refine step s items ys rfl rfl rfl hg hl hi (by omega) (by omega) ?_
        rw [e0, List.take_zero, List.append_nil]
end Mine
end
/-! R3c -/
section
open PySem PySem.W PySem.Calls PyProof.Rows
set_option maxRecDepth 100000
namespace Mine
open PySem.Builtin.Re PySem.Sre
theorem slot_sub : Slot "re.Pattern" "sub" "re.Pattern.sub" :=
  .of (owner := "re.Pattern") (n := "sub") (by rw [typeLookup_type, builtinLookup_eq_fast]; kernel_rfl) (by decide +kernel) (by decide +kernel) (by decide +kernel)
    (by first | exact .inl (by decide +kernel) | exact .inr (by decide +kernel)) (by rw [isSubtype_type]; kernel_rfl)
theorem entry_sub : entryFor table "re.Pattern.sub" = some Builtin.«re.Pattern.sub» := entryFor_of_fast (by kernel_rfl)
theorem args_sub (a b c : Value) : argsOk "re.Pattern.sub" ⟨[a, b, c], []⟩ := by unfold argsOk; kernel_rfl
theorem str_nocall : typeLookup (.type "str") "__call__" = pure none := by rw [typeLookup_type, builtinLookup_eq_fast]; kernel_rfl

theorem named3 (a b : Value) : reNamed "re.Pattern.sub" "sub" ["repl", "string", "count"] 2 [a, b] [] = pure [some a, some b, none] := rfl

theorem sub_meets {p : Addr} {code : Array Nat} {x r : Str} {t tr : Tok} {G : Nat → List Nat} {Fd : Nat → M → Prop} (hlit : r.cps.contains 92 = false)
    (hsz : x.cps.size ≤ 1000) (hr : r.cps.size ≤ 10)
    (hsearch : ∀ pos, pos ≤ x.cps.size → Rests (Fd pos) 5000 (forSearch code x.cps 0 pos x.cps.size false))
    (hG : ∀ pos m, pos ≤ x.cps.size → Fd pos m → (m.outcome = some .failed ∧ G pos = x.cps.toList.drop pos) ∨
      (m.outcome = some .matched ∧ pos ≤ m.start ∧ m.start < m.handed ∧ m.handed ≤ x.cps.size ∧ G pos = (x.cps.toList.drop pos).take (m.start - pos) ++ r.cps.toList ++ G m.handed)) :
    Meets (Builtin.«re.Pattern.sub» ⟨[.ref p, .str r tr, .str x t], []⟩) (fun _ R s => PatAt s.heap p code ∧ ∀ h' tk t', s.heap.StaysIn h' → R (.ok (.ret (.str ⟨(G 0).toArray⟩ t'))) { s with heap := h', toks := tk }) := by
  intro prog w A R s ⟨hp, hR⟩
  unfold Builtin.«re.Pattern.sub» reSubstitute
  dsimp only
  refine wpAny_bind (wpAny_of_eq (named3 _ _) ?_)
  dsimp only
  refine wpAny_bind (wpAny_pure ?_)
  refine wpAny_bind ?_
  unfold specialOf
  refine wpAny_bind (wpAny_pure ?_)
  refine wpAny_of_eq str_nocall ?_
  rw [if_neg (show ¬ ((none : Option Value).isSome = true) from Bool.false_ne_true)]
  refine wpAny_bind (wpAny_pure ?_)
  dsimp only
  refine wpAny_bind (wpAny_pure ?_)
  rw [if_neg (show ¬ ((none : Option Value).isSome = true) from Bool.false_ne_true), hlit]
  rw [if_pos (show (!false) = true from rfl)]
  refine wpAny_bind (wpAny_pure ?_)
  dsimp only
  refine wpAny_bind (wpAny_holding (wholeTarget hp ?_))
  show wpAny _ _ (newList [] >>= _) _ _ s
  refine wpAny_bind ?_
  refine wpAny_newObj_type ?_
  refine wpAny_pure ⟨plainId_quiet plain_subloop _, ?_⟩
  have hD : s.heap.get? s.heap.objs.size = none := by
    cases e : s.heap.get? s.heap.objs.size with
    | none => rfl
    | some o => exact absurd (Heap.lt_size e) (Nat.lt_irrefl _)
  refine sub_loop (g := s.heap) hp hD hsz hr hsearch hG _ 0 rfl (Nat.zero_le _) A R _ 0 [] #[] (fun b o e => Heap.get?_push_of_some _ e) ⟨_, Heap.get?_push_size _ rfl, rfl, _, rfl⟩ .nil (Nat.zero_le _) (Nat.zero_le _) ?_
  intro h' tk t' hh
  exact hR h' tk t' hh

theorem sub_call {prog : Program} {w : World} {A : Around} {E : Value → Shared → Prop} {s : Shared} {Q : Value → Shared → Prop} {p : Addr} {code : Array Nat} {x r : Str} {t tr : Tok} {G : Nat → List Nat} {Fd : Nat → M → Prop} (hp : PatAt s.heap p code) (hlit : r.cps.contains 92 = false)
    (hsz : x.cps.size ≤ 1000) (hr : r.cps.size ≤ 10)
    (hsearch : ∀ pos, pos ≤ x.cps.size → Rests (Fd pos) 5000 (forSearch code x.cps 0 pos x.cps.size false))
    (hG : ∀ pos m, pos ≤ x.cps.size → Fd pos m → (m.outcome = some .failed ∧ G pos = x.cps.toList.drop pos) ∨
      (m.outcome = some .matched ∧ pos ≤ m.start ∧ m.start < m.handed ∧ m.handed ≤ x.cps.size ∧ G pos = (x.cps.toList.drop pos).take (m.start - pos) ++ r.cps.toList ++ G m.handed))
    (hQ : ∀ h' tk t', s.heap.StaysIn h' → Q (.str ⟨(G 0).toArray⟩ t') { s with heap := h', toks := tk }) :
    wpAny (model prog w) A (call (.builtin "re.Pattern.sub") [.ref p, .str r tr, .str x t]) Q E s := by
  have hT : s.TypeIs (.ref p) "re.Pattern" := by
    obtain ⟨o, fs, c, oc, items, n, h1, h2, h3, h4, h5⟩ := id hp
    exact ⟨o, h1, h2⟩
  exact call_meets slot_sub hT entry_sub (args_sub _ _ _) (sub_meets hlit hsz hr hsearch hG) ⟨hp, hQ⟩
end Mine
end
/-! R4 -/
section
open PySem PySem.W PySem.Calls PyProof.Rows
set_option maxRecDepth 100000
namespace Mine
open PySem.Sre

/-- every end of a line made a return and a feed (b: the sign before was a return) -/
def normF : Bool → List Nat → List Nat
  | _, [] => []
  | b, c :: r => if c = 13 then 13 :: 10 :: normF true r else if c = 10 then (if b = true then normF false r else 13 :: 10 :: normF false r) else c :: normF false r
def norm (l : List Nat) : List Nat := normF false l
/-- a dot that opens a line made two -/
def dots : Bool → List Nat → List Nat
  | _, [] => []
  | b, c :: r => if b = true ∧ c = 46 then 46 :: 46 :: dots false r else c :: dots (c == 10) r
def quote (l : List Nat) : List Nat := dots true (norm l)

theorem normF_nil (b : Bool) : normF b [] = [] := by cases b <;> rfl
theorem dots_nil (b : Bool) : dots b [] = [] := by cases b <;> rfl
theorem norm_nil : norm [] = [] := rfl
theorem normF_true (r : List Nat) (h : r.head? ≠ some 10) : normF true r = normF false r := by
  cases r with
  | nil => rfl
  | cons d q =>
    have : d ≠ 10 := fun e => h (by simp [e])
    simp [normF, this]
theorem norm_13_10 (q : List Nat) : norm (13 :: 10 :: q) = 13 :: 10 :: norm q := by simp [norm, normF]
theorem norm_13 (r : List Nat) (h : r.head? ≠ some 10) : norm (13 :: r) = 13 :: 10 :: norm r := by
  unfold norm; rw [normF, if_pos rfl, normF_true r h]
theorem norm_10 (r : List Nat) : norm (10 :: r) = 13 :: 10 :: norm r := by simp [norm, normF]
theorem norm_other (c : Nat) (r : List Nat) (h : isEnd c = false) : norm (c :: r) = c :: norm r := by
  have h1 : c ≠ 10 ∧ c ≠ 13 := by simpa [isEnd] using h
  simp [norm, normF, h1.1, h1.2]
theorem norm_pre (b : List Nat) : ∀ a : List Nat, (∀ c ∈ a, isEnd c = false) → norm (a ++ b) = a ++ norm b
  | [], _ => rfl
  | c :: a, h => by
    rw [List.cons_append, norm_other c _ (h c (.head _)), norm_pre b a fun x hx => h x (.tail _ hx), List.cons_append]

theorem drop_at {l : List Nat} {j : Nat} (h : j < l.length) : l.drop j = l.getD j 0 :: l.drop (j + 1) := by
  rw [List.drop_eq_getElem_cons h, List.getD_eq_getElem?_getD, List.getElem?_eq_getElem h]; rfl
theorem getD_list (text : Array Nat) (j : Nat) : text.getD j 0 = text.toList.getD j 0 := by
  simp [Array.getD_eq_getD_getElem?, List.getD_eq_getElem?_getD]
theorem mem_part {l : List Nat} {a b : Nat} {P : Nat → Prop} (hb : b ≤ l.length) (h : ∀ j, a ≤ j → j < b → P (l.getD j 0)) : ∀ c ∈ (l.drop a).take (b - a), P c := by
  intro c hc
  obtain ⟨i, hi, rfl⟩ := List.mem_iff_getElem.mp hc
  simp only [List.length_take, List.length_drop] at hi
  rw [List.getElem_take, List.getElem_drop]
  have := h (a + i) (by omega) (by omega)
  rwa [List.getD_eq_getElem?_getD, List.getElem?_eq_getElem (by omega)] at this

theorem G2 {x : Str} {pos : Nat} {m : M} (hm : Found2 x.cps pos m) :
    (m.outcome = some .failed ∧ norm (x.cps.toList.drop pos) = x.cps.toList.drop pos) ∨
      (m.outcome = some .matched ∧ pos ≤ m.start ∧ m.start < m.handed ∧ m.handed ≤ x.cps.size ∧ norm (x.cps.toList.drop pos) = (x.cps.toList.drop pos).take (m.start - pos) ++ [13, 10] ++ norm (x.cps.toList.drop m.handed)) := by
  have hlen : x.cps.toList.length = x.cps.size := Array.length_toList
  rcases hm with ⟨o, h⟩ | ⟨o, h1, h2, h3, h4⟩
  · left
    refine ⟨o, ?_⟩
    have := mem_part (l := x.cps.toList) (a := pos) (b := x.cps.size) (P := fun c => isEnd c = false) (by omega) fun j g1 g2 => by rw [← getD_list]; exact h j g1 g2
    rw [List.take_of_length_le (by simp)] at this
    have e := norm_pre [] _ this
    rw [List.append_nil, norm_nil, List.append_nil] at e
    exact e
  · right
    have hpre := mem_part (l := x.cps.toList) (a := pos) (b := m.start) (P := fun c => isEnd c = false) (by omega) fun j g1 g2 => by rw [← getD_list]; exact h3 j g1 g2
    have split : x.cps.toList.drop pos = (x.cps.toList.drop pos).take (m.start - pos) ++ x.cps.toList.drop m.start := by
      have := (List.take_append_drop (m.start - pos) (x.cps.toList.drop pos)).symm
      rwa [List.drop_drop, show pos + (m.start - pos) = m.start by omega] at this
    have e1 : norm (x.cps.toList.drop pos) = (x.cps.toList.drop pos).take (m.start - pos) ++ norm (x.cps.toList.drop m.start) := by
      conv => lhs; rw [split]
      exact norm_pre _ _ hpre
    have d1 := drop_at (l := x.cps.toList) (j := m.start) (by omega)
    rw [← getD_list] at d1
    rcases h4 with ⟨c1, c2, c3, c4⟩ | ⟨c1, c2, c3⟩ | ⟨c1, c2⟩
    · refine ⟨o, h1, by omega, by omega, ?_⟩
      have d2 := drop_at (l := x.cps.toList) (j := m.start + 1) (by omega)
      rw [← getD_list] at d2
      rw [e1, d1, c1, d2, c3, norm_13_10, c4]
      simp
    · refine ⟨o, h1, by omega, by omega, ?_⟩
      rw [e1, d1, c1, norm_13, c3]
      · simp
      · intro q
        apply c2
        by_cases hs : m.start + 1 < x.cps.size
        · have d2 := drop_at (l := x.cps.toList) (j := m.start + 1) (by omega)
          rw [← getD_list] at d2
          rw [d2] at q
          exact ⟨hs, by simpa using q⟩
        · rw [List.drop_eq_nil_of_le (by omega)] at q; cases q
    · refine ⟨o, h1, by omega, by omega, ?_⟩
      rw [e1, d1, c1, norm_10, c2]
      simp

def bol (l : List Nat) (pos : Nat) : Bool := decide (pos = 0) || l.getD (pos - 1) 0 == 10

theorem dots_step {l : List Nat} {pos : Nat} (h : pos < l.length) (hn : ¬ (bol l pos = true ∧ l.getD pos 0 = 46)) : dots (bol l pos) (l.drop pos) = l.getD pos 0 :: dots (bol l (pos + 1)) (l.drop (pos + 1)) := by
  rw [drop_at h, dots, if_neg hn]
  rfl
theorem dots_run {l : List Nat} {pos : Nat} : ∀ (k : Nat), pos + k ≤ l.length → (∀ j, pos ≤ j → j < pos + k → ¬ (bol l j = true ∧ l.getD j 0 = 46)) →
    dots (bol l pos) (l.drop pos) = (l.drop pos).take k ++ dots (bol l (pos + k)) (l.drop (pos + k))
  | 0, _, _ => by simp
  | k + 1, h, hn => by
    have e := dots_run k (by omega) fun j g1 g2 => hn j g1 (by omega)
    rw [e, dots_step (by omega) (hn (pos + k) (by omega) (by omega))]
    have d := drop_at (l := l) (j := pos + k) (by omega)
    have t : (l.drop pos).take (k + 1) = (l.drop pos).take k ++ [l.getD (pos + k) 0] := by
      rw [List.take_add_one, List.getElem?_drop, List.getElem?_eq_getElem (by omega)]
      congr 1
      rw [List.getD_eq_getElem?_getD, List.getElem?_eq_getElem (by omega)]; rfl
    rw [t, List.append_assoc]; rfl

theorem bolDot_iff (text : Array Nat) (j : Nat) : bolDot text j ↔ (bol text.toList j = true ∧ text.toList.getD j 0 = 46) := by
  unfold bolDot bol
  rw [getD_list, getD_list]
  simp

theorem G1 {x : Str} {pos : Nat} {m : M} (hpos : pos ≤ x.cps.size) (hm : Found1 x.cps pos m) :
    (m.outcome = some .failed ∧ dots (bol x.cps.toList pos) (x.cps.toList.drop pos) = x.cps.toList.drop pos) ∨
      (m.outcome = some .matched ∧ pos ≤ m.start ∧ m.start < m.handed ∧ m.handed ≤ x.cps.size ∧ dots (bol x.cps.toList pos) (x.cps.toList.drop pos) = (x.cps.toList.drop pos).take (m.start - pos) ++ [46, 46] ++ dots (bol x.cps.toList m.handed) (x.cps.toList.drop m.handed)) := by
  have hlen : x.cps.toList.length = x.cps.size := Array.length_toList
  rcases hm with ⟨o, h⟩ | ⟨o, h1, h2, h3, h4, h5⟩
  · left
    refine ⟨o, ?_⟩
    have e := dots_run (l := x.cps.toList) (pos := pos) (x.cps.size - pos) (by omega) fun j g1 g2 q => h j g1 (by omega) ((bolDot_iff _ _).mpr q)
    rw [e, List.take_of_length_le (by simp), show pos + (x.cps.size - pos) = x.cps.size by omega, List.drop_eq_nil_of_le (Nat.le_of_eq hlen), dots_nil, List.append_nil]
  · right
    refine ⟨o, h1, by omega, by omega, ?_⟩
    have e := dots_run (l := x.cps.toList) (pos := pos) (m.start - pos) (by omega) fun j g1 g2 q => h3 j g1 (by omega) ((bolDot_iff _ _).mpr q)
    rw [show pos + (m.start - pos) = m.start by omega] at e
    have hb := (bolDot_iff _ _).mp h4
    have d1 := drop_at (l := x.cps.toList) (j := m.start) (by omega)
    have e2 : dots (bol x.cps.toList m.start) (x.cps.toList.drop m.start) = [46, 46] ++ dots (bol x.cps.toList m.handed) (x.cps.toList.drop m.handed) := by
      have hf : bol x.cps.toList m.handed = false := by
        rw [h5]; unfold bol; rw [Nat.add_sub_cancel, hb.2]; simp
      rw [hf, d1, dots, if_pos hb, h5]; rfl
    rw [e, e2, List.append_assoc]

theorem dots_len : ∀ (l : List Nat) (b : Bool), (dots b l).length ≤ 2 * l.length
  | [], _ => by simp [dots_nil]
  | c :: r, b => by
    rw [dots]
    split
    · have := dots_len r false; simp; omega
    · have := dots_len r (c == 10); simp; omega
theorem normF_len : ∀ (l : List Nat) (b : Bool), (normF b l).length ≤ 2 * l.length
  | [], _ => by simp [normF_nil]
  | c :: r, b => by
    have h1 := normF_len r true
    have h2 := normF_len r false
    rw [normF]
    (repeat' split) <;> simp <;> omega
end Mine
end
/-! Q1 -/
section
open PySem PySem.W PySem.Calls PyProof.Rows
set_option maxRecDepth 100000
namespace Mine
theorem pattern_attrs : PlainAttrs "re.Pattern" :=
  ⟨⟨"object.__getattribute__", by rw [typeLookup_type, builtinLookup_eq_fast]; kernel_rfl, by decide +kernel⟩, by rw [typeLookup_type, builtinLookup_eq_fast]; kernel_rfl⟩
theorem type_sub : typeOf (.builtin "re.Pattern.sub") = pure (.type "method_descriptor") := by show builtinType _ = _; rw [builtinType_eq_fast]; kernel_rfl
theorem pat1 {w : World} {h : Heap} (X : (hd.heap_39 w.params).In h) : PatAt h 72 code1 ∧ ∃ o, h.get? 72 = some o ∧ o.dict = none := by
  refine ⟨⟨_, _, 71, _, _, _, X 72 _ rfl, rfl, rfl, X 71 _ rfl, rfl, rfl, rfl, rfl, by decide +kernel⟩, _, X 72 _ rfl, rfl⟩
theorem pat2 {w : World} {h : Heap} (X : (hd.heap_39 w.params).In h) : PatAt h 77 code2 ∧ ∃ o, h.get? 77 = some o ∧ o.dict = none := by
  refine ⟨⟨_, _, 76, _, _, _, X 77 _ rfl, rfl, rfl, X 76 _ rfl, rfl, rfl, rfl, rfl, by decide +kernel⟩, _, X 77 _ rfl, rfl⟩
theorem getSub {M : Model} {A : Around} {E : Value → Shared → Prop} {s : Shared} {pl : Sem Bool} {Q : Value × List Value → Shared → Prop} {p : Addr} {code : Array Nat} (hp : PatAt s.heap p code ∧ ∃ o, s.heap.get? p = some o ∧ o.dict = none) (h : Q (.builtin "re.Pattern.sub", [.ref p]) s) :
    wpAny M A (getMethod (.ref p) "sub" pl) Q E s := by
  have hT : s.TypeIs (.ref p) "re.Pattern" := by
    obtain ⟨o, fs, c, oc, items, n, h1, h2, h3, h4, h5⟩ := id hp.1
    exact ⟨o, h1, h2⟩
  exact getMethod_builtin hT pattern_attrs slot_sub type_sub (fun a e => by cases e; exact hp.2) h

theorem sub2_call {prog : Program} {w : World} {A : Around} {E : Value → Shared → Prop} {s : Shared} {Q : Value → Shared → Prop} {p : Addr} {x : Str} {t tr : Tok} (hp : PatAt s.heap p code2)
    (hsz : x.cps.size ≤ 1000) (hQ : ∀ h' tk t', s.heap.StaysIn h' → Q (.str ⟨(norm x.cps.toList).toArray⟩ t') { s with heap := h', toks := tk }) :
    wpAny (model prog w) A (call (.builtin "re.Pattern.sub") [.ref p, .str (Str.ofString "\x0d\n") tr, .str x t]) Q E s := by
  refine sub_call (G := fun pos => norm (x.cps.toList.drop pos)) (Fd := Found2 x.cps) hp (by decide +kernel) hsz (by decide +kernel) (fun pos hpos => (search2 hpos).mono _ (by omega)) (fun pos m hpos hm => ?_) hQ
  rw [show (Str.ofString "\x0d\n").cps.toList = [13, 10] by decide +kernel]
  exact G2 hm
theorem sub1_call {prog : Program} {w : World} {A : Around} {E : Value → Shared → Prop} {s : Shared} {Q : Value → Shared → Prop} {p : Addr} {x : Str} {t tr : Tok} (hp : PatAt s.heap p code1)
    (hsz : x.cps.size ≤ 1000) (hQ : ∀ h' tk t', s.heap.StaysIn h' → Q (.str ⟨(dots true x.cps.toList).toArray⟩ t') { s with heap := h', toks := tk }) :
    wpAny (model prog w) A (call (.builtin "re.Pattern.sub") [.ref p, .str (Str.ofString "..") tr, .str x t]) Q E s := by
  refine sub_call (G := fun pos => dots (bol x.cps.toList pos) (x.cps.toList.drop pos)) (Fd := Found1 x.cps) hp (by decide +kernel) hsz (by decide +kernel) (fun pos hpos => (search1 hpos).mono _ (by omega)) (fun pos m hpos hm => ?_) hQ
  rw [show (Str.ofString "..").cps.toList = [46, 46] by decide +kernel]
  exact G1 hpos hm

local macro_rules | `(tactic| walk_at "getMethod ref") => `(tactic| (k_here; (with_reducible show wpAny _ _ (getMethod (Value.ref 72) _ _) _ _ _); refine getSub (pat1 (by k_in)) ?_))
local macro_rules | `(tactic| walk_at "getMethod ref") => `(tactic| (k_here; (with_reducible show wpAny _ _ (getMethod (Value.ref 77) _ _) _ _ _); refine getSub (pat2 (by k_in)) ?_))
set_option maxHeartbeats 4000000 in
theorem quote_call {w : World} {A : Around} {E : Value → Shared → Prop} {Q : Value → Shared → Prop} {s : Shared} {mg mb : Str → Option Value} {x : Str} {t : Tok}
    (X : (hd.heap_39 w.params).In s.heap) (T : TR mg mb s.heap) (hroom : A.depth < recursionLimit) (hx : x.cps.size ≤ 100)
    (h : ∀ h' tk t', s.heap.StaysIn h' → Q (.str ⟨(quote x.cps.toList).toArray⟩ t') { s with heap := h', toks := tk }) :
    wpAny (model pg w) A (call (.ref 84) [.str x t]) Q E s := by
  w_on
  refine fillMe ?_
  k_fill
  intro _ _
  refine enterS (f := 84) X T (by k_is) (by k_is) hroom (by intro S; rfl) (locs rfl) ?_ rfl rfl rfl (by decide)
  intro h₁ F N
  try dsimp only
  try k_fold
  repeat' (first | (k_unfold; (try dsimp only)) | walk1 | (dsimp only; walk1) | fail "no step")
  refine sub2_call (pat2 (by k_in)).1 (by omega) ?_
  intro h2 tk2 t2 st2
  have F2 := Fr.stays F st2
  clear F N
  have N : News s.heap s.heap.objs.size h2 [] := News.nil
  repeat' (first | (k_unfold; (try dsimp only)) | walk1 | (dsimp only; walk1) | fail "no step")
  refine sub1_call (pat1 (by k_in)).1 ?_ ?_
  · have q := normF_len x.cps.toList false
    have q2 : x.cps.toList.length = x.cps.size := Array.length_toList
    show (List.toArray (normF false x.cps.toList)).size ≤ 1000
    rw [List.size_toArray]
    omega
  · intro h3 tk3 t3 st3
    exact h h3 tk3 t3 (fun b o e => st3 b o (F2.keep b o e))
end Mine
end
/-! B1 -/
section
open PySem PySem.W PySem.Calls PyProof.Rows
set_option maxRecDepth 100000
namespace Mine
/-- what a search between two bounds comes to, where c places lie below -/
def Wn (lo hi : Int) (c : Nat) : Int := if hi < lo then lo else min (max lo c) hi
theorem Wn_up {lo hi mid : Int} {c : Nat} (h1 : lo ≤ mid) (h2 : mid < hi) (h3 : mid < c) : Wn (mid + 1) hi c = Wn lo hi c := by
  unfold Wn; rw [if_neg (by omega), if_neg (by omega)]; omega
theorem Wn_down {lo hi mid : Int} {c : Nat} (h1 : lo ≤ mid) (h2 : mid < hi) (h3 : ¬ mid < c) : Wn lo mid c = Wn lo hi c := by
  unfold Wn; rw [if_neg (by omega), if_neg (by omega)]; omega
theorem Wn_end {lo hi : Int} {c : Nat} (h : hi ≤ lo) : Wn lo hi c = lo := by
  unfold Wn; split <;> omega
theorem mid_facts {lo hi : Int} (h : lo < hi) : lo ≤ (lo + hi).fdiv 2 ∧ (lo + hi).fdiv 2 < hi := by
  rw [Int.fdiv_eq_ediv_of_nonneg _ (by decide)]; omega

def BJ (a : Addr) (vx key : Value) (c : Nat) (r : Int) (size : Nat) (n : Nat) (m : Str → Option Value) (news : List (Addr × Obj)) : Prop :=
  news = [] ∧ m (Str.ofString "a") = some (.ref a) ∧ m (Str.ofString "x") = some vx ∧ m (Str.ofString "key") = some key ∧
  ∃ lo hi tl th, m (Str.ofString "lo") = some (.int lo tl) ∧ m (Str.ofString "hi") = some (.int hi th) ∧ 0 ≤ lo ∧ hi ≤ size ∧ Wn lo hi c = r ∧ n = (hi - lo).toNat

theorem item_list {prog : Program} {w : World} {A : Around} {E : Value → Shared → Prop} {s : Shared} {value slice : PySem.Expr} {l : Addr} {vs : List Value} {k : Int} {u : Tok} {v : Value} {Q : Value → Shared → Prop}
    (hl : s.heap.IsList l vs.toArray) (h0 : 0 ≤ k) (hhi : k < 2 ^ 63) (hx : vs[k.toNat]? = some v) (h : Q v s)
    (hs : subscripted slice false (.ref l) (.int k u) = operate [.ref l, .int k u] (getItem (.ref l) (.int k u)) := by with_unfolding_all rfl) :
    wpAny (model prog w) A (subscriptTail value slice (.ref l) (.int k u)) Q E s :=
  tail_any hl.typeIs slot_list_getitem.lookup (wpAny_getItem_list hl h0 hhi (by simpa using hx) h) hs
theorem len_at {prog : Program} {w : World} {A : Around} {E : Value → Shared → Prop} {s : Shared} {l : Addr} {vs : List Value} {Q : Value → Shared → Prop} (hl : s.heap.IsList l vs.toArray) (hz : vs.length ≤ 1000000)
    (h : ∀ t k, Q (.int vs.length t) { s with toks := k }) : wpAny (model prog w) A (call (.builtin "len") [.ref l]) Q E s :=
  Calls.call_len_list hl (by rw [List.size_toArray]; omega) (by rw [List.size_toArray]; exact h _ _)
theorem list_stays {h h' : Heap} {l : Addr} {items : Array Value} (x : h.IsList l items) (k : h.StaysIn h') : h'.IsList l items := let ⟨o, ho, r⟩ := x; ⟨o, k l o ho, r⟩
theorem strs_at {vs : List Value} {ts : List Str} (h : StrsAre vs ts) {i : Nat} (hi : i < vs.length) : ∃ y t, vs[i]? = some (.str y t) ∧ ts[i]? = some y := by
  induction h generalizing i with
  | nil => exact absurd hi (Nat.not_lt_zero _)
  | cons y t r ih => cases i with
    | zero => exact ⟨y, t, rfl, rfl⟩
    | succ i => simpa using ih (by simpa using hi)

local macro_rules | `(tactic| walk_at "mine idle") => `(tactic| skip)
local macro_rules | `(tactic| walk_at "eval Name") => `(tactic| (k_here; k_dflt (refine' ld ?k1 ?k2 ?_; (case k1 => k_asm); (case k2 => assumption); k_whole)))
local macro_rules | `(tactic| walk_at "mine steps") => `(tactic| repeat' ((fail_if_success (with_reducible show wpAny _ _ (exec (Stmt.While _ _ _ _) _) _ _ _)); (fail_if_success (with_reducible show wpAny _ _ (call (Value.ref _) _ _) _ _ _)); (fail_if_success (with_reducible show wpAny _ _ (getMethod (Value.ref _) _ _) _ _ _)); (fail_if_success (with_reducible show wpAny _ _ (pyIter (Value.ref _)) _ _ _)); first | (k_unfold; (try dsimp only)) | walk1 | (dsimp only; walk1)))
set_option maxHeartbeats 4000000 in
theorem bl_key {w : World} {A : Around} {E : Value → Shared → Prop} {Q : Value → Shared → Prop} {s : Shared} {mg mb : Str → Option Value} {a : Addr} {vs : List Value} {ts : List Str} {x : Str} {tx : Tok} {tl th : Tok} {lo hi : Int} {c : Nat}
    (X : (hd.heap_39 w.params).In s.heap) (T : TR mg mb s.heap) (hroom : A.depth + 3 < recursionLimit) (hlo : 0 ≤ lo) (hhi : hi ≤ vs.length) (hsz : vs.length ≤ 1000) (ha : s.heap.IsList a vs.toArray)
    (hts : StrsAre vs ts) (h100 : ∀ y ∈ ts, y.cps.size ≤ 100)
    (hc : ∀ i y, ts[i]? = some y → (quote y.cps.toList < x.cps.toList ↔ i < c))
    (hQ : ∀ h' tk t', s.heap.StaysIn h' → Q (.int (Wn lo hi c) t') { s with heap := h', toks := tk }) :
    wpAny (model pg w) A (call (.ref 67) [.ref a, .str x tx, .int lo tl, .int hi th] [(Str.ofString "key", .ref 84)]) Q E s := by
  w_on
  refine fillMe ?_
  k_fill
  intro _ _
  refine enterS (f := 67) X T (by k_is) (by k_is) (by omega) (by intro S; rfl) (locs rfl) ?_ rfl rfl rfl (by decide)
  intro h₁ F N
  try dsimp only
  try k_fold
  walk_at "mine steps"
  refine While_inv (BJ a (.str x tx) (.ref 84) c (Wn lo hi c) vs.length) (n₀ := (hi - lo).toNat) (by k_asm) (by k_asm) ⟨rfl, rfl, rfl, rfl, lo, hi, _, _, rfl, rfl, by omega, by omega, rfl, rfl⟩ ?_
  clear F N
  rintro n m₁ news₁ h₂ tk₂ F₂ N₂ ⟨rfl, ea, ex, ey, lo₂, hi₂, tl₂, th₂, el, eh, hlo₂, hhi₂, hW, rfl⟩
  dsimp only
  walk_at "mine steps"
  · rename_i _ _ hlt h₃ F₃ N₃
    obtain ⟨g1, g2⟩ := mid_facts hlt
    obtain ⟨y, ty, e1, e2⟩ := strs_at hts (i := ((lo₂ + hi₂).fdiv 2).toNat) (by omega)
    refine item_list (list_stays ha F₃.keep) (by omega) (by omega) e1 ?_
    walk_at "mine steps"
    refine quote_call (by k_in) (TR.stays T F₃.keep) (by show A.depth + 1 < _; omega) (h100 y (List.mem_of_getElem? e2)) ?_
    intro h₄ tk₄ t₄ st₄
    have F₄ := Fr.stays F₃ st₄
    have N₄ := News.stays N₃ st₄
    clear F₃ N₃
    walk_at "mine steps"
    · rename_i hcmp h₅ F₅ N₅
      have hm : ((lo₂ + hi₂).fdiv 2).toNat < c := (hc _ _ e2).mp hcmp
      exact WhileStep.intro (n' := (hi₂ - ((lo₂ + hi₂).fdiv 2 + 1)).toNat) F₅ N₅ (by omega) ⟨rfl, ea, ex, ey, (lo₂ + hi₂).fdiv 2 + 1, hi₂, _, th₂, rfl, eh, by omega, hhi₂, (Wn_up g1 g2 (by omega)).trans hW, rfl⟩
    · rename_i hcmp h₅ F₅ N₅
      have hm : ¬ ((lo₂ + hi₂).fdiv 2).toNat < c := fun q => hcmp ((hc _ _ e2).mpr q)
      exact WhileStep.intro (n' := ((lo₂ + hi₂).fdiv 2 - lo₂).toNat) F₅ N₅ (by omega) ⟨rfl, ea, ex, ey, lo₂, (lo₂ + hi₂).fdiv 2, tl₂, _, el, rfl, hlo₂, by omega, (Wn_down g1 g2 (by omega)).trans hW, rfl⟩
  · rename_i hge
    have e := Wn_end (c := c) (show hi₂ ≤ lo₂ by omega)
    rw [hW] at e
    have q := hQ h₂ tk₂ tl₂ F₂.keep
    rw [e] at q
    exact q

set_option maxHeartbeats 4000000 in
theorem bl_keyN {w : World} {A : Around} {E : Value → Shared → Prop} {Q : Value → Shared → Prop} {s : Shared} {mg mb : Str → Option Value} {a : Addr} {vs : List Value} {ts : List Str} {x : Str} {tx : Tok} {tl : Tok} {c : Nat}
    (X : (hd.heap_39 w.params).In s.heap) (T : TR mg mb s.heap) (hroom : A.depth + 3 < recursionLimit) (hsz : vs.length ≤ 1000) (ha : s.heap.IsList a vs.toArray)
    (hts : StrsAre vs ts) (h100 : ∀ y ∈ ts, y.cps.size ≤ 100)
    (hc : ∀ i y, ts[i]? = some y → (quote y.cps.toList < x.cps.toList ↔ i < c))
    (hQ : ∀ h' tk t', s.heap.StaysIn h' → Q (.int (Wn 0 (vs.length : Int) c) t') { s with heap := h', toks := tk }) :
    wpAny (model pg w) A (call (.ref 67) [.ref a, .str x tx, .int 0 tl, .none] [(Str.ofString "key", .ref 84)]) Q E s := by
  w_on
  refine fillMe ?_
  k_fill
  intro _ _
  have ha1 := ha
  refine enterS (f := 67) X T (by k_is) (by k_is) (by omega) (by intro S; rfl) (locs rfl) ?_ rfl rfl rfl (by decide)
  intro h₁ F N
  try dsimp only
  try k_fold
  walk_at "mine steps"
  refine len_at (list_stays ha F.keep) (by omega) ?_
  intro tn kn
  walk_at "mine steps"
  refine While_inv (BJ a (.str x tx) (.ref 84) c (Wn 0 (vs.length : Int) c) vs.length) (n₀ := ((vs.length : Int) - 0).toNat) (by k_asm) (by k_asm) ⟨rfl, rfl, rfl, rfl, 0, (vs.length : Int), _, _, rfl, rfl, by omega, by omega, rfl, rfl⟩ ?_
  rintro n m₁ news₁ h₂ tk₂ F₂ N₂ ⟨rfl, ea, ex, ey, lo₂, hi₂, tl₂, th₂, el, eh, hlo₂, hhi₂, hW, rfl⟩
  dsimp only
  walk_at "mine steps"
  · rename_i _ _ hlt h₃ F₃ N₃
    obtain ⟨g1, g2⟩ := mid_facts hlt
    obtain ⟨y, ty, e1, e2⟩ := strs_at hts (i := ((lo₂ + hi₂).fdiv 2).toNat) (by omega)
    refine item_list (list_stays ha F₃.keep) (by omega) (by omega) e1 ?_
    walk_at "mine steps"
    refine quote_call (by k_in) (TR.stays T F₃.keep) (by show A.depth + 1 < _; omega) (h100 y (List.mem_of_getElem? e2)) ?_
    intro h₄ tk₄ t₄ st₄
    have F₄ := Fr.stays F₃ st₄
    have N₄ := News.stays N₃ st₄
    clear F₃ N₃
    walk_at "mine steps"
    · rename_i hcmp h₅ F₅ N₅
      have hm : ((lo₂ + hi₂).fdiv 2).toNat < c := (hc _ _ e2).mp hcmp
      exact WhileStep.intro (n' := (hi₂ - ((lo₂ + hi₂).fdiv 2 + 1)).toNat) F₅ N₅ (by omega) ⟨rfl, ea, ex, ey, (lo₂ + hi₂).fdiv 2 + 1, hi₂, _, th₂, rfl, eh, by omega, hhi₂, (Wn_up g1 g2 (by omega)).trans hW, rfl⟩
    · rename_i hcmp h₅ F₅ N₅
      have hm : ¬ ((lo₂ + hi₂).fdiv 2).toNat < c := fun q => hcmp ((hc _ _ e2).mpr q)
      exact WhileStep.intro (n' := ((lo₂ + hi₂).fdiv 2 - lo₂).toNat) F₅ N₅ (by omega) ⟨rfl, ea, ex, ey, lo₂, (lo₂ + hi₂).fdiv 2, tl₂, _, el, rfl, hlo₂, by omega, (Wn_down g1 g2 (by omega)).trans hW, rfl⟩
  · rename_i hge
    have e := Wn_end (c := c) (show hi₂ ≤ lo₂ by omega)
    rw [hW] at e
    have q := hQ h₂ tk₂ tl₂ F₂.keep
    rw [e] at q
    exact q

set_option maxHeartbeats 4000000 in
theorem bl_no {w : World} {A : Around} {E : Value → Shared → Prop} {Q : Value → Shared → Prop} {s : Shared} {mg mb : Str → Option Value} {a : Addr} {vs : List Value} {ts : List Str} {x : Str} {tx : Tok} {c : Nat}
    (X : (hd.heap_39 w.params).In s.heap) (T : TR mg mb s.heap) (hroom : A.depth + 3 < recursionLimit) (hsz : vs.length ≤ 1000) (ha : s.heap.IsList a vs.toArray)
    (hts : StrsAre vs ts)
    (hc : ∀ i y, ts[i]? = some y → (y.cps.toList < x.cps.toList ↔ i < c))
    (hQ : ∀ h' tk t', s.heap.StaysIn h' → Q (.int (Wn 0 (vs.length : Int) c) t') { s with heap := h', toks := tk }) :
    wpAny (model pg w) A (call (.ref 67) [.ref a, .str x tx]) Q E s := by
  w_on
  refine fillMe ?_
  k_fill
  intro _ _
  have ha1 := ha
  refine enterS (f := 67) X T (by k_is) (by k_is) (by omega) (by intro S; rfl) (locs rfl) ?_ rfl rfl rfl (by decide)
  intro h₁ F N
  try dsimp only
  try k_fold
  walk_at "mine steps"
  refine len_at (list_stays ha F.keep) (by omega) ?_
  intro tn kn
  walk_at "mine steps"
  refine While_inv (BJ a (.str x tx) .none c (Wn 0 (vs.length : Int) c) vs.length) (n₀ := ((vs.length : Int) - 0).toNat) (by k_asm) (by k_asm) ⟨rfl, rfl, rfl, rfl, 0, (vs.length : Int), _, _, rfl, rfl, by omega, by omega, rfl, rfl⟩ ?_
  rintro n m₁ news₁ h₂ tk₂ F₂ N₂ ⟨rfl, ea, ex, ey, lo₂, hi₂, tl₂, th₂, el, eh, hlo₂, hhi₂, hW, rfl⟩
  dsimp only
  walk_at "mine steps"
  · rename_i _ _ hlt h₃ F₃ N₃
    obtain ⟨g1, g2⟩ := mid_facts hlt
    obtain ⟨y, ty, e1, e2⟩ := strs_at hts (i := ((lo₂ + hi₂).fdiv 2).toNat) (by omega)
    refine item_list (list_stays ha F₃.keep) (by omega) (by omega) e1 ?_
    walk_at "mine steps"
    · rename_i hcmp h₅ F₅ N₅
      have hm : ((lo₂ + hi₂).fdiv 2).toNat < c := (hc _ _ e2).mp hcmp
      exact WhileStep.intro (n' := (hi₂ - ((lo₂ + hi₂).fdiv 2 + 1)).toNat) F₅ N₅ (by omega) ⟨rfl, ea, ex, ey, (lo₂ + hi₂).fdiv 2 + 1, hi₂, _, th₂, rfl, eh, by omega, hhi₂, (Wn_up g1 g2 (by omega)).trans hW, rfl⟩
    · rename_i hcmp h₅ F₅ N₅
      have hm : ¬ ((lo₂ + hi₂).fdiv 2).toNat < c := fun q => hcmp ((hc _ _ e2).mpr q)
      exact WhileStep.intro (n' := ((lo₂ + hi₂).fdiv 2 - lo₂).toNat) F₅ N₅ (by omega) ⟨rfl, ea, ex, ey, lo₂, (lo₂ + hi₂).fdiv 2, tl₂, _, el, rfl, hlo₂, by omega, (Wn_down g1 g2 (by omega)).trans hW, rfl⟩
  · rename_i hge
    have e := Wn_end (c := c) (show hi₂ ≤ lo₂ by omega)
    rw [hW] at e
    have q := hQ h₂ tk₂ tl₂ F₂.keep
    rw [e] at q
    exact q

set_option maxHeartbeats 4000000 in
theorem br_key {w : World} {A : Around} {E : Value → Shared → Prop} {Q : Value → Shared → Prop} {s : Shared} {mg mb : Str → Option Value} {a : Addr} {vs : List Value} {ts : List Str} {x : Str} {tx : Tok} {tl th : Tok} {lo hi : Int} {c : Nat}
    (X : (hd.heap_39 w.params).In s.heap) (T : TR mg mb s.heap) (hroom : A.depth + 3 < recursionLimit) (hlo : 0 ≤ lo) (hhi : hi ≤ vs.length) (hsz : vs.length ≤ 1000) (ha : s.heap.IsList a vs.toArray)
    (hts : StrsAre vs ts) (h100 : ∀ y ∈ ts, y.cps.size ≤ 100)
    (hc : ∀ i y, ts[i]? = some y → (x.cps.toList < quote y.cps.toList ↔ ¬ i < c))
    (hQ : ∀ h' tk t', s.heap.StaysIn h' → Q (.int (Wn lo hi c) t') { s with heap := h', toks := tk }) :
    wpAny (model pg w) A (call (.ref 49) [.ref a, .str x tx, .int lo tl, .int hi th] [(Str.ofString "key", .ref 84)]) Q E s := by
  w_on
  refine fillMe ?_
  k_fill
  intro _ _
  refine enterS (f := 49) X T (by k_is) (by k_is) (by omega) (by intro S; rfl) (locs rfl) ?_ rfl rfl rfl (by decide)
  intro h₁ F N
  try dsimp only
  try k_fold
  walk_at "mine steps"
  refine While_inv (BJ a (.str x tx) (.ref 84) c (Wn lo hi c) vs.length) (n₀ := (hi - lo).toNat) (by k_asm) (by k_asm) ⟨rfl, rfl, rfl, rfl, lo, hi, _, _, rfl, rfl, by omega, by omega, rfl, rfl⟩ ?_
  clear F N
  rintro n m₁ news₁ h₂ tk₂ F₂ N₂ ⟨rfl, ea, ex, ey, lo₂, hi₂, tl₂, th₂, el, eh, hlo₂, hhi₂, hW, rfl⟩
  dsimp only
  walk_at "mine steps"
  · rename_i _ _ hlt h₃ F₃ N₃
    obtain ⟨g1, g2⟩ := mid_facts hlt
    obtain ⟨y, ty, e1, e2⟩ := strs_at hts (i := ((lo₂ + hi₂).fdiv 2).toNat) (by omega)
    refine item_list (list_stays ha F₃.keep) (by omega) (by omega) e1 ?_
    walk_at "mine steps"
    refine quote_call (by k_in) (TR.stays T F₃.keep) (by show A.depth + 1 < _; omega) (h100 y (List.mem_of_getElem? e2)) ?_
    intro h₄ tk₄ t₄ st₄
    have F₄ := Fr.stays F₃ st₄
    have N₄ := News.stays N₃ st₄
    clear F₃ N₃
    walk_at "mine steps"
    · rename_i hcmp h₅ F₅ N₅
      have hm : ¬ ((lo₂ + hi₂).fdiv 2).toNat < c := (hc _ _ e2).mp hcmp
      exact WhileStep.intro (n' := ((lo₂ + hi₂).fdiv 2 - lo₂).toNat) F₅ N₅ (by omega) ⟨rfl, ea, ex, ey, lo₂, (lo₂ + hi₂).fdiv 2, tl₂, _, el, rfl, hlo₂, by omega, (Wn_down g1 g2 (by omega)).trans hW, rfl⟩
    · rename_i hcmp h₅ F₅ N₅
      have hm : ((lo₂ + hi₂).fdiv 2).toNat < c := Decidable.not_not.mp fun q => hcmp ((hc _ _ e2).mpr q)
      exact WhileStep.intro (n' := (hi₂ - ((lo₂ + hi₂).fdiv 2 + 1)).toNat) F₅ N₅ (by omega) ⟨rfl, ea, ex, ey, (lo₂ + hi₂).fdiv 2 + 1, hi₂, _, th₂, rfl, eh, by omega, hhi₂, (Wn_up g1 g2 (by omega)).trans hW, rfl⟩
  · rename_i hge
    have e := Wn_end (c := c) (show hi₂ ≤ lo₂ by omega)
    rw [hW] at e
    have q := hQ h₂ tk₂ tl₂ F₂.keep
    rw [e] at q
    exact q

set_option maxHeartbeats 4000000 in
theorem br_keyN {w : World} {A : Around} {E : Value → Shared → Prop} {Q : Value → Shared → Prop} {s : Shared} {mg mb : Str → Option Value} {a : Addr} {vs : List Value} {ts : List Str} {x : Str} {tx : Tok} {tl : Tok} {c : Nat}
    (X : (hd.heap_39 w.params).In s.heap) (T : TR mg mb s.heap) (hroom : A.depth + 3 < recursionLimit) (hsz : vs.length ≤ 1000) (ha : s.heap.IsList a vs.toArray)
    (hts : StrsAre vs ts) (h100 : ∀ y ∈ ts, y.cps.size ≤ 100)
    (hc : ∀ i y, ts[i]? = some y → (x.cps.toList < quote y.cps.toList ↔ ¬ i < c))
    (hQ : ∀ h' tk t', s.heap.StaysIn h' → Q (.int (Wn 0 (vs.length : Int) c) t') { s with heap := h', toks := tk }) :
    wpAny (model pg w) A (call (.ref 49) [.ref a, .str x tx, .int 0 tl, .none] [(Str.ofString "key", .ref 84)]) Q E s := by
  w_on
  refine fillMe ?_
  k_fill
  intro _ _
  have ha1 := ha
  refine enterS (f := 49) X T (by k_is) (by k_is) (by omega) (by intro S; rfl) (locs rfl) ?_ rfl rfl rfl (by decide)
  intro h₁ F N
  try dsimp only
  try k_fold
  walk_at "mine steps"
  refine len_at (list_stays ha F.keep) (by omega) ?_
  intro tn kn
  walk_at "mine steps"
  refine While_inv (BJ a (.str x tx) (.ref 84) c (Wn 0 (vs.length : Int) c) vs.length) (n₀ := ((vs.length : Int) - 0).toNat) (by k_asm) (by k_asm) ⟨rfl, rfl, rfl, rfl, 0, (vs.length : Int), _, _, rfl, rfl, by omega, by omega, rfl, rfl⟩ ?_
  rintro n m₁ news₁ h₂ tk₂ F₂ N₂ ⟨rfl, ea, ex, ey, lo₂, hi₂, tl₂, th₂, el, eh, hlo₂, hhi₂, hW, rfl⟩
  dsimp only
  walk_at "mine steps"
  · rename_i _ _ hlt h₃ F₃ N₃
    obtain ⟨g1, g2⟩ := mid_facts hlt
    obtain ⟨y, ty, e1, e2⟩ := strs_at hts (i := ((lo₂ + hi₂).fdiv 2).toNat) (by omega)
    refine item_list (list_stays ha F₃.keep) (by omega) (by omega) e1 ?_
    walk_at "mine steps"
    refine quote_call (by k_in) (TR.stays T F₃.keep) (by show A.depth + 1 < _; omega) (h100 y (List.mem_of_getElem? e2)) ?_
    intro h₄ tk₄ t₄ st₄
    have F₄ := Fr.stays F₃ st₄
    have N₄ := News.stays N₃ st₄
    clear F₃ N₃
    walk_at "mine steps"
    · rename_i hcmp h₅ F₅ N₅
      have hm : ¬ ((lo₂ + hi₂).fdiv 2).toNat < c := (hc _ _ e2).mp hcmp
      exact WhileStep.intro (n' := ((lo₂ + hi₂).fdiv 2 - lo₂).toNat) F₅ N₅ (by omega) ⟨rfl, ea, ex, ey, lo₂, (lo₂ + hi₂).fdiv 2, tl₂, _, el, rfl, hlo₂, by omega, (Wn_down g1 g2 (by omega)).trans hW, rfl⟩
    · rename_i hcmp h₅ F₅ N₅
      have hm : ((lo₂ + hi₂).fdiv 2).toNat < c := Decidable.not_not.mp fun q => hcmp ((hc _ _ e2).mpr q)
      exact WhileStep.intro (n' := (hi₂ - ((lo₂ + hi₂).fdiv 2 + 1)).toNat) F₅ N₅ (by omega) ⟨rfl, ea, ex, ey, (lo₂ + hi₂).fdiv 2 + 1, hi₂, _, th₂, rfl, eh, by omega, hhi₂, (Wn_up g1 g2 (by omega)).trans hW, rfl⟩
  · rename_i hge
    have e := Wn_end (c := c) (show hi₂ ≤ lo₂ by omega)
    rw [hW] at e
    have q := hQ h₂ tk₂ tl₂ F₂.keep
    rw [e] at q
    exact q

set_option maxHeartbeats 4000000 in
theorem br_no {w : World} {A : Around} {E : Value → Shared → Prop} {Q : Value → Shared → Prop} {s : Shared} {mg mb : Str → Option Value} {a : Addr} {vs : List Value} {ts : List Str} {x : Str} {tx : Tok} {c : Nat}
    (X : (hd.heap_39 w.params).In s.heap) (T : TR mg mb s.heap) (hroom : A.depth + 3 < recursionLimit) (hsz : vs.length ≤ 1000) (ha : s.heap.IsList a vs.toArray)
    (hts : StrsAre vs ts)
    (hc : ∀ i y, ts[i]? = some y → (x.cps.toList < y.cps.toList ↔ ¬ i < c))
    (hQ : ∀ h' tk t', s.heap.StaysIn h' → Q (.int (Wn 0 (vs.length : Int) c) t') { s with heap := h', toks := tk }) :
    wpAny (model pg w) A (call (.ref 49) [.ref a, .str x tx]) Q E s := by
  w_on
  refine fillMe ?_
  k_fill
  intro _ _
  have ha1 := ha
  refine enterS (f := 49) X T (by k_is) (by k_is) (by omega) (by intro S; rfl) (locs rfl) ?_ rfl rfl rfl (by decide)
  intro h₁ F N
  try dsimp only
  try k_fold
  walk_at "mine steps"
  refine len_at (list_stays ha F.keep) (by omega) ?_
  intro tn kn
  walk_at "mine steps"
  refine While_inv (BJ a (.str x tx) .none c (Wn 0 (vs.length : Int) c) vs.length) (n₀ := ((vs.length : Int) - 0).toNat) (by k_asm) (by k_asm) ⟨rfl, rfl, rfl, rfl, 0, (vs.length : Int), _, _, rfl, rfl, by omega, by omega, rfl, rfl⟩ ?_
  rintro n m₁ news₁ h₂ tk₂ F₂ N₂ ⟨rfl, ea, ex, ey, lo₂, hi₂, tl₂, th₂, el, eh, hlo₂, hhi₂, hW, rfl⟩
  dsimp only
  walk_at "mine steps"
  · rename_i _ _ hlt h₃ F₃ N₃
    obtain ⟨g1, g2⟩ := mid_facts hlt
    obtain ⟨y, ty, e1, e2⟩ := strs_at hts (i := ((lo₂ + hi₂).fdiv 2).toNat) (by omega)
    refine item_list (list_stays ha F₃.keep) (by omega) (by omega) e1 ?_
    walk_at "mine steps"
    · rename_i hcmp h₅ F₅ N₅
      have hm : ¬ ((lo₂ + hi₂).fdiv 2).toNat < c := (hc _ _ e2).mp hcmp
      exact WhileStep.intro (n' := ((lo₂ + hi₂).fdiv 2 - lo₂).toNat) F₅ N₅ (by omega) ⟨rfl, ea, ex, ey, lo₂, (lo₂ + hi₂).fdiv 2, tl₂, _, el, rfl, hlo₂, by omega, (Wn_down g1 g2 (by omega)).trans hW, rfl⟩
    · rename_i hcmp h₅ F₅ N₅
      have hm : ((lo₂ + hi₂).fdiv 2).toNat < c := Decidable.not_not.mp fun q => hcmp ((hc _ _ e2).mpr q)
      exact WhileStep.intro (n' := (hi₂ - ((lo₂ + hi₂).fdiv 2 + 1)).toNat) F₅ N₅ (by omega) ⟨rfl, ea, ex, ey, (lo₂ + hi₂).fdiv 2 + 1, hi₂, _, th₂, rfl, eh, by omega, hhi₂, (Wn_up g1 g2 (by omega)).trans hW, rfl⟩
  · rename_i hge
    have e := Wn_end (c := c) (show hi₂ ≤ lo₂ by omega)
    rw [hW] at e
    have q := hQ h₂ tk₂ tl₂ F₂.keep
    rw [e] at q
    exact q
end Mine
end
/-! B2 -/
section
open PySem PySem.W PySem.Calls PyProof.Rows
set_option maxRecDepth 100000
namespace Mine
theorem insert_at {prog : Program} {w : World} {A : Around} {E : Value → Shared → Prop} {s : Shared} {a : Addr} {vs : List Value} {k : Int} {u : Tok} {v : Value} {Q : Value → Shared → Prop} (hl : s.heap.PlainList a vs.toArray) (h0 : 0 ≤ k) (hk : k ≤ vs.length) (hsz : vs.length ≤ 1000)
    (h : ∀ h', h'.PlainList a (vs.take k.toNat ++ v :: vs.drop k.toNat).toArray → (∀ b o, b ≠ a → s.heap.get? b = some o → h'.get? b = some o) → Q .none { s with heap := h' }) :
    wpAny (model prog w) A (call (.builtin "list.insert") [.ref a, .int k u, v]) Q E s := by
  obtain ⟨n, e⟩ := id hl
  have e24 : sizeLine = 16777216 := by decide
  refine call_meets PySem.F.slot_list_insert hl.isList.typeIs PySem.F.entry_list_insert (PySem.F.args_list_insert_3 _ _ _) (AutoSeq1.list_insert_list_int_val_1 a vs.toArray n k u v ?_ (by rw [List.size_toArray]; omega)) ⟨e, ?_⟩
  · simp only [Builtin.List.listFitsIndex, Bool.not_eq_true', Bool.not_eq_false]; simp; omega
  · refine h _ ?_ ?_
    · have hf : (fun xs : Array Value => have k := if k < 0 then (k + (xs.size : Int)).toNat else min k.toNat xs.size; (xs.extract 0 k).push v ++ xs.extract k) vs.toArray = (vs.take k.toNat ++ v :: vs.drop k.toNat).toArray := by
        have e1 : (if k < 0 then (k + (vs.toArray.size : Int)).toNat else min k.toNat vs.toArray.size) = k.toNat := by rw [if_neg (by omega), List.size_toArray]; omega
        dsimp only
        rw [e1]
        apply Array.toList_inj.mp
        simp
        exact List.take_of_length_le (by simp)
      obtain ⟨m, hm⟩ : ∃ m, Obj.mapSeq (fun xs : Array Value => have k := if k < 0 then (k + (xs.size : Int)).toNat else min k.toNat xs.size; (xs.extract 0 k).push v ++ xs.extract k) { cls := .type "list", data := .seq vs.toArray n } = { cls := .type "list", data := .seq ((fun xs : Array Value => have k := if k < 0 then (k + (xs.size : Int)).toNat else min k.toNat xs.size; (xs.extract 0 k).push v ++ xs.extract k) vs.toArray) m } := ⟨_, rfl⟩
      refine ⟨m, (Heap.get?_update_self _ e rfl).trans ?_⟩
      rw [hm, hf]
    · intro b o hb hbo
      exact (Heap.get?_update_ne _ _ _ _ hb).trans hbo

local macro_rules | `(tactic| walk_at "mine steps") => `(tactic| repeat' ((fail_if_success (with_reducible show wpAny _ _ (exec (Stmt.While _ _ _ _) _) _ _ _)); (fail_if_success (with_reducible show wpAny _ _ (call (Value.ref _) _ _) _ _ _)); (fail_if_success (with_reducible show wpAny _ _ (getMethod (Value.ref _) _ _) _ _ _)); (fail_if_success (with_reducible show wpAny _ _ (pyIter (Value.ref _)) _ _ _)); first | (k_unfold; (try dsimp only)) | walk1 | (dsimp only; walk1)))
set_option maxHeartbeats 4000000 in
theorem il_key {w : World} {A : Around} {E : Value → Shared → Prop} {Q : Value → Shared → Prop} {s : Shared} {mg mb : Str → Option Value} {a : Addr} {vs : List Value} {ts : List Str} {x : Str} {tx : Tok} {c : Nat}
    (X : (hd.heap_39 w.params).In s.heap) (T : TR mg mb s.heap) (hroom : A.depth + 5 < recursionLimit) (hsz : vs.length ≤ 900) (ha : s.heap.PlainList a vs.toArray)
    (hts : StrsAre vs ts) (h100 : ∀ y ∈ ts, y.cps.size ≤ 100) (hx : x.cps.size ≤ 100) (hcv : c ≤ vs.length)
    (hc : ∀ i y, ts[i]? = some y → (quote y.cps.toList < quote x.cps.toList ↔ i < c))
    (hQ : ∀ h' tk, h'.PlainList a (vs.take c ++ .str x tx :: vs.drop c).toArray → (∀ b o, b ≠ a → s.heap.get? b = some o → h'.get? b = some o) → Q .none { s with heap := h', toks := tk }) :
    wpAny (model pg w) A (call (.ref 58) [.ref a, .str x tx] [(Str.ofString "key", .ref 84)]) Q E s := by
  w_on
  refine fillMe ?_
  k_fill
  intro _ _
  refine enterS (f := 58) X T (by k_is) (by k_is) (by omega) (by intro S; rfl) (locs rfl) ?_ rfl rfl rfl (by decide)
  intro h₁ F N
  try dsimp only
  try k_fold
  walk_at "mine steps"
  refine quote_call (by k_in) (TR.stays T F.keep) (by show A.depth + 1 < _; omega) hx ?_
  intro h₂ tk₂ t₂ st₂
  have F₂ := Fr.stays F st₂
  have N₂ := News.stays N st₂
  clear F N
  walk_at "mine steps"
  refine bl_keyN (c := c) (by k_in) (TR.stays T F₂.keep) (by show A.depth + 1 + 3 < _; omega) (by omega) (list_stays ha.isList F₂.keep) hts h100 hc ?_
  intro h₃ tk₃ t₃ st₃
  have F₃ := Fr.stays F₂ st₃
  have N₃ := News.stays N₂ st₃
  clear F₂ N₂
  walk_at "mine steps"
  rename Fr _ _ _ _ => F₄
  rename News _ _ _ _ => N₄
  have ha₄ := ha.at fun o e => F₄.keep a o e
  refine getMethod_list_of PySem.F.slot_list_insert PySem.F.type_list_insert ha₄.isList (by obtain ⟨n, e⟩ := ha₄; exact ⟨_, e, rfl⟩) ?_
  walk_at "mine steps"
  have hw : Wn 0 (vs.length : Int) c = c := by unfold Wn; rw [if_neg (by omega)]; omega
  rw [hw]
  refine insert_at ha₄ (by omega) (by omega) (by omega) ?_
  intro h₅ hl₅ hs₅
  walk_at "mine steps"
  exact hQ _ _ (by simpa using hl₅) (fun b o hb e => hs₅ b o hb (F₄.keep b o e))

set_option maxHeartbeats 4000000 in
theorem ir_key {w : World} {A : Around} {E : Value → Shared → Prop} {Q : Value → Shared → Prop} {s : Shared} {mg mb : Str → Option Value} {a : Addr} {vs : List Value} {ts : List Str} {x : Str} {tx : Tok} {c : Nat}
    (X : (hd.heap_39 w.params).In s.heap) (T : TR mg mb s.heap) (hroom : A.depth + 5 < recursionLimit) (hsz : vs.length ≤ 900) (ha : s.heap.PlainList a vs.toArray)
    (hts : StrsAre vs ts) (h100 : ∀ y ∈ ts, y.cps.size ≤ 100) (hx : x.cps.size ≤ 100) (hcv : c ≤ vs.length)
    (hc : ∀ i y, ts[i]? = some y → (quote x.cps.toList < quote y.cps.toList ↔ ¬ i < c))
    (hQ : ∀ h' tk, h'.PlainList a (vs.take c ++ .str x tx :: vs.drop c).toArray → (∀ b o, b ≠ a → s.heap.get? b = some o → h'.get? b = some o) → Q .none { s with heap := h', toks := tk }) :
    wpAny (model pg w) A (call (.ref 40) [.ref a, .str x tx] [(Str.ofString "key", .ref 84)]) Q E s := by
  w_on
  refine fillMe ?_
  k_fill
  intro _ _
  refine enterS (f := 40) X T (by k_is) (by k_is) (by omega) (by intro S; rfl) (locs rfl) ?_ rfl rfl rfl (by decide)
  intro h₁ F N
  try dsimp only
  try k_fold
  walk_at "mine steps"
  refine quote_call (by k_in) (TR.stays T F.keep) (by show A.depth + 1 < _; omega) hx ?_
  intro h₂ tk₂ t₂ st₂
  have F₂ := Fr.stays F st₂
  have N₂ := News.stays N st₂
  clear F N
  walk_at "mine steps"
  refine br_keyN (c := c) (by k_in) (TR.stays T F₂.keep) (by show A.depth + 1 + 3 < _; omega) (by omega) (list_stays ha.isList F₂.keep) hts h100 hc ?_
  intro h₃ tk₃ t₃ st₃
  have F₃ := Fr.stays F₂ st₃
  have N₃ := News.stays N₂ st₃
  clear F₂ N₂
  walk_at "mine steps"
  rename Fr _ _ _ _ => F₄
  rename News _ _ _ _ => N₄
  have ha₄ := ha.at fun o e => F₄.keep a o e
  refine getMethod_list_of PySem.F.slot_list_insert PySem.F.type_list_insert ha₄.isList (by obtain ⟨n, e⟩ := ha₄; exact ⟨_, e, rfl⟩) ?_
  walk_at "mine steps"
  have hw : Wn 0 (vs.length : Int) c = c := by unfold Wn; rw [if_neg (by omega)]; omega
  rw [hw]
  refine insert_at ha₄ (by omega) (by omega) (by omega) ?_
  intro h₅ hl₅ hs₅
  walk_at "mine steps"
  exact hQ _ _ (by simpa using hl₅) (fun b o hb e => hs₅ b o hb (F₄.keep b o e))
end Mine
end
/-! L1 -/
section
open PySem PySem.W PySem.Calls PyProof.Rows
set_option maxRecDepth 100000
namespace Mine
def sgn (k : Nat) : Nat := [10, 13, 46, 12, 97, 45, 11, 9].getD k 0
/-- the law's texts: at most f signs -/
def lawF : Nat → Nat → List Nat
  | 0, _ => []
  | _ + 1, 0 => []
  | f + 1, n + 1 => sgn (n % 8) :: lawF f (n / 8)
def bnd : Nat → Nat
  | 0 => 1
  | f + 1 => 8 * bnd f + 1
theorem lawF_len : ∀ f n, (lawF f n).length ≤ f
  | 0, _ => by simp [lawF]
  | _ + 1, 0 => by simp [lawF]
  | f + 1, n + 1 => by simp [lawF]; exact lawF_len f _
theorem lawF_mem : ∀ f n, ∀ c ∈ lawF f n, c < 128
  | 0, _, c, h => by simp [lawF] at h
  | _ + 1, 0, c, h => by simp [lawF] at h
  | f + 1, n + 1, c, h => by
    rcases List.mem_cons.mp h with rfl | h
    · unfold sgn
      have : n % 8 < 8 := Nat.mod_lt _ (by decide)
      generalize n % 8 = k at this
      revert k; decide
    · exact lawF_mem f _ c h

theorem item_sgn (left : Nat) (h : 0 < left) : Txt.item (Str.ofString "\n\x0d.\x0ca-\x0b\t") (((left : Int) - 1).fmod 8) = ⟨#[sgn ((left - 1) % 8)]⟩ := by
  have e : ((left : Int) - 1).fmod 8 = (((left - 1) % 8 : Nat) : Int) := by rw [Int.fmod_eq_emod_of_nonneg _ (by decide)]; omega
  rw [e]
  have q : (left - 1) % 8 < 8 := Nat.mod_lt _ (by decide)
  generalize (left - 1) % 8 = j at q
  have key : ∀ j : Fin 8, Txt.item (Str.ofString "\n\x0d.\x0ca-\x0b\t") ((j.val : Nat) : Int) = ⟨#[sgn j.val]⟩ := by decide +kernel
  exact key ⟨j, q⟩
theorem text_step {N n left : Nat} {x : Str} (h : 0 < left) (hl : left < bnd n) (hx : x.cps.toList ++ lawF n left = lawF 4 N) :
    ∃ k, n = k + 1 ∧ (left - 1) / 8 < bnd k ∧ (x ++ (⟨#[sgn ((left - 1) % 8)]⟩ : Str)).cps.toList ++ lawF k ((left - 1) / 8) = lawF 4 N := by
  cases n with
  | zero => simp [bnd] at hl; omega
  | succ k =>
    refine ⟨k, rfl, ?_, ?_⟩
    · rw [bnd] at hl; omega
    · cases left with
      | zero => omega
      | succ l =>
        rw [← hx, lawF]
        show (x.cps ++ #[sgn (l % 8)]).toList ++ _ = _
        simp

def TJ (N : Nat) (n : Nat) (m : Str → Option Value) (news : List (Addr × Obj)) : Prop :=
  news = [] ∧ ∃ x tx left tl, m (Str.ofString "text") = some (.str x tx) ∧ m (Str.ofString "left") = some (.int (left : Nat) tl) ∧ left < bnd n ∧ x.cps.toList ++ lawF n left = lawF 4 N

local macro_rules | `(tactic| walk_at "eval Name") => `(tactic| (k_here; k_dflt (refine' ld ?k1 ?k2 ?_; (case k1 => k_asm); (case k2 => assumption); k_whole)))
local macro_rules | `(tactic| walk_at "mine steps") => `(tactic| repeat' ((fail_if_success (with_reducible show wpAny _ _ (exec (Stmt.While _ _ _ _) _) _ _ _)); (fail_if_success (with_reducible show wpAny _ _ (call (Value.ref _) _ _) _ _ _)); (fail_if_success (with_reducible show wpAny _ _ (getMethod (Value.ref _) _ _) _ _ _)); (fail_if_success (with_reducible show wpAny _ _ (pyIter (Value.ref _)) _ _ _)); first | (k_unfold; (try dsimp only)) | walk1 | (dsimp only; walk1)))
local macro_rules | `(tactic| walk_at "loadName") => `(tactic| (k_here; k_dflt (refine' ldn ?k1 ?k2 ?_; (case k1 => k_asm); (case k2 => assumption); k_whole)))
set_option maxHeartbeats 4000000 in
theorem text_call {w : World} {A : Around} {E : Value → Shared → Prop} {Q : Value → Shared → Prop} {s : Shared} {mg mb : Str → Option Value} {k : Int} {tk0 : Tok}
    (X : (hd.heap_39 w.params).In s.heap) (T : TR mg mb s.heap) (hroom : A.depth + 3 < recursionLimit)
    (hQ : ∀ h' tk t', s.heap.StaysIn h' → Q (.str ⟨(lawF 4 (k.fmod 4681).toNat).toArray⟩ t') { s with heap := h', toks := tk }) :
    wpAny (model pg w) A (call (.ref 91) [.int k tk0]) Q E s := by
  w_on
  refine fillMe ?_
  k_fill
  intro _ _
  refine enterS (f := 91) X T (by k_is) (by k_is) (by omega) (by intro S; rfl) (locs rfl) ?_ rfl rfl rfl (by decide)
  intro h₁ F N
  try dsimp only
  try k_fold
  walk_at "mine steps"
  have hb : 0 ≤ k.fmod 4681 ∧ k.fmod 4681 < 4681 := by rw [Int.fmod_eq_emod_of_nonneg _ (by decide)]; omega
  refine While_inv (TJ (k.fmod 4681).toNat) (n₀ := 4) (by k_asm) (by k_asm) ⟨rfl, _, _, (k.fmod 4681).toNat, _, rfl, by rw [Int.toNat_of_nonneg hb.1]; rfl, by show _ < 4681; omega, rfl⟩ ?_
  rintro n m₁ news₁ h₂ tk₂ F₂ N₂ ⟨rfl, x, tx, left, tl, ex, el, hl, hx⟩
  have hxl : x.length ≤ 4 := by
    have q := congrArg List.length hx
    have q2 := lawF_len 4 (k.fmod 4681).toNat
    rw [List.length_append] at q
    show x.cps.size ≤ 4
    rw [← Array.length_toList]; omega
  dsimp only
  walk_at "mine steps"
  · rename_i hpos _ _ _ _ _ _ _ _
    rename Fr _ _ _ _ => F₅
    rename News _ _ _ _ => N₅
    obtain ⟨j, rfl, hj1, hj2⟩ := text_step (by omega) hl hx
    rw [item_sgn left (by omega)] at F₅
    have hdiv : ((left : Int) - 1).fdiv 8 = (((left - 1) / 8 : Nat) : Int) := by rw [Int.fdiv_eq_ediv_of_nonneg _ (by decide)]; omega
    rw [hdiv] at F₅
    exact WhileStep.intro (n' := j) F₅ N₅ (Nat.lt_succ_self j) ⟨rfl, _, _, (left - 1) / 8, _, rfl, rfl, hj1, hj2⟩
  · rename_i hneg
    have e0 : left = 0 := by omega
    subst e0
    have e1 : lawF n 0 = [] := by cases n <;> rfl
    rw [e1, List.append_nil] at hx
    have q := fun tk => hQ h₂ tk tx F₂.keep
    rw [← hx, Array.toArray_toList] at q
    exact q _
end Mine
end
/-! R5 -/
section
open PySem PySem.W PySem.Calls PyProof.Rows
set_option maxRecDepth 100000
namespace Mine
theorem forLoop_T {prog : Program} {w : World} {A : Around} {s : Shared} {R : Result → Shared → Prop} {target : Expr} {it : Value} {body orelse : List Stmt} {env : Env} (I : Nat → Shared → Prop)
    (turn : ∀ n s, I n s → wpAny (model prog w) A (pyNext it) (fun r s₁ => match r with
      | none => wpAny (model prog w) A (execs orelse env) (fun f s₃ => R (.ok f) s₃) (notedBy (model prog w) A env fun e s' => R (.error e) s') s₁
      | some v => wpAny (model prog w) A (letOwnedTupleGo target it v) (fun _ s₁ => wpAny (model prog w) A (assign target env v) (fun _ s₂ => wpAny (model prog w) A (execs body env) (fun f s₃ => match f with
          | .next | .cont => ∃ m, m < n ∧ I m s₃
          | .brk => R (.ok .next) s₃
          | .ret v => R (.ok (.ret v)) s₃) (notedBy (model prog w) A env fun e s' => R (.error e) s') s₂) (notedBy (model prog w) A env fun e s' => R (.error e) s') s₁) (notedBy (model prog w) A env fun e s' => R (.error e) s') s₁) (notedBy (model prog w) A env fun e s' => R (.error e) s') s)
    (n : Nat) (h : I n s) : codeAny (model prog w) A (.forLoop target it body orelse env) R s := by
  refine codeAny_loop' rfl I (fun n s hI => ?_) n h
  show wpAny _ _ ((forTurn target it body orelse env).onRaise (fun x => do noteFrame x env; theTreesLotGoes x)) _ _ s
  refine wpAny_noted ?_
  simp only [forTurn]
  refine wpAny_bind (wpAny_standAt (wpAny_bind (wpAny_onRaise (wpAny_mono (turn n s hI) (fun r s₁ h₁ => ?_) fun _ _ h' => wpAny_standAt h'))))
  cases r with
  | none => exact wpAny_pure (.inr ⟨rfl, codeAny_block h₁⟩)
  | some v =>
    refine wpAny_bind (wpAny_mono h₁ (fun _ s₁ h₁ => ?_) fun _ _ h' => h')
    refine wpAny_bind (wpAny_mono h₁ (fun _ s₂ h₂ => wpAny_bind (wpAny_mono h₂ (fun f s₃ h₃ => ?_) fun _ _ h' => h')) fun _ _ h' => h')
    cases f with
    | next => exact wpAny_pure (.inl ⟨rfl, h₃⟩)
    | cont => exact wpAny_pure (.inl ⟨rfl, h₃⟩)
    | brk => exact wpAny_pure h₃
    | ret v => exact wpAny_pure h₃

/-- a for over an iterator that walks n items, by an invariant over the heap -/
def ForAt (prog : Program) (w : World) (A : Around) (env : Env) (target : Expr) (body : List Stmt) (Q : Flow → Shared → Prop) (E : Value → Shared → Prop) (it : Value) (s : Shared) : Prop :=
  ∃ (I : Addr) (fp wr : List Addr) (n : Nat) (P : Nat → Value → Prop) (St : Nat → Heap → Prop) (Inv : Nat → Heap → Prop),
    it = .ref I ∧ Walks prog w A I fp wr n P St ∧ St 0 s.heap ∧ Inv 0 s.heap ∧
    (∀ i h h', Inv i h → (∀ b o, b ∉ wr → h.get? b = some o → h'.get? b = some o) → Inv i h') ∧
    (∀ i v h tk, i < n → P i v → Inv i h → St (i + 1) h → wpAny (model prog w) A (letOwnedTupleGo target it v) (fun _ s₁ => wpAny (model prog w) A (assign target env v) (fun _ s₂ => wpAny (model prog w) A (execs body env) (fun f s₃ => match f with
      | .next | .cont => ∃ h' tk', s₃ = { s with heap := h', toks := tk' } ∧ (∀ b ∈ fp, ∀ o, h.get? b = some o → h'.get? b = some o) ∧ Inv (i + 1) h'
      | .brk => Q .next s₃
      | .ret v => Q (.ret v) s₃) E s₂) E s₁) E { s with heap := h, toks := tk }) ∧
    (∀ h tk, Inv n h → Q .next { s with heap := h, toks := tk })

theorem For_S {prog : Program} {w : World} {A : Around} {env : Env} {target iter : Expr} {body : List Stmt} {pos : Pos} {Q : Flow → Shared → Prop} {E : Value → Shared → Prop} {s : Shared}
    (h : wpAny (model prog w) A (eval iter env) (fun xv s₁ => wpAny (model prog w) A (pyIter xv) (fun it s₂ => ForAt prog w A env target body Q E it s₂) E s₁) E s)
    (hs : ∀ x, foldedSetIterable iter env x = pure x := by intro _; rfl) (hE : ∀ e s', ¬ E e s' := by intro _ _ h; exact h) :
    wpAny (model prog w) A (exec (.For target iter body [] pos) env) Q E s := by
  refine wpAny_For (wpAny_mono h (fun xv s₁ h₁ => wpAny_mono h₁ (fun it s₂ h₂ => ?_) fun _ _ e => e) fun _ _ e => e) hs
  obtain ⟨I, fp, wr, n, P, St, Inv, rfl, W, hst, h0, stable, turn, done⟩ := h₂
  refine forLoop_T (fun k s' => ∃ i h tk, k = n - i ∧ i ≤ n ∧ s' = { s₂ with heap := h, toks := tk } ∧ St i h ∧ Inv i h) ?_ n ⟨0, s₂.heap, s₂.toks, (Nat.sub_zero n).symm, Nat.zero_le n, rfl, hst, h0⟩
  rintro k s' ⟨i, h, tk, rfl, hin, rfl, hSt, hI⟩
  rcases Nat.lt_or_ge i n with hlt | hge
  · refine W.item i _ _ _ hlt hSt fun v h' tk' hP hSt' hk => ?_
    refine wpAny_mono (turn i v h' tk' hlt hP (stable _ _ _ hI hk) hSt') (fun _ s₃ h₃ => wpAny_mono h₃ (fun _ s₃ h₃ => wpAny_mono h₃ (fun f s₄ h₄ => ?_) fun _ _ e => (hE _ _ e).elim) fun _ _ e => (hE _ _ e).elim) fun _ _ e => (hE _ _ e).elim
    cases f with
    | next => obtain ⟨h5, tk5, rfl, f5, i5⟩ := h₄; exact ⟨n - (i + 1), by omega, i + 1, h5, tk5, rfl, hlt, rfl, W.frame _ _ _ hSt' f5, i5⟩
    | cont => obtain ⟨h5, tk5, rfl, f5, i5⟩ := h₄; exact ⟨n - (i + 1), by omega, i + 1, h5, tk5, rfl, hlt, rfl, W.frame _ _ _ hSt' f5, i5⟩
    | brk => exact h₄
    | ret v => exact h₄
  · have : i = n := Nat.le_antisymm hin hge
    subst this
    refine W.done _ _ _ hSt fun h' tk' hk => ?_
    exact wpAny_execs_nil (done h' tk' (stable _ _ _ hI hk))

theorem Fr.but {h₀ h h' : Heap} {L I : Addr} {m : Str → Option Value} (F : Fr h₀ L h m) (hL : L ≠ I) (hI : h₀.get? I = none) (k : ∀ b o, b ∉ [I] → h.get? b = some o → h'.get? b = some o) : Fr h₀ L h' m := by
  obtain ⟨o, es, ep, x, r⟩ := F.ns
  exact ⟨⟨o, es, ep, k _ _ (by simpa using hL) x, r⟩, fun b o e => k b o (fun q => by rw [List.mem_singleton.mp q, hI] at e; cases e) (F.keep b o e), F.above⟩
theorem PL.but {h h' : Heap} {D I : Addr} {items : Array Value} (x : h.PlainList D items) (hD : D ≠ I) (k : ∀ b o, b ∉ [I] → h.get? b = some o → h'.get? b = some o) : h'.PlainList D items :=
  x.at fun o e => k D o (by simpa using hD) e

theorem own_of (h : Heap) (I : Addr) : ∃ own : List (Addr × Obj), (∀ p ∈ own, p.1 = I ∧ h.get? p.1 = some p.2) ∧ ∀ o, h.get? I = some o → (I, o) ∈ own := by
  cases e : h.get? I with
  | none => exact ⟨[], (fun _ h => nomatch h), (fun o h => nomatch h)⟩
  | some o => exact ⟨[(I, o)], fun p hp => by rw [List.mem_singleton.mp hp]; exact ⟨rfl, e⟩, fun o' h => by cases h; exact .head _⟩
theorem News.upd1 {h₀ h h' : Heap} {L D : Addr} {o o' : Obj} {own : List (Addr × Obj)} (N : News h₀ L h ((D, o) :: own)) (hD : ∀ p ∈ own, p.1 ≠ D) (e : h'.get? D = some o') (k : ∀ b o, b ∉ [D] → h.get? b = some o → h'.get? b = some o) : News h₀ L h' ((D, o') :: own) := by
  intro p hp
  rcases List.mem_cons.mp hp with rfl | hp
  · exact ⟨e, (N _ (.head _)).2⟩
  · exact ⟨k _ _ (by simpa using hD p hp) (N p (.tail _ hp)).1, (N p (.tail _ hp)).2⟩
/-- a turn has ended, and P holds of its heap -/
def TurnEnd (s : Shared) (P : Heap → Prop) (s₃ : Shared) : Prop := ∃ h' tk', s₃ = { s with heap := h', toks := tk' } ∧ P h'
theorem TurnEnd.intro {s : Shared} {P : Heap → Prop} {h' : Heap} {tk' : Nat} (h : P h') : TurnEnd s P { s with heap := h', toks := tk' } := ⟨h', tk', rfl, h⟩
section
variable {prog : Program} {w : World} {A : Around} {env : Env} {y : Str} {py : Pos} {body : List Stmt} {Q : Flow → Shared → Prop} {E : Value → Shared → Prop} {s : Shared}
theorem for_text {x : Str} {t : Tok} (hh : A.handled = none) (Inv : Nat → Heap → Prop) (h0 : ∀ o, Inv 0 (s.heap.push o))
    (stable : ∀ i h h', Inv i h → (∀ b o, b ∉ [s.heap.objs.size] → h.get? b = some o → h'.get? b = some o) → Inv i h')
    (turn : ∀ i c t h tk (own : List (Addr × Obj)), x.cps[i]? = some c → Inv i h → (∀ p ∈ own, p.1 = s.heap.objs.size ∧ h.get? p.1 = some p.2) → wpAny (model prog w) A (storeName env y (.str ⟨#[c]⟩ t)) (fun _ s₂ => wpAny (model prog w) A (execs body env) (fun f s₃ => match f with
      | .next | .cont => TurnEnd s (fun h' => (∀ p ∈ own, h'.get? p.1 = some (p : Addr × Obj).2) ∧ Inv (i + 1) h') s₃
      | .brk => Q .next s₃
      | .ret v => Q (.ret v) s₃) E s₂) E { s with heap := h, toks := tk })
    (done : ∀ h tk, Inv x.cps.size h → Q .next { s with heap := h, toks := tk }) :
    wpAny (model prog w) A (pyIter (.str x t)) (fun it s₂ => ForAt prog w A env (.Name y py) body Q E it s₂) E s := by
  refine wpAny_pyIter_str fun o St hW hst => ?_
  refine ⟨s.heap.objs.size, _, _, _, _, St, Inv, rfl, hW A hh, hst, h0 o, stable, ?_, done⟩
  rintro i v h tk hi ⟨c, u, hc, rfl⟩ hI hSt
  obtain ⟨own, ho1, ho2⟩ := own_of h s.heap.objs.size
  refine wpAny_pure (wpAny_assign_Name (wpAny_mono (turn i c u h tk own hc hI ho1) (fun _ s₂ h₂ => wpAny_mono h₂ (fun f s₃ h₃ => ?_) fun _ _ e => e) fun _ _ e => e))
  cases f with
  | next => obtain ⟨h', tk', rfl, k, I'⟩ := h₃; exact ⟨h', tk', rfl, fun b hb o e => by rw [List.mem_singleton.mp hb] at e ⊢; exact k _ (ho2 o e), I'⟩
  | cont => obtain ⟨h', tk', rfl, k, I'⟩ := h₃; exact ⟨h', tk', rfl, fun b hb o e => by rw [List.mem_singleton.mp hb] at e ⊢; exact k _ (ho2 o e), I'⟩
  | brk => exact h₃
  | ret v => exact h₃
theorem for_items {l : Addr} {vs : List Value} (hh : A.handled = none) (hl : s.heap.IsList l vs.toArray) (Inv : Nat → Heap → Prop) (h0 : ∀ o, Inv 0 (s.heap.push o))
    (stable : ∀ i h h', Inv i h → (∀ b o, b ∉ [s.heap.objs.size] → h.get? b = some o → h'.get? b = some o) → Inv i h')
    (turn : ∀ i v h tk (own : List (Addr × Obj)), vs[i]? = some v → h.IsList l vs.toArray → Inv i h → (∀ p ∈ own, p.1 = s.heap.objs.size ∧ h.get? p.1 = some p.2) → wpAny (model prog w) A (storeName env y v) (fun _ s₂ => wpAny (model prog w) A (execs body env) (fun f s₃ => match f with
      | .next | .cont => TurnEnd s (fun h' => (∀ p ∈ own, h'.get? p.1 = some (p : Addr × Obj).2) ∧ (∀ o, h.get? l = some o → h'.get? l = some o) ∧ Inv (i + 1) h') s₃
      | .brk => Q .next s₃
      | .ret v => Q (.ret v) s₃) E s₂) E { s with heap := h, toks := tk })
    (done : ∀ h tk, Inv vs.length h → Q .next { s with heap := h, toks := tk }) :
    wpAny (model prog w) A (pyIter (.ref l)) (fun it s₂ => ForAt prog w A env (.Name y py) body Q E it s₂) E s := by
  have hne : l ≠ s.heap.objs.size := by
    obtain ⟨o, e, _⟩ := hl
    exact Nat.ne_of_lt (Heap.lt_size e)
  refine wpAny_pyIter_list hl ?_
  refine ⟨s.heap.objs.size, _, _, _, _, _, Inv, rfl, Walks.list hh s.heap.objs.size l hne vs.toArray, ⟨⟨_, Heap.get?_push_size _ rfl, rfl, rfl⟩, hl.at fun o e => Heap.get?_push_of_some _ e⟩, h0 _, stable, ?_, by rw [List.size_toArray]; exact done⟩
  rintro i v h tk hi hP hI hSt
  obtain ⟨own, ho1, ho2⟩ := own_of h s.heap.objs.size
  refine wpAny_pure (wpAny_assign_Name (wpAny_mono (turn i v h tk own (by simpa using hP) hSt.2 hI ho1) (fun _ s₂ h₂ => wpAny_mono h₂ (fun f s₃ h₃ => ?_) fun _ _ e => e) fun _ _ e => e))
  have fin : (∃ h' tk', s₃ = { s with heap := h', toks := tk' } ∧ (∀ p ∈ own, h'.get? p.1 = some p.2) ∧ (∀ o, h.get? l = some o → h'.get? l = some o) ∧ Inv (i + 1) h') →
      ∃ h' tk', s₃ = { s with heap := h', toks := tk' } ∧ (∀ b ∈ [s.heap.objs.size, l], ∀ o, h.get? b = some o → h'.get? b = some o) ∧ Inv (i + 1) h' := by
    rintro ⟨h', tk', e, k1, k2, I'⟩
    refine ⟨h', tk', e, fun b hb o e => ?_, I'⟩
    rcases List.mem_cons.mp hb with rfl | hb
    · exact k1 _ (ho2 o e)
    · rw [List.mem_singleton.mp hb] at e ⊢; exact k2 o e
  cases f with
  | next => obtain ⟨h', tk', rfl, k⟩ := fin h₃; exact ⟨h', tk', rfl, k⟩
  | cont => obtain ⟨h', tk', rfl, k⟩ := fin h₃; exact ⟨h', tk', rfl, k⟩
  | brk => exact h₃
  | ret v => exact h₃
end
end Mine
end
/-! L2 -/
section
open PySem PySem.W PySem.Calls PyProof.Rows
set_option maxRecDepth 100000
namespace Mine
/-- the marks of a text (b: the sign before was a return) -/
def marksF : Bool → List Nat → List Int
  | _, [] => []
  | b, c :: r => if c = 13 then 13 :: marksF true r else if c = 10 then (if b = true then marksF false r else 13 :: marksF false r) else (c : Int) :: marksF false r
theorem marksF_nil (b : Bool) : marksF b [] = [] := by cases b <;> rfl
theorem append_at {prog : Program} {w : World} {A : Around} {E : Value → Shared → Prop} {s : Shared} {D : Addr} {vs : List Value} {x : Value} {Q : Value → Shared → Prop} (hl : s.heap.PlainList D vs.toArray) (hz : vs.length ≤ 1000000)
    (h : ∀ h', h'.PlainList D (vs ++ [x]).toArray → (∀ b o, b ∉ [D] → s.heap.get? b = some o → h'.get? b = some o) → Q .none { s with heap := h' }) : wpAny (model prog w) A (call (.builtin "list.append") [.ref D, x]) Q E s := by
  obtain ⟨n, e⟩ := id hl
  have e24 : sizeLine = 16777216 := by decide
  refine wpAny_call_entry slot_list_append hl.isList.typeIs entry_list_append ?_ (args_list_append _ _)
  show wpAny _ _ (updateSeq D (·.push x) >>= fun _ => ret .none) _ _ s
  refine wpAny_bind (wpAny_updateSeq e rfl (wpAny_pure ⟨.none, rfl, h _ ?_ ?_⟩) (by rw [List.size_toArray]; omega) (by rw [Array.size_push, List.size_toArray]; omega))
  · obtain ⟨m, hm⟩ : ∃ m, Obj.mapSeq (fun xs : Array Value => xs.push x) { cls := .type "list", data := .seq vs.toArray n } = { cls := .type "list", data := .seq (vs.toArray.push x) m } := ⟨_, rfl⟩
    refine ⟨m, (Heap.get?_update_self _ e rfl).trans ?_⟩
    rw [hm]; simp
  · intro b o hb e'
    exact (Heap.get?_update_ne _ _ _ _ (fun q => hb (by simp [q]))).trans e'
theorem fresh_at (h : Heap) : h.get? h.objs.size = none := by
  cases e : h.get? h.objs.size with
  | none => rfl
  | some o => exact absurd (Heap.lt_size e) (Nat.lt_irrefl _)

theorem sign13 (c : Nat) : ((⟨#[c]⟩ : Str) == Str.ofString "\x0d") = decide (c = 13) := by
  rw [show Str.ofString "\x0d" = ⟨#[13]⟩ by decide +kernel]
  by_cases h : c = 13
  · subst h; decide +kernel
  · rw [decide_eq_false h]
    apply beq_eq_false_iff_ne.mpr
    intro e; injection e with e; simp at e; exact h e
theorem sign10 (c : Nat) : ((⟨#[c]⟩ : Str) == Str.ofString "\n") = decide (c = 10) := by
  rw [show Str.ofString "\n" = ⟨#[10]⟩ by decide +kernel]
  by_cases h : c = 10
  · subst h; decide +kernel
  · rw [decide_eq_false h]
    apply beq_eq_false_iff_ne.mpr
    intro e; injection e with e; simp at e; exact h e
theorem last13 (c : Nat) : decide ((⟨#[c]⟩ : Str) = Str.ofString "\x0d") = decide (c = 13) := by rw [← sign13]; rfl
theorem ints_snoc {vs : List Value} {ns : List Int} {k : Int} {t : Tok} (h : IntsAre vs ns) : IntsAre (vs ++ [.int k t]) (ns ++ [k]) := by
  induction h with
  | nil => exact .cons k t .nil
  | cons a b _ ih => exact .cons a b ih
theorem marks_next {b : Bool} {c : Nat} {r : List Nat} {acc all : List Int} (h : acc ++ marksF b (c :: r) = all) :
    (c = 13 → (acc ++ [13]) ++ marksF true r = all) ∧ (c = 10 → b = false → (acc ++ [13]) ++ marksF false r = all) ∧ (c = 10 → b = true → acc ++ marksF false r = all) ∧ (c ≠ 13 → c ≠ 10 → (acc ++ [(c : Int)]) ++ marksF false r = all) := by
  subst h
  refine ⟨?_, ?_, ?_, ?_⟩
  · rintro rfl; simp [marksF]
  · rintro rfl rfl; simp [marksF]
  · rintro rfl rfl; simp [marksF]
  · intro h1 h2; simp [marksF, h1, h2]

def MJ (g : Heap) (L I : Addr) (text : List Nat) (i : Nat) (h : Heap) : Prop :=
  ∃ m D b lst tl vs acc, Fr g L h m ∧ m (Str.ofString "marks") = some (.ref D) ∧ m (Str.ofString "last") = some (.str lst tl) ∧ b = decide (lst = Str.ofString "\x0d") ∧ h.PlainList D vs.toArray ∧ IntsAre vs acc ∧ D ≠ I ∧ D ≠ L ∧ g.get? D = none ∧
    acc ++ marksF b (text.drop i) = marksF false text ∧ vs.length ≤ i

local macro_rules | `(tactic| walk_at "mine steps") => `(tactic| repeat' ((fail_if_success (with_reducible show wpAny _ _ (exec (Stmt.While _ _ _ _) _) _ _ _)); (fail_if_success (with_reducible show wpAny _ _ (exec (Stmt.For _ _ _ _ _) _) _ _ _)); (fail_if_success (with_reducible show wpAny _ _ (call (Value.ref _) _ _) _ _ _)); (fail_if_success (with_reducible show wpAny _ _ (getMethod (Value.ref _) _ _) _ _ _)); (fail_if_success (with_reducible show wpAny _ _ (pyIter _) _ _ _)); first | (k_unfold; (try dsimp only)) | walk1 | (dsimp only; walk1)))
local macro_rules | `(tactic| walk_at "eval Name") => `(tactic| (k_here; k_dflt (refine' ld ?k1 ?k2 ?_; (case k1 => k_asm); (case k2 => assumption); k_whole)))
local macro_rules | `(tactic| walk_at "loadName") => `(tactic| (k_here; k_dflt (refine' ldn ?k1 ?k2 ?_; (case k1 => k_asm); (case k2 => assumption); k_whole)))
set_option maxHeartbeats 4000000 in
theorem marks_call {w : World} {A : Around} {E : Value → Shared → Prop} {Q : Value → Shared → Prop} {s : Shared} {mg mb : Str → Option Value} {x : Str} {tx : Tok}
    (X : (hd.heap_39 w.params).In s.heap) (T : TR mg mb s.heap) (hroom : A.depth + 3 < recursionLimit) (hh : A.handled = none) (hx : x.cps.size ≤ 100)
    (hQ : ∀ h' tk D vs, s.heap.StaysIn h' → s.heap.get? D = none → h'.PlainList D vs.toArray → IntsAre vs (marksF false x.cps.toList) → Q (.ref D) { s with heap := h', toks := tk }) :
    wpAny (model pg w) A (call (.ref 98) [.str x tx]) Q E s := by
  w_on
  refine fillMe ?_
  k_fill
  intro _ _
  refine enterS (f := 98) X T (by k_is) (by k_is) (by omega) (by intro S; rfl) (locs rfl) ?_ rfl rfl rfl (by decide)
  intro h₁ F N
  try dsimp only
  try k_fold
  walk_at "mine steps"
  rename Fr _ _ _ _ => F₂
  rename News _ _ _ _ => N₂
  refine For_S ?_
  walk_at "mine steps"
  rename_i _ _ _ _ _ h₂
  refine for_text hh (MJ s.heap s.heap.objs.size h₂.objs.size x.cps.toList) ?_ ?_ ?_ ?_
  · intro o
    obtain ⟨n1, n2, n3⟩ := N₂ _ (.head _)
    exact ⟨_, _, false, _, _, [], [], Fr.push F₂ o, rfl, rfl, by decide +kernel, ⟨0, Heap.get?_push_of_some _ n1⟩, .nil, Nat.ne_of_lt (Heap.lt_size n1), n2, n3, rfl, Nat.le_refl _⟩
  · rintro i h h' ⟨m, D, b, lst, tl, vs, acc, f1, f2, f3, f4, f5, f6, f7, f8, f9, f10, f11⟩ k
    refine ⟨m, D, b, lst, tl, vs, acc, Fr.but f1 ?_ ?_ k, f2, f3, f4, PL.but f5 f7 k, f6, f7, f8, f9, f10, f11⟩
    · exact Nat.ne_of_lt F₂.ns.lt
    · cases e : s.heap.get? h₂.objs.size with
      | none => rfl
      | some o => exact absurd (Heap.lt_size (F₂.keep _ _ e)) (Nat.lt_irrefl _)
  · rintro i c t h tk own hc ⟨m, D, b, lst, tl, vs, acc, f1, f2, f3, f4, f5, f6, f7, f8, f9, f10, f11⟩ hown
    have hI0 : s.heap.get? h₂.objs.size = none := by
      cases e : s.heap.get? h₂.objs.size with
      | none => rfl
      | some o => exact absurd (Heap.lt_size (F₂.keep _ _ e)) (Nat.lt_irrefl _)
    have hne : h₂.objs.size ≠ s.heap.objs.size := Nat.ne_of_gt F₂.ns.lt
    have hds : x.cps.toList.drop i = c :: x.cps.toList.drop (i + 1) := by
      have hc' : x.cps.toList[i]? = some c := by simpa using hc
      obtain ⟨hi, e⟩ := List.getElem?_eq_some_iff.mp hc'
      rw [List.drop_eq_getElem_cons hi, e]
    rw [hds] at f10
    obtain ⟨q1, q2, q3, q4⟩ := marks_next f10
    have hi100 : i < 100 := by
      obtain ⟨hi, _⟩ := Array.getElem?_eq_some_iff.mp hc
      omega
    obtain ⟨n5, e5⟩ := id f5
    have N : News s.heap s.heap.objs.size h ((D, { cls := .type "list", data := .seq vs.toArray n5 }) :: own) := by
      intro p hp
      rcases List.mem_cons.mp hp with rfl | hp
      · exact ⟨e5, f8, f9⟩
      · obtain ⟨a1, a2⟩ := hown p hp
        exact ⟨a2, by rw [a1]; exact hne, by rw [a1]; exact hI0⟩
    have hoD : ∀ p ∈ own, p.1 ≠ D := fun p hp => by rw [(hown p hp).1]; exact Ne.symm f7
    clear F₂ N₂
    dsimp only
    walk_at "mine steps"
    · rename (_ == Str.ofString "\x0d") = true => g1
      rw [sign13] at g1
      have c13 := of_decide_eq_true g1
      rename Fr _ _ _ _ => F₃
      rename News _ _ _ _ => N₃
      have p3 := (N₃ _ (.head _)).1
      refine getMethod_list_of PySem.F.slot_list_append PySem.F.type_list_append (items := vs.toArray) ⟨_, p3, rfl, _, rfl⟩ ⟨_, p3, rfl⟩ ?_
      walk_at "mine steps"
      refine append_at ⟨_, p3⟩ (by omega) ?_
      intro h₅ p5 k5
      obtain ⟨n6, e6⟩ := p5
      have F₅ := Fr.but F₃ (Ne.symm f8) f9 k5
      have N₅ := News.upd1 N₃ hoD e6 k5
      clear F₃ N₃
      walk_at "mine steps"
      rename Fr _ _ _ _ => F₆
      rename News _ _ _ _ => N₆
      exact TurnEnd.intro ⟨fun p hp => (N₆ p (.tail _ hp)).1, _, D, decide (c = 13), _, _, _, _, F₆, f2, rfl, (last13 c).symm, ⟨n6, (N₆ _ (.head _)).1⟩, ints_snoc f6, f7, f8, f9, by rw [decide_eq_true c13]; exact q1 c13, by simp; omega⟩
    · rename (_ == Str.ofString "\x0d") = false => g1
      rename (_ == Str.ofString "\n") = true => g2
      rename (lst != _) = true => g3
      rw [sign13] at g1
      rw [sign10] at g2
      have c13 := of_decide_eq_false g1
      have c10 := of_decide_eq_true g2
      have hb : b = false := by rw [f4]; exact decide_eq_false (by simpa using g3)
      rename Fr _ _ _ _ => F₃
      rename News _ _ _ _ => N₃
      have p3 := (N₃ _ (.head _)).1
      refine getMethod_list_of PySem.F.slot_list_append PySem.F.type_list_append (items := vs.toArray) ⟨_, p3, rfl, _, rfl⟩ ⟨_, p3, rfl⟩ ?_
      walk_at "mine steps"
      refine append_at ⟨_, p3⟩ (by omega) ?_
      intro h₅ p5 k5
      obtain ⟨n6, e6⟩ := p5
      have F₅ := Fr.but F₃ (Ne.symm f8) f9 k5
      have N₅ := News.upd1 N₃ hoD e6 k5
      clear F₃ N₃
      walk_at "mine steps"
      rename Fr _ _ _ _ => F₆
      rename News _ _ _ _ => N₆
      exact TurnEnd.intro ⟨fun p hp => (N₆ p (.tail _ hp)).1, _, D, decide (c = 13), _, _, _, _, F₆, f2, rfl, (last13 c).symm, ⟨n6, (N₆ _ (.head _)).1⟩, ints_snoc f6, f7, f8, f9, by rw [decide_eq_false c13]; exact q2 c10 hb, by simp; omega⟩
    · rename (_ == Str.ofString "\n") = true => g2
      rename (_ != Str.ofString "\n") = true => g3
      rw [bne, g2] at g3; cases g3
    · rename (_ == Str.ofString "\x0d") = false => g1
      rename (_ == Str.ofString "\n") = true => g2
      rename (lst != _) = false => g3
      rw [sign13] at g1
      rw [sign10] at g2
      have c13 := of_decide_eq_false g1
      have c10 := of_decide_eq_true g2
      have hb : b = true := by rw [f4]; exact decide_eq_true (by simpa using g3)
      rename Fr _ _ _ _ => F₆
      rename News _ _ _ _ => N₆
      exact TurnEnd.intro ⟨fun p hp => (N₆ p (.tail _ hp)).1, _, D, decide (c = 13), _, _, _, _, F₆, f2, rfl, (last13 c).symm, ⟨n5, (N₆ _ (.head _)).1⟩, f6, f7, f8, f9, by rw [decide_eq_false c13]; exact q3 c10 hb, by omega⟩
    · rename (_ == Str.ofString "\x0d") = false => g1
      rename (_ == Str.ofString "\n") = false => g2
      rw [sign13] at g1
      rw [sign10] at g2
      have c13 := of_decide_eq_false g1
      have c10 := of_decide_eq_false g2
      rename Fr _ _ _ _ => F₃
      rename News _ _ _ _ => N₃
      have p3 := (N₃ _ (.head _)).1
      refine getMethod_list_of PySem.F.slot_list_append PySem.F.type_list_append (items := vs.toArray) ⟨_, p3, rfl, _, rfl⟩ ⟨_, p3, rfl⟩ ?_
      walk_at "mine steps"
      refine append_at ⟨_, p3⟩ (by omega) ?_
      intro h₅ p5 k5
      obtain ⟨n6, e6⟩ := p5
      have F₅ := Fr.but F₃ (Ne.symm f8) f9 k5
      have N₅ := News.upd1 N₃ hoD e6 k5
      clear F₃ N₃
      walk_at "mine steps"
      rename Fr _ _ _ _ => F₆
      rename News _ _ _ _ => N₆
      exact TurnEnd.intro ⟨fun p hp => (N₆ p (.tail _ hp)).1, _, D, decide (c = 13), _, _, _, _, F₆, f2, rfl, (last13 c).symm, ⟨n6, (N₆ _ (.head _)).1⟩, ints_snoc f6, f7, f8, f9, by rw [decide_eq_false c13]; exact q4 c13 c10, by simp; omega⟩
    · rename (_ == Str.ofString "\n") = false => g2
      rename (_ != Str.ofString "\n") = false => g3
      rw [bne, g2] at g3; cases g3
  · rintro h tk ⟨m, D, b, lst, tl, vs, acc, f1, f2, f3, f4, f5, f6, f7, f8, f9, f10, f11⟩
    have N : News s.heap s.heap.objs.size h [] := News.nil
    clear F₂ N₂
    dsimp only
    walk_at "mine steps"
    rw [List.drop_eq_nil_of_le (by rw [Array.length_toList]; omega), marksF_nil, List.append_nil] at f10
    rw [f10] at f6
    exact hQ _ _ D vs f1.keep f9 f5 f6
end Mine
end
/-! R1 -/
section
open PySem PySem.W PySem.Calls PyProof.Rows
set_option maxRecDepth 100000
namespace Mine

/-- the order of two lists of ints, as the loop of the list comparison tells it -/
def lexc (sz : Nat → Nat → Bool) (it : Int → Int → Bool) : List Int → List Int → Bool
  | [], ys => sz 0 ys.length
  | x :: xs, [] => sz (x :: xs).length 0
  | x :: xs, y :: ys => if x = y then lexc sz it xs ys else it x y

theorem ints_get {vs : List Value} {ns : List Int} (h : IntsAre vs ns) : ∀ i : Nat, (∃ n t, vs[i]? = some (.int n t) ∧ ns.drop i = n :: ns.drop (i + 1)) ∨ (vs[i]? = none ∧ ns.drop i = []) := by
  induction h with
  | nil => intro i; right; simp
  | cons n t r ih =>
    intro i
    cases i with
    | zero => left; exact ⟨n, t, rfl, rfl⟩
    | succ i => rcases ih i with ⟨m, u, e1, e2⟩ | ⟨e1, e2⟩
                · left; exact ⟨m, u, by simpa using e1, by simpa using e2⟩
                · right; exact ⟨by simpa using e1, by simpa using e2⟩

set_option maxHeartbeats 4000000 in
open AutoSeq1 (wpAny_loadPart') in
open MeetsSeq MeetsSeq3 in
theorem lex_loop (c : Int) (op : CmpOp) (sz : Nat → Nat → Bool) (it : Int → Int → Bool)
    (hop : (c = 0 ∧ op = .Lt ∧ (sz = fun m n => decide (m < n)) ∧ it = fun x y => decide (x < y)) ∨ (c = 1 ∧ op = .LtE ∧ (sz = fun m n => decide (m ≤ n)) ∧ it = fun x y => decide (x ≤ y)) ∨ (c = 4 ∧ op = .Gt ∧ (sz = fun m n => decide (m > n)) ∧ it = fun x y => decide (x > y)))
    (l b : Addr) (vs vs2 : List Value) (ns ns2 : List Int) (n n2 : Nat) (dd dd2 : Option Addr) (sl sl2 : Array (Option Value)) (hv : IntsAre vs ns) (hv2 : IntsAre vs2 ns2) (k : Nat) :
    ∀ i : Nat, vs.length - i = k → Meets (Builtin.«list.__eq__.loop» ⟨[.ref l, .ref b, rawInt i, rawInt c], []⟩)
      (fun _ R s => s.heap.get? l = some { cls := .type "list", dict := dd, data := .seq vs.toArray n, slots := sl } ∧ s.heap.get? b = some { cls := .type "list", dict := dd2, data := .seq vs2.toArray n2, slots := sl2 } ∧
        i ≤ vs.length ∧ i ≤ vs2.length ∧ R (.ok (.ret (.bool (lexc sz it (ns.drop i) (ns2.drop i))))) s) := by
  induction k with
  | zero =>
    intro i hk prog w A R s h
    obtain ⟨hp, g, d, tk, os⟩ := s; obtain ⟨hl, hb, hi, hi2, h⟩ := h
    have e : i = vs.length := by omega
    have hn := hv.length
    have hn2 := hv2.length
    have f1 : vs.toArray[((i : Nat) : Int).toNat]? = none := by simp; omega
    have hd : ns.drop i = [] := by simp; omega
    rw [hd] at h
    have h' : R (.ok (.ret (.bool (sz vs.toArray.size vs2.toArray.size)))) { heap := hp, gens := g, drawn := d, toks := tk, os := os } := by
      have : lexc sz it [] (ns2.drop i) = sz vs.toArray.size vs2.toArray.size := by
        simp only [lexc, List.length_drop, List.size_toArray]
        rcases hop with ⟨_, _, rfl, _⟩ | ⟨_, _, rfl, _⟩ | ⟨_, _, rfl, _⟩ <;> (apply decide_eq_decide.mpr; omega)
      rw [this] at h; exact h
    rcases hop with ⟨rfl, rfl, rfl, rfl⟩ | ⟨rfl, rfl, rfl, rfl⟩ | ⟨rfl, rfl, rfl, rfl⟩ <;>
    (wp_walk using wpAny_loadPart' hl, wpAny_loadPart' hb
     rw [f1]
     wp_walk using wpAny_loadPart' hl, wpAny_loadPart' hb
     exact h')
  | succ k ih =>
    intro i hk prog w A R s h
    obtain ⟨hp, g, d, tk, os⟩ := s; obtain ⟨hl, hb, hi, hi2, h⟩ := h
    have hn := hv.length
    have hn2 := hv2.length
    have hc : ((i : Int) + 1) = ((i + 1 : Nat) : Int) := by push_cast; rfl
    rcases ints_get hv i with ⟨x, t, e1, e2⟩ | ⟨e1, e2⟩
    · rcases ints_get hv2 i with ⟨y, u, e3, e4⟩ | ⟨e3, e4⟩
      · have f1 : vs.toArray[((i : Nat) : Int).toNat]? = some (.int x t) := by simpa using e1
        have f2 : vs2.toArray[((i : Nat) : Int).toNat]? = some (.int y u) := by simpa using e3
        have hi2' : i < vs2.length := by
          rcases Nat.lt_or_ge i vs2.length with q | q
          · exact q
          · rw [List.getElem?_eq_none q] at e3; cases e3
        rw [e2, e4] at h
        simp only [lexc] at h
        by_cases hxy : x = y
        · subst hxy
          rw [if_pos rfl] at h
          rcases hop with ⟨rfl, rfl, rfl, rfl⟩ | ⟨rfl, rfl, rfl, rfl⟩ | ⟨rfl, rfl, rfl, rfl⟩ <;>
          (wp_walk using wpAny_loadPart' hl, wpAny_loadPart' hb
           rw [f1, f2]
           refine wpAny_bind (EqGives.int _ _ _ _ prog w _ _ _ _ ?_)
           rw [beq_self_eq_true]
           wp_walk
           rw [hc]
           exact ⟨plainId_quiet plain_eq_loop _, codeAny_builtin entry_eq_loop (by
             rw [Around.under_plainId plain_eq_loop _]
             exact ih (i + 1) (by omega) prog w A R _ ⟨hl, hb, by omega, by omega, h⟩)⟩)
        · rw [if_neg hxy] at h
          have hb' : (x == y) = false := by simpa using hxy
          rcases hop with ⟨rfl, rfl, rfl, rfl⟩ | ⟨rfl, rfl, rfl, rfl⟩ | ⟨rfl, rfl, rfl, rfl⟩
          · wp_walk using wpAny_loadPart' hl, wpAny_loadPart' hb
            rw [f1, f2]
            refine wpAny_bind (EqGives.int _ _ _ _ prog w _ _ _ _ ?_)
            rw [hb']
            wp_walk using wpAny_loadPart' hl, wpAny_loadPart' hb
            rw [f1, f2]
            refine wpAny_bind (PyProof.Rows.lt_int ?_)
            exact wpAny_pure h
          · wp_walk using wpAny_loadPart' hl, wpAny_loadPart' hb
            rw [f1, f2]
            refine wpAny_bind (EqGives.int _ _ _ _ prog w _ _ _ _ ?_)
            rw [hb']
            wp_walk using wpAny_loadPart' hl, wpAny_loadPart' hb
            rw [f1, f2]
            refine wpAny_bind (PyProof.Rows.le_int ?_)
            exact wpAny_pure h
          · wp_walk using wpAny_loadPart' hl, wpAny_loadPart' hb
            rw [f1, f2]
            refine wpAny_bind (EqGives.int _ _ _ _ prog w _ _ _ _ ?_)
            rw [hb']
            wp_walk using wpAny_loadPart' hl, wpAny_loadPart' hb
            rw [f1, f2]
            refine wpAny_bind (PyProof.Rows.gt_int ?_)
            exact wpAny_pure h
      · have f2 : vs2.toArray[((i : Nat) : Int).toNat]? = none := by simpa using e3
        have f1 : vs.toArray[((i : Nat) : Int).toNat]? = some (.int x t) := by simpa using e1
        have hi2' : vs2.length ≤ i := by
          rcases Nat.lt_or_ge i vs2.length with q | q
          · rw [List.getElem?_eq_getElem q] at e3; cases e3
          · exact q
        rw [e4] at h
        have h' : R (.ok (.ret (.bool (sz vs.toArray.size vs2.toArray.size)))) { heap := hp, gens := g, drawn := d, toks := tk, os := os } := by
          have : lexc sz it (ns.drop i) [] = sz vs.toArray.size vs2.toArray.size := by
            have e5 : (ns.drop i).length = ns.length - i := List.length_drop
            rw [e2] at e5 ⊢
            simp only [lexc, e5, List.size_toArray]
            rcases hop with ⟨_, _, rfl, _⟩ | ⟨_, _, rfl, _⟩ | ⟨_, _, rfl, _⟩ <;> (apply decide_eq_decide.mpr; omega)
          rw [this] at h; exact h
        rcases hop with ⟨rfl, rfl, rfl, rfl⟩ | ⟨rfl, rfl, rfl, rfl⟩ | ⟨rfl, rfl, rfl, rfl⟩ <;>
        (wp_walk using wpAny_loadPart' hl, wpAny_loadPart' hb
         rw [f1, f2]
         wp_walk using wpAny_loadPart' hl, wpAny_loadPart' hb
         exact h')
    · have : vs.length ≤ i := by
        rcases Nat.lt_or_ge i vs.length with q | q
        · rw [List.getElem?_eq_getElem q] at e1; cases e1
        · exact q
      omega
end Mine
end
/-! R1b -/
section
open PySem PySem.W PySem.Calls PyProof.Rows
set_option maxRecDepth 100000
namespace Mine
open AutoSeq1 (wpAny_loadPart')
open MeetsSeq MeetsSeq3
set_option maxHeartbeats 4000000 in
theorem list_ltM (l b : Addr) (vs vs2 : List Value) (ns ns2 : List Int) (n n2 : Nat) (dd dd2 : Option Addr) (sl sl2 : Array (Option Value)) (hv : IntsAre vs ns) (hv2 : IntsAre vs2 ns2) :
    Meets (Builtin.«list.__lt__» ⟨[.ref l, .ref b], []⟩)
      (fun _ R s => s.heap.get? l = some { cls := .type "list", dict := dd, data := .seq vs.toArray n, slots := sl } ∧ s.heap.get? b = some { cls := .type "list", dict := dd2, data := .seq vs2.toArray n2, slots := sl2 } ∧
        R (.ok (.ret (.bool (lexc (fun m n => decide (m < n)) (fun x y => decide (x < y)) ns ns2)))) s) := by
  intro prog w A R s h
  obtain ⟨hp, g, d, tk, os⟩ := s; obtain ⟨hl, hb, h⟩ := h
  have f3 := AutoSeq1.sub_list_list
  wp_walk using wpAny_loadPart' hl, wpAny_loadPart' hb
  exact ⟨plainId_quiet plain_eq_loop _, codeAny_builtin entry_eq_loop (by
    rw [Around.under_plainId plain_eq_loop _]
    exact lex_loop 0 _ _ _ (.inl ⟨rfl, rfl, rfl, rfl⟩) l b vs vs2 ns ns2 n n2 dd dd2 sl sl2 hv hv2 _ 0 rfl prog w A R _ ⟨hl, hb, Nat.zero_le _, Nat.zero_le _, h⟩)⟩
set_option maxHeartbeats 4000000 in
theorem list_leM (l b : Addr) (vs vs2 : List Value) (ns ns2 : List Int) (n n2 : Nat) (dd dd2 : Option Addr) (sl sl2 : Array (Option Value)) (hv : IntsAre vs ns) (hv2 : IntsAre vs2 ns2) :
    Meets (Builtin.«list.__le__» ⟨[.ref l, .ref b], []⟩)
      (fun _ R s => s.heap.get? l = some { cls := .type "list", dict := dd, data := .seq vs.toArray n, slots := sl } ∧ s.heap.get? b = some { cls := .type "list", dict := dd2, data := .seq vs2.toArray n2, slots := sl2 } ∧
        R (.ok (.ret (.bool (lexc (fun m n => decide (m ≤ n)) (fun x y => decide (x ≤ y)) ns ns2)))) s) := by
  intro prog w A R s h
  obtain ⟨hp, g, d, tk, os⟩ := s; obtain ⟨hl, hb, h⟩ := h
  have f3 := AutoSeq1.sub_list_list
  wp_walk using wpAny_loadPart' hl, wpAny_loadPart' hb
  exact ⟨plainId_quiet plain_eq_loop _, codeAny_builtin entry_eq_loop (by
    rw [Around.under_plainId plain_eq_loop _]
    exact lex_loop 1 _ _ _ (.inr (.inl ⟨rfl, rfl, rfl, rfl⟩)) l b vs vs2 ns ns2 n n2 dd dd2 sl sl2 hv hv2 _ 0 rfl prog w A R _ ⟨hl, hb, Nat.zero_le _, Nat.zero_le _, h⟩)⟩
set_option maxHeartbeats 4000000 in
theorem list_gtM (l b : Addr) (vs vs2 : List Value) (ns ns2 : List Int) (n n2 : Nat) (dd dd2 : Option Addr) (sl sl2 : Array (Option Value)) (hv : IntsAre vs ns) (hv2 : IntsAre vs2 ns2) :
    Meets (Builtin.«list.__gt__» ⟨[.ref l, .ref b], []⟩)
      (fun _ R s => s.heap.get? l = some { cls := .type "list", dict := dd, data := .seq vs.toArray n, slots := sl } ∧ s.heap.get? b = some { cls := .type "list", dict := dd2, data := .seq vs2.toArray n2, slots := sl2 } ∧
        R (.ok (.ret (.bool (lexc (fun m n => decide (m > n)) (fun x y => decide (x > y)) ns ns2)))) s) := by
  intro prog w A R s h
  obtain ⟨hp, g, d, tk, os⟩ := s; obtain ⟨hl, hb, h⟩ := h
  have f3 := AutoSeq1.sub_list_list
  wp_walk using wpAny_loadPart' hl, wpAny_loadPart' hb
  exact ⟨plainId_quiet plain_eq_loop _, codeAny_builtin entry_eq_loop (by
    rw [Around.under_plainId plain_eq_loop _]
    exact lex_loop 4 _ _ _ (.inr (.inr ⟨rfl, rfl, rfl, rfl⟩)) l b vs vs2 ns ns2 n n2 dd dd2 sl sl2 hv hv2 _ 0 rfl prog w A R _ ⟨hl, hb, Nat.zero_le _, Nat.zero_le _, h⟩)⟩

section
variable {prog : Program} {w : World} {A : Around} {E : Value → Shared → Prop} {s : Shared} {a b : Addr} {xs ys : List Value} {ns ms : List Int} {Q : Value → Shared → Prop}
theorem lt_ints (ha : s.heap.IsList a xs.toArray) (hb : s.heap.IsList b ys.toArray) (hi : IntsAre xs ns) (hj : IntsAre ys ms) (hu : A.units < cLine) (h : Q (.bool (lexc (fun m n => decide (m < n)) (fun x y => decide (x < y)) ns ms)) s) :
    wpAny (model prog w) A (compareOp .Lt (.ref a) (.ref b)) Q E s := by
  obtain ⟨⟨c1, d1, e1, l1⟩, h1, rfl, n1, rfl⟩ := id ha
  obtain ⟨⟨c2, d2, e2, l2⟩, h2, rfl, n2, rfl⟩ := id hb
  refine cmp_ofLt ?_
  exact richCompare_meets_room ha.typeIs hb.typeIs PySem.F.slot_list_lt PySem.F.entry_list_lt (PySem.F.args_list_lt_2 _ _) (list_ltM a b xs ys ns ms n1 n2 d1 d2 l1 l2 hi hj) ⟨h1, h2, by simp [wants], h⟩ hu
theorem le_ints (ha : s.heap.IsList a xs.toArray) (hb : s.heap.IsList b ys.toArray) (hi : IntsAre xs ns) (hj : IntsAre ys ms) (hu : A.units < cLine) (h : Q (.bool (lexc (fun m n => decide (m ≤ n)) (fun x y => decide (x ≤ y)) ns ms)) s) :
    wpAny (model prog w) A (compareOp .LtE (.ref a) (.ref b)) Q E s := by
  obtain ⟨⟨c1, d1, e1, l1⟩, h1, rfl, n1, rfl⟩ := id ha
  obtain ⟨⟨c2, d2, e2, l2⟩, h2, rfl, n2, rfl⟩ := id hb
  refine cmp_ofLtE ?_
  exact richCompare_meets_room ha.typeIs hb.typeIs PySem.F.slot_list_le PySem.F.entry_list_le (PySem.F.args_list_le_2 _ _) (list_leM a b xs ys ns ms n1 n2 d1 d2 l1 l2 hi hj) ⟨h1, h2, by simp [wants], h⟩ hu
theorem gt_ints (ha : s.heap.IsList a xs.toArray) (hb : s.heap.IsList b ys.toArray) (hi : IntsAre xs ns) (hj : IntsAre ys ms) (hu : A.units < cLine) (h : Q (.bool (lexc (fun m n => decide (m > n)) (fun x y => decide (x > y)) ns ms)) s) :
    wpAny (model prog w) A (compareOp .Gt (.ref a) (.ref b)) Q E s := by
  obtain ⟨⟨c1, d1, e1, l1⟩, h1, rfl, n1, rfl⟩ := id ha
  obtain ⟨⟨c2, d2, e2, l2⟩, h2, rfl, n2, rfl⟩ := id hb
  refine cmp_ofGt ?_
  exact richCompare_meets_room ha.typeIs hb.typeIs PySem.F.slot_list_gt PySem.F.entry_list_gt (PySem.F.args_list_gt_2 _ _) (list_gtM a b xs ys ns ms n1 n2 d1 d2 l1 l2 hi hj) ⟨h1, h2, by simp [wants], h⟩ hu
end
end Mine
end
/-! L3 -/
section
open PySem PySem.W PySem.Calls PyProof.Rows
set_option maxRecDepth 100000
namespace Mine
/-- what is sent, by the marks (l: the mark before) -/
def sentF : Int → List Int → List Nat
  | _, [] => []
  | l, k :: r => (if k = 13 then [13, 10] else if k = 46 ∧ l = 13 then [46, 46] else [k.toNat]) ++ sentF k r
theorem sentF_nil (l : Int) : sentF l [] = [] := rfl

theorem sent_next {l k : Int} {r : List Int} {y : Str} {all : List Nat} (h : y.cps.toList ++ sentF l (k :: r) = all) :
    (k = 13 → (y ++ Str.ofString "\x0d\n").cps.toList ++ sentF k r = all) ∧ (k = 46 → l = 13 → (y ++ Str.ofString "..").cps.toList ++ sentF k r = all) ∧ (k ≠ 13 → ¬ (k = 46 ∧ l = 13) → (y ++ (⟨#[k.toNat]⟩ : Str)).cps.toList ++ sentF k r = all) := by
  subst h
  have ap : ∀ z : Str, (y ++ z).cps.toList = y.cps.toList ++ z.cps.toList := fun z => by rw [PySem.Str.cps_append, Array.toList_append]
  refine ⟨?_, ?_, ?_⟩
  · rintro rfl; rw [ap, show (Str.ofString "\x0d\n").cps.toList = [13, 10] by decide +kernel, sentF, if_pos rfl, List.append_assoc]
  · rintro rfl rfl; rw [ap, show (Str.ofString "..").cps.toList = [46, 46] by decide +kernel, sentF, if_neg (by decide), if_pos ⟨rfl, rfl⟩, List.append_assoc]
  · intro h1 h2; rw [ap, sentF, if_neg h1, if_neg h2, List.append_assoc]

def SJ (g : Heap) (L : Addr) (ns : List Int) (i : Nat) (h : Heap) : Prop :=
  ∃ m l tl y ty, Fr g L h m ∧ m (Str.ofString "sent") = some (.str y ty) ∧ m (Str.ofString "last") = some (.int l tl) ∧ y.cps.toList ++ sentF l (ns.drop i) = sentF 13 ns ∧ y.length ≤ 2 * i

local macro_rules | `(tactic| walk_at "mine steps") => `(tactic| repeat' ((fail_if_success (with_reducible show wpAny _ _ (exec (Stmt.While _ _ _ _) _) _ _ _)); (fail_if_success (with_reducible show wpAny _ _ (exec (Stmt.For _ _ _ _ _) _) _ _ _)); (fail_if_success (with_reducible show wpAny _ _ (call (Value.ref _) _ _) _ _ _)); (fail_if_success (with_reducible show wpAny _ _ (getMethod (Value.ref _) _ _) _ _ _)); (fail_if_success (with_reducible show wpAny _ _ (pyIter _) _ _ _)); first | (k_unfold; (try dsimp only)) | walk1 | (dsimp only; walk1)))
local macro_rules | `(tactic| walk_at "eval Name") => `(tactic| (k_here; k_dflt (refine' ld ?k1 ?k2 ?_; (case k1 => k_asm); (case k2 => assumption); k_whole)))
local macro_rules | `(tactic| walk_at "loadName") => `(tactic| (k_here; k_dflt (refine' ldn ?k1 ?k2 ?_; (case k1 => k_asm); (case k2 => assumption); k_whole)))
set_option maxHeartbeats 4000000 in
theorem sent_call {w : World} {A : Around} {E : Value → Shared → Prop} {Q : Value → Shared → Prop} {s : Shared} {mg mb : Str → Option Value} {D : Addr} {vs : List Value} {ns : List Int}
    (X : (hd.heap_39 w.params).In s.heap) (T : TR mg mb s.heap) (hroom : A.depth + 3 < recursionLimit) (hh : A.handled = none) (hD : s.heap.IsList D vs.toArray) (hi : IntsAre vs ns) (hlen : vs.length ≤ 100) (h128 : ∀ k ∈ ns, 0 ≤ k ∧ k < 128)
    (hQ : ∀ h' tk t', s.heap.StaysIn h' → Q (.str ⟨(sentF 13 ns).toArray⟩ t') { s with heap := h', toks := tk }) :
    wpAny (model pg w) A (call (.ref 105) [.ref D]) Q E s := by
  w_on
  refine fillMe ?_
  k_fill
  intro _ _
  refine enterS (f := 105) X T (by k_is) (by k_is) (by omega) (by intro S; rfl) (locs rfl) ?_ rfl rfl rfl (by decide)
  intro h₁ F N
  try dsimp only
  try k_fold
  walk_at "mine steps"
  rename Fr _ _ _ _ => F₂
  rename News _ _ _ _ => N₂
  refine For_S ?_
  walk_at "mine steps"
  rename_i _ _ h₂
  have hI0 : s.heap.get? h₂.objs.size = none := by
    cases e : s.heap.get? h₂.objs.size with
    | none => rfl
    | some o => exact absurd (Heap.lt_size (F₂.keep _ _ e)) (Nat.lt_irrefl _)
  have hne : h₂.objs.size ≠ s.heap.objs.size := Nat.ne_of_gt F₂.ns.lt
  refine for_items hh (list_stays hD F₂.keep) (SJ s.heap s.heap.objs.size ns) ?_ ?_ ?_ ?_
  · intro o
    exact ⟨_, 13, _, _, _, Fr.push F₂ o, rfl, rfl, by simp; rfl, Nat.zero_le _⟩
  · rintro i h h' ⟨m, l, tl, y, ty, f1, f2, f3, f4, f5⟩ k
    exact ⟨m, l, tl, y, ty, Fr.but f1 (Ne.symm hne) hI0 k, f2, f3, f4, f5⟩
  · rintro i v h tk own hv hl ⟨m, l, tl, y, ty, f1, f2, f3, f4, f5⟩ hown
    obtain ⟨k, t, rfl, hk⟩ : ∃ k t, v = .int k t ∧ ns.drop i = k :: ns.drop (i + 1) := by
      rcases Mine.ints_get hi i with ⟨k, t, e1, e2⟩ | ⟨e1, e2⟩
      · rw [hv] at e1; cases e1; exact ⟨k, t, rfl, e2⟩
      · rw [hv] at e1; cases e1
    have hk128 : 0 ≤ k ∧ k < 128 := h128 k (List.mem_of_mem_drop (by rw [hk]; exact .head _))
    have hi100 : i < 100 := by
      obtain ⟨q, _⟩ := List.getElem?_eq_some_iff.mp hv
      omega
    rw [hk] at f4
    have N : News s.heap s.heap.objs.size h own := by
      intro p hp
      obtain ⟨a1, a2⟩ := hown p hp
      exact ⟨a2, by rw [a1]; exact hne, by rw [a1]; exact hI0⟩
    have keepD : ∀ {h' : Heap}, s.heap.StaysIn h' → ∀ o, h.get? D = some o → h'.get? D = some o := by
      intro h' st o e
      obtain ⟨oD, eD, _⟩ := hD
      rw [f1.keep _ _ eD] at e
      cases e; exact st _ _ eD
    obtain ⟨q1, q2, q3⟩ := sent_next f4
    clear F₂ N₂
    dsimp only
    walk_at "mine steps"
    · rename Fr _ _ _ _ => F₆
      rename News _ _ _ _ => N₆
      rename k = 13 => g1
      exact TurnEnd.intro ⟨fun p hp => (N₆ p hp).1, keepD F₆.keep, _, k, _, _, _, F₆, rfl, rfl, q1 g1, by rw [PySem.Str.length_append]; have := (by decide +kernel : (Str.ofString "\x0d\n").length = 2); omega⟩
    · rename Fr _ _ _ _ => F₆
      rename News _ _ _ _ => N₆
      rename k = 46 => g1
      rename l = 13 => g2
      exact TurnEnd.intro ⟨fun p hp => (N₆ p hp).1, keepD F₆.keep, _, k, _, _, _, F₆, rfl, rfl, q2 g1 g2, by rw [PySem.Str.length_append]; have := (by decide +kernel : (Str.ofString "..").length = 2); omega⟩
    · rename Fr _ _ _ _ => F₆
      rename News _ _ _ _ => N₆
      rename ¬ k = 13 => g0
      rename ¬ l = 13 => g2
      exact TurnEnd.intro ⟨fun p hp => (N₆ p hp).1, keepD F₆.keep, _, k, _, _, _, F₆, rfl, rfl, q3 g0 fun q => g2 q.2, by rw [PySem.Str.length_append]; show y.length + 1 ≤ _; omega⟩
    · rename Fr _ _ _ _ => F₆
      rename News _ _ _ _ => N₆
      rename ¬ k = 13 => g0
      rename ¬ k = 46 => g2
      exact TurnEnd.intro ⟨fun p hp => (N₆ p hp).1, keepD F₆.keep, _, k, _, _, _, F₆, rfl, rfl, q3 g0 fun q => g2 q.1, by rw [PySem.Str.length_append]; show y.length + 1 ≤ _; omega⟩
  · rintro h tk ⟨m, l, tl, y, ty, f1, f2, f3, f4, f5⟩
    have N : News s.heap s.heap.objs.size h [] := News.nil
    clear F₂ N₂
    dsimp only
    walk_at "mine steps"
    rw [List.drop_eq_nil_of_le (by rw [← hi.length]; exact Nat.le_refl _), sentF_nil, List.append_nil] at f4
    have q := fun tk => hQ h tk ty f1.keep
    rw [← f4, Array.toArray_toList] at q
    exact q _
end Mine
end
/-! L4 -/
section
open PySem PySem.W PySem.Calls PyProof.Rows
set_option maxRecDepth 100000
namespace Mine
local macro_rules | `(tactic| walk_at "mine steps") => `(tactic| repeat' ((fail_if_success (with_reducible show wpAny _ _ (exec (Stmt.While _ _ _ _) _) _ _ _)); (fail_if_success (with_reducible show wpAny _ _ (exec (Stmt.For _ _ _ _ _) _) _ _ _)); (fail_if_success (with_reducible show wpAny _ _ (call (Value.ref _) _ _) _ _ _)); (fail_if_success (with_reducible show wpAny _ _ (getMethod (Value.ref _) _ _) _ _ _)); (fail_if_success (with_reducible show wpAny _ _ (pyIter _) _ _ _)); first | (k_unfold; (try dsimp only)) | walk1 | (dsimp only; walk1)))
local macro_rules | `(tactic| walk_at "eval Name") => `(tactic| (k_here; k_dflt (refine' ld ?k1 ?k2 ?_; (case k1 => k_asm); (case k2 => assumption); k_whole)))
local macro_rules | `(tactic| walk_at "loadName") => `(tactic| (k_here; k_dflt (refine' ldn ?k1 ?k2 ?_; (case k1 => k_asm); (case k2 => assumption); k_whole)))
set_option maxHeartbeats 4000000 in
theorem within_call {w : World} {A : Around} {E : Value → Shared → Prop} {Q : Value → Shared → Prop} {s : Shared} {mg mb : Str → Option Value} {lo hi : Int} {c : Nat} {tl th tc : Tok}
    (X : (hd.heap_39 w.params).In s.heap) (T : TR mg mb s.heap) (hroom : A.depth + 3 < recursionLimit) (hh : A.handled = none)
    (hQ : ∀ h' tk t', s.heap.StaysIn h' → Q (.int (Wn lo hi c) t') { s with heap := h', toks := tk }) :
    wpAny (model pg w) A (call (.ref 112) [.int lo tl, .int hi th, .int (c : Int) tc]) Q E s := by
  w_on
  refine fillMe ?_
  k_fill
  intro _ _
  refine enterS (f := 112) X T (by k_is) (by k_is) (by omega) (by intro S; rfl) (locs rfl) ?_ rfl rfl rfl (by decide)
  intro h₁ F N
  try dsimp only
  try k_fold
  walk_at "mine steps"
  · rename hi < lo => g
    have q := fun tk => hQ h₁ tk tl F.keep
    unfold Wn at q
    rw [if_pos g] at q
    exact q _
  · rename ¬ hi < lo => g
    refine max_two_N hh F N ?_
    intro h₂ tk₂ F₂ N₂
    clear F N
    walk_at "mine steps"
    refine min_two_N hh F₂ N₂ ?_
    intro h₃ tk₃ F₃ N₃
    clear F₂ N₂
    walk_at "mine steps"
    have e : Wn lo hi c = (if hi < (if (c : Int) > lo then (c : Int) else lo) then hi else (if (c : Int) > lo then (c : Int) else lo)) := by
      unfold Wn; rw [if_neg g]; (repeat' split) <;> omega
    have q := fun tk t => hQ h₃ tk t F₃.keep
    rw [e] at q
    exact q _ _
end Mine
end
/-! PL -/
section
open PySem PySem.W PySem.Calls PyProof.Rows
set_option maxRecDepth 100000
namespace Mine
/-- two readings: what quotedata makes is what the marks tell -/
theorem dots_norm : ∀ (t : List Nat) (f b : Bool) (l : Int), b = decide (l = 13) → dots b (normF f t) = sentF l (marksF f t)
  | [], f, b, l, _ => by rw [normF_nil, marksF_nil, dots_nil, sentF_nil]
  | c :: r, f, b, l, hb => by
    rw [normF, marksF]
    by_cases h13 : c = 13
    · subst h13
      rw [if_pos rfl, if_pos rfl, sentF, if_pos rfl]
      rw [dots, if_neg (by intro q; exact absurd q.2 (by decide)), dots, if_neg (by intro q; exact absurd q.2 (by decide))]
      rw [show ((10 : Nat) == 10) = true from rfl, dots_norm r true true 13 rfl]
      rfl
    · rw [if_neg h13, if_neg h13]
      by_cases h10 : c = 10
      · subst h10
        rw [if_pos rfl, if_pos rfl]
        cases f with
        | true => rw [if_pos rfl, if_pos rfl]; exact dots_norm r false b l hb
        | false =>
          rw [if_neg Bool.false_ne_true, if_neg Bool.false_ne_true, sentF, if_pos rfl]
          rw [dots, if_neg (by intro q; exact absurd q.2 (by decide)), dots, if_neg (by intro q; exact absurd q.2 (by decide))]
          rw [show ((10 : Nat) == 10) = true from rfl, dots_norm r false true 13 rfl]
          rfl
      · rw [if_neg h10, if_neg h10, sentF, if_neg (by omega), dots]
        by_cases h46 : c = 46 ∧ l = 13
        · rw [if_pos ⟨by rw [hb]; exact decide_eq_true h46.2, h46.1⟩, if_pos ⟨by rw [h46.1]; rfl, h46.2⟩, dots_norm r false false (c : Int) (by rw [h46.1]; rfl)]
          rfl
        · rw [if_neg (by rintro ⟨q1, q2⟩; rw [hb] at q1; exact h46 ⟨q2, of_decide_eq_true q1⟩), if_neg (by rintro ⟨q1, q2⟩; exact h46 ⟨by omega, q2⟩)]
          rw [dots_norm r false (c == 10) (c : Int) (by rw [decide_eq_false (by omega)]; simpa using h10)]
          rfl
theorem quote_sent (t : List Nat) : quote t = sentF 13 (marksF false t) := dots_norm t false true 13 rfl

def ltM (a b : List Int) : Bool := lexc (fun m n => decide (m < n)) (fun x y => decide (x < y)) a b
theorem ltM_nil_cons (y : Int) (b : List Int) : ltM [] (y :: b) = true := by simp [ltM, lexc]
theorem ltM_nil (a : List Int) : ltM a [] = false := by cases a <;> simp [ltM, lexc]
theorem ltM_cons (x y : Int) (a b : List Int) : ltM (x :: a) (y :: b) = if x = y then ltM a b else decide (x < y) := rfl
theorem ltM_irrefl : ∀ a, ltM a a = false
  | [] => ltM_nil []
  | x :: a => by rw [ltM_cons, if_pos rfl]; exact ltM_irrefl a
theorem ltM_trans : ∀ {a b c}, ltM a b = true → ltM b c = true → ltM a c = true
  | _, [], _, h, _ => by rw [ltM_nil] at h; cases h
  | _, _ :: _, [], _, h => by rw [ltM_nil] at h; cases h
  | [], _ :: _, z :: c, _, _ => ltM_nil_cons z c
  | x :: a, y :: b, z :: c, h1, h2 => by
    rw [ltM_cons] at h1 h2 ⊢
    by_cases xy : x = y
    · subst xy
      rw [if_pos rfl] at h1
      by_cases xz : x = z
      · rw [if_pos xz] at h2 ⊢; exact ltM_trans h1 h2
      · rw [if_neg xz] at h2 ⊢; exact h2
    · rw [if_neg xy] at h1
      have q1 := of_decide_eq_true h1
      by_cases yz : y = z
      · subst yz; rw [if_neg xy]; exact h1
      · rw [if_neg yz] at h2
        have q2 := of_decide_eq_true h2
        rw [if_neg (by omega)]; exact decide_eq_true (by omega)
theorem ltM_tri : ∀ {a b}, ltM a b = false → ltM b a = false → a = b
  | [], [], _, _ => rfl
  | [], y :: b, h, _ => by rw [ltM_nil_cons] at h; cases h
  | x :: a, [], _, h => by rw [ltM_nil_cons] at h; cases h
  | x :: a, y :: b, h1, h2 => by
    rw [ltM_cons] at h1 h2
    by_cases xy : x = y
    · subst xy
      rw [if_pos rfl] at h1 h2
      rw [ltM_tri h1 h2]
    · rw [if_neg xy] at h1
      rw [if_neg (Ne.symm xy)] at h2
      have q1 := of_decide_eq_false h1
      have q2 := of_decide_eq_false h2
      omega
theorem ltM_asymm {a b : List Int} (h : ltM a b = true) : ltM b a = false := by
  cases e : ltM b a with
  | false => rfl
  | true => have := ltM_trans h e; rw [ltM_irrefl] at this; cases this
theorem gtM (a b : List Int) : lexc (fun m n => decide (m > n)) (fun x y => decide (x > y)) a b = ltM b a := by
  induction a generalizing b with
  | nil => cases b <;> simp [lexc, ltM]
  | cons x a ih => cases b with
    | nil => simp [lexc, ltM]
    | cons y b =>
      rw [ltM_cons, lexc]
      by_cases xy : x = y
      · subst xy; rw [if_pos rfl, if_pos rfl]; exact ih b
      · rw [if_neg xy, if_neg (Ne.symm xy)]
theorem leM (a b : List Int) : lexc (fun m n => decide (m ≤ n)) (fun x y => decide (x ≤ y)) a b = !ltM b a := by
  induction a generalizing b with
  | nil => cases b <;> simp [lexc, ltM]
  | cons x a ih => cases b with
    | nil => simp [lexc, ltM]
    | cons y b =>
      rw [ltM_cons, lexc]
      by_cases xy : x = y
      · subst xy; rw [if_pos rfl, if_pos rfl]; exact ih b
      · rw [if_neg xy, if_neg (Ne.symm xy)]
        by_cases q : x ≤ y
        · rw [decide_eq_true q, decide_eq_false (by omega)]; rfl
        · rw [decide_eq_false q, decide_eq_true (by omega)]; rfl

/-- the order of what is sent is the order of the marks -/
theorem sent_lt : ∀ (a b : List Int) (l : Int), (∀ k ∈ a, 0 ≤ k) → (∀ k ∈ b, 0 ≤ k) → (sentF l a < sentF l b ↔ ltM a b = true)
  | [], [], l, _, _ => by simp [sentF, ltM_nil]
  | [], y :: b, l, _, _ => by
    rw [ltM_nil_cons, sentF_nil, sentF]
    constructor
    · intro _; rfl
    · intro _
      (repeat' split) <;> exact List.nil_lt_cons _ _
  | x :: a, [], l, _, _ => by rw [ltM_nil, sentF_nil]; simp
  | x :: a, y :: b, l, ha, hb => by
    rw [ltM_cons]
    have hx := ha x (.head _)
    have hy := hb y (.head _)
    have ih := sent_lt a b x (fun k hk => ha k (.tail _ hk)) (fun k hk => hb k (.tail _ hk))
    by_cases xy : x = y
    · subst xy
      rw [if_pos rfl, ← ih, sentF, sentF]
      generalize sentF x a = A
      generalize sentF x b = B
      (repeat' split) <;> simp [List.cons_lt_cons_iff]
    · rw [if_neg xy]
      have hd : ∀ (z : Int) (r : List Int), 0 ≤ z → ∃ q, sentF l (z :: r) = z.toNat :: q := by
        intro z r hz
        rw [sentF]
        (repeat' split)
        · rename_i e; subst e; exact ⟨_, rfl⟩
        · rename_i e; obtain ⟨e, _⟩ := e; subst e; exact ⟨_, rfl⟩
        · exact ⟨_, rfl⟩
      obtain ⟨p, hp⟩ := hd x a hx
      obtain ⟨q, hq⟩ := hd y b hy
      rw [hp, hq, List.cons_lt_cons_iff, decide_eq_true_eq]
      constructor
      · rintro (h | ⟨h, _⟩) <;> omega
      · intro h; left; omega
theorem marks_nonneg : ∀ (t : List Nat) (b : Bool), ∀ k ∈ marksF b t, 0 ≤ k
  | [], b, k, h => by rw [marksF_nil] at h; cases h
  | c :: r, b, k, h => by
    rw [marksF] at h
    (repeat' split at h)
    · rcases List.mem_cons.mp h with rfl | h
      · decide
      · exact marks_nonneg r _ k h
    · exact marks_nonneg r _ k h
    · rcases List.mem_cons.mp h with rfl | h
      · decide
      · exact marks_nonneg r _ k h
    · rcases List.mem_cons.mp h with rfl | h
      · omega
      · exact marks_nonneg r _ k h
theorem marks_small : ∀ (t : List Nat) (b : Bool), (∀ c ∈ t, c < 128) → ∀ k ∈ marksF b t, 0 ≤ k ∧ k < 128
  | [], b, _, k, h => by rw [marksF_nil] at h; cases h
  | c :: r, b, hc, k, h => by
    have hr : ∀ c ∈ r, c < 128 := fun x hx => hc x (.tail _ hx)
    have h0 := hc c (.head _)
    rw [marksF] at h
    (repeat' split at h)
    · rcases List.mem_cons.mp h with rfl | h
      · decide
      · exact marks_small r _ hr k h
    · exact marks_small r _ hr k h
    · rcases List.mem_cons.mp h with rfl | h
      · decide
      · exact marks_small r _ hr k h
    · rcases List.mem_cons.mp h with rfl | h
      · omega
      · exact marks_small r _ hr k h
theorem marks_len : ∀ (t : List Nat) (b : Bool), (marksF b t).length ≤ t.length
  | [], b => by rw [marksF_nil]; exact Nat.le_refl _
  | c :: r, b => by
    have h1 := marks_len r true
    have h2 := marks_len r false
    rw [marksF]
    (repeat' split) <;> simp <;> omega
theorem quote_lt (a b : List Nat) : quote a < quote b ↔ ltM (marksF false a) (marksF false b) = true := by
  rw [quote_sent, quote_sent]
  exact sent_lt _ _ 13 (marks_nonneg a false) (marks_nonneg b false)

section
variable {α : Type} (k : α → List Int) (t : List Int)
def Srt (l : List α) : Prop := l.Pairwise fun a b => ltM (k b) (k a) = false
def Lo (l : List α) : List α := l.filter fun a => ltM (k a) t
def Mi (l : List α) : List α := l.filter fun a => decide (k a = t)
def Hi (l : List α) : List α := l.filter fun a => ltM t (k a)
theorem parts : ∀ {l : List α}, Srt k l → Lo k t l ++ (Mi k t l ++ Hi k t l) = l
  | [], _ => rfl
  | a :: l, h => by
    obtain ⟨h1, h2⟩ := List.pairwise_cons.mp h
    have ih := parts h2
    cases e1 : ltM (k a) t with
    | true =>
      have e2 : ¬ k a = t := fun q => by rw [q, ltM_irrefl] at e1; cases e1
      have e3 := ltM_asymm e1
      rw [Lo, Mi, Hi, List.filter_cons_of_pos (p := fun a => ltM (k a) t) e1, List.filter_cons_of_neg (by simpa using e2), List.filter_cons_of_neg (by rw [e3]; exact Bool.false_ne_true), List.cons_append]
      exact congrArg (a :: ·) ih
    | false =>
      have lo0 : Lo k t l = [] := by
        refine List.filter_eq_nil_iff.mpr fun b hb q => ?_
        have := h1 b hb
        cases e4 : ltM t (k a) with
        | true => rw [ltM_trans q e4] at this; cases this
        | false => rw [← ltM_tri e1 e4] at q; rw [q] at this; cases this
      rw [lo0, List.nil_append] at ih
      have lo1 : Lo k t (a :: l) = [] := by rw [Lo, List.filter_cons_of_neg (by rw [e1]; exact Bool.false_ne_true)]; exact lo0
      rw [lo1, List.nil_append]
      by_cases e2 : k a = t
      · have e3 : ltM t (k a) = false := by rw [e2, ltM_irrefl]
        rw [Mi, Hi, List.filter_cons_of_pos (by simpa using e2), List.filter_cons_of_neg (by rw [e3]; exact Bool.false_ne_true), List.cons_append]
        exact congrArg (a :: ·) ih
      · have e3 : ltM t (k a) = true := by
          cases e4 : ltM t (k a) with
          | true => rfl
          | false => exact absurd (ltM_tri e1 e4) e2
        have mi0 : Mi k t l = [] := by
          refine List.filter_eq_nil_iff.mpr fun b hb q => ?_
          have q' : k b = t := by simpa using q
          have := h1 b hb
          rw [q', e3] at this; cases this
        rw [mi0, List.nil_append] at ih
        rw [Mi, Hi, List.filter_cons_of_neg (by simpa using e2), List.filter_cons_of_pos (p := fun a => ltM t (k a)) e3]
        have mi1 : List.filter (fun a => decide (k a = t)) l = [] := mi0
        rw [mi1, List.nil_append]
        exact congrArg (a :: ·) ih
variable {l : List α}
theorem lo_at (h : Srt k l) {i : Nat} {a : α} (e : l[i]? = some a) : ltM (k a) t = true ↔ i < (Lo k t l).length := by
  have p := parts k t h
  rw [← p] at e
  constructor
  · intro q
    rcases Nat.lt_or_ge i (Lo k t l).length with x | x
    · exact x
    · rw [List.getElem?_append_right x] at e
      rcases List.mem_append.mp (List.mem_of_getElem? e) with m | m
      · have := (List.mem_filter.mp m).2
        have z : k a = t := by simpa using this
        rw [z, ltM_irrefl] at q; cases q
      · have := (List.mem_filter.mp m).2
        rw [ltM_asymm q] at this; cases this
  · intro x
    rw [List.getElem?_append_left x] at e
    exact (List.mem_filter.mp (List.mem_of_getElem? e)).2
theorem hi_at (h : Srt k l) {i : Nat} {a : α} (e : l[i]? = some a) : ltM t (k a) = true ↔ ¬ i < (Lo k t l).length + (Mi k t l).length := by
  have p := parts k t h
  rw [← p, ← List.append_assoc] at e
  constructor
  · intro q x
    rw [List.getElem?_append_left (by rw [List.length_append]; exact x)] at e
    rcases List.mem_append.mp (List.mem_of_getElem? e) with m | m
    · have := (List.mem_filter.mp m).2
      rw [ltM_asymm q] at this; cases this
    · have := (List.mem_filter.mp m).2
      have z : k a = t := by simpa using this
      rw [z, ltM_irrefl] at q; cases q
  · intro x
    rw [List.getElem?_append_right (by rw [List.length_append]; omega)] at e
    exact (List.mem_filter.mp (List.mem_of_getElem? e)).2
theorem take_lo (h : Srt k l) : l.take (Lo k t l).length = Lo k t l ∧ l.drop (Lo k t l).length = Mi k t l ++ Hi k t l := by
  have p := parts k t h
  constructor
  · conv => lhs; arg 2; rw [← p]
    rw [List.take_left]
  · conv => lhs; arg 2; rw [← p]
    rw [List.drop_left]
theorem take_mi (h : Srt k l) : l.take ((Lo k t l).length + (Mi k t l).length) = Lo k t l ++ Mi k t l ∧ l.drop ((Lo k t l).length + (Mi k t l).length) = Hi k t l := by
  have p := parts k t h
  rw [← List.append_assoc] at p
  constructor
  · conv => lhs; arg 2; rw [← p]
    rw [← List.length_append, List.take_left]
  · conv => lhs; arg 2; rw [← p]
    rw [← List.length_append, List.drop_left]
theorem mid_srt (h : Srt k l) {x : α} (hx : k x = t) : Srt k (Lo k t l ++ x :: (Mi k t l ++ Hi k t l)) ∧ Srt k (Lo k t l ++ Mi k t l ++ x :: Hi k t l) := by
  have p := parts k t h
  have h' := h
  rw [← p] at h'
  obtain ⟨a1, a2, a3⟩ := List.pairwise_append.mp h'
  obtain ⟨b1, b2, b3⟩ := List.pairwise_append.mp a2
  have lo : ∀ a ∈ Lo k t l, ltM t (k a) = false := fun a ha => ltM_asymm (List.mem_filter.mp ha).2
  have mi : ∀ a ∈ Mi k t l, k a = t := fun a ha => by simpa using (List.mem_filter.mp ha).2
  have hi : ∀ a ∈ Hi k t l, ltM (k a) t = false := fun a ha => ltM_asymm (List.mem_filter.mp ha).2
  constructor
  · refine List.pairwise_append.mpr ⟨a1, List.pairwise_cons.mpr ⟨fun b hb => ?_, a2⟩, fun a ha b hb => ?_⟩
    · rw [hx]
      rcases List.mem_append.mp hb with q | q
      · rw [mi b q, ltM_irrefl]
      · exact hi b q
    · rcases List.mem_cons.mp hb with rfl | hb
      · rw [hx]; exact lo a ha
      · exact a3 a ha b hb
  · rw [List.append_assoc]
    refine List.pairwise_append.mpr ⟨a1, List.pairwise_append.mpr ⟨b1, List.pairwise_cons.mpr ⟨fun b hb => ?_, b2⟩, fun a ha b hb => ?_⟩, fun a ha b hb => ?_⟩
    · rw [hx]; exact hi b hb
    · rcases List.mem_cons.mp hb with rfl | hb
      · rw [hx, mi a ha, ltM_irrefl]
      · exact b3 a ha b hb
    · rcases List.mem_append.mp hb with q | q
      · exact a3 a ha b (List.mem_append_left _ q)
      · rcases List.mem_cons.mp q with rfl | q
        · rw [hx]; exact lo a ha
        · exact a3 a ha b (List.mem_append_right _ q)
theorem le_count (h : Srt k l) : (l.filter fun a => !ltM t (k a)).length = (Lo k t l).length + (Mi k t l).length := by
  have p := parts k t h
  conv => lhs; rw [← p]
  rw [List.filter_append, List.filter_append, List.length_append, List.length_append]
  have e1 : (Lo k t l).filter (fun a => !ltM t (k a)) = Lo k t l := List.filter_eq_self.mpr fun a ha => by rw [ltM_asymm (List.mem_filter.mp ha).2]; rfl
  have e2 : (Mi k t l).filter (fun a => !ltM t (k a)) = Mi k t l := List.filter_eq_self.mpr fun a ha => by
    have : k a = t := by simpa using (List.mem_filter.mp ha).2
    rw [this, ltM_irrefl]; rfl
  have e3 : (Hi k t l).filter (fun a => !ltM t (k a)) = [] := List.filter_eq_nil_iff.mpr fun a ha => by rw [(List.mem_filter.mp ha).2]; decide
  rw [e1, e2, e3]; rfl
end
end Mine
end
/-! D1 -/
section
open PySem PySem.W PySem.Calls PyProof.Rows
set_option maxRecDepth 100000
namespace Mine
/-- a pair of the law's own: its marks (not the row itself) and its text -/
def PairAt (R : Addr) (h : Heap) (v : Value) (t : Str) : Prop :=
  ∃ p q tok ms, v = .ref p ∧ IsTup h p [.ref q, .str t tok].toArray ∧ h.IsList q (List.toArray ms) ∧ IntsAre ms (marksF false t.cps.toList) ∧ p ≠ R ∧ q ≠ R
inductive PairsAre (R : Addr) (h : Heap) : List Value → List Str → Prop
  | nil : PairsAre R h [] []
  | cons {v : Value} {t : Str} {vs : List Value} {ts : List Str} : PairAt R h v t → PairsAre R h vs ts → PairsAre R h (v :: vs) (t :: ts)
theorem PairAt.keepB {R : Addr} {h h' : Heap} {v : Value} {t : Str} (x : PairAt R h v t) (k : ∀ b o, b ≠ R → h.get? b = some o → h'.get? b = some o) : PairAt R h' v t := by
  obtain ⟨p, q, tok, ms, e, ⟨o, ho, r⟩, ⟨o2, ho2, r2⟩, i, n1, n2⟩ := x
  exact ⟨p, q, tok, ms, e, ⟨o, k _ _ n1 ho, r⟩, ⟨o2, k _ _ n2 ho2, r2⟩, i, n1, n2⟩
theorem PairAt.keeps {R : Addr} {h h' : Heap} {v : Value} {t : Str} (x : PairAt R h v t) (k : h.StaysIn h') : PairAt R h' v t := x.keepB fun b o _ e => k b o e
theorem PairsAre.keepB {R : Addr} {h h' : Heap} {vs : List Value} {ts : List Str} (x : PairsAre R h vs ts) (k : ∀ b o, b ≠ R → h.get? b = some o → h'.get? b = some o) : PairsAre R h' vs ts := by
  induction x with
  | nil => exact .nil
  | cons a _ ih => exact .cons (a.keepB k) ih
theorem PairsAre.keeps {R : Addr} {h h' : Heap} {vs : List Value} {ts : List Str} (x : PairsAre R h vs ts) (k : h.StaysIn h') : PairsAre R h' vs ts := x.keepB fun b o _ e => k b o e
theorem PairsAre.length {R : Addr} {h : Heap} {vs : List Value} {ts : List Str} (x : PairsAre R h vs ts) : vs.length = ts.length := by
  induction x with
  | nil => rfl
  | cons _ _ ih => simp [ih]
theorem PairsAre.append {R : Addr} {h : Heap} {vs vs' : List Value} {ts ts' : List Str} (x : PairsAre R h vs ts) (y : PairsAre R h vs' ts') : PairsAre R h (vs ++ vs') (ts ++ ts') := by
  induction x with
  | nil => exact y
  | cons a _ ih => exact .cons a ih
theorem PairsAre.at {R : Addr} {h : Heap} {vs : List Value} {ts : List Str} (x : PairsAre R h vs ts) : ∀ {i : Nat} {v : Value}, vs[i]? = some v → ∃ t, ts[i]? = some t ∧ PairAt R h v t := by
  induction x with
  | nil => intro i v e; simp at e
  | cons a _ ih => intro i v e; cases i with
    | zero => cases e; exact ⟨_, rfl, a⟩
    | succ i => exact ih (by simpa using e)
theorem PairAt.one {R : Addr} {h : Heap} {v : Value} {t t' : Str} (x : PairAt R h v t) (y : PairAt R h v t') : t = t' := by
  obtain ⟨p, q, tok, ms, rfl, ⟨o, ho, hc, n, hd⟩, r⟩ := x
  obtain ⟨p', q', tok', ms', e, ⟨o', ho', hc', n', hd'⟩, r'⟩ := y
  cases e
  rw [ho] at ho'; cases ho'
  rw [hd] at hd'
  injection hd' with hd' _
  have := congrArg Array.toList hd'
  simp at this
  exact this.2.1
theorem PairsAre.filter {R : Addr} {h : Heap} {vs : List Value} {ts : List Str} (x : PairsAre R h vs ts) {p : Value → Bool} {test : Str → Bool} (hp : ∀ v t, PairAt R h v t → p v = test t) : PairsAre R h (vs.filter p) (ts.filter test) := by
  induction x with
  | nil => exact .nil
  | cons a _ ih =>
    rw [List.filter_cons, List.filter_cons, hp _ _ a]
    split
    · exact .cons a ih
    · exact ih
open Classical in
noncomputable def pickP (R : Addr) (h : Heap) (test : Str → Bool) (v : Value) : Bool := decide (∃ t, PairAt R h v t ∧ test t = true)
open Classical in
theorem pickP_of {R : Addr} {h : Heap} {test : Str → Bool} {v : Value} {t : Str} (x : PairAt R h v t) : pickP R h test v = test t := by
  unfold pickP
  cases e : test t with
  | true => exact decide_eq_true ⟨t, x, e⟩
  | false =>
    refine decide_eq_false ?_
    rintro ⟨t', x', e'⟩
    rw [← x.one x', e] at e'; cases e'

theorem paired_eq {l l' : List Value} (h : Paired (fun v y => y = v) l l') : l' = l := by
  induction h with
  | nil => rfl
  | cons a _ ih => rw [ih, a]

section
variable {w : World} {A : Around} {E : Value → Shared → Prop} {s : Shared} {env : Env} {scope : Scope} {cl : List (Str × Addr)} {R c : Addr} {op : CmpOp} {tst : List Int → List Int → Bool}
/-- the tests «pair[0] op marks» of the law's comprehensions -/
theorem quiet_filter {ts : List Str} {vs : List Value} {Mq : Addr} {mv : List Value} {Mi : List Int} {g : Heap} {s₂ : Shared} {wr : List Addr} {p1 p2 p3 p4 p5 pe : Pos}
    (hcmp : ∀ (A : Around) (E : Value → Shared → Prop) (s : Shared) (a b : Addr) (xs ys : List Value) (ns ms : List Int) (Q : Value → Shared → Prop), s.heap.IsList a xs.toArray → s.heap.IsList b ys.toArray → IntsAre xs ns → IntsAre ys ms → A.units + 64 < cLine → Q (.bool (tst ns ms)) s → wpAny (model pg w) A (compareOp op (.ref a) (.ref b)) Q E s)
    (hu : A.units + 64 < cLine) (hP : PairsAre R g vs ts) (hc : g.IsCell c (some (.ref Mq))) (hM : g.IsList Mq mv.toArray) (hMi : IntsAre mv Mi)
    (hg : g.StaysIn s₂.heap) (hwr : ∀ b ∈ wr, g.get? b = none)
    (hkk : ∀ C, (compEnvC scope cl C env).scope.kind = .function) (hkp : ∀ C, (compEnvC scope cl C env).kindOf (Str.ofString "pair") = some .local) (hkm : ∀ C, (compEnvC scope cl C env).kindOf (Str.ofString "marks") = some .cell) (hcl : cl.lookup (Str.ofString "marks") = some c)
    (hb : behindInMarks op (.Name (Str.ofString "marks") p4) = false) :
    QuietOnC pg w A env scope cl (Str.ofString "pair") [.Compare (.Subscript (.Name (Str.ofString "pair") p1) (.Constant (.int 0) 0 p2) p3) [op] [.Name (Str.ofString "marks") p4] p5] (.Name (Str.ofString "pair") pe) wr (fun i v => vs[i]? = some v)
      (pickP R g fun t => tst (marksF false t.cps.toList) Mi) (fun v y => y = v) s₂ := by
  have keep : ∀ {s₃ : Shared}, (∀ b o, b ∉ wr → s₂.heap.get? b = some o → s₃.heap.get? b = some o) → ∀ b o, g.get? b = some o → s₃.heap.get? b = some o := by
    intro s₃ k b o e
    exact k b o (fun hb => by rw [hwr b hb] at e; cases e) (hg b o e)
  constructor
  · intro C i v s₃ m₃ E' hC hv hn hm hk htk
    obtain ⟨t, _, pa⟩ := hP.at hv
    rw [pickP_of pa]
    obtain ⟨p, q, tok, ms, rfl, ⟨o, ho, hoc, n, hod⟩, ⟨o2, ho2, ho2c, hod2⟩, hI, n1, n2⟩ := pa
    have ho' := keep hk _ _ ho
    have ho2' := keep hk _ _ ho2
    obtain ⟨o3, ho3, ho3c, hod3⟩ := hM
    have ho3' := keep hk _ _ ho3
    obtain ⟨o4, ho4, hod4⟩ := hc
    have ho4' := keep hk _ _ ho4
    rw [List.forIn_cons]
    refine wpAny_bind ?_
    rw [if_pos rfl]
    refine wpAny_bind ?_
    refine wpAny_isTrue_Compare1 ?_ hb
    refine Subscript_ (wpAny_Name (wpAny_loadName_local (hkk C) (hkp C) hn hm ?_))
    refine wpAny_Constant_int ?_
    refine item_tupleT (j := 0) (l := [.ref q, .str t tok]) ⟨o, ho', hoc, n, hod⟩ (by decide) (by decide) rfl rfl ?_
    refine wpAny_Name (wpAny_loadName_cell (hkk C) (hkm C) hcl ⟨o4, ho4', hod4⟩ ?_)
    refine hcmp _ _ _ _ _ _ _ _ _ _ ⟨o2, ho2', ho2c, hod2⟩ ⟨o3, ho3', ho3c, hod3⟩ hI hMi hu ?_
    refine wpAny_truthy_bool ?_
    refine wpAny_pure ?_
    refine wpAny_pure ⟨rfl, _, _, rfl, fun b o e => e⟩
  · intro C i v s₃ m₃ E' hC hv hpv hn hm hk htk
    exact wpAny_Name (wpAny_loadName_local (hkk C) (hkp C) hn hm ⟨rfl, _, _, rfl, fun b o e => e⟩)

theorem push_stays (h : Heap) (o : Obj) : h.StaysIn (h.push o) := fun _ _ e => Heap.get?_push_of_some _ e
/-- [pair for pair in due if pair[0] op marks], as a value -/
theorem comp_value {ts : List Str} {vs : List Value} {D Mq : Addr} {mv : List Value} {Mi : List Int} {iter : Expr} {Q : Value → Shared → Prop} {p1 p2 p3 p4 p5 pe px pos : Pos}
    (hh : A.handled = none) (hit : wpAny (model pg w) A (eval iter env) (fun xv s₁ => xv = .ref D ∧ s₁ = s) E s) (hD : s.heap.IsList D vs.toArray)
    (hcmp : ∀ (A : Around) (E : Value → Shared → Prop) (s : Shared) (a b : Addr) (xs ys : List Value) (ns ms : List Int) (Q : Value → Shared → Prop), s.heap.IsList a xs.toArray → s.heap.IsList b ys.toArray → IntsAre xs ns → IntsAre ys ms → A.units + 64 < cLine → Q (.bool (tst ns ms)) s → wpAny (model pg w) A (compareOp op (.ref a) (.ref b)) Q E s)
    (hu : A.units + 64 < cLine) (hP : PairsAre R s.heap vs ts) (hc : s.heap.IsCell c (some (.ref Mq))) (hM : s.heap.IsList Mq mv.toArray) (hMi : IntsAre mv Mi) (hlen : vs.length ≤ 1000)
    (hclos : closureFor scope env = pure cl) (hcell : ∀ y ∈ scope.names, y.2 ≠ .cell) (hkind : scope.kind = .function) (hnames : ∀ y ∈ scope.names, y.2 = .local → scope.names.lookup y.1 = some .local) (hx : scope.names.lookup (Str.ofString "pair") = some .local)
    (hkk : ∀ C, (compEnvC scope cl C env).scope.kind = .function) (hkp : ∀ C, (compEnvC scope cl C env).kindOf (Str.ofString "pair") = some .local) (hkm : ∀ C, (compEnvC scope cl C env).kindOf (Str.ofString "marks") = some .cell) (hcl : cl.lookup (Str.ofString "marks") = some c)
    (hb : behindInMarks op (.Name (Str.ofString "marks") p4) = false) (hs : ∀ x, foldedSetIterable iter env x = pure x)
    (hQ : ∀ D' h' tk ys, s.heap.get? D' = none → h'.PlainList D' (List.toArray ys) → PairsAre R h' ys (ts.filter fun t => tst (marksF false t.cps.toList) Mi) → s.heap.StaysIn h' → Q (.ref D') { s with heap := h', toks := tk }) :
    wpAny (model pg w) A (eval (.ListComp (.Name (Str.ofString "pair") pe) [⟨.Name (Str.ofString "pair") px, iter, [.Compare (.Subscript (.Name (Str.ofString "pair") p1) (.Constant (.int 0) 0 p2) p3) [op] [.Name (Str.ofString "marks") p4] p5], 0⟩] scope pos) env) Q E s := by
  have e24 : sizeLine = 16777216 := by decide
  have hne : D ≠ s.heap.objs.size := by obtain ⟨o, e, _⟩ := hD; exact Nat.ne_of_lt (Heap.lt_size e)
  have st := push_stays s.heap { cls := .type "list_iterator", data := .fields #[.ref D, .int 0 0] }
  refine wpAny_ListComp_free (cl := cl) (pickP R s.heap fun t => tst (marksF false t.cps.toList) Mi) (fun v y => y = v) hclos hcell hkind hnames hx (wpAny_mono hit ?_ fun _ _ e => e) hs
  rintro xv s₁ ⟨rfl, rfl⟩
  refine wpAny_pyIter_list hD ?_
  refine ⟨s₁.heap.objs.size, _, _, _, _, _, rfl, Walks.list hh s₁.heap.objs.size D hne vs.toArray, by rw [List.size_toArray]; omega, ⟨⟨_, Heap.get?_push_size _ rfl, rfl, rfl⟩, hD.at fun o e => Heap.get?_push_of_some _ e⟩, ?_, ?_, ?_⟩
  · intro b hb'
    rw [Heap.size_push]
    rcases List.mem_cons.mp hb' with rfl | hb'
    · exact Nat.lt_succ_self _
    · rw [List.mem_singleton.mp hb']; obtain ⟨o, e, _⟩ := hD; exact Nat.lt_succ_of_lt (Heap.lt_size e)
  · have q := quiet_filter (w := w) (A := A) (env := env) (scope := scope) (cl := cl) (g := s₁.heap) (wr := [s₁.heap.objs.size]) (s₂ := { s₁ with heap := s₁.heap.push { cls := .type "list_iterator", data := .fields #[.ref D, .int 0 0] } }) (p1 := p1) (p2 := p2) (p3 := p3) (p5 := p5) (pe := pe) hcmp hu hP hc hM hMi st (fun b hb' => by rw [List.mem_singleton.mp hb']; exact fresh_at _) hkk hkp hkm hcl hb
    simpa using q
  · intro D' h' tk ys vs' n1 n2 n3 n4 n5 n6 n7
    have hv : vs' = vs := by
      apply List.ext_getElem?
      intro i
      rcases Nat.lt_or_ge i vs'.length with hi | hi
      · have := n5 i _ (List.getElem?_eq_getElem hi)
        rw [List.getElem?_eq_getElem hi]
        simpa using this.symm
      · rw [List.getElem?_eq_none hi, List.getElem?_eq_none (by rw [n4, List.size_toArray] at hi; exact hi)]
    subst hv
    have hy := paired_eq n6
    have sh : s₁.heap.StaysIn h' := fun b o e => n7 b o (by rw [List.mem_singleton]; exact Nat.ne_of_lt (Heap.lt_size e)) (st b o e)
    refine hQ D' h' tk ys.toList ?_ (by simpa using n3) ?_ sh
    · cases e : s₁.heap.get? D' with
      | none => rfl
      | some o => rw [st _ _ e] at n1; cases n1
    · rw [hy]
      exact (hP.filter (fun v t x => pickP_of x)).keeps sh

theorem ns_ne {h : Heap} {L b : Addr} {m : Str → Option Value} {o : Obj} {xs : Array Value} {n : Nat} (hL : h.Ns L m) (e : h.get? b = some o) (hd : o.data = .seq xs n) : b ≠ L := by
  rintro rfl
  obtain ⟨o', es, ep, e', hd', _⟩ := hL
  rw [e] at e'; cases e'
  rw [hd] at hd'; cases hd'
theorem PairsAre.keepL {h h' : Heap} {L : Addr} {m : Str → Option Value} {vs : List Value} {ts : List Str} (x : PairsAre R h vs ts) (hL : h.Ns L m) (k : ∀ b o, b ≠ L → h.get? b = some o → h'.get? b = some o) : PairsAre R h' vs ts := by
  induction x with
  | nil => exact .nil
  | cons a _ ih =>
    refine .cons ?_ ih
    obtain ⟨p, q, tok, ms, e, ⟨o, ho, hc, n, hd⟩, ⟨o2, ho2, hc2, n2, hd2⟩, i, n1, n2⟩ := a
    exact ⟨p, q, tok, ms, e, ⟨o, k _ _ (ns_ne hL ho hd) ho, hc, n, hd⟩, ⟨o2, k _ _ (ns_ne hL ho2 hd2) ho2, hc2, _, hd2⟩, i, n1, n2⟩
/-- y = [pair for pair in due if pair[0] op marks] -/
theorem comp_assign {ts : List Str} {vs : List Value} {D Mq : Addr} {mv : List Value} {Mi : List Int} {iter : Expr} {Q : Flow → Shared → Prop} {p1 p2 p3 p4 p5 pe px pos spos py : Pos} {y : Str} {m : Str → Option Value}
    (hh : A.handled = none) (hn : s.heap.Ns env.locals m) (hit : wpAny (model pg w) A (eval iter env) (fun xv s₁ => xv = .ref D ∧ s₁ = s) E s) (hD : s.heap.IsList D vs.toArray)
    (hcmp : ∀ (A : Around) (E : Value → Shared → Prop) (s : Shared) (a b : Addr) (xs ys : List Value) (ns ms : List Int) (Q : Value → Shared → Prop), s.heap.IsList a xs.toArray → s.heap.IsList b ys.toArray → IntsAre xs ns → IntsAre ys ms → A.units + 64 < cLine → Q (.bool (tst ns ms)) s → wpAny (model pg w) A (compareOp op (.ref a) (.ref b)) Q E s)
    (hu : A.units + 64 < cLine) (hP : PairsAre R s.heap vs ts) (hc : s.heap.IsCell c (some (.ref Mq))) (hM : s.heap.IsList Mq mv.toArray) (hMi : IntsAre mv Mi) (hlen : vs.length ≤ 1000)
    (hsw : swapsWith (.ListComp (.Name (Str.ofString "pair") pe) [⟨.Name (Str.ofString "pair") px, iter, [.Compare (.Subscript (.Name (Str.ofString "pair") p1) (.Constant (.int 0) 0 p2) p3) [op] [.Name (Str.ofString "marks") p4] p5], 0⟩] scope pos) (some (.Name y py)) spos.line env = pure true)
    (hclos : closureFor scope env = pure cl) (hcell : ∀ y ∈ scope.names, y.2 ≠ .cell) (hkind : scope.kind = .function) (hnames : ∀ y ∈ scope.names, y.2 = .local → scope.names.lookup y.1 = some .local) (hx : scope.names.lookup (Str.ofString "pair") = some .local)
    (hy : env.kindOf y = some .local) (hp : (env.scope.kind == .class || (env.scope.kind == .module && env.locals != env.globals)) = false)
    (hkk : ∀ C, (compEnvC scope cl C env).scope.kind = .function) (hkp : ∀ C, (compEnvC scope cl C env).kindOf (Str.ofString "pair") = some .local) (hkm : ∀ C, (compEnvC scope cl C env).kindOf (Str.ofString "marks") = some .cell) (hcl : cl.lookup (Str.ofString "marks") = some c)
    (hb : behindInMarks op (.Name (Str.ofString "marks") p4) = false) (hs : ∀ x, foldedSetIterable iter env x = pure x)
    (hQ : ∀ D' h' tk ys, s.heap.get? D' = none → h'.PlainList D' (List.toArray ys) → PairsAre R h' ys (ts.filter fun t => tst (marksF false t.cps.toList) Mi) → h'.Ns env.locals (fun z => if z = y then some (.ref D') else m z) → (∀ b o, b ≠ env.locals → s.heap.get? b = some o → h'.get? b = some o) → Q .next { s with heap := h', toks := tk }) :
    wpAny (model pg w) A (exec (.Assign [.Name y py] (.ListComp (.Name (Str.ofString "pair") pe) [⟨.Name (Str.ofString "pair") px, iter, [.Compare (.Subscript (.Name (Str.ofString "pair") p1) (.Constant (.int 0) 0 p2) p3) [op] [.Name (Str.ofString "marks") p4] p5], 0⟩] scope pos) spos) env) Q E s := by
  have e24 : sizeLine = 16777216 := by decide
  have hne : D ≠ s.heap.objs.size := by obtain ⟨o, e, _⟩ := hD; exact Nat.ne_of_lt (Heap.lt_size e)
  have st := push_stays s.heap { cls := .type "list_iterator", data := .fields #[.ref D, .int 0 0] }
  refine wpAny_Assign_ListComp_free (cl := cl) (pickP R s.heap fun t => tst (marksF false t.cps.toList) Mi) (fun v y => y = v) hsw hclos hcell hkind hnames hx hy hp (wpAny_mono hit ?_ fun _ _ e => e) hs
  rintro xv s₁ ⟨rfl, rfl⟩
  refine wpAny_pyIter_list hD ?_
  refine ⟨s₁.heap.objs.size, _, _, _, _, _, m, rfl, Walks.list hh s₁.heap.objs.size D hne vs.toArray, by rw [List.size_toArray]; omega, ⟨⟨_, Heap.get?_push_size _ rfl, rfl, rfl⟩, hD.at fun o e => Heap.get?_push_of_some _ e⟩, ?_, ?_, hn.keeps st, ?_, ?_⟩
  · intro b hb'
    rw [Heap.size_push]
    rcases List.mem_cons.mp hb' with rfl | hb'
    · exact Nat.lt_succ_self _
    · rw [List.mem_singleton.mp hb']; obtain ⟨o, e, _⟩ := hD; exact Nat.lt_succ_of_lt (Heap.lt_size e)
  · rw [List.mem_singleton]; exact Nat.ne_of_lt hn.lt
  · have q := quiet_filter (w := w) (A := A) (env := env) (scope := scope) (cl := cl) (g := s₁.heap) (wr := [s₁.heap.objs.size]) (s₂ := { s₁ with heap := s₁.heap.push { cls := .type "list_iterator", data := .fields #[.ref D, .int 0 0] } }) (p1 := p1) (p2 := p2) (p3 := p3) (p5 := p5) (pe := pe) hcmp hu hP hc hM hMi st (fun b hb' => by rw [List.mem_singleton.mp hb']; exact fresh_at _) hkk hkp hkm hcl hb
    simpa using q
  · intro D' h' tk ys vs' n1 n2 n3 n4 n5 n6 n8 n7
    have hv : vs' = vs := by
      apply List.ext_getElem?
      intro i
      rcases Nat.lt_or_ge i vs'.length with hi | hi
      · have := n5 i _ (List.getElem?_eq_getElem hi)
        rw [List.getElem?_eq_getElem hi]
        simpa using this.symm
      · rw [List.getElem?_eq_none hi, List.getElem?_eq_none (by rw [n4, List.size_toArray] at hi; exact hi)]
    subst hv
    have hy := paired_eq n6
    have sh : ∀ b o, b ≠ env.locals → s₁.heap.get? b = some o → h'.get? b = some o := fun b o hb' e => n7 b o hb' (by rw [List.mem_singleton]; exact Nat.ne_of_lt (Heap.lt_size e)) (st b o e)
    refine hQ D' h' tk ys.toList ?_ (by simpa using n3) ?_ n8 sh
    · cases e : s₁.heap.get? D' with
      | none => rfl
      | some o => rw [st _ _ e] at n1; cases n1
    · rw [hy]
      exact (hP.filter (fun v t x => pickP_of x)).keepL hn sh
end
end Mine
end
/-! D2 -/
section
open PySem PySem.W PySem.Calls PyProof.Rows
set_option maxRecDepth 100000
namespace Mine
theorem enterC {w : World} {A : Around} {E : Value → Shared → Prop} {Q : Value → Shared → Prop} {s : Shared} {mg mb : Str → Option Value}
    {name qual : Str} {params : Arguments} {body : List Stmt} {scope : Scope} {dV kV doc pm cdv ct oc : Value} {an od : Option Addr} {osl : Array (Option Value)} {f : Addr} {pos : List Value} {kw : List (Str × Value)} {binds : List (Str × Value)}
    (X : (hd.heap_39 w.params).In s.heap) (T : TR mg mb s.heap)
    (ho : (hd.heap_39 w.params).lookup f = some ⟨oc, od, .func (fnOf name qual params body scope dV kV doc pm an cdv ct), osl⟩) (hcd : codeIn (hd.heap_39 w.params) cdv qual = true) (hroom : A.depth < recursionLimit)
    (hbind : ∀ S, peek (hd.heap_39 w.params) S (bindArgs (fnOf name qual params body scope dV kV doc pm an cdv ct) ⟨pos, kw⟩) = some binds)
    (hkind : (binds.all fun y => scope.names.lookup y.1 == some .local || scope.names.lookup y.1 == some .cell) = true)
    (hnd : ((cellsFrom 0 scope.names []).map (·.1)).Nodup)
    (h : ∀ h₁ tk cells, Fr s.heap s.heap.objs.size h₁ (bindL (envOfC qual scope s.heap.objs.size f cdv).kindOf binds fun _ => none) → News s.heap s.heap.objs.size h₁ cells →
      CellsAre (bindC (envOfC qual scope s.heap.objs.size f cdv).kindOf binds fun _ => none) (cellsFrom (s.heap.objs.size + 1) scope.names []) cells →
      wpAny (model pg w) (A.deeper (envOfC qual scope s.heap.objs.size f cdv)) (execs body (envOfC qual scope s.heap.objs.size f cdv))
        (fun fl s' => Q (match fl with | .ret v => v | _ => .none) s') (fun _ _ => False)
        { s with heap := h₁, toks := tk })
    (hco : scope.isCoroutine = false) (hgen : scope.isGenerator = false) (hk : scope.kind = .function) : wpAny (model pg w) A (call (.ref f) pos kw) Q E s := by
  refine wpAny_call (codeAny_call_function hroom (X _ _ ho) rfl hco hgen rfl (codeRec_of X hcd) (kp_binds X hbind _ _ _ _ ?_))
  refine wpAny_newFunctionEnv_cells hk (kindsX hkind _) fun env' he s' x => ?_
  subst he
  refine ⟨T.nolimit.keeps x.toInCall.keep, codeAny_func ?_⟩
  obtain ⟨h₁, tk, rfl, _⟩ := x.done
  have hk₁ := x.toInCall.keep
  obtain ⟨cells, NC, Y⟩ := Cl.news (h₀ := s.heap) (Nat.le_refl _) fun n c hm => ⟨x.cell n c (lookup_of_mem_nodup (cellsFrom_names scope.names 0 (s.heap.objs.size + 1) [] [] rfl ▸ hnd) hm), x.above n c hm⟩
  exact wpAny_mono (h h₁ tk cells ⟨x.toInCall.ns, hk₁, Nat.le_refl _⟩ NC Y) (fun fl s' q => q) (fun _ _ x => x.elim)

section
variable {prog : Program} {w : World} {A : Around} {env : Env} {y1 y2 : Str} {py1 py2 pt : Pos} {k1 : Nat} {body : List Stmt} {Q : Flow → Shared → Prop} {E : Value → Shared → Prop} {s : Shared} {R : Addr}
theorem for_pairs {l : Addr} {vs : List Value} {ts : List Str} (hh : A.handled = none) (hl : s.heap.IsList l vs.toArray) (Inv : Nat → Heap → Prop) (h0 : ∀ o, Inv 0 (s.heap.push o))
    (stable : ∀ i h h', Inv i h → (∀ b o, b ∉ [s.heap.objs.size] → h.get? b = some o → h'.get? b = some o) → Inv i h')
    {g : Heap} (pairs : PairsAre R g vs ts) (hg : ∀ i h, Inv i h → g.StaysIn h)
    (turn : ∀ i q tok t h tk oI, vs[i]? ≠ none → ts[i]? = some t → (∃ ms, g.IsList q (List.toArray ms) ∧ IntsAre ms (marksF false t.cps.toList)) → h.IsList l vs.toArray → Inv i h → h.get? s.heap.objs.size = some oI → wpAny (model prog w) A (storeName env y1 (.ref q)) (fun _ s₁ => wpAny (model prog w) A (storeName env y2 (.str t tok)) (fun _ s₂ => wpAny (model prog w) A (execs body env) (fun f s₃ => match f with
      | .next | .cont => TurnEnd s (fun h' => h'.get? s.heap.objs.size = some oI ∧ (∀ o, h.get? l = some o → h'.get? l = some o) ∧ Inv (i + 1) h') s₃
      | .brk => Q .next s₃
      | .ret v => Q (.ret v) s₃) E s₂) E s₁) E { s with heap := h, toks := tk })
    (done : ∀ h tk, Inv vs.length h → Q .next { s with heap := h, toks := tk })
    (hext : ∀ i h h', Inv i h → h.StaysIn h' → Inv i h') :
    wpAny (model prog w) A (pyIter (.ref l)) (fun it s₂ => ForAt prog w A env (.Tuple [.Name y1 py1, .Name y2 py2] k1 pt) body Q E it s₂) E s := by
  have hne : l ≠ s.heap.objs.size := by
    obtain ⟨o, e, _⟩ := hl
    exact Nat.ne_of_lt (Heap.lt_size e)
  refine wpAny_pyIter_list hl ?_
  refine ⟨s.heap.objs.size, _, _, _, _, _, Inv, rfl, Walks.list hh s.heap.objs.size l hne vs.toArray, ⟨⟨_, Heap.get?_push_size _ rfl, rfl, rfl⟩, hl.at fun o e => Heap.get?_push_of_some _ e⟩, h0 _, stable, ?_, by rw [List.size_toArray]; exact done⟩
  rintro i v h tk hi hP hI hSt
  have hv : vs[i]? = some v := by simpa using hP
  obtain ⟨t, ht, p, q, tok, ms, rfl, htup, hq, hms, _, _⟩ := pairs.at hv
  replace htup := htup.keeps (hg i h hI)
  obtain ⟨⟨oI, eI, cI, dI⟩, hl'⟩ := hSt
  refine wpAny_bind (m := load s.heap.objs.size) (wpAny_load eI ?_)
  rw [cI, dI]
  dsimp only
  rw [if_neg (by simp)]
  refine wpAny_pure ?_
  refine assign_Tuple_tuple hh htup rfl rfl fun h₂ ext => ?_
  have st : h.StaysIn h₂ := fun b o e => ext b o (Nat.ne_of_lt (Heap.lt_size e)) e
  show wpAny (model prog w) A (assignInOrder [assign (.Name y1 py1) env, assign (.Name y2 py2) env] [.ref q, .str t tok]) _ _ _
  show wpAny (model prog w) A (do assign (.Name y1 py1) env (.ref q); assignInOrder [assign (.Name y2 py2) env] [.str t tok]) _ _ _
  refine wpAny_bind (wpAny_assign_Name ?_)
  refine wpAny_mono (turn i q tok t h₂ tk oI (by rw [hv]; exact Option.some_ne_none _) ht ⟨ms, hq, hms⟩ (list_stays hl' st) (hext _ _ _ hI st) (st _ _ eI)) (fun _ s₃ h₃ => ?_) fun _ _ e => e
  show wpAny (model prog w) A (do assign (.Name y2 py2) env (.str t tok); assignInOrder [] []) _ _ _
  refine wpAny_bind (wpAny_assign_Name (wpAny_mono h₃ (fun _ s₄ h₄ => ?_) fun _ _ e => e))
  refine wpAny_pure (wpAny_mono h₄ (fun f s₅ h₅ => ?_) fun _ _ e => e)
  have fin : TurnEnd s (fun h' => h'.get? s.heap.objs.size = some oI ∧ (∀ o, h₂.get? l = some o → h'.get? l = some o) ∧ Inv (i + 1) h') s₅ →
      ∃ h' tk', s₅ = { s with heap := h', toks := tk' } ∧ (∀ b ∈ [s.heap.objs.size, l], ∀ o, h.get? b = some o → h'.get? b = some o) ∧ Inv (i + 1) h' := by
    rintro ⟨h', tk', e, k1, k2, I'⟩
    refine ⟨h', tk', e, fun b hb o e => ?_, I'⟩
    rcases List.mem_cons.mp hb with rfl | hb
    · rw [eI] at e; cases e; exact k1
    · rw [List.mem_singleton.mp hb] at e ⊢; exact k2 o (st _ _ e)
  cases f with
  | next => obtain ⟨h', tk', rfl, k⟩ := fin h₅; exact ⟨h', tk', rfl, k⟩
  | cont => obtain ⟨h', tk', rfl, k⟩ := fin h₅; exact ⟨h', tk', rfl, k⟩
  | brk => exact h₅
  | ret v => exact h₅
end
end Mine
end
/-! L5 -/
section
open PySem PySem.W PySem.Calls PyProof.Rows
set_option maxRecDepth 100000
namespace Mine
abbrev mk (t : Str) : List Int := marksF false t.cps.toList
abbrev qs (t : Str) : Str := ⟨(quote t.cps.toList).toArray⟩
def FJ (g : Heap) (L D S I : Addr) (_ : Nat) (h : Heap) : Prop :=
  ∃ m oc cv, Fr g L h m ∧ m (Str.ofString "due") = some (.ref D) ∧ m (Str.ofString "sent") = some (.ref S) ∧ h.get? (L + 1) = some oc ∧ oc.data = .cell cv ∧ L + 1 ≠ I ∧ g.get? (L + 1) = none
local macro_rules | `(tactic| walk_at "mine steps") => `(tactic| repeat' ((fail_if_success (with_reducible show wpAny _ _ (exec (Stmt.While _ _ _ _) _) _ _ _)); (fail_if_success (with_reducible show wpAny _ _ (exec (Stmt.For _ _ _ _ _) _) _ _ _)); (fail_if_success (with_reducible show wpAny _ _ (call (Value.ref _) _ _) _ _ _)); (fail_if_success (with_reducible show wpAny _ _ (getMethod (Value.ref _) _ _) _ _ _)); (fail_if_success (with_reducible show wpAny _ _ (pyIter _) _ _ _)); (fail_if_success (with_reducible show wpAny _ _ (eval (Expr.ListComp _ _ _ _) _) _ _ _)); (fail_if_success (with_reducible show wpAny _ _ (exec (Stmt.Assign _ (Expr.ListComp _ _ _ _) _) _) _ _ _)); first | (k_unfold; (try dsimp only)) | walk1 | (dsimp only; walk1)))
local macro_rules | `(tactic| walk_at "eval Name") => `(tactic| (k_here; k_dflt (refine' ld ?k1 ?k2 ?_; (case k1 => k_asm); (case k2 => assumption); k_whole)))
local macro_rules | `(tactic| walk_at "loadName") => `(tactic| (k_here; k_dflt (refine' ldn ?k1 ?k2 ?_; (case k1 => k_asm); (case k2 => assumption); k_whole)))
local macro_rules | `(tactic| walk_at "eval Name") => `(tactic| (k_here; k_dflt (refine' nameX_L ?k1 ?k2 ?_; (case k1 => k_asm); (case k2 => assumption); k_whole)))
set_option maxHeartbeats 4000000 in
theorem found_call {w : World} {A : Around} {E : Value → Shared → Prop} {Q : Value → Shared → Prop} {s : Shared} {mg mb : Str → Option Value} {R D S : Addr} {vs ws : List Value} {ts : List Str}
    (X : (hd.heap_39 w.params).In s.heap) (T : TR mg mb s.heap) (hroom : A.depth + 8 < recursionLimit) (hh : A.handled = none) (hu : A.units + 200 < cLine)
    (hD : s.heap.IsList D vs.toArray) (hP : PairsAre R s.heap vs ts) (hS : s.heap.IsList S ws.toArray) (hws : StrsAre ws (ts.map qs)) (hsrt : Srt mk ts) (h100 : ∀ t ∈ ts, t.cps.size ≤ 100) (hlen : ts.length ≤ 100)
    (hQ : ∀ h' tk, s.heap.StaysIn h' → Q (.bool true) { s with heap := h', toks := tk }) :
    wpAny (model pg w) A (call (.ref 117) [.ref D, .ref S]) Q E s := by
  w_on
  refine fillMe ?_
  k_fill
  intro _ _
  refine enterC (f := 117) X T (by k_is) (by k_is) (by omega) (by intro S; rfl) rfl (by decide +kernel) ?_ rfl rfl rfl
  intro h₁ tk₁ cells F N Y
  k_cells Y
  try dsimp only
  try k_fold
  walk_at "mine steps"
  rename Fr _ _ _ _ => F₂
  rename News _ _ _ _ => N₂
  refine For_S ?_
  walk_at "mine steps"
  rename_i oc hoc
  have hI0 : s.heap.get? h₁.objs.size = none := by
    cases e : s.heap.get? h₁.objs.size with
    | none => rfl
    | some o => exact absurd (Heap.lt_size (F₂.keep _ _ e)) (Nat.lt_irrefl _)
  have hne : h₁.objs.size ≠ s.heap.objs.size := Nat.ne_of_gt F₂.ns.lt
  obtain ⟨nc1, nc2, nc3⟩ := N₂ _ (.head _)
  refine for_pairs (R := R) (ts := ts) hh (list_stays hD F₂.keep) (FJ s.heap s.heap.objs.size D S h₁.objs.size) ?_ ?_ hP (fun i h x => by obtain ⟨m, oc, cv, f1, _⟩ := x; exact f1.keep) ?_ ?_ ?_
  · intro o
    exact ⟨_, oc, _, Fr.push F₂ o, rfl, rfl, Heap.get?_push_of_some _ nc1, hoc, Nat.ne_of_lt (Heap.lt_size nc1), nc3⟩
  · rintro i h h' ⟨m, oc, cv, f1, f2, f3, f4, f5, f6, f7⟩ k
    exact ⟨m, oc, cv, Fr.but f1 (Ne.symm hne) hI0 k, f2, f3, k _ _ (by simpa using f6) f4, f5, f6, f7⟩
  · rintro i q tok t h tk oI hi ht ⟨ms, hq, hms⟩ hl ⟨m, oc, cv, f1, f2, f3, f4, f5, f6, f7⟩ eI
    have N : News s.heap s.heap.objs.size h [(s.heap.objs.size + 1, oc), (h₁.objs.size, oI)] := by
      intro p hp
      rcases List.mem_cons.mp hp with rfl | hp
      · exact ⟨f4, Nat.succ_ne_self _, f7⟩
      · rw [List.mem_singleton.mp hp]; exact ⟨eI, hne, hI0⟩
    clear F₂ N₂
    refine storeX_C f1 N rfl (UpdF.head fun p hp => by rw [List.mem_singleton.mp hp]; exact Ne.symm f6) f5 ?_
    intro h₃ oc₃ F₃ N₃ hd₃
    dsimp only at N₃ ⊢
    have fk := f1.keep
    clear f1 N
    walk_at "mine steps"
    have hwl : ws.length = ts.length := by rw [strs_length hws, List.length_map]
    have hvl : vs.length = ts.length := hP.length
    have hlo : ∀ i y, (ts.map qs)[i]? = some y → (y.cps.toList < (qs t).cps.toList ↔ i < (Lo mk (mk t) ts).length) := by
      intro i y e
      rw [List.getElem?_map, Option.map_eq_some_iff] at e
      obtain ⟨a, ea, rfl⟩ := e
      rw [← lo_at mk (mk t) hsrt ea]
      exact quote_lt _ _
    have hhi : ∀ i y, (ts.map qs)[i]? = some y → ((qs t).cps.toList < y.cps.toList ↔ ¬ i < (Lo mk (mk t) ts).length + (Mi mk (mk t) ts).length) := by
      intro i y e
      rw [List.getElem?_map, Option.map_eq_some_iff] at e
      obtain ⟨a, ea, rfl⟩ := e
      rw [← hi_at mk (mk t) hsrt ea]
      exact quote_lt _ _
    have hc1 : (Lo mk (mk t) ts).length ≤ ts.length := List.length_filter_le _ _
    have hc2 : (Lo mk (mk t) ts).length + (Mi mk (mk t) ts).length ≤ ts.length := by
      rw [← le_count mk (mk t) hsrt]; exact List.length_filter_le _ _
    rename Fr _ _ _ _ => F₄
    rename News _ _ _ _ => N₄
    refine quote_call (by k_in) (TR.stays T F₄.keep) (by show A.depth + 1 < _; omega) (h100 t (List.mem_of_getElem? ht)) ?_
    intro h₅ tk₅ t₅ st₅
    have F₅ := Fr.stays F₄ st₅
    have N₅ := News.stays N₄ st₅
    clear F₄ N₄
    walk_at "mine steps"
    refine bl_no (c := (Lo mk (mk t) ts).length) (by k_in) (TR.stays T F₅.keep) (by show A.depth + 1 + 3 < _; omega) (by omega) (list_stays hS F₅.keep) hws hlo ?_
    intro h₆ tk₆ t₆ st₆
    have F₆ := Fr.stays F₅ st₆
    have N₆ := News.stays N₅ st₆
    clear F₅ N₅
    walk_at "mine steps"
    refine comp_value (R := R) (ts := ts) (vs := vs) (D := D) (Mq := q) (Mi := mk t) (tst := ltM) hh (nameX_L F₆ f2 ⟨rfl, rfl⟩) (list_stays hD F₆.keep) (fun A E s a b xs ys ns ms Q h1 h2 h3 h4 h5 h6 => lt_ints h1 h2 h3 h4 (by omega) h6)
      (by show A.units + 3 + 64 < _; omega) (hP.keeps F₆.keep) ⟨oc₃, (N₆ _ (.head _)).1, hd₃⟩ (list_stays hq F₆.keep) hms (by omega) rfl (by decide) rfl (by decide) rfl (fun _ => rfl) (fun _ => rfl) (fun _ => rfl) rfl rfl (fun _ => rfl) ?_
    intro D₇ h₇ tk₇ ys₇ n1 n2 n3 n4
    have F₇ := Fr.stays F₆ n4
    have N₇ := News.stays N₆ n4
    clear F₆ N₆
    walk_at "mine steps"
    have hy₇ : ys₇.length = (Lo mk (mk t) ts).length := by rw [n3.length]; exact rfl
    refine len_at n2.isList (by rw [hy₇]; omega) ?_
    intro tn kn
    rw [hy₇, show Wn 0 (ws.length : Int) ((Lo mk (mk t) ts).length) = (((Lo mk (mk t) ts).length : Nat) : Int) by unfold Wn; rw [if_neg (by omega)]; omega]
    walk_at "mine steps"
    · rename (_ : Int) ≠ _ => g; exact absurd rfl g
    · clear n1 n3 n2 n4 hy₇
      rename Fr _ _ _ _ => F₄
      rename News _ _ _ _ => N₄
      refine quote_call (by k_in) (TR.stays T F₄.keep) (by show A.depth + 1 < _; omega) (h100 t (List.mem_of_getElem? ht)) ?_
      intro h₅ tk₅ t₅ st₅
      have F₅ := Fr.stays F₄ st₅
      have N₅ := News.stays N₄ st₅
      clear F₄ N₄
      walk_at "mine steps"
      refine br_no (c := (Lo mk (mk t) ts).length + (Mi mk (mk t) ts).length) (by k_in) (TR.stays T F₅.keep) (by show A.depth + 1 + 3 < _; omega) (by omega) (list_stays hS F₅.keep) hws hhi ?_
      intro h₆ tk₆ t₆ st₆
      have F₆ := Fr.stays F₅ st₆
      have N₆ := News.stays N₅ st₆
      clear F₅ N₅
      walk_at "mine steps"
      refine comp_value (R := R) (ts := ts) (vs := vs) (D := D) (Mq := q) (Mi := mk t) (tst := fun a b => !ltM b a) hh (nameX_L F₆ f2 ⟨rfl, rfl⟩) (list_stays hD F₆.keep) (fun A E s a b xs ys ns ms Q h1 h2 h3 h4 h5 h6 => le_ints h1 h2 h3 h4 (by omega) (by rw [leM]; exact h6))
        (by show A.units + 3 + 64 < _; omega) (hP.keeps F₆.keep) ⟨oc₃, (N₆ _ (.head _)).1, hd₃⟩ (list_stays hq F₆.keep) hms (by omega) rfl (by decide) rfl (by decide) rfl (fun _ => rfl) (fun _ => rfl) (fun _ => rfl) rfl rfl (fun _ => rfl) ?_
      intro D₇ h₇ tk₇ ys₇ n1 n2 n3 n4
      have F₇ := Fr.stays F₆ n4
      have N₇ := News.stays N₆ n4
      clear F₆ N₆
      walk_at "mine steps"
      have hy₇ : ys₇.length = (Lo mk (mk t) ts).length + (Mi mk (mk t) ts).length := by rw [n3.length]; exact le_count mk (mk t) hsrt
      refine len_at n2.isList (by rw [hy₇]; omega) ?_
      intro tn kn
      rw [hy₇, show Wn 0 (ws.length : Int) ((Lo mk (mk t) ts).length + (Mi mk (mk t) ts).length) = (((Lo mk (mk t) ts).length + (Mi mk (mk t) ts).length : Nat) : Int) by unfold Wn; rw [if_neg (by omega)]; omega]
      walk_at "mine steps"
      · rename (_ : Int) ≠ _ => g; exact absurd rfl g
      · refine TurnEnd.intro ⟨(N₇ _ (.tail _ (.head _))).1, ?_, _, oc₃, _, F₇, f2, f3, (N₇ _ (.head _)).1, hd₃, f6, f7⟩
        intro o e
        obtain ⟨oD, eD, _⟩ := hD
        rw [fk _ _ eD] at e
        cases e; exact F₇.keep _ _ eD
  · rintro h tk ⟨m, oc, cv, f1, f2, f3, f4, f5, f6, f7⟩
    have N : News s.heap s.heap.objs.size h [] := News.nil
    clear F₂ N₂
    dsimp only
    walk_at "mine steps"
    exact hQ _ _ f1.keep
  · rintro i h h' ⟨m, oc, cv, f1, f2, f3, f4, f5, f6, f7⟩ k
    exact ⟨m, oc, cv, Fr.stays f1 k, f2, f3, k _ _ f4, f5, f6, f7⟩
end Mine
end
/-! L6 -/
section
open PySem PySem.W PySem.Calls PyProof.Rows
set_option maxRecDepth 100000
namespace Mine
theorem enterE {w : World} {A : Around} {E : Value → Shared → Prop} {Q : Value → Shared → Prop} {s : Shared} {mg mb : Str → Option Value}
    {name qual : Str} {params : Arguments} {body : List Stmt} {scope : Scope} {dV kV doc pm cdv ct oc : Value} {an od : Option Addr} {osl : Array (Option Value)} {f : Addr} {pos : List Value} {kw : List (Str × Value)} {binds : List (Str × Value)}
    (X : (hd.heap_39 w.params).In s.heap) (T : TR mg mb s.heap)
    (ho : (hd.heap_39 w.params).lookup f = some ⟨oc, od, .func (fnOf name qual params body scope dV kV doc pm an cdv ct), osl⟩) (hcd : codeIn (hd.heap_39 w.params) cdv qual = true) (hroom : A.depth < recursionLimit)
    (hbind : ∀ S, peek (hd.heap_39 w.params) S (bindArgs (fnOf name qual params body scope dV kV doc pm an cdv ct) ⟨pos, kw⟩) = some binds) (hloc : ∀ y ∈ binds, scope.names.lookup y.1 = some .local)
    (h : ∀ h₁, Fr s.heap s.heap.objs.size h₁ (fun y => binds.reverse.lookup y) → News s.heap s.heap.objs.size h₁ [] →
      wpAny (model pg w) (A.deeper (envOf qual scope s.heap.objs.size f cdv)) (execs body (envOf qual scope s.heap.objs.size f cdv))
        (fun fl s' => Q (match fl with | .ret v => v | _ => .none) s') (fun e s' => wpAny (model pg w) (A.deeper (envOf qual scope s.heap.objs.size f cdv)) (leaving (envOf qual scope s.heap.objs.size f cdv) e) (fun _ s'' => E e s'') (fun e' s'' => E e' s'') s')
        { s with heap := h₁, toks := s.toks + binds.length })
    (hco : scope.isCoroutine = false) (hgen : scope.isGenerator = false) (hk : scope.kind = .function)
    (hcell : ∀ x ∈ scope.names, x.2 ≠ .cell) : wpAny (model pg w) A (call (.ref f) pos kw) Q E s := by
  refine wpAny_call (codeAny_call_def (fd := fnOf name qual params body scope dV kV doc pm an cdv ct) hroom (X _ _ ho) rfl T.nolimit (codeRec_of X hcd) rfl (kp_binds X hbind) hcell hloc (fun h₀ hn hk' => ?_) hco hgen hk)
  exact h h₀ ⟨hn, hk', Nat.le_refl _⟩ News.nil
local macro_rules | `(tactic| walk_at "mine steps") => `(tactic| repeat' ((fail_if_success (with_reducible show wpAny _ _ (exec (Stmt.While _ _ _ _) _) _ _ _)); (fail_if_success (with_reducible show wpAny _ _ (exec (Stmt.For _ _ _ _ _) _) _ _ _)); (fail_if_success (with_reducible show wpAny _ _ (call (Value.ref _) _ _) _ _ _)); (fail_if_success (with_reducible show wpAny _ _ (getMethod (Value.ref _) _ _) _ _ _)); (fail_if_success (with_reducible show wpAny _ _ (pyIter _) _ _ _)); (fail_if_success (with_reducible show wpAny _ _ (leaving _ _) _ _ _)); (fail_if_success (with_reducible show wpAny _ _ (eval (Expr.ListComp _ _ _ _) _) _ _ _)); (fail_if_success (with_reducible show wpAny _ _ (exec (Stmt.Assign _ (Expr.ListComp _ _ _ _) _) _) _ _ _)); first | (k_unfold; (try dsimp only)) | walk1 | (dsimp only; walk1)))
local macro_rules | `(tactic| walk_at "eval Name") => `(tactic| (k_here; k_dflt (refine' ld ?k1 ?k2 ?_; (case k1 => k_asm); (case k2 => assumption); k_whole)))
local macro_rules | `(tactic| walk_at "loadName") => `(tactic| (k_here; k_dflt (refine' ldn ?k1 ?k2 ?_; (case k1 => k_asm); (case k2 => assumption); k_whole)))
local macro_rules | `(tactic| walk_at "eval Name") => `(tactic| (k_here; k_dflt (refine' nameX_L ?k1 ?k2 ?_; (case k1 => k_asm); (case k2 => assumption); k_whole)))
set_option maxHeartbeats 4000000 in
theorem bl_raise {w : World} {A : Around} {E : Value → Shared → Prop} {Q : Value → Shared → Prop} {s : Shared} {mg mb : Str → Option Value} {base : Heap} {outer : List Env} {a : Addr} {vx vh : Value} {tl : Tok}
    (X : (hd.heap_39 w.params).In s.heap) (T : TR mg mb s.heap) (hroom : A.depth + 3 < recursionLimit) (hh : A.handled = none) (B : Below A base outer s.heap)
    (hE : ∀ e t vs h' tk, RaisedS base s.heap outer e (.type "ValueError") t vs [] h' → s.heap.UpToSlots h' → E (.ref e) { s with heap := h', toks := tk }) :
    wpAny (model pg w) A (call (.ref 67) [.ref a, vx, .int (-1) tl, vh] [(Str.ofString "key", .ref 84)]) Q E s := by
  w_on
  refine fillMe ?_
  k_fill
  intro _ _
  refine enterE (f := 67) X T (by k_is) (by k_is) (by omega) (by intro S; rfl) (locs rfl) ?_ rfl rfl rfl (by decide)
  intro h₁ F N
  try dsimp only
  try k_fold
  walk_at "mine steps"
  refine Raise_madeB PySem.F.excCall_ValueError PySem.F.excRaise_ValueError hh ?_
  walk_at "mine steps"
  rename Heap.MadeExc _ _ _ _ _ => hx
  refine leave_raiseS B ⟨hx.keeps, hx.new, hx.there⟩ F N ?_
  intro h' t R _ U
  exact hE _ _ _ _ _ R U

set_option maxHeartbeats 4000000 in
theorem il_raise {w : World} {A : Around} {E : Value → Shared → Prop} {Q : Value → Shared → Prop} {s : Shared} {mg mb : Str → Option Value} {base : Heap} {outer : List Env} {a : Addr} {x : Str} {tx : Tok} {tl : Tok}
    (X : (hd.heap_39 w.params).In s.heap) (T : TR mg mb s.heap) (hroom : A.depth + 5 < recursionLimit) (hh : A.handled = none) (B : Below A base outer s.heap) (hx : x.cps.size ≤ 100)
    (hE : ∀ e t vs h' tk, RaisedS base s.heap outer e (.type "ValueError") t vs [] h' → s.heap.UpToSlots h' → E (.ref e) { s with heap := h', toks := tk }) :
    wpAny (model pg w) A (call (.ref 58) [.ref a, .str x tx, .int (-1) tl] [(Str.ofString "key", .ref 84)]) Q E s := by
  w_on
  refine fillMe ?_
  k_fill
  intro _ _
  refine enterE (f := 58) X T (by k_is) (by k_is) (by omega) (by intro S; rfl) (locs rfl) ?_ rfl rfl rfl (by decide)
  intro h₁ F N
  try dsimp only
  try k_fold
  walk_at "mine steps"
  refine quote_call (by k_in) (TR.stays T F.keep) (by show A.depth + 1 < _; omega) hx ?_
  intro h₂ tk₂ t₂ st₂
  have F₂ := Fr.stays F st₂
  have N₂ := News.stays N st₂
  clear F N
  walk_at "mine steps"
  refine bl_raise (by k_in) (TR.stays T F₂.keep) (by show A.depth + 1 + 3 < _; omega) hh (B.push F₂) ?_
  intro e t vs h₃ tk₃ R U
  refine leave_onS B F₂ R U ?_
  intro h' R' _ U'
  exact hE _ _ _ _ _ R' U'

set_option maxHeartbeats 4000000 in
theorem br_raise {w : World} {A : Around} {E : Value → Shared → Prop} {Q : Value → Shared → Prop} {s : Shared} {mg mb : Str → Option Value} {base : Heap} {outer : List Env} {a : Addr} {vx vh : Value} {tl : Tok}
    (X : (hd.heap_39 w.params).In s.heap) (T : TR mg mb s.heap) (hroom : A.depth + 3 < recursionLimit) (hh : A.handled = none) (B : Below A base outer s.heap)
    (hE : ∀ e t vs h' tk, RaisedS base s.heap outer e (.type "ValueError") t vs [] h' → s.heap.UpToSlots h' → E (.ref e) { s with heap := h', toks := tk }) :
    wpAny (model pg w) A (call (.ref 49) [.ref a, vx, .int (-1) tl, vh] [(Str.ofString "key", .ref 84)]) Q E s := by
  w_on
  refine fillMe ?_
  k_fill
  intro _ _
  refine enterE (f := 49) X T (by k_is) (by k_is) (by omega) (by intro S; rfl) (locs rfl) ?_ rfl rfl rfl (by decide)
  intro h₁ F N
  try dsimp only
  try k_fold
  walk_at "mine steps"
  refine Raise_madeB PySem.F.excCall_ValueError PySem.F.excRaise_ValueError hh ?_
  walk_at "mine steps"
  rename Heap.MadeExc _ _ _ _ _ => hx
  refine leave_raiseS B ⟨hx.keeps, hx.new, hx.there⟩ F N ?_
  intro h' t R _ U
  exact hE _ _ _ _ _ R U

set_option maxHeartbeats 4000000 in
theorem ir_raise {w : World} {A : Around} {E : Value → Shared → Prop} {Q : Value → Shared → Prop} {s : Shared} {mg mb : Str → Option Value} {base : Heap} {outer : List Env} {a : Addr} {x : Str} {tx : Tok} {tl : Tok}
    (X : (hd.heap_39 w.params).In s.heap) (T : TR mg mb s.heap) (hroom : A.depth + 5 < recursionLimit) (hh : A.handled = none) (B : Below A base outer s.heap) (hx : x.cps.size ≤ 100)
    (hE : ∀ e t vs h' tk, RaisedS base s.heap outer e (.type "ValueError") t vs [] h' → s.heap.UpToSlots h' → E (.ref e) { s with heap := h', toks := tk }) :
    wpAny (model pg w) A (call (.ref 40) [.ref a, .str x tx, .int (-1) tl] [(Str.ofString "key", .ref 84)]) Q E s := by
  w_on
  refine fillMe ?_
  k_fill
  intro _ _
  refine enterE (f := 40) X T (by k_is) (by k_is) (by omega) (by intro S; rfl) (locs rfl) ?_ rfl rfl rfl (by decide)
  intro h₁ F N
  try dsimp only
  try k_fold
  walk_at "mine steps"
  refine quote_call (by k_in) (TR.stays T F.keep) (by show A.depth + 1 < _; omega) hx ?_
  intro h₂ tk₂ t₂ st₂
  have F₂ := Fr.stays F st₂
  have N₂ := News.stays N st₂
  clear F N
  walk_at "mine steps"
  refine br_raise (by k_in) (TR.stays T F₂.keep) (by show A.depth + 1 + 3 < _; omega) hh (B.push F₂) ?_
  intro e t vs h₃ tk₃ R U
  refine leave_onS B F₂ R U ?_
  intro h' R' _ U'
  exact hE _ _ _ _ _ R' U'
end Mine
end
/-! E1 -/
section
open PySem PySem.W PySem.Calls PyProof.Rows PyProof.V PySem.Spec
set_option maxRecDepth 100000
namespace Mine
theorem st_canLay : ∀ ns : List Str, (∀ x ∈ ns, PyData.canLay0 (.str x) = true) → PyData.canLayAll0 (ns.map PyData.str) = true
  | [], _ => rfl
  | x :: r, h => by simp only [List.map_cons, PyData.canLayAll0, h x (.head _), st_canLay r fun y hy => h y (.tail _ hy), Bool.and_self]
theorem st_depth : ∀ ns : List Str, PyData.depthAll (ns.map PyData.str) = 0
  | [] => rfl
  | _ :: r => by simp [PyData.depthAll, PyData.depth, st_depth r]
theorem st_sameAll : ∀ ns ms : List Str, PySem.Spec.sameAll (ns.map PyData.str) (ms.map PyData.str) = decide (ns = ms)
  | [], [] => by simp [PySem.Spec.sameAll]
  | [], _ :: _ => by simp [PySem.Spec.sameAll]
  | _ :: _, [] => by simp [PySem.Spec.sameAll]
  | a :: r, b :: t => by
    simp only [List.map_cons, PySem.Spec.sameAll, PySem.Spec.same, st_sameAll r t]
    by_cases h : a = b <;> by_cases h' : r = t <;> simp [h, h']
theorem st_same (ns ms : List Str) : PySem.Spec.same (.list (ns.map PyData.str)) (.list (ms.map PyData.str)) = decide (ns = ms) := by
  simp only [PySem.Spec.same]; exact st_sameAll ns ms
theorem st_carried : ∀ {vs : List Value} {ns : List Str}, StrsAre vs ns → CarriedAll vs (ns.map PyData.str)
  | _, _, .nil => .nil
  | _, _, .cons _ t r => .cons (.str _ t) (st_carried r)
theorem st_shaped (ns : List Str) (h : ∀ x ∈ ns, PyData.canLay0 (.str x) = true) : SeqAt.shaped (.list (ns.map PyData.str)) = true := by
  simp [SeqAt.shaped, PyData.canLay0, PyData.depth, st_canLay ns h, st_depth]
theorem ne_strs {prog : Program} {w : World} {A : Around} {E : Value → Shared → Prop} {s : Shared} {a b : Addr} {xs ys : List Value} {ns ms : List Str} {Q : Value → Shared → Prop}
    (ha : s.heap.IsList a xs.toArray) (hb : s.heap.IsList b ys.toArray) (hi : StrsAre xs ns) (hj : StrsAre ys ms) (hu : A.units + 64 < cLine) (h1 : ∀ x ∈ ns, PyData.canLay0 (.str x) = true) (h2 : ∀ x ∈ ms, PyData.canLay0 (.str x) = true) (h : Q (.bool (!decide (ns = ms))) s) :
    wpAny (model prog w) A (compareOp .NotEq (.ref a) (.ref b)) Q E s :=
  ne_dataH_same (reads_newData ha (st_carried hi)) (reads_newData hb (st_carried hj)) (st_shaped _ h1) (st_shaped _ h2) hu (SeqAt.noMix_of_shape (.list .str) rfl _ _ (list_map_has fun _ => rfl) (list_map_has fun _ => rfl)) (by rw [st_same]; exact h)
end Mine
end
/-! L7 -/
section
open PySem PySem.W PySem.Calls PyProof.Rows
set_option maxRecDepth 100000
namespace Mine
def RJ (g base : Heap) (A : Around) (outer : List Env) (L a K tu I : Addr) (vs : List Value) (x : Str) (tx : Tok) (oK oT : Obj) (_ : Nat) (h : Heap) : Prop :=
  ∃ g' m, KtsTurn (outer.filterMap (·.frame)) g g' ∧ Below A base outer g' ∧ KtsDicts (outer.filterMap (·.frame)) g' ∧ Fr g' L h m ∧ m (Str.ofString "row") = some (.ref a) ∧ m (Str.ofString "text") = some (.str x tx) ∧ m (Str.ofString "kept") = some (.ref K) ∧
    h.get? K = some oK ∧ h.get? tu = some oT
theorem hide_fr {g h : Heap} {L : Addr} {m : Str → Option Value} {news : List (Addr × Obj)} (F : Fr g L h m) (N : News g L h news) : Fr g L (hideAll h (news.map (·.1))) m := by
  have nL : L ∉ news.map (·.1) := fun q => by
    obtain ⟨p, hp, e⟩ := List.mem_map.mp q
    exact (N p hp).2.1 e
  obtain ⟨o, es, ep, hL, r⟩ := F.ns
  refine ⟨⟨o, es, ep, hideAll_get _ hL nL, r⟩, fun b o e => hideAll_get _ (F.keep b o e) fun q => ?_, F.above⟩
  obtain ⟨p, hp, rfl⟩ := List.mem_map.mp q
  rw [(N p hp).2.2] at e; cases e
theorem hide_raised {base G h : Heap} {l : List Env} {e t : Addr} {cls : Value} {vs : List Value} {news : List (Addr × Obj)} (R : RaisedS base G l e cls t vs [] h)
    (hn : ∀ q ∈ news, G.get? q.1 = some q.2 ∧ q.1 ∉ l.filterMap (·.frame) ∧ base.get? q.1 = none) : RaisedS base (hideAll G (news.map (·.1))) l e cls t vs news h := by
  obtain ⟨⟨B, hB, hBG, _, hfl, hnew⟩, htup⟩ := R
  exact ⟨⟨B, hB, fun b o q nm => hBG b o (of_hideAll _ q) nm, fun q hq => ⟨hBG _ _ (hn q hq).1 (hn q hq).2.1, hideAll_none _ (List.mem_map_of_mem hq), (hn q hq).2.2⟩, hfl, hnew⟩, htup⟩
theorem hide_up {G h : Heap} {as : List Addr} (U : G.UpToSlots h) : (hideAll G as).UpToSlots h := fun b o e => U b o (of_hideAll _ e)
theorem ve_exc : isSubtype (.type "ValueError") (.type "BaseException") = pure true := by rw [isSubtype_type]; kernel_rfl
theorem ve_tup : isSubtype (.type ((Manifest.find? "ValueError").elim "type" fun y => y.metatype)) (.type "tuple") = pure false := by
  rw [show (Manifest.find? "ValueError").elim "type" (fun y => y.metatype) = "type" by decide +kernel, isSubtype_type]; kernel_rfl
theorem ve_self : isSubtype (.type "ValueError") (.type "ValueError") = pure true := by rw [isSubtype_type]; kernel_rfl

section
variable {prog : Program} {w : World} {A : Around} {env : Env} {y : Str} {py : Pos} {body : List Stmt} {Q : Flow → Shared → Prop} {E : Value → Shared → Prop} {s : Shared}
theorem for_tup {l : Addr} {vs : List Value} (hh : A.handled = none) (hl : IsTup s.heap l vs.toArray) (Inv : Nat → Heap → Prop) (h0 : ∀ o, Inv 0 (s.heap.push o))
    (stable : ∀ i h h', Inv i h → (∀ b o, b ∉ [s.heap.objs.size] → h.get? b = some o → h'.get? b = some o) → Inv i h')
    (turn : ∀ i v h tk oI oT, vs[i]? = some v → Inv i h → h.get? s.heap.objs.size = some oI → h.get? l = some oT → wpAny (model prog w) A (storeName env y v) (fun _ s₂ => wpAny (model prog w) A (execs body env) (fun f s₃ => match f with
      | .next | .cont => TurnEnd s (fun h' => h'.get? s.heap.objs.size = some oI ∧ h'.get? l = some oT ∧ Inv (i + 1) h') s₃
      | .brk => Q .next s₃
      | .ret v => Q (.ret v) s₃) E s₂) E { s with heap := h, toks := tk })
    (done : ∀ h tk, Inv vs.length h → Q .next { s with heap := h, toks := tk }) :
    wpAny (model prog w) A (pyIter (.ref l)) (fun it s₂ => ForAt prog w A env (.Name y py) body Q E it s₂) E s := by
  have hne : l ≠ s.heap.objs.size := by
    obtain ⟨o, e, _⟩ := hl
    exact Nat.ne_of_lt (Heap.lt_size e)
  refine iter_tuple hl ?_
  refine ⟨s.heap.objs.size, _, _, _, _, _, Inv, rfl, Walks.tuple hh s.heap.objs.size l hne vs.toArray, ⟨⟨_, Heap.get?_push_size _ rfl, rfl, rfl⟩, hl.keeps (push_stays _ _)⟩, h0 _, stable, ?_, by rw [List.size_toArray]; exact done⟩
  rintro i v h tk hi hP hI ⟨⟨oI, eI, _⟩, ⟨oT, eT, _⟩⟩
  refine wpAny_pure (wpAny_assign_Name (wpAny_mono (turn i v h tk oI oT (by simpa using hP) hI eI eT) (fun _ s₂ h₂ => wpAny_mono h₂ (fun f s₃ h₃ => ?_) fun _ _ e => e) fun _ _ e => e))
  have fin : TurnEnd s (fun h' => h'.get? s.heap.objs.size = some oI ∧ h'.get? l = some oT ∧ Inv (i + 1) h') s₃ →
      ∃ h' tk', s₃ = { s with heap := h', toks := tk' } ∧ (∀ b ∈ [s.heap.objs.size, l], ∀ o, h.get? b = some o → h'.get? b = some o) ∧ Inv (i + 1) h' := by
    rintro ⟨h', tk', e, k1, k2, I'⟩
    refine ⟨h', tk', e, fun b hb o e => ?_, I'⟩
    rcases List.mem_cons.mp hb with rfl | hb
    · rw [eI] at e; cases e; exact k1
    · rw [List.mem_singleton.mp hb] at e ⊢; rw [eT] at e; cases e; exact k2
  cases f with
  | next => obtain ⟨h', tk', rfl, k⟩ := fin h₃; exact ⟨h', tk', rfl, k⟩
  | cont => obtain ⟨h', tk', rfl, k⟩ := fin h₃; exact ⟨h', tk', rfl, k⟩
  | brk => exact h₃
  | ret v => exact h₃
end
local macro_rules | `(tactic| walk_at "mine steps") => `(tactic| repeat' ((fail_if_success (with_reducible show wpAny _ _ (exec (Stmt.While _ _ _ _) _) _ _ _)); (fail_if_success (with_reducible show wpAny _ _ (exec (Stmt.For _ _ _ _ _) _) _ _ _)); (fail_if_success (with_reducible show wpAny _ _ (call (Value.ref _) _ _) _ _ _)); (fail_if_success (with_reducible show wpAny _ _ (getMethod (Value.ref _) _ _) _ _ _)); (fail_if_success (with_reducible show wpAny _ _ (pyIter _) _ _ _)); (fail_if_success (with_reducible show wpAny _ _ (compareOp _ (Value.ref _) (Value.ref _)) _ _ _)); (fail_if_success (with_reducible show wpAny _ _ (leaving _ _) _ _ _)); (fail_if_success (with_reducible show wpAny _ _ (eval (Expr.ListComp _ _ _ _) _) _ _ _)); (fail_if_success (with_reducible show wpAny _ _ (exec (Stmt.Assign _ (Expr.ListComp _ _ _ _) _) _) _ _ _)); first | (k_unfold; (try dsimp only)) | walk1 | (dsimp only; walk1)))
local macro_rules | `(tactic| walk_at "eval Name") => `(tactic| (k_here; k_dflt (refine' ld ?k1 ?k2 ?_; (case k1 => k_asm); (case k2 => assumption); k_whole)))
local macro_rules | `(tactic| walk_at "loadName") => `(tactic| (k_here; k_dflt (refine' ldn ?k1 ?k2 ?_; (case k1 => k_asm); (case k2 => assumption); k_whole)))
local macro_rules | `(tactic| walk_at "eval Name") => `(tactic| (k_here; k_dflt (refine' nameX_L ?k1 ?k2 ?_; (case k1 => k_asm); (case k2 => assumption); k_whole)))
set_option maxHeartbeats 4000000 in
theorem refused_call {w : World} {A : Around} {E : Value → Shared → Prop} {Q : Value → Shared → Prop} {s : Shared} {mg mb : Str → Option Value} {mean : ExcName → Option Value} {base : Heap} {outer : List Env} {a : Addr} {vs : List Value} {ts : List Str} {x : Str} {tx : Tok}
    (X : (hd.heap_39 w.params).In s.heap) (T : TR mg mb s.heap) (hroom : A.depth + 8 < recursionLimit) (hh : A.handled = none) (hu : A.units + 200 < cLine)
    (B : Below A base outer s.heap) (XB : (hd.heap_39 w.params).In base) (TB : Top hd.view_39 lz mean mg mb base) (D : KtsDicts (outer.filterMap (·.frame)) s.heap)
    (ha : s.heap.IsList a vs.toArray) (hts : StrsAre vs ts) (hok : ∀ t ∈ ts, PyData.canLay0 (.str t) = true) (hlen : vs.length ≤ 100) (hx : x.cps.size ≤ 100)
    (hQ : ∀ h' tk, base.StaysIn h' → Q (.bool true) { s with heap := h', toks := tk }) :
    wpAny (model pg w) A (call (.ref 124) [.ref a, .str x tx]) Q E s := by
  w_on
  refine fillMe ?_
  k_fill
  intro _ _
  refine enterS (f := 124) X T (by k_is) (by k_is) (by omega) (by intro S; rfl) (locs rfl) ?_ rfl rfl rfl (by decide)
  intro h₁ F N
  try dsimp only
  try k_fold
  walk_at "mine steps"
  refine For_S ?_
  walk_at "mine steps"
  rename Fr _ _ _ _ => F₂
  rename News _ _ _ _ => N₂
  rename_i K₂ c₂ _ _ _ tu h₂ _
  obtain ⟨a1, a2, a3⟩ := N₂ _ (.head _)
  obtain ⟨b1, b2, b3⟩ := N₂ _ (.tail _ (.head _))
  have hI0 : s.heap.get? h₂.objs.size = none := by
    cases e : s.heap.get? h₂.objs.size with
    | none => rfl
    | some o => exact absurd (Heap.lt_size (F₂.keep _ _ e)) (Nat.lt_irrefl _)
  have hneL : h₂.objs.size ≠ s.heap.objs.size := Nat.ne_of_gt F₂.ns.lt
  have hneK : K₂ ≠ h₂.objs.size := Nat.ne_of_lt (Heap.lt_size b1)
  have hneT : tu ≠ h₂.objs.size := Nat.ne_of_lt (Heap.lt_size a1)
  refine for_tup (vs := [.ref 58, .ref 40]) hh ⟨_, a1, rfl, _, rfl⟩ (RJ s.heap base A outer s.heap.objs.size a K₂ tu h₂.objs.size vs x tx (W.listOf vs.toArray c₂) { cls := .type "tuple", data := .seq #[.ref 58, .ref 40] }) ?_ ?_ ?_ ?_
  · intro o
    exact ⟨s.heap, _, KtsTurn.refl, B, D, Fr.push F₂ o, rfl, rfl, rfl, Heap.get?_push_of_some _ b1, Heap.get?_push_of_some _ a1⟩
  · rintro i h h' ⟨g', m, f1, f2, f3, f4, f5, f6, f7, f8, f9⟩ k
    exact ⟨g', m, f1, f2, f3, Fr.but f4 (Ne.symm hneL) (f1.none_ _ hI0) k, f5, f6, f7, k _ _ (by simpa using hneK) f8, k _ _ (by simpa using hneT) f9⟩
  · rintro i v h tk oI oT hv ⟨g', m, f1, f2, f3, f4, f5, f6, f7, f8, f9⟩ eI eT
    have hv' : v = .ref 58 ∨ v = .ref 40 := by
      have := List.mem_of_getElem? hv
      simpa using this
    have X' : (hd.heap_39 w.params).In g' := XB.keeps f2.stays
    have T' : TR mg mb g' := topRead_of (TB.keeps f2.stays)
    have hafs : a ∉ outer.filterMap (·.frame) := fun q => by
      obtain ⟨o, es, n, e, d⟩ := D a q
      obtain ⟨o', e', _, n', d'⟩ := ha
      rw [e] at e'; cases e'; rw [d] at d'; cases d'
    have ha' : ∀ {g'' : Heap}, KtsTurn (outer.filterMap (·.frame)) s.heap g'' → g''.IsList a vs.toArray := fun q => by
      obtain ⟨o', e', r⟩ := id ha
      exact ⟨o', q.other _ _ e' hafs, r⟩
    have N : News g' s.heap.objs.size h [(K₂, W.listOf vs.toArray c₂), (tu, { cls := .type "tuple", data := .seq #[.ref 58, .ref 40] }), (h₂.objs.size, oI)] := by
      intro p hp
      rcases List.mem_cons.mp hp with rfl | hp
      · exact ⟨f8, b2, f1.none_ _ b3⟩
      · rcases List.mem_cons.mp hp with rfl | hp
        · exact ⟨f9, a2, f1.none_ _ a3⟩
        · rw [List.mem_singleton.mp hp]; exact ⟨eI, hneL, f1.none_ _ hI0⟩
    clear F₂ N₂
    dsimp only
    rcases hv' with rfl | rfl
    all_goals (
      walk_at "mine steps"
      rename Fr _ _ _ _ => F₄
      rename News _ _ _ _ => N₄
      first
        | refine il_raise (base := base) (X'.keeps F₄.keep) (TR.stays T' F₄.keep) (by show A.depth + 1 + 5 < _; omega) hh (f2.push F₄) hx ?_
        | refine ir_raise (base := base) (X'.keeps F₄.keep) (TR.stays T' F₄.keep) (by show A.depth + 1 + 5 < _; omega) hh (f2.push F₄) hx ?_
      intro e t vs₅ h₅ tk₅ R₅ U₅
      have R₆ := hide_raised (news := [(K₂, W.listOf vs.toArray c₂), (tu, { cls := .type "tuple", data := .seq #[.ref 58, .ref 40] }), (h₂.objs.size, oI)]) R₅ (fun q hq => ⟨(N₄ q hq).1, (fun hm => by
        rcases kts_mem hm with z | z
        · exact (N₄ q hq).2.1 z
        · obtain ⟨o, es, n, eo, _⟩ := f3 _ z
          rw [(N₄ q hq).2.2] at eo; cases eo), fresh_of_stays f2.stays (N₄ q hq).2.2⟩)
      refine caught_S0 (KF := hd.heap_39 w.params) R₆ (hide_fr F₄ N₄) f2 (hide_up U₅) XB TB f3 f1 (by k_is) PyProof.Rows.Boot.«ValueError» (by decide) ve_exc ve_tup ve_self ?_
      intro h₆ g₆ news₆ T₆ F₆ N₆' _ N₆ B₆ X₆ TT₆ D₆
      have TR₆ : TR mg mb g₆ := topRead_of TT₆
      clear F₄ N₄ N₆'
      dsimp only
      walk_at "mine steps"
      refine ne_strs (list_stays (ha' T₆) F₆.keep) (xs := vs) (ys := vs) ⟨_, (N₆ _ (.head _)).1, rfl, _, rfl⟩ hts hts (by show A.units + 3 + 64 < _; omega) hok hok ?_
      rw [decide_eq_true rfl]
      walk_at "mine steps"
      rw [f9] at eT
      cases eT
      exact TurnEnd.intro ⟨(N₆ _ (.tail _ (.tail _ (.head _)))).1, (N₆ _ (.tail _ (.head _))).1, g₆, _, T₆, B₆, D₆, F₆, f5, f6, f7, (N₆ _ (.head _)).1, (N₆ _ (.tail _ (.head _))).1⟩)
  · rintro h tk ⟨g', m, f1, f2, f3, f4, f5, f6, f7, f8, f9⟩
    have X' : (hd.heap_39 w.params).In g' := XB.keeps f2.stays
    have N : News g' s.heap.objs.size h [] := News.nil
    clear F₂ N₂
    dsimp only
    walk_at "mine steps"
    exact hQ _ _ fun b o e => f4.keep _ _ (f2.stays b o e)
end Mine
end
/-! M1 -/
section
open PySem PySem.W PySem.Calls PyProof.Rows
set_option maxRecDepth 100000
namespace Mine
/-- every object but the frame's own stays -/
def Kp (L : Addr) (h h' : Heap) : Prop := ∀ b o, b ≠ L → h.get? b = some o → h'.get? b = some o
theorem Kp.trans {L : Addr} {h h' h'' : Heap} (x : Kp L h h') (y : Kp L h' h'') : Kp L h h'' := fun b o n e => y b o n (x b o n e)
theorem Kp.of {L : Addr} {h h' : Heap} (x : h.StaysIn h') : Kp L h h' := fun b o _ e => x b o e
theorem Kp.refl {L : Addr} {h : Heap} : Kp L h h := fun _ _ _ e => e
/-- all that lies outside the base and is not the frame -/
def allOf (g : Heap) (L : Addr) (h : Heap) : List (Addr × Obj) :=
  (List.range h.objs.size).filterMap fun b => if b = L then none else match g.get? b with | some _ => none | none => (h.get? b).map fun o => (b, o)
theorem allOf_mem {g h : Heap} {L : Addr} {p : Addr × Obj} : p ∈ allOf g L h ↔ h.get? p.1 = some p.2 ∧ p.1 ≠ L ∧ g.get? p.1 = none := by
  unfold allOf
  rw [List.mem_filterMap]
  constructor
  · rintro ⟨b, _, e⟩
    by_cases hb : b = L
    · rw [if_pos hb] at e; cases e
    · rw [if_neg hb] at e
      cases eg : g.get? b with
      | some o => rw [eg] at e; cases e
      | none =>
        rw [eg] at e
        dsimp only at e
        rw [Option.map_eq_some_iff] at e
        obtain ⟨o, eo, rfl⟩ := e
        exact ⟨eo, hb, eg⟩
  · rintro ⟨e1, e2, e3⟩
    refine ⟨p.1, List.mem_range.mpr (Heap.lt_size e1), ?_⟩
    rw [if_neg e2, e3]
    dsimp only
    rw [e1]; rfl
theorem all_news {g h : Heap} {L : Addr} {m : Str → Option Value} (_ : Fr g L h m) : News g L h (allOf g L h) := fun _ hp => allOf_mem.mp hp
theorem keep_all {g h h' : Heap} {L : Addr} {m m' : Str → Option Value} {news : List (Addr × Obj)} (F : Fr g L h m) (F' : Fr g L h' m') (N' : News g L h' news) (hs : ∀ p ∈ allOf g L h, p ∈ news) : Kp L h h' := by
  intro b o hb e
  cases eg : g.get? b with
  | some o' =>
    have := F.keep b o' eg
    rw [e] at this; cases this
    exact F'.keep b o eg
  | none => exact (N' (b, o) (hs _ (allOf_mem.mpr ⟨e, hb, eg⟩))).1

theorem PL.kp {L D : Addr} {h h' : Heap} {items : Array Value} (x : h.PlainList D items) (hD : D ≠ L) (k : Kp L h h') : h'.PlainList D items := x.at fun o e => k D o hD e
theorem PL.ne {h : Heap} {L D : Addr} {m : Str → Option Value} {items : Array Value} (x : h.PlainList D items) (hL : h.Ns L m) : D ≠ L := by
  obtain ⟨n, e⟩ := x
  exact ns_ne hL e rfl
theorem IL.kp {h h' : Heap} {L D : Addr} {m : Str → Option Value} {items : Array Value} (x : h.IsList D items) (hL : h.Ns L m) (k : Kp L h h') : h'.IsList D items := by
  obtain ⟨o, e, c, n, d⟩ := x
  exact ⟨o, k _ _ (ns_ne hL e d) e, c, n, d⟩
theorem PL.kpn {h h' : Heap} {L D : Addr} {m : Str → Option Value} {items : Array Value} (x : h.PlainList D items) (hL : h.Ns L m) (k : Kp L h h') : h'.PlainList D items := PL.kp x (PL.ne x hL) k

inductive RA (Rel : Value → Str → Prop) : List Value → List Str → Prop
  | nil : RA Rel [] []
  | cons {v : Value} {t : Str} {vs : List Value} {ts : List Str} : Rel v t → RA Rel vs ts → RA Rel (v :: vs) (t :: ts)
theorem RA.at {Rel : Value → Str → Prop} {vs : List Value} {ts : List Str} (x : RA Rel vs ts) : ∀ {i : Nat} {v : Value}, vs[i]? = some v → ∃ t, ts[i]? = some t ∧ Rel v t := by
  induction x with
  | nil => intro i v e; simp at e
  | cons a _ ih => intro i v e; cases i with
    | zero => cases e; exact ⟨_, rfl, a⟩
    | succ i => exact ih (by simpa using e)
theorem RA.of_pairs {R : Addr} {h : Heap} {vs : List Value} {ts : List Str} (x : PairsAre R h vs ts) : RA (PairAt R h) vs ts := by
  induction x with
  | nil => exact .nil
  | cons a _ ih => exact .cons a ih
theorem RA.of_strs {vs : List Value} {ts : List Str} (x : StrsAre vs ts) : RA (fun v t => ∃ tok, v = .str t tok) vs ts := by
  induction x with
  | nil => exact .nil
  | cons y t _ ih => exact .cons ⟨t, rfl⟩ ih
theorem RA.out {Rel : Value → Str → Prop} {f : Str → Str} (uniq : ∀ v t t', Rel v t → Rel v t' → t = t') : ∀ {vs ys : List Value} {ts : List Str}, RA Rel vs ts → Paired (fun v y => ∃ t tok, Rel v t ∧ y = .str (f t) tok) vs ys → StrsAre ys (ts.map f)
  | _, _, _, .nil, .nil => .nil
  | _, _, _, .cons a r, .cons b q => by
    obtain ⟨t, tok, hr, rfl⟩ := b
    rw [uniq _ _ _ hr a]
    exact .cons _ _ (RA.out uniq r q)

section
variable {w : World} {A : Around} {E : Value → Shared → Prop} {s : Shared} {env : Env} {scope : Scope} {cl : List (Str × Addr)} {Rel : Value → Str → Prop} {f : Str → Str}
/-- what an element of a comprehension without tests gives, from every heap that holds what stood -/
def EltOk (w : World) (A : Around) (env : Env) (scope : Scope) (cl : List (Str × Addr)) (x : Str) (elt : Expr) (Rel : Value → Str → Prop) (f : Str → Str) (ts : List Str) (s : Shared) : Prop :=
  ∀ C v t s₃ m₃ E', t ∈ ts → Rel v t → s.heap.objs.size ≤ C → s₃.heap.Ns C m₃ → m₃ x = some v → s.heap.StaysIn s₃.heap →
    wpAny (model pg w) A (eval elt (compEnvC scope cl C env)) (fun y s₄ => (∃ tok, y = .str (f t) tok) ∧ Keeps s₃ s₄) E' s₃

theorem comp_map {ts : List Str} {vs : List Value} {D : Addr} {x : Str} {elt iter : Expr} {Q : Value → Shared → Prop} {px pos : Pos}
    (hh : A.handled = none) (hit : wpAny (model pg w) A (eval iter env) (fun xv s₁ => xv = .ref D ∧ s₁ = s) E s) (hD : s.heap.IsList D vs.toArray)
    (uniq : ∀ v t t', Rel v t → Rel v t' → t = t') (hR : RA Rel vs ts) (hlen : vs.length ≤ 1000) (he : EltOk w A env scope cl x elt Rel f ts s)
    (hclos : closureFor scope env = pure cl) (hcell : ∀ y ∈ scope.names, y.2 ≠ .cell) (hkind : scope.kind = .function) (hnames : ∀ y ∈ scope.names, y.2 = .local → scope.names.lookup y.1 = some .local) (hx : scope.names.lookup x = some .local)
    (hs : ∀ x, foldedSetIterable iter env x = pure x)
    (hQ : ∀ D' h' tk ys, s.heap.get? D' = none → h'.PlainList D' (List.toArray ys) → StrsAre ys (ts.map f) → s.heap.StaysIn h' → Q (.ref D') { s with heap := h', toks := tk }) :
    wpAny (model pg w) A (eval (.ListComp elt [⟨.Name x px, iter, [], 0⟩] scope pos) env) Q E s := by
  have e24 : sizeLine = 16777216 := by decide
  have hne : D ≠ s.heap.objs.size := by obtain ⟨o, e, _⟩ := hD; exact Nat.ne_of_lt (Heap.lt_size e)
  have st := push_stays s.heap { cls := .type "list_iterator", data := .fields #[.ref D, .int 0 0] }
  refine wpAny_ListComp_free (cl := cl) (fun _ => true) (fun v y => ∃ t tok, Rel v t ∧ y = .str (f t) tok) hclos hcell hkind hnames hx (wpAny_mono hit ?_ fun _ _ e => e) hs
  rintro xv s₁ ⟨rfl, rfl⟩
  refine wpAny_pyIter_list hD ?_
  refine ⟨s₁.heap.objs.size, _, _, _, _, _, rfl, Walks.list hh s₁.heap.objs.size D hne vs.toArray, by rw [List.size_toArray]; omega, ⟨⟨_, Heap.get?_push_size _ rfl, rfl, rfl⟩, hD.at fun o e => Heap.get?_push_of_some _ e⟩, ?_, ?_, ?_⟩
  · intro b hb'
    rw [Heap.size_push]
    rcases List.mem_cons.mp hb' with rfl | hb'
    · exact Nat.lt_succ_self _
    · rw [List.mem_singleton.mp hb']; obtain ⟨o, e, _⟩ := hD; exact Nat.lt_succ_of_lt (Heap.lt_size e)
  · constructor
    · intro C i v s₃ m₃ E' hC hv hn hm hk htk
      exact wpAny_tests_nil ⟨rfl, _, _, rfl, fun b o e => e⟩
    · intro C i v s₃ m₃ E' hC hv _ hn hm hk htk
      obtain ⟨t, ht, hr⟩ := hR.at (i := i) (v := v) (by simpa using hv)
      refine wpAny_mono (he C v t s₃ m₃ E' (List.mem_of_getElem? ht) hr (Nat.le_trans (by show s₁.heap.objs.size ≤ (s₁.heap.push _).objs.size; rw [Heap.size_push]; exact Nat.le_succ _) hC) hn hm fun b o e => hk b o (by rw [List.mem_singleton]; exact Nat.ne_of_lt (Heap.lt_size e)) (st b o e)) (fun y s₄ h₄ => ?_) fun _ _ e => e
      obtain ⟨⟨tok, rfl⟩, k⟩ := h₄
      exact ⟨⟨t, tok, hr, rfl⟩, k⟩
  · intro D' h' tk ys vs' n1 n2 n3 n4 n5 n6 n7
    have hv : vs' = vs := by
      apply List.ext_getElem?
      intro i
      rcases Nat.lt_or_ge i vs'.length with hi | hi
      · have := n5 i _ (List.getElem?_eq_getElem hi)
        rw [List.getElem?_eq_getElem hi]
        simpa using this.symm
      · rw [List.getElem?_eq_none hi, List.getElem?_eq_none (by rw [n4, List.size_toArray] at hi; exact hi)]
    subst hv
    rw [List.filter_eq_self.mpr (fun _ _ => rfl)] at n6
    refine hQ D' h' tk ys.toList ?_ (by simpa using n3) (RA.out uniq hR n6) fun b o e => n7 b o (by rw [List.mem_singleton]; exact Nat.ne_of_lt (Heap.lt_size e)) (st b o e)
    cases e : s₁.heap.get? D' with
    | none => rfl
    | some o => rw [st _ _ e] at n1; cases n1

theorem comp_map_assign {ts : List Str} {vs : List Value} {D : Addr} {x y : Str} {elt iter : Expr} {Q : Flow → Shared → Prop} {px pos spos py : Pos} {m : Str → Option Value}
    (hh : A.handled = none) (hn : s.heap.Ns env.locals m) (hit : wpAny (model pg w) A (eval iter env) (fun xv s₁ => xv = .ref D ∧ s₁ = s) E s) (hD : s.heap.IsList D vs.toArray)
    (uniq : ∀ v t t', Rel v t → Rel v t' → t = t') (hR : RA Rel vs ts) (hlen : vs.length ≤ 1000) (he : EltOk w A env scope cl x elt Rel f ts s)
    (hsw : swapsWith (.ListComp elt [⟨.Name x px, iter, [], 0⟩] scope pos) (some (.Name y py)) spos.line env = pure true)
    (hclos : closureFor scope env = pure cl) (hcell : ∀ y ∈ scope.names, y.2 ≠ .cell) (hkind : scope.kind = .function) (hnames : ∀ y ∈ scope.names, y.2 = .local → scope.names.lookup y.1 = some .local) (hx : scope.names.lookup x = some .local)
    (hy : env.kindOf y = some .local) (hp : (env.scope.kind == .class || (env.scope.kind == .module && env.locals != env.globals)) = false)
    (hs : ∀ x, foldedSetIterable iter env x = pure x)
    (hQ : ∀ D' h' tk ys, s.heap.get? D' = none → h'.PlainList D' (List.toArray ys) → StrsAre ys (ts.map f) → h'.Ns env.locals (fun z => if z = y then some (.ref D') else m z) → Kp env.locals s.heap h' → Q .next { s with heap := h', toks := tk }) :
    wpAny (model pg w) A (exec (.Assign [.Name y py] (.ListComp elt [⟨.Name x px, iter, [], 0⟩] scope pos) spos) env) Q E s := by
  have e24 : sizeLine = 16777216 := by decide
  have hne : D ≠ s.heap.objs.size := by obtain ⟨o, e, _⟩ := hD; exact Nat.ne_of_lt (Heap.lt_size e)
  have st := push_stays s.heap { cls := .type "list_iterator", data := .fields #[.ref D, .int 0 0] }
  refine wpAny_Assign_ListComp_free (cl := cl) (fun _ => true) (fun v y => ∃ t tok, Rel v t ∧ y = .str (f t) tok) hsw hclos hcell hkind hnames hx hy hp (wpAny_mono hit ?_ fun _ _ e => e) hs
  rintro xv s₁ ⟨rfl, rfl⟩
  refine wpAny_pyIter_list hD ?_
  refine ⟨s₁.heap.objs.size, _, _, _, _, _, m, rfl, Walks.list hh s₁.heap.objs.size D hne vs.toArray, by rw [List.size_toArray]; omega, ⟨⟨_, Heap.get?_push_size _ rfl, rfl, rfl⟩, hD.at fun o e => Heap.get?_push_of_some _ e⟩, ?_, ?_, hn.keeps st, ?_, ?_⟩
  · intro b hb'
    rw [Heap.size_push]
    rcases List.mem_cons.mp hb' with rfl | hb'
    · exact Nat.lt_succ_self _
    · rw [List.mem_singleton.mp hb']; obtain ⟨o, e, _⟩ := hD; exact Nat.lt_succ_of_lt (Heap.lt_size e)
  · rw [List.mem_singleton]; exact Nat.ne_of_lt hn.lt
  · constructor
    · intro C i v s₃ m₃ E' hC hv hn hm hk htk
      exact wpAny_tests_nil ⟨rfl, _, _, rfl, fun b o e => e⟩
    · intro C i v s₃ m₃ E' hC hv _ hn hm hk htk
      obtain ⟨t, ht, hr⟩ := hR.at (i := i) (v := v) (by simpa using hv)
      refine wpAny_mono (he C v t s₃ m₃ E' (List.mem_of_getElem? ht) hr (Nat.le_trans (by show s₁.heap.objs.size ≤ (s₁.heap.push _).objs.size; rw [Heap.size_push]; exact Nat.le_succ _) hC) hn hm fun b o e => hk b o (by rw [List.mem_singleton]; exact Nat.ne_of_lt (Heap.lt_size e)) (st b o e)) (fun y s₄ h₄ => ?_) fun _ _ e => e
      obtain ⟨⟨tok, rfl⟩, k⟩ := h₄
      exact ⟨⟨t, tok, hr, rfl⟩, k⟩
  · intro D' h' tk ys vs' n1 n2 n3 n4 n5 n6 n8 n7
    have hv : vs' = vs := by
      apply List.ext_getElem?
      intro i
      rcases Nat.lt_or_ge i vs'.length with hi | hi
      · have := n5 i _ (List.getElem?_eq_getElem hi)
        rw [List.getElem?_eq_getElem hi]
        simpa using this.symm
      · rw [List.getElem?_eq_none hi, List.getElem?_eq_none (by rw [n4, List.size_toArray] at hi; exact hi)]
    subst hv
    rw [List.filter_eq_self.mpr (fun _ _ => rfl)] at n6
    refine hQ D' h' tk ys.toList ?_ (by simpa using n3) (RA.out uniq hR n6) n8 fun b o hb' e => n7 b o hb' (by rw [List.mem_singleton]; exact Nat.ne_of_lt (Heap.lt_size e)) (st b o e)
    cases e : s₁.heap.get? D' with
    | none => rfl
    | some o => rw [st _ _ e] at n1; cases n1
end
end Mine
end
/-! M2 -/
section
open PySem PySem.W PySem.Calls PyProof.Rows
set_option maxRecDepth 100000
namespace Mine
section
variable {w : World} {A : Around} {s : Shared} {env : Env} {scope : Scope} {cl : List (Str × Addr)} {R : Addr} {ts : List Str} {mg mb : Str → Option Value}
theorem elt_text {p1 p2 p3 : Pos} (hkk : ∀ C, (compEnvC scope cl C env).scope.kind = .function) (hkp : ∀ C, (compEnvC scope cl C env).kindOf (Str.ofString "pair") = some .local) :
    EltOk w A env scope cl (Str.ofString "pair") (.Subscript (.Name (Str.ofString "pair") p1) (.Constant (.int 1) 0 p2) p3) (PairAt R s.heap) (fun t => t) ts s := by
  intro C v t s₃ m₃ E' _ hr hC hn hm hk
  obtain ⟨p, q, tok, ms, rfl, ⟨o, ho, hoc, n, hod⟩, _⟩ := hr
  refine Subscript_ (wpAny_Name (wpAny_loadName_local (hkk C) (hkp C) hn hm ?_))
  refine wpAny_Constant_int ?_
  exact item_tupleT (j := 1) (l := [.ref q, .str t tok]) ⟨o, hk _ _ ho, hoc, n, hod⟩ (by decide) (by decide) rfl rfl ⟨⟨tok, rfl⟩, _, _, rfl, fun b o e => e⟩
theorem elt_sent {p1 p2 p3 p4 p5 : Pos} (X : (hd.heap_39 w.params).In s.heap) (T : TR mg mb s.heap) (hroom : A.depth + 3 < recursionLimit) (hh : A.handled = none) (h128 : ∀ t ∈ ts, t.cps.size ≤ 100 ∧ ∀ c ∈ t.cps.toList, c < 128)
    (hgl : env.globals = mainGlobals) (hkk : ∀ C, (compEnvC scope cl C env).scope.kind = .function) (hkp : ∀ C, (compEnvC scope cl C env).kindOf (Str.ofString "pair") = some .local) (hkf : ∀ C, (compEnvC scope cl C env).kindOf (Str.ofString "_law_sent") = some .globalImplicit) :
    EltOk w A env scope cl (Str.ofString "pair") (.Call (.Name (Str.ofString "_law_sent") p4) [.Subscript (.Name (Str.ofString "pair") p1) (.Constant (.int 0) 0 p2) p3] [] p5) (PairAt R s.heap) qs ts s := by
  refine fillMe ?_
  k_fill
  intro _ _
  intro C v t s₃ m₃ E' ht hr hC hn hm hk
  obtain ⟨p, q, tok, ms, rfl, ⟨o, ho, hoc, n, hod⟩, hq, hms, _⟩ := hr
  have X₃ : (hd.heap_39 w.params).In s₃.heap := X.keeps hk
  refine wpAny_Call_Name_kw (Name_function_global (hkk C) (hkf C) (loadGlobal_global (mg := mg) (by show s₃.heap.Ns env.globals mg; rw [hgl]; exact T.g.keeps hk) (mg_of X T.g (by k_is)) ?_))
  refine callWith_K X₃ (by k_is) ?_
  refine spliced_more ?_
  refine Subscript_ (wpAny_Name (wpAny_loadName_local (hkk C) (hkp C) hn hm ?_))
  refine wpAny_Constant_int ?_
  refine item_tupleT (j := 0) (l := [.ref q, .str t tok]) ⟨o, hk _ _ ho, hoc, n, hod⟩ (by decide) (by decide) rfl rfl ?_
  refine spliced_none ?_
  refine ⟨X₃, ?_⟩
  have hl : ms.length ≤ t.cps.toList.length := by rw [hms.length]; exact marks_len _ _
  have h100 := (h128 t ht).1
  rw [← Array.length_toList] at h100
  refine sent_call (vs := ms) (ns := mk t) X₃ (TR.stays T hk) hroom hh (list_stays hq hk) hms (by omega) (marks_small _ _ (h128 t ht).2) ?_
  intro h' tk t' st
  have e : (⟨(sentF 13 (mk t)).toArray⟩ : Str) = qs t := by unfold qs; rw [quote_sent]
  rw [e]
  exact ⟨⟨t', rfl⟩, h', tk, rfl, st⟩
theorem elt_quote {p1 p4 p5 : Pos} (X : (hd.heap_39 w.params).In s.heap) (T : TR mg mb s.heap) (hroom : A.depth + 3 < recursionLimit) (h128 : ∀ t ∈ ts, t.cps.size ≤ 100 ∧ ∀ c ∈ t.cps.toList, c < 128)
    (hgl : env.globals = mainGlobals) (hkk : ∀ C, (compEnvC scope cl C env).scope.kind = .function) (hkp : ∀ C, (compEnvC scope cl C env).kindOf (Str.ofString "one") = some .local) (hkf : ∀ C, (compEnvC scope cl C env).kindOf (Str.ofString "quotedata") = some .globalImplicit) :
    EltOk w A env scope cl (Str.ofString "one") (.Call (.Name (Str.ofString "quotedata") p4) [.Name (Str.ofString "one") p1] [] p5) (fun v t => ∃ tok, v = .str t tok) qs ts s := by
  refine fillMe ?_
  k_fill
  intro _ _
  intro C v t s₃ m₃ E' ht hr hC hn hm hk
  obtain ⟨tok, rfl⟩ := hr
  have X₃ : (hd.heap_39 w.params).In s₃.heap := X.keeps hk
  refine wpAny_Call_Name_kw (Name_function_global (hkk C) (hkf C) (loadGlobal_global (mg := mg) (by show s₃.heap.Ns env.globals mg; rw [hgl]; exact T.g.keeps hk) (mg_of X T.g (by k_is)) ?_))
  refine callWith_K X₃ (by k_is) ?_
  refine spliced_more ?_
  refine wpAny_Name (wpAny_loadName_local (hkk C) (hkp C) hn hm ?_)
  refine spliced_none ?_
  refine ⟨X₃, ?_⟩
  refine quote_call X₃ (TR.stays T hk) (by omega) (h128 t ht).1 ?_
  intro h' tk t' st
  exact ⟨⟨t', rfl⟩, h', tk, rfl, st⟩
end
end Mine
end
/-! M3 -/
section
open PySem PySem.W PySem.Calls PyProof.Rows
set_option maxRecDepth 100000
namespace Mine
theorem str_ok {t : Str} (h : ∀ c ∈ t.cps.toList, c < 128) : PyData.canLay0 (.str t) = true := by
  have : PyData.strOk t = true := by
    unfold PyData.strOk
    rw [Array.all_eq_true]
    intro i hi
    have := h (t.cps[i]) (by simp)
    simp; omega
  simpa [PyData.canLay0] using this
/-- what stands at the head of each turn of the law's loop -/
def Core (g : Heap) (R : Addr) (i : Nat) (h : Heap) : Prop :=
  ∃ m oc cv D rv dv ts, Fr g g.objs.size h m ∧ m (Str.ofString "row") = some (.ref R) ∧ m (Str.ofString "due") = some (.ref D) ∧ h.get? (g.objs.size + 1) = some oc ∧ oc.data = .cell cv ∧
    h.PlainList R (List.toArray rv) ∧ StrsAre rv ts ∧ h.PlainList D (List.toArray dv) ∧ PairsAre R h dv ts ∧ Srt mk ts ∧ (∀ t ∈ ts, t.cps.size ≤ 100 ∧ ∀ c ∈ t.cps.toList, c < 128) ∧ ts.length ≤ i ∧ D ≠ R
theorem Core.stays {g : Heap} {R : Addr} (i : Nat) (h h' : Heap) (x : Core g R i h) (st : h.StaysIn h') : Core g R i h' := by
  obtain ⟨m, oc, cv, D, rv, dv, ts, f1, f2, f3, f4, f5, f6, f7, f8, f9, f10⟩ := x
  exact ⟨m, oc, cv, D, rv, dv, ts, Fr.stays f1 st, f2, f3, st _ _ f4, f5, f6.at fun o e => st _ _ e, f7, f8.at fun o e => st _ _ e, f9.keeps st, f10⟩
theorem Core.hide {g : Heap} {R I : Addr} (hgI : g.get? I = none) (i : Nat) (h h0 : Heap) (oI : Obj) (xs : Array Value) (x : Core g R i h) (eI : h.get? I = some oI) (dI : oI.data = .fields xs)
    (k : ∀ b o, b ≠ I → h.get? b = some o → h0.get? b = some o) : Core g R i h0 := by
  obtain ⟨m, oc, cv, D, rv, dv, ts, f1, f2, f3, f4, f5, f6, f7, f8, f9, f10⟩ := x
  have seq : ∀ {b : Addr} {o : Obj} {ys : Array Value} {n : Nat}, h.get? b = some o → o.data = .seq ys n → b ≠ I := by
    rintro b o ys n e d rfl
    rw [eI] at e; cases e; rw [dI] at d; cases d
  refine ⟨m, oc, cv, D, rv, dv, ts, ⟨?_, fun b o e => k b o (fun q => by rw [q, hgI] at e; cases e) (f1.keep b o e), f1.above⟩, f2, f3, k _ _ ?_ f4, f5, ?_, f7, ?_, ?_, f10⟩
  · obtain ⟨o, es, ep, e, hd, r⟩ := f1.ns
    refine ⟨o, es, ep, k _ _ ?_ e, hd, r⟩
    intro q
    rw [q, eI] at e; cases e; rw [dI] at hd; cases hd
  · intro q
    rw [q, eI] at f4; cases f4; rw [dI] at f5; cases f5
  · obtain ⟨n, e⟩ := f6
    exact ⟨n, k _ _ (seq e rfl) e⟩
  · obtain ⟨n, e⟩ := f8
    exact ⟨n, k _ _ (seq e rfl) e⟩
  · clear f10 f8 f7
    induction f9 with
    | nil => exact .nil
    | cons a _ ih =>
      refine .cons ?_ ih
      obtain ⟨p, q, tok, ms, e, ⟨o, ho, hc, n, hd⟩, ⟨o2, ho2, hc2, n2, hd2⟩, i, n1, n2⟩ := a
      exact ⟨p, q, tok, ms, e, ⟨o, k _ _ (seq ho hd) ho, hc, n, hd⟩, ⟨o2, k _ _ (seq ho2 hd2) ho2, hc2, _, hd2⟩, i, n1, n2⟩
section
variable {prog : Program} {w : World} {A : Around} {env : Env} {y : Str} {py : Pos} {body : List Stmt} {Q : Flow → Shared → Prop} {E : Value → Shared → Prop} {s : Shared}
theorem for_items2 {l : Addr} {vs : List Value} (hh : A.handled = none) (hl : s.heap.IsList l vs.toArray) (C : Nat → Heap → Prop) (c0 : C 0 s.heap)
    (stays : ∀ i h h', C i h → h.StaysIn h' → C i h')
    (hide : ∀ i h h0 oI xs, C i h → h.get? s.heap.objs.size = some oI → oI.data = .fields xs → (∀ b o, b ≠ s.heap.objs.size → h.get? b = some o → h0.get? b = some o) → C i h0)
    (turn : ∀ i v h tk oI, vs[i]? = some v → h.IsList l vs.toArray → C i h → h.get? s.heap.objs.size = some oI → (∃ xs, oI.data = .fields xs) → wpAny (model prog w) A (storeName env y v) (fun _ s₂ => wpAny (model prog w) A (execs body env) (fun f s₃ => match f with
      | .next | .cont => TurnEnd s (fun h' => h'.get? s.heap.objs.size = some oI ∧ (∀ o, h.get? l = some o → h'.get? l = some o) ∧ C (i + 1) h') s₃
      | .brk => Q .next s₃
      | .ret v => Q (.ret v) s₃) E s₂) E { s with heap := h, toks := tk })
    (done : ∀ h tk, C vs.length h → Q .next { s with heap := h, toks := tk }) :
    wpAny (model prog w) A (pyIter (.ref l)) (fun it s₂ => ForAt prog w A env (.Name y py) body Q E it s₂) E s := by
  have hne : l ≠ s.heap.objs.size := by
    obtain ⟨o, e, _⟩ := hl
    exact Nat.ne_of_lt (Heap.lt_size e)
  refine wpAny_pyIter_list hl ?_
  refine ⟨s.heap.objs.size, _, _, _, _, _, (fun i h => ∃ h0, h0.get? s.heap.objs.size = none ∧ h0.StaysIn h ∧ C i h0), rfl, Walks.list hh s.heap.objs.size l hne vs.toArray, ⟨⟨_, Heap.get?_push_size _ rfl, rfl, rfl⟩, hl.at fun o e => Heap.get?_push_of_some _ e⟩, ⟨s.heap, fresh_at _, push_stays _ _, c0⟩, ?_, ?_, ?_⟩
  · rintro i h h' ⟨h0, n0, st, c⟩ k
    exact ⟨h0, n0, fun b o e => k b o (fun q => by rw [List.mem_singleton.mp q, n0] at e; cases e) (st b o e), c⟩
  · rintro i v h tk hi hP ⟨h0, n0, st, c⟩ hSt
    obtain ⟨⟨oI, eI, _, dI⟩, hL⟩ := hSt
    refine wpAny_pure (wpAny_assign_Name (wpAny_mono (turn i v h tk oI (by simpa using hP) hL (stays _ _ _ c st) eI ⟨_, dI⟩) (fun _ s₂ h₂ => wpAny_mono h₂ (fun f s₃ h₃ => ?_) fun _ _ e => e) fun _ _ e => e))
    have fin : (∃ h' tk', s₃ = { s with heap := h', toks := tk' } ∧ h'.get? s.heap.objs.size = some oI ∧ (∀ o, h.get? l = some o → h'.get? l = some o) ∧ C (i + 1) h') →
        ∃ h' tk', s₃ = { s with heap := h', toks := tk' } ∧ (∀ b ∈ [s.heap.objs.size, l], ∀ o, h.get? b = some o → h'.get? b = some o) ∧ ∃ h0, h0.get? s.heap.objs.size = none ∧ h0.StaysIn h' ∧ C (i + 1) h0 := by
      rintro ⟨h', tk', e, k1, k2, c'⟩
      refine ⟨h', tk', e, fun b hb o e => ?_, hideAll h' [s.heap.objs.size], hideAll_none _ (.head _), fun b o e => of_hideAll _ e, hide _ _ _ _ _ c' k1 dI fun b o hb e => hideAll_get _ e (by simpa using hb)⟩
      rcases List.mem_cons.mp hb with rfl | hb
      · rw [eI] at e; cases e; exact k1
      · rw [List.mem_singleton.mp hb] at e ⊢; exact k2 o e
    cases f with
    | next => obtain ⟨h', tk', rfl, k⟩ := fin h₃; exact ⟨h', tk', rfl, k⟩
    | cont => obtain ⟨h', tk', rfl, k⟩ := fin h₃; exact ⟨h', tk', rfl, k⟩
    | brk => exact h₃
    | ret v => exact h₃
  · rw [List.size_toArray]
    rintro h tk ⟨h0, _, st, c⟩
    exact done h tk (stays _ _ _ c st)
end
/-- all but the frame, its cell and the row stays -/
def K3 (L R : Addr) (h h' : Heap) : Prop := ∀ b o, b ≠ L → b ≠ L + 1 → b ≠ R → h.get? b = some o → h'.get? b = some o
theorem K3.trans {L R : Addr} {h h' h'' : Heap} (x : K3 L R h h') (y : K3 L R h' h'') : K3 L R h h'' := fun b o n1 n2 n3 e => y b o n1 n2 n3 (x b o n1 n2 n3 e)
theorem K3.of {L R : Addr} {h h' : Heap} (x : Kp L h h') : K3 L R h h' := fun b o n1 _ _ e => x b o n1 e
theorem Fr.kp {g h h' : Heap} {m m' : Str → Option Value} (F : Fr g g.objs.size h m) (n : h'.Ns g.objs.size m') (k : Kp g.objs.size h h') : Fr g g.objs.size h' m' :=
  ⟨n, fun b o e => k b o (Nat.ne_of_lt (Heap.lt_size e)) (F.keep b o e), F.above⟩
theorem Fr.keepB {g h h' : Heap} {L R : Addr} {m : Str → Option Value} (F : Fr g L h m) (hR : R ≠ L) (hg : g.get? R = none) (k : ∀ b o, b ≠ R → h.get? b = some o → h'.get? b = some o) : Fr g L h' m := by
  obtain ⟨o, es, ep, x, r⟩ := F.ns
  exact ⟨⟨o, es, ep, k _ _ (Ne.symm hR) x, r⟩, fun b o e => k b o (fun q => by rw [q, hg] at e; cases e) (F.keep b o e), F.above⟩
theorem cell_ne {h : Heap} {c b : Addr} {oc o : Obj} {cv : Option Value} {xs : Array Value} {n : Nat} (e1 : h.get? c = some oc) (d1 : oc.data = .cell cv) (e2 : h.get? b = some o) (d2 : o.data = .seq xs n) : b ≠ c := by
  rintro rfl
  rw [e1] at e2; cases e2; rw [d1] at d2; cases d2
theorem PairsAre.keepC {R c : Addr} {h h' : Heap} {oc : Obj} {cv : Option Value} {vs : List Value} {ts : List Str} (x : PairsAre R h vs ts) (e1 : h.get? c = some oc) (d1 : oc.data = .cell cv) (k : ∀ b o, b ≠ c → h.get? b = some o → h'.get? b = some o) : PairsAre R h' vs ts := by
  induction x with
  | nil => exact .nil
  | cons a _ ih =>
    refine .cons ?_ ih
    obtain ⟨p, q, tok, ms, e, ⟨o, ho, hc, n, hd⟩, ⟨o2, ho2, hc2, n2, hd2⟩, i, n1, n2⟩ := a
    exact ⟨p, q, tok, ms, e, ⟨o, k _ _ (cell_ne e1 d1 ho hd) ho, hc, n, hd⟩, ⟨o2, k _ _ (cell_ne e1 d1 ho2 hd2) ho2, hc2, _, hd2⟩, i, n1, n2⟩
theorem PL.keepC {D c : Addr} {h h' : Heap} {oc : Obj} {cv : Option Value} {items : Array Value} (x : h.PlainList D items) (e1 : h.get? c = some oc) (d1 : oc.data = .cell cv) (k : ∀ b o, b ≠ c → h.get? b = some o → h'.get? b = some o) : h'.PlainList D items := by
  obtain ⟨n, e⟩ := x
  exact ⟨n, k _ _ (cell_ne e1 d1 e rfl) e⟩
end Mine
end
/-! M4 -/
section
open PySem PySem.W PySem.Calls PyProof.Rows
set_option maxRecDepth 100000
namespace Mine
theorem core0 {g h : Heap} {m : Str → Option Value} {news : List (Addr × Obj)} {R D : Addr} {oc : Obj} {cv : Option Value} {n n' : Nat} (F : Fr g g.objs.size h m) (N : News g g.objs.size h news)
    (hD : (D, W.listOf #[] n) ∈ news) (hR : (R, W.listOf #[] n') ∈ news) (hc : (g.objs.size + 1, oc) ∈ news) (h1 : m (Str.ofString "row") = some (.ref R)) (h2 : m (Str.ofString "due") = some (.ref D)) (dc : oc.data = .cell cv) (hne : R < D) : Core g R 0 h :=
  ⟨m, oc, cv, D, [], [], [], F, h1, h2, (N _ hc).1, dc, ⟨_, (N _ hR).1⟩, .nil, ⟨_, (N _ hD).1⟩, .nil, List.Pairwise.nil, (fun _ x => nomatch x), Nat.le_refl _, Nat.ne_of_gt hne⟩
theorem ints_at {vs : List Value} {ns : List Int} (h : IntsAre vs ns) : ∀ {i : Nat} {v : Value}, vs[i]? = some v → ∃ k t, v = .int k t := by
  induction h with
  | nil => intro i v e; simp at e
  | cons k t _ ih => intro i v e; cases i with
    | zero => cases e; exact ⟨_, _, rfl⟩
    | succ i => exact ih (by simpa using e)
theorem cell_news {g h : Heap} {L : Addr} {m : Str → Option Value} {oc : Obj} (F : Fr g L h m) (e : h.get? (L + 1) = some oc) (n : g.get? (L + 1) = none) : News g L h ((L + 1, oc) :: allOf g L h) := by
  intro p hp
  rcases List.mem_cons.mp hp with rfl | hp
  · exact ⟨e, Nat.succ_ne_self _, n⟩
  · exact all_news F p hp
theorem above_none {h : Heap} {b : Addr} (hb : h.objs.size ≤ b) : h.get? b = none := by
  cases e : h.get? b with
  | none => rfl
  | some o => exact absurd (Heap.lt_size e) (Nat.not_lt.mpr hb)
/-- what a turn of the law's loop carries along -/
def St (g : Heap) (R : Addr) (h0 : Heap) (oc : Obj) (pls : List (Addr × List Value)) (prs : List (List Value × List Str)) (h : Heap) : Prop :=
  h.get? (g.objs.size + 1) = some oc ∧ (∀ p ∈ pls, h.PlainList p.1 p.2.toArray) ∧ (∀ p ∈ prs, PairsAre R h p.1 p.2) ∧ K3 g.objs.size R h0 h
section
variable {g h0 h h' : Heap} {R : Addr} {oc : Obj} {pls : List (Addr × List Value)} {prs : List (List Value × List Str)}
theorem St.kp {m : Str → Option Value} (S : St g R h0 oc pls prs h) (hn : h.Ns g.objs.size m) (k : Kp g.objs.size h h') : St g R h0 oc pls prs h' :=
  ⟨k _ _ (Nat.succ_ne_self _) S.1, fun p hp => PL.kpn (S.2.1 p hp) hn k, fun p hp => (S.2.2.1 p hp).keepL hn k, S.2.2.2.trans (K3.of k)⟩
theorem St.stays (S : St g R h0 oc pls prs h) (st : h.StaysIn h') : St g R h0 oc pls prs h' :=
  ⟨st _ _ S.1, fun p hp => (S.2.1 p hp).at fun _ e => st _ _ e, fun p hp => (S.2.2.1 p hp).keeps st, S.2.2.2.trans fun b o _ _ _ e => st b o e⟩
theorem St.cell {oc' : Obj} {cv : Option Value} (S : St g R h0 oc pls prs h) (d : oc.data = .cell cv) (e : h'.get? (g.objs.size + 1) = some oc') (sb : Heap.SameBut (g.objs.size + 1) h h') : St g R h0 oc' pls prs h' :=
  ⟨e, fun p hp => PL.keepC (S.2.1 p hp) S.1 d fun b _ n e => (sb.2 b n).trans e, fun p hp => (S.2.2.1 p hp).keepC S.1 d fun b _ n e => (sb.2 b n).trans e, S.2.2.2.trans fun b _ _ n _ e => (sb.2 b n).trans e⟩
theorem St.ins (S : St g R h0 oc pls prs h) (hp : ∀ p ∈ pls, p.1 ≠ R) (hc : g.objs.size + 1 ≠ R) (k : ∀ b o, b ≠ R → h.get? b = some o → h'.get? b = some o) : St g R h0 oc pls prs h' :=
  ⟨k _ _ hc S.1, fun p q => (S.2.1 p q).at fun _ e => k _ _ (hp p q) e, fun p hp => (S.2.2.1 p hp).keepB k, S.2.2.2.trans fun b o _ _ n e => k b o n e⟩
theorem St.addL {D : Addr} {vs : List Value} (S : St g R h0 oc pls prs h) (x : h.PlainList D vs.toArray) : St g R h0 oc ((D, vs) :: pls) prs h :=
  ⟨S.1, fun p hp => by rcases List.mem_cons.mp hp with rfl | hp; exact x; exact S.2.1 p hp, S.2.2⟩
theorem St.addP {vs : List Value} {ts : List Str} (S : St g R h0 oc pls prs h) (x : PairsAre R h vs ts) : St g R h0 oc pls ((vs, ts) :: prs) h :=
  ⟨S.1, S.2.1, fun p hp => by rcases List.mem_cons.mp hp with rfl | hp; exact x; exact S.2.2.1 p hp, S.2.2.2⟩
theorem St.l0 {p : Addr × List Value} {r : List (Addr × List Value)} (S : St g R h0 oc (p :: r) prs h) : h.PlainList p.1 p.2.toArray := S.2.1 _ (.head _)
theorem St.l1 {p q : Addr × List Value} {r : List (Addr × List Value)} (S : St g R h0 oc (q :: p :: r) prs h) : h.PlainList p.1 p.2.toArray := S.2.1 _ (.tail _ (.head _))
theorem St.l2 {p q q2 : Addr × List Value} {r : List (Addr × List Value)} (S : St g R h0 oc (q2 :: q :: p :: r) prs h) : h.PlainList p.1 p.2.toArray := S.2.1 _ (.tail _ (.tail _ (.head _)))
theorem St.l3 {p q q2 q3 : Addr × List Value} {r : List (Addr × List Value)} (S : St g R h0 oc (q3 :: q2 :: q :: p :: r) prs h) : h.PlainList p.1 p.2.toArray := S.2.1 _ (.tail _ (.tail _ (.tail _ (.head _))))
theorem St.p0 {p : List Value × List Str} {r : List (List Value × List Str)} (S : St g R h0 oc pls (p :: r) h) : PairsAre R h p.1 p.2 := S.2.2.1 _ (.head _)
theorem St.p1 {p q : List Value × List Str} {r : List (List Value × List Str)} (S : St g R h0 oc pls (q :: p :: r) h) : PairsAre R h p.1 p.2 := S.2.2.1 _ (.tail _ (.head _))
theorem St.p2 {p q q2 : List Value × List Str} {r : List (List Value × List Str)} (S : St g R h0 oc pls (q2 :: q :: p :: r) h) : PairsAre R h p.1 p.2 := S.2.2.1 _ (.tail _ (.tail _ (.head _)))
theorem St.p3 {p q q2 q3 : List Value × List Str} {r : List (List Value × List Str)} (S : St g R h0 oc pls (q3 :: q2 :: q :: p :: r) h) : PairsAre R h p.1 p.2 := S.2.2.1 _ (.tail _ (.tail _ (.tail _ (.head _))))
theorem Fr.cell {m : Str → Option Value} (F : Fr g g.objs.size h m) (hn : g.get? (g.objs.size + 1) = none) (sb : Heap.SameBut (g.objs.size + 1) h h') : Fr g g.objs.size h' m :=
  ⟨F.ns.sameBut sb (Ne.symm (Nat.succ_ne_self _)), fun b o e => (sb.2 b (fun q => by rw [q, hn] at e; cases e)).trans (F.keep b o e), F.above⟩
theorem keep_all' {L : Addr} {m' : Str → Option Value} {news : List (Addr × Obj)} (fk : ∀ b o, g.get? b = some o → h.get? b = some o) (F' : Fr g L h' m') (N' : News g L h' news) (hs : ∀ p ∈ allOf g L h, p ∈ news) : Kp L h h' := by
  intro b o hb e
  cases eg : g.get? b with
  | some o' =>
    have := fk b o' eg
    rw [e] at this; cases this
    exact F'.keep b o eg
  | none => exact (N' (b, o) (hs _ (allOf_mem.mpr ⟨e, hb, eg⟩))).1
theorem PL.stays {D : Addr} {items : Array Value} (x : h.PlainList D items) (st : h.StaysIn h') : h'.PlainList D items := x.at fun _ e => st _ _ e
theorem PL.fresh_ne {D b : Addr} {items : Array Value} (x : h.PlainList D items) (e : h.get? b = none) : b ≠ D := by
  rintro rfl
  obtain ⟨n, e'⟩ := x
  rw [e] at e'; cases e'
end
end Mine
end
/-! M5 -/
section
open PySem PySem.W PySem.Calls PyProof.Rows
set_option maxRecDepth 100000
namespace Mine
theorem strs_ins {x : Str} {tx : Tok} {rv : List Value} {ts : List Str} (h : StrsAre rv ts) : ∀ c, StrsAre (rv.take c ++ .str x tx :: rv.drop c) (ts.take c ++ x :: ts.drop c) := by
  induction h with
  | nil => intro c; simp; exact .cons _ _ .nil
  | cons y t r ih => intro c; cases c with
    | zero => exact .cons _ _ (.cons _ _ r)
    | succ c => exact .cons _ _ (ih c)
theorem ins_facts {A B ts : List Str} {x : Str} (e : A ++ B = ts) : (Lo mk (mk x) (A ++ x :: B)).length = (Lo mk (mk x) ts).length ∧ (Mi mk (mk x) (A ++ x :: B)).length = (Mi mk (mk x) ts).length + 1 := by
  subst e
  unfold Lo Mi
  constructor
  · rw [List.filter_append, List.filter_append, List.filter_cons, if_neg (by rw [ltM_irrefl]; decide)]
  · rw [List.filter_append, List.filter_append, List.filter_cons, if_pos (by simp)]
    simp only [List.length_append, List.length_cons]
    omega
/-- what stands once a turn has put its text in -/
def Mid (g : Heap) (R : Addr) (h0 : Heap) (x : Str) (tx : Tok) (k : Int) (tn : Tok) (D6 : Addr) (D7 : Addr) (i : Nat) (h' : Heap) : Prop :=
  ∃ m oc cv D rv dv us y6 y7, Fr g g.objs.size h' m ∧ m (Str.ofString "row") = some (.ref R) ∧ m (Str.ofString "due") = some (.ref D) ∧ m (Str.ofString "text") = some (.str x tx) ∧ m (Str.ofString "number") = some (.int k tn) ∧ m (Str.ofString "less") = some (.ref D6) ∧ m (Str.ofString "like") = some (.ref D7) ∧
    oc.data = .cell cv ∧ h'.PlainList R (List.toArray rv) ∧ StrsAre rv us ∧ St g R h0 oc [(D, dv), (D6, y6), (D7, y7)] [(dv, us)] h' ∧ Srt mk us ∧ (∀ t ∈ us, t.cps.size ≤ 100 ∧ ∀ c ∈ t.cps.toList, c < 128) ∧ us.length ≤ i + 1 ∧
    y6.length = (Lo mk (mk x) us).length ∧ y6.length + y7.length + 1 = (Lo mk (mk x) us).length + (Mi mk (mk x) us).length ∧ D ≠ R
/-- the statement that puts a text in has ended -/
def MidQ (s : Shared) (P : Heap → Prop) (f : Flow) (s' : Shared) : Prop := f = .next ∧ ∃ h' tk', s' = { s with heap := h', toks := tk' } ∧ P h'
theorem MidQ.intro {s : Shared} {P : Heap → Prop} {h' : Heap} {tk' : Nat} (h : P h') : MidQ s P .next { s with heap := h', toks := tk' } := ⟨rfl, h', tk', rfl, h⟩
theorem pairs_one {R p q : Addr} {h : Heap} {x : Str} {tx : Tok} {mv : List Value} {n : Nat} (e : h.get? p = some { cls := .type "tuple", data := .seq [.ref q, .str x tx].toArray n }) (hq : h.IsList q mv.toArray) (hm : IntsAre mv (marksF false x.cps.toList)) (hp : p ≠ R) (hqR : q ≠ R) : PairsAre R h [.ref p] [x] :=
  .cons ⟨p, q, tx, mv, rfl, ⟨_, e, rfl, _, rfl⟩, hq, hm, hp, hqR⟩ .nil
theorem mid_step {α : Type} {M : Model} {A : Around} {c : Sem α} {v : α} {Q : α → Shared → Prop} {E : Value → Shared → Prop} {s : Shared} (P : Heap → Prop) (h1 : wpAny M A c (fun f s' => f = v ∧ ∃ h' tk', s' = { s with heap := h', toks := tk' } ∧ P h') E s)
    (h2 : ∀ h' tk', P h' → Q v { s with heap := h', toks := tk' }) : wpAny M A c Q E s :=
  wpAny_mono h1 (fun f s' hm => by obtain ⟨rfl, h', tk', rfl, hp⟩ := hm; exact h2 h' tk' hp) fun _ _ e => e
theorem mid_turn {g h0 h : Heap} {R : Addr} {oc : Obj} {pls : List (Addr × List Value)} {prs : List (List Value × List Str)} {M : Model} {A : Around} {c : Sem Flow} {Q : Flow → Shared → Prop} {E : Value → Shared → Prop} {s : Shared} (_ : St g R h0 oc pls prs h) (x : Str) (tx : Tok) (k : Int) (tn : Tok) (D6 D7 : Addr) (i : Nat)
    (h1 : wpAny M A c (MidQ s (Mid g R h0 x tx k tn D6 D7 i)) E s) (h2 : ∀ h' tk', Mid g R h0 x tx k tn D6 D7 i h' → Q .next { s with heap := h', toks := tk' }) : wpAny M A c Q E s := mid_step _ h1 h2
theorem PL.ne_cell {h : Heap} {D c : Addr} {oc : Obj} {cv : Option Value} {items : Array Value} (x : h.PlainList D items) (e1 : h.get? c = some oc) (d1 : oc.data = .cell cv) : D ≠ c := by
  obtain ⟨n, e⟩ := x
  exact cell_ne e1 d1 e rfl
theorem PL.ne_tup {h : Heap} {D p : Addr} {o : Obj} {items : Array Value} (x : h.PlainList D items) (e : h.get? p = some o) (c : o.cls = .type "tuple") : p ≠ D := by
  rintro rfl
  obtain ⟨n, e'⟩ := x
  rw [e] at e'; cases e'
  simp at c
theorem St.mid {g h0 h : Heap} {R : Addr} {oc : Obj} {prs : List (List Value × List Str)} {D8 D7 D6 D : Addr} {y8 y7 y6 dv : List Value} {r : List (Addr × List Value)} {us : List Str} (S : St g R h0 oc ((D8, y8) :: (D7, y7) :: (D6, y6) :: r) prs h) (x : h.PlainList D dv.toArray) (y : PairsAre R h dv us) : St g R h0 oc [(D, dv), (D6, y6), (D7, y7)] [(dv, us)] h := by
  refine ⟨S.1, fun p hp => ?_, fun p hp => by rw [List.mem_singleton.mp hp]; exact y, S.2.2.2⟩
  simp only [List.mem_cons, List.not_mem_nil, or_false] at hp
  rcases hp with rfl | rfl | rfl
  · exact x
  · exact S.l2
  · exact S.l1
theorem ne_five {R a b c d e : Addr} {va vb vc vd ve : List Value} (h1 : a ≠ R) (h2 : b ≠ R) (h3 : c ≠ R) (h4 : d ≠ R) (h5 : e ≠ R) : ∀ p ∈ [(a, va), (b, vb), (c, vc), (d, vd), (e, ve)], p.1 ≠ R := by
  intro p hp
  simp only [List.mem_cons, List.not_mem_nil, or_false] at hp
  rcases hp with rfl | rfl | rfl | rfl | rfl <;> assumption
theorem sent_small : ∀ (a : List Int) (l : Int), (∀ k ∈ a, 0 ≤ k ∧ k < 128) → ∀ c ∈ sentF l a, c < 128
  | [], _, _, c, hc => by simp [sentF] at hc
  | k :: r, l, h, c, hc => by
    unfold sentF at hc
    rcases List.mem_append.mp hc with q | q
    · have hk := h k (.head _)
      split at q
      · simp at q; omega
      · split at q
        · simp at q; omega
        · simp at q; omega
    · exact sent_small r k (fun k hk => h k (.tail _ hk)) c q
theorem qs_ok {t : Str} (h : ∀ c ∈ t.cps.toList, c < 128) : PyData.canLay0 (.str (qs t)) = true := by
  refine str_ok ?_
  intro c hc
  have hc : c ∈ quote t.cps.toList := by simpa [qs] using hc
  rw [quote_sent] at hc
  exact sent_small _ 13 (marks_small _ _ h) c hc
theorem qs_all {ts : List Str} (h : ∀ t ∈ ts, t.cps.size ≤ 100 ∧ ∀ c ∈ t.cps.toList, c < 128) : ∀ y ∈ ts.map qs, PyData.canLay0 (.str y) = true := by
  intro y hy
  obtain ⟨t, ht, rfl⟩ := List.mem_map.mp hy
  exact qs_ok (h t ht).2
theorem dicts_one {h : Heap} {L : Addr} {env : Env} {m : Str → Option Value} (n : h.Ns L m) (hf : env.frame = some L) : KtsDicts ([env].filterMap (·.frame)) h := by
  intro b hb
  have : b = L := by simpa [hf] using hb
  subst this
  obtain ⟨o, es, ep, e, d, _⟩ := n
  exact ⟨o, es, ep, e, d⟩
theorem str_one (v : Value) (t t' : Str) (a : ∃ tok, v = .str t tok) (b : ∃ tok, v = .str t' tok) : t = t' := by
  obtain ⟨_, rfl⟩ := a
  obtain ⟨_, e⟩ := b
  cases e; rfl
/-- the two ways a text is put in, as facts of plain lists -/
theorem put_lo {ts : List Str} {x : Str} (hs : Srt mk ts) (h11 : ∀ t ∈ ts, t.cps.size ≤ 100 ∧ ∀ c ∈ t.cps.toList, c < 128) (hx : x.cps.size ≤ 100 ∧ ∀ c ∈ x.cps.toList, c < 128) :
    ∃ us, ts.take (Lo mk (mk x) ts).length ++ x :: ts.drop (Lo mk (mk x) ts).length = us ∧ ((Lo mk (mk x) ts ++ [x]) ++ Mi mk (mk x) ts) ++ Hi mk (mk x) ts = us ∧ Srt mk us ∧ (∀ t ∈ us, t.cps.size ≤ 100 ∧ ∀ c ∈ t.cps.toList, c < 128) ∧ us.length = ts.length + 1 ∧
      (Lo mk (mk x) ts).length = (Lo mk (mk x) us).length ∧ (Lo mk (mk x) ts).length + (Mi mk (mk x) ts).length + 1 = (Lo mk (mk x) us).length + (Mi mk (mk x) us).length := by
  obtain ⟨e1, e2⟩ := take_lo mk (mk x) hs
  have f := ins_facts (x := x) (parts mk (mk x) hs)
  refine ⟨_, rfl, ?_, ?_, ?_, ?_, ?_, ?_⟩
  · rw [e1, e2]; simp
  · rw [e1, e2]; exact (mid_srt mk (mk x) hs rfl).1
  · intro t ht
    rcases List.mem_append.mp ht with q | q
    · exact h11 t (List.mem_of_mem_take q)
    · rcases List.mem_cons.mp q with rfl | q
      · exact hx
      · exact h11 t (List.mem_of_mem_drop q)
  · rw [List.length_append, List.length_cons, List.length_take, List.length_drop]
    have : (Lo mk (mk x) ts).length ≤ ts.length := List.length_filter_le _ _
    omega
  · rw [e1, e2]; omega
  · rw [e1, e2]; omega
theorem put_hi {ts : List Str} {x : Str} (hs : Srt mk ts) (h11 : ∀ t ∈ ts, t.cps.size ≤ 100 ∧ ∀ c ∈ t.cps.toList, c < 128) (hx : x.cps.size ≤ 100 ∧ ∀ c ∈ x.cps.toList, c < 128) :
    ∃ us, ts.take ((Lo mk (mk x) ts).length + (Mi mk (mk x) ts).length) ++ x :: ts.drop ((Lo mk (mk x) ts).length + (Mi mk (mk x) ts).length) = us ∧ ((Lo mk (mk x) ts ++ Mi mk (mk x) ts) ++ [x]) ++ Hi mk (mk x) ts = us ∧ Srt mk us ∧ (∀ t ∈ us, t.cps.size ≤ 100 ∧ ∀ c ∈ t.cps.toList, c < 128) ∧ us.length = ts.length + 1 ∧
      (Lo mk (mk x) ts).length = (Lo mk (mk x) us).length ∧ (Lo mk (mk x) ts).length + (Mi mk (mk x) ts).length + 1 = (Lo mk (mk x) us).length + (Mi mk (mk x) us).length := by
  obtain ⟨e1, e2⟩ := take_mi mk (mk x) hs
  have f := ins_facts (ts := ts) (x := x) (A := Lo mk (mk x) ts ++ Mi mk (mk x) ts) (B := Hi mk (mk x) ts) (by rw [List.append_assoc]; exact parts mk (mk x) hs)
  refine ⟨_, rfl, ?_, ?_, ?_, ?_, ?_, ?_⟩
  · rw [e1, e2]; simp
  · rw [e1, e2]; exact (mid_srt mk (mk x) hs rfl).2
  · intro t ht
    rcases List.mem_append.mp ht with q | q
    · exact h11 t (List.mem_of_mem_take q)
    · rcases List.mem_cons.mp q with rfl | q
      · exact hx
      · exact h11 t (List.mem_of_mem_drop q)
  · rw [List.length_append, List.length_cons, List.length_take, List.length_drop]
    have := le_count mk (mk x) hs
    have h2 := List.length_filter_le (fun a => !ltM (mk x) (mk a)) ts
    omega
  · rw [e1, e2]; omega
  · rw [e1, e2]; omega
theorem lo_quote {ts : List Str} {x : Str} (hs : Srt mk ts) : ∀ i y, ts[i]? = some y → (quote y.cps.toList < quote x.cps.toList ↔ i < (Lo mk (mk x) ts).length) := fun i y e => by
  rw [← lo_at mk (mk x) hs e]; exact quote_lt _ _
theorem hi_quote {ts : List Str} {x : Str} (hs : Srt mk ts) : ∀ i y, ts[i]? = some y → (quote x.cps.toList < quote y.cps.toList ↔ ¬ i < (Lo mk (mk x) ts).length + (Mi mk (mk x) ts).length) := fun i y e => by
  rw [← hi_at mk (mk x) hs e]; exact quote_lt _ _
theorem lomi_le {ts : List Str} {x : Str} (hs : Srt mk ts) : (Lo mk (mk x) ts).length + (Mi mk (mk x) ts).length ≤ ts.length := by
  rw [← le_count mk (mk x) hs]; exact List.length_filter_le _ _
section
variable {w : World} {A : Around} {s : Shared} {env : Env} {scope : Scope} {cl : List (Str × Addr)} {R : Addr} {ts : List Str} {mg mb : Str → Option Value}
theorem elt_text' {h : Heap} {p1 p2 p3 : Pos} (e : s.heap = h) (hkk : ∀ C, (compEnvC scope cl C env).scope.kind = .function) (hkp : ∀ C, (compEnvC scope cl C env).kindOf (Str.ofString "pair") = some .local) :
    EltOk w A env scope cl (Str.ofString "pair") (.Subscript (.Name (Str.ofString "pair") p1) (.Constant (.int 1) 0 p2) p3) (PairAt R h) (fun t => t) ts s := by
  subst e; exact elt_text hkk hkp
theorem elt_sent' {h : Heap} {p1 p2 p3 p4 p5 : Pos} (e : s.heap = h) (X : (hd.heap_39 w.params).In h) (T : TR mg mb h) (hroom : A.depth + 3 < recursionLimit) (hh : A.handled = none) (h128 : ∀ t ∈ ts, t.cps.size ≤ 100 ∧ ∀ c ∈ t.cps.toList, c < 128)
    (hgl : env.globals = mainGlobals) (hkk : ∀ C, (compEnvC scope cl C env).scope.kind = .function) (hkp : ∀ C, (compEnvC scope cl C env).kindOf (Str.ofString "pair") = some .local) (hkf : ∀ C, (compEnvC scope cl C env).kindOf (Str.ofString "_law_sent") = some .globalImplicit) :
    EltOk w A env scope cl (Str.ofString "pair") (.Call (.Name (Str.ofString "_law_sent") p4) [.Subscript (.Name (Str.ofString "pair") p1) (.Constant (.int 0) 0 p2) p3] [] p5) (PairAt R h) qs ts s := by
  subst e; exact elt_sent X T hroom hh h128 hgl hkk hkp hkf
end
end Mine
end
/-! Z1 -/
section
open PySem PySem.W PySem.Calls PyProof.Rows
set_option maxRecDepth 100000
namespace Mine
def LawQ (s : Shared) (base : Heap) (f : Flow) (s' : Shared) : Prop := f = .ret (.bool true) ∧ ∃ h' tk, s' = { s with heap := h', toks := tk } ∧ base.StaysIn h'
theorem lawQ_intro {s : Shared} {base h' : Heap} {tk : Nat} (h : base.StaysIn h') : LawQ s base (.ret (.bool true)) { s with heap := h', toks := tk } := ⟨rfl, h', tk, rfl, h⟩
theorem law_post (args : List WData) : PySem.Challenge.rw_nb0129_01.row.claim.post args (.bool true) args = true :=
  postW_of (r := PySem.Challenge.rw_nb0129_01.row.toRowW) (X := true) rfl (by first | rfl | exact (w_eq_bool (w_res rfl) w_lit).trans rfl) rfl
theorem law_good {s₁ s s' : Shared} {f : Flow} {cl : Str → Option Addr} {mean : ExcName → Option Value} {args : List WData} (hg : s₁.gens = #[]) (e1 : s.gens = s₁.gens) (e2 : s.os = s₁.os) (h : LawQ s s₁.heap f s') :
    f = .ret (.bool true) ∧ GoodW PySem.Challenge.rw_nb0129_01.row.claim cl mean args s₁ (.ok (.ret (.bool true))) s' := by
  obtain ⟨rfl, h', tk, rfl, st⟩ := h
  exact ⟨rfl, .inl ⟨.bool true, .bool true, [], rfl, fun _ => rfl, .bool true, law_post _, fun _ => ⟨.nil, fun _ ha => nomatch ha⟩⟩, st, e2, e1.trans hg⟩
local macro_rules | `(tactic| walk_at "mine steps") => `(tactic| repeat' ((fail_if_success (with_reducible show wpAny _ _ (exec (Stmt.While _ _ _ _) _) _ _ _)); (fail_if_success (with_reducible show wpAny _ _ (exec (Stmt.For _ _ _ _ _) _) _ _ _)); (fail_if_success (with_reducible show wpAny _ _ (call (Value.ref _) _ _) _ _ _)); (fail_if_success (with_reducible show wpAny _ _ (call (Value.builtin "len") _ _) _ _ _)); (fail_if_success (with_reducible show wpAny _ _ (getMethod (Value.ref _) _ _) _ _ _)); (fail_if_success (with_reducible show wpAny _ _ (pyIter _) _ _ _)); (fail_if_success (with_reducible show wpAny _ _ (compareOp _ (Value.ref _) (Value.ref _)) _ _ _)); (fail_if_success (with_reducible show wpAny _ _ (leaving _ _) _ _ _)); (fail_if_success (with_reducible show wpAny _ _ (eval (Expr.ListComp _ _ _ _) _) _ _ _)); (fail_if_success (with_reducible show wpAny _ _ (exec (Stmt.Assign _ (Expr.ListComp _ _ _ _) _) _) _ _ _)); first | (k_unfold; (try dsimp only)) | walk1 | (dsimp only; walk1)))
local macro_rules | `(tactic| walk_at "mine till") => `(tactic| repeat' ((fail_if_success (with_reducible show wpAny _ _ (exec (Stmt.While _ _ _ _) _) _ _ _)); (fail_if_success (with_reducible show wpAny _ _ (exec (Stmt.For _ _ _ _ _) _) _ _ _)); (fail_if_success (with_reducible show wpAny _ _ (exec (Stmt.If _ _ _ _) _) _ _ _)); (fail_if_success (with_reducible show wpAny _ _ (storeName _ (Str.ofString "marks") _) _ _ _)); (fail_if_success (with_reducible show wpAny _ _ (binaryOp _ (Value.ref _) (Value.ref _)) _ _ _)); (fail_if_success (with_reducible show wpAny _ _ (call (Value.ref _) _ _) _ _ _)); (fail_if_success (with_reducible show wpAny _ _ (call (Value.builtin "len") _ _) _ _ _)); (fail_if_success (with_reducible show wpAny _ _ (getMethod (Value.ref _) _ _) _ _ _)); (fail_if_success (with_reducible show wpAny _ _ (pyIter _) _ _ _)); (fail_if_success (with_reducible show wpAny _ _ (compareOp _ (Value.ref _) (Value.ref _)) _ _ _)); (fail_if_success (with_reducible show wpAny _ _ (leaving _ _) _ _ _)); (fail_if_success (with_reducible show wpAny _ _ (eval (Expr.ListComp _ _ _ _) _) _ _ _)); (fail_if_success (with_reducible show wpAny _ _ (exec (Stmt.Assign _ (Expr.ListComp _ _ _ _) _) _) _ _ _)); first | (k_unfold; (try dsimp only)) | walk1 | (dsimp only; walk1)))
local macro_rules | `(tactic| walk_at "mine if") => `(tactic| repeat' ((fail_if_success (with_reducible show wpAny _ _ (exec (Stmt.While _ _ _ _) _) _ _ _)); (fail_if_success (with_reducible show wpAny _ _ (exec (Stmt.For _ _ _ _ _) _) _ _ _)); (fail_if_success (with_reducible show wpAny _ _ (storeName _ (Str.ofString "marks") _) _ _ _)); (fail_if_success (with_reducible show wpAny _ _ (binaryOp _ (Value.ref _) (Value.ref _)) _ _ _)); (fail_if_success (with_reducible show wpAny _ _ (call (Value.ref _) _ _) _ _ _)); (fail_if_success (with_reducible show wpAny _ _ (call (Value.builtin "len") _ _) _ _ _)); (fail_if_success (with_reducible show wpAny _ _ (getMethod (Value.ref _) _ _) _ _ _)); (fail_if_success (with_reducible show wpAny _ _ (pyIter _) _ _ _)); (fail_if_success (with_reducible show wpAny _ _ (compareOp _ (Value.ref _) (Value.ref _)) _ _ _)); (fail_if_success (with_reducible show wpAny _ _ (leaving _ _) _ _ _)); (fail_if_success (with_reducible show wpAny _ _ (eval (Expr.ListComp _ _ _ _) _) _ _ _)); (fail_if_success (with_reducible show wpAny _ _ (exec (Stmt.Assign _ (Expr.ListComp _ _ _ _) _) _) _ _ _)); first | (k_unfold; (try dsimp only)) | walk1 | (dsimp only; walk1)))
local macro_rules | `(tactic| walk_at "eval Name") => `(tactic| (k_here; k_dflt (refine' ld ?k1 ?k2 ?_; (case k1 => k_asm); (case k2 => assumption); k_whole)))
local macro_rules | `(tactic| walk_at "loadName") => `(tactic| (k_here; k_dflt (refine' ldn ?k1 ?k2 ?_; (case k1 => k_asm); (case k2 => assumption); k_whole)))
local macro_rules | `(tactic| walk_at "eval Name") => `(tactic| (k_here; k_dflt (refine' nameX_L ?k1 ?k2 ?_; (case k1 => k_asm); (case k2 => assumption); k_whole)))
set_option maxHeartbeats 8000000 in
theorem t0 : PySem.Challenge.rw_nb0129_01.Holds := hd (by
  k_go0
  rename Ground _ _ _ _ _ _ _ _ _ => G₀
  rename Glob _ _ _ _ _ _ _ _ => GL₀
  rename Tables _ _ _ _ => B₀
  rename TopE _ _ _ _ => TE₀
  rename TopW _ _ _ => TW₀
  rename BMod _ _ _ _ _ => M₀
  rename Heap.CodeRec _ _ _ => hcd₀
  rename Dflts _ _ _ _ _ _ => hD₀
  rename CellsAre _ _ _ => hY₀
  rename Fr _ _ _ _ => F
  rename News _ _ _ _ => N
  rename Frag.In _ _ => X
  rename Top _ _ _ _ _ _ => T
  rename Below _ _ _ _ => K0
  rename Heap.IsList _ _ _ => hS
  rename IntsAre _ _ => hSi
  rename Shared.gens _ = #[] => hg
  rename Obj.data _ = Data.cell _ => hcell
  clear hY₀ hD₀ hcd₀ M₀ TW₀ TE₀ B₀ GL₀ G₀
  dsimp only
  refine wpAny_mono (wpAny_mono (Q' := _) (E' := fun _ _ => False) (?_ : wpAny _ _ _ (LawQ _ _) (fun _ _ => False) _) (fun _ _ x => x) (fun _ _ x => x)) (fun f s' h => by obtain ⟨rfl, g⟩ := law_good hg rfl rfl h; exact g) (fun _ _ x => x.elim)
  walk_at "mine steps"
  refine For_S ?_
  walk_at "mine steps"
  rename Fr _ _ _ _ => F
  rename News _ _ _ _ => N
  rename IntsAre _ ([26, 25, 4, 10] ++ _) => hI
  rename List.length _ = min _ _ => hC
  have c0 := fun hne => core0 F N (.tail _ (.tail _ (.tail _ (.head _)))) (.tail _ (.tail _ (.tail _ (.tail _ (.head _))))) (.tail _ (.tail _ (.tail _ (.tail _ (.tail _ (.head _)))))) rfl rfl hcell hne
  have c0 := c0 (by show @LT.lt Nat _ _ _; omega)
  have hgR := (N _ (.tail _ (.tail _ (.tail _ (.tail _ (.head _)))))).2.2
  have hgc := (N _ (.tail _ (.tail _ (.tail _ (.tail _ (.tail _ (.head _))))))).2.2
  have hwl := hI.length
  rw [List.length_append, hC] at hwl
  have hsz := F.ns.lt
  have T0 : TR _ _ _ := topRead_of T
  have hltR := Heap.lt_size (N _ (.tail _ (.tail _ (.tail _ (.tail _ (.head _)))))).1
  have hltc := Heap.lt_size (N _ (.tail _ (.tail _ (.tail _ (.tail _ (.tail _ (.head _))))))).1
  dsimp only at hltR hltc hgR hgc
  refine for_items2 rfl ⟨_, (N _ (.head _)).1, rfl, _, rfl⟩ (Core _ _) c0 Core.stays (Core.hide (above_none (Nat.le_of_lt hsz))) ?_ ?_
  · intro i v h tk oI hv hlp C eI dI
    obtain ⟨k, tn, rfl⟩ := ints_at hI hv
    have hi : i < 14 := by
      have := (List.getElem?_eq_some_iff.mp hv).1
      simp only [List.length_cons, List.length_nil] at hwl
      omega
    obtain ⟨m, oc, cv, D, rv, dv, ts, f1, f2, f3, f4, f5, f6, f7, f8, f9, f10, f11, f12, f13⟩ := C
    clear c0 F N hv hI hwl hC
    have N := all_news f1
    have S : St _ _ h oc [(D, dv)] [(dv, ts)] h := ⟨f4, fun p hp => by rw [List.mem_singleton.mp hp]; exact f8, fun p hp => by rw [List.mem_singleton.mp hp]; exact f9, fun _ _ _ _ _ e => e⟩
    have fk := f1.keep
    have fn := f1.ns
    walk_at "mine till"
    rename Fr _ _ _ (fun y => if y = _ then _ else _) => F₁
    rename News _ _ _ _ => N₁
    have k₁ := keep_all' fk F₁ N₁ (fun _ x => x)
    have S := S.kp fn k₁
    have row := PL.kpn f6 fn k₁
    clear fk fn N₁ f8 f9 f6 k₁ f4
    refine text_call (by k_in) (TR.stays T0 F₁.keep) (by show callerA.depth + 1 + 3 < _; decide) ?_
    intro h₂ tk₂ t₂ st₂
    have F₂ := Fr.stays F₁ st₂
    have S := S.stays st₂
    have row := PL.stays row st₂
    have hx1 : (⟨(lawF 4 (k.fmod 4681).toNat).toArray⟩ : Str).cps.size ≤ 100 := by
      have := lawF_len 4 (k.fmod 4681).toNat
      simp; omega
    have hx2 : ∀ c ∈ (⟨(lawF 4 (k.fmod 4681).toNat).toArray⟩ : Str).cps.toList, c < 128 := by
      intro c hc
      exact lawF_mem _ _ c (by simpa using hc)
    generalize (⟨(lawF 4 (k.fmod 4681).toNat).toArray⟩ : Str) = x at hx1 hx2 ⊢
    clear F₁ st₂
    have N₂ := all_news F₂
    have fk := F₂.keep
    have fn := F₂.ns
    walk_at "mine till"
    rename Fr _ _ _ (fun y => if y = Str.ofString "text" then _ else _) => F₃
    rename News _ _ _ _ => N₃
    have k₃ := keep_all' fk F₃ N₃ (fun _ x => x)
    have S := S.kp fn k₃
    have row := PL.kpn row fn k₃
    clear N₃ fk fn k₃
    refine marks_call (by k_in) (TR.stays T0 F₃.keep) (by show callerA.depth + 1 + 3 < _; decide) rfl hx1 ?_
    intro h₄ tk₄ Mq mv st₄ fr₄ pl₄ hmv
    have nMR := PL.fresh_ne row fr₄
    have F₄ := Fr.stays F₃ st₄
    have S := (S.stays st₄).addL pl₄
    have row := PL.stays row st₄
    clear F₃ st₄ pl₄
    have N₄ := all_news F₄
    walk_at "mine till"
    clear N₄
    refine wpAny_storeName_cell rfl rfl rfl ⟨oc, S.1, f5⟩ ?_
    intro h₅ c₅ sb₅
    obtain ⟨oc₅, e₅, d₅⟩ := c₅
    have F₅ := Fr.cell F₄ hgc sb₅
    have row := PL.keepC row S.1 f5 fun b o n e => (sb₅.2 b n).trans e
    have S := S.cell f5 e₅ sb₅
    clear F₄ e₅ sb₅ f5
    have N₅ := all_news F₅
    walk_at "mine till"
    have hdl : dv.length = ts.length := S.p0.length
    obtain ⟨m5, F5, g1, g2, g3, g4⟩ : ∃ m', Fr _ _ h₅ m' ∧ m' (Str.ofString "row") = some (.ref _) ∧ m' (Str.ofString "due") = some (.ref D) ∧ m' (Str.ofString "text") = some (.str x t₂) ∧ m' (Str.ofString "number") = some (.int k tn) := ⟨_, F₅, f2, f3, rfl, rfl⟩
    have N5 := N₅
    clear F₅ N₅
    refine comp_assign (ts := ts) (vs := dv) (D := D) (Mq := Mq) (Mi := mk x) (tst := ltM) rfl F5.ns (nameX_L F5 g2 ⟨rfl, rfl⟩) S.l1.isList (fun A E s a b xs ys ns ms Q h1 h2 h3 h4 h5 h6 => lt_ints h1 h2 h3 h4 (by omega) h6)
      (by show callerA.units + 3 + 64 < _; decide) S.p0 ⟨oc₅, S.1, d₅⟩ S.l0.isList hmv (by omega) rfl rfl (by decide) rfl (by decide) rfl rfl rfl (fun _ => rfl) (fun _ => rfl) (fun _ => rfl) rfl rfl (fun _ => rfl) ?_
    intro D6 h6 tk6 ys6 a1 a2 a3 a4 a5
    have ne6 := PL.fresh_ne row a1
    have Fx6 := Fr.kp F5 a4 a5
    have S := ((S.kp F5.ns a5).addL a2).addP a3
    have row := PL.kpn row F5.ns a5
    obtain ⟨m6, F6, g1, g2, g3, g4, g5⟩ : ∃ m', Fr _ _ h6 m' ∧ m' (Str.ofString "row") = some (.ref _) ∧ m' (Str.ofString "due") = some (.ref D) ∧ m' (Str.ofString "text") = some (.str x t₂) ∧ m' (Str.ofString "number") = some (.int k tn) ∧ m' (Str.ofString "less") = some (.ref D6) := ⟨_, Fx6, g1, g2, g3, g4, rfl⟩
    clear a1 a2 a3 a4 a5 Fx6 F5 N5
    have N6 := all_news F6
    walk_at "mine till"
    refine comp_assign (ts := ts) (vs := dv) (D := D) (Mq := Mq) (Mi := mk x) (tst := fun a b => decide (a = b)) rfl F6.ns (nameX_L F6 g2 ⟨rfl, rfl⟩) S.l2.isList (fun A E s a b xs ys ns ms Q h1 h2 h3 h4 h5 h6 => ke_eq_ints h1 h2 h3 h4 (by omega) h6)
      (by show callerA.units + 3 + 64 < _; decide) S.p1 ⟨oc₅, S.1, d₅⟩ S.l1.isList hmv (by omega) rfl rfl (by decide) rfl (by decide) rfl rfl rfl (fun _ => rfl) (fun _ => rfl) (fun _ => rfl) rfl rfl (fun _ => rfl) ?_
    intro D7 h7 tk7 ys7 a1 a2 a3 a4 a5
    have ne7 := PL.fresh_ne row a1
    have Fx7 := Fr.kp F6 a4 a5
    have S := ((S.kp F6.ns a5).addL a2).addP a3
    have row := PL.kpn row F6.ns a5
    obtain ⟨m7, F7, g1, g2, g3, g4, g5, g6⟩ : ∃ m', Fr _ _ h7 m' ∧ m' (Str.ofString "row") = some (.ref _) ∧ m' (Str.ofString "due") = some (.ref D) ∧ m' (Str.ofString "text") = some (.str x t₂) ∧ m' (Str.ofString "number") = some (.int k tn) ∧ m' (Str.ofString "less") = some (.ref D6) ∧ m' (Str.ofString "like") = some (.ref D7) := ⟨_, Fx7, g1, g2, g3, g4, g5, rfl⟩
    clear a1 a2 a3 a4 a5 Fx7 F6 N6
    have N7 := all_news F7
    walk_at "mine till"
    refine comp_assign (ts := ts) (vs := dv) (D := D) (Mq := Mq) (Mi := mk x) (tst := fun a b => ltM b a) rfl F7.ns (nameX_L F7 g2 ⟨rfl, rfl⟩) S.l3.isList (fun A E s a b xs ys ns ms Q h1 h2 h3 h4 h5 h6 => gt_ints h1 h2 h3 h4 (by omega) (by rw [gtM]; exact h6))
      (by show callerA.units + 3 + 64 < _; decide) S.p2 ⟨oc₅, S.1, d₅⟩ S.l2.isList hmv (by omega) rfl rfl (by decide) rfl (by decide) rfl rfl rfl (fun _ => rfl) (fun _ => rfl) (fun _ => rfl) rfl rfl (fun _ => rfl) ?_
    intro D8 h8 tk8 ys8 a1 a2 a3 a4 a5
    have ne8 := PL.fresh_ne row a1
    have Fx8 := Fr.kp F7 a4 a5
    have S := ((S.kp F7.ns a5).addL a2).addP a3
    have row := PL.kpn row F7.ns a5
    obtain ⟨m8, F8, g1, g2, g3, g4, g5, g6, g7⟩ : ∃ m', Fr _ _ h8 m' ∧ m' (Str.ofString "row") = some (.ref _) ∧ m' (Str.ofString "due") = some (.ref D) ∧ m' (Str.ofString "text") = some (.str x t₂) ∧ m' (Str.ofString "number") = some (.int k tn) ∧ m' (Str.ofString "less") = some (.ref D6) ∧ m' (Str.ofString "like") = some (.ref D7) ∧ m' (Str.ofString "more") = some (.ref D8) := ⟨_, Fx8, g1, g2, g3, g4, g5, g6, rfl⟩
    clear a1 a2 a3 a4 a5 Fx8 F7 N7
    have N8 := all_news F8
    walk_at "mine till"
    have e24 : sizeLine = 16777216 := by decide
    have hrl : rv.length = ts.length := strs_length f7
    have nRL := PL.ne row F8.ns
    have nRc : _ ≠ _ := Ne.symm (PL.ne_cell row S.1 d₅)
    have hl6 : ys6.length = (Lo mk (mk x) ts).length := S.p2.length
    have hl7 : ys7.length = (Mi mk (mk x) ts).length := S.p1.length
    have hl8 : ys8.length ≤ ts.length := by rw [S.p0.length]; exact List.length_filter_le _ _
    have hlm := lomi_le (x := x) f10
    refine mid_turn S x t₂ k tn D6 D7 i ?_ ?_
    · walk_at "mine if"
      · skip
        obtain ⟨us, u1, u2, u3, u4, u5, u6, u7⟩ := put_lo f10 f11 ⟨hx1, hx2⟩
        refine il_key (c := (Lo mk (mk x) ts).length) (by k_in) (TR.stays T0 F8.keep) (by show callerA.depth + 1 + 5 < _; decide) (by omega) row f7 (fun y hy => (f11 y hy).1) hx1 (by omega) (lo_quote f10) ?_
        intro h9 tk9 row k9
        have F9 := Fr.keepB F8 nRL hgR k9
        have S := S.ins (ne_five ne8 ne7 ne6 nMR f13) nRc k9
        have hst := strs_ins (x := x) (tx := t₂) f7 ((Lo mk (mk x) ts).length)
        rw [u1] at hst
        clear F8 N8 k9
        have N9 := cell_news F9 S.1 hgc
        have fk := F9.keep
        have fn := F9.ns
        walk_at "mine if"
        rename Fr _ _ _ _ => F10
        rename News _ _ _ _ => N10
        have k10 := keep_all' fk F10 N10 (fun _ q => (.tail _ (.tail _ (.tail _ q))))
        refine add_lists F10 N10 (S.kp fn k10).l2.isList ⟨_, (N10 _ (.head _)).1, rfl, _, rfl⟩ ?_ (by simp only [List.length_append, List.length_cons, List.length_nil]; omega)
        intro h11 F11 N11
        clear F10 N10 k10
        have k11 := keep_all' fk F11 N11 (fun _ q => (.tail _ (.tail _ (.tail _ (.tail _ q)))))
        walk_at "mine if"
        refine add_lists F11 N11 ⟨_, (N11 _ (.head _)).1, rfl, _, rfl⟩ (S.kp fn k11).l1.isList ?_ (by simp only [List.length_append, List.length_cons, List.length_nil]; omega)
        intro h12 F12 N12
        clear F11 N11 k11
        have k12 := keep_all' fk F12 N12 (fun _ q => (.tail _ (.tail _ (.tail _ (.tail _ (.tail _ q))))))
        walk_at "mine if"
        have ne13 := PL.fresh_ne (PL.kpn row fn k12) (fresh_at _)
        refine add_lists F12 N12 ⟨_, (N12 _ (.head _)).1, rfl, _, rfl⟩ (S.kp fn k12).l0.isList ?_ (by simp only [List.length_append, List.length_cons, List.length_nil]; omega)
        intro h13 F13 N13
        have k13 := keep_all' fk F13 N13 (fun _ q => (.tail _ (.tail _ (.tail _ (.tail _ (.tail _ (.tail _ q)))))))
        have S13 := S.kp fn k13
        have row := PL.kpn row fn k13
        have pl13 : Heap.PlainList h13 _ _ := ⟨_, (N13 _ (.head _)).1⟩
        have tup := (N13 _ (.tail _ (.tail _ (.tail _ (.tail _ (.head _)))))).1
        have pr := pairs_one (R := _) tup S13.l3.isList hmv (PL.ne_tup row tup rfl) nMR
        have pairs := ((S13.p2.append pr).append S13.p1).append S13.p0
        have pairs : PairsAre _ h13 _ (Lo mk (mk x) ts ++ [x] ++ Mi mk (mk x) ts ++ Hi mk (mk x) ts) := pairs
        rw [u2] at pairs
        have S := S13.mid pl13 pairs
        clear N13 F12 N12 S13 pr tup pl13 k13 fk fn
        have N13 := all_news F13
        have fk := F13.keep
        have fn := F13.ns
        walk_at "mine if"
        rename Fr _ _ _ _ => F14
        rename News _ _ _ _ => N14
        have k14 := keep_all' fk F14 N14 (fun _ q => q)
        exact MidQ.intro ⟨_, oc₅, _, _, _, _, us, ys6, ys7, F14, g1, rfl, g3, g4, g5, g6, d₅, PL.kpn row fn k14, hst, S.kp fn k14, u3, u4, by omega, by omega, by omega, ne13⟩
      · skip
        obtain ⟨us, u1, u2, u3, u4, u5, u6, u7⟩ := put_hi f10 f11 ⟨hx1, hx2⟩
        refine ir_key (c := (Lo mk (mk x) ts).length + (Mi mk (mk x) ts).length) (by k_in) (TR.stays T0 F8.keep) (by show callerA.depth + 1 + 5 < _; decide) (by omega) row f7 (fun y hy => (f11 y hy).1) hx1 (by omega) (hi_quote f10) ?_
        intro h9 tk9 row k9
        have F9 := Fr.keepB F8 nRL hgR k9
        have S := S.ins (ne_five ne8 ne7 ne6 nMR f13) nRc k9
        have hst := strs_ins (x := x) (tx := t₂) f7 ((Lo mk (mk x) ts).length + (Mi mk (mk x) ts).length)
        rw [u1] at hst
        clear F8 N8 k9
        have N9 := cell_news F9 S.1 hgc
        have fk := F9.keep
        have fn := F9.ns
        walk_at "mine if"
        refine add_lists F9 N9 S.l2.isList S.l1.isList ?_ (by simp only [List.length_append, List.length_cons, List.length_nil]; omega)
        intro h10 F10 N10
        clear F9 N9
        walk_at "mine if"
        rename Fr _ _ _ _ => F11
        rename News _ _ _ _ => N11
        refine add_lists F11 N11 ⟨_, (N11 _ (.tail _ (.tail _ (.head _)))).1, rfl, _, rfl⟩ ⟨_, (N11 _ (.head _)).1, rfl, _, rfl⟩ ?_ (by simp only [List.length_append, List.length_cons, List.length_nil]; omega)
        intro h12 F12 N12
        clear F11 N11
        have k12 := keep_all' fk F12 N12 (fun _ q => (.tail _ (.tail _ (.tail _ (.tail _ (.tail _ q))))))
        walk_at "mine if"
        have ne13 := PL.fresh_ne (PL.kpn row fn k12) (fresh_at _)
        refine add_lists F12 N12 ⟨_, (N12 _ (.head _)).1, rfl, _, rfl⟩ (S.kp fn k12).l0.isList ?_ (by simp only [List.length_append, List.length_cons, List.length_nil]; omega)
        intro h13 F13 N13
        have k13 := keep_all' fk F13 N13 (fun _ q => (.tail _ (.tail _ (.tail _ (.tail _ (.tail _ (.tail _ q)))))))
        have S13 := S.kp fn k13
        have row := PL.kpn row fn k13
        have pl13 : Heap.PlainList h13 _ _ := ⟨_, (N13 _ (.head _)).1⟩
        have tup := (N13 _ (.tail _ (.tail _ (.tail _ (.head _))))).1
        have pr := pairs_one (R := _) tup S13.l3.isList hmv (PL.ne_tup row tup rfl) nMR
        have pairs := ((S13.p2.append S13.p1).append pr).append S13.p0
        have pairs : PairsAre _ h13 _ (Lo mk (mk x) ts ++ Mi mk (mk x) ts ++ [x] ++ Hi mk (mk x) ts) := pairs
        rw [u2] at pairs
        have S := S13.mid pl13 pairs
        clear N13 F12 N12 S13 pr tup pl13 k13 fk fn
        have N13 := all_news F13
        have fk := F13.keep
        have fn := F13.ns
        walk_at "mine if"
        rename Fr _ _ _ _ => F14
        rename News _ _ _ _ => N14
        have k14 := keep_all' fk F14 N14 (fun _ q => q)
        exact MidQ.intro ⟨_, oc₅, _, _, _, _, us, ys6, ys7, F14, g1, rfl, g3, g4, g5, g6, d₅, PL.kpn row fn k14, hst, S.kp fn k14, u3, u4, by omega, by omega, by omega, ne13⟩
    · intro h' tk' hm
      obtain ⟨m9, oc9, cv9, D9, rv9, dv9, us, y6, y7, F9, g1, g2, g3, g4, g5, g6, d9, row, hst, S, u3, u4, u5, u6, u7, ne9⟩ := hm
      clear F8 N8
      have hdl9 : dv9.length = us.length := S.p0.length
      have hrl9 : rv9.length = us.length := strs_length hst
      have hlm9 := lomi_le (x := x) u3
      dsimp only
      have N9 := all_news F9
      walk_at "mine steps"
      refine comp_map (ts := us) (vs := dv9) (D := D9) (Rel := PairAt _ _) (f := fun t => t) rfl (nameX_L F9 g2 ⟨rfl, rfl⟩) S.l0.isList (fun v t t' a b => a.one b) (RA.of_pairs S.p0) (by omega) (elt_text' rfl (fun _ => rfl) (fun _ => rfl)) rfl (by decide) rfl (by decide) rfl (fun _ => rfl) ?_
      intro D10 h10 tk10 ys10 a1 a2 a3 a4
      rw [List.map_id'] at a3
      have F10 := Fr.stays F9 a4
      have S := S.stays a4
      have row := PL.stays row a4
      clear F9 N9 a4
      have N10 := all_news F10
      walk_at "mine steps"
      refine ne_strs row.isList a2.isList hst a3 (by show callerA.units + 3 + 64 < _; decide) (fun t ht => str_ok (u4 t ht).2) (fun t ht => str_ok (u4 t ht).2) ?_
      rw [show (!decide (us = us)) = false by simp]
      clear a1 a2 a3
      walk_at "mine steps"
      have hlo : 0 ≤ k.fmod ((rv9.length : Int) + 1) := Int.fmod_nonneg_of_pos _ (by omega)
      have hhi : (k.fdiv 3).fmod ((rv9.length : Int) + 1) ≤ rv9.length := by
        have := Int.fmod_lt_of_pos (k.fdiv 3) (show (0 : Int) < (rv9.length : Int) + 1 by omega)
        omega
      have fk := F10.keep
      have fn := F10.ns
      refine len_at row.isList (by omega) ?_
      intro tl kl
      walk_at "mine steps"
      rename Fr _ _ _ _ => Fx
      rename News _ _ _ _ => Nx
      have k11 := keep_all' fk Fx Nx (fun _ q => q)
      have S := S.kp fn k11
      have row := PL.kpn row fn k11
      clear fk fn Nx k11
      obtain ⟨m11, t11, F11, g1, g2, g3, g4, g5, g6, g7⟩ : ∃ m' t', Fr _ _ _ m' ∧ m' (Str.ofString "row") = some (.ref _) ∧ m' (Str.ofString "due") = some (.ref D9) ∧ m' (Str.ofString "text") = some (.str x t₂) ∧ m' (Str.ofString "number") = some (.int k tn) ∧ m' (Str.ofString "less") = some (.ref D6) ∧ m' (Str.ofString "like") = some (.ref D7) ∧ m' (Str.ofString "low") = some (.int (k.fmod ((rv9.length : Int) + 1)) t') := ⟨_, _, Fx, g1, g2, g3, g4, g5, g6, rfl⟩
      clear Fx
      have N11 := all_news F11
      have fk := F11.keep
      have fn := F11.ns
      refine len_at row.isList (by omega) ?_
      intro tl kl
      walk_at "mine steps"
      rename Fr _ _ _ _ => Fx
      rename News _ _ _ _ => Nx
      have k12 := keep_all' fk Fx Nx (fun _ q => q)
      have S := S.kp fn k12
      have row := PL.kpn row fn k12
      clear fk fn Nx k12
      obtain ⟨m12, t12, F12, g1, g2, g3, g4, g5, g6, g7, g8⟩ : ∃ m' t', Fr _ _ _ m' ∧ m' (Str.ofString "row") = some (.ref _) ∧ m' (Str.ofString "due") = some (.ref D9) ∧ m' (Str.ofString "text") = some (.str x t₂) ∧ m' (Str.ofString "number") = some (.int k tn) ∧ m' (Str.ofString "less") = some (.ref D6) ∧ m' (Str.ofString "like") = some (.ref D7) ∧ m' (Str.ofString "low") = some (.int (k.fmod ((rv9.length : Int) + 1)) t11) ∧ m' (Str.ofString "high") = some (.int ((k.fdiv 3).fmod ((rv9.length : Int) + 1)) t') := ⟨_, _, Fx, g1, g2, g3, g4, g5, g6, g7, rfl⟩
      clear Fx
      generalize k.fmod ((rv9.length : Int) + 1) = lo at hlo g7
      generalize (k.fdiv 3).fmod ((rv9.length : Int) + 1) = hi at hhi g8
      refine quote_call (by k_in) (TR.stays T0 F12.keep) (by show callerA.depth + 1 < _; decide) hx1 ?_
      intro h13 tk13 t13 st13
      have F13 := Fr.stays F12 st13
      have S := S.stays st13
      have row := PL.stays row st13
      clear F12 st13
      have N13 := all_news F13
      have fk := F13.keep
      have fn := F13.ns
      walk_at "mine steps"
      rename Fr _ _ _ _ => Fx
      rename News _ _ _ _ => Nx
      have k14 := keep_all' fk Fx Nx (fun _ q => q)
      have S := S.kp fn k14
      have row := PL.kpn row fn k14
      clear fk fn Nx k14
      obtain ⟨m14, F14, g1, g2, g5, g6, g7, g8, g9⟩ : ∃ m', Fr _ _ _ m' ∧ m' (Str.ofString "row") = some (.ref _) ∧ m' (Str.ofString "due") = some (.ref D9) ∧ m' (Str.ofString "less") = some (.ref D6) ∧ m' (Str.ofString "like") = some (.ref D7) ∧ m' (Str.ofString "low") = some (.int lo t11) ∧ m' (Str.ofString "high") = some (.int hi t12) ∧ m' (Str.ofString "asked") = some (.str (qs x) t13) := ⟨_, Fx, g1, g2, g5, g6, g7, g8, rfl⟩
      clear Fx
      have h100 : ∀ y ∈ us, y.cps.size ≤ 100 := fun y hy => (u4 y hy).1
      refine bl_key (c := (Lo mk (mk x) us).length) (by k_in) (TR.stays T0 F14.keep) (by show callerA.depth + 1 + 3 < _; decide) hlo hhi (by omega) row.isList hst h100 (lo_quote u3) ?_
      intro h15 tk15 t15 st15
      have F15 := Fr.stays F14 st15
      have S := S.stays st15
      have row := PL.stays row st15
      clear F14 st15
      have N15 := all_news F15
      walk_at "mine steps"
      refine len_at (vs := y6) S.l1.isList (by omega) ?_
      intro tl kl
      try dsimp only
      rw [u6]
      walk_at "mine steps"
      refine within_call (by k_in) (TR.stays T0 F15.keep) (by show callerA.depth + 1 + 3 < _; decide) rfl ?_
      intro h16 tk16 t16 st16
      have F16 := Fr.stays F15 st16
      have S := S.stays st16
      have row := PL.stays row st16
      clear F15 N15 st16
      have N16 := all_news F16
      walk_at "mine steps"
      · rename (_ : Int) ≠ _ => gg; exact absurd rfl gg
      · refine br_key (c := (Lo mk (mk x) us).length + (Mi mk (mk x) us).length) (by k_in) (TR.stays T0 F16.keep) (by show callerA.depth + 1 + 3 < _; decide) hlo hhi (by omega) row.isList hst h100 (hi_quote u3) ?_
        intro h17 tk17 t17 st17
        have F17 := Fr.stays F16 st17
        have S := S.stays st17
        have row := PL.stays row st17
        clear F16 N16 st17
        have N17 := all_news F17
        walk_at "mine steps"
        refine len_at (vs := y6) S.l1.isList (by omega) ?_
        intro tl kl
        walk_at "mine steps"
        refine len_at (vs := y7) S.l2.isList (by omega) ?_
        intro tl kl
        walk_at "mine steps"
        try dsimp only
        rw [show (y6.length : Int) + (y7.length : Int) + 1 = (((Lo mk (mk x) us).length + (Mi mk (mk x) us).length : Nat) : Int) by omega]
        refine within_call (by k_in) (TR.stays T0 F17.keep) (by show callerA.depth + 1 + 3 < _; decide) rfl ?_
        intro h18 tk18 t18 st18
        have F18 := Fr.stays F17 st18
        have S := S.stays st18
        have row := PL.stays row st18
        clear F17 N17 st18
        have N18 := all_news F18
        walk_at "mine steps"
        · rename (_ : Int) ≠ _ => gg; exact absurd rfl gg
        · refine TurnEnd.intro ⟨S.2.2.2 _ _ (Nat.ne_of_gt hsz) (Nat.ne_of_gt hltc) (Nat.ne_of_gt hltR) eI, fun o e => S.2.2.2 _ o (Nat.ne_of_gt (by show @LT.lt Nat _ _ _; omega)) (Nat.ne_of_gt (by show @LT.lt Nat _ _ _; omega)) (Nat.ne_of_gt (by show @LT.lt Nat _ _ _; omega)) e, ?_⟩
          exact ⟨_, oc9, cv9, D9, rv9, dv9, us, F18, g1, g2, S.1, d9, row, hst, S.l0, S.p0, u3, u4, u5, ne9⟩
  · intro h tk C
    obtain ⟨m, oc, cv, D, rv, dv, ts, f1, f2, f3, f4, f5, f6, f7, f8, f9, f10, f11, f12, f13⟩ := C
    have hlen : ts.length ≤ 14 := by
      simp only [List.length_cons, List.length_nil] at hwl
      omega
    have hrl : rv.length = ts.length := strs_length f7
    have hdl : dv.length = ts.length := f9.length
    clear c0 F N hI hwl hC
    have N := all_news f1
    dsimp only
    walk_at "mine till"
    refine comp_map_assign (ts := ts) (vs := rv) (f := qs) rfl f1.ns (nameX_L f1 f2 ⟨rfl, rfl⟩) f6.isList str_one (RA.of_strs f7) (by omega) (elt_quote (X.keeps f1.keep) (TR.stays T0 f1.keep) (by show callerA.depth + 1 + 3 < _; decide) f11 rfl (fun _ => rfl) (fun _ => rfl) (fun _ => rfl)) rfl rfl (by decide) rfl (by decide) rfl rfl rfl (fun _ => rfl) ?_
    intro D1 h1 tk1 ys1 a1 a2 a3 a4 a5
    have Fx := Fr.kp f1 a4 a5
    have f6 := PL.kpn f6 f1.ns a5
    have f8 := PL.kpn f8 f1.ns a5
    have f9 := f9.keepL f1.ns a5
    obtain ⟨m1, F1, g1, g2, g3⟩ : ∃ m', Fr _ _ h1 m' ∧ m' (Str.ofString "row") = some (.ref _) ∧ m' (Str.ofString "due") = some (.ref D) ∧ m' (Str.ofString "sent") = some (.ref D1) := ⟨_, Fx, f2, f3, rfl⟩
    clear Fx f1 N a1 a4 a5
    have N1 := all_news F1
    walk_at "mine steps"
    refine comp_map (ts := ts) (vs := dv) (D := D) (Rel := PairAt _ _) (f := qs) rfl (nameX_L F1 g2 ⟨rfl, rfl⟩) f8.isList (fun v t t' a b => a.one b) (RA.of_pairs f9) (by omega) (elt_sent' rfl (X.keeps F1.keep) (TR.stays T0 F1.keep) (by show callerA.depth + 1 + 3 < _; decide) rfl f11 rfl (fun _ => rfl) (fun _ => rfl) (fun _ => rfl)) rfl (by decide) rfl (by decide) rfl (fun _ => rfl) ?_
    intro D2 h2 tk2 ys2 b1 b2 b3 b4
    have F2 := Fr.stays F1 b4
    have f6 := PL.stays f6 b4
    have f8 := PL.stays f8 b4
    have f9 := f9.keeps b4
    have a2 := PL.stays a2 b4
    clear F1 N1 b4
    have N2 := all_news F2
    walk_at "mine steps"
    refine ne_strs a2.isList b2.isList a3 b3 (by show callerA.units + 3 + 64 < _; decide) (qs_all f11) (qs_all f11) ?_
    rw [show (!decide (List.map qs ts = List.map qs ts)) = false by simp]
    clear b1 b2 b3
    walk_at "mine steps"
    refine found_call (by k_in) (TR.stays T0 F2.keep) (by show callerA.depth + 1 + 8 < _; decide) rfl (by show callerA.units + 3 + 200 < _; decide) f8.isList f9 a2.isList a3 f10 (fun t ht => (f11 t ht).1) (by omega) ?_
    intro h3 tk3 st3
    have F3 := Fr.stays F2 st3
    have f6 := PL.stays f6 st3
    clear F2 N2
    have N3 := all_news F3
    walk_at "mine steps"
    refine refused_call (by k_in) (TR.stays T0 F3.keep) (by show callerA.depth + 1 + 8 < _; decide) rfl (by show callerA.units + 3 + 200 < _; decide) (pushX (below_caller _) F3 rfl rfl) X T (dicts_one F3.ns rfl) f6.isList f7 (fun t ht => str_ok (f11 t ht).2) (by omega) (by decide) ?_
    intro h4 tk4 st4
    clear F3 N3
    walk_at "mine steps"
    exact lawQ_intro st4)
end Mine
end
theorem PySem.Challenge.cw_nb0129_01_holds : PySem.Challenge.rw_nb0129_01.Holds := by
  exact Mine.t0
