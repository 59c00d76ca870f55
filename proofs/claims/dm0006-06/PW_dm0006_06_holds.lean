import PyProof.Rows.All
import Wide.All
import OpenK.AllK
import Wide.FinOn
import PySem.Challenge.RW_dm0006_06
set_option Elab.async false
section
open PySem PySem.W PyProof.Rows
namespace Mine
set_option maxRecDepth 100000 in
set_option maxHeartbeats 8000000 in
open_top hd06 for PySem.Challenge.rw_dm0006_06
end Mine
end
section
open PySem
namespace Mine

/-- the collector's question of `noCollectionInside`, as a code -/
def askIt : Code := .builtin "gc.ask" ⟨[rawInt 13], []⟩
def isAsk : Code → Bool
  | .builtin id ⟨[.int 13 0], []⟩ => id == "gc.ask"
  | _ => false
theorem isAsk_eq {c : Code} (h : isAsk c = true) : c = askIt := by
  unfold isAsk at h
  split at h
  · rw [beq_iff_eq.mp h]; rfl
  · cases h
theorem den_builtin {id : String} {args : Args} {b : Builtin} (h : entryFor table id = some b) : denote table (.builtin id args) = b args := by
  show (match entryFor table id with | some b => b args | none => unsupported ((withoutEnding? id "#data").getD id)) = _
  rw [h]
theorem den_ask : denote table askIt = .pure (.again (.builtin "lifetime.ask" ⟨[rawInt 13], []⟩)) :=
  den_builtin (b := Builtin.«gc.ask») (entryFor_of_fast (by kernel_rfl))

/-- the library's model, but this one question is answered at once -/
def den1 (c : Code) : Sem Fin := if isAsk c then ret (.bool false) else denote table c
def M1 (prog : Program) (w : World) : Model := ⟨den1, prog, w⟩
theorem den1_ask : den1 askIt = ret (.bool false) := rfl
theorem den1_off {c : Code} (h : isAsk c = false) : den1 c = denote table c := by unfold den1; rw [h]; rfl

theorem loud_ask : (Code.builtin "lifetime.ask" ⟨[rawInt 13], []⟩).quiet = false := by decide +kernel

section
variable {prog : Program} {w : World}

theorem no_ask {Γ : Ctx} {p : Pos} {s s' : Shared} {e : End} : ¬ Runs (model prog w) Γ p (denote table askIt) [] s e s' := by
  rw [den_ask]
  intro h
  cases h with
  | again hq _ => rw [loud_ask] at hq; cases hq

theorem den_same {Γ : Ctx} {p : Pos} {s s' : Shared} {e : End} {c : Code} (h : Runs (model prog w) Γ p ((model prog w).den c) [] s e s') : (M1 prog w).den c = (model prog w).den c := by
  cases q : isAsk c with
  | true => have h' : Runs (model prog w) Γ p (denote table c) [] s e s' := h; rw [isAsk_eq q] at h'; exact absurd h' no_ask
  | false => exact den1_off q

theorem runs1 {Γ : Ctx} {p : Pos} {t : Sem Fin} {fs : List Frame} {s s' : Shared} {e : End} (h : Runs (model prog w) Γ p t fs s e s') : Runs (M1 prog w) Γ p t fs s e s' := by
  induction h with
  | done => exact .done
  | raise => exact .raise
  | again hq h ih => exact .again hq (by rw [den_same h]; exact ih)
  | rule _ ih => exact .rule ih
  | «at» _ ih => exact .at ih
  | load a _ ih => exact .load a ih
  | update a _ ih => exact .update a ih
  | loadIfAlive _ ih => exact .loadIfAlive ih
  | point _ ih => exact .point ih
  | alloc _ ih => exact .alloc ih
  | fresh _ ih => exact .fresh ih
  | ask _ ih => exact .ask ih
  | choose a _ ih => exact .choose a ih
  | os _ ih => exact .os ih
  | handled _ ih => exact .handled ih
  | genState a _ ih => exact .genState a ih
  | stack _ ih => exact .stack ih
  | thread _ ih => exact .thread ih
  | newGen _ ih => exact .newGen ih
  | call h _ ih1 ih2 => exact .call (by rw [den_same h]; exact ih1) ih2
  | callSusp h ih => exact .callSusp (by rw [den_same h]; exact ih)
  | yield => exact .yield
  | resumeFresh a h b _ ih1 ih2 => exact .resumeFresh a (by rw [den_same h]; exact ih1) b ih2
  | resumeSuspended a _ b _ ih1 ih2 => exact .resumeSuspended a ih1 b ih2
  | resumeJustStarted a b _ ih => exact .resumeJustStarted a b ih
  | resumeThrowFresh a _ ih => exact .resumeThrowFresh a ih
  | resumeRunning a _ ih => exact .resumeRunning a ih
  | resumeFinished a _ ih => exact .resumeFinished a ih
  | segRet _ _ ih1 ih2 => exact .segRet ih1 ih2
  | segGen _ _ ih1 ih2 => exact .segGen ih1 ih2
  | segSuspOut a _ ih => exact .segSuspOut a ih
  | segSuspGen a _ b _ ih1 ih2 => exact .segSuspGen a ih1 b ih2

theorem returns1 {Γ : Ctx} {p : Pos} {s s' : Shared} {r : Result} (h : Returns (model prog w) Γ p s r s') : Returns (M1 prog w) Γ p s r s' := by
  unfold Returns at h ⊢
  rw [den_same h]; exact runs1 h

theorem wpCode1 {Γ : Ctx} {R : Result → Shared → Prop} {p : Pos} {s : Shared} (h : wpCode (model prog w) Γ R p s) : wpCode (M1 prog w) Γ R p s :=
  let ⟨r, s', a, b⟩ := h; ⟨r, s', returns1 a, b⟩

theorem wakes1 {Γ : Ctx} {p : Pos} {g : Nat} {r : Resume} {s s' : Shared} {res : GenResult} (h : Wakes (model prog w) Γ p g r s res s') : Wakes (M1 prog w) Γ p g r s res s' := by
  unfold Wakes at h ⊢
  cases hg : s.gens[g]? with
  | none => simp only [hg] at h
  | some gs =>
    simp only [hg] at h ⊢
    cases gs with
    | fresh c =>
      cases r with
      | send v =>
        cases v <;> first
          | exact h
          | (obtain ⟨e₁, s₁, a, b⟩ := h; exact ⟨e₁, s₁, by rw [den_same a]; exact runs1 a, b⟩)
      | throw x => exact h
    | suspended k l c p fs cl => obtain ⟨e₁, s₁, a, b⟩ := h; exact ⟨e₁, s₁, runs1 a, b⟩
    | running => exact h
    | finished => exact h

theorem wp1 {α : Type} {Γ : Ctx} {t : Sem α} {Q : α → Pos → Shared → Prop} {E : Value → Pos → Shared → Prop} {p : Pos} {s : Shared} (h : Sem.wp (model prog w) Γ t Q E p s) : Sem.wp (M1 prog w) Γ t Q E p s := by
  induction t generalizing p s with
  | pure a => exact h
  | raise e => exact h
  | unsupported | finish | yield | fork | await | register => exact h
  | rule _ k ih | «at» _ k ih | alloc _ k ih | loadIfAlive _ k ih | point _ k ih | fresh k ih | ask k ih | os _ _ k ih | handled _ k ih | newGen _ k ih | stack k ih | thread k ih => exact ih _ h
  | load a _ k ih | genState a k ih => obtain ⟨o, ho, h⟩ := h; exact ⟨o, ho, ih _ h⟩
  | update a _ f k ih | choose _ _ k ih => obtain ⟨ha, h⟩ := h; exact ⟨ha, ih _ h⟩
  | call c hd g l k ih => exact wpCode_mono (fun r s' x => ih r x) (wpCode1 h)
  | resume g r l k ih => obtain ⟨res, s', hw, h⟩ := h; exact ⟨res, s', wakes1 hw, ih _ h⟩

theorem any1 {α : Type} {A : Around} {t : Sem α} {Q : α → Shared → Prop} {E : Value → Shared → Prop} {s : Shared} (h : wpAny (model prog w) A t Q E s) : wpAny (M1 prog w) A t Q E s :=
  fun Γ p hΓ => wp1 (h Γ p hΓ)
theorem code1 {A : Around} {c : Code} {R : Result → Shared → Prop} {s : Shared} (h : codeAny (model prog w) A c R s) : codeAny (M1 prog w) A c R s :=
  fun Γ p hc hΓ => wpCode1 (h Γ p hc hΓ)
end

/-! ### a calm run of `den1` is a run of the real machine -/
section
variable {prog : Program} {w : World}

theorem step_parts (s : Shared) (t : Thread) : step den1 prog w s t = step (denote table) prog w s t ∨
    ∃ s' p st, step den1 prog w s t = .go s' ⟨ret (.bool false), askIt, p, st⟩ ∧ step (denote table) prog w s t = .go s' ⟨denote table askIt, askIt, p, st⟩ := by
  obtain ⟨heap, gens, drawn, toks, os⟩ := s
  obtain ⟨cur, code, pos, stack⟩ := t
  have key : ∀ c : Code, den1 c = denote table c ∨ c = askIt := fun c => by
    cases q : isAsk c with
    | true => exact .inr (isAsk_eq q)
    | false => exact .inl (den1_off q)
  cases cur with
  | pure a =>
    cases a with
    | done f => exact .inl rfl
    | again c =>
      rcases key c with e | e
      · left; simp only [step, e]
      · subst e; right; exact ⟨_, _, _, rfl, rfl⟩
  | call c h g l k =>
    rcases key c with e | e
    · left; simp only [step, e]
    · subst e; right; exact ⟨_, _, _, rfl, rfl⟩
  | resume g r l k =>
    cases hg : gens[g]? with
    | none => left; simp only [step, hg]
    | some x =>
      cases x with
      | fresh c =>
        rcases key c with e | e
        · left; simp only [step, hg, e]
        · subst e
          cases r with
          | send v => cases v <;> first | (left; simp only [step, hg]; done) | (right; refine ⟨⟨heap, gens.setIfInBounds g .running, drawn, toks, os⟩, pos, .gen g k l code pos :: stack, ?_, ?_⟩ <;> simp only [step, hg] <;> rfl)
          | throw x => left; simp only [step, hg]
      | _ => left; simp only [step, hg]
  | _ => exact .inl rfl

theorem ask_step (s : Shared) (p : Pos) (st : List Frame) (hz : s.asleep) :
    sstep (denote table) prog w (.single s ⟨denote table askIt, askIt, p, st⟩) = .go (.single s ⟨ret (.bool false), askIt, p, st⟩) := by
  obtain ⟨hr, hc⟩ := hz
  rw [den_ask]
  have hw : s.watching = false := by simp [Shared.watching, hr]
  have h1 : (Config.single s ⟨Sem.pure (.again (.builtin "lifetime.ask" ⟨[rawInt 13], []⟩)), askIt, p, st⟩).collect? w.params = none := by simp [Config.collect?, Config.single, hw]
  have h2 : (Config.single s ⟨Sem.pure (.again (.builtin "lifetime.ask" ⟨[rawInt 13], []⟩)), askIt, p, st⟩).collectable = [] := by simp [Config.collectable, Config.single, hw]
  have h3 : (Config.single s ⟨Sem.pure (.again (.builtin "lifetime.ask" ⟨[rawInt 13], []⟩)), askIt, p, st⟩).moves w.params.profile = [.run 0] := by
    simp [Config.moves, Config.single, movesFrom, Thread.moves, Thread.atomic, Thread.rests, Thread.tells]
  have hp : (Config.single s ⟨Sem.pure (.again (.builtin "lifetime.ask" ⟨[rawInt 13], []⟩)), askIt, p, st⟩).pick w = .ok (.run 0, .single s ⟨Sem.pure (.again (.builtin "lifetime.ask" ⟨[rawInt 13], []⟩)), askIt, p, st⟩) := by
    simp only [Config.pick, h1, h2, Config.pickThread, h3]
    cases w.params.lifetimes <;> simp
  have hl : ∀ others, lifeStep (denote table) prog w others s ⟨Sem.pure (.again (.builtin "lifetime.ask" ⟨[rawInt 13], []⟩)), askIt, p, st⟩ = .go s ⟨ret (.bool false), askIt, p, st⟩ := by
    intro others
    have e1 : Thread.special ⟨Sem.pure (.again (.builtin "lifetime.ask" ⟨[rawInt 13], []⟩)), askIt, p, st⟩ = true := by
      simp [Thread.special, Thread.atCollectorCode]
    have e2 : collectorTurn? w.params others s ⟨Sem.pure (.again (.builtin "lifetime.ask" ⟨[rawInt 13], []⟩)), askIt, p, st⟩ = some (s, ⟨ret (.bool false), askIt, p, st⟩) := by
      simp [collectorTurn?, askTurn, rawInt, hw]
    simp only [lifeStep, e1, if_true, e2, hc, Bool.false_and, Bool.false_eq_true, if_false]
  simp only [sstep, hp, Config.move]
  simp only [Config.run, Config.single]
  simp [hl, others_single, frozenBadly, ThreadState.insideWrite, Thread.finalizes, Thread.special]

theorem sim (n : Nat) : ∀ {s : Shared} {t : Thread} {o : Outcome} {s' : Shared}, s.asleep → runN den1 prog w n s t = .halted o s' → o.ends = true →
    (∀ k s₁ t₁, runN den1 prog w k s t = .running s₁ t₁ → t₁.calm = true) → ∃ m, schedN (denote table) prog w m (.single s t) = .halted o s' := by
  induction n with
  | zero => intro s t o s' _ h; cases h
  | succ n ih =>
    intro s t o s' hz h ho hc
    have hcalm := hc 0 s t rfl
    cases hs : step den1 prog w s t with
    | halt o₂ s₂ =>
      have h' : Run.halted o₂ s₂ = .halted o s' := by rw [← h]; simp only [runN, hs]
      injection h' with e1 e2; subst e1 e2
      rcases step_parts (prog := prog) (w := w) s t with e | ⟨s₃, p, st, e, _⟩
      · rw [hs] at e
        rcases sstep_single (denote table) prog w s t hcalm hz with x | x
        · exact ⟨1, by simp only [schedN, x, ← e, Step.lift]⟩
        · rw [← e] at x; injection x with x _; subst x; cases ho
      · rw [hs] at e; cases e
    | go s₂ t₂ =>
      have h' : runN den1 prog w n s₂ t₂ = .halted o s' := by rw [← h]; simp only [runN, hs]
      have hz₂ : s₂.asleep := Shared.asleep_of_life (step_life den1 prog w s s₂ t t₂ hs) hz
      obtain ⟨m, hm⟩ := ih hz₂ h' ho fun k s₁ t₁ hk => hc (k + 1) s₁ t₁ (by simp only [runN, hs]; exact hk)
      rcases step_parts (prog := prog) (w := w) s t with e | ⟨s₃, p, st, e, e'⟩
      · rw [hs] at e
        rcases sstep_single (denote table) prog w s t hcalm hz with x | x
        · exact ⟨m + 1, by simp only [schedN, x, ← e, Step.lift]; exact hm⟩
        · rw [← e] at x; cases x
      · rw [hs] at e
        injection e with e1 e2; subst e1 e2
        rcases sstep_single (denote table) prog w s t hcalm hz with x | x
        · refine ⟨m + 1 + 1, ?_⟩
          simp only [schedN, x, e', Step.lift, ask_step _ _ _ hz₂]
          exact hm
        · rw [e'] at x; cases x

theorem halts1 {c : Code} {t : Sem Fin} {R : Result → Shared → Prop} {p : Pos} {s : Shared} (hz : s.asleep)
    (h : Sem.wp (M1 prog w) ⟨c, none, none, [], none⟩ t (Sem.finPost (M1 prog w) ⟨c, none, none, [], none⟩ fun r s' => R r s' ∧ leftWithCleanup s'.gens = false)
      (fun e _ s' => R (.error e) s' ∧ leftWithCleanup s'.gens = false) p s) :
    ∃ m r s' s'', schedN (denote table) prog w m (.single s ⟨t, c, p, []⟩) = .halted (outcomeOf r) s'' ∧ s''.heap.life = s.heap.life ∧ s''.forget = s'.forget ∧ R r s' := by
  obtain ⟨n, r, s', hn, hR⟩ := (wp_iff_halts t R p s).mp h
  obtain ⟨s'', hr, hf, hc⟩ := runNI_real (M1 prog w).den (M1 prog w).prog (M1 prog w).w hn (outcomeOf_ends r)
  obtain ⟨m, hm⟩ := sim n hz hr (outcomeOf_ends r) hc
  exact ⟨m, r, s', s'', hm, runN_life _ _ _ hr, hf, hR⟩
end
end Mine
end
section
open PySem
namespace Mine
open PySem.Sre (M Seen ops accepts itemWidth)

/-- the words of the pattern -/
def patC : Array Nat := #[14, 4, 0, 0, 4294967295, 17, 0, 26, 5, 0, 4294967295, 2, 1, 7, 7, 16, 13, 16, 10, 15, 17, 5, 16, 10, 15, 12, 5, 16, 13, 15, 7, 5, 6, 5, 15, 2, 0, 17, 1, 1]

def k0 : Sre.Kept := { lastmark := 0, lastindex := -1, whole := false, marks := #[] }
def fr0 (p : Nat) : Sre.Frame := { wait := .nextStart, pc := 5, pos := p, outermost := true }
def frT (q : Nat) (k : Int) : Sre.Frame := { wait := .takeMore, pc := 7, pos := q, outermost := true, count := k, kept := k0 }
def frB (alt q : Nat) : Sre.Frame := { wait := .nextBranch, pc := alt, pos := q, outermost := true, kept := k0 }

/-- a state of the machine on this pattern behind the first mark -/
def ms (T : Array Nat) (L p : Nat) (must : Bool) (pc pos handed : Nat) (b : Option Nat) (lm li : Int) (fs : List Sre.Frame) (wt : Nat) (ans : Option Bool) (sn : Seen) : M :=
  { code := patC, text := T, lim := L, start := p, lastStart := L, mustAdvance := must, pc, pos, handed, marks := #[some p, b], lastmark := lm, lastindex := li, frames := fs, weight := wt, answer := ans, seen := sn }

section
variable {T : Array Nat} {L p q pc pos handed : Nat} {must : Bool} {b : Option Nat} {lm li : Int} {fs : List Sre.Frame} {wt : Nat} {sn : Seen} {k : Int}

theorem st13 (h : wt < 100) : (ms T L p must 13 pos handed b 0 (-1) fs wt none sn).step = ms T L p must 15 pos pos b 0 (-1) (frB 14 pos :: fs) (wt + 1) none (sn.add 7) := by
  have : ¬ (wt + 1 > 16777216) := by omega
  simp [ms, M.step, M.exec, M.word, patC, ops, M.alternative, M.attempt, M.frame, M.keep, frB, k0, this]

/-- a literal that does not stand there -/
theorem stL_lim {w : Nat} (hpc : (pc = 15 ∧ w = 13) ∨ (pc = 17 ∧ w = 10) ∨ (pc = 22 ∧ w = 10) ∨ (pc = 27 ∧ w = 13)) (h : L ≤ pos) :
    (ms T L p must pc pos handed b lm li fs wt none sn).step = ms T L p must pc pos handed b lm li fs wt (some false) (sn.add 16) := by
  rcases hpc with ⟨rfl, rfl⟩ | ⟨rfl, rfl⟩ | ⟨rfl, rfl⟩ | ⟨rfl, rfl⟩ <;> simp [ms, M.step, M.exec, M.word, patC, ops, M.say, h]
theorem stL_no {w : Nat} (hpc : (pc = 15 ∧ w = 13) ∨ (pc = 17 ∧ w = 10) ∨ (pc = 22 ∧ w = 10) ∨ (pc = 27 ∧ w = 13)) (h : pos < L) (hc : (T[pos]?.getD 0 == w) = false) :
    (ms T L p must pc pos handed b lm li fs wt none sn).step = ms T L p must pc pos handed b lm li fs wt (some false) (sn.add 16) := by
  have : ¬ L ≤ pos := by omega
  rcases hpc with ⟨rfl, rfl⟩ | ⟨rfl, rfl⟩ | ⟨rfl, rfl⟩ | ⟨rfl, rfl⟩ <;> simp [ms, M.step, M.exec, M.word, patC, ops, M.say, accepts, this, hc]
theorem stL_yes {w : Nat} (hpc : (pc = 15 ∧ w = 13) ∨ (pc = 17 ∧ w = 10) ∨ (pc = 22 ∧ w = 10) ∨ (pc = 27 ∧ w = 13)) (h : pos < L) (hc : (T[pos]?.getD 0 == w) = true) :
    (ms T L p must pc pos handed b lm li fs wt none sn).step = ms T L p must (pc + 2) (pos + 1) handed b lm li fs wt none (sn.add 16) := by
  have : ¬ L ≤ pos := by omega
  rcases hpc with ⟨rfl, rfl⟩ | ⟨rfl, rfl⟩ | ⟨rfl, rfl⟩ | ⟨rfl, rfl⟩ <;> simp [ms, M.step, M.exec, M.word, patC, ops, M.say, accepts, this, hc, itemWidth]
theorem stJ (hpc : pc = 19 ∨ pc = 24 ∨ pc = 29 ∨ pc = 34) :
    (ms T L p must pc pos handed b lm li fs wt none sn).step = ms T L p must 37 pos handed b lm li fs wt none (sn.add 15) := by
  rcases hpc with rfl | rfl | rfl | rfl <;> simp [ms, M.step, M.exec, M.word, patC, ops]
theorem st32_yes (h : pos = L) : (ms T L p must 32 pos handed b lm li fs wt none sn).step = ms T L p must 34 pos handed b lm li fs wt none ((sn.add 6).add 48) := by
  simp [ms, M.step, M.exec, M.word, patC, ops, M.isAt, h]
theorem st32_no (h : pos < L) (hc : (T[pos]?.getD 0 == 10) = false) : (ms T L p must 32 pos handed b lm li fs wt none sn).step = ms T L p must 32 pos handed b lm li fs wt (some false) ((sn.add 6).add 48) := by
  have h1 : ¬ pos = L := by omega
  simp [ms, M.step, M.exec, M.word, patC, ops, M.isAt, M.say, h1, hc]
theorem st37 : (ms T L p must 37 pos handed b 0 li fs wt none sn).step = ms T L p must 39 pos handed (some pos) 1 1 fs wt none (sn.add 17) := by
  simp [ms, M.step, M.exec, M.word, patC, ops, M.mark]; rfl
theorem st39 (h : (must && pos == p) = false) : (ms T L p must 39 pos handed b lm li fs wt none sn).step = ms T L p must 39 pos pos b lm li fs wt (some true) (sn.add 1) := by
  simp [ms, M.step, M.exec, M.word, patC, ops, M.say, h]
theorem st39_must (h : (must && pos == p) = true) : (ms T L p must 39 pos handed b lm li fs wt none sn).step = ms T L p must 39 pos handed b lm li fs wt (some false) (sn.add 1) := by
  simp [ms, M.step, M.exec, M.word, patC, ops, M.say, h]
theorem stB_true {a : Nat} : (ms T L p must pc pos handed b lm li (frB a q :: fs) wt (some true) sn).step = ms T L p must a q handed b lm li fs (wt - 1) (some true) sn := by
  simp [ms, M.step, M.resume, frB, k0, M.say]
theorem stT_true : (ms T L p must pc pos handed b lm li (frT q k :: fs) wt (some true) sn).step = ms T L p must 7 q handed b lm li fs (wt - 1) (some true) sn := by
  simp [ms, M.step, M.resume, frT, k0, M.say]
theorem st0_true : (ms T L p must pc pos handed b lm li (fr0 q :: fs) wt (some true) sn).step = ms T L p must 5 q handed b lm li fs (wt - 1) (some true) sn := by
  simp [ms, M.step, M.resume, fr0, M.say]
theorem stB_false {a a' : Nat} (ha : (a = 14 ∧ a' = 21) ∨ (a = 21 ∧ a' = 26) ∨ (a = 26 ∧ a' = 31)) (h : wt < 100) (h0 : 0 < wt) :
    (ms T L p must pc pos handed b lm li (frB a q :: fs) wt (some false) sn).step = ms T L p must (a' + 1) q q b 0 (-1) (frB a' q :: fs) wt none sn := by
  have h1 : ¬ (wt - 1 + 1 > 16777216) := by omega
  have h2 : wt - 1 + 1 = wt := by omega
  rcases ha with ⟨rfl, rfl⟩ | ⟨rfl, rfl⟩ | ⟨rfl, rfl⟩ <;> simp [ms, M.step, M.resume, frB, k0, M.say, M.putBack, M.alternative, M.attempt, M.frame, patC, h2] <;> omega
theorem stB_last : (ms T L p must pc pos handed b lm li (frB 31 q :: fs) wt (some false) sn).step = ms T L p must 31 q handed b 0 (-1) fs (wt - 1) (some false) sn := by
  simp [ms, M.step, M.resume, frB, k0, M.say, M.putBack, M.alternative, patC]
theorem stT_lim (h : L ≤ q) : (ms T L p must pc pos handed b lm li (frT q k :: fs) wt (some false) sn).step = ms T L p must 7 q handed b 0 (-1) fs (wt - 1) (some false) sn := by
  simp [ms, M.step, M.resume, frT, k0, M.say, M.putBack, M.word, patC, Sre.maxRepeat, h]
theorem stT_more (h : q < L) (hc : (T[q]?.getD 0 == 10) = false) (hw : wt < 100) (h0 : 0 < wt) :
    (ms T L p must pc pos handed b lm li (frT q k :: fs) wt (some false) sn).step = ms T L p must 13 (q + 1) (q + 1) b 0 (-1) (frT (q + 1) (k + 1) :: fs) wt none sn := by
  have h1 : ¬ L ≤ q := by omega
  have h2 : wt - 1 + 1 = wt := by omega
  have h3 : (T[q]?.getD 0 != 10) = true := by simp [bne, hc]
  simp [ms, M.step, M.resume, frT, k0, M.say, M.putBack, M.word, patC, Sre.maxRepeat, h1, accepts, ops, h3, M.afterRun, M.attempt, M.frame, h2]
  omega
theorem st0_lim (h : L ≤ q) : (ms T L p must pc pos handed b lm li (fr0 q :: fs) wt (some false) sn).step = ms T L p must 5 q handed b lm li fs (wt - 1) (some false) sn := by
  have : ¬ q < L := by omega
  simp [ms, M.step, M.resume, fr0, M.say, this]
theorem stEnd {yes : Bool} : (ms T L p must pc pos handed b lm li [] wt (some yes) sn).step = { ms T L p must pc pos handed b lm li [] wt (some yes) sn with outcome := some (if yes then .matched else .failed) } := by
  simp [ms, M.step]

theorem run_step {m : M} {n : Nat} (h : m.outcome = none) : m.runFor (n + 1) = m.step.runFor n := by
  rw [M.runFor, if_neg (by rw [h]; exact Bool.false_ne_true)]
theorem run_stop {m : M} (h : m.outcome.isSome = true) : ∀ n, m.runFor n = m
  | 0 => rfl
  | n + 1 => by rw [M.runFor, if_pos h]
theorem run_add {m : M} (a b : Nat) : m.runFor (a + b) = (m.runFor a).runFor b := by
  induction a generalizing m with
  | zero => rw [Nat.zero_add]; rfl
  | succ a ih =>
    cases h : m.outcome with
    | some o =>
      have h' : m.outcome.isSome = true := by rw [h]; rfl
      rw [run_stop h', run_stop h', run_stop h']
    | none => rw [Nat.add_right_comm, run_step h, run_step h, ih]

/-- the end of the row that begins at `q` -/
def rowEnd (T : Array Nat) (q : Nat) : Nat :=
  if h : q < T.size then
    if T[q]?.getD 0 == 10 then q + 1
    else if T[q]?.getD 0 == 13 then (if T[q + 1]?.getD 0 == 10 then q + 2 else q + 1)
    else rowEnd T (q + 1)
  else q
  termination_by T.size - q

/-- where a search has found -/
def msFin (T : Array Nat) (L p : Nat) (must : Bool) (e : Nat) (sn : Seen) : M :=
  { ms T L p must 5 p e (some e) 1 1 [] 0 (some true) sn with outcome := some .matched }

theorem tail37 {a q' : Nat} (h : (must && pos == p) = false) :
    (ms T L p must 37 pos handed b 0 li [frB a q, frT q' k, fr0 p] 3 none sn).runFor 6 = msFin T L p must pos ((sn.add 17).add 1) := by
  rw [run_step rfl, st37, run_step rfl, st39 h, run_step rfl, stB_true, run_step rfl, stT_true, run_step rfl, st0_true, run_step rfl, stEnd]
  rfl

theorem lit_none (h : T.size ≤ pos) (w : Nat) (hw : w ≠ 0) : (T[pos]?.getD 0 == w) = false := by
  rw [Array.getElem?_eq_none h]
  simpa using fun e => hw e.symm

theorem rowRun (hL : L = T.size) : ∀ (d q : Nat) (k : Int) (sn : Seen), L - q = d → q ≤ L → p ≤ q →
    ∃ n, n ≤ 20 * d + 30 ∧ ∃ sn', (ms T L p false 13 q q none 0 (-1) [frT q k, fr0 p] 2 none sn).runFor n = msFin T L p false (rowEnd T q) sn' := by
  intro d
  induction d with
  | zero =>
    intro q k sn hd hq hp
    have hqL : q = L := by omega
    have he : rowEnd T q = q := by rw [rowEnd, dif_neg (by omega)]
    refine ⟨15, by omega, ?_⟩
    apply Exists.intro
    rw [run_step rfl, st13 (by omega), run_step rfl, stL_lim (w := 13) (by omega) (by omega), run_step rfl, stB_false (a' := 21) (by omega) (by omega) (by omega),
      run_step rfl, stL_lim (w := 10) (by omega) (by omega), run_step rfl, stB_false (a' := 26) (by omega) (by omega) (by omega),
      run_step rfl, stL_lim (w := 13) (by omega) (by omega), run_step rfl, stB_false (a' := 31) (by omega) (by omega) (by omega),
      run_step rfl, st32_yes hqL, run_step rfl, stJ (by omega)]
    rw [he]
    exact tail37 rfl
  | succ d ih =>
    intro q k sn hd hq hp
    have hqL : q < L := by omega
    cases h10 : (T[q]?.getD 0 == 10) with
    | true =>
      have h13 : (T[q]?.getD 0 == 13) = false := by
        have := beq_iff_eq.mp h10
        rw [this]; rfl
      have he : rowEnd T q = q + 1 := by rw [rowEnd, dif_pos (by omega), if_pos h10]
      refine ⟨11, by omega, ?_⟩
      apply Exists.intro
      rw [run_step rfl, st13 (by omega), run_step rfl, stL_no (w := 13) (by omega) hqL h13, run_step rfl, stB_false (a' := 21) (by omega) (by omega) (by omega),
        run_step rfl, stL_yes (w := 10) (by omega) hqL h10, run_step rfl, stJ (by omega)]
      rw [he]
      exact tail37 rfl
    | false =>
      cases h13 : (T[q]?.getD 0 == 13) with
      | true =>
        cases hn : (T[q + 1]?.getD 0 == 10) with
        | true =>
          have hlt : q + 1 < L := by
            rcases Nat.lt_or_ge (q + 1) L with h | h
            · exact h
            · rw [lit_none (by omega) 10 (by omega)] at hn; cases hn
          have he : rowEnd T q = q + 2 := by rw [rowEnd, dif_pos (by omega), if_neg (by rw [h10]; exact Bool.false_ne_true), if_pos h13, if_pos hn]
          refine ⟨10, by omega, ?_⟩
          apply Exists.intro
          rw [run_step rfl, st13 (by omega), run_step rfl, stL_yes (w := 13) (by omega) hqL h13, run_step rfl, stL_yes (w := 10) (by omega) hlt hn, run_step rfl, stJ (by omega)]
          rw [he]
          exact tail37 rfl
        | false =>
          have he : rowEnd T q = q + 1 := by rw [rowEnd, dif_pos (by omega), if_neg (by rw [h10]; exact Bool.false_ne_true), if_pos h13, if_neg (by rw [hn]; exact Bool.false_ne_true)]
          refine ⟨14, by omega, ?_⟩
          apply Exists.intro
          have e17 : ∀ {fs sn}, (ms T L p false 17 (q + 1) q none 0 (-1) fs 3 none sn).step = ms T L p false 17 (q + 1) q none 0 (-1) fs 3 (some false) (sn.add 16) := by
            intro fs sn
            rcases Nat.lt_or_ge (q + 1) L with h | h
            · exact stL_no (w := 10) (by omega) h hn
            · exact stL_lim (w := 10) (by omega) h
          rw [run_step rfl, st13 (by omega), run_step rfl, stL_yes (w := 13) (by omega) hqL h13, run_step rfl, e17, run_step rfl, stB_false (a' := 21) (by omega) (by omega) (by omega),
            run_step rfl, stL_no (w := 10) (by omega) hqL h10, run_step rfl, stB_false (a' := 26) (by omega) (by omega) (by omega),
            run_step rfl, stL_yes (w := 13) (by omega) hqL h13, run_step rfl, stJ (by omega)]
          rw [he]
          exact tail37 rfl
      | false =>
        have he : rowEnd T q = rowEnd T (q + 1) := by
          conv => lhs; rw [rowEnd]
          rw [dif_pos (by omega), if_neg (by rw [h10]; exact Bool.false_ne_true), if_neg (by rw [h13]; exact Bool.false_ne_true)]
        have step : ∀ sn, ∃ sn', (ms T L p false 13 q q none 0 (-1) [frT q k, fr0 p] 2 none sn).runFor 10 = ms T L p false 13 (q + 1) (q + 1) none 0 (-1) [frT (q + 1) (k + 1), fr0 p] 2 none sn' := by
          intro sn
          apply Exists.intro
          rw [run_step rfl, st13 (by omega), run_step rfl, stL_no (w := 13) (by omega) hqL h13, run_step rfl, stB_false (a' := 21) (by omega) (by omega) (by omega),
            run_step rfl, stL_no (w := 10) (by omega) hqL h10, run_step rfl, stB_false (a' := 26) (by omega) (by omega) (by omega),
            run_step rfl, stL_no (w := 13) (by omega) hqL h13, run_step rfl, stB_false (a' := 31) (by omega) (by omega) (by omega),
            run_step rfl, st32_no hqL h10, run_step rfl, stB_last, run_step rfl, stT_more hqL h10 (by omega) (by omega)]
          rfl
        obtain ⟨sn₁, e₁⟩ := step sn
        obtain ⟨n, hn, sn₂, e₂⟩ := ih (q + 1) (k + 1) sn₁ (by omega) (by omega) (by omega)
        exact ⟨10 + n, by omega, sn₂, by rw [run_add, e₁, e₂, he]⟩

/-- at the text's end, where the last match was empty: nothing more is found -/
theorem endRun (hL : L = T.size) : ∀ sn : Seen, ∃ sn', (ms T L L true 13 L L none 0 (-1) [frT L 0, fr0 L] 2 none sn).runFor 15 =
    { ms T L L true 5 L L (some L) 0 (-1) [] 0 (some false) sn' with outcome := some .failed } := by
  intro sn
  apply Exists.intro
  rw [run_step rfl, st13 (by omega), run_step rfl, stL_lim (w := 13) (by omega) (by omega), run_step rfl, stB_false (a' := 21) (by omega) (by omega) (by omega),
      run_step rfl, stL_lim (w := 10) (by omega) (by omega), run_step rfl, stB_false (a' := 26) (by omega) (by omega) (by omega),
      run_step rfl, stL_lim (w := 13) (by omega) (by omega), run_step rfl, stB_false (a' := 31) (by omega) (by omega) (by omega),
      run_step rfl, st32_yes rfl, run_step rfl, stJ (by omega), run_step rfl, st37, run_step rfl, st39_must (by simp), run_step rfl, stB_last, run_step rfl, stT_lim (by omega), run_step rfl, st0_lim (by omega), run_step rfl, stEnd]
  rfl

theorem ini_run (hp : p ≤ L) : ∃ sn, (Sre.forSearch patC T 1 p L must).runFor 2 = ms T L p must 13 p p none 0 (-1) [frT p 0, fr0 p] 2 none sn := by
  have e0 : Sre.forSearch patC T 1 p L must = { code := patC, text := T, lim := L, start := p, lastStart := L, mustAdvance := must, pc := 5, pos := p, handed := p, marks := #[none, none], frames := [fr0 p], weight := 1, seen := ({} : Seen).add 14 } := by
    have hh : Sre.header patC = (0, 5) := by decide
    unfold Sre.forSearch
    dsimp only
    rw [hh]
    rw [if_neg (by simp; omega)]
    rfl
  apply Exists.intro
  rw [e0, run_step rfl, run_step rfl]
  show M.step (M.step _) = _
  have e1 : M.step { code := patC, text := T, lim := L, start := p, lastStart := L, mustAdvance := must, pc := 5, pos := p, handed := p, marks := #[none, none], frames := [fr0 p], weight := 1, seen := ({} : Seen).add 14 } =
      ms T L p must 7 p p none 0 (-1) [fr0 p] 1 none ((({} : Seen).add 14).add 17) := by
    simp [ms, M.step, M.exec, M.word, patC, ops, M.mark]; rfl
  rw [e1]
  have h2 : ¬ ((L : Int) - (p : Int) < 0) := by omega
  simp [ms, M.step, M.exec, M.word, patC, ops, Sre.run, h2, M.afterRun, M.attempt, M.frame, M.keep, frT, k0]
  rfl

/-- a search from `p`: the row that begins there -/
theorem search_finds (hp : p ≤ T.size) : ∃ n, n ≤ 20 * T.size + 40 ∧ ∃ sn, (Sre.forSearch patC T 1 p T.size false).runFor n = msFin T T.size p false (rowEnd T p) sn := by
  obtain ⟨sn, e⟩ := ini_run (T := T) (must := false) hp
  obtain ⟨n, hn, sn', e'⟩ := rowRun (p := p) rfl (T.size - p) p 0 sn rfl hp (Nat.le_refl _)
  exact ⟨2 + n, by omega, sn', by rw [run_add, e, e']⟩
theorem search_ends : ∃ sn, (Sre.forSearch patC T 1 T.size T.size true).runFor 17 = { ms T T.size T.size true 5 T.size T.size (some T.size) 0 (-1) [] 0 (some false) sn with outcome := some .failed } := by
  obtain ⟨sn, e⟩ := ini_run (T := T) (must := true) (Nat.le_refl T.size)
  obtain ⟨sn', e'⟩ := endRun (T := T) rfl sn
  exact ⟨sn', by rw [show 17 = 2 + 15 from rfl, run_add, e, e']⟩
theorem rowEnd_ge (T : Array Nat) (q : Nat) : q ≤ rowEnd T q := by
  unfold rowEnd
  split
  · split
    · omega
    · split
      · split <;> omega
      · have := rowEnd_ge T (q + 1); omega
  · omega
  termination_by T.size - q
theorem rowEnd_gt (T : Array Nat) (q : Nat) (h : q < T.size) : q < rowEnd T q := by
  unfold rowEnd
  rw [dif_pos h]
  split
  · omega
  · split
    · split <;> omega
    · have := rowEnd_ge T (q + 1); omega
theorem rowEnd_le (T : Array Nat) (q : Nat) (h : q ≤ T.size) : rowEnd T q ≤ T.size := by
  unfold rowEnd
  split
  · split
    · omega
    · split
      · split
        · rename_i hn
          rcases Nat.lt_or_ge (q + 1) T.size with h1 | h1
          · omega
          · rw [lit_none h1 10 (by omega)] at hn; cases hn
        · omega
      · exact rowEnd_le T (q + 1) (by omega)
  · omega
  termination_by T.size - q
theorem rowEnd_end (T : Array Nat) : rowEnd T T.size = T.size := by rw [rowEnd, dif_neg (Nat.lt_irrefl _)]
end
end Mine
end
section
open PySem PySem.Builtin.Re
set_option maxRecDepth 100000
set_option maxHeartbeats 2000000
namespace Mine

/-! facts of the table -/
theorem slot_match_getitem : Slot "re.Match" "__getitem__" "re.Match.__getitem__" :=
  .of (owner := "re.Match") (n := "__getitem__") (by rw [typeLookup_type, builtinLookup_eq_fast]; kernel_rfl) (by decide +kernel) (by decide +kernel) (by decide +kernel)
    (by first | exact .inl (by decide +kernel) | exact .inr (by decide +kernel)) (by rw [isSubtype_type]; kernel_rfl)
theorem entry_match_getitem : entryFor table "re.Match.__getitem__" = some Builtin.«re.Match.__getitem__» := entryFor_of_tree (by kernel_rfl)
theorem slot_pat_finditer : Slot "re.Pattern" "finditer" "re.Pattern.finditer" :=
  .of (owner := "re.Pattern") (n := "finditer") (by rw [typeLookup_type, builtinLookup_eq_fast]; kernel_rfl) (by decide +kernel) (by decide +kernel) (by decide +kernel)
    (by first | exact .inl (by decide +kernel) | exact .inr (by decide +kernel)) (by rw [isSubtype_type]; kernel_rfl)
theorem type_pat_finditer : typeOf (.builtin "re.Pattern.finditer") = pure (.type "method_descriptor") := by show builtinType _ = _; rw [builtinType_eq_fast]; kernel_rfl
theorem entry_pat_finditer : entryFor table "re.Pattern.finditer" = some Builtin.«re.Pattern.finditer» := entryFor_of_tree (by kernel_rfl)
theorem slot_scan_search : Slot "_sre.SRE_Scanner" "search" "_sre.SRE_Scanner.search" :=
  .of (owner := "_sre.SRE_Scanner") (n := "search") (by rw [typeLookup_type, builtinLookup_eq_fast]; kernel_rfl) (by decide +kernel) (by decide +kernel) (by decide +kernel)
    (by first | exact .inl (by decide +kernel) | exact .inr (by decide +kernel)) (by rw [isSubtype_type]; kernel_rfl)
theorem type_scan_search : typeOf (.builtin "_sre.SRE_Scanner.search") = pure (.type "method_descriptor") := by show builtinType _ = _; rw [builtinType_eq_fast]; kernel_rfl
theorem entry_scan_search : entryFor table "_sre.SRE_Scanner.search" = some Builtin.«_sre.SRE_Scanner.search» := entryFor_of_tree (by kernel_rfl)
theorem slot_call_next : Slot "callable_iterator" "__next__" "callable_iterator.__next__" :=
  .of (owner := "callable_iterator") (n := "__next__") (by rw [typeLookup_type, builtinLookup_eq_fast]; kernel_rfl) (by decide +kernel) (by decide +kernel) (by decide +kernel)
    (by first | exact .inl (by decide +kernel) | exact .inr (by decide +kernel)) (by rw [isSubtype_type]; kernel_rfl)
theorem entry_call_next : entryFor table "callable_iterator.__next__" = some Builtin.«callable_iterator.__next__» := entryFor_of_tree (by kernel_rfl)
theorem slot_call_iter : Slot "callable_iterator" "__iter__" "callable_iterator.__iter__" :=
  .of (owner := "callable_iterator") (n := "__iter__") (by rw [typeLookup_type, builtinLookup_eq_fast]; kernel_rfl) (by decide +kernel) (by decide +kernel) (by decide +kernel)
    (by first | exact .inl (by decide +kernel) | exact .inr (by decide +kernel)) (by rw [isSubtype_type]; kernel_rfl)

theorem tl_scan_ga : typeLookup (.type "_sre.SRE_Scanner") "__getattribute__" = pure (some (.builtin "object.__getattribute__")) := by rw [typeLookup_type, builtinLookup_eq_fast]; kernel_rfl
theorem slot_scan_ga : Slot "_sre.SRE_Scanner" "__getattribute__" "object.__getattribute__" :=
  .of (owner := "object") (n := "__getattribute__") (by rw [typeLookup_type, builtinLookup_eq_fast]; kernel_rfl) (by decide +kernel) (by decide +kernel) (by decide +kernel)
    (by first | exact .inl (by decide +kernel) | exact .inr (by decide +kernel)) (by rw [isSubtype_type]; kernel_rfl)
theorem slot_md_get : Slot "method_descriptor" "__get__" "method_descriptor.__get__" :=
  .of (owner := "method_descriptor") (n := "__get__") (by rw [typeLookup_type, builtinLookup_eq_fast]; kernel_rfl) (by decide +kernel) (by decide +kernel) (by decide +kernel)
    (by first | exact .inl (by decide +kernel) | exact .inr (by decide +kernel)) (by rw [isSubtype_type]; kernel_rfl)
theorem entry_obj_ga : entryFor table "object.__getattribute__" = some Builtin.«object.__getattribute__» := entryFor_of_tree (by kernel_rfl)
theorem entry_md_get : entryFor table "method_descriptor.__get__" = some Builtin.«method_descriptor.__get__» := entryFor_of_tree (by kernel_rfl)


theorem sub_str_ba : isSubtype (.type "str") (.type "bytearray") = pure false := by rw [isSubtype_type]; kernel_rfl
theorem isType_scan : isType (.type "_sre.SRE_Scanner") = pure true := by
  have e : typeOf (.type "_sre.SRE_Scanner") = pure (.type "type") := by kernel_rfl
  show (typeOf (.type "_sre.SRE_Scanner") >>= fun t => isSubtype t (.type "type")) = _
  rw [e]
  show isSubtype (.type "type") (.type "type") = _
  rw [isSubtype_type]; kernel_rfl
theorem sub_scan_own : isSubtype (.type "_sre.SRE_Scanner") (.type (".".intercalate ("_sre.SRE_Scanner.search".cutAt '.').dropLast)) = pure true := by
  have e1 : ".".intercalate ("_sre.SRE_Scanner.search".cutAt '.').dropLast = "_sre.SRE_Scanner" := by decide +kernel
  rw [e1, isSubtype_type]; kernel_rfl
theorem md_no_set : typeLookup (.type "method_descriptor") "__set__" = pure none := by rw [typeLookup_type, builtinLookup_eq_fast]; kernel_rfl
theorem md_no_delete : typeLookup (.type "method_descriptor") "__delete__" = pure none := by rw [typeLookup_type, builtinLookup_eq_fast]; kernel_rfl
theorem pat_no_getattr : typeLookup (.type "re.Pattern") "__getattr__" = pure none := by rw [typeLookup_type, builtinLookup_eq_fast]; kernel_rfl
theorem pat_ga : typeLookup (.type "re.Pattern") "__getattribute__" = pure (some (.builtin "object.__getattribute__")) := by rw [typeLookup_type, builtinLookup_eq_fast]; kernel_rfl
theorem args_md_get (a b c : Value) : argsOk "method_descriptor.__get__" ⟨[a, b, c], []⟩ := by unfold argsOk; kernel_rfl
theorem args_obj_ga (a b : Value) : argsOk "object.__getattribute__" ⟨[a, b], []⟩ := by unfold argsOk; kernel_rfl
theorem args_match_getitem (a b : Value) : argsOk "re.Match.__getitem__" ⟨[a, b], []⟩ := by unfold argsOk; kernel_rfl
theorem args_pat_finditer (a b : Value) : argsOk "re.Pattern.finditer" ⟨[a, b], []⟩ := by unfold argsOk; kernel_rfl
theorem args_call_next (a : Value) : argsOk "callable_iterator.__next__" ⟨[a], []⟩ := by unfold argsOk; kernel_rfl
theorem args_call_iter (a : Value) : argsOk "callable_iterator.__iter__" ⟨[a], []⟩ := by unfold argsOk; kernel_rfl
theorem args_scan_search (a : Value) : argsOk "_sre.SRE_Scanner.search" ⟨[a], []⟩ := by unfold argsOk; kernel_rfl
theorem entry_call_iter : ∃ b, entryFor table "callable_iterator.__iter__" = some b ∧ b = Builtin.«dict_keyiterator.__iter__» := ⟨_, entryFor_alias (id' := "dict_keyiterator.__iter__") (by kernel_rfl) (by decide +kernel) (by decide +kernel) (by kernel_rfl), rfl⟩
end Mine
end
section
open PySem PySem.Builtin.Re
set_option maxRecDepth 100000
set_option maxHeartbeats 2000000
namespace Mine
/-! objects -/
def matchObj (text : Str) (u : Tok) (pat : Addr) (lim : Nat) (tup : Addr) : Obj := { cls := .type "re.Match", data := .fields #[.str text u, .ref pat, rawInt 0, rawInt lim, rawInt 1, .ref tup] }
def spanObj (b e : Nat) : Obj := { cls := .type "tuple", data := .seq #[rawInt b, rawInt e, rawInt b, rawInt e] }

def patObj (src : Str) (t1 t2 : Tok) (cd : Addr) : Obj := { cls := .type "re.Pattern", data := .fields #[.str src t1, .int 32 t2, .int 1 0, .none, .none, .ref cd, .int 0 0] }
def codeObj : Obj := { cls := .type "tuple", data := .seq (patC.map fun n : Nat => rawInt n) }
def scanObj (pat : Addr) (text : Str) (u : Tok) (start lim : Int) (must : Bool) : Obj := { cls := .type "_sre.SRE_Scanner", data := .fields #[.ref pat, .str text u, rawInt start, rawInt 0, rawInt lim, .bool must] }
def methObj (scan : Addr) : Obj := { cls := .type "builtin_function_or_method", data := .fields #[.builtin "_sre.SRE_Scanner.search", .ref scan] }
def callObj (meth : Addr) : Obj := { cls := .type "callable_iterator", data := .fields #[.ref meth, .none, .bool false] }

theorem extract_le (x : Str) (b e : Nat) : (⟨x.cps.extract b e⟩ : Str).length ≤ x.length := by
  show (x.cps.extract b e).size ≤ x.cps.size
  rw [Array.size_extract]; omega

section
variable {prog : Program} {w : World} {A : Around} {E : Value → Shared → Prop} {s : Shared}

theorem match_item {a pat tup : Addr} {text : Str} {u u' : Tok} {lim b e : Nat} {Q : Value → Shared → Prop}
    (hm : s.heap.get? a = some (matchObj text u pat lim tup)) (ht : s.heap.get? tup = some (spanObj b e)) (hb : text.length ≤ sizeLine)
    (hQ : Q (.str ⟨text.cps.extract b e⟩ s.toks) { s with toks := s.toks + 1 }) :
    wpAny (model prog w) A (Builtin.«re.Match.__getitem__» ⟨[.ref a, .int 0 u'], []⟩) (fun fin s' => ∃ v, fin = .done (.ret v) ∧ Q v s') E s := by
  obtain ⟨hp, g, d, tk, os⟩ := s
  wp_walk
  refine wpAny_ite_false (by simp [rawInt, reRawOf]) ?_
  wp_walk
  refine wpAny_ite_false (decide_eq_false (Nat.not_lt.mpr (Nat.le_trans (extract_le _ _ _) hb))) ?_
  wp_walk
  refine ⟨_, rfl, ?_⟩
  simpa [rawInt, reRawOf] using hQ

theorem code_entry {T : String} {name : Str} {id : String} {b : Builtin} {self : Value} {rest : List Value} {R : Result → Shared → Prop} (h : Slot T name id) (hT : s.TypeIs self T)
    (hb : entryFor table id = some b)
    (hc : wpAny (model prog w) A.in1 (b ⟨self :: rest, []⟩) (fun fin s' => ∃ v, fin = .done (.ret v) ∧ R (.ok (.ret v)) s') (fun e s' => R (.error e) s') s)
    (ha : argsOk id ⟨self :: rest, []⟩) : codeAny (model prog w) A (.call (.builtin id) ⟨self :: rest, []⟩) R s := by
  refine codeAny_call_builtin h.plain hb (h.check _ _ _ _ _ _ _ _ hT ha (wpAny_mono hc (fun fin s' h' => ?_) fun _ _ h' => h'))
  obtain ⟨v, rfl, hv⟩ := h'; exact hv

theorem md_get_body {scan : Addr} {o : Obj} {Q : Value → Shared → Prop} (ho : s.heap.get? scan = some o) (hc : o.cls = .type "_sre.SRE_Scanner")
    (hQ : Q (.ref s.heap.objs.size) { s with heap := s.heap.push (methObj scan) }) :
    wpAny (model prog w) A (Builtin.«method_descriptor.__get__» ⟨[.builtin "_sre.SRE_Scanner.search", .ref scan, .type "_sre.SRE_Scanner"], []⟩) (fun fin s' => ∃ v, fin = .done (.ret v) ∧ Q v s') E s := by
  obtain ⟨hp, g, d, tk, os⟩ := s
  have hT : Shared.TypeIs ⟨hp, g, d, tk, os⟩ (.ref scan) "_sre.SRE_Scanner" := ⟨o, ho, hc⟩
  have h1 := sub_scan_own
  have h2 := isType_scan
  wp_walk
  exact ⟨_, rfl, hQ⟩

theorem scan_ga_body {scan : Addr} {u : Tok} {vs : Array Value} {Q : Value → Shared → Prop} (ho : s.heap.get? scan = some { cls := .type "_sre.SRE_Scanner", data := .fields vs })
    (hQ : Q (.ref s.heap.objs.size) { s with heap := s.heap.push (methObj scan) }) :
    wpAny (model prog w) A (Builtin.«object.__getattribute__» ⟨[.ref scan, .str (Str.ofString "search") u], []⟩) (fun fin s' => ∃ v, fin = .done (.ret v) ∧ Q v s') E s := by
  obtain ⟨hp, g, d, tk, os⟩ := s
  have hT : Shared.TypeIs ⟨hp, g, d, tk, os⟩ (.ref scan) "_sre.SRE_Scanner" := ⟨_, ho, rfl⟩
  have h1 := slot_scan_search.lookup
  have h2 := type_scan_search
  have h3 := slot_md_get.lookup
  have h4 := md_no_set
  have h5 := md_no_delete
  wp_walk
  exact code_entry slot_md_get (show typeOf _ = _ from type_scan_search) entry_md_get (md_get_body ho rfl (wpAny_pure ⟨_, rfl, hQ⟩)) (args_md_get _ _ _)
end
end Mine
end
section
open PySem PySem.Builtin.Re
set_option maxRecDepth 100000
set_option maxHeartbeats 2000000
namespace Mine
section
variable {prog : Program} {w : World} {A : Around} {E : Value → Shared → Prop} {s : Shared}

theorem scan_getattr {scan : Addr} {vs : Array Value} {Q : Value → Shared → Prop} (ho : s.heap.get? scan = some { cls := .type "_sre.SRE_Scanner", data := .fields vs })
    (hQ : Q (.ref s.heap.objs.size) { s with heap := s.heap.push (methObj scan), toks := s.toks + 1 }) :
    wpAny (model prog w) A (getAttr (.ref scan) "search") Q E s := by
  obtain ⟨hp, g, d, tk, os⟩ := s
  unfold getAttr
  refine wpAny_bind (wpAny_mkText ?_)
  unfold getAttrBy
  have hT : Shared.TypeIs ⟨hp, g, d, tk + 1, os⟩ (.ref scan) "_sre.SRE_Scanner" := ⟨_, ho, rfl⟩
  refine wpAny_holding (wpAny_bind (wpAny_typeOf hT (wpAny_bind (wpAny_of_eq tl_scan_ga ?_))))
  show wpAny _ _ (getAttrByItsOwn _ _ _ _ _ _) _ _ _
  unfold getAttrByItsOwn
  refine wpAny_bind (wpAny_of_eq (a := none) rfl (wpAny_bind (wpAny_attempt (wpAny_holding ?_))))
  show wpAny _ _ (boundAndCalled _ _ _) _ _ _
  unfold boundAndCalled
  rw [slot_scan_ga.bind]
  refine wpAny_bind (wpAny_pure ?_)
  exact wpAny_call_entry slot_scan_ga hT entry_obj_ga (scan_ga_body ho (wpAny_pure hQ)) (args_obj_ga _ _)

theorem codes_back : (((patC.map fun n : Nat => rawInt n).map reRawOf).map fun x => x.toNat) = patC := by decide +kernel

theorem target_of {pat cd : Addr} {src text : Str} {t1 t2 u : Tok} {Q : ReTarget → Shared → Prop} {id f : String}
    (hm : s.heap.get? pat = some (patObj src t1 t2 cd)) (hc : s.heap.get? cd = some codeObj) (hsz : text.length ≤ sizeLine)
    (hQ : Q { pattern := .ref pat, string := .str text u, code := patC, text := text.cps, kind := 0, groups := 1, pos := 0, lim := text.cps.size } s) :
    wpAny (model prog w) A (reTarget id f ⟨[.ref pat, .str text u], []⟩) Q E s := by
  obtain ⟨hp, g, d, tk, os⟩ := s
  wp_walk
  refine cast (congrArg (fun t => Q t _) ?_) hQ
  simp only [ReTarget.mk.injEq]
  refine ⟨by trivial, by trivial, codes_back.symm, by trivial, by trivial, rfl, ?_, ?_⟩
  · exact (Nat.zero_min _).symm
  · have h1 : text.cps.size ≤ 16777216 := hsz
    show _ = min (Int.toNat (2 ^ 63 - 1)) text.cps.size
    have h2 : Int.toNat (2 ^ 63 - 1) = 9223372036854775807 := by decide
    rw [h2]; omega

theorem notHeld {text : Str} {u : Tok} {id : String} {Q : Unit → Shared → Prop} (hQ : Q () s) : wpAny (model prog w) A (reNotHeld id (.str text u)) Q E s := by
  obtain ⟨hp, g, d, tk, os⟩ := s
  have hsub := sub_str_ba
  wp_walk
  exact hQ

theorem finditer_body {pat cd : Addr} {src text : Str} {t1 t2 u : Tok} {Q : Value → Shared → Prop}
    (hm : s.heap.get? pat = some (patObj src t1 t2 cd)) (hc : s.heap.get? cd = some codeObj) (hsz : text.length ≤ sizeLine)
    (hQ : Q (.ref (s.heap.objs.size + 2)) { s with heap := ((s.heap.push (scanObj pat text u 0 text.length false)).push (methObj s.heap.objs.size)).push (callObj (s.heap.objs.size + 1)), toks := s.toks + 1 }) :
    wpAny (model prog w) A (Builtin.«re.Pattern.finditer» ⟨[.ref pat, .str text u], []⟩) (fun fin s' => ∃ v, fin = .done (.ret v) ∧ Q v s') E s := by
  obtain ⟨hp, g, d, tk, os⟩ := s
  refine wpAny_bind (target_of hm hc hsz (wpAny_bind (notHeld (wpAny_bind (wpAny_newObj_type ?_)))))
  refine wpAny_bind (wpAny_holding (scan_getattr (Heap.get?_push_size _ rfl) ?_))
  refine wpAny_bind (wpAny_newObj_type (wpAny_pure ⟨_, rfl, ?_⟩))
  simp only [Heap.size_push]
  exact hQ
end
end Mine
end
section
open PySem
namespace Mine

/-- no activation of a callable iterator's `__next__` -/
def offIt : Code → Bool
  | .builtin id _ => id != "callable_iterator.__next__"
  | _ => true
def Clean (l : List (Code × Pos)) : Prop := ∀ x ∈ l, offIt x.1 = true

def wpC {α : Type} (M : Model) (A : Around) (t : Sem α) (Q : α → Shared → Prop) (E : Value → Shared → Prop) (s : Shared) : Prop :=
  ∀ Γ p, Γ.In A → offIt Γ.code = true → Clean Γ.below → Sem.wp M Γ t (fun a _ s' => Q a s') (fun e _ s' => E e s') p s
def codeC (M : Model) (A : Around) (c : Code) (R : Result → Shared → Prop) (s : Shared) : Prop :=
  ∀ Γ p, Γ.code = c → Γ.Below A → Clean Γ.below → wpCode M Γ R p s

section
variable {α β : Type} {M : Model} {A : Around} {E : Value → Shared → Prop} {s : Shared} {env : Env}

theorem wpC_of_any {t : Sem α} {Q : α → Shared → Prop} (h : wpAny M A t Q E s) : wpC M A t Q E s := fun Γ p hΓ _ _ => h Γ p hΓ
theorem codeC_of_any {c : Code} {R : Result → Shared → Prop} (h : codeAny M A c R s) : codeC M A c R s := fun Γ p hc hΓ _ => h Γ p hc hΓ
theorem wpC_pure {a : α} {Q : α → Shared → Prop} (h : Q a s) : wpC M A (pure a) Q E s := fun _ _ _ _ _ => h

theorem wpC_mono {t : Sem α} {Q Q' : α → Shared → Prop} {E' : Value → Shared → Prop} (h : wpC M A t Q E s)
    (hQ : ∀ a s, Q a s → Q' a s) (hE : ∀ e s, E e s → E' e s) : wpC M A t Q' E' s :=
  fun Γ p hΓ h1 h2 => Sem.wp_mono M Γ t (fun a _ s => hQ a s) (fun e _ s => hE e s) p s (h Γ p hΓ h1 h2)

theorem wpC_bind {m : Sem α} {f : α → Sem β} {Q : β → Shared → Prop} (h : wpC M A m (fun a s' => wpC M A (f a) Q E s') E s) :
    wpC M A (m >>= f) Q E s := fun Γ p hΓ h1 h2 => by
  rw [Sem.wp_bind']
  exact Sem.wp_mono M Γ m (fun a p' s' h' => h' Γ p' hΓ h1 h2) (fun _ _ _ h' => h') p s (h Γ p hΓ h1 h2)

theorem wpC_onRaise {m : Sem α} {k : Value → Sem Unit} {Q : α → Shared → Prop}
    (h : wpC M A m Q (fun e s' => wpC M A (k e) (fun _ s'' => E e s'') E s') s) : wpC M A (m.onRaise k) Q E s := fun Γ p hΓ h1 h2 => by
  rw [Sem.wp_onRaise]
  exact Sem.wp_mono M Γ m (fun _ _ _ h' => h') (fun e p' s' h' => h' Γ p' hΓ h1 h2) p s (h Γ p hΓ h1 h2)

theorem wpC_attempt {m : Sem α} {Q : Except Value α → Shared → Prop} (h : wpC M A m (fun a => Q (.ok a)) (fun e => Q (.error e)) s) :
    wpC M A m.attempt Q E s := fun Γ p hΓ h1 h2 => by rw [Sem.wp_attempt]; exact h Γ p hΓ h1 h2

theorem wpC_holding {vs : List Value} {m : Sem α} {Q : α → Shared → Prop} (h : wpC M A m Q E s) : wpC M A (holding vs m) Q E s :=
  fun Γ p hΓ h1 h2 => by rw [Sem.wp_holding]; exact h Γ p hΓ h1 h2
theorem wpC_keep {vs : List Value} {m : Sem α} {Q : α → Shared → Prop} (h : wpC M A m Q E s) : wpC M A (m.keep vs) Q E s :=
  fun Γ p hΓ h1 h2 => by rw [Sem.wp_keep]; exact h Γ p hΓ h1 h2
theorem wpC_standAt {pos : Pos} {Q : Unit → Shared → Prop} (h : Q () s) : wpC M A (standAt pos) Q E s := fun _ _ _ _ _ => h
theorem wpC_rule {tag : String} {Q : Unit → Shared → Prop} (h : Q () s) : wpC M A (rule tag) Q E s := fun _ _ _ _ _ => h
theorem wpC_point {Q : Unit → Shared → Prop} (h : Q () s) : wpC M A point Q E s := fun _ _ _ _ _ => h
theorem wpC_load {a : Addr} {o : Obj} {Q : Obj → Shared → Prop} (ho : s.heap.get? a = some o) (h : Q o s) : wpC M A (load a) Q E s :=
  wpC_of_any (wpAny_load ho h)
theorem wpC_operate {vs : List Value} {m : Sem Value} {Q : Value → Shared → Prop} (h : wpC M A m Q E s) : wpC M A (operate vs m) Q E s :=
  fun Γ p hΓ h1 h2 => by rw [Sem.wp_operate]; exact h Γ p hΓ h1 h2

theorem Clean.cons {c : Code} {p : Pos} {l : List (Code × Pos)} (h1 : offIt c = true) (h2 : Clean l) : Clean ((c, p) :: l) := fun x hx => by
  rcases List.mem_cons.mp hx with rfl | hx
  · exact h1
  · exact h2 x hx

theorem wpC_run {c : Code} {h : Option Value} {Q : Flow → Shared → Prop}
    (hc : codeC M (A.mark h) c (fun r s' => match r with | .ok f => Q f s' | .error e => E e s') s) (hnb : h ≠ some byPass := by intro x; cases x) :
    wpC M A (run c h) Q E s :=
  fun Γ p hΓ h1 h2 => by rw [Sem.wp_run]; exact hc _ p rfl (hΓ.enter c h p hnb) (h2.cons h1)
theorem wpC_runValue {c : Code} {Q : Value → Shared → Prop}
    (hc : codeC M A c (fun r s' => match r with | .ok (.ret v) => Q v s' | .ok _ => False | .error e => E e s') s) :
    wpC M A (runValue c) Q E s := fun Γ p hΓ h1 h2 => by rw [Sem.wp_runValue]; exact hc _ p rfl (hΓ.enter c none p (by intro x; cases x)) (h2.cons h1)
theorem wpC_call {f : Value} {pos : List Value} {kw : List (Str × Value)} {Q : Value → Shared → Prop}
    (hc : codeC M A (.call f ⟨pos, kw⟩) (fun r s' => match r with | .ok (.ret v) => Q v s' | .ok _ => False | .error e => E e s') s) :
    wpC M A (call f pos kw) Q E s := wpC_runValue hc

theorem codeC_mono {c : Code} {R R' : Result → Shared → Prop} (h : codeC M A c R s) (hR : ∀ r s, R r s → R' r s) : codeC M A c R' s :=
  fun Γ p hc hΓ h2 => wpCode_mono hR (h Γ p hc hΓ h2)

theorem codeC_of_tree {c : Code} {R : Result → Shared → Prop} (ho : offIt c = true)
    (h : wpC M (A.under c) (M.den c) (fun fin s' => match fin with | .done f => R (.ok f) s' | .again c' => c'.quiet = true ∧ codeC M A c' R s')
      (fun e s' => R (.error e) s') s) : codeC M A c R s := fun Γ p hc hΓ h2 => by
  rw [wpCode_iff_wp, hc]
  refine Sem.wp_mono M Γ _ (fun fin p' s' h' => ?_) (fun _ _ _ h' => h') p s (h Γ p (hc ▸ hΓ.in) (by rw [hc]; exact ho) h2)
  cases fin with
  | done f => exact h'
  | again c' => exact ⟨h'.1, h'.2 (Γ.goto c') p' rfl (hΓ.goto c') h2⟩

theorem codeC_loop {c : Code} {R : Result → Shared → Prop} (ho : offIt c = true) (hq : c.quiet = true) (I : Nat → Shared → Prop)
    (turn : ∀ n s, I n s → wpC M (A.under c) (M.den c)
      (fun fin s' => match fin with | .done f => R (.ok f) s' | .again c' => (c' = c ∧ ∃ m, m < n ∧ I m s') ∨ (c'.quiet = true ∧ codeC M A c' R s')) (fun e s' => R (.error e) s') s)
    (n : Nat) (h : I n s) : codeC M A c R s := by
  induction n using Nat.strongRecOn generalizing s with
  | ind n ih =>
    refine codeC_of_tree ho (wpC_mono (turn n s h) (fun fin s' hf => ?_) fun _ _ h' => h')
    cases fin with
    | done f => exact hf
    | again c' =>
      rcases hf with ⟨rfl, m, hm, hI⟩ | hf
      · exact ⟨hq, ih m hm hI⟩
      · exact hf

/-! statements and expressions -/
theorem wpC_execs_cons {st rest} {Q : Flow → Shared → Prop}
    (h : wpC M A (exec st env) (fun f s' => match f with | .next => wpC M A (execs rest env) Q E s' | f => Q f s') E s) :
    wpC M A (execs (st :: rest) env) Q E s := fun Γ p hΓ h1 h2 => by
  rw [execs_cons, Sem.wp_bind']
  refine Sem.wp_mono M Γ _ (fun f p' s' h' => ?_) (fun _ _ _ h' => h') _ _ (h Γ p hΓ h1 h2)
  cases f <;> first | exact h' Γ p' hΓ h1 h2 | exact h'
theorem wpC_execs_nil {Q : Flow → Shared → Prop} (h : Q .next s) : wpC M A (execs [] env) Q E s := fun _ _ _ _ _ => h

theorem wpC_Assign_Name {x pos' value pos} {Q : Flow → Shared → Prop}
    (h : wpC M A (eval value env) (fun v s₁ => wpC M A (storeName env x v) (fun _ => Q .next) E s₁) E s)
    (hs : swapsWith value (some (.Name x pos')) pos.line env = pure false := by rfl) :
    wpC M A (exec (.Assign [.Name x pos'] value pos) env) Q E s := fun Γ p hΓ h1 h2 => by
  simp only [exec_Assign_Name env x pos' value pos hs, Sem.wp_bind', Sem.wp_cmd_standAt, Sem.wp_bindName, Sem.wp_pure']
  exact Sem.wp_mono M Γ _ (fun v _ s₁ h₁ => h₁ Γ _ hΓ h1 h2) (fun _ _ _ h' => h') _ _ (h Γ _ hΓ h1 h2)

theorem wpC_If {test body orelse pos} {Q : Flow → Shared → Prop}
    (h : wpC M A (isTrue test env (eval test env))
      (fun b s₂ => if b then wpC M A (execs body env) Q E s₂ else wpC M A (execs orelse env) Q E s₂) E s) :
    wpC M A (exec (.If test body orelse pos) env) Q E s := fun Γ p hΓ h1 h2 => by
  simp only [exec_If, Sem.wp_bind', Sem.wp_cmd_standAt]
  refine Sem.wp_mono M Γ _ (fun b p₂ s₂ h₂ => ?_) (fun _ _ _ h' => h') _ _ (h Γ _ hΓ h1 h2)
  cases b <;> exact h₂ Γ p₂ hΓ h1 h2

theorem wpC_Compare1 {l op r pos} {Q : Value → Shared → Prop}
    (h : wpC M A (eval l env) (fun a s₁ => wpC M A (eval r env) (fun b s₂ => wpC M A (compareOp op a b) Q E s₂) E s₁) E s)
    (hm : behindInMarks op r = false := by with_unfolding_all rfl) :
    wpC M A (eval (.Compare l [op] [r] pos) env) Q E s := fun Γ p hΓ h1 h2 => by
  simp only [eval_Compare1, markedBehindIn_of_false hm, Sem.wp_bind', Sem.wp_holding, Sem.wp_cmd_standAt, Sem.wp_operate]
  exact Sem.wp_mono M Γ _ (fun a p₁ s₁ h₁ => Sem.wp_mono M Γ _ (fun b _ s₂ h₂ => h₂ Γ _ hΓ h1 h2) (fun _ _ _ h' => h') _ _ (h₁ Γ p₁ hΓ h1 h2))
    (fun _ _ _ h' => h') _ _ (h Γ p hΓ h1 h2)
theorem wpC_BinOp {l op r pos} {Q : Value → Shared → Prop}
    (h : wpC M A (eval l env) (fun a s₁ => wpC M A (eval r env) (fun b s₂ => wpC M A (binaryOp op a b) Q E s₂) E s₁) E s) :
    wpC M A (eval (.BinOp l op r pos) env) Q E s := fun Γ p hΓ h1 h2 => by
  simp only [eval_BinOp, Sem.wp_bind', Sem.wp_holding, Sem.wp_cmd_standAt, Sem.wp_operate]
  exact Sem.wp_mono M Γ _ (fun a p₁ s₁ h₁ => Sem.wp_mono M Γ _ (fun b _ s₂ h₂ => h₂ Γ _ hΓ h1 h2) (fun _ _ _ h' => h') _ _ (h₁ Γ p₁ hΓ h1 h2))
    (fun _ _ _ h' => h') _ _ (h Γ p hΓ h1 h2)
theorem wpC_isTrue_Compare1 {l op r pos whole} {Q : Bool → Shared → Prop}
    (h : wpC M A (eval l env) (fun a s₁ => wpC M A (eval r env) (fun b s₂ => wpC M A (compareOp op a b)
      (fun c s₃ => wpC M A (truthy c) Q E s₃) E s₂) E s₁) E s)
    (hm : behindInMarks op r = false := by with_unfolding_all rfl) : wpC M A (isTrue (.Compare l [op] [r] pos) env whole) Q E s := fun Γ p hΓ x1 x2 => by
  simp only [isTrue_Compare1, markedBehindIn_of_false hm, Sem.wp_bind', Sem.wp_holding, Sem.wp_cmd_standAt, Sem.wp_operate]
  exact Sem.wp_mono M Γ _ (fun a p₁ s₁ h₁ => Sem.wp_mono M Γ _ (fun b _ s₂ h₂ => Sem.wp_mono M Γ _ (fun c p₃ s₃ h₃ => h₃ Γ p₃ hΓ x1 x2)
    (fun _ _ _ h' => h') _ _ (h₂ Γ _ hΓ x1 x2)) (fun _ _ _ h' => h') _ _ (h₁ Γ p₁ hΓ x1 x2)) (fun _ _ _ h' => h') _ _ (h Γ p hΓ x1 x2)
theorem wpC_Return_some {e pos} {Q : Flow → Shared → Prop} (h : wpC M A (eval e env) (fun v => Q (.ret v)) E s) :
    wpC M A (exec (.Return (some e) pos) env) Q E s := fun Γ p hΓ h1 h2 => by
  simp only [exec_Return_some, Sem.wp_bind', Sem.wp_cmd_standAt, Sem.wp_pure']; exact h Γ _ hΓ h1 h2
end
end Mine
end
section
open PySem PySem.Builtin.Re
set_option maxRecDepth 100000
set_option maxHeartbeats 2000000
namespace Mine
section
variable {prog : Program} {w : World} {A : Around} {E : Value → Shared → Prop} {s : Shared}

/-! the collector's question -/
theorem code_ask {R : Result → Shared → Prop} (h : R (.ok (.ret (.bool false))) s) : codeAny (M1 prog w) A askIt R s := by
  refine codeAny_of_tree ?_
  show wpAny _ _ (ret (.bool false)) _ _ s
  exact wpAny_pure h
theorem ask_free {stop : String} {Q : Unit → Shared → Prop} (h : Q () s) : wpAny (M1 prog w) A (noCollectionInside stop) Q E s := by
  unfold noCollectionInside
  refine wpAny_bind (wpAny_runValue (code_ask ?_))
  exact wpAny_pure h

/-! the engine's run -/
theorem drive {M : Model} {Q : Sre.M → Shared → Prop} : ∀ (turns n : Nat) (m : Sre.M), (m.runFor n).outcome.isSome = true → n ≤ 4 * turns → 0 < turns → Q (m.runFor n) s → wpAny M A (reDrive turns m) Q E s := by
  intro turns
  induction turns with
  | zero => intro n m _ _ h; cases h
  | succ k ih =>
    intro n m ho hn _ hQ
    unfold reDrive
    dsimp only
    by_cases h4 : (m.runFor reTurnSteps).outcome.isSome = true
    · rw [if_pos h4]
      have e : m.runFor reTurnSteps = m.runFor n := by
        rcases Nat.le_total n 4 with h | h
        · have : m.runFor (n + (4 - n)) = (m.runFor n).runFor (4 - n) := run_add _ _
          rw [run_stop ho, Nat.add_sub_cancel' h] at this
          exact this
        · have : m.runFor (4 + (n - 4)) = (m.runFor 4).runFor (n - 4) := run_add _ _
          rw [Nat.add_sub_cancel' h] at this
          rw [this]
          exact (run_stop h4 _).symm
      rw [e]; exact wpAny_pure hQ
    · rw [if_neg h4]
      have h5 : 4 < n := by
        rcases Nat.lt_or_ge 4 n with h | h
        · exact h
        · exfalso
          have : m.runFor (n + (4 - n)) = (m.runFor n).runFor (4 - n) := run_add _ _
          rw [run_stop ho, Nat.add_sub_cancel' h] at this
          exact h4 (by show (m.runFor 4).outcome.isSome = true; rw [this]; exact ho)
      have e : (m.runFor reTurnSteps).runFor (n - 4) = m.runFor n := by
        have : m.runFor (4 + (n - 4)) = (m.runFor 4).runFor (n - 4) := run_add _ _
        rw [Nat.add_sub_cancel' (Nat.le_of_lt h5)] at this
        exact this.symm
      exact wpAny_bind (wpAny_rule (ih (n - 4) _ (by rw [e]; exact ho) (by omega) (by omega) (by rw [e]; exact hQ)))

theorem run_end {M : Model} {m m' : Sre.M} {n : Nat} {Q : Option Sre.M → Shared → Prop} (e : m.runFor n = m') (hn : n ≤ 4 * 2 ^ 64) (ho : m'.outcome.isSome = true)
    (hQ : wpAny M A (match m'.outcome with | some .matched => pure (some m') | some .failed => pure none | some (.stuck why) => unsupported s!"_sre:{why}" | none => unsupported "internal:sre:no-outcome") Q E s) :
    wpAny M A (reRunToEnd m) Q E s := by
  unfold reRunToEnd
  refine wpAny_bind (drive (2 ^ 64) n m (by rw [e]; exact ho) hn (Nat.two_pow_pos 64) ?_)
  rw [e]
  refine wpAny_bind (wpAny_forIn_list _ (fun _ _ s' => s' = s) _ (fun x rest b s₁ hs => ?_) (fun b s₁ hs => by subst hs; exact hQ) _ _ rfl)
  subst hs
  by_cases hx : m'.seen.has x = true
  · rw [if_pos hx]; exact wpAny_bind (wpAny_rule (wpAny_pure rfl))
  · rw [if_neg hx]; exact wpAny_pure rfl

theorem new_match {M : Model} {T : Array Nat} {L p e : Nat} {must : Bool} {sn : Sre.Seen} {text : Str} {u : Tok} {pat : Addr} {lim : Nat} {Q : Value → Shared → Prop} (he : p ≤ e)
    (hQ : Q (.ref (s.heap.objs.size + 1)) { s with heap := (s.heap.push (spanObj p e)).push (matchObj text u pat lim s.heap.objs.size) }) :
    wpAny M A (reNewMatch (.ref pat) (.str text u) 1 0 lim (msFin T L p must e sn)) Q E s := by
  unfold reNewMatch
  dsimp only
  rw [if_neg (by simp [msFin, ms]; omega)]
  show wpAny M A (newTuple [rawInt p, rawInt e, rawInt p, rawInt e] >>= _) Q E s
  refine wpAny_bind (wpAny_newTuple ?_)
  refine wpAny_newObj_type ?_
  simp only [Heap.size_push]
  exact hQ

theorem whole_target {pat cd : Addr} {src text : Str} {t1 t2 u : Tok} {Q : ReTarget → Shared → Prop}
    (hm : s.heap.get? pat = some (patObj src t1 t2 cd)) (hc : s.heap.get? cd = some codeObj)
    (hQ : Q { pattern := .ref pat, string := .str text u, code := patC, text := text.cps, kind := 0, groups := 1, pos := 0, lim := text.cps.size } s) :
    wpAny (model prog w) A (reWholeTarget (.ref pat) (.str text u)) Q E s := by
  obtain ⟨hp, g, d, tk, os⟩ := s
  wp_walk
  refine cast (congrArg (fun t => Q t _) ?_) hQ
  simp only [ReTarget.mk.injEq]
  exact ⟨by trivial, by trivial, codes_back.symm, by trivial, by trivial, rfl, by trivial, by trivial⟩

/-- one search of the scanner that finds a row -/
theorem search_item {scan pat cd : Addr} {src text : Str} {t1 t2 u : Tok} {p : Nat} {Q : Value → Shared → Prop}
    (hs : s.heap.get? scan = some (scanObj pat text u p text.length false)) (hm : s.heap.get? pat = some (patObj src t1 t2 cd)) (hc : s.heap.get? cd = some codeObj)
    (hp : p ≤ text.length) (hsz : text.length ≤ sizeLine)
    (hQ : ∀ h', h'.get? scan = some (scanObj pat text u (rowEnd text.cps p) text.length (rowEnd text.cps p == p)) → Heap.SameBut scan s.heap h' →
      Q (.ref (s.heap.objs.size + 1)) { s with heap := (h'.push (spanObj p (rowEnd text.cps p))).push (matchObj text u pat text.length s.heap.objs.size) }) :
    wpAny (M1 prog w) A (Builtin.«_sre.SRE_Scanner.search» ⟨[.ref scan], []⟩) (fun fin s' => ∃ v, fin = .done (.ret v) ∧ Q v s') E s := by
  show wpAny _ _ (fieldsOf (.ref scan) >>= _) _ _ _
  refine wpAny_bind (wpAny_fieldsOf hs rfl ?_)
  dsimp only
  have hst : reRawOf (#[Value.ref pat, Value.str text u, rawInt p, rawInt 0, rawInt text.length, Value.bool false].getD 2 .none) = (p : Int) := rfl
  rw [hst]
  rw [if_neg (by omega : ¬ ((p : Int) < 0))]
  refine wpAny_bind (ask_free (wpAny_bind (any1 (whole_target hm hc ?_))))
  dsimp only
  obtain ⟨n, hn, sn, e⟩ := search_finds (T := text.cps) (p := p) hp
  have hb : text.cps.size ≤ 16777216 := hsz
  show wpAny _ _ (reRunToEnd (Sre.forSearch patC text.cps 1 p text.cps.size false) >>= _) _ _ _
  refine wpAny_bind (run_end e (by omega) rfl ?_)
  show wpAny _ _ (pure (some (msFin text.cps text.cps.size p false (rowEnd text.cps p) sn))) _ _ _
  refine wpAny_pure ?_
  show wpAny _ _ (setField (.ref scan) 2 (rawInt (rowEnd text.cps p)) >>= _) _ _ _
  refine wpAny_bind (any1 (wpAny_setField_rec hs (by simp) fun h₁ hs₁ sb₁ => ?_))
  show wpAny _ _ (setField (.ref scan) 5 (.bool (rowEnd text.cps p == p)) >>= _) _ _ _
  refine wpAny_bind (any1 (wpAny_setField_rec hs₁ (by simp) fun h₂ hs₂ sb₂ => ?_))
  have sb : Heap.SameBut scan s.heap h₂ := sb₁.trans sb₂
  refine wpAny_bind (new_match (rowEnd_ge _ _) (wpAny_pure ⟨_, rfl, ?_⟩))
  have hz : h₂.objs.size = s.heap.objs.size := sb.1
  show Q (.ref (h₂.objs.size + 1)) { s with heap := (h₂.push (spanObj p (rowEnd text.cps p))).push (matchObj text u pat text.length h₂.objs.size) }
  rw [hz]
  exact hQ h₂ hs₂ sb

/-- the scanner's last search, behind the empty row at the end -/
theorem search_last {scan pat cd : Addr} {src text : Str} {t1 t2 u : Tok} {Q : Value → Shared → Prop}
    (hs : s.heap.get? scan = some (scanObj pat text u text.length text.length true)) (hm : s.heap.get? pat = some (patObj src t1 t2 cd)) (hc : s.heap.get? cd = some codeObj)
    (hQ : ∀ h', (∃ o, h'.get? scan = some o) → Heap.SameBut scan s.heap h' → Q .none { s with heap := h' }) :
    wpAny (M1 prog w) A (Builtin.«_sre.SRE_Scanner.search» ⟨[.ref scan], []⟩) (fun fin s' => ∃ v, fin = .done (.ret v) ∧ Q v s') E s := by
  show wpAny _ _ (fieldsOf (.ref scan) >>= _) _ _ _
  refine wpAny_bind (wpAny_fieldsOf hs rfl ?_)
  dsimp only
  have hst : reRawOf (#[Value.ref pat, Value.str text u, rawInt text.length, rawInt 0, rawInt text.length, Value.bool true].getD 2 .none) = (text.length : Int) := rfl
  rw [hst]
  rw [if_neg (by omega : ¬ ((text.length : Int) < 0))]
  refine wpAny_bind (ask_free (wpAny_bind (any1 (whole_target hm hc ?_))))
  dsimp only
  obtain ⟨sn, e⟩ := search_ends (T := text.cps)
  show wpAny _ _ (reRunToEnd (Sre.forSearch patC text.cps 1 text.cps.size text.cps.size true) >>= _) _ _ _
  refine wpAny_bind (run_end e (by decide) rfl ?_)
  show wpAny _ _ (pure none) _ _ _
  refine wpAny_pure ?_
  show wpAny _ _ (setField (.ref scan) 2 (rawInt (-1)) >>= _) _ _ _
  exact wpAny_bind (any1 (wpAny_setField_rec hs (by simp) fun h₁ hs₁ sb₁ => wpAny_pure ⟨_, rfl, hQ h₁ ⟨_, hs₁⟩ sb₁⟩))
end
end Mine
end
section
open PySem PySem.Builtin.Re
set_option maxRecDepth 100000
set_option maxHeartbeats 2000000
namespace Mine
theorem slot_none_eq : Slot "NoneType" (cmpInfo .Eq).2.1 "NoneType.__eq__" :=
  .of (owner := "NoneType") (n := "__eq__") (by rw [typeLookup_type, builtinLookup_eq_fast]; kernel_rfl) (by decide +kernel) (by decide +kernel) (by decide +kernel)
    (by first | exact .inl (by decide +kernel) | exact .inr (by decide +kernel)) (by rw [isSubtype_type]; kernel_rfl)
theorem slot_match_eq : Slot "re.Match" (cmpInfo .Eq).2.2 "object.__eq__" :=
  .of (owner := "object") (n := "__eq__") (by rw [typeLookup_type, builtinLookup_eq_fast]; kernel_rfl) (by decide +kernel) (by decide +kernel) (by decide +kernel)
    (by first | exact .inl (by decide +kernel) | exact .inr (by decide +kernel)) (by rw [isSubtype_type]; kernel_rfl)
theorem sub_match_none : isSubtype (.type "re.Match") (.type "NoneType") = pure false := by rw [isSubtype_type]; kernel_rfl
theorem args_none_eq (a b : Value) : argsOk "NoneType.__eq__" ⟨[a, b], []⟩ := by unfold argsOk; kernel_rfl
theorem args_obj_eq (a b : Value) : argsOk "object.__eq__" ⟨[a, b], []⟩ := by unfold argsOk; kernel_rfl
theorem entry_obj_eq : entryFor table "object.__eq__" = some Builtin.«object.__eq__» := entryFor_of_tree (by kernel_rfl)
section
variable {prog : Program} {w : World} {A : Around} {E : Value → Shared → Prop} {s : Shared}
theorem M1_den (c : Code) : (M1 prog w).den c = den1 c := rfl
theorem isAsk_off {id : String} {args : Args} (h : (id == "gc.ask") = false) : isAsk (.builtin id args) = false := by
  unfold isAsk; split <;> simp_all
theorem tryCompare_no {self other : Value} {T : String} {name : Str} {id : String} {Q : Option Value → Shared → Prop} (hT : s.TypeIs self T)
    (h : Slot T name id) (hc : wpAny (model prog w) A (call (.builtin id) [self, other]) (fun v s' => v = .notImplemented ∧ Q none s') E s) :
    wpAny (model prog w) A (tryCompare self name other) Q E s := by
  simp only [tryCompare]
  refine wpAny_bind (wpAny_callSpecialIfBound?_slot hT h (wpAny_mono hc (fun v s' h' => ?_) fun _ _ h' => h'))
  obtain ⟨rfl, h'⟩ := h'
  exact wpAny_pure h'
theorem none_eq_body {m : Addr} {Q : Value → Shared → Prop} (hQ : Q .notImplemented s) :
    wpAny (model prog w) A (Builtin.«NoneType.__eq__» ⟨[.none, .ref m], []⟩) (fun fin s' => ∃ v, fin = .done (.ret v) ∧ Q v s') E s := by
  obtain ⟨hp, g, d, tk, os⟩ := s
  wp_walk
  exact ⟨_, rfl, hQ⟩
theorem obj_eq_body {m : Addr} {Q : Value → Shared → Prop} (hQ : Q .notImplemented s) :
    wpAny (model prog w) A (Builtin.«object.__eq__» ⟨[.ref m, .none], []⟩) (fun fin s' => ∃ v, fin = .done (.ret v) ∧ Q v s') E s := by
  obtain ⟨hp, g, d, tk, os⟩ := s
  wp_walk
  exact ⟨_, rfl, hQ⟩

theorem eq_none_match {m : Addr} {Q : Bool → Shared → Prop} (hm : s.TypeIs (.ref m) "re.Match") (hu : A.units < cLine) (hQ : Q false s) : wpAny (model prog w) A (eqBool .none (.ref m)) Q E s := by
  have hn : s.TypeIs .none "NoneType" := rfl
  unfold eqBool
  refine wpAny_holding ?_
  rw [if_neg (by simp)]
  refine wpAny_bind ?_
  show wpAny _ _ (richCompare .Eq .none (.ref m)) _ _ _
  unfold richCompare
  refine wpAny_holding (wpAny_bind (wpAny_cRoomFor hu ?_))
  show wpAny _ _ (typeOf .none >>= _) _ _ _
  refine wpAny_bind (wpAny_typeOf hn (wpAny_bind (wpAny_typeOf hm ?_)))
  rw [if_pos (by simp)]
  refine wpAny_bind (wpAny_of_eq sub_match_none ?_)
  show wpAny _ _ (tryCompare .none (cmpInfo .Eq).2.1 (.ref m) >>= _) _ _ _
  refine wpAny_bind (tryCompare_no hn slot_none_eq (wpAny_call_entry slot_none_eq hn (entryFor_of_tree (by kernel_rfl)) (none_eq_body ⟨rfl, ?_⟩) (args_none_eq _ _)))
  show wpAny _ _ (tryCompare (.ref m) (cmpInfo .Eq).2.2 .none >>= _) _ _ _
  refine wpAny_bind (tryCompare_no hm slot_match_eq (wpAny_call_entry slot_match_eq hm entry_obj_eq (obj_eq_body ⟨rfl, ?_⟩) (args_obj_eq _ _)))
  show wpAny _ _ (rule "compare.eq-identity" >>= _) _ _ _
  exact wpAny_bind (wpAny_rule (wpAny_bind (wpAny_pure (wpAny_pure (wpAny_pure hQ)))))

/-! the method object's call -/
theorem bound_eq (v : Value) : (match Manifest.signature? "_sre.SRE_Scanner.search" with
    | some sig => Bind.checkArgs "_sre.SRE_Scanner.search" { sig with full := s!"{Bind.lastOf "_sre.SRE_Scanner"}.{Bind.lastOf "_sre.SRE_Scanner.search"}" } ⟨[v], []⟩
    | none => unsupported "no") = pure () := by kernel_rfl
theorem kind_search : builtinKind "_sre.SRE_Scanner.search" = some .method := by decide +kernel
theorem sub_scan_module : isSubtype (.type "_sre.SRE_Scanner") (.type "module") = pure false := by rw [isSubtype_type]; kernel_rfl
theorem sub_scan_type : isSubtype (.type "_sre.SRE_Scanner") (.type "type") = pure false := by rw [isSubtype_type]; kernel_rfl
theorem bound_search {scan : Addr} {vs : Array Value} {Q : Unit → Shared → Prop} (ho : s.heap.get? scan = some { cls := .type "_sre.SRE_Scanner", data := .fields vs }) (hQ : Q () s) :
    wpAny (model prog w) A (checkBoundCall "_sre.SRE_Scanner.search" ⟨[.ref scan], []⟩) Q E s := by
  have hT : s.TypeIs (.ref scan) "_sre.SRE_Scanner" := ⟨_, ho, rfl⟩
  have hb := bound_eq (.ref scan)
  unfold checkBoundCall
  cases hsig : Manifest.signature? "_sre.SRE_Scanner.search" with
  | none => exact wpAny_pure hQ
  | some sig =>
    rw [hsig] at hb
    dsimp only at hb ⊢
    rw [kind_search]
    show wpAny _ _ (isInstance (.ref scan) (.type "module") >>= _) _ _ _
    refine wpAny_bind (wpAny_isInstance hT sub_scan_module ?_)
    rw [if_neg (by decide +kernel)]
    refine wpAny_bind (m := isType (.ref scan)) (wpAny_bind (wpAny_loadPart ho (wpAny_pure ?_)))
    show wpAny _ _ (typeOf (.ref scan) >>= _) _ _ _
    refine wpAny_bind (wpAny_typeOf hT ?_)
    show wpAny _ _ (Bind.checkArgs _ _ _) _ _ _
    exact wpAny_of_eq hb hQ

theorem code_search {meth scan : Addr} {vs : Array Value} {R : Result → Shared → Prop} (hm : s.heap.get? meth = some (methObj scan)) (ho : s.heap.get? scan = some { cls := .type "_sre.SRE_Scanner", data := .fields vs })
    (h : wpAny (M1 prog w) A.in1 (Builtin.«_sre.SRE_Scanner.search» ⟨[.ref scan], []⟩) (fun fin s' => ∃ v, fin = .done (.ret v) ∧ R (.ok (.ret v)) s') (fun e s' => R (.error e) s') s) :
    codeAny (M1 prog w) A (.call (.ref meth) ⟨[], []⟩) R s := by
  refine codeAny_of_tree ?_
  show wpAny _ A.in1 (callAny (.ref meth) ⟨[], []⟩) _ _ s
  simp only [callAny]
  refine wpAny_bind (wpAny_load hm ?_)
  show wpAny _ _ (checkBoundCall "_sre.SRE_Scanner.search" ⟨[.ref scan], []⟩ >>= _) _ _ _
  refine wpAny_bind (any1 (bound_search ho ?_))
  refine wpAny_pure ⟨plainId_quiet (by decide +kernel) _, codeAny_of_tree ?_⟩
  rw [Around.under_plainId (id := "_sre.SRE_Scanner.search") (by decide +kernel)]
  have e : (M1 prog w).den (.builtin "_sre.SRE_Scanner.search" ⟨[.ref scan], []⟩) = Builtin.«_sre.SRE_Scanner.search» ⟨[.ref scan], []⟩ := by
    rw [M1_den, den1_off (isAsk_off (by decide)), den_builtin entry_scan_search]
  show wpAny _ _ ((M1 prog w).den (.builtin "_sre.SRE_Scanner.search" ⟨[.ref scan], []⟩)) _ _ _
  rw [e]
  refine wpAny_mono h (fun fin s' h' => ?_) fun _ _ h' => h'
  obtain ⟨v, rfl, h'⟩ := h'
  exact h'
end
end Mine
end
section
open PySem PySem.Builtin.Re
set_option maxRecDepth 100000
set_option maxHeartbeats 2000000
namespace Mine
section
variable {prog : Program} {w : World} {A : Around} {E : Value → Shared → Prop} {s : Shared}

theorem borrows_no {meth scan : Addr} {Q : Bool → Shared → Prop} (hm : s.heap.get? meth = some (methObj scan)) (hQ : Q false s) : wpAny (model prog w) A (borrowsExactly (.ref meth)) Q E s := by
  obtain ⟨hp, g, d, tk, os⟩ := s
  wp_walk
  exact hQ

theorem ci_item {it meth scan pat cd : Addr} {src text : Str} {t1 t2 u : Tok} {p : Nat} {Q : Value → Shared → Prop}
    (hi : s.heap.get? it = some (callObj meth)) (hme : s.heap.get? meth = some (methObj scan))
    (hs : s.heap.get? scan = some (scanObj pat text u p text.length false)) (hm : s.heap.get? pat = some (patObj src t1 t2 cd)) (hc : s.heap.get? cd = some codeObj)
    (hp : p ≤ text.length) (hsz : text.length ≤ sizeLine) (hu : A.units + 10 < cLine)
    (hQ : ∀ h', h'.get? scan = some (scanObj pat text u (rowEnd text.cps p) text.length (rowEnd text.cps p == p)) → Heap.SameBut scan s.heap h' →
      Q (.ref (s.heap.objs.size + 1)) { s with heap := (h'.push (spanObj p (rowEnd text.cps p))).push (matchObj text u pat text.length s.heap.objs.size) }) :
    wpAny (M1 prog w) A (Builtin.«callable_iterator.__next__» ⟨[.ref it], []⟩) (fun fin s' => ∃ v, fin = .done (.ret v) ∧ Q v s') E s := by
  have hne : it ≠ scan := fun e => by
    rw [e, hs] at hi
    have h := congrArg (fun o => o.map (·.cls)) hi
    simp [scanObj, callObj] at h
  show wpAny _ _ (field (.ref it) 2 >>= _) _ _ _
  refine wpAny_bind (wpAny_field hi rfl (x := .bool false) rfl ?_)
  rw [if_neg (by decide)]
  refine wpAny_bind (wpAny_field hi rfl (x := .ref meth) rfl (wpAny_bind (wpAny_attempt ?_)))
  unfold callOutOfASlot
  refine wpAny_bind (any1 (borrows_no hme ?_))
  rw [if_neg (by decide)]
  refine wpAny_call (code_search hme hs (search_item hs hm hc hp hsz fun h' hs' sb => ?_))
  have hz : h'.objs.size = s.heap.objs.size := sb.1
  have hi' : ((h'.push (spanObj p (rowEnd text.cps p))).push (matchObj text u pat text.length s.heap.objs.size)).get? it = some (callObj meth) :=
    Heap.get?_push_of_some _ (Heap.get?_push_of_some _ ((sb.2 it hne).trans hi))
  have hmt : ((h'.push (spanObj p (rowEnd text.cps p))).push (matchObj text u pat text.length s.heap.objs.size)).get? (s.heap.objs.size + 1) = some (matchObj text u pat text.length s.heap.objs.size) :=
    Heap.get?_push_at (by rw [Heap.size_push, hz]) rfl
  show wpAny _ _ (field (.ref it) 2 >>= _) _ _ _
  refine wpAny_bind (wpAny_field hi' rfl (x := .bool false) rfl ?_)
  rw [if_neg (by decide)]
  refine wpAny_bind (wpAny_field hi' rfl (x := .none) rfl (wpAny_bind (wpAny_holding (any1 (eq_none_match ⟨_, hmt, rfl⟩ (by omega) ?_)))))
  rw [if_pos (by decide)]
  exact wpAny_pure ⟨_, rfl, hQ h' hs' sb⟩

/-- inside one code, over a stack without a callable iterator's step -/
def wpI {α : Type} (M : Model) (A : Around) (t : Sem α) (Q : α → Shared → Prop) (E : Value → Shared → Prop) (s : Shared) : Prop :=
  ∀ Γ p, Γ.In A → Clean Γ.below → Sem.wp M Γ t (fun a _ s' => Q a s') (fun e _ s' => E e s') p s
theorem wpI_of_any {α : Type} {M : Model} {t : Sem α} {Q : α → Shared → Prop} (h : wpAny M A t Q E s) : wpI M A t Q E s := fun Γ p hΓ _ => h Γ p hΓ
theorem wpI_bind {α β : Type} {M : Model} {m : Sem α} {f : α → Sem β} {Q : β → Shared → Prop} (h : wpI M A m (fun a s' => wpI M A (f a) Q E s') E s) :
    wpI M A (m >>= f) Q E s := fun Γ p hΓ h2 => by
  rw [Sem.wp_bind']
  exact Sem.wp_mono M Γ m (fun a p' s' h' => h' Γ p' hΓ h2) (fun _ _ _ h' => h') p s (h Γ p hΓ h2)
theorem codeC_of_own {M : Model} {c : Code} {R : Result → Shared → Prop}
    (h : wpI M (A.under c) (M.den c) (fun fin s' => match fin with | .done f => R (.ok f) s' | .again c' => c'.quiet = true ∧ codeC M A c' R s')
      (fun e s' => R (.error e) s') s) : codeC M A c R s := fun Γ p hc hΓ h2 => by
  rw [wpCode_iff_wp, hc]
  refine Sem.wp_mono M Γ _ (fun fin p' s' h' => ?_) (fun _ _ _ h' => h') p s (h Γ p (hc ▸ hΓ.in) h2)
  cases fin with
  | done f => exact h'
  | again c' => exact ⟨h'.1, h'.2 (Γ.goto c') p' rfl (hΓ.goto c') h2⟩
theorem stack_clean {M : Model} {busy : Code → Bool} {Q : Bool → Shared → Prop} (hb : ∀ c, offIt c = true → busy c = false) (hQ : Q false s) :
    wpI M A (do return ((← stack).drop 1).any fun (c, _) => busy c) Q E s := fun Γ p _ h2 => by
  show Q (Γ.below.any fun x => busy x.1) s
  have : (Γ.below.any fun x => busy x.1) = false := by
    rw [List.any_eq_false]
    intro x hx
    rw [hb x.1 (h2 x hx)]
    exact Bool.false_ne_true
  rw [this]; exact hQ
theorem letsGo_clean {meth scan : Addr} {busy : Code → Bool} {who : String} {Q : Unit → Shared → Prop} (hm : s.heap.get? meth = some (methObj scan)) (hb : ∀ c, offIt c = true → busy c = false) (hQ : Q () s) :
    wpI (M1 prog w) A (slotLetsGo who (.ref meth) busy) Q E s := by
  unfold slotLetsGo
  refine wpI_bind (wpI_of_any (any1 (borrows_no hm ?_)))
  rw [if_neg (by decide)]
  intro Γ p _ h2
  have : (Γ.below.any fun x => busy x.1) = false := by
    rw [List.any_eq_false]
    intro x hx
    rw [hb x.1 (h2 x hx)]
    exact Bool.false_ne_true
  show Sem.wp (M1 prog w) Γ (if (Γ.below.any fun x => busy x.1) = true then unsupported _ else pure ()) _ _ p s
  rw [this]
  exact hQ

theorem stop_raised {α : Type} {Q : α → Shared → Prop} (hh : A.handled = none)
    (hE : ∀ h' e, (∀ b o, s.heap.get? b = some o → h'.get? b = some o) → (∃ o, h'.get? e = some o ∧ o.cls = .type "StopIteration") → E (.ref e) { s with heap := h' }) :
    wpAny (model prog w) A (Builtin.SmallTypes.stopIteration : Sem α) Q E s := by
  unfold Builtin.SmallTypes.stopIteration
  refine wpAny_bind ?_
  simp only [newExc, newTuple]
  refine wpAny_bind (wpAny_newObj_type ?_ (by size_fits))
  refine wpAny_bind (m := firstArgMember _ _) (wpAny_of_eq (a := Value.none) (by first | rfl | (simp only [firstArgMember]; rfl)) ?_)
  refine wpAny_newObj_type ?_ (by size_fits)
  simp only [raiseNew]
  refine wpAny_bind (wpAny_handled ?_)
  rw [hh]
  refine wpAny_bind (wpAny_pure (wpAny_throw ?_))
  exact hE _ _ (fun b o e => Heap.get?_push_of_some _ (Heap.get?_push_of_some _ e)) ⟨_, Heap.get?_push_size _ rfl, rfl⟩

theorem ci_end {it meth scan pat cd : Addr} {src text : Str} {t1 t2 u : Tok} {Q : Fin → Shared → Prop} (hh : A.handled = none)
    (hi : s.heap.get? it = some (callObj meth)) (hme : s.heap.get? meth = some (methObj scan))
    (hs : s.heap.get? scan = some (scanObj pat text u text.length text.length true)) (hm : s.heap.get? pat = some (patObj src t1 t2 cd)) (hc : s.heap.get? cd = some codeObj)
    (hE : ∀ h' e, (∀ b o, b ≠ it → b ≠ scan → s.heap.get? b = some o → h'.get? b = some o) → (∃ o, h'.get? e = some o ∧ o.cls = .type "StopIteration") → E (.ref e) { s with heap := h' }) :
    wpI (M1 prog w) A (Builtin.«callable_iterator.__next__» ⟨[.ref it], []⟩) Q E s := by
  have hne : it ≠ scan := fun e => by
    rw [e, hs] at hi
    have h := congrArg (fun o => o.map (·.cls)) hi
    simp [scanObj, callObj] at h
  have hne2 : meth ≠ scan := fun e => by
    rw [e, hs] at hme
    have h := congrArg (fun o => o.map (·.cls)) hme
    simp [scanObj, methObj] at h
  show wpI _ _ (field (.ref it) 2 >>= _) _ _ _
  refine wpI_bind (wpI_of_any (wpAny_field hi rfl (x := .bool false) rfl ?_))
  rw [if_neg (by decide)]
  refine wpI_bind (wpI_of_any (wpAny_field hi rfl (x := .ref meth) rfl ?_))
  refine wpI_bind (wpI_of_any (wpAny_attempt ?_))
  unfold callOutOfASlot
  refine wpAny_bind (any1 (borrows_no hme ?_))
  rw [if_neg (by decide)]
  refine wpAny_call (code_search hme hs (search_last hs hm hc fun h' hs' sb => ?_))
  have hi' : h'.get? it = some (callObj meth) := (sb.2 it hne).trans hi
  have hme' : h'.get? meth = some (methObj scan) := (sb.2 meth hne2).trans hme
  show wpI _ _ (field (.ref it) 2 >>= _) _ _ _
  refine wpI_bind (wpI_of_any (wpAny_field hi' rfl (x := .bool false) rfl ?_))
  rw [if_neg (by decide)]
  refine wpI_bind (wpI_of_any (wpAny_field hi' rfl (x := .none) rfl ?_))
  refine wpI_bind (wpI_of_any (wpAny_holding ?_))
  unfold eqBool
  refine wpAny_holding ?_
  rw [if_pos (show (Value.none == Value.none) = true from by decide)]
  refine wpAny_bind (wpAny_rule (wpAny_pure ?_))
  rw [if_neg (by decide)]
  refine wpI_bind (wpI_of_any (wpAny_rule ?_))
  refine wpI_bind ?_
  show wpI _ _ (field (.ref it) 0 >>= _) _ _ _
  refine wpI_bind (wpI_of_any (wpAny_field hi' rfl (x := .ref meth) rfl ?_))
  refine wpI_bind (letsGo_clean hme' (fun c hc => ?_) ?_)
  · cases c with
    | builtin id args =>
      have hid : id ≠ "callable_iterator.__next__" := by simpa [offIt] using hc
      split
      · rename_i h; injection h with h1 _; exact absurd h1 hid
      · rfl
    | _ => rfl
  refine wpI_bind (wpI_of_any (any1 (wpAny_setField_rec hi' (by simp) fun h₁ hi₁ sb₁ => ?_)))
  refine wpI_bind (wpI_of_any (any1 (wpAny_setField_rec hi₁ (by simp) fun h₂ hi₂ sb₂ => ?_)))
  refine wpI_of_any (any1 (wpAny_setField_rec hi₂ (by simp) fun h₃ hi₃ sb₃ => ?_))
  refine wpI_of_any (any1 (stop_raised hh fun h₄ e hk he => hE h₄ e (fun b o h1 h2 hb => ?_) he))
  exact hk b o (((sb₃.2 b h1).trans (sb₂.2 b h1)).trans ((sb₁.2 b h1).trans ((sb.2 b h2).trans hb)))
end
end Mine
end
section
open PySem PySem.Builtin.Re
set_option maxRecDepth 100000
set_option maxHeartbeats 2000000
namespace Mine
section
variable {prog : Program} {w : World} {A : Around} {E : Value → Shared → Prop} {s : Shared}

theorem codeC_called {T : String} {name : Str} {id : String} {self : Value} {rest : List Value} {R : Result → Shared → Prop} (h : Slot T name id) (hT : s.TypeIs self T)
    (ha : argsOk id ⟨self :: rest, []⟩) (hk : codeC (M1 prog w) A (.builtin id ⟨self :: rest, []⟩) R s) : codeC (M1 prog w) A (.call (.builtin id) ⟨self :: rest, []⟩) R s := by
  refine codeC_of_tree rfl ?_
  rw [M1_den, den1_off rfl]
  show wpC _ A.in1 (do checkBuiltinCall id ⟨self :: rest, []⟩; again (.builtin id ⟨self :: rest, []⟩)) _ _ s
  exact wpC_bind (wpC_of_any (h.check _ _ _ _ _ _ _ _ hT ha (wpC_pure ⟨plainId_quiet h.plain _, hk⟩)))
theorem codeC_entry {id : String} {b : Builtin} {args : Args} {R : Result → Shared → Prop} (hp : plainId id = true) (hb : entryFor table id = some b) (hq : (id == "gc.ask") = false) (ho : (id != "callable_iterator.__next__") = true)
    (hc : wpC (M1 prog w) A.in1 (b args) (fun fin s' => ∃ v, fin = .done (.ret v) ∧ R (.ok (.ret v)) s') (fun e s' => R (.error e) s') s) : codeC (M1 prog w) A (.builtin id args) R s := by
  refine codeC_of_tree ho ?_
  rw [Around.under_plainId hp, M1_den, den1_off (isAsk_off hq), den_builtin hb]
  refine wpC_mono hc (fun fin s' h' => ?_) fun _ _ h' => h'
  obtain ⟨v, rfl, h'⟩ := h'
  exact h'
theorem codeC_entryI {id : String} {b : Builtin} {args : Args} {R : Result → Shared → Prop} (hp : plainId id = true) (hb : entryFor table id = some b) (hq : (id == "gc.ask") = false)
    (hc : wpI (M1 prog w) A.in1 (b args) (fun fin s' => ∃ v, fin = .done (.ret v) ∧ R (.ok (.ret v)) s') (fun e s' => R (.error e) s') s) : codeC (M1 prog w) A (.builtin id args) R s := by
  refine codeC_of_own ?_
  rw [Around.under_plainId hp, M1_den, den1_off (isAsk_off hq), den_builtin hb]
  intro Γ p hΓ h2
  refine Sem.wp_mono _ _ _ (fun fin _ s' h' => ?_) (fun _ _ _ h' => h') _ _ (hc Γ p hΓ h2)
  obtain ⟨v, rfl, h'⟩ := h'
  exact h'

theorem wpC_callSpecial {M : Model} {self : Value} {T : String} {name : Str} {id : String} {args : List Value} {kw : List (Str × Value)}
    {Q : Option Value → Shared → Prop} (hT : s.TypeIs self T) (h : Slot T name id)
    (hc : wpC M A (call (.builtin id) (self :: args) kw) (fun v => Q (some v)) E s) : wpC M A (callSpecial? self name args kw) Q E s := by
  simp only [callSpecial?]
  refine wpC_bind (wpC_of_any (wpAny_specialOf hT h.lookup ?_))
  simp only [h.bind]
  exact wpC_holding (wpC_bind (wpC_pure (wpC_bind (wpC_mono hc (fun v s' h' => wpC_pure h') fun _ _ h' => h'))))

/-- the iterator of the rows of `text`, at `p` -/
structure Rows (h : Heap) (it meth scan pat cd : Addr) (text : Str) (u : Tok) (p : Nat) (must : Bool) : Prop where
  it : h.get? it = some (callObj meth)
  meth : h.get? meth = some (methObj scan)
  scan : h.get? scan = some (scanObj pat text u p text.length must)
  pat : ∃ src t1 t2, h.get? pat = some (patObj src t1 t2 cd)
  code : h.get? cd = some codeObj

theorem nextOf_item {it meth scan pat cd : Addr} {text : Str} {u : Tok} {p : Nat} {Q : Value → Shared → Prop} (R : Rows s.heap it meth scan pat cd text u p false)
    (hp : p ≤ text.length) (hsz : text.length ≤ sizeLine) (hu : A.units + 20 < cLine)
    (hQ : ∀ h', h'.get? scan = some (scanObj pat text u (rowEnd text.cps p) text.length (rowEnd text.cps p == p)) → Heap.SameBut scan s.heap h' →
      Q (.ref (s.heap.objs.size + 1)) { s with heap := (h'.push (spanObj p (rowEnd text.cps p))).push (matchObj text u pat text.length s.heap.objs.size) }) :
    wpC (M1 prog w) A (Builtin.SmallTypes.nextOf (.ref it)) Q E s := by
  obtain ⟨src, t1, t2, hpat⟩ := R.pat
  have hT : s.TypeIs (.ref it) "callable_iterator" := ⟨_, R.it, rfl⟩
  unfold Builtin.SmallTypes.nextOf
  refine wpC_bind (wpC_callSpecial hT slot_call_next (wpC_call (codeC_called slot_call_next hT (args_call_next _) (codeC_entryI slot_call_next.plain entry_call_next (by decide) ?_))))
  refine wpI_of_any (ci_item R.it R.meth R.scan hpat R.code hp hsz (by show A.units + 1 + 10 < cLine; omega) fun h' a b => ?_)
  exact wpC_pure (hQ h' a b)

theorem nextOf_end {it meth scan pat cd : Addr} {text : Str} {u : Tok} {Q : Value → Shared → Prop} (hh : A.handled = none) (R : Rows s.heap it meth scan pat cd text u text.length true)
    (hE : ∀ h' e, (∀ b o, b ≠ it → b ≠ scan → s.heap.get? b = some o → h'.get? b = some o) → (∃ o, h'.get? e = some o ∧ o.cls = .type "StopIteration") → E (.ref e) { s with heap := h' }) :
    wpC (M1 prog w) A (Builtin.SmallTypes.nextOf (.ref it)) Q E s := by
  obtain ⟨src, t1, t2, hpat⟩ := R.pat
  have hT : s.TypeIs (.ref it) "callable_iterator" := ⟨_, R.it, rfl⟩
  unfold Builtin.SmallTypes.nextOf
  refine wpC_bind (wpC_callSpecial hT slot_call_next (wpC_call (codeC_called slot_call_next hT (args_call_next _) (codeC_entryI slot_call_next.plain entry_call_next (by decide) ?_))))
  exact ci_end hh R.it R.meth R.scan hpat R.code hE

theorem enum_rest {e it : Addr} {i : Int} {x old : Value} {Q : Value → Shared → Prop} (he : IsEnum s.heap e it i old)
    (hQ : ∀ h', IsEnumOut h' e it (i + 1) x s.heap.objs.size → h'.get? s.heap.objs.size = some { cls := .type "tuple", data := .seq #[.int i s.toks, x] } → h'.objs.size = s.heap.objs.size + 1 →
      (∀ b o, b ≠ e → s.heap.get? b = some o → h'.get? b = some o) → Q (.ref s.heap.objs.size) { s with heap := h', toks := s.toks + 1 }) :
    wpAny (model prog w) A (do
      let .int i _ ← field (.ref e) 3 | unsupported "internal:enumerate.__next__"
      let given ← field (.ref e) 4
      let index ← if given == .none then mkInt i else pure given
      setField (.ref e) 3 (rawInt (i + 1)); setField (.ref e) 4 .none
      let result ← newTuple [index, x]
      if ← Builtin.SmallTypes.ownedTupleIsFree (.ref e) then
        rule "enumerate.__next__.owned-tuple-again"
        let old ← field (.ref e) 5
        setField (.ref e) 5 x
        Builtin.SmallTypes.ownedTupleHandOut (.ref e) result
        letGo [old] [result]
      ret result) (fun fin s' => ∃ v, fin = .done (.ret v) ∧ Q v s') E s := by
  obtain ⟨hp, g, d, tk, os⟩ := s
  refine wpAny_bind (wpAny_field he rfl (x := rawInt i) rfl ?_)
  show wpAny _ _ (field (.ref e) 4 >>= _) _ _ _
  refine wpAny_bind (wpAny_field he rfl (x := .none) rfl ?_)
  show wpAny _ _ (mkInt i >>= _) _ _ _
  refine wpAny_bind (wpAny_mkInt ?_)
  show wpAny _ _ (setField (.ref e) 3 (rawInt (i + 1)) >>= _) _ _ ⟨hp, g, d, tk + 1, os⟩
  refine wpAny_bind (wpAny_setField_rec he (by simp) fun h₂ he₂ hs₂ => ?_)
  replace hs₂ : Heap.SameBut e hp h₂ := hs₂
  replace he₂ : IsEnum h₂ e it (i + 1) old := he₂
  refine wpAny_bind (wpAny_setField_rec he₂ (by simp) fun h₃ he₃ hs₃ => ?_)
  replace hs₃ : Heap.SameBut e h₂ h₃ := hs₃
  replace he₃ : IsEnum h₃ e it (i + 1) old := he₃
  refine wpAny_bind (wpAny_newTuple ?_)
  have hsz : h₃.objs.size = hp.objs.size := by rw [hs₃.1, hs₂.1]
  have he₄ : IsEnum (h₃.push { cls := .type "tuple", data := .seq #[.int i tk, x] }) e it (i + 1) old := Heap.get?_push_of_some _ he₃
  generalize hh₄ : h₃.push { cls := .type "tuple", data := .seq #[.int i tk, x] } = h₄ at he₄
  have hel : e < hp.objs.size := Heap.lt_size he
  have ht₄ : h₄.get? hp.objs.size = some { cls := .type "tuple", data := .seq #[.int i tk, x] } := by rw [← hh₄, ← hsz]; exact Heap.get?_push_size _ rfl
  have hz₄ : h₄.objs.size = hp.objs.size + 1 := by rw [← hh₄, Heap.size_push, hsz]
  have hk₄ : ∀ b o, b ≠ e → hp.get? b = some o → h₄.get? b = some o := fun b o hbe hb => by
    rw [← hh₄]; exact Heap.get?_push_of_some _ (hs₃.extBut b o hbe (hs₂.extBut b o hbe hb))
  show wpAny _ _ (Builtin.SmallTypes.ownedTupleIsFree (.ref e) >>= _) _ _ ⟨h₄, g, d, tk + 1, os⟩
  rw [hsz]
  refine wpAny_bind ?_
  unfold Builtin.SmallTypes.ownedTupleIsFree
  refine wpAny_bind (wpAny_field he₄ rfl (x := .none) rfl (wpAny_pure ?_))
  simp only [if_true]
  refine wpAny_bind (wpAny_rule ?_)
  refine wpAny_bind (wpAny_field he₄ rfl (x := old) rfl ?_)
  refine wpAny_bind (wpAny_setField_rec he₄ (by simp) fun h₅ he₅ hs₅ => ?_)
  replace hs₅ : Heap.SameBut e h₄ h₅ := hs₅
  replace he₅ : IsEnum h₅ e it (i + 1) x := he₅
  refine wpAny_bind ?_
  unfold Builtin.SmallTypes.ownedTupleHandOut
  refine wpAny_bind (wpAny_setField_rec he₅ (by simp) fun h₆ he₆ hs₆ => ?_)
  replace hs₆ : Heap.SameBut e h₅ h₆ := hs₆
  replace he₆ : IsEnumOut h₆ e it (i + 1) x hp.objs.size := he₆
  refine wpAny_setField_rec he₆ (by simp) fun h₇ he₇ hs₇ => ?_
  replace hs₇ : Heap.SameBut e h₆ h₇ := hs₇
  replace he₇ : IsEnumOut h₇ e it (i + 1) x hp.objs.size := he₇
  refine wpAny_bind (wpAny_letGo (wpAny_pure ⟨_, rfl, hQ h₇ he₇ ?_ ?_ ?_⟩))
  · exact hs₇.extBut _ _ (Nat.ne_of_gt hel) (hs₆.extBut _ _ (Nat.ne_of_gt hel) (hs₅.extBut _ _ (Nat.ne_of_gt hel) ht₄))
  · rw [hs₇.1, hs₆.1, hs₅.1, hz₄]
  · exact fun b o hbe hb => hs₇.extBut b o hbe (hs₆.extBut b o hbe (hs₅.extBut b o hbe (hk₄ b o hbe hb)))

theorem pyNext_item {e it meth scan pat cd : Addr} {text : Str} {u : Tok} {p : Nat} {i : Int} {old : Value} {Q : Option Value → Shared → Prop}
    (he : IsEnum s.heap e it i old) (R : Rows s.heap it meth scan pat cd text u p false) (hp : p ≤ text.length) (hsz : text.length ≤ sizeLine) (hu : A.units + 30 < cLine)
    (hQ : ∀ h', IsEnumOut h' e it (i + 1) (.ref (s.heap.objs.size + 1)) (s.heap.objs.size + 2) →
      h'.get? (s.heap.objs.size + 2) = some { cls := .type "tuple", data := .seq #[.int i s.toks, .ref (s.heap.objs.size + 1)] } →
      h'.get? (s.heap.objs.size + 1) = some (matchObj text u pat text.length s.heap.objs.size) → h'.get? s.heap.objs.size = some (spanObj p (rowEnd text.cps p)) →
      h'.get? scan = some (scanObj pat text u (rowEnd text.cps p) text.length (rowEnd text.cps p == p)) →
      (∀ b o, b ≠ e → b ≠ scan → s.heap.get? b = some o → h'.get? b = some o) → Q (some (.ref (s.heap.objs.size + 2))) { s with heap := h', toks := s.toks + 1 }) :
    wpC (M1 prog w) A (pyNext (.ref e)) Q E s := by
  have hT : s.TypeIs (.ref e) "enumerate" := ⟨_, he, rfl⟩
  have hne : e ≠ scan := fun h => by
    have h1 := R.scan
    rw [← h, he] at h1
    have h2 := congrArg (fun o => o.map (·.cls)) h1
    simp [scanObj] at h2
  unfold pyNext
  refine wpC_bind (wpC_attempt (wpC_callSpecial hT F.slot_enumerate_next (wpC_call (codeC_called F.slot_enumerate_next hT (F.args_enumerate_next_1 _) (codeC_entry F.slot_enumerate_next.plain F.entry_enumerate_next (by decide) (by decide) ?_)))))
  show wpC _ _ (field (.ref e) 2 >>= _) _ _ _
  refine wpC_bind (wpC_of_any (wpAny_field he rfl (x := .ref it) rfl ?_))
  refine wpC_bind (nextOf_item R hp hsz (by show A.units + 1 + 20 < cLine; omega) fun h₁ hs₁ sb₁ => ?_)
  have hz₁ : h₁.objs.size = s.heap.objs.size := sb₁.1
  have he₁ : IsEnum ((h₁.push (spanObj p (rowEnd text.cps p))).push (matchObj text u pat text.length s.heap.objs.size)) e it i old :=
    Heap.get?_push_of_some _ (Heap.get?_push_of_some _ ((sb₁.2 e hne).trans he))
  refine wpC_of_any (any1 (enum_rest (s := { s with heap := (h₁.push (spanObj p (rowEnd text.cps p))).push (matchObj text u pat text.length s.heap.objs.size) }) he₁ fun h' a b _ k => ?_))
  have hz₂ : ((h₁.push (spanObj p (rowEnd text.cps p))).push (matchObj text u pat text.length s.heap.objs.size)).objs.size = s.heap.objs.size + 2 := by rw [Heap.size_push, Heap.size_push, hz₁]
  have hel : e < s.heap.objs.size := Heap.lt_size he
  have hsl : scan < s.heap.objs.size := Heap.lt_size R.scan
  show wpC _ _ (pure (some (Value.ref ((h₁.push (spanObj p (rowEnd text.cps p))).push (matchObj text u pat text.length s.heap.objs.size)).objs.size))) _ _ _
  rw [hz₂] at a b ⊢
  refine wpC_pure (hQ h' a b ?_ ?_ ?_ fun x o h1 h2 h3 => ?_)
  · exact k _ _ (Nat.ne_of_gt (Nat.lt_of_lt_of_le hel (Nat.le_add_right _ _))) (Heap.get?_push_at (by rw [Heap.size_push, hz₁]) rfl)
  · exact k _ _ (Nat.ne_of_gt hel) (Heap.get?_push_of_some _ (Heap.get?_push_at hz₁.symm rfl))
  · exact k _ _ (Ne.symm hne) (Heap.get?_push_of_some _ (Heap.get?_push_of_some _ hs₁))
  · exact k x o h1 (Heap.get?_push_of_some _ (Heap.get?_push_of_some _ ((sb₁.2 x h2).trans h3)))

theorem pyNext_end {e it meth scan pat cd : Addr} {text : Str} {u : Tok} {i : Int} {old : Value} {Q : Option Value → Shared → Prop} (hh : A.handled = none)
    (he : IsEnum s.heap e it i old) (R : Rows s.heap it meth scan pat cd text u text.length true)
    (hQ : ∀ h', (∀ b o, b ≠ it → b ≠ scan → s.heap.get? b = some o → h'.get? b = some o) → Q none { s with heap := h' }) :
    wpC (M1 prog w) A (pyNext (.ref e)) Q E s := by
  have hT : s.TypeIs (.ref e) "enumerate" := ⟨_, he, rfl⟩
  unfold pyNext
  refine wpC_bind (wpC_attempt (wpC_callSpecial hT F.slot_enumerate_next (wpC_call (codeC_called F.slot_enumerate_next hT (F.args_enumerate_next_1 _) (codeC_entry F.slot_enumerate_next.plain F.entry_enumerate_next (by decide) (by decide) ?_)))))
  show wpC _ _ (field (.ref e) 2 >>= _) _ _ _
  refine wpC_bind (wpC_of_any (wpAny_field he rfl (x := .ref it) rfl ?_))
  refine wpC_bind (nextOf_end hh R fun h' x k hx => ?_)
  obtain ⟨o, ho, hc⟩ := hx
  show wpC _ _ (isInstance (.ref x) (.type "StopIteration") >>= _) _ _ _
  refine wpC_bind (wpC_of_any (wpAny_isInstance (T := "StopIteration") (b := true) ⟨o, ho, hc⟩ isSubtype_stop ?_))
  exact wpC_pure (hQ h' k)
end
end Mine
end
section
open PySem
set_option maxRecDepth 100000
set_option maxHeartbeats 2000000
namespace Mine
section
variable {prog : Program} {w : World} {A : Around} {E : Value → Shared → Prop} {s : Shared}

theorem codeC_func {body : List Stmt} {env : Env} {R : Result → Shared → Prop}
    (h : wpC (M1 prog w) (A.deeper env) (execs body env) (fun f s' => R (.ok (.ret (match f with | .ret v => v | _ => .none))) s') (fun _ _ => False) s) :
    codeC (M1 prog w) A (.func body env) R s := by
  refine codeC_of_tree rfl ?_
  rw [M1_den, den1_off rfl]
  show wpC _ (A.deeper env) (do point; match ← (execs body env).onRaise (leaving env) with | .ret v => ret v | _ => ret .none) _ _ s
  refine wpC_bind (wpC_point (wpC_bind (wpC_onRaise (wpC_mono h (fun f s' h' => ?_) fun _ _ h' => h'.elim))))
  cases f <;> exact wpC_pure h'

theorem codeC_call_function {a : Addr} {args : Args} {o : Obj} {fd : FuncData} {body : List Stmt} {R : Result → Shared → Prop} (hroom : A.depth < recursionLimit)
    (ho : s.heap.get? a = some o)
    (hd' : o.data = .func fd) (hco : fd.scope.isCoroutine = false) (hgen : fd.scope.isGenerator = false) (hbody : fd.body = .stmts body) (hcd : s.heap.CodeRec fd.code fd.qualname)
    (h : wpAny (M1 prog w) A.in1 (bindArgs fd args) (fun binds s₁ =>
      wpAny (M1 prog w) A.in1 (newFunctionEnv fd.scope fd.globals fd.closure binds (fd.qualname ++ ".<locals>.") (some a) fd.code none fd.builtins)
        (fun env s₂ => s₂.heap.NoLimit ∧ codeC (M1 prog w) A (.func body env) R s₂) (fun e s' => R (.error e) s') s₁) (fun e s' => R (.error e) s') s) :
    codeC (M1 prog w) A (.call (.ref a) args) R s := by
  refine codeC_of_tree rfl ?_
  rw [M1_den, den1_off rfl]
  show wpC _ A.in1 (callAny (.ref a) args) _ _ s
  simp only [callAny]
  refine wpC_bind (wpC_load ho ?_)
  obtain ⟨c, oc, vs, tq, hc, hoc, hdc, hq⟩ := hcd
  simp only [hd', callFunction, hco, hgen, hbody, hc]
  rw [hc] at h
  refine wpC_bind (m := field (.ref c) 1) (wpC_of_any (wpAny_field hoc hdc hq (wpC_bind (wpC_pure ?_))))
  exact wpC_bind (wpC_of_any (wpAny_mono h (fun binds s₁ h₁ => wpC_bind (wpC_of_any (wpAny_mono h₁ (fun env s₂ h₂ => wpC_bind (wpC_of_any (any1 (wpAny_enterFrame h₂.1 hroom
    (wpC_pure (And.intro rfl h₂.2)))))) fun _ _ h' => h'))) fun _ _ h' => h'))

theorem codeC_call_def {R : Result → Shared → Prop} {a : Addr} {o : Obj} {fd : FuncData} {body : List Stmt} {args : Args} {binds : List (Str × Value)}
    (hroom : A.depth < recursionLimit) (ho : s.heap.get? a = some o) (hdata : o.data = .func fd) (hlim : s.heap.NoLimit) (hcd : s.heap.CodeRec fd.code fd.qualname)
    (hbody : fd.body = .stmts body) (hbind : BindsTo s fd args binds)
    (hcell : ∀ x ∈ fd.scope.names, x.2 ≠ .cell) (hloc : ∀ x ∈ binds, fd.scope.names.lookup x.1 = some .local)
    (h : ∀ h₀, h₀.Ns s.heap.objs.size (fun x => binds.reverse.lookup x) → (∀ b o, s.heap.get? b = some o → h₀.get? b = some o) →
      wpC (M1 prog w) (A.deeper (callEnv fd s.heap.objs.size a)) (execs body (callEnv fd s.heap.objs.size a)) (fun f s' => R (.ok (.ret (match f with | .ret v => v | _ => .none))) s')
        (fun _ _ => False) { s with heap := h₀, toks := s.toks + binds.length })
    (hco : fd.scope.isCoroutine = false := by rfl) (hgen : fd.scope.isGenerator = false := by rfl) (hk : fd.scope.kind = .function := by rfl) :
    codeC (M1 prog w) A (.call (.ref a) args) R s := by
  refine codeC_call_function hroom ho hdata hco hgen hbody hcd (hbind _ _ _ _ ?_)
  refine any1 (wpAny_newFunctionEnv hcell hloc (fun h₀ hns₀ hsb₀ => ⟨hlim.fresh _ hsb₀, codeC_func (h h₀ hns₀ fun b o e => ?_)⟩) hk)
  exact hsb₀.extBut b o (Nat.ne_of_lt (Heap.lt_size e)) (Heap.get?_push_of_some _ e)
end
end Mine
end
section
open PySem
set_option maxRecDepth 100000
set_option maxHeartbeats 2000000
namespace Mine
abbrev noE : Value → Shared → Prop := fun _ _ => False
section
variable {prog : Program} {w : World} {A : Around} {E : Value → Shared → Prop} {s : Shared} {env : Env}

theorem codeC_block_nil {R : Result → Shared → Prop} (h : R (.ok .next) s) : codeC (M1 prog w) A (.block [] env) R s := by
  refine codeC_of_tree rfl ?_
  rw [M1_den, den1_off rfl]
  show wpC _ _ (do return Fin.done (← (execs [] env).onRaise (fun x => do noteFrame x env; theTreesLotGoes x))) _ _ s
  exact wpC_bind (wpC_onRaise (wpC_execs_nil (wpC_pure h)))

theorem wpC_runOwn {c : Code} {Q : Flow → Shared → Prop} (hc : codeC (M1 prog w) A c (fun r s' => match r with | .ok f => Q f s' | .error _ => False) s) : wpC (M1 prog w) A (runOwn c env) Q E s := by
  unfold runOwn
  refine wpC_onRaise (wpC_run (codeC_mono hc fun r s' h => ?_))
  cases r with
  | ok f => exact h
  | error e => exact h.elim

theorem wpC_For {target iter body orelse pos} {Q : Flow → Shared → Prop}
    (h : wpC (M1 prog w) A (eval iter env) (fun x s₁ => wpC (M1 prog w) A (pyIter x) (fun it s₂ =>
      codeC (M1 prog w) A (.forLoop target it body orelse env) (fun r s' => match r with | .ok f => Q f s' | .error _ => False) s₂) E s₁) E s)
    (hs : ∀ x, foldedSetIterable iter env x = pure x := by intro _; rfl) :
    wpC (M1 prog w) A (exec (.For target iter body orelse pos) env) Q E s := by
  rw [exec_For]
  exact wpC_bind (wpC_standAt (wpC_bind (wpC_mono h (fun x s₁ h₁ => wpC_bind (wpC_of_any (wpAny_of_eq (hs x) (wpC_bind (wpC_standAt (wpC_bind (wpC_holding
    (wpC_mono h₁ (fun it s₂ h₂ => wpC_runOwn h₂) fun _ _ h' => h')))))))) fun _ _ h' => h')))

theorem codeC_forLoop {R : Result → Shared → Prop} {target it body} (I : Nat → Shared → Prop)
    (turn : ∀ n s, I n s → wpC (M1 prog w) A (pyNext it) (fun r s₁ => match r with
      | none => R (.ok .next) s₁
      | some v => wpC (M1 prog w) A (letOwnedTupleGo target it v) (fun _ s₂ => wpC (M1 prog w) A (assign target env v) (fun _ s₂ => wpC (M1 prog w) A (execs body env) (fun f s₃ => match f with
          | .next | .cont => ∃ m, m < n ∧ I m s₃
          | .brk => R (.ok .next) s₃
          | .ret v => R (.ok (.ret v)) s₃) noE s₂) noE s₂) noE s₁) noE s)
    (n : Nat) (h : I n s) : codeC (M1 prog w) A (.forLoop target it body [] env) R s := by
  refine codeC_loop rfl rfl I (fun n s hI => ?_) n h
  rw [M1_den, den1_off rfl]
  show wpC _ _ ((forTurn target it body [] env).onRaise (fun x => do noteFrame x env; theTreesLotGoes x)) _ _ s
  refine wpC_onRaise ?_
  rw [show A.under (.forLoop target it body [] env) = A from Around.under_of_weight rfl]
  simp only [forTurn]
  refine wpC_bind (wpC_standAt (wpC_bind (wpC_onRaise (wpC_mono (turn n s hI) (fun r s₁ h₁ => ?_) fun _ _ h' => h'.elim))))
  cases r with
  | none => exact wpC_pure (.inr ⟨rfl, codeC_block_nil h₁⟩)
  | some v =>
    refine wpC_bind (wpC_mono h₁ (fun _ s₂ h₂ => ?_) fun _ _ h' => h'.elim)
    refine wpC_bind (wpC_mono h₂ (fun _ s₂ h₂ => wpC_bind (wpC_mono h₂ (fun f s₃ h₃ => ?_) fun _ _ h' => h'.elim)) fun _ _ h' => h'.elim)
    cases f with
    | next => exact wpC_pure (.inl ⟨rfl, h₃⟩)
    | cont => exact wpC_pure (.inl ⟨rfl, h₃⟩)
    | brk => exact wpC_pure h₃
    | ret v => exact wpC_pure h₃

theorem codeC_whileLoop {R : Result → Shared → Prop} {test body} (I : Nat → Shared → Prop)
    (turn : ∀ n s, I n s → wpC (M1 prog w) A (isTrue test env (eval test env)) (fun b s₁ => if b then
        wpC (M1 prog w) A (execs body env) (fun f s₃ => match f with
          | .next | .cont => ∃ m, m < n ∧ I m s₃
          | .brk => R (.ok .next) s₃
          | .ret v => R (.ok (.ret v)) s₃) noE s₁
        else R (.ok .next) s₁) noE s)
    (n : Nat) (h : I n s) : codeC (M1 prog w) A (.whileLoop test body [] env) R s := by
  refine codeC_loop rfl rfl I (fun n s hI => ?_) n h
  rw [M1_den, den1_off rfl]
  show wpC _ _ ((whileTurn test body [] env).onRaise (fun x => do noteFrame x env; theTreesLotGoes x)) _ _ s
  refine wpC_onRaise ?_
  rw [show A.under (.whileLoop test body [] env) = A from Around.under_of_weight rfl]
  simp only [whileTurn]
  refine wpC_bind (wpC_mono (turn n s hI) (fun b s₁ h₁ => ?_) fun _ _ h' => h'.elim)
  cases b with
  | false => exact wpC_bind (wpC_execs_nil (wpC_pure h₁))
  | true =>
    simp only [if_true] at h₁ ⊢
    refine wpC_bind (wpC_mono h₁ (fun f s₃ h₃ => ?_) fun _ _ h' => h'.elim)
    cases f with
    | next => exact wpC_pure (.inl ⟨rfl, h₃⟩)
    | cont => exact wpC_pure (.inl ⟨rfl, h₃⟩)
    | brk => exact wpC_pure h₃
    | ret v => exact wpC_pure h₃
theorem wpC_While {test body pos} {Q : Flow → Shared → Prop}
    (h : codeC (M1 prog w) A (.whileLoop test body [] env) (fun r s' => match r with | .ok f => Q f s' | .error _ => False) s) :
    wpC (M1 prog w) A (exec (.While test body [] pos) env) Q E s := by
  rw [exec_While]; exact wpC_bind (wpC_standAt (wpC_runOwn h))
end
end Mine
end
section
open PySem
set_option maxRecDepth 100000
set_option maxHeartbeats 2000000
namespace Mine
theorem plain_pat : PlainAttrs "re.Pattern" := ⟨⟨"object.__getattribute__", pat_ga, by decide +kernel⟩, pat_no_getattr⟩
theorem typeCall_enumerate_2 (a b : Value) : checkTypeCall "enumerate" ⟨[a, b], []⟩ = pure () := by kernel_rfl
theorem newCall_enumerate_2 (a b : Value) : checkBuiltinCall "enumerate.__new__" ⟨[.type "enumerate", a, b], []⟩ = pure () := by kernel_rfl
theorem args_object_init_3 (a b c : Value) : argsOk "object.__init__" ⟨[a, b, c], []⟩ := by unfold argsOk; kernel_rfl
section
variable {prog : Program} {w : World} {A : Around} {E : Value → Shared → Prop} {s : Shared} {env : Env}

theorem pyIter_call {it meth : Addr} {Q : Value → Shared → Prop} (hi : s.heap.get? it = some (callObj meth)) (h : Q (.ref it) s) : wpAny (model prog w) A (pyIter (.ref it)) Q E s := by
  have hT : s.TypeIs (.ref it) "callable_iterator" := ⟨_, hi, rfl⟩
  obtain ⟨b, hb, rfl⟩ := entry_call_iter
  refine wpAny_pyIter_slot hT slot_call_iter (wpAny_call_entry slot_call_iter hT hb ?_ (args_call_iter _))
  show wpAny _ _ (ret (.ref it)) _ _ s
  exact wpAny_pure ⟨_, rfl, "callable_iterator", _, hT, slot_call_next.lookup, h⟩

theorem meets_enum (it meth : Addr) (u : Tok) :
    Meets (Builtin.«enumerate.__new__» ⟨[.type "enumerate", .ref it, .int 1 u], []⟩) (fun _ R s => s.heap.get? it = some (callObj meth) ∧
      R (.ok (.ret (.ref s.heap.objs.size))) { s with heap := s.heap.push { cls := .type "enumerate", data := .fields #[.none, .bool false, .ref it, rawInt 1, .none, .none] } }) :=
  .of_wp fun prog w A R s h => by
    obtain ⟨hp, g, d, tk, os⟩ := s; obtain ⟨hl, h⟩ := h
    have hsub := sub_enumerate
    wp_walk
    refine wpAny_stack_any fun st => wpAny_pure ?_
    split
    · rename_i c _ _ _ _ _
      cases (c == Value.type "enumerate")
      · wp_walk using pyIter_call hl
        exact ⟨_, rfl, h⟩
      · wp_walk using pyIter_call hl
        exact ⟨_, rfl, h⟩
    · wp_walk using pyIter_call hl
      exact ⟨_, rfl, h⟩

theorem call_enum {it meth : Addr} {u : Tok} {Q : Value → Shared → Prop} (hi : s.heap.get? it = some (callObj meth))
    (h : Q (.ref s.heap.objs.size) { s with heap := s.heap.push { cls := .type "enumerate", data := .fields #[.none, .bool false, .ref it, rawInt 1, .none, .none] } }) :
    wpAny (model prog w) A (call (.type "enumerate") [.ref it, .int 1 u]) Q E s :=
  callType_new F.called_enumerate (by decide) (typeCall_enumerate_2 _ _) (newCall_enumerate_2 _ _) (fun obj => args_object_init_3 obj _ _) F.entry_enumerate_new
    (meets_enum it meth u) ⟨hi, ⟨_, Heap.get?_push_size _ rfl, rfl⟩, h⟩
end
end Mine
end
section
open PySem
set_option maxRecDepth 100000
set_option maxHeartbeats 2000000
namespace Mine
/-- what the body's names are in its scope -/
structure SplitEnv (env : Env) : Prop where
  fn : env.scope.kind = .function
  source : env.kindOf "source" = some .local
  maxlines : env.kindOf "maxlines" = some .local
  lines : env.kindOf "lines" = some .local
  lineno : env.kindOf "lineno" = some .local
  «match» : env.kindOf "match" = some .local
  enumerate : env.kindOf "enumerate" = some .globalImplicit
  pattern : env.kindOf "_line_pattern" = some .globalImplicit
  stores : (env.scope.kind == .class || (env.scope.kind == .module && env.locals != env.globals)) = false
  plain : interactive env = false

/-- what stands in the heap before the call -/
structure SplitTop (h : Heap) (env : Env) (pat cd : Addr) : Prop where
  glob : ∃ mg, h.Ns env.globals mg ∧ mg "_line_pattern" = some (.ref pat) ∧ mg "enumerate" = none
  blt : ∃ mb, h.Ns env.builtins mb ∧ mb "enumerate" = some (.type "enumerate")
  pat : ∃ src t1 t2, h.get? pat = some (patObj src t1 t2 cd)
  code : h.get? cd = some codeObj
theorem SplitTop.keeps {h h' : Heap} {env : Env} {pat cd : Addr} (t : SplitTop h env pat cd) (k : ∀ b o, h.get? b = some o → h'.get? b = some o) : SplitTop h' env pat cd :=
  ⟨let ⟨mg, a, b⟩ := t.glob; ⟨mg, a.keeps k, b⟩, let ⟨mb, a, b⟩ := t.blt; ⟨mb, a.keeps k, b⟩, let ⟨a, b, c, d⟩ := t.pat; ⟨a, b, c, k _ _ d⟩, k _ _ t.code⟩

section
variable {prog : Program} {w : World} {A : Around} {E : Value → Shared → Prop} {s : Shared} {env : Env}

theorem eval_local {M : Model} {x : Str} {pos : Pos} {m : Str → Option Value} {v : Value} {Q : Value → Shared → Prop} (hk : env.scope.kind = .function) (hl : env.kindOf x = some .local) (hn : s.heap.Ns env.locals m) (hv : m x = some v)
    (h : Q v s) (hd : (x == ("__debug__" : Str)) = false := by decide) : wpAny M A (eval (.Name x pos) env) Q E s := wpAny_Name (wpAny_loadName_local hk hl hn hv h) hd

theorem eval_iter {p1 p2 p3 p4 p5 p6 p7 : Pos} {k : Nat} {m : Str → Option Value} {text : Str} {u : Tok} {pat cd : Addr} {Q : Value → Shared → Prop} (V : SplitEnv env) (T : SplitTop s.heap env pat cd)
    (hn : s.heap.Ns env.locals m) (hsrc : m "source" = some (.str text u)) (hsz : text.length ≤ sizeLine) (hline : (p3.endLine == p5.line) = true)
    (hQ : ∀ tk, Q (.ref (s.heap.objs.size + 3)) { s with heap := (((s.heap.push (scanObj pat text u 0 text.length false)).push (methObj s.heap.objs.size)).push (callObj (s.heap.objs.size + 1))).push { cls := .type "enumerate", data := .fields #[.none, .bool false, .ref (s.heap.objs.size + 2), rawInt 1, .none, .none] }, toks := tk }) :
    wpAny (model prog w) A (eval (.Call (.Name "enumerate" p1) [.Call (.Attribute (.Name "_line_pattern" p2) "finditer" p3) [.Name "source" p4] [] p5, .Constant (.int 1) k p6] [] p7) env) Q E s := by
  obtain ⟨mg, hg, hgp, hge⟩ := T.glob
  obtain ⟨mb, hb, hbe⟩ := T.blt
  obtain ⟨src, t1, t2, hpat⟩ := T.pat
  refine wpAny_Call_Name_kw (Calls.Name_function_global V.fn V.enumerate (Calls.loadGlobal_builtin hg hge hb hbe ?_))
  refine callWith_type rfl (Calls.evalArgs_plain (Calls.spliced_cons ?_))
  refine wpAny_Call_method (T := "re.Pattern") (id := "re.Pattern.finditer") rfl rfl hline plain_pat slot_pat_finditer type_pat_finditer ?_
  refine Calls.Name_function_global V.fn V.pattern (Calls.loadGlobal_global hg hgp ⟨⟨_, hpat, rfl⟩, (fun a e => by cases e; exact ⟨_, hpat, rfl⟩), ?_⟩)
  refine Calls.callWith_builtin rfl (Calls.evalArgs_plain (Calls.spliced_cons ?_))
  refine eval_local V.fn V.source hn hsrc (Calls.spliced_nil ?_)
  refine wpAny_call_entry slot_pat_finditer ⟨_, hpat, rfl⟩ entry_pat_finditer (finditer_body hpat T.code hsz ?_) (args_pat_finditer _ _)
  refine Calls.spliced_cons (wpAny_Constant_int (i := 1) (k := k) (pos := p6) (Calls.spliced_nil ?_))
  have hz : (((s.heap.push (scanObj pat text u 0 text.length false)).push (methObj s.heap.objs.size)).push (callObj (s.heap.objs.size + 1))).objs.size = s.heap.objs.size + 3 := by simp only [Heap.size_push]
  refine call_enum (meth := s.heap.objs.size + 1) (Heap.get?_push_at (by simp only [Heap.size_push]) rfl) ?_
  have := hQ (s.toks + 1 + 1)
  show Q (.ref (((s.heap.push (scanObj pat text u 0 text.length false)).push (methObj s.heap.objs.size)).push (callObj (s.heap.objs.size + 1))).objs.size) _
  rw [hz]
  exact this
end
end Mine
end
section
open PySem
set_option maxRecDepth 100000
set_option maxHeartbeats 2000000
namespace Mine
def LinesAt (h : Heap) (D : Addr) (its : Array Value) : Prop := ∃ n, h.get? D = some { cls := .type "list", data := .seq its n }
/-- the bound as it is handed in -/
def IsMax (mx : Value) (lim : Option Int) : Prop := match lim with
  | none => mx = .none
  | some b => ∃ t, mx = .int b t
/-- the row of number `i` lies beyond the bound -/
def beyond (lim : Option Int) (i : Int) : Bool := match lim with
  | none => false
  | some b => decide (b < i)

section
variable {prog : Program} {w : World} {A : Around} {E : Value → Shared → Prop} {s : Shared} {env : Env}

theorem any_operate {M : Model} {vs : List Value} {m : Sem Value} {Q : Value → Shared → Prop} (h : wpAny M A m Q E s) : wpAny M A (operate vs m) Q E s :=
  fun Γ p hΓ => by rw [Sem.wp_operate]; exact h Γ p hΓ
theorem isNot_none {mx : Value} {lim : Option Int} {Q : Value → Shared → Prop} (hm : IsMax mx lim) (h : Q (.bool lim.isSome) s) : wpAny (model prog w) A (compareOp .IsNot mx .none) Q E s := by
  cases lim with
  | none => cases (hm : mx = .none); exact wpAny_bind (wpAny_pure (wpAny_pure h))
  | some b => obtain ⟨t, e⟩ := hm; cases e; exact wpAny_bind (wpAny_pure (wpAny_pure h))

theorem test_max {p1 p2 p3 p4 p5 p6 p7 : Pos} {k : Nat} {m : Str → Option Value} {mx : Value} {lim : Option Int} {i : Int} {t : Tok} {whole : Sem Value} {Q : Bool → Shared → Prop} (V : SplitEnv env)
    (hn : s.heap.Ns env.locals m) (hmx : m "maxlines" = some mx) (hm : IsMax mx lim) (hi : m "lineno" = some (.int i t))
    (h : Q (beyond lim i) s) : wpAny (model prog w) A (isTrue (.BoolOp .And [.Compare (.Name "maxlines" p1) [.IsNot] [.Constant .none k p2] p3, .Compare (.Name "lineno" p4) [.Gt] [.Name "maxlines" p5] p6] p7) env whole) Q E s := by
  rw [arm_isTrue_BoolOp, arm_allTrue_cons]
  refine wpAny_bind (wpAny_isTrue_Compare1 (eval_local V.fn V.maxlines hn hmx ?_))
  show wpAny _ _ (eval (.Constant .none k p2) env) _ _ _
  rw [eval_Constant]
  show wpAny _ _ (pure Value.none) _ _ _
  refine wpAny_pure (isNot_none hm (wpAny_truthy_bool ?_))
  cases lim with
  | none => exact wpAny_pure h
  | some b =>
    obtain ⟨tb, e⟩ := hm; cases e
    show wpAny _ _ (allTrue .And _ env) _ _ _
    rw [arm_allTrue_cons]
    refine wpAny_bind (wpAny_isTrue_Compare1 (eval_local V.fn V.lineno hn hi (eval_local V.fn V.maxlines hn hmx (PyProof.Rows.gt_int (wpAny_truthy_bool ?_)))))
    have e : beyond (some b) i = decide (b < i) := rfl
    rw [e] at h
    cases hd : decide (b < i) with
    | false => rw [hd] at h; exact wpAny_pure h
    | true => rw [hd] at h; exact wpAny_pure h

theorem eval_match0 {p1 p2 p3 : Pos} {k : Nat} {m : Str → Option Value} {mt sp pat : Addr} {text : Str} {u : Tok} {b e lim : Nat} {Q : Value → Shared → Prop} (V : SplitEnv env)
    (hn : s.heap.Ns env.locals m) (hmt : m "match" = some (.ref mt)) (hm : s.heap.get? mt = some (matchObj text u pat lim sp)) (hs : s.heap.get? sp = some (spanObj b e)) (hsz : text.length ≤ sizeLine)
    (h : Q (.str ⟨text.cps.extract b e⟩ (s.toks + 1)) { s with toks := s.toks + 1 + 1 }) : wpAny (model prog w) A (eval (.Subscript (.Name "match" p1) (.Constant (.int 0) k p2) p3) env) Q E s := by
  rw [arm_eval_Subscript]
  refine wpAny_bind (eval_local V.fn V.match hn hmt (wpAny_bind (wpAny_holding (wpAny_Constant_int (wpAny_bind (wpAny_standAt ?_))))))
  have hT : ∀ tk, Shared.TypeIs { s with toks := tk } (.ref mt) "re.Match" := fun tk => ⟨_, hm, rfl⟩
  refine wpAny_bind (m := getitemInPython (.ref mt)) ?_
  unfold getitemInPython
  refine wpAny_bind (wpAny_specialOf (hT _) slot_match_getitem.lookup (wpAny_pure ?_))
  refine wpAny_bind (m := subscripted (.Constant (.int 0) k p2) false (.ref mt) (.int 0 s.toks)) ?_
  show wpAny _ _ (operate [.ref mt, .int 0 s.toks] (getItem (.ref mt) (.int 0 s.toks))) _ _ _
  refine any_operate ?_
  show wpAny _ _ (getItem (.ref mt) (.int 0 s.toks)) _ _ _
  unfold getItem
  refine wpAny_holding (wpAny_bind (m := sequenceKey _ _ _) ?_)
  unfold sequenceKey
  refine wpAny_bind (wpAny_typeOf (hT _) ?_)
  show wpAny _ _ (pure (Value.int 0 s.toks)) _ _ _
  refine wpAny_pure (wpAny_bind (wpAny_callSpecial?_slot (hT _) slot_match_getitem (wpAny_call_entry slot_match_getitem (hT _) entry_match_getitem (match_item hm hs hsz ?_) (args_match_getitem _ _))))
  exact wpAny_pure (wpAny_bind (wpAny_pure (wpAny_pure h)))

theorem plain_list : PlainAttrs "list" := by first | exact F.plainAttrs_list | exact ⟨⟨"list.__getattribute__", by rw [typeLookup_type, builtinLookup_eq_fast]; kernel_rfl, by decide +kernel⟩, by rw [typeLookup_type, builtinLookup_eq_fast]; kernel_rfl⟩

theorem append_at {D : Addr} {its : Array Value} {x : Value} {Q : Value → Shared → Prop} (hl : LinesAt s.heap D its) (hsz : its.size ≤ sizeLine)
    (h : ∀ h', LinesAt h' D (its.push x) → Heap.SameBut D s.heap h' → Q .none { s with heap := h' }) : wpAny (model prog w) A (call (.builtin "list.append") [.ref D, x]) Q E s := by
  obtain ⟨n, hl⟩ := hl
  refine call_meets slot_list_append ⟨_, hl, rfl⟩ entry_list_append (args_list_append _ _) (AutoListH.list_append_list_val_0 D its n x hsz) ⟨hl, ?_⟩
  refine h _ ⟨n + 1, ?_⟩ (Heap.SameBut.update ..)
  rw [Heap.get?_update_self _ hl rfl]
  simp [Obj.mapSeq]

theorem exec_append {p1 p2 p3 p4 p5 p6 p7 : Pos} {k : Nat} {m : Str → Option Value} {mt sp pat D : Addr} {text : Str} {u : Tok} {b e lim : Nat} {its : Array Value} {Q : Flow → Shared → Prop} (V : SplitEnv env)
    (hn : s.heap.Ns env.locals m) (hmt : m "match" = some (.ref mt)) (hm : s.heap.get? mt = some (matchObj text u pat lim sp)) (hs : s.heap.get? sp = some (spanObj b e)) (hsz : text.length ≤ sizeLine)
    (hD : m "lines" = some (.ref D)) (hl : LinesAt s.heap D its) (hits : its.size ≤ sizeLine) (hline : (p2.endLine == p6.line) = true)
    (hsw : swapsWith (.Call (.Attribute (.Name "lines" p1) "append" p2) [.Subscript (.Name "match" p3) (.Constant (.int 0) k p4) p5] [] p6) none p7.line env = pure false)
    (h : ∀ h' tk tk', LinesAt h' D (its.push (.str ⟨text.cps.extract b e⟩ tk)) → Heap.SameBut D s.heap h' → Q .next { s with heap := h', toks := tk' }) :
    wpAny (model prog w) A (exec (.Expr (.Call (.Attribute (.Name "lines" p1) "append" p2) [.Subscript (.Name "match" p3) (.Constant (.int 0) k p4) p5] [] p6) p7) env) Q E s := by
  refine wpAny_Expr ?_ V.plain hsw
  obtain ⟨n, hl'⟩ := id hl
  refine wpAny_Call_method (T := "list") (id := "list.append") rfl rfl hline plain_list slot_list_append type_list_append ?_
  refine eval_local V.fn V.lines hn hD ⟨⟨_, hl', rfl⟩, (fun a e => by cases e; exact ⟨_, hl', rfl⟩), ?_⟩
  refine Calls.callWith_builtin rfl (Calls.evalArgs_plain (Calls.spliced_cons ?_))
  refine eval_match0 V hn hmt hm hs hsz (Calls.spliced_nil ?_)
  exact append_at hl hits fun h' a b => h h' _ _ a b

theorem turn_body {q1 q2 q3 q4 q5 q6 q7 q8 q9 p1 p2 p3 p4 p5 p6 p7 : Pos} {k k' : Nat} {m : Str → Option Value} {mx : Value} {lm : Option Int} {i : Int} {t : Tok} {mt sp pat D : Addr} {text : Str} {u : Tok} {b e lim : Nat} {its : Array Value} {Q : Flow → Shared → Prop} (V : SplitEnv env)
    (hn : s.heap.Ns env.locals m) (hmx : m "maxlines" = some mx) (hmax : IsMax mx lm) (hi : m "lineno" = some (.int i t))
    (hmt : m "match" = some (.ref mt)) (hm : s.heap.get? mt = some (matchObj text u pat lim sp)) (hs : s.heap.get? sp = some (spanObj b e)) (hsz : text.length ≤ sizeLine)
    (hD : m "lines" = some (.ref D)) (hl : LinesAt s.heap D its) (hits : its.size ≤ sizeLine) (hline : (p2.endLine == p6.line) = true)
    (hsw : swapsWith (.Call (.Attribute (.Name "lines" p1) "append" p2) [.Subscript (.Name "match" p3) (.Constant (.int 0) k p4) p5] [] p6) none p7.line env = pure false)
    (hb : beyond lm i = true → Q .brk s)
    (h : beyond lm i = false → ∀ h' tk tk', LinesAt h' D (its.push (.str ⟨text.cps.extract b e⟩ tk)) → Heap.SameBut D s.heap h' → Q .next { s with heap := h', toks := tk' }) :
    wpAny (model prog w) A (execs [.If (.BoolOp .And [.Compare (.Name "maxlines" q1) [.IsNot] [.Constant .none k' q2] q3, .Compare (.Name "lineno" q4) [.Gt] [.Name "maxlines" q5] q6] q7) [.Break q8] [] q9,
      .Expr (.Call (.Attribute (.Name "lines" p1) "append" p2) [.Subscript (.Name "match" p3) (.Constant (.int 0) k p4) p5] [] p6) p7] env) Q E s := by
  refine wpAny_execs_cons (wpAny_If (test_max V hn hmx hmax hi ?_))
  cases hby : beyond lm i with
  | true =>
    simp only [if_true]
    refine wpAny_execs_cons ?_
    show wpAny _ _ (exec (.Break q8) env) _ _ _
    exact wpAny_bind (wpAny_standAt (wpAny_pure (hb hby)))
  | false =>
    simp only [Bool.false_eq_true, if_false]
    exact wpAny_execs_nil (wpAny_execs_cons (exec_append V hn hmt hm hs hsz hD hl hits hline hsw fun h' tk tk' a c => wpAny_execs_nil (h hby h' tk tk' a c)))
end
end Mine
end
section
open PySem PyProof.Rows
set_option maxRecDepth 100000
set_option maxHeartbeats 2000000
namespace Mine

/-- the rows of a text from `p` on, and the empty one at its end -/
def rowsFrom (T : Array Nat) (p : Nat) : List Str :=
  if h : p < T.size then ⟨T.extract p (rowEnd T p)⟩ :: rowsFrom T (rowEnd T p) else [⟨#[]⟩]
  termination_by T.size - p
  decreasing_by
    have := rowEnd_gt T p h
    omega
theorem rowsFrom_lt {T : Array Nat} {p : Nat} (h : p < T.size) : rowsFrom T p = ⟨T.extract p (rowEnd T p)⟩ :: rowsFrom T (rowEnd T p) := by
  rw [rowsFrom, dif_pos h]
theorem rowsFrom_end (T : Array Nat) : rowsFrom T T.size = [⟨#[]⟩] := by rw [rowsFrom, dif_neg (Nat.lt_irrefl _)]

/-- what the function hands back under a bound -/
def rowsUpTo (T : Array Nat) : Option Int → List Str
  | none => rowsFrom T 0
  | some b => (rowsFrom T 0).take b.toNat

/-- what the loop's objects are, apart from the frame's names -/
structure Live (h : Heap) (base : Heap) (text : Str) (u : Tok) (D en it meth scan pat cd : Nat) (p : Nat) (must : Bool) (done : List Str) : Prop where
  rows : Rows h it meth scan pat cd text u p must
  lines : ∃ its, LinesAt h D its ∧ StrsAre its.toList done
  keep : ∀ b o, base.get? b = some o → h.get? b = some o

theorem Live.keeps {h h' base : Heap} {text : Str} {u : Tok} {D en it meth scan pat cd p : Nat} {must : Bool} {done : List Str} {X : Nat} (l : Live h base text u D en it meth scan pat cd p must done)
    (k : ∀ b o, b ≠ X → h.get? b = some o → h'.get? b = some o) (hx : base.get? X = none) (h1 : it ≠ X) (h2 : meth ≠ X) (h3 : scan ≠ X) (h4 : D ≠ X) (h5 : pat ≠ X) (h6 : cd ≠ X) : Live h' base text u D en it meth scan pat cd p must done := by
  refine ⟨⟨k _ _ h1 l.rows.it, k _ _ h2 l.rows.meth, k _ _ h3 l.rows.scan, ?_, k _ _ h6 l.rows.code⟩, ?_, fun b o e => k b o (fun hb => by rw [hb, hx] at e; cases e) (l.keep b o e)⟩
  · obtain ⟨a, b, c, e⟩ := l.rows.pat; exact ⟨a, b, c, k _ _ h5 e⟩
  · obtain ⟨its, ⟨n, e⟩, hs⟩ := l.lines; exact ⟨its, ⟨n, k _ _ h4 e⟩, hs⟩

section
variable {prog : Program} {w : World} {A : Around} {E : Value → Shared → Prop} {s : Shared} {env : Env}

theorem own_go {M : Model} {e it tup : Addr} {i : Int} {x : Value} {elts : List Expr} {k : Nat} {pos : Pos} {Q : Unit → Shared → Prop} (he : IsEnumOut s.heap e it i x tup)
    (hQ : ∀ h', IsEnum h' e it i x → Heap.SameBut e s.heap h' → Q () { s with heap := h' }) : wpAny M A (letOwnedTupleGo (.Tuple elts k pos) (.ref e) (.ref tup)) Q E s := by
  show wpAny _ _ (load e >>= _) _ _ _
  refine wpAny_bind (wpAny_load he ?_)
  dsimp only
  rw [if_pos (by simp [rawInt])]
  refine wpAny_bind (wpAny_rule ?_)
  unfold updateField
  refine wpAny_bind (wpAny_load he ?_)
  dsimp only
  rw [if_pos (by simp)]
  exact wpAny_update he (hQ _ (Heap.get?_update_self _ he rfl) (Heap.SameBut.update ..))

theorem assign_pair {p1 p2 p3 : Pos} {k : Nat} {m : Str → Option Value} {tup : Addr} {a b : Value} {Q : Unit → Shared → Prop} (V : SplitEnv env) (hh : A.handled = none)
    (hn : s.heap.Ns env.locals m) (ht : s.heap.get? tup = some { cls := .type "tuple", data := .seq #[a, b] })
    (hQ : ∀ h' tk, h'.Ns env.locals (fun x => if x = ("match" : Str) then some b else if x = ("lineno" : Str) then some a else m x) → (∀ x o, x ≠ env.locals → s.heap.get? x = some o → h'.get? x = some o) → Q () { s with heap := h', toks := tk }) :
    wpAny (model prog w) A (assign (.Tuple [.Name "lineno" p1, .Name "match" p2] k p3) env (.ref tup)) Q E s := by
  refine wpAny_assign_Tuple (items := #[a, b]) hh ⟨_, ht, rfl, 0, rfl⟩ rfl rfl fun h₁ ext => ?_
  have hlt : env.locals ≠ s.heap.objs.size := Nat.ne_of_lt hn.lt
  have k₁ : ∀ x o, s.heap.get? x = some o → h₁.get? x = some o := fun x o e => ext x o (Nat.ne_of_lt (Heap.lt_size e)) e
  show wpAny _ _ (assignInOrder [assign (.Name "lineno" p1) env, assign (.Name "match" p2) env] [a, b]) _ _ _
  refine wpAny_assignInOrder_more (wpAny_assign_Name (wpAny_storeName_local V.lineno (hn.keeps k₁) (fun h₂ n₂ s₂ => ?_) V.stores))
  refine wpAny_assignInOrder_more (wpAny_assign_Name (wpAny_storeName_local V.match n₂ (fun h₃ n₃ s₃ => ?_) V.stores))
  refine wpAny_assignInOrder_none (hQ h₃ _ n₃ fun x o hx e => ?_)
  exact (s₃.2 x hx).trans ((s₂.2 x hx).trans (k₁ x o e))
end
end Mine
end
section
open PySem PyProof.Rows
set_option maxRecDepth 100000
set_option maxHeartbeats 2000000
namespace Mine

/-- the plain part of the loop's invariant -/
structure Plain (T : Array Nat) (lim : Option Int) (p : Nat) (must : Bool) (done : List Str) : Prop where
  le : p ≤ T.size
  atEnd : must = true → p = T.size
  all : done ++ (if must then [] else rowsFrom T p) = rowsFrom T 0
  bound : ∀ b, lim = some b → done = [] ∨ (done.length : Int) ≤ b

theorem Plain.start (T : Array Nat) (lim : Option Int) : Plain T lim 0 false [] :=
  ⟨Nat.zero_le _, (fun h => by cases h), rfl, fun _ _ => .inl rfl⟩
theorem Plain.next {T : Array Nat} {lim : Option Int} {p : Nat} {done : List Str} (P : Plain T lim p false done) (hb : beyond lim (1 + (done.length : Int)) = false) :
    Plain T lim (rowEnd T p) (rowEnd T p == p) (done ++ [⟨T.extract p (rowEnd T p)⟩]) := by
  have hall := P.all
  simp only [Bool.false_eq_true, if_false] at hall
  have hbd : ∀ b, lim = some b → done ++ [(⟨T.extract p (rowEnd T p)⟩ : Str)] = [] ∨ (((done ++ [(⟨T.extract p (rowEnd T p)⟩ : Str)]).length : Nat) : Int) ≤ b := fun b hl => by
    subst hl
    right
    have h : ¬ b < 1 + (done.length : Int) := of_decide_eq_false hb
    simp only [List.length_append, List.length_cons, List.length_nil]
    omega
  rcases Nat.lt_or_ge p T.size with h | h
  · have hne : (rowEnd T p == p) = false := by
      have := rowEnd_gt T p h
      simp; omega
    refine ⟨rowEnd_le T p P.le, (fun h => by rw [hne] at h; cases h), ?_, hbd⟩
    rw [hne]
    simp only [Bool.false_eq_true, if_false]
    rw [← hall, rowsFrom_lt h]
    simp
  · have hp : p = T.size := Nat.le_antisymm P.le h
    subst hp
    refine ⟨by rw [rowEnd_end]; exact Nat.le_refl _, (fun _ => rowEnd_end T), ?_, hbd⟩
    rw [rowEnd_end]
    simp only [beq_self_eq_true, if_true, List.append_nil]
    rw [← hall, rowsFrom_end]
    simp
theorem Plain.over {T : Array Nat} {lim : Option Int} {p : Nat} {must : Bool} {done : List Str} (P : Plain T lim p must done) (hb : beyond lim (1 + (done.length : Int)) = true) : done = rowsUpTo T lim := by
  cases lim with
  | none => cases hb
  | some b =>
    have h : b < 1 + (done.length : Int) := of_decide_eq_true hb
    have hlen : done.length = b.toNat := by
      rcases P.bound b rfl with e | e
      · subst e; simp only [List.length_nil] at h ⊢; omega
      · omega
    show done = (rowsFrom T 0).take b.toNat
    rw [← P.all, ← hlen]
    simp
theorem Plain.ended {T : Array Nat} {lim : Option Int} {p : Nat} {done : List Str} (P : Plain T lim p true done) : done = rowsUpTo T lim := by
  have hall := P.all
  simp only [if_true, List.append_nil] at hall
  cases lim with
  | none => exact hall
  | some b =>
    show done = (rowsFrom T 0).take b.toNat
    rcases P.bound b rfl with e | e
    · rw [← hall, e]; simp
    · rw [← hall, List.take_of_length_le (by omega)]

theorem rowsFrom_length (T : Array Nat) (p : Nat) (h : p ≤ T.size) : (rowsFrom T p).length ≤ T.size - p + 1 := by
  unfold rowsFrom
  split
  · rename_i hp
    have h1 := rowEnd_gt T p hp
    have h2 := rowEnd_le T p h
    have h3 := rowsFrom_length T (rowEnd T p) h2
    simp only [List.length_cons]
    omega
  · simp
  termination_by T.size - p
theorem Plain.short {T : Array Nat} {lim : Option Int} {p : Nat} {must : Bool} {done : List Str} (P : Plain T lim p must done) : done.length ≤ T.size + 1 := by
  have h := congrArg List.length P.all
  have h2 := rowsFrom_length T 0 (Nat.zero_le _)
  rw [List.length_append] at h
  omega
theorem strs_snoc : ∀ {vs : List Value} {xs : List Str} (y : Str) (t : Tok), StrsAre vs xs → StrsAre (vs ++ [.str y t]) (xs ++ [y])
  | _, _, y, t, .nil => .cons y t .nil
  | _, _, y, t, .cons a b r => .cons a b (strs_snoc y t r)

section
variable {prog : Program} {w : World} {A : Around} {s : Shared} {env : Env}

/-- the loop's state -/
def LoopAt (env : Env) (s₀ : Shared) (text : Str) (u : Tok) (mx : Value) (lim : Option Int) (D en it meth scan pat cd : Nat) (n : Nat) (s : Shared) : Prop :=
  ∃ m p must done old, s.heap.Ns env.locals m ∧ m "maxlines" = some mx ∧ m "lines" = some (.ref D) ∧ IsEnum s.heap en it (1 + (done.length : Int)) old ∧
    Live s.heap s₀.heap text u D en it meth scan pat cd p must done ∧ Plain text.cps lim p must done ∧ n = 2 * (text.cps.size - p) + (if must then 0 else 1) ∧ (∃ h tk, s = { s₀ with heap := h, toks := tk })

theorem loop_code {q1 q2 q3 q4 q5 q6 q7 q8 q9 p1 p2 p3 p4 p5 p6 p7 a1 a2 a3 : Pos} {k k' k'' : Nat} {s₀ : Shared} {text : Str} {u : Tok} {mx : Value} {lim : Option Int} {L D en it meth scan pat cd : Nat} {R : Result → Shared → Prop}
    (V : SplitEnv env) (hL : env.locals = L) (hh : A.handled = none) (hu : A.units + 40 < cLine) (hmax : IsMax mx lim) (hsz : text.length + 100 ≤ sizeLine)
    (hline : (p2.endLine == p6.line) = true)
    (hsw : swapsWith (.Call (.Attribute (.Name "lines" p1) "append" p2) [.Subscript (.Name "match" p3) (.Constant (.int 0) k p4) p5] [] p6) none p7.line env = pure false)
    (c0 : s₀.heap.objs.size ≤ L) (c1 : L < D) (c2 : D < scan) (c3 : meth = scan + 1) (c4 : it = scan + 2) (c5 : en = scan + 3) (c6 : pat < L) (c7 : cd < L)
    (hR : ∀ h' tk, (∃ its, LinesAt h' D its ∧ StrsAre its.toList (rowsUpTo text.cps lim)) → (∃ m, h'.Ns env.locals m ∧ m "lines" = some (.ref D)) → (∀ b o, s₀.heap.get? b = some o → h'.get? b = some o) → R (.ok .next) { s₀ with heap := h', toks := tk })
    (n : Nat) (h : LoopAt env s₀ text u mx lim D en it meth scan pat cd n s) :
    codeC (M1 prog w) A (.forLoop (.Tuple [.Name "lineno" a1, .Name "match" a2] k'' a3) (.ref en) [.If (.BoolOp .And [.Compare (.Name "maxlines" q1) [.IsNot] [.Constant .none k' q2] q3, .Compare (.Name "lineno" q4) [.Gt] [.Name "maxlines" q5] q6] q7) [.Break q8] [] q9,
      .Expr (.Call (.Attribute (.Name "lines" p1) "append" p2) [.Subscript (.Name "match" p3) (.Constant (.int 0) k p4) p5] [] p6) p7] [] env) R s := by
  have fresh : ∀ X : Nat, L ≤ X → s₀.heap.get? X = none := fun X hX => by
    cases e : s₀.heap.get? X with
    | none => rfl
    | some o => exact absurd (Heap.lt_size e) (Nat.not_lt.mpr (Nat.le_trans c0 hX))
  have n1 : D ≠ it := by omega
  have n2 : D ≠ scan := by omega
  have n3 : L ≠ it := by omega
  have n4 : L ≠ scan := by omega
  have n5 : L ≠ en := by omega
  have n6 : L ≠ D := by omega
  have n7 : D ≠ en := by omega
  have n8 : it ≠ en := by omega
  have n9 : meth ≠ en := by omega
  have n10 : scan ≠ en := by omega
  have n11 : pat ≠ en := by omega
  have n12 : cd ≠ en := by omega
  have n13 : it ≠ L := by omega
  have n14 : meth ≠ L := by omega
  have n15 : scan ≠ L := by omega
  have n16 : D ≠ L := by omega
  have n17 : pat ≠ L := by omega
  have n18 : cd ≠ L := by omega
  have n19 : en ≠ L := by omega
  have n20 : it ≠ D := by omega
  have n21 : meth ≠ D := by omega
  have n22 : scan ≠ D := by omega
  have n23 : pat ≠ D := by omega
  have n24 : cd ≠ D := by omega
  have n25 : en ≠ D := by omega
  have n26 : it ≠ scan := by omega
  have n27 : meth ≠ scan := by omega
  have n28 : pat ≠ scan := by omega
  have n29 : cd ≠ scan := by omega
  have f1 := fresh it (by omega)
  have f2 := fresh scan (by omega)
  have f3 := fresh en (by omega)
  have f4 := fresh L (by omega)
  have f5 := fresh D (by omega)
  refine codeC_forLoop (LoopAt env s₀ text u mx lim D en it meth scan pat cd) (fun n s hI => ?_) n h
  obtain ⟨m, p, must, done, old, hn, hmx, hD, hen, hlive, hP, hnn, hs0⟩ := hI
  rw [hL] at hn
  cases must with
  | true =>
    have hp := hP.atEnd rfl
    subst hp
    refine pyNext_end hh hen hlive.rows fun h' k => ?_
    obtain ⟨hx, tkx, rfl⟩ := hs0
    refine hR h' _ ?_ ⟨m, ?_, hD⟩ fun b o e => ?_
    · obtain ⟨its, ⟨n, hl⟩, hst⟩ := hlive.lines
      exact ⟨its, ⟨n, k _ _ n1 n2 hl⟩, hP.ended ▸ hst⟩
    · rw [hL]
      obtain ⟨o, es, ep, ho, r⟩ := hn
      exact ⟨o, es, ep, k _ _ n3 n4 ho, r⟩
    · have e' := hlive.keep b o e
      exact k b o (fun q => by rw [q, f1] at e; cases e) (fun q => by rw [q, f2] at e; cases e) e'
  | false =>
    have hsz' : text.length ≤ sizeLine := by omega
    refine pyNext_item hen hlive.rows hP.le hsz' (by omega) fun h₁ he₁ ht₁ hm₁ hs₁ hsc₁ k₁ => ?_
    refine wpC_of_any (own_go he₁ fun h₂ he₂ sb₂ => ?_)
    have hLn : L < s.heap.objs.size := hn.lt
    have hel : en < s.heap.objs.size := Heap.lt_size hen
    have ne2 : s.heap.objs.size + 2 ≠ en := Nat.ne_of_gt (Nat.lt_of_lt_of_le hel (Nat.le_add_right _ _))
    have ne1 : s.heap.objs.size + 1 ≠ en := Nat.ne_of_gt (Nat.lt_of_lt_of_le hel (Nat.le_add_right _ _))
    have ne0 : s.heap.objs.size ≠ en := Nat.ne_of_gt hel
    have nl1 : s.heap.objs.size + 1 ≠ L := Nat.ne_of_gt (Nat.lt_of_lt_of_le hLn (Nat.le_add_right _ _))
    have nl0 : s.heap.objs.size ≠ L := Nat.ne_of_gt hLn
    have k₂ : ∀ b o, b ≠ en → b ≠ scan → s.heap.get? b = some o → h₂.get? b = some o := fun b o x y e => (sb₂.2 b x).trans (k₁ b o x y e)
    have hn₂ : h₂.Ns env.locals m := by
      rw [hL]
      obtain ⟨o, es, ep, ho, r⟩ := hn
      exact ⟨o, es, ep, k₂ _ _ n5 n4 ho, r⟩
    refine wpC_of_any (any1 (assign_pair V hh hn₂ ((sb₂.2 _ ne2).trans ht₁) fun h₃ tk₃ hn₃ k₃ => ?_))
    rw [hL] at k₃
    have k₃' : ∀ b o, b ≠ en → b ≠ scan → b ≠ L → s.heap.get? b = some o → h₃.get? b = some o := fun b o x y z e => k₃ b o z (k₂ b o x y e)
    have hlive₃ : Live h₃ s₀.heap text u D en it meth scan pat cd (rowEnd text.cps p) (rowEnd text.cps p == p) done := by
      refine ⟨⟨k₃' _ _ n8 n26 n13 hlive.rows.it, k₃' _ _ n9 n27 n14 hlive.rows.meth, k₃ _ _ n15 ((sb₂.2 _ n10).trans hsc₁), ?_, k₃' _ _ n12 n29 n18 hlive.rows.code⟩, ?_, fun b o e => ?_⟩
      · obtain ⟨a, b, c, e⟩ := hlive.rows.pat; exact ⟨a, b, c, k₃' _ _ n11 n28 n17 e⟩
      · obtain ⟨its, ⟨n, e⟩, hs⟩ := hlive.lines; exact ⟨its, ⟨n, k₃' _ _ n7 n2 n16 e⟩, hs⟩
      · exact k₃' b o (fun q => by rw [q, f3] at e; cases e) (fun q => by rw [q, f2] at e; cases e) (fun q => by rw [q, f4] at e; cases e) (hlive.keep b o e)
    have he₃ : IsEnum h₃ en it (1 + (done.length : Int) + 1) (.ref (s.heap.objs.size + 1)) := k₃ _ _ n19 he₂
    obtain ⟨its, hl₃, hst⟩ := hlive₃.lines
    have hits : its.size ≤ sizeLine := by
      have h1 : its.size = done.length := by have := hst.length; simpa using this
      have h2 := hP.short
      have h3 : text.cps.size = text.length := rfl
      omega
    obtain ⟨hx, tkx, rfl⟩ := hs0
    have hmx₃ : (if ("maxlines" : Str) = ("match" : Str) then some (Value.ref (hx.objs.size + 1)) else if ("maxlines" : Str) = ("lineno" : Str) then some (Value.int (1 + (done.length : Int)) tkx) else m "maxlines") = some mx := by
      rw [if_neg (by decide), if_neg (by decide)]; exact hmx
    have hD₃ : (if ("lines" : Str) = ("match" : Str) then some (Value.ref (hx.objs.size + 1)) else if ("lines" : Str) = ("lineno" : Str) then some (Value.int (1 + (done.length : Int)) tkx) else m "lines") = some (.ref D) := by
      rw [if_neg (by decide), if_neg (by decide)]; exact hD
    refine wpC_of_any (any1 (turn_body (i := 1 + (done.length : Int)) V hn₃ hmx₃ hmax (by rfl) (by rfl) (k₃ _ _ nl1 ((sb₂.2 _ ne1).trans hm₁)) (k₃ _ _ nl0 ((sb₂.2 _ ne0).trans hs₁)) hsz' hD₃ hl₃ hits hline hsw (fun hb => ?_) fun hb h₄ tk₄ tk₄' hl₄ sb₄ => ?_))
    · exact hR h₃ tk₃ ⟨its, hl₃, hP.over hb ▸ hst⟩ ⟨_, hn₃, hD₃⟩ hlive₃.keep
    · have hn₄ : h₄.Ns env.locals _ := hn₃.sameBut sb₄ (by rw [hL]; exact n6)
      have hlen : ((done ++ [(⟨text.cps.extract p (rowEnd text.cps p)⟩ : Str)]).length : Int) = (done.length : Int) + 1 := by simp
      have he₄ : IsEnum h₄ en it (1 + ((done ++ [(⟨text.cps.extract p (rowEnd text.cps p)⟩ : Str)]).length : Int)) (.ref (hx.objs.size + 1)) := by
        rw [hlen, ← Int.add_assoc]
        exact (sb₄.2 _ n25).trans he₃
      have hlive₄ : Live h₄ s₀.heap text u D en it meth scan pat cd (rowEnd text.cps p) (rowEnd text.cps p == p) (done ++ [⟨text.cps.extract p (rowEnd text.cps p)⟩]) := by
        refine ⟨⟨(sb₄.2 _ n20).trans hlive₃.rows.it, (sb₄.2 _ n21).trans hlive₃.rows.meth, (sb₄.2 _ n22).trans hlive₃.rows.scan, ?_, (sb₄.2 _ n24).trans hlive₃.rows.code⟩, ⟨_, hl₄, ?_⟩, fun b o e => ?_⟩
        · obtain ⟨a, b, c, e⟩ := hlive₃.rows.pat; exact ⟨a, b, c, (sb₄.2 _ n23).trans e⟩
        · rw [Array.toList_push]; exact strs_snoc _ _ hst
        · exact (sb₄.2 b (fun q => by rw [q, f5] at e; cases e)).trans (hlive₃.keep b o e)
      have next : LoopAt env s₀ text u mx lim D en it meth scan pat cd (2 * (text.cps.size - rowEnd text.cps p) + (if (rowEnd text.cps p == p) = true then 0 else 1)) { s₀ with heap := h₄, toks := tk₄' } :=
        ⟨_, rowEnd text.cps p, _, done ++ [⟨text.cps.extract p (rowEnd text.cps p)⟩], _, hn₄, hmx₃, hD₃, he₄, hlive₄, hP.next hb, rfl, ⟨h₄, tk₄', rfl⟩⟩
      refine ⟨_, ?_, next⟩
      rw [hnn]
      simp only [Bool.false_eq_true, if_false]
      have hle := hP.le
      rcases Nat.lt_or_ge p text.cps.size with h | h
      · have h1 := rowEnd_gt text.cps p h
        have h2 := rowEnd_le text.cps p hle
        split <;> omega
      · have hp : p = text.cps.size := Nat.le_antisymm hle h
        rw [hp, rowEnd_end]
        simp
end
end Mine
end
section
open PySem PyProof.Rows
set_option maxRecDepth 100000
set_option maxHeartbeats 2000000
namespace Mine
section
variable {prog : Program} {w : World} {A : Around} {s : Shared} {env : Env}

theorem split_exec {b1 b2 b3 c1 c2 c3 c4 c5 c6 c7 c8 r1 r2 q1 q2 q3 q4 q5 q6 q7 q8 q9 p1 p2 p3 p4 p5 p6 p7 a1 a2 a3 : Pos} {k k' k'' k3 : Nat} {s₀ : Shared} {text : Str} {u : Tok} {mx : Value} {lim : Option Int} {L pat cd : Nat} {m : Str → Option Value} {Q : Flow → Shared → Prop}
    (V : SplitEnv env) (hL : env.locals = L) (hh : A.handled = none) (hu : A.units + 40 < cLine) (hmax : IsMax mx lim) (hsz : text.length + 100 ≤ sizeLine)
    (hline : (p2.endLine == p6.line) = true) (hline2 : (c3.endLine == c5.line) = true)
    (hsw : swapsWith (.Call (.Attribute (.Name "lines" p1) "append" p2) [.Subscript (.Name "match" p3) (.Constant (.int 0) k p4) p5] [] p6) none p7.line env = pure false)
    (hsw1 : swapsWith (.List [] b2) (some (.Name "lines" b1)) b3.line env = pure false)
    (hfold : ∀ x, foldedSetIterable (.Call (.Name "enumerate" c1) [.Call (.Attribute (.Name "_line_pattern" c2) "finditer" c3) [.Name "source" c4] [] c5, .Constant (.int 1) k3 c6] [] c7) env x = pure x)
    (hn : s.heap.Ns env.locals m) (hsrc : m "source" = some (.str text u)) (hmx : m "maxlines" = some mx)
    (keep : ∀ b o, s₀.heap.get? b = some o → s.heap.get? b = some o) (c0 : s₀.heap.objs.size ≤ L) (c6' : pat < L) (c7' : cd < L) (hs0 : ∃ h tk, s = { s₀ with heap := h, toks := tk })
    (T : SplitTop s₀.heap env pat cd)
    (hQ : ∀ h' tk D, s₀.heap.objs.size ≤ D → (∃ its n, h'.get? D = some { cls := .type "list", data := .seq its n } ∧ StrsAre its.toList (rowsUpTo text.cps lim)) → (∀ b o, s₀.heap.get? b = some o → h'.get? b = some o) → Q (.ret (.ref D)) { s₀ with heap := h', toks := tk }) :
    wpC (M1 prog w) A (execs [.Assign [.Name "lines" b1] (.List [] b2) b3,
      .For (.Tuple [.Name "lineno" a1, .Name "match" a2] k'' a3) (.Call (.Name "enumerate" c1) [.Call (.Attribute (.Name "_line_pattern" c2) "finditer" c3) [.Name "source" c4] [] c5, .Constant (.int 1) k3 c6] [] c7)
        [.If (.BoolOp .And [.Compare (.Name "maxlines" q1) [.IsNot] [.Constant .none k' q2] q3, .Compare (.Name "lineno" q4) [.Gt] [.Name "maxlines" q5] q6] q7) [.Break q8] [] q9,
         .Expr (.Call (.Attribute (.Name "lines" p1) "append" p2) [.Subscript (.Name "match" p3) (.Constant (.int 0) k p4) p5] [] p6) p7] [] c8,
      .Return (some (.Name "lines" r1)) r2] env) Q noE s := by
  obtain ⟨hx, tkx, rfl⟩ := hs0
  have hLlt : L < hx.objs.size := by have := hn.lt; rw [hL] at this; exact this
  refine wpC_execs_cons (wpC_of_any (wpAny_Assign_Name ?_ hsw1))
  rw [arm_eval_List]
  refine wpAny_bind (wpAny_standAt (wpAny_bind (m := spliced []) (Calls.spliced_nil (wpAny_newObj_type ?_))))
  refine wpAny_storeName_local V.lines (hn.push _) (fun h₁ hn₁ sb₁ => ?_) V.stores
  rw [hL] at sb₁
  have hDne : hx.objs.size ≠ L := Nat.ne_of_gt hLlt
  have hz₁ : h₁.objs.size = hx.objs.size + 1 := by rw [sb₁.1]; exact Heap.size_push ..
  have hD₁ : h₁.get? hx.objs.size = some { cls := .type "list", data := .seq #[] } := (sb₁.2 _ hDne).trans (Heap.get?_push_size _ rfl)
  have fL : s₀.heap.get? L = none := by
    cases e : s₀.heap.get? L with
    | none => rfl
    | some o => exact absurd (Heap.lt_size e) (Nat.not_lt.mpr c0)
  have keep₁ : ∀ b o, s₀.heap.get? b = some o → h₁.get? b = some o := fun b o e => (sb₁.2 b (fun q => by rw [q, fL] at e; cases e)).trans (Heap.get?_push_of_some _ (keep b o e))
  have T₁ : SplitTop h₁ env pat cd := T.keeps keep₁
  have hsrc₁ : (if ("source" : Str) = ("lines" : Str) then some (Value.ref hx.objs.size) else m "source") = some (.str text u) := by rw [if_neg (by decide)]; exact hsrc
  have hmx₁ : (if ("maxlines" : Str) = ("lines" : Str) then some (Value.ref hx.objs.size) else m "maxlines") = some mx := by rw [if_neg (by decide)]; exact hmx
  refine wpC_execs_cons (wpC_For (wpC_of_any (any1 (eval_iter V T₁ hn₁ hsrc₁ (by omega) hline2 fun tk₂ => ?_))) hfold)
  generalize hh₂ : (((h₁.push (scanObj pat text u 0 text.length false)).push (methObj h₁.objs.size)).push (callObj (h₁.objs.size + 1))).push { cls := .type "enumerate", data := .fields #[.none, .bool false, .ref (h₁.objs.size + 2), rawInt 1, .none, .none] } = h₂
  have k₂ : ∀ b o, h₁.get? b = some o → h₂.get? b = some o := fun b o e => by
    rw [← hh₂]; exact Heap.get?_push_of_some _ (Heap.get?_push_of_some _ (Heap.get?_push_of_some _ (Heap.get?_push_of_some _ e)))
  have he₂ : IsEnum h₂ (h₁.objs.size + 3) (h₁.objs.size + 2) 1 .none := by rw [← hh₂]; exact Heap.get?_push_at (by simp only [Heap.size_push]) rfl
  have hr₂ : Rows h₂ (h₁.objs.size + 2) (h₁.objs.size + 1) h₁.objs.size pat cd text u 0 false := by
    obtain ⟨x1, x2, x3, x4⟩ := T₁.pat
    refine ⟨?_, ?_, ?_, ⟨x1, x2, x3, k₂ _ _ x4⟩, k₂ _ _ T₁.code⟩
    · rw [← hh₂]; exact Heap.get?_push_of_some _ (Heap.get?_push_at (by simp only [Heap.size_push]) rfl)
    · rw [← hh₂]; exact Heap.get?_push_of_some _ (Heap.get?_push_of_some _ (Heap.get?_push_at (by simp only [Heap.size_push]) rfl))
    · rw [← hh₂]; exact Heap.get?_push_of_some _ (Heap.get?_push_of_some _ (Heap.get?_push_of_some _ (Heap.get?_push_at rfl rfl)))
  refine wpC_of_any (any1 (wpAny_pyIter_enum he₂ ?_))
  refine loop_code (L := L) (D := hx.objs.size) (en := h₁.objs.size + 3) (it := h₁.objs.size + 2) (meth := h₁.objs.size + 1) (scan := h₁.objs.size) (pat := pat) (cd := cd) (s₀ := s₀) (u := u) V hL hh hu hmax hsz hline hsw c0 hLlt (by rw [hz₁]; exact Nat.lt_succ_self _) rfl rfl rfl c6' c7' (fun h' tk hl hns hk => ?_) (2 * (text.cps.size - 0) + 1)
    ⟨fun x => if x = ("lines" : Str) then some (Value.ref hx.objs.size) else m x, 0, false, [], .none, hn₁.keeps k₂, hmx₁, if_pos rfl, he₂, ⟨hr₂, ⟨#[], ⟨0, k₂ _ _ hD₁⟩, .nil⟩, fun b o e => k₂ _ _ (keep₁ b o e)⟩, Plain.start _ _, rfl, ⟨h₂, tk₂, rfl⟩⟩
  obtain ⟨m', hn', hm'⟩ := hns
  refine wpC_execs_cons (wpC_Return_some (wpC_of_any (eval_local V.fn V.lines hn' hm' ?_)))
  obtain ⟨its, ⟨n, e⟩, hst⟩ := hl
  exact hQ h' tk hx.objs.size (Nat.le_of_lt (Nat.lt_of_le_of_lt c0 hLlt)) ⟨its, n, e, hst⟩ hk
end
end Mine
end
section
open PySem PySem.W PyProof.Rows
namespace Mine
theorem ns_of_get {h : Heap} {a : Addr} {mg : Str → Option Value} {o : Obj} {es : Array DictEntry} {ep : Nat} (hn : h.Ns a mg) (ho : h.get? a = some o) (hd : o.data = .dict es ep) (x : Str) : mg x = nsFind es x := by
  obtain ⟨o', es', ep', h1, h2, _, h4⟩ := hn
  rw [ho] at h1; cases h1
  rw [hd] at h2; cases h2
  exact (h4 x).symm

end Mine
end
section
open PySem PySem.W PyProof.Rows
set_option maxRecDepth 100000
set_option maxHeartbeats 4000000
namespace Mine
section
variable {prog : Program} {w : World} {A : Around} {s : Shared} {p : Program} {loose : List Str} {mean : ExcName → Option Value} {mg mb : Str → Option Value}
theorem split06 {args : Args} {text : Str} {u : Tok} {mx : Value} {lim : Option Int} {R : Result → Shared → Prop}
    (X : (Mine.hd06.heap_39 w.params).In s.heap) (T : Top p loose mean mg mb s.heap) (hh : A.handled = none) (hroom : A.depth < recursionLimit) (hu : A.units + 50 < cLine)
    (hmax : IsMax mx lim) (hsz : text.length + 100 ≤ sizeLine)
    (hbind : ∀ fd o, s.heap.get? 44 = some o → o.data = .func fd → BindsTo s fd args [("source", .str text u), ("maxlines", mx)])
    (hR : ∀ h' tk D, s.heap.objs.size ≤ D → (∃ its n, h'.get? D = some { cls := .type "list", data := .seq its n } ∧ StrsAre its.toList (rowsUpTo text.cps lim)) →
      (∀ b o, s.heap.get? b = some o → h'.get? b = some o) → R (.ok (.ret (.ref D))) { s with heap := h', toks := tk }) :
    codeC (M1 prog w) A (.call (.ref 44) args) R s := by
  have ho := X 44 _ rfl
  have hp := X 36 _ rfl
  have hc := X 35 codeObj (by kernel_rfl)
  have h3 := X 3 _ rfl
  refine codeC_call_def hroom ho rfl T.nolimit (codeRec_of X (by kernel_rfl)) rfl (hbind _ _ ho rfl) (by decide) (fun x hx => by rcases List.mem_cons.mp hx with e | hx; (· subst e; rfl); rcases List.mem_cons.mp hx with e | hx; (· subst e; rfl); cases hx) (fun h₀ hns hk => ?_)
  refine split_exec (s₀ := s) (pat := 36) (cd := 35) (u := u) (mx := mx) (lim := lim) ⟨rfl, rfl, rfl, rfl, rfl, rfl, rfl, rfl, rfl, rfl⟩ rfl hh ?_ hmax hsz rfl rfl rfl rfl (fun _ => rfl) hns rfl rfl hk (Nat.le_refl _) (Heap.lt_size hp) (Heap.lt_size hc) ⟨h₀, _, rfl⟩ ?_ hR
  · show A.units + 3 + 40 < cLine
    omega
  · refine ⟨⟨mg, T.g, ?_, ?_⟩, ⟨mb, T.b, ?_⟩, ⟨_, _, _, hp⟩, hc⟩
    · rw [ns_of_get T.g h3 rfl]; kernel_rfl
    · rw [ns_of_get T.g h3 rfl]; kernel_rfl
    · rw [T.builtins _ (by decide)]; exact boot_enumerate
end
end Mine
end
section
open PySem PySem.W PySem.Calls PyProof.Rows
namespace Mine

/-- the walk, asked of the model `M1` at contexts without a callable iterator's step -/
abbrev Walk1 (q : Program) (loose : List Str) (XP : (Str → Option Value) → Heap → Prop) (YP : World → Heap → Prop) (r : RowW) (d : DefRec) (kwd : List (Str × Expr)) : Prop :=
  ∀ (w : World) (s₀ s₁ : Shared) (mg mb : Str → Option Value), Ground q loose r.records XP w s₀ mg mb s₁.heap → YP w s₁.heap → ∀ (a : Addr) (o : Obj) (pm cd doc dV kV : Value), s₁.heap.get? a = some o →
    o.data = .func { docDef d.name d.params d.body d.scope pm cd doc with defaults := dV, kwdefaults := kV } → s₁.heap.CodeRec cd d.name → Dflts mg s₁.heap d.params kwd dV kV → mg d.name = some (.ref a) → s₁.gens = #[] →
    ∀ (args : List WData) (vals : List Value) (as : List Addr), r.claim.pre args = true → WData.layableAll args = true → ReadsAllW r.records (classAt s₀.heap) s₁.heap vals args as → WellAll w.params s₁.heap vals args → (∀ a ∈ as, (a == sysModules) = false) →
      codeC (M1 r.prog w) callerA (.call (.ref a) ⟨vals, []⟩) (fun res s' => ∃ v, res = .ok (.ret v) ∧ GoodWG r.claim (classAt s₀.heap) (ExcName.means s₀.heap) args s₁ (.ok (.ret v)) s') s₁

theorem callFrom1 {c : ClaimW} {name : Str} {w : World} {s : Shared} {free : Addr → Prop} {gens : Prop} {kept : Heap → Prop} (hz : s.asleep) (hgens : s.gens = #[])
    (hspec : ∀ args, c.pre args = true → WData.layableAll args = true →
      ∀ ord : List DictEntry → List DictEntry, (∀ l, (ord l).Perm l) →
      ∃ vs s₁ mg f, layAllW c.records (classAt s.heap) w.params ord args s = some (vs, s₁) ∧ s₁.heap.Ns mainGlobals mg ∧ mg name = some f ∧
        codeC (M1 c.prog w) callerA (.call f ⟨vs, []⟩) (fun res s' => ∃ v, res = .ok (.ret v) ∧ (c.Ends s args vs s₁ (.ok (.ret v)) s' ∧ s'.os = s.os ∧ AllBare s'.gens ∧ kept s'.heap)) s₁) :
    c.CallFrom (callStub name) w free gens kept s := by
  intro args hpre hlay ord hord
  obtain ⟨vs, s₁, mg, f, hlaid, hg, hf, hcode⟩ := hspec args hpre hlay ord hord
  have hal := layAllW_rest _ _ _ hlaid
  obtain ⟨k, r, s'', s', hsched, hlife, hfo, hcase, hos, hkp⟩ := halts1 (prog := c.prog) (w := w) (c := .builtin "claim.caller" {}) (p := default)
    (t := (callStub name vs).cur) (s := s₁) (R := fun r s' => c.Ends s args vs s₁ r s' ∧ s'.os = s.os ∧ kept s'.heap)
    (Shared.asleep_of_life hal.2.2.2 hz) (by
      show Sem.wp _ _ (nsGet mainGlobals name >>= _) _ _ _ _
      rw [Sem.wp_bind', Sem.wp_nsGet _ _ _ _ _ hg, hf]
      show Sem.wp _ _ (PySem.call f vs >>= _) _ _ _ _
      rw [Sem.wp_bind', Sem.wp_cmd_call]
      refine wpCode_mono (fun res s' h => ?_) (hcode _ _ rfl (caller_in.enter _ none _ (by intro x; cases x)) (Clean.cons rfl fun x hx => by cases hx))
      obtain ⟨v, rfl, h1, h2, h3, h4⟩ := h
      exact ⟨⟨h1, h2, h4⟩, leftWithCleanup_false_of_bare h3⟩)
  obtain ⟨eh, _, _, eo, _⟩ := Shared.forget_eq hfo
  have hcase := hcase.congr eh
  have hkp : kept s'.heap := by rw [eh]; exact hkp
  rw [← eo] at hos
  refine ⟨vs, s₁, hlaid, k, _, s', hsched, ?_, (fun _ i x hx => by rw [hgens] at hx; simp at hx), hkp, by rw [hlife, hal.2.2.2], Shared.rest_eq hos⟩
  rcases hcase with ⟨v, rfl, d1, d2, d3, d4, d5⟩ | ⟨e, ob, cls, rfl, d1, d2, d3, d4, d5⟩
  · exact .inl ⟨v, rfl, d1, d2, d3, fun b o y _ => d4 b o y, d5⟩
  · exact .inr ⟨e, ob, cls, rfl, d1, d2, d3, d4, fun b o y _ => d5 b o y⟩

theorem head1 {r : OpenRow} {q : Program} {loose : List Str} {Xt : Shared → Bool} {XP : (Str → Option Value) → Heap → Prop} {α : Type} {Yf : Shared → α} {Ya : World → α} {YP : World → Heap → Prop} {d : DefRec} {kwd : List (Str × Expr)} {N : Nat}
    (left : LeftO r.prog q loose Xt Yf Ya N) (hY : ∀ w s, Yf s = Ya w → YP w s.heap) (hYk : ∀ w h h', YP w h → (∀ b o, h.get? b = some o → h'.get? b = some o) → YP w h')
    (hX : ∀ s, Xt s = true → XP (s.heap.nsMap mainGlobals) s.heap) (hXk : ∀ mg h h', XP mg h → (∀ b o, h.get? b = some o → h'.get? b = some o) → XP mg h')
    (hdef : defOf q r.name = some (d, kwd)) (hp : r.prog.theDef r.name = some (d.params, d.body, d.scope)) (hk : kwWritten? d.params.kwonlyargs d.params.kw_defaults = some kwd) (hRf : ∀ s, Xt s = true → RecFacts r.records s.heap) (hwr : (!r.writes || r.records.isEmpty) = true)
    (k1 : r.wellSaid = true) (ok : (chainsOk q && opensWell r.prog && (frees r.toRowW && r.within.isEmpty)) = true) (hb : r.prog.bare) (hw : r.toRowW.promised)
    (call : Walk1 q loose XP YP r.toRowW d kwd) : r.Holds := by
  refine ⟨k1, hw, ?_⟩
  obtain ⟨ok, k5⟩ := Bool.and_eq_true_iff.mp ok
  obtain ⟨hch, o1⟩ := Bool.and_eq_true_iff.mp ok
  obtain ⟨k5, k6⟩ := Bool.and_eq_true_iff.mp k5
  obtain ⟨hsame, hu, ha, hap, hm⟩ := frees_parts k5
  refine ⟨⟨hb, o1, by show r.makers.map _ = []; rw [hm]; rfl⟩, hw.witness, fun w => ⟨(left.behind hX hch w).1, fun s' hs' => ?_⟩⟩
  obtain ⟨s₀, hf, hg0, s, hT, hz, hgens, hg, G00, y⟩ := (left.behind (XP := fun mg h => XP mg h ∧ RecFacts r.records h) (fun s hs => ⟨hX s hs, hRf s hs⟩) hch w).2 s' hs'
  have G0 : Ground q loose [] XP w s (s.heap.nsMap mainGlobals) (s.heap.nsMap builtinsNs) s.heap := ⟨G00.T, G00.B, G00.D, G00.TE, G00.TD, G00.W, G00.X.1, G00.cls, G00.has, G00.apart, G00.once, G00.K⟩
  have RF := G00.X.2
  have hT' := hT
  refine ⟨s₀, hf, hg0, s, hT, (fun n hn => ?_), RF.1, RF.2.1, ?_⟩
  · obtain rfl : n = r.name := by split at hn <;> simp_all
    exact pinned_of_view hg G0 hdef hp hk
  have hgens : s.gens = #[] := Array.eq_empty_of_size_eq_zero (beq_iff_eq.mp hgens)
  have G : Ground q loose r.records XP w s _ _ s.heap := RF.ground G0
  refine callFrom1 hz hgens fun args hpre hlay ord hord => ?_
  obtain ⟨⟨vs, s₁⟩, hlaid⟩ := Option.isSome_iff_exists.mp (layAllW_isSome (P := w.params) (ord := ord) G.has args r.args s (pre_splitW hpre).1)
  have keeps := layAllW_keeps _ _ _ hlaid
  have hal := layAllW_rest _ _ _ hlaid
  obtain ⟨as, hrd, hin, hold⟩ := reads_layAllW hord _ _ _ hlaid hlay s₁.heap (fun _ _ e => e)
  have L : Laid r.records w s s₁ args vs as := ⟨⟨ord, hord, hlaid⟩, hrd, hin, hold, keeps, hal.1.trans hgens, hal.2.2.1⟩
  have G₁ := G.keeps hXk keeps
  obtain ⟨a, o, pm, cd, doc, dV, kV, h1, h2, h3, h4, h5⟩ := G₁.fn hdef
  have hi := ident_freeW hu ha hap
  have hwi : r.claim.within = [] := List.isEmpty_iff.mp k6
  refine ⟨vs, s₁, _, .ref a, hlaid, G₁.T.g, h1, codeC_mono (call w s s₁ _ _ G₁ (hYk _ _ _ (hY w s y) keeps) a o pm cd doc dV kV h2 h3 h4 h5 (defOf_name hdef ▸ h1) L.gens args vs as hpre hlay L.reads L.well (L.low G.low)) fun res s' g => ?_⟩
  obtain ⟨v, rfl, g⟩ := g
  have z := g.laid (c := r.claim) hsame hwi hi L
  exact ⟨v, rfl, z.1, z.2.1, z.2.2, fun q => ⟨namesKept_of hT' hg r.keeps keeps g.2.1.old, noTable hwr q⟩⟩
end Mine
end
section
open PySem PySem.W PyProof.Rows
set_option maxRecDepth 100000
set_option maxHeartbeats 2000000
namespace Mine
section
variable {prog : Program} {w : World} {A : Around} {s : Shared}
theorem codeC_call_cells {R : Result → Shared → Prop} {name qual : Str} {params : Arguments} {body : List Stmt} {scope : Scope} {dV kV doc pm cdv ct : Value} {an : Option Addr} {fo : Obj} {f : Addr} {args : Args} {binds : List (Str × Value)}
    (hroom : A.depth < recursionLimit) (ho : s.heap.get? f = some fo) (hd : fo.data = .func (fnX name qual params body scope [] dV kV doc pm an cdv ct)) (hlim : s.heap.NoLimit) (hcd : s.heap.CodeRec cdv qual)
    (hbind : BindsTo s (fnX name qual params body scope [] dV kV doc pm an cdv ct) args binds)
    (hkind : ∀ x ∈ binds, scope.names.lookup x.1 = some .local ∨ (scope.names.lookup x.1 = some .cell ∧ ((cellsFrom (s.heap.objs.size + 1) scope.names []).lookup x.1).isSome = true))
    (hnd : ((cellsFrom 0 scope.names []).map (·.1)).Nodup)
    (h : ∀ h₁ tk cells, Fr s.heap s.heap.objs.size h₁ (bindL (envOfC qual scope s.heap.objs.size f cdv).kindOf binds fun _ => none) → News s.heap s.heap.objs.size h₁ cells →
      CellsAre (bindC (envOfC qual scope s.heap.objs.size f cdv).kindOf binds fun _ => none) (cellsFrom (s.heap.objs.size + 1) scope.names []) cells →
      wpC (M1 prog w) (A.deeper (envOfC qual scope s.heap.objs.size f cdv)) (execs body (envOfC qual scope s.heap.objs.size f cdv))
        (fun fl s' => R (.ok (.ret (match fl with | .ret v => v | _ => .none))) s') (fun _ _ => False) { s with heap := h₁, toks := tk })
    (hco : scope.isCoroutine = false := by rfl) (hgen : scope.isGenerator = false := by rfl) (hk : scope.kind = .function := by rfl) : codeC (M1 prog w) A (.call (.ref f) args) R s := by
  refine codeC_call_function hroom ho hd hco hgen rfl hcd (hbind _ _ _ _ ?_)
  refine any1 (wpAny_newFunctionEnv_cells hk hkind fun env' he s' x => ?_)
  subst he
  refine ⟨hlim.keeps x.toInCall.keep, codeC_func ?_⟩
  obtain ⟨h₁, tk, rfl, _⟩ := x.done
  have hk₁ := x.toInCall.keep
  obtain ⟨cells, NC, Y⟩ := Cl.news (h₀ := s.heap) (Nat.le_refl _) fun n c hm => ⟨x.cell n c (lookup_of_mem_nodup (cellsFrom_names scope.names 0 (s.heap.objs.size + 1) [] [] rfl ▸ hnd) hm), x.above n c hm⟩
  exact h h₁ tk cells ⟨x.toInCall.ns, hk₁, Nat.le_refl _⟩ NC Y
end
end Mine
end
section
open PySem PySem.W PyProof.Rows
namespace Mine
/-- a goal laid aside for the hand -/
def Halt (p : Prop) : Prop := p
theorem halt {p : Prop} (h : Halt p) : p := h

/-- right behind sign k - 1 a row ends -/
def endAt (T : Array Nat) (k : Nat) : Bool := decide (1 ≤ k) && ((T[k - 1]? == some 10) || ((T[k - 1]? == some 13) && !(T[k]? == some 10)))
/-- one turn of the list of the rows' ends -/
def endStep (text : Str) (l : List Int) (k : Int) : List Int := if endAt text.cps k.toNat then l ++ [k] else l
end Mine
end
section
open PySem PySem.W PyProof.Rows
set_option maxRecDepth 100000
namespace Mine
theorem getElem_str_ext {x y : Str} (h : x.cps = y.cps) : x = y := by cases x; cases y; cases h; rfl
theorem range_pick (T : Array Nat) (a c : Nat) (h : a + c ≤ T.size) : ((List.range c).map fun k => a + k).filterMap (fun i => T[i]?) = (T.extract a (a + c)).toList := by
  induction c with
  | zero => simp
  | succ c ih =>
    rw [List.range_succ, List.map_append, List.filterMap_append, ih (by omega)]
    have : T.extract a (a + (c + 1)) = (T.extract a (a + c)).push (T[a + c]'(by omega)) := by
      apply Array.ext
      · simp; omega
      · intro i h1 h2
        simp at h1
        rw [Array.getElem_extract, Array.getElem_push]
        simp only [Array.size_extract]
        split
        · rw [Array.getElem_extract]
        · congr 1; omega
    rw [this, Array.toList_push]
    congr 1
    have : T[a + c]? = some (T[a + c]'(by omega)) := Array.getElem?_eq_getElem (by omega)
    simp only [List.map_cons, List.map_nil, List.filterMap_cons, this, List.filterMap_nil]
theorem slice_nat (x : Str) (a b : Nat) : Txt.slice x (some (a : Int)) (some (b : Int)) = ⟨x.cps.extract a b⟩ := by
  have hl : x.length = x.cps.size := rfl
  have hidx : PySem.Builtin.Str.strSliceIndices (some (a : Int)) (some (b : Int)) 1 x.length = (List.range (min b x.cps.size - min a x.cps.size)).map fun k => min a x.cps.size + k := by
    unfold PySem.Builtin.Str.strSliceIndices sliceRange
    have h1 : ¬ ((a : Int) < 0) := by omega
    have h2 : ¬ ((b : Int) < 0) := by omega
    simp only [h1, h2, if_false, show (1 : Int) > 0 by decide, if_true, hl]
    have e1 : max (0 : Int) (min (a : Int) (x.cps.size : Int)) = ((min a x.cps.size : Nat) : Int) := by omega
    have e2 : max (0 : Int) (min (b : Int) (x.cps.size : Int)) = ((min b x.cps.size : Nat) : Int) := by omega
    rw [e1, e2]
    have e3 : (if ((min a x.cps.size : Nat) : Int) < ((min b x.cps.size : Nat) : Int) then (((min b x.cps.size : Nat) : Int) - ((min a x.cps.size : Nat) : Int) + 1 - 1) / 1 else 0).toNat = min b x.cps.size - min a x.cps.size := by
      split <;> (try simp only [Int.ediv_one]) <;> omega
    rw [e3]
    refine List.map_congr_left fun k _ => ?_
    omega
  unfold Txt.slice
  rw [hidx]
  split
  · rename_i h
    simp at h
    refine getElem_str_ext ?_
    have : min a x.cps.size = 0 ∧ min b x.cps.size = x.cps.size ∨ x.cps.size = 0 := by omega
    show x.cps = x.cps.extract a b
    apply Array.ext
    · simp; omega
    · intro i h1 h2
      rw [Array.getElem_extract]; congr 1; omega
  · refine getElem_str_ext ?_
    show ((_ : List Nat).toArray) = _
    by_cases hab : min a x.cps.size ≤ min b x.cps.size
    · have h0 := range_pick x.cps (min a x.cps.size) (min b x.cps.size - min a x.cps.size) (by omega)
      rw [h0]
      show (x.cps.extract _ _) = _
      apply Array.ext
      · simp; omega
      · intro i h1 h2
        simp at h1 h2
        rw [Array.getElem_extract, Array.getElem_extract]; congr 1; omega
    · have : min b x.cps.size - min a x.cps.size = 0 := by omega
      rw [this]
      have : x.cps.extract a b = #[] := by apply Array.eq_empty_of_size_eq_zero; simp; omega
      rw [this]; rfl
theorem item_nat (x : Str) (i : Nat) (h : i < x.cps.size) : Txt.item x (i : Int) = ⟨#[x.cps[i]]⟩ := by
  unfold Txt.item Txt.charAt seqIndex?
  have h1 : ¬ ((i : Int) < 0) := by omega
  have h2 : (0 ≤ (i : Int) && (i : Int) < (x.length : Int)) = true := by
    show (decide (0 ≤ (i : Int)) && decide ((i : Int) < (x.cps.size : Int))) = true
    simp; exact h
  simp only [h1, if_false]
  rw [if_pos h2]
  simp [h]
end Mine
end
section
open PySem PySem.W PyProof.Rows
set_option maxRecDepth 100000
namespace Mine
theorem pair_eq (T : Array Nat) (j : Nat) (h : j < T.size) : ((⟨T.extract j (j + 2)⟩ : Str) != Str.ofString "\r\n") = !(T[j] == 13 && T[j + 1]? == some 10) := by
  have hs : Str.ofString "\r\n" = ⟨#[13, 10]⟩ := by decide
  rw [hs]
  have key : ((⟨T.extract j (j + 2)⟩ : Str) = ⟨#[13, 10]⟩) ↔ (T[j] = 13 ∧ T[j + 1]? = some 10) := by
    constructor
    · intro e
      have e : T.extract j (j + 2) = #[13, 10] := congrArg Str.cps e
      have hsz : (T.extract j (j + 2)).size = 2 := by rw [e]; rfl
      simp at hsz
      have h0 : (T.extract j (j + 2))[0]? = some 13 := by rw [e]; rfl
      have h1 : (T.extract j (j + 2))[1]? = some 10 := by rw [e]; rfl
      rw [Array.getElem?_extract] at h0 h1
      have hj : j + 1 < T.size := by omega
      constructor
      · simp [hsz, h] at h0; exact h0
      · rw [← h1, if_pos (by omega)]
    · rintro ⟨h1, h2⟩
      have hj : j + 1 < T.size := by
        by_cases hh : j + 1 < T.size
        · exact hh
        · rw [Array.getElem?_eq_none (by omega)] at h2; cases h2
      rw [Array.getElem?_eq_getElem hj] at h2
      have h2 := Option.some.inj h2
      refine getElem_str_ext ?_
      show T.extract j (j + 2) = #[13, 10]
      apply Array.ext
      · simp; omega
      · intro i i1 i2
        simp at i1
        rw [Array.getElem_extract]
        have : i = 0 ∨ i = 1 := by simp at i2; omega
        rcases this with rfl | rfl
        · exact h1
        · exact h2
  by_cases hk : (⟨T.extract j (j + 2)⟩ : Str) = ⟨#[13, 10]⟩
  · obtain ⟨a, b⟩ := key.mp hk
    rw [hk, a, b]; rfl
  · have hn : ¬ (T[j] = 13 ∧ T[j + 1]? = some 10) := fun x => hk (key.mpr x)
    have e1 : ((⟨T.extract j (j + 2)⟩ : Str) != ⟨#[13, 10]⟩) = true := by simp [bne, hk]
    rw [e1]
    by_cases a : T[j] = 13
    · by_cases b : T[j + 1]? = some 10
      · exact absurd ⟨a, b⟩ hn
      · simp [b]
    · simp [a]

theorem leaf (text : Str) (k : Int) (h1 : 1 ≤ k) (h2 : k < 1 + (text.length : Int)) :
    endAt text.cps k.toNat = (!(Builtin.Str.occurrences (Str.ofString "\r\n") (Txt.item text (k - 1)) 0 (Str.ofString "\r\n").length 1).isEmpty && (Txt.slice text (some (k - 1)) (some (k + 1)) != Str.ofString "\r\n")) := by
  obtain ⟨j, rfl⟩ : ∃ j : Nat, k = (j : Int) + 1 := ⟨(k - 1).toNat, by omega⟩
  have hj : j < text.cps.size := by
    have : (text.length : Int) = (text.cps.size : Int) := rfl
    omega
  have e1 : (j : Int) + 1 - 1 = (j : Int) := by omega
  have e2 : (j : Int) + 1 + 1 = ((j + 2 : Nat) : Int) := by omega
  have e3 : ((j : Int) + 1).toNat = j + 1 := by omega
  rw [e1, e2, e3, item_nat text j hj, slice_nat, PyProof.Rows.empty_one, pair_eq _ _ hj]
  have hs : (Str.ofString "\r\n").cps.toList = [13, 10] := by decide
  rw [hs]
  unfold endAt
  have g : text.cps[j + 1 - 1]? = some text.cps[j] := by simp [hj]
  rw [g]
  by_cases a : text.cps[j] = 13
  · simp [a]
  · by_cases b : text.cps[j] = 10
    · simp [b]
    · simp [a, b]

theorem leaf_no {text : Str} {k : Int} {l : List Int} {news : List (Addr × Obj)} (h1 : 1 ≤ k) (h2 : k < 1 + (text.length : Int))
    (h : (Builtin.Str.occurrences (Str.ofString "\r\n") (Txt.item text (k - 1)) 0 (Str.ofString "\r\n").length 1).isEmpty = true) : KCiNo news l (endStep text l k) news :=
  ⟨rfl, by unfold endStep; rw [leaf text k h1 h2, h]; rfl⟩
theorem leaf_no2 {text : Str} {k : Int} {l : List Int} {news : List (Addr × Obj)} (h1 : 1 ≤ k) (h2 : k < 1 + (text.length : Int))
    (h : ¬ (Txt.slice text (some (k - 1)) (some (k + 1)) != Str.ofString "\r\n") = true) : KCiNo news l (endStep text l k) news :=
  ⟨rfl, by unfold endStep; rw [leaf text k h1 h2, Bool.eq_false_iff.mpr h, Bool.and_false]; rfl⟩
theorem leaf_yes {text : Str} {k : Int} {l : List Int} {t : Tok} {news : List (Addr × Obj)} (h1 : 1 ≤ k) (h2 : k < 1 + (text.length : Int))
    (h : (Builtin.Str.occurrences (Str.ofString "\r\n") (Txt.item text (k - 1)) 0 (Str.ofString "\r\n").length 1).isEmpty = false) (h' : (Txt.slice text (some (k - 1)) (some (k + 1)) != Str.ofString "\r\n") = true) :
    KCiEl news l (endStep text l k) (.int k t) news :=
  ⟨rfl, k, t, rfl, by unfold endStep; rw [leaf text k h1 h2, h, h']; rfl⟩
theorem endStep_grows (text : Str) : KPfGrows (endStep text) := fun l k => by
  unfold endStep; split <;> simp
end Mine
end
section
open PySem PySem.W PyProof.Rows
set_option maxRecDepth 100000
set_option maxHeartbeats 1000000
namespace Mine
section
variable {prog : Program} {w : World} {A : Around} {E : Value → Shared → Prop} {env : Env}

theorem comp_block_T {elt iter : Expr} {x x₂ : Str} {px px₂ tp : Pos} {tk0 : Nat} {scope : Scope} {cl : List (Str × Addr)} {pos : Pos} {s₂ : Shared} {I : Addr} {fp wr : List Addr} {n : Nat} {Pt : Nat → Array Value → Prop}
    {St : Nat → Heap → Prop} {Mid : Nat → Addr → Heap → Prop} (W : WalksT prog w A I fp wr n Pt St Mid) (hsz : n ≤ sizeLine) (hh : A.handled = none) (F : Nat → Value → Prop) {RR : Value → Addr → Result → Shared → Prop}
    (hcell : ∀ y ∈ scope.names, y.2 ≠ .cell) (hkind : scope.kind = .function) (hx : scope.names.lookup x = some .local) (hx₂ : scope.names.lookup x₂ = some .local) (hxx : x ≠ x₂)
    (hst : St 0 s₂.heap) (hfp : ∀ b ∈ fp, b < s₂.heap.objs.size) (hP : ∀ i vals, Pt i vals → ∃ a b, vals = #[a, b])
    (helt : ∀ C i a b s₃ m₃ E', s₂.heap.objs.size ≤ C → i < n → Pt i #[a, b] → s₃.heap.Ns C m₃ → m₃ x = some a → m₃ x₂ = some b → (∀ c o, c ∉ wr → s₂.heap.get? c = some o → s₃.heap.get? c = some o) →
      wpAny (model prog w) A (eval elt (compEnvC scope cl C env)) (fun y s₄ => F i y ∧ Keeps s₃ s₄) E' s₃)
    (hRR : ∀ D C h' tk m' ys, s₂.heap.get? D = none → s₂.heap.get? C = none → D ≠ C → h'.Ns C m' → LinesAt h' D ys → ys.size = n → (∀ i y, ys[i]? = some y → F i y) →
      (∀ b o, b ∉ wr → s₂.heap.get? b = some o → h'.get? b = some o) → RR (.ref D) C (.ok .next) { s₂ with heap := h', toks := tk }) :
    wpAny (model prog w) A (newList []) (fun acc s₃ => wpAny (model prog w) A (newFunctionEnv scope env.globals cl [] env.qual none .none (some env)) (fun cenv s₄ =>
      codeAny (model prog w) A (.compStart (.ListComp elt [⟨.Tuple [.Name x px, .Name x₂ px₂] tk0 tp, iter, [], 0⟩] scope pos) 0 (.ref I) acc { cenv with scope := relabel scope env }) (RR acc cenv.locals) s₄) E s₃) E s₂ := by
  refine wpAny_newObj_type (wpAny_newFunctionEnv hcell (by intro y hy; simp at hy) (fun h₁ hns₁ hsb₁ => ?_) hkind)
  dsimp only at hns₁ hsb₁ ⊢
  generalize hH2 : s₂.heap.push { cls := .type "list", dict := none, data := .seq ([] : List Value).toArray } = H2 at hns₁ hsb₁ ⊢
  have hC : H2.objs.size = s₂.heap.objs.size + 1 := by rw [← hH2, Heap.size_push]
  have hDC : s₂.heap.objs.size ≠ H2.objs.size := by rw [hC]; exact Nat.ne_of_lt (Nat.lt_succ_self _)
  have hCle : s₂.heap.objs.size ≤ H2.objs.size := by rw [hC]; exact Nat.le_succ _
  have below : ∀ b, b < s₂.heap.objs.size → b ≠ H2.objs.size ∧ b ≠ s₂.heap.objs.size := fun b hb => ⟨by rw [hC]; exact Nat.ne_of_lt (Nat.lt_succ_of_lt hb), Nat.ne_of_lt hb⟩
  have hDf : s₂.heap.objs.size ∉ fp := fun hm => Nat.lt_irrefl _ (hfp _ hm)
  have hCf : H2.objs.size ∉ fp := fun hm => by have := hfp _ hm; rw [hC] at this; exact Nat.lt_irrefl _ (Nat.lt_of_succ_lt this)
  have hDw : s₂.heap.objs.size ∉ wr := fun hm => hDf (W.sub _ hm)
  have hCw : H2.objs.size ∉ wr := fun hm => hCf (W.sub _ hm)
  have old : ∀ b o, s₂.heap.get? b = some o → h₁.get? b = some o := fun b o e => hsb₁.extBut b o (below b (Heap.lt_size e)).1 (Heap.get?_push_of_some _ (hH2 ▸ Heap.get?_push_of_some _ e))
  have hacc : LinesAt h₁ s₂.heap.objs.size #[] := ⟨_, hsb₁.extBut _ _ hDC (Heap.get?_push_of_some _ (hH2 ▸ Heap.get?_push_size _ rfl))⟩
  have hst₁ : St 0 h₁ := W.frame _ _ _ hst fun b _ o e => old b o e
  have fresh : ∀ a, s₂.heap.objs.size ≤ a → s₂.heap.get? a = none := fun a ha => by
    cases e : s₂.heap.get? a with
    | none => rfl
    | some o' => exact absurd (Heap.lt_size e) (Nat.not_lt.mpr ha)
  have ltD : ∀ {b o}, s₂.heap.get? b = some o → b < s₂.heap.objs.size := fun e => Heap.lt_size e
  generalize s₂.heap.objs.size = D at *
  generalize H2.objs.size = C at *
  have loop : ∀ s₃ : Shared, s₃ = { s₂ with heap := h₁, toks := s₂.toks + ([] : List (Str × Value)).length } →
      codeAny (model prog w) A (.compLoop (.ListComp elt [⟨.Tuple [.Name x px, .Name x₂ px₂] tk0 tp, iter, [], 0⟩] scope pos) 0 (.ref I) (.ref D) (compEnvC scope cl C env))
        (RR (.ref D) C) s₃ := by
    rintro s₃ rfl
    refine LCp.codeAny_compLoop_pair (fun k s' => ∃ h' tk m' ys i, s' = { s₂ with heap := h', toks := tk } ∧ St i h' ∧ LinesAt h' D ys ∧ h'.Ns C m' ∧ ys.size = i ∧ (∀ j y, ys[j]? = some y → F j y) ∧ i ≤ n ∧ k = n + 1 - i ∧
      (∀ b o, b ∉ wr → s₂.heap.get? b = some o → h'.get? b = some o)) ?_ (n + 1) ⟨h₁, _, _, #[], 0, rfl, hst₁, hacc, hns₁, rfl, (by intro j y e; simp at e), Nat.zero_le _, rfl, fun b o _ e => old b o e⟩
    rintro k s' ⟨h', tk, m', ys, i, rfl, hSt, hL, hN, hys, hF, hi, rfl, hk⟩
    by_cases hlt : i < n
    · refine W.item i _ _ _ hlt hSt fun T vals h₂ tk₂ hPt hT hTup hMid hk₂ => ?_
      obtain ⟨a, b, rfl⟩ := hP i vals hPt
      dsimp only at hT hk₂ ⊢
      refine W.go _ _ _ i T _ _ _ hMid fun h₃ hSt₃ hk₃ => ?_
      dsimp only at hk₃ ⊢
      have hTw : T ∉ wr := W.apart _ _ _ hMid
      have hTup₃ : h₃.IsTuple T #[a, b] := by
        obtain ⟨o, ho, r⟩ := hTup
        exact ⟨o, hk₃ _ _ hTw ho, r⟩
      have hN₃ : h₃.Ns C m' := hN.at' fun o e => hk₃ _ _ hCw (hk₂ _ _ hCw e)
      have hL₃ : LinesAt h₃ D ys := by
        obtain ⟨q, e⟩ := hL
        exact ⟨q, hk₃ _ _ hDw (hk₂ _ _ hDw e)⟩
      refine kcp_assign (env := compEnvC scope cl C env) hh hTup₃ (lookup_relabel_local hx) (lookup_relabel_local hx₂) (by simp [compEnvC, relabel, hkind]) hN₃ fun h₄ tk₄ hN₄ hk₄ => ?_
      dsimp only at hk₄ ⊢
      have up₄ : ∀ c o, c ≠ C → c ∉ wr → h'.get? c = some o → h₄.get? c = some o := fun c o hc hw e => hk₄ c o hc (hk₃ c o hw (hk₂ c o hw e))
      refine wpAny_mono (helt C i a b _ _ _ (Nat.le_of_lt (Nat.lt_of_le_of_ne hCle hDC)) hlt hPt hN₄ (by simp [hxx]) (by simp) fun c o hw e => up₄ c o (below c (ltD e)).1 hw (hk c o hw e)) (fun y s₅ h₅ => ?_) fun _ _ e => e
      obtain ⟨hFy, h₅, tk₅, rfl, hk₅⟩ := h₅
      have hL₅ : LinesAt h₅ D ys := by
        obtain ⟨q, e⟩ := hL₃
        exact ⟨q, hk₅ _ _ (hk₄ _ _ hDC e)⟩
      refine append_at hL₅ (by omega) fun h₆ hL₆ hk₆ => ?_
      have hSt₄ : St (i + 1) h₆ := W.frame _ _ _ hSt₃ fun b hb o e => hk₆.extBut b o (fun x => hDf (x ▸ hb)) (hk₅ b o (hk₄ b o (fun x => hCf ((show b = C from x) ▸ hb)) e))
      refine ⟨n + 1 - (i + 1), by omega, h₆, _, _, ys.push y, i + 1, rfl, hSt₄, hL₆, (hN₄.at' fun o e => hk₆.extBut _ _ (Ne.symm hDC) (hk₅ _ _ e)), by rw [Array.size_push, hys], ?_, hlt, rfl, fun b o hb e => ?_⟩
      · intro j z e
        rw [Array.getElem?_push] at e
        split at e
        · rename_i q; cases e; rw [q, hys]; exact hFy
        · exact hF j z e
      · exact hk₆.extBut b o (below b (ltD e)).2 (hk₅ b o (up₄ b o (below b (ltD e)).1 hb (hk b o hb e)))
    · have hin : i = n := by omega
      subst hin
      refine W.done _ _ _ hSt fun h₂ tk₂ hk₂ => ?_
      exact hRR D C h₂ tk₂ m' ys (fresh _ (Nat.le_refl _)) (fresh _ hCle) hDC (hN.at' fun o e => hk₂ _ _ hCw e) (by obtain ⟨q, e⟩ := hL; exact ⟨q, hk₂ _ _ hDw e⟩) hys hF fun b o hb e => hk₂ b o hb (hk b o hb e)
  exact codeAny_compStart_list (loop _ rfl) (W.self 0 _ _ _ hst₁ (loop _ rfl))

theorem Assign_ListComp_zip {s : Shared} {elt iter : Expr} {x x₂ y : Str} {px px₂ tp py : Pos} {tk0 : Nat} {scope : Scope} {cl : List (Str × Addr)} {pos spos : Pos} {Q : Flow → Shared → Prop} (F : Nat → Value → Prop)
    (hsw : swapsWith (.ListComp elt [⟨.Tuple [.Name x px, .Name x₂ px₂] tk0 tp, iter, [], 0⟩] scope pos) (some (.Name y py)) spos.line env = pure true)
    (hclos : closureFor scope env = pure cl) (hcell : ∀ z ∈ scope.names, z.2 ≠ .cell) (hkind : scope.kind = .function)
    (hnames : ∀ z ∈ scope.names, z.2 = .local → scope.names.lookup z.1 = some .local) (hx : scope.names.lookup x = some .local) (hx₂ : scope.names.lookup x₂ = some .local) (hxx : x ≠ x₂)
    (hy : env.kindOf y = some .local) (hp : (env.scope.kind == .class || (env.scope.kind == .module && env.locals != env.globals)) = false) (hh : A.handled = none)
    (h : wpAny (model prog w) A (eval iter env) (fun xv s₁ => wpAny (model prog w) A (pyIter xv) (fun it s₂ => ∃ I fp wr n Pt St Mid m, it = .ref I ∧ WalksT prog w A I fp wr n Pt St Mid ∧ n ≤ sizeLine ∧ St 0 s₂.heap ∧ (∀ b ∈ fp, b < s₂.heap.objs.size) ∧
      env.locals ∉ wr ∧ s₂.heap.Ns env.locals m ∧ (∀ i vals, Pt i vals → ∃ a b, vals = #[a, b]) ∧
      (∀ C i a b s₃ m₃ E', s₂.heap.objs.size ≤ C → i < n → Pt i #[a, b] → s₃.heap.Ns C m₃ → m₃ x = some a → m₃ x₂ = some b → (∀ c o, c ∉ wr → s₂.heap.get? c = some o → s₃.heap.get? c = some o) →
        wpAny (model prog w) A (eval elt (compEnvC scope cl C env)) (fun y s₄ => F i y ∧ Keeps s₃ s₄) E' s₃) ∧
      (∀ D h' tk ys, s₂.heap.get? D = none → LinesAt h' D ys → ys.size = n → (∀ i y, ys[i]? = some y → F i y) →
        h'.Ns env.locals (fun z => if z = y then some (.ref D) else m z) → (∀ b o, b ≠ env.locals → b ∉ wr → s₂.heap.get? b = some o → h'.get? b = some o) → Q .next { s₂ with heap := h', toks := tk })) E s₁) E s)
    (hs : ∀ x, foldedSetIterable iter env x = pure x := by intro _; rfl) :
    wpAny (model prog w) A (exec (.Assign [.Name y py] (.ListComp elt [⟨.Tuple [.Name x px, .Name x₂ px₂] tk0 tp, iter, [], 0⟩] scope pos) spos) env) Q E s := by
  rw [exec_Assign_Name_used _ _ _ _ hsw]
  refine wpAny_bind (wpAny_standAt (wpAny_bind ?_))
  show wpAny _ A (do let _ ← comprehension (.ListComp elt [⟨.Tuple [.Name x px, .Name x₂ px₂] tk0 tp, iter, [], 0⟩] scope pos) scope env _ (newList []) false (eval iter env) (some (assign (.Name y py) env))) _ _ s
  refine wpAny_bind (wpAny_mono (wpAny_comprehension_free (use := some (assign (.Name y py) env)) (Q := fun _ s' => Q .next s') rfl hs hclos hkind hnames
    (wpAny_mono h (fun xv s₁ h₁ => wpAny_mono h₁ (fun it s₂ h₂ => ?_) fun _ _ e => e) fun _ _ e => e)) (fun _ s' hq => wpAny_pure (wpAny_pure hq)) fun _ _ e => e)
  obtain ⟨I, fp, wr, n, Pt, St, Mid, m, rfl, W, hsz, hst, hfp, hLf, hn, hP, helt, hQ⟩ := h₂
  refine comp_block_T (RR := fun acc C => compPost (model prog w) A E (some (assign (.Name y py) env)) (fun _ s' => Q .next s') acc C) W hsz hh F hcell hkind hx hx₂ hxx hst hfp hP helt ?_
  intro D C h' tk m' ys hD hC hDC hnC hlD hlen hF hk
  have hLC : env.locals ≠ C := by rintro rfl; obtain ⟨o, _, _, ho, _⟩ := hn; rw [hC] at ho; cases ho
  have hLD : env.locals ≠ D := by rintro rfl; obtain ⟨o, _, _, ho, _⟩ := hn; rw [hD] at ho; cases ho
  show wpAny _ A (assign (.Name y py) env (.ref D)) _ _ _
  refine wpAny_assign_Name (wpAny_storeName_local hy (hn.at' fun o e => hk _ o hLf e) (fun h₂ hn₂ hs₂ => ?_) hp)
  refine ⟨m', hnC.sameBut hs₂ (Ne.symm hLC), fun h₃ hs₃ => ?_⟩
  obtain ⟨q, hlD⟩ := hlD
  exact hQ D h₃ _ ys hD ⟨q, hs₃.extBut _ _ hDC (hs₂.extBut _ _ (Ne.symm hLD) hlD)⟩ hlen hF (hn₂.sameBut hs₃ hLC) fun b o hbL hbf e =>
    hs₃.extBut b o (by rintro rfl; rw [hC] at e; cases e) (hs₂.extBut b o hbL (hk b o hbf e))
end
end Mine
end
section
open PySem PySem.W PyProof.Rows
set_option maxRecDepth 100000
set_option maxHeartbeats 1000000
namespace Mine
def Up (h h' : Heap) : Prop := ∀ b o, h.get? b = some o → h'.get? b = some o
theorem Up.refl (h : Heap) : Up h h := fun _ _ e => e
theorem Up.trans {h h' h'' : Heap} (a : Up h h') (b : Up h' h'') : Up h h'' := fun c o e => b c o (a c o e)
theorem Up.push (h : Heap) (o : Obj) : Up h (h.push o) := fun _ _ e => Heap.get?_push_of_some _ e
theorem Up.kept (h : Heap) : KeptH (Up h) := fun _ ob u => u.trans (.push _ ob)
theorem LinesAt.up {h h' : Heap} {D : Addr} {its : Array Value} (x : LinesAt h D its) (u : Up h h') : LinesAt h' D its := let ⟨n, e⟩ := x; ⟨n, u _ _ e⟩
theorem LinesAt.lst {h : Heap} {D : Addr} {its : Array Value} (x : LinesAt h D its) : h.IsList D its := let ⟨_, e⟩ := x; ⟨_, e, rfl, _, rfl⟩
theorem IsCell.up {h h' : Heap} {c : Addr} {v : Option Value} (x : h.IsCell c v) (u : Up h h') : h'.IsCell c v := let ⟨o, e, d⟩ := x; ⟨o, u _ _ e, d⟩

section
variable {prog : Program} {w : World} {A : Around} {E : Value → Shared → Prop} {s : Shared} {env : Env} {M : Model}
theorem eval_cell {x : Str} {pos : Pos} {c : Addr} {v : Value} {Q : Value → Shared → Prop} (hk : env.scope.kind = .function) (hl : env.kindOf x = some .cell) (hc : env.cells.lookup x = some c) (hv : s.heap.IsCell c (some v))
    (h : Q v s) (hd : (x == ("__debug__" : Str)) = false := by decide) : wpAny M A (eval (.Name x pos) env) Q E s := wpAny_Name (wpAny_loadName_cell hk hl hc hv h) hd

theorem eval_slice_ss {ev elo ehi : Expr} {p pos : Pos} {x : Str} {t ui uj : Tok} {i j : Int} {Q : Value → Shared → Prop} (hsz : x.length ≤ sizeLine)
    (h1 : ∀ Q', Q' (.str x t) s → wpAny (model prog w) A (eval ev env) Q' E s)
    (h2 : ∀ Q', (∀ tk, Q' (.int i ui) { s with toks := tk }) → wpAny (model prog w) A (eval elo env) Q' E s)
    (h3 : ∀ tk Q', (∀ tk', Q' (.int j uj) { s with toks := tk' }) → wpAny (model prog w) A (eval ehi env) Q' E { s with toks := tk })
    (h : ∀ h' t' k, Up s.heap h' → Q (.str (Txt.slice x (some i) (some j)) t') { s with heap := h', toks := k })
    (ht : ∀ o r, letTemporaryGo ev o r = pure () := by intro _ _; rfl) :
    wpAny (model prog w) A (eval (.Subscript ev (.Slice (some elo) (some ehi) none p) pos) env) Q E s := by
  refine Subscript_Slice (h1 _ (wpAny_Slice (evalPart_some_step (h2 _ fun tk => evalPart_some_step (h3 _ _ fun tk' => evalPart_none_step ?_))))) ht
  exact SBH.sliceItem_ss (s := { s with toks := tk' }) (Up.kept _) (Up.refl _) (fun h' t' k u => h h' t' k u) hsz

theorem call_name_type {id : Str} {p pos : Pos} {T : String} {args : List Expr} {e : Expr} {mg mb : Str → Option Value} {Q : Value → Shared → Prop} (hk : env.scope.kind = .function) (hx : env.kindOf id = some .globalImplicit)
    (hg : s.heap.Ns env.globals mg) (hmg : mg id = none) (hb : s.heap.Ns env.builtins mb) (hmb : mb id = some (.type T))
    (h : wpAny M A (spliced (backTo pos (starEach (e :: args) env))) (fun vs s₁ => wpAny M A (call (.type T) vs) Q E s₁) E s)
    (he : starEach (e :: args) env = (false, eval e env) :: starEach args env := by rfl) (hplain : (backTo pos (starEach args env)).any (·.1) = false := by rfl) (hd : (id == ("__debug__" : Str)) = false := by decide) :
    wpAny M A (eval (.Call (.Name id p) (e :: args) [] pos) env) Q E s := by
  refine wpAny_Call_Name_kw (Calls.Name_function_global hk hx (Calls.loadGlobal_builtin hg hmg hb hmb ?_) hd)
  exact callWith_type1 h he hplain
theorem call_name_builtin {id : Str} {p pos : Pos} {T : String} {args : List Expr} {e : Expr} {mg mb : Str → Option Value} {Q : Value → Shared → Prop} (hk : env.scope.kind = .function) (hx : env.kindOf id = some .globalImplicit)
    (hg : s.heap.Ns env.globals mg) (hmg : mg id = none) (hb : s.heap.Ns env.builtins mb) (hmb : mb id = some (.builtin T))
    (h : wpAny M A (spliced (backTo pos (starEach (e :: args) env))) (fun vs s₁ => wpAny M A (call (.builtin T) vs) Q E s₁) E s)
    (he : starEach (e :: args) env = (false, eval e env) :: starEach args env := by rfl) (hplain : (backTo pos (starEach (e :: args) env)).any (·.1) = false := by rfl) (hd : (id == ("__debug__" : Str)) = false := by decide) :
    wpAny M A (eval (.Call (.Name id p) (e :: args) [] pos) env) Q E s := by
  refine wpAny_Call_Name_kw (Calls.Name_function_global hk hx (Calls.loadGlobal_builtin hg hmg hb hmb ?_) hd)
  refine Calls.callWith_builtin hplain ?_
  rw [he] at h ⊢
  exact Calls.evalArgs_plain h
end
end Mine
end
section
open PySem PySem.W PyProof.Rows
set_option maxRecDepth 100000
set_option maxHeartbeats 4000000
namespace Mine
section
variable {M : Model} {A : Around} {E : Value → Shared → Prop} {s : Shared} {env : Env}
theorem wpC_callWith_function {pos : Pos} {a : Addr} {o : Obj} {fd : FuncData} {args : List (Bool × Sem Value)} {keywords : List (Option Str × Sem Value)} {Q : Value → Shared → Prop}
    (h : wpC M A (evalArgs (.ref a) true args keywords) (fun x s₁ => (s₁.heap.get? a = some o ∧ o.data = .func fd) ∧ wpC M A (call (.ref a) x.pos x.kw) Q E s₁) E s) :
    wpC M A (callWith pos (.ref a) [] args keywords) Q E s := by
  unfold callWith
  refine wpC_bind (wpC_holding (wpC_mono h (fun x s₁ h₁ => wpC_bind (wpC_standAt ?_)) fun _ _ x => x))
  have tail : ∀ {t : Sem Value}, wpC M A t Q E s₁ → wpC M A (t >>= fun r => holding [r] point >>= fun _ => pure r) Q E s₁ :=
    fun ht => wpC_bind (wpC_mono ht (fun r s₂ hr => wpC_bind (wpC_holding (wpC_point (wpC_pure hr)))) fun _ _ x => x)
  cases hs : (args.any (·.1) || keywords.any (·.1.isNone)) <;>
    refine wpC_bind (m := keeperOf (.ref a)) ?_ <;> unfold keeperOf <;>
    refine wpC_bind (wpC_load h₁.1.1 ?_) <;> rw [h₁.1.2] <;> refine wpC_pure ?_
  · simp only
    split <;> first
      | exact tail h₁.2
      | exact tail (by unfold callMarked; exact wpC_keep h₁.2)
  · first
      | exact tail (by unfold callMarked; exact wpC_keep h₁.2)
      | exact tail h₁.2

theorem wpC_Call_Name {id : Str} {p pos : Pos} {args : List Expr} {keywords : List Keyword} {Q : Value → Shared → Prop}
    (h : wpC M A (eval (.Name id p) env) (fun f s₁ => wpC M A (callWith pos f [] (backTo pos (starEach args env)) (backToKw pos (keywordEach keywords env))) Q E s₁) E s) :
    wpC M A (eval (.Call (.Name id p) args keywords pos) env) Q E s := by
  rw [arm_eval_Call_Name']
  exact wpC_bind h
end

/-- what a call of the function at f gives, in any heap that keeps the base -/
def SplitAt (prog : Program) (w : World) (base : Heap) (f : Addr) : Prop :=
  (∃ o fd, base.get? f = some o ∧ o.data = .func fd) ∧
  ∀ (A : Around) (s : Shared) (text : Str) (u : Tok) (kw : List (Str × Value)) (lim : Option Int) (R : Result → Shared → Prop), Up base s.heap → A.handled = none → A.depth < recursionLimit → A.units + 50 < cLine → text.length + 100 ≤ sizeLine →
    (match lim with | none => kw = [] | some b => ∃ t, kw = [(("maxlines" : Str), .int b t)]) →
    (∀ h' tk D, s.heap.objs.size ≤ D → (∃ its, LinesAt h' D its ∧ StrsAre its.toList (rowsUpTo text.cps lim)) → Up s.heap h' → R (.ok (.ret (.ref D))) { s with heap := h', toks := tk }) →
    codeC (M1 prog w) A (.call (.ref f) ⟨[.str text u], kw⟩) R s

end Mine
end
section
open PySem PySem.W PyProof.Rows
set_option maxRecDepth 100000
set_option maxHeartbeats 4000000
namespace Mine
theorem splitAt06 {prog : Program} {w : World} {base : Heap} {p : Program} {loose : List Str} {mean : ExcName → Option Value} {mg mb : Str → Option Value}
    (X : (Mine.hd06.heap_39 w.params).In base) (T : Top p loose mean mg mb base) : SplitAt prog w base 44 := by
  refine ⟨⟨_, _, X 44 _ rfl, rfl⟩, ?_⟩
  intro A s text u kw lim R up hh hroom hu hsz hkw hR
  have X' : (Mine.hd06.heap_39 w.params).In s.heap := fun a o e => up _ _ (X a o e)
  have h44 := X' 44 _ rfl
  have h37 := X' 37 _ rfl
  cases lim with
  | none =>
    obtain rfl := hkw
    refine split06 (u := u) (mx := .none) (lim := none) X' (T.keeps up) hh hroom hu rfl hsz (fun fd o e1 e2 => ?_) fun h' tk D a b c => hR h' tk D a (by obtain ⟨its, n, x, y⟩ := b; exact ⟨its, ⟨n, x⟩, y⟩) c
    rw [h44] at e1; cases e1; cases e2
    exact BindsTo.of_defaults rfl h37 rfl rfl rfl
  | some b =>
    obtain ⟨t, rfl⟩ := hkw
    refine split06 (u := u) (mx := .int b t) (lim := some b) X' (T.keeps up) hh hroom hu ⟨t, rfl⟩ hsz (fun fd o e1 e2 => ?_) fun h' tk D a b c => hR h' tk D a (by obtain ⟨its, n, x, y⟩ := b; exact ⟨its, ⟨n, x⟩, y⟩) c
    rw [h44] at e1; cases e1; cases e2
    exact BindsTo.of_defaults rfl h37 rfl rfl rfl
end Mine
end
section
open PySem PySem.W PyProof.Rows
set_option maxRecDepth 100000
set_option maxHeartbeats 1000000
namespace Mine
structure LawEnv (env : Env) (c : Addr) : Prop where
  fn : env.scope.kind = .function
  script : env.kindOf "script" = some .local
  text : env.kindOf "text" = some .cell
  cell : env.cells.lookup ("text" : Str) = some c
  ends : env.kindOf "ends" = some .local
  due : env.kindOf "due" = some .local
  told : env.kindOf "told" = some .local
  bound : env.kindOf "bound" = some .local
  len : env.kindOf "len" = some .globalImplicit
  zip : env.kindOf "zip" = some .globalImplicit
  max : env.kindOf "max" = some .globalImplicit
  split : env.kindOf "_splitlines_no_ff" = some .globalImplicit
  stores : (env.scope.kind == .class || (env.scope.kind == .module && env.locals != env.globals)) = false
  plain : interactive env = false
structure LawTop (h : Heap) (env : Env) (f : Addr) : Prop where
  glob : ∃ mg, h.Ns env.globals mg ∧ mg "_splitlines_no_ff" = some (.ref f) ∧ mg "len" = none ∧ mg "zip" = none ∧ mg "max" = none
  blt : ∃ mb, h.Ns env.builtins mb ∧ mb "len" = some (.builtin "len") ∧ mb "zip" = some (.type "zip") ∧ mb "max" = some (.builtin "max")
theorem LawTop.up {h h' : Heap} {env : Env} {f : Addr} (t : LawTop h env f) (k : Up h h') : LawTop h' env f :=
  ⟨let ⟨mg, a, b⟩ := t.glob; ⟨mg, a.keeps k, b⟩, let ⟨mb, a, b⟩ := t.blt; ⟨mb, a.keeps k, b⟩⟩

def dueOf (text : Str) (ends : List Int) : List Str := List.zipWith (fun a b => Txt.slice text (some a) (some b)) (0 :: ends) (ends ++ [(text.length : Int)])

def dueScope : Scope := { kind := .function, names := [(".0", .local), ("a", .local), ("b", .local), ("text", .free)], isGenerator := false, isCoroutine := false }

section
variable {prog : Program} {w : World} {A : Around} {E : Value → Shared → Prop} {s : Shared} {env : Env}

theorem eval_len_text {p1 p2 p3 : Pos} {c f : Addr} {text : Str} {u : Tok} {Q : Value → Shared → Prop} (V : LawEnv env c) (T : LawTop s.heap env f) (hc : s.heap.IsCell c (some (.str text u))) (hsz : text.length ≤ 100000)
    (h : Q (.int text.length (s.toks + 1)) { s with toks := s.toks + 1 + 1 }) : wpAny (model prog w) A (eval (.Call (.Name "len" p1) [.Name "text" p2] [] p3) env) Q E s := by
  obtain ⟨mg, hg, _, g1, _⟩ := T.glob
  obtain ⟨mb, hb, b1, _⟩ := T.blt
  refine call_name_builtin V.fn V.len hg g1 hb b1 (PyProof.Rows.spliced_more (eval_cell V.fn V.text V.cell hc (PyProof.Rows.spliced_none ?_)))
  exact P.len_str (by omega) h

theorem strs_of {its : Array Value} {l : List Str} (hn : its.size = l.length) (h : ∀ (i : Nat) y, its[i]? = some y → ∃ x t, l[i]? = some x ∧ y = Value.str x t) : StrsAre its.toList l := by
  obtain ⟨L⟩ := its
  simp only [List.size_toArray, List.getElem?_toArray] at hn h ⊢
  induction L generalizing l with
  | nil => cases l with
    | nil => exact .nil
    | cons _ _ => simp at hn
  | cons v r ih => cases l with
    | nil => simp at hn
    | cons x xs =>
      obtain ⟨x', t, e1, rfl⟩ := h 0 v rfl
      simp at e1; subst e1
      exact .cons _ _ (ih (by simpa using hn) fun i y e => by have := h (i + 1) y (by simpa using e); simpa using this)

theorem due_exec {p1 p2 p3 p4 p5 p6 p7 p8 p9 p10 p11 p12 p13 p14 p15 p16 p17 p18 p19 p20 p21 p22 p23 : Pos} {k k' : Nat} {c f De : Addr} {text : Str} {u : Tok} {m : Str → Option Value} {ys : Array Value} {ends : List Int} {Q : Flow → Shared → Prop}
    (V : LawEnv env c) (T : LawTop s.heap env f) (hh : A.handled = none) (hc : s.heap.IsCell c (some (.str text u))) (hn : s.heap.Ns env.locals m) (hm : m "ends" = some (.ref De)) (hD : LinesAt s.heap De ys) (hy : IntsAre ys.toList ends)
    (hsz : text.length ≤ 100000) (hle : ends.length ≤ text.length)
    (hsw : swapsWith (.ListComp (.Subscript (.Name "text" p1) (.Slice (some (.Name "a" p2)) (some (.Name "b" p3)) none p4) p5) [⟨.Tuple [.Name "a" p6, .Name "b" p7] k p8,
      .Call (.Name "zip" p9) [.BinOp (.List [.Constant (.int 0) k' p10] p11) .Add (.Name "ends" p12) p13, .BinOp (.Name "ends" p14) .Add (.List [.Call (.Name "len" p15) [.Name "text" p16] [] p17] p18) p19] [] p20, [], 0⟩] dueScope p21) (some (.Name "due" p22)) p23.line env = pure true)
    (hclos : closureFor dueScope env = pure [(("text" : Str), c)])
    (hQ : ∀ D h' tk its, s.heap.get? D = none → LinesAt h' D its → StrsAre its.toList (dueOf text ends) → h'.Ns env.locals (fun z => if z = "due" then some (.ref D) else m z) →
      (∀ b o, b ≠ env.locals → s.heap.get? b = some o → h'.get? b = some o) → Q .next { s with heap := h', toks := tk }) :
    wpAny (model prog w) A (exec (.Assign [.Name "due" p22] (.ListComp (.Subscript (.Name "text" p1) (.Slice (some (.Name "a" p2)) (some (.Name "b" p3)) none p4) p5) [⟨.Tuple [.Name "a" p6, .Name "b" p7] k p8,
      .Call (.Name "zip" p9) [.BinOp (.List [.Constant (.int 0) k' p10] p11) .Add (.Name "ends" p12) p13, .BinOp (.Name "ends" p14) .Add (.List [.Call (.Name "len" p15) [.Name "text" p16] [] p17] p18) p19] [] p20, [], 0⟩] dueScope p21) p23) env) Q E s := by
  obtain ⟨mg, hg, _, g1, g2, _⟩ := T.glob
  obtain ⟨mb, hb, b1, b2, _⟩ := T.blt
  obtain ⟨nD, hDe⟩ := hD
  have hys : ys.size = ends.length := by rw [← Array.length_toList]; exact hy.length
  refine Assign_ListComp_zip (F := fun i y => ∃ x t, (dueOf text ends)[i]? = some x ∧ y = Value.str x t) hsw hclos (by decide) rfl (by decide) rfl rfl (by decide) V.due V.stores hh ?_
  refine call_name_type V.fn V.zip hg g2 hb b2 ?_
  refine PyProof.Rows.spliced_more (wpAny_BinOp (wpAny_List (PyProof.Rows.spliced_more (wpAny_Constant_int (PyProof.Rows.spliced_none ⟨by simp [sizeLine_eq], ?_⟩)))))
  refine eval_local V.fn V.ends (m := m) (hn.push _) hm ?_
  have u1 : Up s.heap (s.heap.push { cls := .type "list", data := .seq [Value.int 0 s.toks].toArray }) := .push _ _
  refine P.add_list (Heap.get?_push_size _ rfl) (u1 _ _ hDe) ?_ (by simp [sizeLine_eq]; omega)
  generalize hL1 : ([Value.int 0 s.toks].toArray ++ ys) = L1
  generalize hH1 : (s.heap.push { cls := .type "list", data := .seq [Value.int 0 s.toks].toArray }) = H1 at u1 ⊢
  have z1 : H1.objs.size = s.heap.objs.size + 1 := by rw [← hH1, Heap.size_push]
  have u2 : Up s.heap (H1.push { cls := .type "list", data := .seq L1 }) := u1.trans (.push _ _)
  refine PyProof.Rows.spliced_more (wpAny_BinOp (eval_local V.fn V.ends (m := m) (hn.keeps u2) hm ?_))
  refine wpAny_List (PyProof.Rows.spliced_more (eval_len_text V (T.up u2) (IsCell.up hc u2) hsz (PyProof.Rows.spliced_none ⟨by simp [sizeLine_eq], ?_⟩)))
  have g1' : (H1.push { cls := .type "list", data := .seq L1 }).get? H1.objs.size = some { cls := .type "list", data := .seq L1 } := Heap.get?_push_size _ rfl
  generalize hH2 : (H1.push { cls := .type "list", data := .seq L1 }) = H2 at u2 g1' ⊢
  have z2 : H2.objs.size = s.heap.objs.size + 2 := by rw [← hH2, Heap.size_push, z1]
  have u3 : Up H2 (H2.push { cls := .type "list", data := .seq [Value.int text.length (s.toks + 1 + 1)].toArray }) := .push _ _
  refine P.add_list (l := De) (b := H2.objs.size) ((u2.trans u3) _ _ hDe) (Heap.get?_push_size _ rfl) ?_ (by simp [sizeLine_eq]; omega)
  generalize hL2 : (ys ++ [Value.int text.length (s.toks + 1 + 1)].toArray) = L2
  generalize hH3 : (H2.push { cls := .type "list", data := .seq [Value.int text.length (s.toks + 1 + 1)].toArray }) = H3 at u3 ⊢
  have z3 : H3.objs.size = s.heap.objs.size + 3 := by rw [← hH3, Heap.size_push, z2]
  have u4 : Up H3 (H3.push { cls := .type "list", data := .seq L2 }) := .push _ _
  have g3' : (H3.push { cls := .type "list", data := .seq L2 }).get? H3.objs.size = some { cls := .type "list", data := .seq L2 } := Heap.get?_push_size _ rfl
  refine PyProof.Rows.spliced_none ?_
  generalize hH4 : (H3.push { cls := .type "list", data := .seq L2 }) = H4 at u4 g3' ⊢
  have z4 : H4.objs.size = s.heap.objs.size + 4 := by rw [← hH4, Heap.size_push, z3]
  have uA : Up s.heap H4 := (u2.trans u3).trans u4
  have hl1 : H4.IsList H1.objs.size L1 := ⟨_, (u3.trans u4) _ _ g1', rfl, _, rfl⟩
  have hl2 : H4.IsList H3.objs.size L2 := ⟨_, g3', rfl, _, rfl⟩
  refine call_zip_2 hl1 hl2 fun h' hz hTI hTO hi1 hi2 hsz' hk => ?_
  have hz0 : ∀ b o, s.heap.get? b = some o → b < s.heap.objs.size := fun b o e => Heap.lt_size e
  dsimp only at hz hTI hTO hi1 hi2 hsz' hk ⊢
  generalize hN : H4.objs.size = N at *
  generalize hN1 : H1.objs.size = N1 at *
  generalize hN3 : H3.objs.size = N3 at *
  refine wpAny_pyIter_zip hz ?_
  have ap : ZipApart (N + 4) (N + 2) (N + 3) N (N + 1) N1 N3 := by
    constructor <;> (intro e; have e' : (_ : Nat) = _ := e; omega)
  have key : ∀ b : Nat, b < s.heap.objs.size → ¬ (b = N + 4 ∨ b = N + 3 ∨ b = N ∨ b = N + 1) := by intro b hb; omega
  have hL : ∀ b o, s.heap.get? b = some o → b ∉ [N + 4, N + 3, N, N + 1] := fun b o e hm => key b (hz0 b o e) (by simpa using hm)
  have lk : ∀ {a : Addr} {l : Array Value}, H4.IsList a l → h'.IsList a l := fun x => let ⟨o, e, r⟩ := x; ⟨o, hk _ _ e, r⟩
  have sL1 : L1.size = ends.length + 1 := by rw [← hL1]; simp; omega
  have sL2 : L2.size = ends.length + 1 := by rw [← hL2]; simp; omega
  have sD : (dueOf text ends).length = ends.length + 1 := by simp [dueOf]
  have at1 : ∀ (i : Nat) v, L1[i]? = some v → ∃ a t, (0 :: ends)[i]? = some a ∧ v = Value.int a t := by
    intro i v e
    have hi : IntsAre (Value.int 0 s.toks :: ys.toList) (0 :: ends) := .cons _ _ hy
    have e' : (Value.int 0 s.toks :: ys.toList)[i]? = some v := by rw [← hL1] at e; rw [← e, ← Array.getElem?_toList]; simp
    exact let ⟨k, t, e1, e2⟩ := IntsAre.at hi i v e'; ⟨k, t, e2, e1⟩
  have at2 : ∀ (i : Nat) v, L2[i]? = some v → ∃ a t, (ends ++ [(text.length : Int)])[i]? = some a ∧ v = Value.int a t := by
    intro i v e
    have hi : IntsAre (ys.toList ++ [Value.int text.length (s.toks + 1 + 1)]) (ends ++ [(text.length : Int)]) := IntsAre.append hy (.cons _ _ .nil)
    have e' : (ys.toList ++ [Value.int text.length (s.toks + 1 + 1)])[i]? = some v := by rw [← hL2] at e; rw [← e, ← Array.getElem?_toList]; simp
    exact let ⟨k, t, e1, e2⟩ := IntsAre.at hi i v e'; ⟨k, t, e2, e1⟩
  refine ⟨N + 4, _, _, _, _, _, _, m, rfl, WalksT.zip2 hh (N + 4) (N + 2) (N + 3) N (N + 1) N1 N3 ap L1 L2, ?_, ⟨hz, hTI, ⟨_, _, hTO⟩, hi1, hi2, lk hl1, lk hl2⟩, ?_, ?_, hn.keeps (uA.trans hk), ?_, ?_, ?_⟩
  · rw [sL1, sL2, sizeLine_eq]; omega
  · intro b hb
    have hb' : (b : Nat) = N + 4 ∨ b = N + 2 ∨ b = N + 3 ∨ b = N ∨ b = N + 1 ∨ b = N1 ∨ b = N3 := by simpa using hb
    have : ∀ b : Nat, (b = N + 4 ∨ b = N + 2 ∨ b = N + 3 ∨ b = N ∨ b = N + 1 ∨ b = N1 ∨ b = N3) → b < h'.objs.size := by intro b hb; omega
    exact this b hb'
  · obtain ⟨o, _, _, ho, _⟩ := hn
    exact hL _ _ ho
  · rintro i vals ⟨x, y, _, _, rfl⟩; exact ⟨x, y, rfl⟩
  · intro C i va vb s₃ m₃ E' hC hi hP hns ha hb' hk₃
    obtain ⟨x, y, e1, e2, e3⟩ := hP
    cases e3
    obtain ⟨av, ta, ea, rfl⟩ := at1 i _ e1
    obtain ⟨bv, tb, eb, rfl⟩ := at2 i _ e2
    have hcell : s₃.heap.IsCell c (some (.str text u)) := by
      obtain ⟨o, e, d⟩ := hc
      exact ⟨o, hk₃ _ _ (hL _ _ e) ((uA.trans hk) _ _ e), d⟩
    have hkt : (compEnvC dueScope [(("text" : Str), c)] C env).kindOf "text" = some .cell := by
      show (relabel dueScope env).names.lookup _ = _
      simp [relabel, dueScope, V.fn, V.text]
      decide
    refine eval_slice_ss (by rw [sizeLine_eq]; omega) (fun Q' h => eval_cell rfl hkt rfl hcell h) (i := av) (ui := ta) (fun Q' h => eval_local rfl ?_ hns ha (h s₃.toks)) (j := bv) (uj := tb) (fun tk Q' h => eval_local rfl ?_ (by exact hns) hb' (h tk)) fun h₅ t₅ k₅ u₅ => ?_
    · exact lookup_relabel_local (by decide)
    · exact lookup_relabel_local (by decide)
    · refine ⟨⟨_, t₅, ?_, rfl⟩, h₅, k₅, rfl, u₅⟩
      unfold dueOf
      rw [List.getElem?_zipWith, ea, eb]
  · intro D h₅ tk its hD hLa hsz₅ hF hn₅ hk₅
    refine hQ D h₅ _ its ?_ hLa (strs_of (by rw [hsz₅, sL1, sL2, sD]; omega) hF) hn₅ fun b o hb e => hk₅ b o hb (hL b o e) ((uA.trans hk) b o e)
    cases q : s.heap.get? D with
    | none => rfl
    | some o => rw [(uA.trans hk) _ _ q] at hD; cases hD
end
end Mine
end
section
open PySem PySem.W PyProof.Rows PyProof.V
set_option maxRecDepth 100000
set_option maxHeartbeats 1000000
namespace Mine
theorem carried_strs : ∀ {vs : List Value} {xs : List Str}, StrsAre vs xs → CarriedAll vs (xs.map PyData.str)
  | _, _, .nil => .nil
  | _, _, .cons _ _ r => .cons (.str _ _) (carried_strs r)
theorem depth_strs : ∀ ns : List Str, PyData.depthAll (ns.map PyData.str) = 0
  | [] => rfl
  | _ :: r => by simp [PyData.depthAll, PyData.depth, depth_strs r]
theorem shaped_strs (ns : List Str) (h : ∀ x ∈ ns, PyData.strOk x = true) : SeqAt.shaped (.list (ns.map PyData.str)) = true := by
  simp only [SeqAt.shaped, PyData.canLay0, PyData.depth, PyProof.Rows.canLayAll_strs', depth_strs, List.all_eq_true.mpr h]
  rfl
theorem sameAll_strs : ∀ ns ms : List Str, PySem.Spec.sameAll (ns.map PyData.str) (ms.map PyData.str) = decide (ns = ms)
  | [], [] => by simp [PySem.Spec.sameAll]
  | [], _ :: _ => by simp [PySem.Spec.sameAll]
  | _ :: _, [] => by simp [PySem.Spec.sameAll]
  | a :: r, b :: t => by
    simp only [List.map_cons, PySem.Spec.sameAll, PySem.Spec.same, sameAll_strs r t]
    by_cases h : a = b <;> by_cases h' : r = t <;> simp [h, h']
theorem same_strs (ns ms : List Str) : PySem.Spec.same (.list (ns.map PyData.str)) (.list (ms.map PyData.str)) = decide (ns = ms) := by
  simp only [PySem.Spec.same]; exact sameAll_strs ns ms
section
variable {prog : Program} {w : World} {A : Around} {E : Value → Shared → Prop} {s : Shared} {env : Env} {a b : Addr} {xs ys : Array Value} {ns ms : List Str} {Q : Value → Shared → Prop}
theorem eq_strs (ha : s.heap.IsList a xs) (hb : s.heap.IsList b ys) (hi : StrsAre xs.toList ns) (hj : StrsAre ys.toList ms) (o1 : ∀ x ∈ ns, PyData.strOk x = true) (o2 : ∀ x ∈ ms, PyData.strOk x = true) (hu : A.units + 64 < cLine) (h : Q (.bool (decide (ns = ms))) s) :
    wpAny (model prog w) A (compareOp .Eq (.ref a) (.ref b)) Q E s :=
  eq_dataH_same (reads_newData (ys := xs.toList) ha (carried_strs hi)) (reads_newData (ys := ys.toList) hb (carried_strs hj)) (shaped_strs _ o1) (shaped_strs _ o2) hu (SeqAt.noMix_of_shape (.list .str) rfl _ _ (list_map_has fun _ => rfl) (list_map_has fun _ => rfl)) (by rw [same_strs]; exact h)
theorem ne_strs (ha : s.heap.IsList a xs) (hb : s.heap.IsList b ys) (hi : StrsAre xs.toList ns) (hj : StrsAre ys.toList ms) (o1 : ∀ x ∈ ns, PyData.strOk x = true) (o2 : ∀ x ∈ ms, PyData.strOk x = true) (hu : A.units + 64 < cLine) (h : Q (.bool (!decide (ns = ms))) s) :
    wpAny (model prog w) A (compareOp .NotEq (.ref a) (.ref b)) Q E s :=
  ne_dataH_same (reads_newData (ys := xs.toList) ha (carried_strs hi)) (reads_newData (ys := ys.toList) hb (carried_strs hj)) (shaped_strs _ o1) (shaped_strs _ o2) hu (SeqAt.noMix_of_shape (.list .str) rfl _ _ (list_map_has fun _ => rfl) (list_map_has fun _ => rfl)) (by rw [same_strs]; exact h)
end
end Mine
end
section
open PySem PySem.W PyProof.Rows
set_option maxRecDepth 100000
set_option maxHeartbeats 1000000
namespace Mine
def emptyStr : Str := ⟨#[]⟩
section
variable {prog : Program} {w : World} {A : Around} {E : Value → Shared → Prop} {s : Shared} {env : Env}

theorem strs_getElem : ∀ {vs : List Value} {xs : List Str}, StrsAre vs xs → ∀ (i : Nat) x, xs[i]? = some x → ∃ t, vs[i]? = some (.str x t)
  | _, _, .nil, i, x, e => by simp at e
  | _, _, .cons y t r, 0, x, e => by simp at e; subst e; exact ⟨t, rfl⟩
  | _, _, .cons y t r, i + 1, x, e => strs_getElem r i x (by simpa using e)
theorem strs_length : ∀ {vs : List Value} {xs : List Str}, StrsAre vs xs → vs.length = xs.length
  | _, _, .nil => rfl
  | _, _, .cons _ _ r => by simp [strs_length r]

/-- the last item of a list of texts -/
theorem item_last {D : Addr} {its : Array Value} {init : List Str} {last : Str} {u : Tok} {Q : Value → Shared → Prop} (hD : LinesAt s.heap D its) (hS : StrsAre its.toList (init ++ [last])) (h : ∀ t, Q (.str last t) s) :
    ItemOn (model prog w) A E (.ref D) (.int (-1) u) Q s := by
  have hl := strs_length hS
  have hsz : its.size = init.length + 1 := by rw [← Array.length_toList, hl]; simp
  obtain ⟨t, ht⟩ := strs_getElem hS init.length last (by simp)
  refine ⟨"list", _, F.slot_list_getitem.lookup, hD.lst.typeIs, wpAny_getItem_list_neg hD.lst (by decide) (by omega) (by decide) (x := .str last t) ?_ (h t)⟩
  have : ((-1 : Int) + (its.size : Int)).toNat = init.length := by omega
  rw [this, ← Array.getElem?_toList]; exact ht

theorem exec_append_const {p1 p2 p3 p4 p5 : Pos} {k : Nat} {x y : Str} {m : Str → Option Value} {D : Addr} {its : Array Value} {Q : Flow → Shared → Prop} (hk : env.scope.kind = .function) (hp : interactive env = false) (hl : env.kindOf x = some .local)
    (hn : s.heap.Ns env.locals m) (hm : m x = some (.ref D)) (hD : LinesAt s.heap D its) (hits : its.size ≤ sizeLine) (hline : (p2.endLine == p4.line) = true)
    (hsw : swapsWith (.Call (.Attribute (.Name x p1) "append" p2) [.Constant (.str y) k p3] [] p4) none p5.line env = pure false)
    (h : ∀ h' tk t, LinesAt h' D (its.push (.str y t)) → Heap.SameBut D s.heap h' → Q .next { s with heap := h', toks := tk }) (hd : (x == ("__debug__" : Str)) = false := by decide) :
    wpAny (model prog w) A (exec (.Expr (.Call (.Attribute (.Name x p1) "append" p2) [.Constant (.str y) k p3] [] p4) p5) env) Q E s := by
  refine wpAny_Expr ?_ hp hsw
  obtain ⟨n, hl'⟩ := id hD
  refine wpAny_Call_method (T := "list") (id := "list.append") rfl rfl hline plain_list slot_list_append type_list_append ?_
  refine eval_local hk hl hn hm ⟨⟨_, hl', rfl⟩, (fun a e => by cases e; exact ⟨_, hl', rfl⟩), ?_⟩ hd
  refine Calls.callWith_builtin rfl (Calls.evalArgs_plain (Calls.spliced_cons ?_))
  refine wpAny_Constant_str (x := y) (k := k) (pos := p3) (Calls.spliced_nil ?_)
  exact append_at (s := { s with toks := s.toks + 1 }) hD hits fun h' a b => h h' _ _ a b

theorem if_exec {p1 p2 p3 p4 p5 p6 p7 p8 p9 p10 p11 p12 : Pos} {k k' k'' : Nat} {c : Addr} {m : Str → Option Value} {D : Addr} {its : Array Value} {init : List Str} {last : Str} {Q : Flow → Shared → Prop} (V : LawEnv env c)
    (hn : s.heap.Ns env.locals m) (hm : m "due" = some (.ref D)) (hD : LinesAt s.heap D its) (hS : StrsAre its.toList (init ++ [last])) (hsz : its.size ≤ sizeLine) (hline : (p8.endLine == p10.line) = true)
    (hsw : swapsWith (.Call (.Attribute (.Name "due" p7) "append" p8) [.Constant (.str "") k'' p9] [] p10) none p11.line env = pure false)
    (h : ∀ h' tk its', LinesAt h' D its' → StrsAre its'.toList (if last = emptyStr then init ++ [last] else init ++ [last] ++ [emptyStr]) → (∀ b o, b ≠ D → s.heap.get? b = some o → h'.get? b = some o) → Q .next { s with heap := h', toks := tk }) :
    wpAny (model prog w) A (exec (.If (.Compare (.Subscript (.Name "due" p1) (.UnaryOp .USub (.Constant (.int 1) k p2) p3) p4) [.NotEq] [.Constant (.str "") k' p5] p6) [.Expr (.Call (.Attribute (.Name "due" p7) "append" p8) [.Constant (.str "") k'' p9] [] p10) p11] [] p12) env) Q E s := by
  refine wpAny_If (wpAny_isTrue_Compare1 ?_)
  refine Subscript_UnaryOp (eval_local V.fn V.due hn hm (UnaryOp_ (wpAny_Constant_int (neg_int ?_))))
  refine item_last hD hS fun t => ?_
  refine wpAny_Constant_str (P.ne_str (wpAny_truthy_bool ?_))
  have he : (Str.ofString "").cps.toList = [] := by decide
  have hb : (last.cps.toList != (("" : Str).cps.toList)) = decide (last ≠ emptyStr) := by
    show (last.cps.toList != (Str.ofString "").cps.toList) = _
    rw [he]
    obtain ⟨⟨l⟩⟩ := last
    cases l <;> simp [emptyStr]
  rw [hb]
  by_cases hl : last = emptyStr
  · rw [if_neg (by simp [hl])]
    refine wpAny_execs_nil ?_
    exact h s.heap _ its hD (by rw [if_pos hl]; exact hS) fun _ _ _ e => e
  · rw [if_pos (by simp [hl])]
    refine wpAny_execs_cons (exec_append_const V.fn V.plain V.due hn hm hD hsz hline hsw fun h' tk t hL hs => wpAny_execs_nil ?_)
    refine h h' _ _ hL ?_ hs.extBut
    rw [if_neg hl, Array.toList_push]
    have : emptyStr = ("" : Str) := by decide
    rw [this]
    exact strs_snoc _ _ hS

/-- a call of the function, with no bound -/
theorem eval_split0 {p1 p2 p3 : Pos} {base : Heap} {c f : Addr} {text : Str} {u : Tok} {Q : Value → Shared → Prop} (V : LawEnv env c) (T : LawTop s.heap env f) (hS : SplitAt prog w base f) (up : Up base s.heap)
    (hc : s.heap.IsCell c (some (.str text u))) (hh : A.handled = none) (hroom : A.depth < recursionLimit) (hu : A.units + 50 < cLine) (hsz : text.length + 100 ≤ sizeLine)
    (hQ : ∀ h' tk D its, s.heap.objs.size ≤ D → LinesAt h' D its → StrsAre its.toList (rowsUpTo text.cps none) → Up s.heap h' → Q (.ref D) { s with heap := h', toks := tk }) :
    wpC (M1 prog w) A (eval (.Call (.Name "_splitlines_no_ff" p1) [.Name "text" p2] [] p3) env) Q E s := by
  obtain ⟨mg, hg, hf, _⟩ := T.glob
  obtain ⟨⟨o, fd, ho, hd⟩, hS⟩ := hS
  refine wpC_Call_Name (wpC_of_any (any1 (Calls.Name_function_global V.fn V.split (Calls.loadGlobal_global hg hf ?_))))
  refine wpC_callWith_function (o := o) (fd := fd) (wpC_of_any (any1 (Calls.evalArgs_plain (Calls.spliced_cons (eval_cell V.fn V.text V.cell hc (Calls.spliced_nil ⟨⟨up _ _ ho, hd⟩, ?_⟩))))))
  refine wpC_call (hS A s text u [] none _ up hh hroom hu hsz rfl fun h' tk D a b c => ?_)
  obtain ⟨its, b1, b2⟩ := b
  exact hQ h' tk D its a b1 b2 c

/-- a call of the function, with the bound -/
theorem eval_split1 {p1 p2 p3 p4 p5 : Pos} {base : Heap} {c f : Addr} {text : Str} {u : Tok} {m : Str → Option Value} {b : Int} {t : Tok} {Q : Value → Shared → Prop} (V : LawEnv env c) (T : LawTop s.heap env f) (hS : SplitAt prog w base f) (up : Up base s.heap)
    (hc : s.heap.IsCell c (some (.str text u))) (hn : s.heap.Ns env.locals m) (hm : m "bound" = some (.int b t)) (hh : A.handled = none) (hroom : A.depth < recursionLimit) (hu : A.units + 50 < cLine) (hsz : text.length + 100 ≤ sizeLine)
    (hQ : ∀ h' tk D its, s.heap.objs.size ≤ D → LinesAt h' D its → StrsAre its.toList (rowsUpTo text.cps (some b)) → Up s.heap h' → Q (.ref D) { s with heap := h', toks := tk }) :
    wpC (M1 prog w) A (eval (.Call (.Name "_splitlines_no_ff" p1) [.Name "text" p2] [⟨some "maxlines", .Name "bound" p3, p4⟩] p5) env) Q E s := by
  obtain ⟨mg, hg, hf, _⟩ := T.glob
  obtain ⟨⟨o, fd, ho, hd⟩, hS⟩ := hS
  refine wpC_Call_Name (wpC_of_any (any1 (Calls.Name_function_global V.fn V.split (Calls.loadGlobal_global hg hf ?_))))
  refine wpC_callWith_function (o := o) (fd := fd) (wpC_of_any (any1 (evalArgs_kw rfl (Calls.spliced_cons (eval_cell V.fn V.text V.cell hc (Calls.spliced_nil ?_))))))
  refine wpAny_evalAll_cons ?_
  show wpAny _ _ (eval (.Name "bound" p3) env >>= fun v => standAt p5 >>= fun _ => pure v) _ _ _
  refine wpAny_bind (eval_local V.fn V.bound hn hm (wpAny_bind (wpAny_standAt (wpAny_pure (wpAny_evalAll_nil ⟨⟨up _ _ ho, hd⟩, ?_⟩)))))
  refine wpC_call (hS A s text u _ (some b) _ up hh hroom hu hsz ⟨t, rfl⟩ fun h' tk D a b c => ?_)
  obtain ⟨its, b1, b2⟩ := b
  exact hQ h' tk D its a b1 b2 c
end
end Mine
end
section
open PySem PySem.W PyProof.Rows
set_option maxRecDepth 100000
set_option maxHeartbeats 2000000
namespace Mine
section
variable {prog : Program} {w : World} {A : Around} {E : Value → Shared → Prop} {s : Shared} {env : Env}

theorem eval_len_due {p1 p2 p3 : Pos} {c f D : Addr} {m : Str → Option Value} {its : Array Value} {Q : Value → Shared → Prop} (V : LawEnv env c) (T : LawTop s.heap env f) (hn : s.heap.Ns env.locals m) (hm : m "due" = some (.ref D)) (hD : LinesAt s.heap D its) (hits : its.size ≤ 100000)
    (h : Q (.int its.size (s.toks + 1)) { s with toks := s.toks + 1 + 1 }) : wpAny (model prog w) A (eval (.Call (.Name "len" p1) [.Name "due" p2] [] p3) env) Q E s := by
  obtain ⟨mg, hg, _, g1, _⟩ := T.glob
  obtain ⟨mb, hb, b1, _⟩ := T.blt
  refine call_name_builtin V.fn V.len hg g1 hb b1 (PyProof.Rows.spliced_more (eval_local V.fn V.due hn hm (PyProof.Rows.spliced_none ?_)))
  exact Calls.call_len_list hD.lst (by omega) h

theorem ints_take : ∀ (n : Nat) {vs : List Value} {xs : List Int}, IntsAre vs xs → IntsAre (vs.take n) (xs.take n)
  | 0, _, _, _ => by simpa using IntsAre.nil
  | _ + 1, _, _, .nil => by simpa using IntsAre.nil
  | n + 1, _, _, .cons a t r => by simpa using IntsAre.cons a t (ints_take n r)

theorem eval_bounds {p1 p2 p3 p4 p5 p6 p7 p8 p9 p10 p11 p12 p13 p14 p15 p16 p17 p18 p19 p20 p21 p22 p23 : Pos} {k1 k2 k3 k4 k5 k6 : Nat} {c f D sl : Addr} {m : Str → Option Value} {its zs : Array Value} {xs : List Int} {Q : Value → Shared → Prop}
    (V : LawEnv env c) (T : LawTop s.heap env f) (hn : s.heap.Ns env.locals m) (hs : m "script" = some (.ref sl)) (hm : m "due" = some (.ref D)) (hl : s.heap.IsList sl zs) (hz : IntsAre zs.toList xs) (hzs : zs.size ≤ 100000)
    (hD : LinesAt s.heap D its) (hits : its.size ≤ 100000)
    (hQ : ∀ h' tk a its' bs, LinesAt h' a its' → IntsAre its'.toList bs → its'.size ≤ sizeLine → s.heap.objs.size ≤ a → Up s.heap h' → Q (.ref a) { s with heap := h', toks := tk }) :
    wpAny (model prog w) A (eval (.BinOp (.Subscript (.Name "script" p1) (.Slice none (some (.Constant (.int 3) k1 p2)) none p3) p4) .Add
      (.List [.UnaryOp .USub (.Constant (.int 1) k2 p5) p6, .Constant (.int 0) k3 p7, .Constant (.int 1) k4 p8, .BinOp (.Call (.Name "len" p9) [.Name "due" p10] [] p11) .Sub (.Constant (.int 1) k5 p12) p13,
        .Call (.Name "len" p14) [.Name "due" p15] [] p16, .BinOp (.Call (.Name "len" p17) [.Name "due" p18] [] p19) .Add (.Constant (.int 1) k6 p20) p21] p22) p23) env) Q E s := by
  refine wpAny_BinOp (wpAny_Subscript_list_slice (eval_local V.fn V.script hn hs (evalPart_none_step (evalPart_some_step (wpAny_Constant_int ⟨sl, zs, none, some 3, rfl, hl, by rw [sizeLine_eq]; omega, .none, .int _ _, ?_⟩)))))
  rw [show slicePick zs none (some 3) none = (zs.toList.take 3).toArray from slicePick_upto' zs 3]
  dsimp only
  generalize hH1 : (s.heap.push { cls := .type "slice", data := .fields #[Value.none, Value.int 3 s.toks, Value.none] }) = H1
  have u1 : Up s.heap H1 := hH1 ▸ .push _ _
  have z1 : H1.objs.size = s.heap.objs.size + 1 := by rw [← hH1, Heap.size_push]
  have u2 : Up s.heap (H1.push { cls := .type "list", data := .seq (zs.toList.take 3).toArray }) := u1.trans (.push _ _)
  have g2 : (H1.push { cls := .type "list", data := .seq (zs.toList.take 3).toArray }).get? (s.heap.objs.size + 1) = some { cls := .type "list", data := .seq (zs.toList.take 3).toArray } := by rw [← z1]; exact Heap.get?_push_size _ rfl
  generalize hH2 : (H1.push { cls := .type "list", data := .seq (zs.toList.take 3).toArray }) = H2 at u2 g2 ⊢
  have z2 : H2.objs.size = s.heap.objs.size + 2 := by rw [← hH2, Heap.size_push, z1]
  refine wpAny_List ?_
  refine PyProof.Rows.spliced_more (UnaryOp_ (wpAny_Constant_int (neg_int ?_)))
  refine PyProof.Rows.spliced_more (wpAny_Constant_int ?_)
  refine PyProof.Rows.spliced_more (wpAny_Constant_int ?_)
  refine PyProof.Rows.spliced_more (wpAny_BinOp (eval_len_due V (T.up u2) (hn.keeps u2) hm (hD.up u2) hits (wpAny_Constant_int (PyProof.Rows.sub_int ?_))))
  refine PyProof.Rows.spliced_more (eval_len_due V (T.up u2) (hn.keeps u2) hm (hD.up u2) hits ?_)
  refine PyProof.Rows.spliced_more (wpAny_BinOp (eval_len_due V (T.up u2) (hn.keeps u2) hm (hD.up u2) hits (wpAny_Constant_int (PyProof.Rows.add_int ?_))))
  refine PyProof.Rows.spliced_none ⟨by simp [sizeLine_eq], ?_⟩
  dsimp only
  refine P.add_list (l := s.heap.objs.size + 1) ((Up.push _ _) _ _ g2) (Heap.get?_push_size _ rfl) ?_ (by simp [sizeLine_eq]; omega)
  refine hQ _ _ _ _ (xs.take 3 ++ [-1, 0, 1, (its.size : Int) - 1, (its.size : Int), (its.size : Int) + 1]) ⟨_, Heap.get?_push_size _ rfl⟩ ?_ (by simp [sizeLine_eq]; omega) ?_ ?_
  · simp only [Array.toList_append]
    exact IntsAre.append (ints_take 3 hz) (.cons _ _ (.cons _ _ (.cons _ _ (.cons _ _ (.cons _ _ (.cons _ _ .nil))))))
  · simp only [Heap.size_push]; omega
  · exact (u2.trans (.push _ _)).trans (.push _ _)

theorem eval_cut {p1 p2 p3 p4 p5 p6 p7 : Pos} {k : Nat} {c f D : Addr} {m : Str → Option Value} {its : Array Value} {b : Int} {t : Tok} {Q : Value → Shared → Prop} (V : LawEnv env c) (T : LawTop s.heap env f) (hh : A.handled = none)
    (hn : s.heap.Ns env.locals m) (hm : m "due" = some (.ref D)) (hb : m "bound" = some (.int b t)) (hD : LinesAt s.heap D its) (hits : its.size ≤ 100000)
    (hQ : ∀ h' tk a, h'.IsList a (its.toList.take b.toNat).toArray → Up s.heap h' → Q (.ref a) { s with heap := h', toks := tk }) :
    wpAny (model prog w) A (eval (.Subscript (.Name "due" p1) (.Slice none (some (.Call (.Name "max" p2) [.Name "bound" p3, .Constant (.int 0) k p4] [] p5)) none p6) p7) env) Q E s := by
  obtain ⟨mg, hg, _, _, _, g3⟩ := T.glob
  obtain ⟨mb, hbb, _, _, b3⟩ := T.blt
  refine wpAny_Subscript_list_slice (eval_local V.fn V.due hn hm (evalPart_none_step (evalPart_some_step ?_)))
  refine call_name_builtin V.fn V.max hg g3 hbb b3 (PyProof.Rows.spliced_more (eval_local V.fn V.bound hn hb (PyProof.Rows.spliced_more (wpAny_Constant_int (PyProof.Rows.spliced_none ?_)))))
  refine max_two_ints hh fun h' tk u => ?_
  have fin : ∀ (v : Value) (x : Int), IsPart v (some x) → x = max b 0 → ∃ l items lo hi, Value.ref D = .ref l ∧ h'.IsList l items ∧ items.size ≤ sizeLine ∧ IsPart .none lo ∧ IsPart v hi ∧
        Q (.ref (h'.objs.size + 1)) { s with heap := (h'.push { cls := .type "slice", data := .fields #[.none, v, .none] }).push { cls := .type "list", data := .seq (slicePick items lo hi none) }, toks := tk } := by
    rintro v x hv rfl
    refine ⟨D, its, none, some (max b 0), rfl, (hD.up u).lst, by rw [sizeLine_eq]; omega, .none, hv, ?_⟩
    have e : slicePick its none (some (max b 0)) none = (its.toList.take b.toNat).toArray := by
      have : max b 0 = ((b.toNat : Nat) : Int) := by omega
      rw [this]; exact slicePick_upto' its b.toNat
    rw [e]
    refine hQ _ _ _ ⟨({ cls := .type "list", data := .seq (its.toList.take b.toNat).toArray } : Obj), ?_, rfl, _, rfl⟩ ((Up.trans u (.push _ _)).trans (.push _ _))
    have : (h'.push { cls := .type "slice", data := .fields #[.none, v, .none] }).objs.size = h'.objs.size + 1 := Heap.size_push ..
    rw [← this]; exact Heap.get?_push_size _ rfl
  by_cases hc : (0 : Int) > b
  · rw [if_pos hc]; exact fin _ 0 (.int _ _) (by omega)
  · rw [if_neg hc]; exact fin _ b (.int _ _) (by omega)

theorem strs_take : ∀ (n : Nat) {vs : List Value} {xs : List Str}, StrsAre vs xs → StrsAre (vs.take n) (xs.take n)
  | 0, _, _, _ => by simpa using StrsAre.nil
  | _ + 1, _, _, .nil => by simpa using StrsAre.nil
  | n + 1, _, _, .cons a t r => by simpa using StrsAre.cons a t (strs_take n r)

theorem for_exec {p1 p2 p3 p4 p5 p6 p7 p8 p9 p10 p11 p12 p13 p14 p15 p16 p17 p18 p19 p20 p21 p22 p23 q1 q2 q3 q4 q5 q6 q7 q8 q9 q10 q11 q12 q13 q14 q15 q16 q17 q18 : Pos} {k1 k2 k3 k4 k5 k6 k7 k8 : Nat} {base : Shared} {c f D sl : Addr} {text : Str} {u : Tok} {m : Str → Option Value} {its zs : Array Value} {xs : List Int} {h : Heap} {tk : Nat} {Q : Flow → Shared → Prop}
    (V : LawEnv env c) (T : LawTop base.heap env f) (hS : SplitAt prog w base.heap f) (up : Up base.heap h) (hc : h.IsCell c (some (.str text u))) (hcL : c ≠ env.locals) (hDL : D ≠ env.locals) (hLb : base.heap.get? env.locals = none)
    (hh : A.handled = none) (hroom : A.depth < recursionLimit) (hu : A.units + 70 < cLine) (hsz : text.length + 100 ≤ sizeLine)
    (hn : h.Ns env.locals m) (hs : m "script" = some (.ref sl)) (hm : m "due" = some (.ref D)) (hl : base.heap.IsList sl zs) (hz : IntsAre zs.toList xs) (hzs : zs.size ≤ 100000)
    (hD : LinesAt h D its) (hits : its.size ≤ 100000) (hst : StrsAre its.toList (rowsFrom text.cps 0)) (hok : ∀ x ∈ rowsFrom text.cps 0, PyData.strOk x = true)
    (hQ : ∀ h' tk' m', Up base.heap h' → h'.Ns env.locals m' → h'.IsCell c (some (.str text u)) → m' "due" = some (.ref D) → LinesAt h' D its → Q .next { base with heap := h', toks := tk' }) :
    wpC (M1 prog w) A (exec (.For (.Name "bound" q1) (.BinOp (.Subscript (.Name "script" p1) (.Slice none (some (.Constant (.int 3) k1 p2)) none p3) p4) .Add
      (.List [.UnaryOp .USub (.Constant (.int 1) k2 p5) p6, .Constant (.int 0) k3 p7, .Constant (.int 1) k4 p8, .BinOp (.Call (.Name "len" p9) [.Name "due" p10] [] p11) .Sub (.Constant (.int 1) k5 p12) p13,
        .Call (.Name "len" p14) [.Name "due" p15] [] p16, .BinOp (.Call (.Name "len" p17) [.Name "due" p18] [] p19) .Add (.Constant (.int 1) k6 p20) p21] p22) p23)
      [.If (.Compare (.Call (.Name "_splitlines_no_ff" q2) [.Name "text" q3] [⟨some "maxlines", .Name "bound" q4, q5⟩] q6) [.NotEq] [.Subscript (.Name "due" q7) (.Slice none (some (.Call (.Name "max" q8) [.Name "bound" q9, .Constant (.int 0) k7 q10] [] q11)) none q12) q13] q14)
        [.Return (some (.Constant (.bool false) k8 q15)) q16] [] q17] [] q18) env) Q E { base with heap := h, toks := tk } := by
  refine wpC_For (wpC_of_any (any1 (eval_bounds V (T.up up) hn hs hm (let ⟨o, e, r⟩ := hl; ⟨o, up _ _ e, r⟩) hz hzs hD hits fun h₁ tk₁ a its' bs hL₁ hI₁ hsz₁ ha u₁ => ?_)))
  refine wpC_of_any (any1 (wpAny_pyIter_list hL₁.lst ?_))
  dsimp only at ha u₁ ⊢
  have hnone : ∀ x, h.objs.size ≤ x → h.get? x = none := fun x hx => by
    cases e : h.get? x with
    | none => rfl
    | some o => exact absurd (Heap.lt_size e) (Nat.not_lt.mpr hx)
  obtain ⟨na, hLa⟩ := hL₁
  have haI : a ≠ h₁.objs.size := Nat.ne_of_lt (Heap.lt_size hLa)
  have hILe : h.objs.size ≤ h₁.objs.size := by
    have := Heap.lt_size hLa
    exact Nat.le_of_lt (Nat.lt_of_le_of_lt ha this)
  have old : ∀ b o, h.get? b = some o → b ≠ a ∧ b ≠ h₁.objs.size := fun b o e => ⟨(fun x => by rw [x, hnone a ha] at e; cases e), (fun x => by rw [x, hnone _ hILe] at e; cases e)⟩
  have hLn : ∀ b o, base.heap.get? b = some o → b ≠ env.locals := fun b o e x => by rw [x, hLb] at e; cases e
  obtain ⟨oL, _, _, hoL, _⟩ := id hn
  have hLa' := old _ _ hoL
  have hcI := let ⟨_, e, _⟩ := hc; old _ _ e
  have hDI := let ⟨_, e⟩ := hD; old _ _ e
  generalize hI : h₁.objs.size = I at *
  refine codeC_forLoop (fun k s' => ∃ h' tk' m' i, s' = { base with heap := h', toks := tk' } ∧ Up base.heap h' ∧ h'.Ns env.locals m' ∧ h'.IsCell c (some (.str text u)) ∧ m' "due" = some (.ref D) ∧ LinesAt h' D its ∧ h'.IsListIter I a i ∧ h'.IsList a its' ∧ i ≤ its'.size ∧ k = its'.size + 1 - i) ?_ (its'.size + 1)
    ⟨_, _, m, 0, rfl, (up.trans u₁).trans (.push _ _), (hn.keeps u₁).push _, IsCell.up hc (u₁.trans (.push _ _)), hm, hD.up (u₁.trans (.push _ _)), ⟨_, by rw [← hI]; exact Heap.get?_push_size _ rfl, rfl, rfl⟩, ⟨_, (Up.push _ _) _ _ hLa, rfl, _, rfl⟩, Nat.zero_le _, rfl⟩
  rintro k s' ⟨h', tk', m', i, rfl, up', hn', hc', hm', hD', hit, hla, hi, rfl⟩
  by_cases hlt : i < its'.size
  · have hx : its'[i]? = some its'[i] := Array.getElem?_eq_getElem hlt
    obtain ⟨b, t, hv, _⟩ := IntsAre.at hI₁ i its'[i] (by rw [Array.getElem?_toList]; exact hx)
    rw [hv] at hx
    refine wpC_of_any (any1 (wpAny_pyNext_list_item hit hla hx fun h₂ hit₂ hs₂ => ?_))
    show wpC _ _ (pure ()) _ _ _
    refine wpC_pure (wpC_of_any (any1 (wpAny_assign_Name (wpAny_storeName_local V.bound (hn'.sameBut hs₂ hLa'.2) (fun h₃ hn₃ hs₃ => ?_) V.stores))))
    have k3 : ∀ b o, b ≠ I → b ≠ env.locals → h'.get? b = some o → h₃.get? b = some o := fun b o h1 h2 e => hs₃.extBut b o h2 (hs₂.extBut b o h1 e)
    have up₃ : Up base.heap h₃ := fun b o e => k3 b o (old b o (up b o e)).2 (hLn b o e) (up' b o e)
    have hc₃ : h₃.IsCell c (some (.str text u)) := let ⟨o, e, d⟩ := hc'; ⟨o, k3 c o hcI.2 hcL e, d⟩
    have hD₃ : LinesAt h₃ D its := let ⟨n, e⟩ := hD'; ⟨n, k3 D _ hDI.2 hDL e⟩
    have hla₃ : h₃.IsList a its' := let ⟨o, e, r⟩ := hla; ⟨o, k3 a o haI (Ne.symm hLa'.1) e, r⟩
    have hit₃ : h₃.IsListIter I a (i + 1) := let ⟨o, e, r⟩ := hit₂; ⟨o, hs₃.extBut I o (Ne.symm hLa'.2) e, r⟩
    have hm₃ : (fun z : Str => if z = "bound" then some (.int b t) else m' z) "due" = some (.ref D) := by show (if _ then _ else _) = _; rw [if_neg (by decide)]; exact hm'
    refine wpC_execs_cons (wpC_If (wpC_isTrue_Compare1 ?_))
    refine eval_split1 (m := fun z => if z = "bound" then some (.int b t) else m' z) (b := b) (t := t) V (T.up up₃) hS up₃ hc₃ hn₃ (by simp) hh hroom (by omega) hsz fun h₄ tk₄ R₁ its₁ hR hL₄ hS₄ u₄ => ?_
    refine wpC_of_any (any1 (eval_cut V (T.up (up₃.trans u₄)) hh (hn₃.keeps u₄) hm₃ (by simp; exact ⟨rfl, rfl⟩) (hD₃.up u₄) hits fun h₅ tk₅ R₂ hR₂ u₅ => ?_))
    refine wpC_of_any (any1 (ne_strs (ms := (rowsFrom text.cps 0).take b.toNat) (hL₄.up u₅).lst hR₂ hS₄ (by simpa using strs_take b.toNat hst) ?_ ?_ (by omega) ?_))
    · intro x hx; exact hok x (List.mem_of_mem_take (by exact hx))
    · intro x hx; exact hok x (List.mem_of_mem_take hx)
    rw [show (rowsUpTo text.cps (some b)) = (rowsFrom text.cps 0).take b.toNat from rfl]
    simp only [decide_true, Bool.not_true]
    refine wpC_of_any (any1 (wpAny_truthy_bool ?_))
    simp only [Bool.false_eq_true, if_false]
    refine wpC_execs_nil (wpC_execs_nil ?_)
    have u₆ := u₄.trans u₅
    exact ⟨its'.size + 1 - (i + 1), by omega, h₅, _, _, i + 1, rfl, up₃.trans u₆, hn₃.keeps u₆, IsCell.up hc₃ u₆, hm₃, hD₃.up u₆, (let ⟨o, e, r⟩ := hit₃; ⟨o, u₆ _ _ e, r⟩), (let ⟨o, e, r⟩ := hla₃; ⟨o, u₆ _ _ e, r⟩), hlt, rfl⟩
  · have hin : its'[i]? = none := by simp; omega
    refine wpC_of_any (any1 (wpAny_pyNext_list_end hh hit hla hin fun h₂ he₂ => ?_))
    exact hQ h₂ tk' m' (fun b o e => he₂ b o (old b o (up b o e)).2 (up' b o e)) (hn'.extBut he₂ hLa'.2) (let ⟨o, e, d⟩ := hc'; ⟨o, he₂ c o hcI.2 e, d⟩) hm' (let ⟨n, e⟩ := hD'; ⟨n, he₂ D _ hDI.2 e⟩)
end
end Mine
end
section
open PySem PySem.W PyProof.Rows
set_option maxRecDepth 100000
set_option maxHeartbeats 2000000
namespace Mine
section
variable {prog : Program} {w : World} {A : Around} {E : Value → Shared → Prop} {s : Shared} {env : Env}

theorem tail5 {p1 p2 p3 p4 p5 p6 p7 p8 p9 p10 p11 p12 p13 p14 p15 p16 p17 p18 p19 p20 p21 p22 p23 q1 q2 q3 q4 q5 q6 q7 q8 q9 q10 q11 q12 q13 q14 q15 q16 q17 q18 r1 r2 r3 r4 r5 r6 r7 r8 r9 r10 r11 r12 r13 r14 r15 r16 r17 r18 r19 r20 r21 r22 : Pos} {k1 k2 k3 k4 k5 k6 k7 k8 k9 k10 : Nat} {base : Shared} {c f D sl : Addr} {text : Str} {u : Tok} {m : Str → Option Value} {its zs : Array Value} {xs : List Int} {h : Heap} {tk : Nat} {Q : Flow → Shared → Prop}
    (V : LawEnv env c) (T : LawTop base.heap env f) (hS : SplitAt prog w base.heap f) (up : Up base.heap h) (hc : h.IsCell c (some (.str text u))) (hcL : c ≠ env.locals) (hDL : D ≠ env.locals) (hLb : base.heap.get? env.locals = none)
    (hh : A.handled = none) (hroom : A.depth < recursionLimit) (hu : A.units + 70 < cLine) (hsz : text.length + 100 ≤ sizeLine)
    (hn : h.Ns env.locals m) (hs : m "script" = some (.ref sl)) (hm : m "due" = some (.ref D)) (hl : base.heap.IsList sl zs) (hz : IntsAre zs.toList xs) (hzs : zs.size ≤ 100000)
    (hD : LinesAt h D its) (hits : its.size ≤ 100000) (hst : StrsAre its.toList (rowsFrom text.cps 0)) (hok : ∀ x ∈ rowsFrom text.cps 0, PyData.strOk x = true)
    (hline : (r13.endLine == r15.line) = true) (hsw0 : swapsWith (.Call (.Name "_splitlines_no_ff" r2) [.Name "text" r3] [] r4) (some (.Name "told" r1)) r5.line env = pure false)
    (hsw : swapsWith (.Call (.Attribute (.Name "told" r12) "append" r13) [.Constant (.str "behind") k10 r14] [] r15) none r16.line env = pure false)
    (hQ : ∀ h' tk', Up base.heap h' → Q (.ret (.bool true)) { base with heap := h', toks := tk' }) :
    wpC (M1 prog w) A (execs [.Assign [.Name "told" r1] (.Call (.Name "_splitlines_no_ff" r2) [.Name "text" r3] [] r4) r5,
      .If (.Compare (.Name "told" r6) [.NotEq] [.Name "due" r7] r8) [.Return (some (.Constant (.bool false) k9 r9)) r10] [] r11,
      .Expr (.Call (.Attribute (.Name "told" r12) "append" r13) [.Constant (.str "behind") k10 r14] [] r15) r16,
      .For (.Name "bound" q1) (.BinOp (.Subscript (.Name "script" p1) (.Slice none (some (.Constant (.int 3) k1 p2)) none p3) p4) .Add
      (.List [.UnaryOp .USub (.Constant (.int 1) k2 p5) p6, .Constant (.int 0) k3 p7, .Constant (.int 1) k4 p8, .BinOp (.Call (.Name "len" p9) [.Name "due" p10] [] p11) .Sub (.Constant (.int 1) k5 p12) p13,
        .Call (.Name "len" p14) [.Name "due" p15] [] p16, .BinOp (.Call (.Name "len" p17) [.Name "due" p18] [] p19) .Add (.Constant (.int 1) k6 p20) p21] p22) p23)
      [.If (.Compare (.Call (.Name "_splitlines_no_ff" q2) [.Name "text" q3] [⟨some "maxlines", .Name "bound" q4, q5⟩] q6) [.NotEq] [.Subscript (.Name "due" q7) (.Slice none (some (.Call (.Name "max" q8) [.Name "bound" q9, .Constant (.int 0) k7 q10] [] q11)) none q12) q13] q14)
        [.Return (some (.Constant (.bool false) k8 q15)) q16] [] q17] [] q18,
      .Return (some (.Compare (.Call (.Name "_splitlines_no_ff" r17) [.Name "text" r18] [] r19) [.Eq] [.Name "due" r20] r21)) r22] env) Q E { base with heap := h, toks := tk } := by
  have hLn : ∀ b o, base.heap.get? b = some o → b ≠ env.locals := fun b o e x => by rw [x, hLb] at e; cases e
  obtain ⟨oL, _, _, hoL, _⟩ := id hn
  refine wpC_execs_cons (wpC_Assign_Name ?_ hsw0)
  refine eval_split0 V (T.up up) hS up hc hh hroom (by omega) hsz fun h₁ tk₁ Dt its₁ hDt hL₁ hS₁ u₁ => ?_
  dsimp only at hDt u₁ ⊢
  have fresh : ∀ b o, h.get? b = some o → b ≠ Dt := fun b o e x => absurd (Heap.lt_size e) (Nat.not_lt.mpr (x ▸ hDt))
  refine wpC_of_any (any1 (wpAny_storeName_local V.told (hn.keeps u₁) (fun h₂ hn₂ hs₂ => ?_) V.stores))
  dsimp only at hs₂ ⊢
  have k2 : ∀ b o, b ≠ env.locals → h.get? b = some o → h₂.get? b = some o := fun b o hb e => hs₂.extBut b o hb (u₁ b o e)
  have hc₂ : h₂.IsCell c (some (.str text u)) := let ⟨o, e, d⟩ := hc; ⟨o, k2 c o hcL e, d⟩
  have hD₂ : LinesAt h₂ D its := let ⟨n, e⟩ := hD; ⟨n, k2 D _ hDL e⟩
  have hT₂ : LinesAt h₂ Dt its₁ := let ⟨n, e⟩ := hL₁; ⟨n, hs₂.extBut Dt _ (Ne.symm (fresh _ _ hoL)) e⟩
  have up₂ : Up base.heap h₂ := fun b o e => k2 b o (hLn b o e) (up b o e)
  have hmd : (fun z : Str => if z = "told" then some (.ref Dt) else m z) "due" = some (.ref D) := by show (if _ then _ else _) = _; rw [if_neg (by decide)]; exact hm
  have hms : (fun z : Str => if z = "told" then some (.ref Dt) else m z) "script" = some (.ref sl) := by show (if _ then _ else _) = _; rw [if_neg (by decide)]; exact hs
  have hmt : (fun z : Str => if z = "told" then some (Value.ref Dt) else m z) "told" = some (.ref Dt) := by show (if _ then _ else _) = _; rw [if_pos rfl]
  generalize hm2 : (fun z : Str => if z = "told" then some (Value.ref Dt) else m z) = m₂ at hmd hms hmt hn₂
  have up₁ : Up base.heap h₁ := up.trans u₁
  refine wpC_execs_cons (wpC_If (wpC_isTrue_Compare1 ?_))
  refine wpC_of_any (any1 (eval_local V.fn V.told hn₂ hmt (wpC_of_any (any1 (eval_local V.fn V.due hn₂ hmd ?_)))))
  refine wpC_of_any (any1 (ne_strs (ns := rowsFrom text.cps 0) (ms := rowsFrom text.cps 0) hT₂.lst hD₂.lst hS₁ hst hok hok (by omega) ?_))
  simp only [decide_true, Bool.not_true]
  refine wpC_of_any (any1 (wpAny_truthy_bool ?_))
  simp only [Bool.false_eq_true, if_false]
  refine wpC_execs_nil ?_
  have hs1 : its₁.size ≤ sizeLine := by
    have e1 : its₁.size = (rowsFrom text.cps 0).length := by rw [← Array.length_toList]; exact strs_length hS₁
    have e2 : its.size = (rowsFrom text.cps 0).length := by rw [← Array.length_toList]; exact strs_length hst
    rw [sizeLine_eq]; omega
  refine wpC_execs_cons (wpC_of_any (any1 (exec_append_const V.fn V.plain V.told hn₂ hmt hT₂ hs1 hline hsw fun h₃ tk₃ t₃ hL₃ hs₃ => ?_)))
  dsimp only at hs₃ ⊢
  have k3 : ∀ b o, h.get? b = some o → b ≠ env.locals → h₃.get? b = some o := fun b o e hb => hs₃.extBut b o (fresh b o e) (k2 b o hb e)
  have hn₃ : h₃.Ns env.locals m₂ := hn₂.sameBut hs₃ (fresh _ _ hoL)
  have hc₃ : h₃.IsCell c (some (.str text u)) := let ⟨o, e, d⟩ := hc; ⟨o, k3 c o e hcL, d⟩
  have hD₃ : LinesAt h₃ D its := let ⟨n, e⟩ := hD; ⟨n, k3 D _ e hDL⟩
  have up₃ : Up base.heap h₃ := fun b o e => k3 b o (up b o e) (hLn b o e)
  refine wpC_execs_cons (for_exec V T hS up₃ hc₃ hcL hDL hLb hh hroom hu hsz hn₃ hms hmd hl hz hzs hD₃ hits hst hok fun h₄ tk₄ m₄ up₄ hn₄ hc₄ hm₄ hD₄ => ?_)
  refine wpC_execs_cons (wpC_Return_some (wpC_Compare1 ?_))
  refine eval_split0 V (T.up up₄) hS up₄ hc₄ hh hroom (by omega) hsz fun h₅ tk₅ D₅ its₅ _ hL₅ hS₅ u₅ => ?_
  refine wpC_of_any (any1 (eval_local V.fn V.due (hn₄.keeps u₅) hm₄ ?_))
  refine wpC_of_any (any1 (eq_strs (ns := rowsFrom text.cps 0) (ms := rowsFrom text.cps 0) hL₅.lst (hD₄.up u₅).lst hS₅ hst hok hok (by omega) ?_))
  simp only [decide_true]
  exact hQ h₅ _ (up₄.trans u₅)
end
end Mine
end
section
open PySem PySem.W PyProof.Rows
set_option maxRecDepth 100000
namespace Mine
theorem endAt_succ (T : Array Nat) (q : Nat) : endAt T (q + 1) = ((T[q]? == some 10) || ((T[q]? == some 13) && !(T[q + 1]? == some 10))) := by
  unfold endAt; simp

theorem rowEnd_spec (T : Array Nat) (q : Nat) (h : q < T.size) : (endAt T (rowEnd T q) = true ∨ (rowEnd T q = T.size ∧ endAt T (rowEnd T q) = false)) ∧ ∀ k, q < k → k < rowEnd T q → endAt T k = false := by
  unfold rowEnd
  rw [dif_pos h]
  have g : T[q]? = some T[q] := Array.getElem?_eq_getElem h
  rw [g]
  by_cases h10 : T[q] = 10
  · have : ((some T[q]).getD 0 == 10) = true := by simp [h10]
    rw [if_pos this]
    refine ⟨.inl ?_, fun k a b => by omega⟩
    rw [endAt_succ, g]; simp [h10]
  · have : ¬ ((some T[q]).getD 0 == 10) = true := by simp [h10]
    rw [if_neg this]
    by_cases h13 : T[q] = 13
    · have : ((some T[q]).getD 0 == 13) = true := by simp [h13]
      rw [if_pos this]
      by_cases hn : T[q + 1]?.getD 0 = 10
      · rw [if_pos (by simp [hn])]
        have hn' : T[q + 1]? = some 10 := by
          cases e : T[q + 1]? with
          | none => rw [e] at hn; simp at hn
          | some v => rw [e] at hn; simp at hn; rw [hn]
        refine ⟨.inl ?_, fun k a b => ?_⟩
        · rw [endAt_succ, hn']; simp
        · obtain rfl : k = q + 1 := by omega
          rw [endAt_succ, g, hn']; simp [h13]
      · rw [if_neg (by simp [hn])]
        refine ⟨.inl ?_, fun k a b => by omega⟩
        rw [endAt_succ, g]
        have : (T[q + 1]? == some 10) = false := by
          cases e : T[q + 1]? with
          | none => rfl
          | some v => rw [e] at hn; simp at hn; simp [hn]
        rw [this]; simp [h13]
    · have : ¬ ((some T[q]).getD 0 == 13) = true := by simp [h13]
      rw [if_neg this]
      have no : endAt T (q + 1) = false := by rw [endAt_succ, g]; simp [h10, h13]
      by_cases hq : q + 1 < T.size
      · obtain ⟨a, b⟩ := rowEnd_spec T (q + 1) hq
        refine ⟨a, fun k x y => ?_⟩
        by_cases hk : k = q + 1
        · rw [hk]; exact no
        · exact b k (by omega) y
      · have e : q + 1 = T.size := by omega
        rw [e, rowEnd_end]
        refine ⟨.inr ⟨rfl, by rw [← e]; exact no⟩, fun k x y => ?_⟩
        omega
termination_by T.size - q

/-- the ends behind p -/
def endsFrom (T : Array Nat) (p : Nat) : List Nat := (List.range' (p + 1) (T.size - p)).filter (endAt T)

theorem endsFrom_end (T : Array Nat) : endsFrom T T.size = [] := by unfold endsFrom; simp
theorem filter_none (T : Array Nat) (a n : Nat) (h : ∀ k, a ≤ k → k < a + n → endAt T k = false) : (List.range' a n).filter (endAt T) = [] := by
  rw [List.filter_eq_nil_iff]
  intro k hk
  rw [List.mem_range'_1] at hk
  rw [h k hk.1 hk.2]; decide
theorem endsFrom_step (T : Array Nat) (p : Nat) (h : p < T.size) (he : endAt T (rowEnd T p) = true) : endsFrom T p = rowEnd T p :: endsFrom T (rowEnd T p) := by
  have h1 := rowEnd_gt T p h
  have h2 := rowEnd_le T p (Nat.le_of_lt h)
  have h3 := (rowEnd_spec T p h).2
  generalize rowEnd T p = r at *
  unfold endsFrom
  have e : T.size - p = (r - p - 1) + (1 + (T.size - r)) := by omega
  rw [e, ← List.range'_append, List.filter_append, filter_none T (p + 1) (r - p - 1) (fun k a b => h3 k (by omega) (by omega)), List.nil_append]
  have e2 : p + 1 + 1 * (r - p - 1) = r := by omega
  rw [e2, Nat.add_comm 1, List.range'_succ, List.filter_cons, he, if_pos rfl]
theorem endsFrom_none (T : Array Nat) (p : Nat) (h : p < T.size) (he : endAt T (rowEnd T p) = false) : rowEnd T p = T.size ∧ endsFrom T p = [] := by
  obtain ⟨a, b⟩ := rowEnd_spec T p h
  have hr : rowEnd T p = T.size := by
    rcases a with a | a
    · rw [a] at he; cases he
    · exact a.1
  refine ⟨hr, filter_none T _ _ fun k x y => ?_⟩
  by_cases hk : k = T.size
  · rw [hk, ← hr]; exact he
  · exact b k (by omega) (by omega)

def pieces (T : Array Nat) (ps es : List Nat) : List Str := List.zipWith (fun a b => (⟨T.extract a b⟩ : Str)) ps es
def fixEnd (l : List Str) : List Str := if l.getLast? = some emptyStr then l else l ++ [emptyStr]
theorem fixEnd_cons (x y : Str) (l : List Str) : fixEnd (x :: y :: l) = x :: fixEnd (y :: l) := by
  unfold fixEnd
  rw [List.getLast?_cons_cons]
  split <;> rfl
theorem pieces_rows (T : Array Nat) (p : Nat) (h : p ≤ T.size) : fixEnd (pieces T (p :: endsFrom T p) (endsFrom T p ++ [T.size])) = rowsFrom T p := by
  by_cases hp : p < T.size
  · rw [rowsFrom_lt hp]
    cases he : endAt T (rowEnd T p) with
    | true =>
      have hlt := rowEnd_gt T p hp
      have hle := rowEnd_le T p h
      rw [endsFrom_step T p hp he, ← pieces_rows T (rowEnd T p) hle]
      generalize rowEnd T p = r at *
      cases hq : endsFrom T r with
      | nil => exact fixEnd_cons _ _ _
      | cons a l => exact fixEnd_cons _ _ _
    | false =>
      obtain ⟨hr, hnil⟩ := endsFrom_none T p hp he
      rw [hnil, hr, rowsFrom_end]
      show fixEnd [⟨T.extract p T.size⟩] = _
      unfold fixEnd
      rw [if_neg]
      · rfl
      · simp only [List.getLast?_singleton, emptyStr]
        intro e
        have := congrArg (fun x : Str => x.cps.size) (Option.some.inj e)
        simp at this
        omega
  · obtain rfl : p = T.size := by omega
    rw [endsFrom_end, rowsFrom_end]
    show fixEnd [⟨T.extract T.size T.size⟩] = _
    have : T.extract T.size T.size = #[] := by apply Array.eq_empty_of_size_eq_zero; simp
    rw [this]; rfl
termination_by T.size - p
end Mine
end
section
open PySem PySem.W PyProof.Rows
set_option maxRecDepth 100000
namespace Mine
theorem foldl_ends (text : Str) (l : List Nat) (acc : List Int) : List.foldl (endStep text) acc (l.map fun k : Nat => (k : Int)) = acc ++ (l.filter (endAt text.cps)).map fun k : Nat => (k : Int) := by
  induction l generalizing acc with
  | nil => simp
  | cons k l ih =>
    simp only [List.map_cons, List.foldl_cons, ih, List.filter_cons]
    unfold endStep
    have : ((k : Int)).toNat = k := by omega
    rw [this]
    split <;> simp
theorem rangeKs_eq (n : Nat) : rangeKs 1 n = (List.range' 1 n).map fun k : Nat => (k : Int) := by
  unfold rangeKs
  rw [List.range'_eq_map_range, List.map_map]
  refine List.map_congr_left fun k _ => ?_
  simp
theorem ends_eq (text : Str) (n : Nat) (h : n = text.cps.size) : List.foldl (endStep text) [] (rangeKs 1 n) = (endsFrom text.cps 0).map fun k : Nat => (k : Int) := by
  rw [rangeKs_eq, foldl_ends, List.nil_append, h]; rfl
theorem due_eq (text : Str) (es : List Nat) : dueOf text (es.map fun k : Nat => (k : Int)) = pieces text.cps (0 :: es) (es ++ [text.cps.size]) := by
  unfold dueOf pieces
  have e1 : ((0 : Int) :: es.map fun k : Nat => (k : Int)) = (0 :: es).map fun k : Nat => (k : Int) := rfl
  have e2 : (es.map fun k : Nat => (k : Int)) ++ [(text.length : Int)] = (es ++ [text.cps.size]).map fun k : Nat => (k : Int) := by rw [List.map_append]; rfl
  rw [e1, e2, List.zipWith_map]
  refine congrFun (congrFun (congrArg _ ?_) _) _
  funext a b
  exact slice_nat text a b
/-- the last row of the list, and the list with the empty row at its end -/
theorem due_rows (text : Str) (ends : List Int) (n : Nat) (hn : n = text.cps.size) (he : List.foldl (endStep text) [] (rangeKs 1 n) = ends) :
    ∃ init last, dueOf text ends = init ++ [last] ∧ (if last = emptyStr then init ++ [last] else init ++ [last] ++ [emptyStr]) = rowsFrom text.cps 0 := by
  rw [ends_eq text n hn] at he
  subst he
  have hp := pieces_rows text.cps 0 (Nat.zero_le _)
  rw [← due_eq] at hp
  have hne : dueOf text ((endsFrom text.cps 0).map fun k : Nat => (k : Int)) ≠ [] := by
    intro e
    have := congrArg List.length e
    simp [dueOf] at this
  refine ⟨_, _, (List.dropLast_concat_getLast hne).symm, ?_⟩
  rw [← hp]
  generalize dueOf text ((endsFrom text.cps 0).map fun k : Nat => (k : Int)) = l at *
  unfold fixEnd
  rw [List.getLast?_eq_some_getLast hne, List.dropLast_concat_getLast hne]
  simp only [Option.some.injEq]
theorem ends_len (text : Str) (n : Nat) (hn : n = text.cps.size) : (List.foldl (endStep text) [] (rangeKs 1 n)).length ≤ text.length := by
  rw [ends_eq text n hn, List.length_map]
  unfold endsFrom
  refine Nat.le_trans (List.length_filter_le _ _) ?_
  simp; exact Nat.le_refl _
theorem strOk_extract {T : Array Nat} (h : PyData.strOk ⟨T⟩ = true) (a b : Nat) : PyData.strOk ⟨T.extract a b⟩ = true := by
  unfold PyData.strOk at *
  rw [Array.all_eq_true_iff_forall_mem] at *
  intro x hx
  refine h x ?_
  obtain ⟨i, hi, rfl⟩ := Array.getElem_of_mem hx
  rw [Array.getElem_extract]
  exact Array.getElem_mem _
theorem rows_ok {T : Array Nat} (h : PyData.strOk ⟨T⟩ = true) (p : Nat) : ∀ x ∈ rowsFrom T p, PyData.strOk x = true := by
  intro x hx
  by_cases hp : p < T.size
  · rw [rowsFrom_lt hp] at hx
    rcases List.mem_cons.mp hx with rfl | hx
    · exact strOk_extract h _ _
    · have := rowEnd_gt T p hp
      exact rows_ok h (rowEnd T p) x hx
  · rw [rowsFrom, dif_neg hp] at hx
    rcases List.mem_cons.mp hx with rfl | hx
    · simp [PyData.strOk]
    · cases hx
termination_by T.size - p
end Mine
end
section
open PySem PySem.W PyProof.Rows
set_option maxRecDepth 100000
namespace Mine
/-- the end of a row is the first end behind it, or the text's end -/
theorem rowEnd_eq {T : Array Nat} {p k : Nat} (h1 : p < k) (h2 : k ≤ T.size) (h3 : endAt T k = true ∨ k = T.size) (h4 : ∀ j, p < j → j < k → endAt T j = false) : rowEnd T p = k := by
  have hp : p < T.size := by omega
  obtain ⟨a, b⟩ := rowEnd_spec T p hp
  have g := rowEnd_gt T p hp
  have l := rowEnd_le T p (by omega)
  rcases Nat.lt_trichotomy (rowEnd T p) k with h | h | h
  · have := h4 _ g h
    rcases a with a | a
    · rw [a] at this; cases this
    · omega
  · exact h
  · have := b k h1 h
    rcases h3 with h3 | h3
    · rw [h3] at this; cases this
    · omega

theorem getElem?_ext (T : Array Nat) (p q j : Nat) (hq : q ≤ T.size) : (T.extract p q)[j]? = if p + j < q then T[p + j]? else none := by
  rw [Array.getElem?_extract]
  by_cases h : p + j < q
  · rw [if_pos h, if_pos (by omega)]
  · rw [if_neg h, if_neg (by omega)]

theorem endAt_ext {T : Array Nat} {p q j : Nat} (hq : q ≤ T.size) (h1 : 1 ≤ j) (h2 : p + j < q) : endAt (T.extract p q) j = endAt T (p + j) := by
  obtain ⟨i, rfl⟩ : ∃ i, j = i + 1 := ⟨j - 1, by omega⟩
  rw [endAt_succ, ← Nat.add_assoc, endAt_succ, getElem?_ext T p q i hq, getElem?_ext T p q (i + 1) hq, if_pos (by omega), if_pos (by omega), ← Nat.add_assoc]

theorem endAt_last {T : Array Nat} {p q : Nat} (hq : q ≤ T.size) (h : p < q) (h10 : T[q - 1]? = some 10) : endAt T q = true := by
  obtain ⟨i, rfl⟩ : ∃ i, q = i + 1 := ⟨q - 1, by omega⟩
  rw [endAt_succ]
  simp only [Nat.add_sub_cancel] at h10
  rw [h10]; rfl

/-- the end of a row of a stretch of the text is the end of the text's row -/
theorem rowEnd_ext {T : Array Nat} {p q : Nat} (hq : q ≤ T.size) (h : p < q) (hr : rowEnd (T.extract p q) 0 < q - p ∨ T[q - 1]? = some 10 ∨ q = T.size) : rowEnd T p = p + rowEnd (T.extract p q) 0 := by
  have hs : (T.extract p q).size = q - p := by simp; omega
  have h0 : 0 < (T.extract p q).size := by omega
  obtain ⟨a, b⟩ := rowEnd_spec (T.extract p q) 0 h0
  have g := rowEnd_gt (T.extract p q) 0 h0
  have l := rowEnd_le (T.extract p q) 0 (Nat.zero_le _)
  rw [hs] at l a
  generalize rowEnd (T.extract p q) 0 = r at *
  refine rowEnd_eq (by omega) (by omega) ?_ fun j x y => ?_
  · by_cases hlt : r < q - p
    · rcases a with a | a
      · left; rw [← endAt_ext hq (by omega) (by omega)]; exact a
      · omega
    · have e : p + r = q := by omega
      rw [e]
      rcases hr with hr | hr | hr
      · omega
      · left; exact endAt_last hq h hr
      · right; exact hr
  · have := b (j - p) (by omega) (by omega)
    rw [endAt_ext hq (by omega) (by omega)] at this
    rw [show p + (j - p) = j by omega] at this
    exact this

theorem extract_extract' (T : Array Nat) (p q a b : Nat) (hq : q ≤ T.size) (h : p + b ≤ q) : (T.extract p q).extract a b = T.extract (p + a) (p + b) := by
  apply Array.ext
  · simp; omega
  · intro i h1 h2
    simp at h1 h2
    simp only [Array.getElem_extract]
    congr 1; omega

/-- the rows of what stands behind p -/
theorem rows_suffix (T : Array Nat) (p : Nat) (h : p ≤ T.size) : rowsFrom (T.extract p T.size) 0 = rowsFrom T p := by
  have key : ∀ (n q : Nat), T.size - p - q ≤ n → p + q ≤ T.size → rowsFrom (T.extract p T.size) q = rowsFrom T (p + q) := by
    intro n
    induction n with
    | zero =>
      intro q h1 h2
      have hs : (T.extract p T.size).size = q := by simp; omega
      have e : p + q = T.size := by omega
      have := rowsFrom_end (T.extract p T.size)
      rw [hs] at this
      rw [this, e, rowsFrom_end]
    | succ n ih =>
      intro q h1 h2
      have hs : (T.extract p T.size).size = T.size - p := by simp
      by_cases hq : p + q < T.size
      · have hq' : q < (T.extract p T.size).size := by omega
        rw [rowsFrom_lt hq', rowsFrom_lt hq]
        have g := rowEnd_gt _ q hq'
        have l := rowEnd_le _ q (Nat.le_of_lt hq')
        obtain ⟨a, b⟩ := rowEnd_spec _ q hq'
        rw [hs] at l a
        have e : rowEnd T (p + q) = p + rowEnd (T.extract p T.size) q := by
          generalize rowEnd (T.extract p T.size) q = r at *
          refine rowEnd_eq (by omega) (by omega) ?_ fun j x y => ?_
          · by_cases hlt : p + r < T.size
            · rcases a with a | a
              · left; rw [← endAt_ext (Nat.le_refl _) (by omega) hlt]; exact a
              · omega
            · right; omega
          · have := b (j - p) (by omega) (by omega)
            rw [endAt_ext (Nat.le_refl _) (by omega) (by omega)] at this
            rw [show p + (j - p) = j by omega] at this
            exact this
        rw [e, ih _ (by omega) (by omega)]
        congr 2
        rw [extract_extract' T p T.size _ _ (Nat.le_refl _) (by omega)]
      · have e : p + q = T.size := by omega
        have e2 : q = (T.extract p T.size).size := by omega
        rw [e, rowsFrom_end, e2, rowsFrom_end]
  exact key _ 0 (Nat.le_refl _) (by omega)
end Mine
end
section
open PySem PySem.W PyProof.Rows
set_option maxRecDepth 100000
namespace Mine
/-- the pieces of a text between its ends, the last one open -/
def parts (T : Array Nat) : List Str := pieces T (0 :: endsFrom T 0) (endsFrom T 0 ++ [T.size])
/-- the closed ones -/
def shut (T : Array Nat) (E : List Nat) : List Str := pieces T (0 :: E) E
def lastOr (E : List Nat) : Nat := (0 :: E).getLast (by simp)

theorem zip_snoc {α : Type} (f : Nat → Nat → α) : ∀ (a : Nat) (E : List Nat) (m : Nat), List.zipWith f (a :: E) (E ++ [m]) = List.zipWith f (a :: E) E ++ [f ((a :: E).getLast (by simp)) m]
  | a, [], m => rfl
  | a, b :: E, m => by
    have := zip_snoc f b E m
    simp only [List.zipWith_cons_cons, List.cons_append]
    rw [this]
    simp
theorem zip_snoc2 {α : Type} (f : Nat → Nat → α) : ∀ (a : Nat) (E : List Nat) (k : Nat), List.zipWith f (a :: (E ++ [k])) (E ++ [k]) = List.zipWith f (a :: E) E ++ [f ((a :: E).getLast (by simp)) k]
  | a, [], k => rfl
  | a, b :: E, k => by
    have := zip_snoc2 f b E k
    simp only [List.zipWith_cons_cons, List.cons_append]
    rw [this]
    simp
theorem parts_eq (T : Array Nat) : parts T = shut T (endsFrom T 0) ++ [⟨T.extract (lastOr (endsFrom T 0)) T.size⟩] := zip_snoc _ 0 _ _
theorem shut_snoc (T : Array Nat) (E : List Nat) (k : Nat) : shut T (E ++ [k]) = shut T E ++ [⟨T.extract (lastOr E) k⟩] := zip_snoc2 _ 0 E k
theorem lastOr_snoc (E : List Nat) (k : Nat) : lastOr (E ++ [k]) = k := by
  show ((0 :: E) ++ [k]).getLast _ = k
  exact List.getLast_concat

theorem extract_push_of_le (T : Array Nat) (x a b : Nat) (h : b ≤ T.size) : (T.push x).extract a b = T.extract a b := by
  apply Array.ext
  · simp; omega
  · intro i h1 h2
    simp at h1 h2
    simp only [Array.getElem_extract]
    rw [Array.getElem_push_lt]
theorem extract_push (T : Array Nat) (x a : Nat) (h : a ≤ T.size) : (T.push x).extract a (T.size + 1) = (T.extract a T.size).push x := by
  apply Array.ext
  · simp; omega
  · intro i h1 h2
    simp at h1 h2
    simp only [Array.getElem_extract]
    rw [Array.getElem_push, Array.getElem_push]
    simp only [Array.size_extract, Array.getElem_extract]
    by_cases hi : a + i < T.size
    · rw [dif_pos hi, dif_pos (by omega)]
    · rw [dif_neg hi, dif_neg (by omega)]
theorem shut_push (T : Array Nat) (x : Nat) : ∀ (E : List Nat), (∀ e ∈ E, e ≤ T.size) → shut (T.push x) E = shut T E := by
  have key : ∀ (a : Nat) (E : List Nat), (∀ e ∈ E, e ≤ T.size) → pieces (T.push x) (a :: E) E = pieces T (a :: E) E := by
    intro a E h
    induction E generalizing a with
    | nil => rfl
    | cons b E ih =>
      unfold pieces at *
      simp only [List.zipWith_cons_cons]
      rw [ih b fun e he => h e (.tail _ he), extract_push_of_le T x a b (h b (.head _))]
  exact fun E h => key 0 E h
theorem mem_ends {T : Array Nat} {e : Nat} (h : e ∈ endsFrom T 0) : 1 ≤ e ∧ e ≤ T.size ∧ endAt T e = true := by
  unfold endsFrom at h
  rw [List.mem_filter, List.mem_range'_1] at h
  obtain ⟨h1, h2⟩ := h
  exact ⟨by omega, by omega, h2⟩
theorem lastOr_le (T : Array Nat) : lastOr (endsFrom T 0) ≤ T.size := by
  unfold lastOr
  have := List.getLast_mem (l := 0 :: endsFrom T 0) (by simp)
  rcases List.mem_cons.mp this with e | e
  · rw [e]; exact Nat.zero_le _
  · exact (mem_ends e).2.1

theorem endAt_push_lt (T : Array Nat) (x k : Nat) (h : k < T.size) : endAt (T.push x) k = endAt T k := by
  cases k with
  | zero => rfl
  | succ i =>
    rw [endAt_succ, endAt_succ, Array.getElem?_push_lt (by omega), Array.getElem?_push_lt h, Array.getElem?_eq_getElem (by omega), Array.getElem?_eq_getElem h]
theorem endAt_push_size (T : Array Nat) (x : Nat) (h : ¬ (x = 10 ∧ T.back? = some 13)) : endAt (T.push x) T.size = endAt T T.size := by
  cases hn : T.size with
  | zero => rfl
  | succ i =>
    have hb : T.back? = T[i]? := by rw [Array.back?, hn]; rfl
    rw [endAt_succ, endAt_succ, Array.getElem?_push_lt (by omega), ← hn, Array.getElem?_push_size, Array.getElem?_eq_none (Nat.le_refl _), ← Array.getElem?_eq_getElem (by omega)]
    rw [hb] at h
    by_cases h13 : T[i]? = some 13
    · have hx : x ≠ 10 := fun e => h ⟨e, h13⟩
      simp [h13, hx]
    · have : (T[i]? == some 13) = false := by simpa using h13
      rw [this]; simp
theorem endAt_push_last (T : Array Nat) (x : Nat) : endAt (T.push x) (T.size + 1) = (x == 10 || x == 13) := by
  rw [endAt_succ, Array.getElem?_push_size, Array.getElem?_eq_none (by simp)]
  simp
/-- the ends when a sign comes that joins to nothing -/
theorem ends_push (T : Array Nat) (x : Nat) (h : ¬ (x = 10 ∧ T.back? = some 13)) : endsFrom (T.push x) 0 = endsFrom T 0 ++ (if x = 10 ∨ x = 13 then [T.size + 1] else []) := by
  unfold endsFrom
  rw [Array.size_push, Nat.sub_zero, Nat.sub_zero, Nat.zero_add, List.range'_1_concat, List.filter_append]
  congr 1
  · refine List.filter_congr fun k hk => ?_
    rw [List.mem_range'_1] at hk
    by_cases hs : k = T.size
    · rw [hs]; exact endAt_push_size T x h
    · exact endAt_push_lt T x k (by omega)
  · rw [Nat.add_comm 1, List.filter_cons, endAt_push_last]
    by_cases h1 : x = 10
    · simp [h1]
    · by_cases h2 : x = 13
      · simp [h2]
      · simp [h1, h2]
theorem parts_plain (T : Array Nat) (x : Nat) (h1 : x ≠ 10) (h2 : x ≠ 13) : ∃ A q, parts T = A ++ [q] ∧ parts (T.push x) = A ++ [⟨q.cps.push x⟩] := by
  refine ⟨_, _, parts_eq T, ?_⟩
  rw [parts_eq, ends_push T x (fun e => h1 e.1), if_neg (by omega), List.append_nil, Array.size_push, extract_push T x _ (lastOr_le T), shut_push T x _ fun e he => (mem_ends he).2.1]
theorem parts_close (T : Array Nat) (x : Nat) (h : x = 10 ∨ x = 13) (h' : ¬ (x = 10 ∧ T.back? = some 13)) : ∃ A q, parts T = A ++ [q] ∧ parts (T.push x) = A ++ [⟨q.cps.push x⟩, emptyStr] := by
  refine ⟨_, _, parts_eq T, ?_⟩
  rw [parts_eq, ends_push T x h', if_pos h, shut_snoc, lastOr_snoc, Array.size_push, extract_push T x _ (lastOr_le T), shut_push T x _ fun e he => (mem_ends he).2.1]
  have : (T.push x).extract (T.size + 1) (T.size + 1) = #[] := by apply Array.eq_empty_of_size_eq_zero; simp
  rw [this, List.append_assoc]; rfl
theorem ends_pair (T : Array Nat) (h : T.back? = some 13) : ∃ E, endsFrom T 0 = E ++ [T.size] ∧ endsFrom (T.push 10) 0 = E ++ [T.size + 1] ∧ (∀ e ∈ E, e < T.size) := by
  obtain ⟨i, hn⟩ : ∃ i, T.size = i + 1 := by
    cases hs : T.size with
    | zero => rw [Array.back?, hs, Array.getElem?_eq_none (by omega)] at h; cases h
    | succ i => exact ⟨i, rfl⟩
  have hb : T[i]? = some 13 := by rw [← h, Array.back?, hn]; rfl
  refine ⟨(List.range' 1 i).filter (endAt T), ?_, ?_, ?_⟩
  · unfold endsFrom
    rw [Nat.sub_zero, Nat.zero_add, hn, List.range'_1_concat, List.filter_append, Nat.add_comm 1 i]
    congr 1
    rw [List.filter_cons, endAt_succ, hb, Array.getElem?_eq_none (by omega)]
    rfl
  · unfold endsFrom
    rw [Array.size_push, Nat.sub_zero, Nat.zero_add, hn, List.range'_1_concat, List.range'_1_concat, List.filter_append, List.filter_append, List.append_assoc]
    congr 1
    · refine List.filter_congr fun k hk => ?_
      rw [List.mem_range'_1] at hk
      exact endAt_push_lt T 10 k (by omega)
    · have e1 : endAt (T.push 10) (1 + i) = false := by
        rw [Nat.add_comm, endAt_succ, Array.getElem?_push_lt (by omega), ← hn, Array.getElem?_push_size, ← Array.getElem?_eq_getElem (by omega), hb]
        rfl
      have e2 : endAt (T.push 10) (1 + (i + 1)) = true := by
        have := endAt_push_last T 10
        rw [hn] at this
        rw [Nat.add_comm 1, this]; rfl
      simp only [List.filter_cons, e1, e2, List.filter_nil]
      simp; omega
  · intro e he
    rw [List.mem_filter, List.mem_range'_1] at he
    omega
theorem parts_pair (T : Array Nat) (h : T.back? = some 13) : ∃ A c, parts T = A ++ [c, emptyStr] ∧ parts (T.push 10) = A ++ [⟨c.cps.push 10⟩, emptyStr] := by
  obtain ⟨E, e1, e2, e3⟩ := ends_pair T h
  have hl : lastOr E ≤ T.size := by
    unfold lastOr
    have := List.getLast_mem (l := 0 :: E) (by simp)
    rcases List.mem_cons.mp this with e | e
    · rw [e]; exact Nat.zero_le _
    · exact Nat.le_of_lt (e3 _ e)
  refine ⟨shut T E, ⟨T.extract (lastOr E) T.size⟩, ?_, ?_⟩
  · rw [parts_eq, e1, shut_snoc, lastOr_snoc, List.append_assoc]
    have : T.extract T.size T.size = #[] := by apply Array.eq_empty_of_size_eq_zero; simp
    rw [this]; rfl
  · rw [parts_eq, e2, shut_snoc, lastOr_snoc, List.append_assoc, Array.size_push, extract_push T 10 _ hl, shut_push T 10 E fun e he => Nat.le_of_lt (e3 e he)]
    have : (T.push 10).extract (T.size + 1) (T.size + 1) = #[] := by apply Array.eq_empty_of_size_eq_zero; simp
    rw [this]; rfl
end Mine
end
section
open PySem PySem.W PyProof.Rows
set_option maxRecDepth 100000
namespace Mine
theorem snoc_inj {α : Type} {A B : List α} {a b : α} (h : A ++ [a] = B ++ [b]) : A = B ∧ a = b := by
  have := List.append_inj' h rfl
  exact ⟨this.1, by simpa using this.2⟩
theorem snoc2_inj {α : Type} {A B : List α} {a b c d : α} (h : A ++ [a, b] = B ++ [c, d]) : A = B ∧ a = c ∧ b = d := by
  have := List.append_inj' h rfl
  exact ⟨this.1, by simpa using this.2⟩
theorem plain_step {T : Array Nat} {x : Nat} {A : List Str} {q : Str} (h1 : x ≠ 10) (h2 : x ≠ 13) (h : parts T = A ++ [q]) : parts (T.push x) = A ++ [⟨q.cps.push x⟩] := by
  obtain ⟨A', q', e1, e2⟩ := parts_plain T x h1 h2
  obtain ⟨rfl, rfl⟩ := snoc_inj (h.symm.trans e1)
  exact e2
theorem close_step {T : Array Nat} {x : Nat} {A : List Str} {q : Str} (h1 : x = 10 ∨ x = 13) (h2 : ¬ (x = 10 ∧ T.back? = some 13)) (h : parts T = A ++ [q]) : parts (T.push x) = A ++ [⟨q.cps.push x⟩, emptyStr] := by
  obtain ⟨A', q', e1, e2⟩ := parts_close T x h1 h2
  obtain ⟨rfl, rfl⟩ := snoc_inj (h.symm.trans e1)
  exact e2
theorem pair_step {T : Array Nat} {A : List Str} {c q : Str} (h1 : T.back? = some 13) (h : parts T = A ++ [c, q]) : parts (T.push 10) = A ++ [⟨c.cps.push 10⟩, q] := by
  obtain ⟨A', c', e1, e2⟩ := parts_pair T h1
  obtain ⟨rfl, rfl, rfl⟩ := snoc2_inj (h.symm.trans e1)
  exact e2

theorem ends_sorted (T : Array Nat) : (endsFrom T 0).Pairwise (· < ·) := by
  unfold endsFrom
  exact List.Pairwise.filter _ List.pairwise_lt_range'
/-- with one row shut at least: the last but one and the last -/
theorem parts_shape {T : Array Nat} (h : endsFrom T 0 ≠ []) : ∃ A c q, parts T = A ++ [c, q] ∧ 0 < c.cps.size ∧ (q = emptyStr → c.cps.back? = T.back?) ∧ (T.back? = some 13 → q = emptyStr) := by
  obtain ⟨E, e, he⟩ : ∃ E e, endsFrom T 0 = E ++ [e] := ⟨_, _, (List.dropLast_concat_getLast h).symm⟩
  have hm := mem_ends (T := T) (e := e) (by rw [he]; simp)
  have hs := ends_sorted T
  rw [he] at hs
  have hlt : lastOr E < e := by
    unfold lastOr
    have := List.getLast_mem (l := 0 :: E) (by simp)
    rcases List.mem_cons.mp this with q | q
    · rw [q]; omega
    · exact (List.pairwise_append.mp hs).2.2 _ q e (by simp)
  refine ⟨shut T E, ⟨T.extract (lastOr E) e⟩, ⟨T.extract e T.size⟩, ?_, ?_, ?_, ?_⟩
  · rw [parts_eq, he, shut_snoc, lastOr_snoc, List.append_assoc]; rfl
  · simp; omega
  · intro hq
    have h0 : (T.extract e T.size).size = 0 := by rw [show T.extract e T.size = #[] from congrArg Str.cps hq]; rfl
    simp at h0
    have : e = T.size := by omega
    subst this
    rw [Array.back?, Array.back?, Array.getElem?_extract]
    simp only [Array.size_extract]
    rw [if_pos (by omega)]
    congr 1; omega
  · intro hb
    obtain ⟨E', e1, _, _⟩ := ends_pair T hb
    obtain ⟨_, rfl⟩ := snoc_inj (he.symm.trans e1)
    refine getElem_str_ext ?_
    show T.extract T.size T.size = #[]
    apply Array.eq_empty_of_size_eq_zero; simp
theorem ends_push_ne {T : Array Nat} (x : Nat) (h : endsFrom T 0 ≠ []) : endsFrom (T.push x) 0 ≠ [] := by
  by_cases hx : x = 10 ∧ T.back? = some 13
  · obtain ⟨E, _, e, _⟩ := ends_pair T hx.2
    rw [hx.1, e]; simp
  · rw [ends_push T x hx]; simp [h]

def catAll (l : List Str) : List Nat := (l.map fun x => x.cps.toList).flatten
theorem catAll_join : ∀ l : List Str, (Str.join (Str.ofString "") l).cps.toList = catAll l
  | [] => rfl
  | [x] => by simp [catAll, Str.join]
  | x :: y :: r => by
    have := catAll_join (y :: r)
    have e : (Str.ofString "").cps = #[] := by decide
    show (x.cps ++ (Str.ofString "").cps ++ (Str.join (Str.ofString "") (y :: r)).cps).toList = _
    rw [e, Array.toList_append, Array.toList_append, this]
    simp [catAll]
theorem catAll_parts (T : Array Nat) : catAll (parts T) = T.toList := by
  have key : ∀ l : List Nat, catAll (parts l.reverse.toArray) = l.reverse := by
    intro l
    induction l with
    | nil => rfl
    | cons x l ih =>
      rw [List.reverse_cons, ← List.push_toArray]
      generalize hT : l.reverse.toArray = T at *
      have hl : l.reverse = T.toList := by rw [← hT]
      rw [hl] at ih ⊢
      by_cases hp : x = 10 ∧ T.back? = some 13
      · obtain ⟨rfl, hb⟩ := hp
        obtain ⟨A, c, e1, e2⟩ := parts_pair T hb
        rw [e1] at ih; rw [e2, ← ih]
        simp [catAll, emptyStr]
      · by_cases hx : x = 10 ∨ x = 13
        · obtain ⟨A, q, e1, e2⟩ := parts_close T x hx hp
          rw [e1] at ih; rw [e2, ← ih]
          simp [catAll, emptyStr]
        · obtain ⟨A, q, e1, e2⟩ := parts_plain T x (fun e => hx (.inl e)) (fun e => hx (.inr e))
          rw [e1] at ih; rw [e2, ← ih]
          simp [catAll]
  have := key T.toList.reverse
  simpa using this
theorem join_parts (T : Array Nat) : Txt.join (Str.ofString "") (parts T) = ⟨T⟩ := by
  unfold Txt.join
  rw [StrLaws.glued_eq_join]
  refine getElem_str_ext (Array.toList_inj.mp ?_)
  rw [catAll_join, catAll_parts]
theorem parts_fix (T : Array Nat) : fixEnd (parts T) = rowsFrom T 0 := pieces_rows T 0 (Nat.zero_le _)
/-- the text that the law begins with -/
theorem parts_start (k : Nat) : parts (List.replicate k 97 ++ [13, 10, 12, 11, 13]).toArray = [⟨(List.replicate k 97 ++ [13, 10]).toArray⟩, ⟨#[12, 11, 13]⟩, emptyStr] ∧ endsFrom (List.replicate k 97 ++ [13, 10, 12, 11, 13]).toArray 0 ≠ [] := by
  have h0 : ∀ k, parts (List.replicate k 97).toArray = [] ++ [⟨(List.replicate k 97).toArray⟩] := by
    intro k
    induction k with
    | zero => rfl
    | succ k ih =>
      have := plain_step (x := 97) (by decide) (by decide) ih
      have e : (List.replicate k 97).toArray.push 97 = (List.replicate (k + 1) 97).toArray := by
        rw [List.push_toArray, List.replicate_succ']
      rw [e] at this; rw [this]
  have hk := h0 k
  have hb : ∀ (l : List Nat) (y : Nat), (l ++ [y]).toArray.back? = some y := by intro l y; simp
  have b1 : (List.replicate k 97).toArray.back? ≠ some 13 := by
    cases k with
    | zero => simp
    | succ k => rw [List.replicate_succ', hb]; decide
  have s1 := close_step (x := 13) (.inr rfl) (fun e => absurd e.1 (by decide)) hk
  rw [List.push_toArray] at s1
  have s2 := pair_step (A := []) (hb _ _) s1
  rw [List.push_toArray] at s2
  have s3 := plain_step (x := 12) (A := [_]) (by decide) (by decide) s2
  rw [List.push_toArray] at s3
  have s4 := plain_step (x := 11) (A := [_]) (by decide) (by decide) s3
  rw [List.push_toArray] at s4
  have s5 := close_step (x := 13) (A := [_]) (.inr rfl) (fun e => absurd e.1 (by decide)) s4
  rw [List.push_toArray] at s5
  have e : List.replicate k 97 ++ [13] ++ [10] ++ [12] ++ [11] ++ [13] = List.replicate k 97 ++ [13, 10, 12, 11, 13] := by simp
  have e' : List.replicate k 97 ++ [13] ++ [10] = List.replicate k 97 ++ [13, 10] := by simp
  rw [e, e'] at s5
  refine ⟨s5, ?_⟩
  rw [← e]
  obtain ⟨E, a, _⟩ := ends_pair (List.replicate k 97 ++ [13] ++ [10] ++ [12] ++ [11] ++ [13]).toArray (hb _ _)
  rw [a]; simp
end Mine
end
section
open PySem PySem.W PyProof.Rows
set_option maxRecDepth 100000
set_option maxHeartbeats 1000000
namespace Mine
section
variable {prog : Program} {w : World} {A : Around} {E : Value → Shared → Prop} {s : Shared} {env : Env}
/-- l[k] = v for a negative k -/
theorem setItem_neg {l : Addr} {items : Array Value} {k : Int} {t : Tok} {v : Value} {Q : Unit → Shared → Prop} (hl : LinesAt s.heap l items)
    (h0 : k < 0) (h1 : -(items.size : Int) ≤ k) (hfit : -(2 ^ 63) ≤ k)
    (hQ : ∀ h', LinesAt h' l (items.setIfInBounds (k + items.size).toNat v) → Heap.SameBut l s.heap h' → Q () { s with heap := h' }) :
    wpAny (model prog w) A (setItem (.ref l) (.int k t) v) Q E s := by
  obtain ⟨n, ho⟩ := hl
  have hl : s.heap.IsList l items := ⟨_, ho, rfl, n, rfl⟩
  unfold setItem
  try with_reducible refine wpAny_holding ?_
  first | refine wpAny_bind (wpAny_pure ?_) | skip
  refine wpAny_bind (wpAny_sequenceKey hl.typeIs (by decide) ?_)
  refine wpAny_bind (wpAny_callSpecial?_slot (name := Str.ofString "__setitem__") hl.typeIs slot_list_setitem
    (wpAny_call_entry slot_list_setitem hl.typeIs entry_list_setitem ?_ (args_list_setitem _ _ _)))
  show wpAny _ _ (Builtin.List.listSubscript? (.int k t) >>= _) _ _ s
  refine wpAny_bind (wpAny_listSubscript_int (fitsIndex_neg h0 hfit) ?_)
  clear hfit
  have hidx := seqIndex_neg h0 h1
  have hj : (k + items.size).toNat < items.size := by omega
  have hx : items[(k + items.size).toNat]? = some items[(k + items.size).toNat] := Array.getElem?_eq_getElem hj
  obtain ⟨j, rfl⟩ : ∃ j : Nat, k = Int.negSucc j := by
    cases k with
    | ofNat n => exact absurd h0 (Int.not_lt.mpr (Int.natCast_nonneg n))
    | negSucc n => exact ⟨n, rfl⟩
  show wpAny _ _ ((Builtin.List.listItems (.ref l) >>= fun xs => pure ((seqIndex? (Int.negSucc j) xs.size).bind fun i => xs[i]?.map (i, ·))) >>= _) _ _ s
  refine wpAny_bind (wpAny_bind ?_)
  show wpAny _ _ (seqItems? (.ref l) >>= _) _ _ s
  refine wpAny_bind (wpAny_seqItems ho rfl (wpAny_pure (wpAny_pure ?_)))
  rw [hidx]
  simp only [Option.bind_some, hx, Option.map_some]
  generalize (Int.negSucc j + (items.size : Int)).toNat = i at *
  show wpAny _ _ (setSeqItemAt l i v >>= _) _ _ s
  refine wpAny_bind (wpAny_setSeqItemAt ho rfl ?_)
  have hfin : LinesAt (s.heap.update l (Obj.mapSeq (·.setIfInBounds i v))) l (items.setIfInBounds i v) := by
    refine ⟨n, ?_⟩
    rw [Heap.get?_update_self _ ho rfl]
    simp [Obj.mapSeq]
  first
    | exact wpAny_bind (wpAny_pure (wpAny_pure ⟨.none, rfl, wpAny_pure (hQ _ hfin (Heap.SameBut.update ..))⟩))
    | exact wpAny_pure ⟨.none, rfl, wpAny_pure (hQ _ hfin (Heap.SameBut.update ..))⟩
end
end Mine
end
section
open PySem PySem.W PyProof.Rows
set_option maxRecDepth 100000
set_option maxHeartbeats 1000000
namespace Mine
structure Env6 (env : Env) (c : Addr) : Prop where
  fn : env.scope.kind = .function
  script : env.kindOf "script" = some .local
  rows : env.kindOf "rows" = some .local
  x : env.kindOf "x" = some .local
  sign : env.kindOf "sign" = some .local
  text : env.kindOf "text" = some .cell
  cell : env.cells.lookup ("text" : Str) = some c
  cuts : env.kindOf "cuts" = some .local
  held : env.kindOf "held" = some .local
  given : env.kindOf "given" = some .local
  start : env.kindOf "start" = some .local
  stop : env.kindOf "stop" = some .local
  told : env.kindOf "told" = some .local
  sorted : env.kindOf "sorted" = some .globalImplicit
  zip : env.kindOf "zip" = some .globalImplicit
  len : env.kindOf "len" = some .globalImplicit
  split : env.kindOf "_splitlines_no_ff" = some .globalImplicit
  stores : (env.scope.kind == .class || (env.scope.kind == .module && env.locals != env.globals)) = false
  plain : interactive env = false
structure Top6 (h : Heap) (env : Env) (f : Addr) : Prop where
  glob : ∃ mg, h.Ns env.globals mg ∧ mg "_splitlines_no_ff" = some (.ref f) ∧ mg "len" = none ∧ mg "zip" = none ∧ mg "sorted" = none
  blt : ∃ mb, h.Ns env.builtins mb ∧ mb "len" = some (.builtin "len") ∧ mb "zip" = some (.type "zip") ∧ mb "sorted" = some (.builtin "sorted")
theorem Top6.up {h h' : Heap} {env : Env} {f : Addr} (t : Top6 h env f) (k : Up h h') : Top6 h' env f :=
  ⟨let ⟨mg, a, b⟩ := t.glob; ⟨mg, a.keeps k, b⟩, let ⟨mb, a, b⟩ := t.blt; ⟨mb, a.keeps k, b⟩⟩

/-- all but the frame's names stay -/
def But (L : Addr) (h h' : Heap) : Prop := ∀ b o, b ≠ L → h.get? b = some o → h'.get? b = some o
theorem But.refl (L : Addr) (h : Heap) : But L h h := fun _ _ _ e => e
theorem But.trans {L : Addr} {h h' h'' : Heap} (x : But L h h') (y : But L h' h'') : But L h h'' := fun b o n e => y b o n (x b o n e)
theorem But.up {L : Addr} {h h' h'' : Heap} (x : But L h h') (y : Up h' h'') : But L h h'' := fun b o n e => y b o (x b o n e)
theorem Up.but {L : Addr} {h h' : Heap} (x : Up h h') : But L h h' := fun b o _ e => x b o e
theorem But.lines {L : Addr} {h h' : Heap} {D : Addr} {its : Array Value} (x : But L h h') (l : LinesAt h D its) (n : D ≠ L) : LinesAt h' D its := let ⟨k, e⟩ := l; ⟨k, x _ _ n e⟩
theorem But.isList {L : Addr} {h h' : Heap} {D : Addr} {its : Array Value} (x : But L h h') (l : h.IsList D its) (n : D ≠ L) : h'.IsList D its := let ⟨o, e, r⟩ := l; ⟨o, x _ _ n e, r⟩
theorem But.cell {L : Addr} {h h' : Heap} {c : Addr} {v : Option Value} (x : But L h h') (l : h.IsCell c v) (n : c ≠ L) : h'.IsCell c v := let ⟨o, e, r⟩ := l; ⟨o, x _ _ n e, r⟩
theorem get?_ne {h : Heap} {a b : Addr} {o : Obj} (e : h.get? a = some o) (n : h.get? b = none) : a ≠ b := fun x => by rw [x, n] at e; cases e
theorem fresh_of {h : Heap} {x : Addr} (hx : h.objs.size ≤ x) : h.get? x = none := by
  cases e : h.get? x with
  | none => rfl
  | some o => exact absurd (Heap.lt_size e) (Nat.not_lt.mpr hx)

section
variable {prog : Program} {w : World} {A : Around} {E : Value → Shared → Prop} {s : Shared} {env : Env}

theorem add_isl {l b : Addr} {its its2 : Array Value} {Q : Value → Shared → Prop} (hl : s.heap.IsList l its) (hb : s.heap.IsList b its2) (hsz : its.size + its2.size ≤ sizeLine)
    (h : Q (.ref s.heap.objs.size) { s with heap := s.heap.push { cls := .type "list", data := .seq (its ++ its2) } }) :
    wpAny (model prog w) A (binaryOp .Add (.ref l) (.ref b)) Q E s := by
  obtain ⟨⟨cls, dd, data, sl⟩, ho, hc, n, hd⟩ := id hl
  obtain ⟨⟨cls2, dd2, data2, sl2⟩, ho2, hc2, n2, hd2⟩ := id hb
  simp only at hc hd hc2 hd2
  subst hc hd hc2 hd2
  exact concat_meets ⟨_, ho, rfl⟩ ⟨_, ho2, rfl⟩ noFill_list_add seq_list_add PySem.F.slot_list_add PySem.F.entry_list_add (PySem.F.args_list_add_2 _ _) (list_addW l b its its2 n n2 dd dd2 sl sl2 hsz) ⟨ho, ho2, h⟩

/-- an item of a list, at a place that is not negative -/
theorem item_at {D : Addr} {its : Array Value} {k : Int} {u : Tok} {v : Value} {Q : Value → Shared → Prop} (hD : s.heap.IsList D its) (h0 : 0 ≤ k) (h1 : k < 2 ^ 63) (hv : its[k.toNat]? = some v) (h : Q v s) :
    ItemOn (model prog w) A E (.ref D) (.int k u) Q s :=
  ⟨"list", _, F.slot_list_getitem.lookup, hD.typeIs, wpAny_getItem_list hD h0 h1 hv h⟩
theorem item_neg {D : Addr} {its : Array Value} {k : Int} {u : Tok} {v : Value} {Q : Value → Shared → Prop} (hD : s.heap.IsList D its) (h0 : k < 0) (h1 : -(its.size : Int) ≤ k) (h2 : -(2 ^ 63) ≤ k) (hv : its[(k + its.size).toNat]? = some v) (h : Q v s) :
    ItemOn (model prog w) A E (.ref D) (.int k u) Q s :=
  ⟨"list", _, F.slot_list_getitem.lookup, hD.typeIs, wpAny_getItem_list_neg hD h0 h1 h2 hv h⟩

theorem mul_text (k : Nat) (hk : 2 ≤ k) : Txt.mul (Str.ofString "a") (k : Int) = ⟨(List.replicate k 97).toArray⟩ := by
  have ha : Str.ofString "a" = ⟨#[97]⟩ := by decide
  rw [ha]
  unfold Txt.mul
  rw [if_neg (by omega), if_neg (by simp [Str.length]; omega)]
  refine getElem_str_ext ?_
  show (List.replicate (k : Int).toNat #[97]).foldl (· ++ ·) #[] = (List.replicate k 97).toArray
  rw [Int.toNat_natCast]
  have key : ∀ (n : Nat) (acc : Array Nat), (List.replicate n #[97]).foldl (· ++ ·) acc = acc ++ (List.replicate n 97).toArray := by
    intro n
    induction n with
    | zero => intro acc; simp
    | succ n ih =>
      intro acc
      rw [List.replicate_succ, List.foldl_cons, ih, List.replicate_succ]
      apply Array.toList_inj.mp
      simp
  rw [key, Array.empty_append]

theorem mulOk_a (k : Nat) (h1 : 64 ≤ k) (h2 : k ≤ 127) : MulOk ("a" : Str) (k : Int) := by
  have ha : ("a" : Str).length = 1 := by decide
  refine ⟨?_, fun _ _ => ?_, fun _ _ => ?_⟩
  · rw [decide_eq_false (by omega), decide_eq_false (by omega)]; rfl
  · rw [ha]
    intro h
    have h3 : (2 ^ 63 - 1) / (k : Int) < 1 := h
    rw [Int.ediv_lt_iff_lt_mul (by omega)] at h3
    omega
  · rw [ha]
    unfold Builtin.Str.tooLong
    rw [sizeLine_eq]
    exact decide_eq_false (by omega)

theorem count_a (v : Int) : ∃ k : Nat, (64 : Int) + (v.fdiv 10).fmod 64 = (k : Int) ∧ 64 ≤ k ∧ k ≤ 127 := by
  have h1 := Int.fmod_nonneg_of_pos (v.fdiv 10) (show (0 : Int) < 64 by decide)
  have h2 := Int.fmod_lt_of_pos (v.fdiv 10) (show (0 : Int) < 64 by decide)
  generalize (v.fdiv 10).fmod 64 = r at *
  exact ⟨(64 + r).toNat, by omega, by omega, by omega⟩

/-- rows = ['a' * (64 + (script + [0])[0] // 10 % 64) + '\r\n', '\x0c\x0b\r', ''] -/
theorem rows_exec {p1 p2 p3 p4 p5 p6 p7 p8 p9 p10 p11 p12 p13 p14 p15 p16 p17 p18 p19 p20 p21 : Pos} {k1 k2 k3 k4 k5 k6 k7 k8 k9 : Nat} {c sl : Addr} {zs : Array Value} {xs : List Int} {m : Str → Option Value} {Q : Flow → Shared → Prop}
    (V : Env6 env c) (hn : s.heap.Ns env.locals m) (hs : m "script" = some (.ref sl)) (hl : s.heap.IsList sl zs) (hz : IntsAre zs.toList xs) (hzs : zs.size ≤ 100000)
    (hQ : ∀ h' tk D its k, s.heap.get? D = none → LinesAt h' D its → k ≤ 127 → StrsAre its.toList [⟨(List.replicate k 97 ++ [13, 10]).toArray⟩, ⟨#[12, 11, 13]⟩, emptyStr] →
      h'.Ns env.locals (fun z => if z = "rows" then some (.ref D) else m z) → But env.locals s.heap h' → Q .next { s with heap := h', toks := tk }) :
    wpAny (model prog w) A (exec (.Assign [.Name "rows" p1] (.List [.BinOp (.BinOp (.Constant (.str "a") k1 p2) .Mult (.BinOp (.Constant (.int 64) k2 p3) .Add
      (.BinOp (.BinOp (.Subscript (.BinOp (.Name "script" p4) .Add (.List [.Constant (.int 0) k3 p5] p6) p7) (.Constant (.int 0) k4 p8) p9) .FloorDiv (.Constant (.int 10) k5 p10) p11) .Mod (.Constant (.int 64) k6 p12) p13) p14) p15)
      .Add (.Constant (.str "\r\n") k7 p16) p17, .Constant (.str "\u000c\u000b\r") k8 p18, .Constant (.str "") k9 p19] p20) p21) env) Q E s := by
  refine wpAny_Assign_Name (wpAny_List ?_)
  refine PyProof.Rows.spliced_more (wpAny_BinOp (wpAny_BinOp (wpAny_Constant_str (wpAny_BinOp (wpAny_Constant_int (wpAny_BinOp (wpAny_BinOp ?_)))))))
  refine Subscript_ (wpAny_BinOp (eval_local V.fn V.script hn hs ?_))
  refine wpAny_List (PyProof.Rows.spliced_more (wpAny_Constant_int (PyProof.Rows.spliced_none ⟨by simp [sizeLine_eq], ?_⟩)))
  refine add_isl (its := zs) (hl.push _) ⟨_, Heap.get?_push_size _ rfl, rfl, _, rfl⟩ (by simp [sizeLine_eq]; omega) ?_
  refine wpAny_Constant_int ?_
  obtain ⟨v, t, hv⟩ : ∃ (v : Int) (t : Tok), (zs ++ [Value.int 0 (s.toks + 1 + 1)].toArray)[(0 : Int).toNat]? = some (.int v t) := by
    have hi := IntsAre.append hz (IntsAre.cons 0 (s.toks + 1 + 1) .nil)
    generalize hL : zs.toList ++ [Value.int 0 (s.toks + 1 + 1)] = L at hi
    have e : (zs ++ [Value.int 0 (s.toks + 1 + 1)].toArray) = L.toArray := by rw [← hL]; apply Array.toList_inj.mp; simp
    have hne : 0 < L.length := by rw [← hL]; simp
    have e0 : L[0]? = some L[0] := List.getElem?_eq_getElem hne
    obtain ⟨k, t, hk, _⟩ := IntsAre.at hi 0 _ e0
    rw [hk] at e0
    rw [e]
    exact ⟨k, t, by simpa using e0⟩
  refine item_listR ⟨_, Heap.get?_push_size _ rfl, rfl, _, rfl⟩ (by decide) (by decide) hv ?_
  refine wpAny_Constant_int (floordiv_int (by decide) (wpAny_Constant_int (mod_int' (by decide) (PyProof.Rows.add_int ?_))))
  dsimp only
  obtain ⟨k, hk, hk1, hk2⟩ := count_a v
  rw [hk]
  refine SB.mul (mulOk_a k hk1 hk2) fun t1 tk1 => ?_
  rw [show Txt.mul ("a" : Str) (k : Int) = _ from mul_text k (by omega)]
  refine wpAny_Constant_str (SB.add (fun t2 tk2 => ?_) ?_)
  · refine PyProof.Rows.spliced_more (wpAny_Constant_str (PyProof.Rows.spliced_more (wpAny_Constant_str (PyProof.Rows.spliced_none ⟨by simp [sizeLine_eq], ?_⟩))))
    refine wpAny_storeName_local V.rows (m := m) (((hn.push _).push _).push _) (fun h' hn' hs' => ?_) V.stores
    have e : ((⟨(List.replicate k 97).toArray⟩ : Str) ++ ("\r\n" : Str)) = ⟨(List.replicate k 97 ++ [13, 10]).toArray⟩ := by
      have e1 : ("\r\n" : Str) = ⟨#[13, 10]⟩ := by decide
      rw [e1]
      refine getElem_str_ext ?_
      show (List.replicate k 97).toArray ++ #[13, 10] = _
      simp
    have e3 : ("\u000c\u000b\r" : Str) = ⟨#[12, 11, 13]⟩ := by decide
    have e4 : ("" : Str) = emptyStr := by decide
    have u : Up s.heap (((s.heap.push { cls := .type "list", data := .seq [Value.int 0 (s.toks + 1 + 1)].toArray }).push { cls := .type "list", data := .seq (zs ++ [Value.int 0 (s.toks + 1 + 1)].toArray) })) := (Up.push _ _).trans (.push _ _)
    dsimp only at hs' ⊢
    generalize hH : ((s.heap.push { cls := .type "list", data := .seq [Value.int 0 (s.toks + 1 + 1)].toArray }).push { cls := .type "list", data := .seq (zs ++ [Value.int 0 (s.toks + 1 + 1)].toArray) }) = H at *
    have hz1 : s.heap.objs.size ≤ H.objs.size := by rw [← hH]; simp only [Heap.size_push]; exact Nat.le_add_right _ 2
    have hDL : H.objs.size ≠ env.locals := by
      obtain ⟨o, _, _, ho, _⟩ := hn
      exact Ne.symm (get?_ne ho (fresh_of hz1))
    refine hQ h' _ H.objs.size _ k (fresh_of hz1) ⟨_, hs'.extBut _ _ hDL (Heap.get?_push_size _ rfl)⟩ hk2 ?_ hn' fun b o hb e => hs'.extBut b o hb ((Up.push _ _) _ _ (u _ _ e))
    rw [e, e3, e4]
    exact .cons _ _ (.cons _ _ (.cons _ _ .nil))
  · show (List.replicate k 97).toArray.size + (Str.ofString "\r\n").length ≤ _
    have : (Str.ofString "\r\n").length = 2 := by decide
    rw [this, sizeLine_eq]; simp; omega
end
end Mine
end
section
open PySem PySem.W PyProof.Rows
set_option maxRecDepth 100000
set_option maxHeartbeats 1000000
namespace Mine
abbrev menu : Str := "\n\r\n\ra\u000c\u0085\u2028 \u000b"
theorem sign_of (v : Int) : ∃ n, n < 0x110000 ∧ Txt.item menu (v.fmod 10) = ⟨#[n]⟩ ∧ (Txt.charAt menu (v.fmod 10)).isSome = true ∧ fitsSsize (v.fmod 10) = true := by
  have h1 := Int.fmod_nonneg_of_pos v (show (0 : Int) < 10 by decide)
  have h2 := Int.fmod_lt_of_pos v (show (0 : Int) < 10 by decide)
  generalize v.fmod 10 = r at *
  have e : menu = ⟨#[10, 13, 10, 13, 97, 12, 0x85, 0x2028, 32, 11]⟩ := by decide
  rw [e]
  have : r = 0 ∨ r = 1 ∨ r = 2 ∨ r = 3 ∨ r = 4 ∨ r = 5 ∨ r = 6 ∨ r = 7 ∨ r = 8 ∨ r = 9 := by omega
  rcases this with rfl | rfl | rfl | rfl | rfl | rfl | rfl | rfl | rfl | rfl <;> refine ⟨_, ?_, rfl, by decide, by decide⟩ <;> decide

theorem item_back {x : Str} (h : 0 < x.cps.size) : ∃ b, x.cps.back? = some b ∧ Txt.item x (-1) = ⟨#[b]⟩ := by
  refine ⟨x.cps[x.cps.size - 1]'(by omega), ?_, ?_⟩
  · rw [Array.back?, Array.getElem?_eq_getElem (by omega)]
  · unfold Txt.item Txt.charAt seqIndex?
    have hl : x.length = x.cps.size := rfl
    have h1 : (0 ≤ (-1 : Int) + (x.cps.size : Int) && (-1 : Int) + (x.cps.size : Int) < (x.cps.size : Int)) = true := by simp; omega
    have h2 : ((-1 : Int) + (x.cps.size : Int)).toNat = x.cps.size - 1 := by omega
    simp only [hl, show (-1 : Int) < 0 by decide, if_true]
    rw [if_pos h1, h2]
    simp only [Option.bind_some]
    rw [Array.getElem?_eq_getElem (by omega)]
    rfl
theorem one_eq (n k : Nat) : ((⟨#[n]⟩ : Str) == ⟨#[k]⟩) = decide (n = k) := by
  by_cases h : n = k
  · subst h; simp
  · have : (⟨#[n]⟩ : Str) ≠ ⟨#[k]⟩ := fun e => h (by simpa using congrArg Str.cps e)
    simp [h]
theorem empty_eq (q : Str) : (q == emptyStr) = decide (q = emptyStr) := by
  by_cases h : q = emptyStr
  · subst h; simp
  · simp [h]
theorem one_in (n : Nat) : Txt.contains ("\r\n" : Str) ⟨#[n]⟩ = decide (n = 10 ∨ n = 13) := by
  unfold Txt.contains
  show (!(Builtin.Str.occurrences (Str.ofString "\r\n") ⟨#[n]⟩ 0 (Str.ofString "\r\n").length 1).isEmpty) = _
  rw [PyProof.Rows.empty_one]
  have hs : (Str.ofString "\r\n").cps.toList = [13, 10] := by decide
  rw [hs]
  by_cases h1 : n = 10
  · subst h1; decide
  · by_cases h2 : n = 13
    · subst h2; decide
    · simp [h1, h2]
theorem mem_catAll {l : List Str} {x : Str} (h : x ∈ l) : x.cps.size ≤ (catAll l).length := by
  induction l with
  | nil => cases h
  | cons y r ih =>
    have e : (catAll (y :: r)).length = y.cps.size + (catAll r).length := by simp [catAll]
    rcases List.mem_cons.mp h with rfl | h
    · omega
    · have := ih h; omega
theorem part_len {T : Array Nat} {x : Str} (h : x ∈ parts T) : x.cps.size ≤ T.size := by
  have := mem_catAll h
  rw [catAll_parts] at this
  simpa using this
theorem parts_len (T : Array Nat) : (parts T).length ≤ T.size + 1 := by
  rw [parts_eq]
  simp only [List.length_append, List.length_singleton]
  have h1 : (shut T (endsFrom T 0)).length = (endsFrom T 0).length := by simp [shut, pieces]
  have h2 : (endsFrom T 0).length ≤ T.size := by
    unfold endsFrom
    refine Nat.le_trans (List.length_filter_le _ _) ?_
    simp
  omega
theorem strs_set : ∀ {vs : List Value} {xs : List Str} (i : Nat) (y : Str) (t : Tok), StrsAre vs xs → StrsAre (vs.set i (.str y t)) (xs.set i y)
  | _, _, _, _, _, .nil => by simpa using StrsAre.nil
  | _, _, 0, y, t, .cons _ _ r => by simpa using StrsAre.cons y t r
  | _, _, i + 1, y, t, .cons a u r => by simpa using StrsAre.cons a u (strs_set i y t r)
theorem push_eq (x : Str) (n : Nat) : x ++ (⟨#[n]⟩ : Str) = ⟨x.cps.push n⟩ := by
  refine getElem_str_ext ?_
  show x.cps ++ #[n] = _
  simp

section
variable {prog : Program} {w : World} {A : Around} {E : Value → Shared → Prop} {s : Shared} {env : Env}

/-- sign == '\n' and rows[-1] == '' and (rows[-2][-1] == '\r') -/
theorem test_pair {p1 p2 p3 p4 p5 p6 p7 p8 p9 p10 p11 p12 p13 p14 p15 p16 p17 p18 p19 : Pos} {k1 k2 k3 k4 k5 k6 : Nat} {c R : Addr} {m : Str → Option Value} {its : Array Value} {T : Array Nat} {n : Nat} {t : Tok} {whole : Sem Value} {Q : Bool → Shared → Prop}
    (V : Env6 env c) (hn : s.heap.Ns env.locals m) (hr : m "rows" = some (.ref R)) (hg : m "sign" = some (.str ⟨#[n]⟩ t)) (hR : LinesAt s.heap R its) (hS : StrsAre its.toList (parts T)) (hT : endsFrom T 0 ≠ [])
    (h : ∀ tk, Q (decide (n = 10 ∧ T.back? = some 13)) { s with toks := tk }) :
    wpAny (model prog w) A (isTrue (.BoolOp .And [.Compare (.Name "sign" p1) [.Eq] [.Constant (.str "\n") k1 p2] p3,
      .Compare (.Subscript (.Name "rows" p4) (.UnaryOp .USub (.Constant (.int 1) k2 p5) p6) p7) [.Eq] [.Constant (.str "") k3 p8] p9,
      .Compare (.Subscript (.Subscript (.Name "rows" p10) (.UnaryOp .USub (.Constant (.int 2) k4 p11) p12) p13) (.UnaryOp .USub (.Constant (.int 1) k5 p14) p15) p16) [.Eq] [.Constant (.str "\r") k6 p17] p18] p19) env whole) Q E s := by
  obtain ⟨A', cc, q, e1, e2, e3, e4⟩ := parts_shape hT
  rw [e1] at hS
  have hl := strs_length hS
  have hsz : its.size = A'.length + 2 := by rw [← Array.length_toList, hl]; simp
  have s1 : ("\n" : Str) = ⟨#[10]⟩ := by decide
  have s2 : ("" : Str) = emptyStr := by decide
  have s3 : ("\r" : Str) = ⟨#[13]⟩ := by decide
  refine isTrue_and (wpAny_isTrue_Compare1 (eval_local V.fn V.sign hn hg (wpAny_Constant_str (PyProof.Rows.eq_str (wpAny_truthy_bool ?_)))))
  rw [s1, one_eq]
  by_cases h10 : n = 10
  · rw [if_pos (by simpa using h10)]
    refine isTrue_and (wpAny_isTrue_Compare1 (Subscript_UnaryOp (eval_local V.fn V.rows (m := m) hn hr (UnaryOp_ (wpAny_Constant_int (neg_int ?_))))))
    have hS' : StrsAre its.toList ((A' ++ [cc]) ++ [q]) := by simpa using hS
    refine item_last hR hS' fun t' => wpAny_Constant_str (PyProof.Rows.eq_str (wpAny_truthy_bool ?_))
    dsimp only
    rw [s2, empty_eq]
    by_cases hq : q = emptyStr
    · rw [if_pos (by simpa using hq)]
      refine isTrue_and (wpAny_isTrue_Compare1 (Subscript_ (Subscript_UnaryOp (eval_local V.fn V.rows (m := m) hn hr (UnaryOp_ (wpAny_Constant_int (neg_int ?_)))))))
      obtain ⟨tc, htc⟩ := strs_getElem hS A'.length cc (by simp)
      refine item_neg (v := .str cc tc) hR.lst (by decide) (by rw [hsz]; omega) (by decide) ?_ ?_
      · rw [hsz, show ((-2 : Int) + ((A'.length + 2 : Nat) : Int)).toNat = A'.length by omega, ← Array.getElem?_toList]; exact htc
      · obtain ⟨b, hb1, hb2⟩ := item_back e2
        refine UnaryOp_ (wpAny_Constant_int (neg_int (item_str (by decide) (by show -((cc.cps.size : Nat) : Int) ≤ -1; omega) (by show (-1 : Int) < ((cc.cps.size : Nat) : Int); omega) (fun _ => wpAny_Constant_str (PyProof.Rows.eq_str (wpAny_truthy_bool ?_))))))
        dsimp only
        rw [hb2, s3, one_eq]
        have : decide (n = 10 ∧ T.back? = some 13) = decide (b = 13) := by rw [← e3 hq, hb1]; simp [h10]
        rw [this] at h
        by_cases hb : b = 13
        · rw [if_pos (by simpa using hb)]
          refine isTrue_and_nil ?_
          rw [decide_eq_true hb] at h
          exact h _
        · rw [if_neg (by simpa using hb)]
          rw [decide_eq_false hb] at h
          exact h _
    · rw [if_neg (by simpa using hq)]
      have hf : decide (n = 10 ∧ T.back? = some 13) = false := decide_eq_false fun x => hq (e4 x.2)
      rw [hf] at h
      exact h _
  · rw [if_neg (by simpa using h10)]
    have hf : decide (n = 10 ∧ T.back? = some 13) = false := decide_eq_false fun x => h10 x.1
    rw [hf] at h
    exact h _

/-- rows[k] += sign, k the last place but one or the last -/
theorem aug_row {p1 p2 p3 p4 p5 p6 : Pos} {k1 : Nat} {c R : Addr} {m : Str → Option Value} {its : Array Value} {xs ys : List Str} {y : Str} {j : Int} {n : Nat} {t : Tok} {Q : Flow → Shared → Prop}
    (V : Env6 env c) (hn : s.heap.Ns env.locals m) (hr : m "rows" = some (.ref R)) (hg : m "sign" = some (.str ⟨#[n]⟩ t)) (hR : LinesAt s.heap R its) (hS : StrsAre its.toList (xs ++ y :: ys)) (hj : j = (ys.length : Int) + 1) (hjj : j < 100) (hy : y.cps.size ≤ 10000)
    (h : ∀ h' tk its', LinesAt h' R its' → StrsAre its'.toList (xs ++ ⟨y.cps.push n⟩ :: ys) → Heap.SameBut R s.heap h' → Q .next { s with heap := h', toks := tk }) :
    wpAny (model prog w) A (exec (.AugAssign (.Subscript (.Name "rows" p1) (.UnaryOp .USub (.Constant (.int j) k1 p2) p3) p4) .Add (.Name "sign" p5) p6) env) Q E s := by
  have hl := strs_length hS
  have hsz : its.size = xs.length + ys.length + 1 := by rw [← Array.length_toList, hl]; simp; omega
  have hat : (-j + (its.size : Int)).toNat = xs.length := by omega
  obtain ⟨ty, hty⟩ := strs_getElem hS xs.length y (by simp)
  refine wpAny_AugAssign_SubscriptAny (eval_local V.fn V.rows hn hr (UnaryOp_ (wpAny_Constant_int (neg_int ?_))))
  refine wpAny_getItem_list_neg (x := .str y ty) hR.lst (by omega) (by omega) (by omega) (by rw [hat, ← Array.getElem?_toList]; exact hty) ?_
  refine eval_local V.fn V.sign (m := m) hn hg (SB.iadd (fun t' tk => ?_) ?_)
  · refine setItem_neg hR (by omega) (by omega) (by omega) fun h' hL hs' => ?_
    refine h h' _ _ hL ?_ hs'
    rw [hat, push_eq, Array.toList_setIfInBounds]
    have := strs_set xs.length (⟨y.cps.push n⟩ : Str) t' hS
    simpa using this
  · show y.cps.size + 1 ≤ sizeLine
    rw [sizeLine_eq]; omega

theorem write_turn {p1 p2 p3 p4 p5 p6 p7 a1 a2 a3 a4 a5 a6 a7 a8 a9 a10 a11 a12 a13 a14 a15 a16 a17 a18 a19 b1 b2 b3 b4 b5 b6 c1 c2 c3 c4 c5 c6 d1 d2 d3 d4 d5 d6 d7 d8 d9 d10 : Pos} {k1 k2 i1 i2 i3 i4 i5 i6 j1 j2 j3 j4 : Nat} {c R : Addr} {m : Str → Option Value} {its : Array Value} {T : Array Nat} {v : Int} {t : Tok} {Q : Flow → Shared → Prop}
    (V : Env6 env c) (hn : s.heap.Ns env.locals m) (hr : m "rows" = some (.ref R)) (hx : m "x" = some (.int v t)) (hRL : R ≠ env.locals) (hR : LinesAt s.heap R its) (hS : StrsAre its.toList (parts T)) (hT : endsFrom T 0 ≠ []) (hsz : T.size ≤ 10000)
    (hline : (d5.endLine == d7.line) = true) (hsw : swapsWith (.Call (.Attribute (.Name "rows" d4) "append" d5) [.Constant (.str "") j4 d6] [] d7) none d8.line env = pure false)
    (hQ : ∀ h' tk its' n m', n < 0x110000 → LinesAt h' R its' → StrsAre its'.toList (parts (T.push n)) → h'.Ns env.locals m' → (∀ z : Str, z ≠ "sign" → m' z = m z) →
      (∀ b o, b ≠ env.locals → b ≠ R → s.heap.get? b = some o → h'.get? b = some o) → Q .next { s with heap := h', toks := tk }) :
    wpAny (model prog w) A (execs [.Assign [.Name "sign" p1] (.Subscript (.Constant (.str "\n\r\n\ra\u000c\u0085\u2028 \u000b") k1 p2) (.BinOp (.Name "x" p3) .Mod (.Constant (.int 10) k2 p4) p5) p6) p7,
      .If (.BoolOp .And [.Compare (.Name "sign" a1) [.Eq] [.Constant (.str "\n") i1 a2] a3,
      .Compare (.Subscript (.Name "rows" a4) (.UnaryOp .USub (.Constant (.int 1) i2 a5) a6) a7) [.Eq] [.Constant (.str "") i3 a8] a9,
      .Compare (.Subscript (.Subscript (.Name "rows" a10) (.UnaryOp .USub (.Constant (.int 2) i4 a11) a12) a13) (.UnaryOp .USub (.Constant (.int 1) i5 a14) a15) a16) [.Eq] [.Constant (.str "\r") i6 a17] a18] a19)
      [.AugAssign (.Subscript (.Name "rows" b1) (.UnaryOp .USub (.Constant (.int 2) j1 b2) b3) b4) .Add (.Name "sign" b5) b6]
      [.AugAssign (.Subscript (.Name "rows" c1) (.UnaryOp .USub (.Constant (.int 1) j2 c2) c3) c4) .Add (.Name "sign" c5) c6,
        .If (.Compare (.Name "sign" d1) [.In] [.Constant (.str "\r\n") j3 d2] d3) [.Expr (.Call (.Attribute (.Name "rows" d4) "append" d5) [.Constant (.str "") j4 d6] [] d7) d8] [] d9] d10] env) Q E s := by
  obtain ⟨n, hlt, hit, hch, hfit⟩ := sign_of v
  obtain ⟨A', cc, q, e1, e2, e3, e4⟩ := parts_shape hT
  have lc : cc.cps.size ≤ T.size := part_len (by rw [e1]; simp)
  have lq : q.cps.size ≤ T.size := part_len (by rw [e1]; simp)
  refine wpAny_execs_cons (wpAny_Assign_Name (Subscript_ (wpAny_Constant_str (wpAny_BinOp (eval_local V.fn V.x (m := m) hn hx (wpAny_Constant_int (mod_int' (by decide) ?_)))))))
  refine tail_of_ItemOn (SB.item hfit hch ?_) rfl (fun _ => rfl)
  rw [show Txt.item _ (v.fmod 10) = _ from hit]
  refine wpAny_storeName_local V.sign (m := m) hn (fun h₁ hn₁ hs₁ => ?_) V.stores
  dsimp only at hs₁ ⊢
  have hR₁ : LinesAt h₁ R its := let ⟨k, e⟩ := hR; ⟨k, hs₁.extBut _ _ hRL e⟩
  have hr₁ : (fun z : Str => if z = "sign" then some (Value.str ⟨#[n]⟩ (s.toks + 1 + 1 + 1)) else m z) "rows" = some (.ref R) := by show (if _ then _ else _) = _; rw [if_neg (by decide)]; exact hr
  have hg₁ : (fun z : Str => if z = "sign" then some (Value.str ⟨#[n]⟩ (s.toks + 1 + 1 + 1)) else m z) "sign" = some (.str ⟨#[n]⟩ (s.toks + 1 + 1 + 1)) := by show (if _ then _ else _) = _; rw [if_pos rfl]
  have hm₁ : ∀ z : Str, z ≠ "sign" → (fun z : Str => if z = "sign" then some (Value.str ⟨#[n]⟩ (s.toks + 1 + 1 + 1)) else m z) z = m z := fun z hz => by show (if _ then _ else _) = _; rw [if_neg hz]
  generalize (fun z : Str => if z = "sign" then some (Value.str ⟨#[n]⟩ (s.toks + 1 + 1 + 1)) else m z) = m₁ at *
  refine wpAny_execs_cons (wpAny_If (test_pair V hn₁ hr₁ hg₁ hR₁ hS hT fun tk => ?_))
  dsimp only
  by_cases hp : n = 10 ∧ T.back? = some 13
  · rw [if_pos (by simpa using hp)]
    have hS' : StrsAre its.toList (A' ++ cc :: [q]) := by rw [← e1]; exact hS
    refine wpAny_execs_cons (aug_row V hn₁ hr₁ hg₁ hR₁ hS' (by simp) (by decide) (by omega) fun h₂ tk₂ its₂ hL₂ hS₂ hs₂ => wpAny_execs_nil (wpAny_execs_nil ?_))
    refine hQ h₂ _ its₂ n m₁ hlt hL₂ ?_ (hn₁.sameBut hs₂ (Ne.symm hRL)) hm₁ fun b o hb hb' e => hs₂.extBut b o hb' (hs₁.extBut b o hb e)
    obtain ⟨rfl, hb⟩ := hp
    rw [pair_step hb e1]; exact hS₂
  · rw [if_neg (by simpa using hp)]
    have e1' : parts T = (A' ++ [cc]) ++ [q] := by rw [e1]; simp
    have hS' : StrsAre its.toList ((A' ++ [cc]) ++ q :: []) := by rw [← e1']; exact hS
    refine wpAny_execs_cons (aug_row V hn₁ hr₁ hg₁ hR₁ hS' (by simp) (by decide) (by omega) fun h₂ tk₂ its₂ hL₂ hS₂ hs₂ => ?_)
    dsimp only at hs₂ ⊢
    have hn₂ := hn₁.sameBut hs₂ (Ne.symm hRL)
    have k₂ : ∀ b o, b ≠ env.locals → b ≠ R → s.heap.get? b = some o → h₂.get? b = some o := fun b o hb hb' e => hs₂.extBut b o hb' (hs₁.extBut b o hb e)
    refine wpAny_execs_cons (wpAny_If (wpAny_isTrue_Compare1 (eval_local V.fn V.sign (m := m₁) hn₂ hg₁ (wpAny_Constant_str (SB.contains (wpAny_truthy_bool ?_))))))
    rw [one_in]
    have hsz₂ : its₂.size ≤ sizeLine := by
      have l1 := strs_length hS₂
      have l2 := parts_len T
      rw [e1'] at l2
      rw [← Array.length_toList, l1, sizeLine_eq]
      simp at l2 ⊢; omega
    by_cases hc : n = 10 ∨ n = 13
    · rw [if_pos (by simpa using hc)]
      refine wpAny_execs_cons (exec_append_const V.fn V.plain V.rows (m := m₁) hn₂ hr₁ hL₂ hsz₂ hline hsw fun h₃ tk₃ t₃ hL₃ hs₃ => wpAny_execs_nil (wpAny_execs_nil (wpAny_execs_nil ?_)))
      refine hQ h₃ _ _ n m₁ hlt hL₃ ?_ (hn₂.sameBut hs₃ (Ne.symm hRL)) hm₁ fun b o hb hb' e => hs₃.extBut b o hb' (k₂ b o hb hb' e)
      rw [close_step hc hp e1', Array.toList_push]
      have : emptyStr = ("" : Str) := by decide
      rw [this]
      have := strs_snoc (("" : Str)) t₃ hS₂
      simpa using this
    · rw [if_neg (by simpa using hc)]
      refine wpAny_execs_nil (wpAny_execs_nil (wpAny_execs_nil ?_))
      refine hQ h₂ _ its₂ n m₁ hlt hL₂ ?_ hn₂ hm₁ k₂
      rw [plain_step (fun e => hc (.inl e)) (fun e => hc (.inr e)) e1']; exact hS₂
end
end Mine
end
section
open PySem PySem.W PyProof.Rows
set_option maxRecDepth 100000
set_option maxHeartbeats 1000000
namespace Mine
section
variable {prog : Program} {w : World} {A : Around} {E : Value → Shared → Prop} {s : Shared} {env : Env}

/-- script[:k] -/
theorem eval_upto {p1 p2 p3 p4 : Pos} {k1 : Nat} {c sl : Addr} {m : Str → Option Value} {zs : Array Value} {xs : List Int} {k : Nat} {Q : Value → Shared → Prop}
    (V : Env6 env c) (hn : s.heap.Ns env.locals m) (hs : m "script" = some (.ref sl)) (hl : s.heap.IsList sl zs) (hz : IntsAre zs.toList xs) (hzs : zs.size ≤ 100000)
    (hQ : ∀ h' tk a its, LinesAt h' a its → IntsAre its.toList (xs.take k) → s.heap.objs.size ≤ a → Up s.heap h' → Q (.ref a) { s with heap := h', toks := tk }) :
    wpAny (model prog w) A (eval (.Subscript (.Name "script" p1) (.Slice none (some (.Constant (.int (k : Int)) k1 p2)) none p3) p4) env) Q E s := by
  refine wpAny_Subscript_list_slice (eval_local V.fn V.script hn hs (evalPart_none_step (evalPart_some_step (wpAny_Constant_int ⟨sl, zs, none, some (k : Int), rfl, hl, by rw [sizeLine_eq]; omega, .none, .int _ _, ?_⟩))))
  rw [show slicePick zs none (some (k : Int)) none = (zs.toList.take k).toArray from slicePick_upto' zs k]
  dsimp only
  generalize hH1 : (s.heap.push { cls := .type "slice", data := .fields #[Value.none, Value.int (k : Int) s.toks, Value.none] }) = H1
  have u1 : Up s.heap H1 := hH1 ▸ .push _ _
  have z1 : H1.objs.size = s.heap.objs.size + 1 := by rw [← hH1, Heap.size_push]
  have g2 : (H1.push { cls := .type "list", data := .seq (zs.toList.take k).toArray }).get? (s.heap.objs.size + 1) = some { cls := .type "list", data := .seq (zs.toList.take k).toArray } := by rw [← z1]; exact Heap.get?_push_size _ rfl
  exact hQ _ _ _ _ ⟨_, g2⟩ (by simpa using ints_take k hz) (Nat.le_succ _) (u1.trans (.push _ _))

theorem write_for {q1 q2 q3 q4 q5 q6 p1 p2 p3 p4 p5 p6 p7 a1 a2 a3 a4 a5 a6 a7 a8 a9 a10 a11 a12 a13 a14 a15 a16 a17 a18 a19 b1 b2 b3 b4 b5 b6 c1 c2 c3 c4 c5 c6 d1 d2 d3 d4 d5 d6 d7 d8 d9 d10 : Pos} {k0 k1 k2 i1 i2 i3 i4 i5 i6 j1 j2 j3 j4 : Nat} {base : Shared} {c R sl : Addr} {m : Str → Option Value} {its zs : Array Value} {xs : List Int} {T : Array Nat} {h : Heap} {tk : Nat} {Q : Flow → Shared → Prop}
    (V : Env6 env c) (hh : A.handled = none) (up : Up base.heap h) (hLb : base.heap.get? env.locals = none) (hRb : base.heap.get? R = none) (hn : h.Ns env.locals m) (hs : m "script" = some (.ref sl)) (hl : base.heap.IsList sl zs) (hz : IntsAre zs.toList xs) (hzs : zs.size ≤ 100000)
    (hr : m "rows" = some (.ref R)) (hRL : R ≠ env.locals) (hcL : c ≠ env.locals) (hcR : c ≠ R) (hc : h.IsCell c none) (hR : LinesAt h R its) (hS : StrsAre its.toList (parts T)) (hT : endsFrom T 0 ≠ []) (hsz : T.size ≤ 132) (hok : PyData.strOk ⟨T⟩ = true)
    (hline : (d5.endLine == d7.line) = true) (hsw : swapsWith (.Call (.Attribute (.Name "rows" d4) "append" d5) [.Constant (.str "") j4 d6] [] d7) none d8.line env = pure false)
    (hQ : ∀ h' tk' m' its' T', Up base.heap h' → h'.Ns env.locals m' → m' "script" = some (.ref sl) → m' "rows" = some (.ref R) → h'.IsCell c none → LinesAt h' R its' → StrsAre its'.toList (parts T') → endsFrom T' 0 ≠ [] → T'.size ≤ 200 → PyData.strOk ⟨T'⟩ = true → Q .next { base with heap := h', toks := tk' }) :
    wpC (M1 prog w) A (exec (.For (.Name "x" q1) (.Subscript (.Name "script" q2) (.Slice none (some (.Constant (.int 40) k0 q3)) none q4) q5)
     [.Assign [.Name "sign" p1] (.Subscript (.Constant (.str "\n\r\n\ra\u000c\u0085\u2028 \u000b") k1 p2) (.BinOp (.Name "x" p3) .Mod (.Constant (.int 10) k2 p4) p5) p6) p7,
      .If (.BoolOp .And [.Compare (.Name "sign" a1) [.Eq] [.Constant (.str "\n") i1 a2] a3,
      .Compare (.Subscript (.Name "rows" a4) (.UnaryOp .USub (.Constant (.int 1) i2 a5) a6) a7) [.Eq] [.Constant (.str "") i3 a8] a9,
      .Compare (.Subscript (.Subscript (.Name "rows" a10) (.UnaryOp .USub (.Constant (.int 2) i4 a11) a12) a13) (.UnaryOp .USub (.Constant (.int 1) i5 a14) a15) a16) [.Eq] [.Constant (.str "\r") i6 a17] a18] a19)
      [.AugAssign (.Subscript (.Name "rows" b1) (.UnaryOp .USub (.Constant (.int 2) j1 b2) b3) b4) .Add (.Name "sign" b5) b6]
      [.AugAssign (.Subscript (.Name "rows" c1) (.UnaryOp .USub (.Constant (.int 1) j2 c2) c3) c4) .Add (.Name "sign" c5) c6,
        .If (.Compare (.Name "sign" d1) [.In] [.Constant (.str "\r\n") j3 d2] d3) [.Expr (.Call (.Attribute (.Name "rows" d4) "append" d5) [.Constant (.str "") j4 d6] [] d7) d8] [] d9] d10] [] q6) env) Q E { base with heap := h, toks := tk } := by
  refine wpC_For (wpC_of_any (any1 (eval_upto (k := 40) V hn hs (let ⟨o, e, r⟩ := hl; ⟨o, up _ _ e, r⟩) hz hzs fun h₁ tk₁ a its' hL₁ hI₁ ha u₁ => ?_)))
  refine wpC_of_any (any1 (wpAny_pyIter_list hL₁.lst ?_))
  dsimp only at ha u₁ ⊢
  obtain ⟨na, hLa⟩ := hL₁
  have haI : a ≠ h₁.objs.size := Nat.ne_of_lt (Heap.lt_size hLa)
  have hILe : h.objs.size ≤ h₁.objs.size := Nat.le_of_lt (Nat.lt_of_le_of_lt ha (Heap.lt_size hLa))
  have old : ∀ b o, h.get? b = some o → b ≠ a ∧ b ≠ h₁.objs.size := fun b o e => ⟨get?_ne e (fresh_of ha), get?_ne e (fresh_of hILe)⟩
  have hLn : ∀ b o, base.heap.get? b = some o → b ≠ env.locals ∧ b ≠ R := fun b o e => ⟨get?_ne e hLb, get?_ne e hRb⟩
  obtain ⟨oL, _, _, hoL, _⟩ := id hn
  have hLa' := old _ _ hoL
  have hcI := let ⟨_, e, _⟩ := hc; old _ _ e
  have hRI := let ⟨_, e⟩ := hR; old _ _ e
  have hlen : its'.size ≤ 40 := by
    have := hI₁.length
    rw [← Array.length_toList, this]; simp; omega
  generalize hI : h₁.objs.size = I at *
  refine codeC_forLoop (fun k s' => ∃ h' tk' m' i its₂ T', s' = { base with heap := h', toks := tk' } ∧ Up base.heap h' ∧ h'.Ns env.locals m' ∧ h'.IsCell c none ∧ m' "script" = some (.ref sl) ∧ m' "rows" = some (.ref R) ∧ LinesAt h' R its₂ ∧ StrsAre its₂.toList (parts T') ∧ endsFrom T' 0 ≠ [] ∧ T'.size ≤ 132 + i ∧ PyData.strOk ⟨T'⟩ = true ∧ h'.IsListIter I a i ∧ h'.IsList a its' ∧ i ≤ its'.size ∧ k = its'.size + 1 - i) ?_ (its'.size + 1)
    ⟨_, _, m, 0, its, T, rfl, (up.trans u₁).trans (.push _ _), (hn.keeps u₁).push _, IsCell.up hc (u₁.trans (.push _ _)), hs, hr, hR.up (u₁.trans (.push _ _)), hS, hT, hsz, hok, ⟨_, by rw [← hI]; exact Heap.get?_push_size _ rfl, rfl, rfl⟩, ⟨_, (Up.push _ _) _ _ hLa, rfl, _, rfl⟩, Nat.zero_le _, rfl⟩
  rintro k s' ⟨h', tk', m', i, its₂, T', rfl, up', hn', hc', hs', hr', hR', hS', hT', hsz', hok', hit, hla, hi, rfl⟩
  by_cases hlt : i < its'.size
  · have hx : its'[i]? = some its'[i] := Array.getElem?_eq_getElem hlt
    obtain ⟨b, t, hv, _⟩ := IntsAre.at hI₁ i its'[i] (by rw [Array.getElem?_toList]; exact hx)
    rw [hv] at hx
    refine wpC_of_any (any1 (wpAny_pyNext_list_item hit hla hx fun h₂ hit₂ hs₂ => ?_))
    show wpC _ _ (pure ()) _ _ _
    refine wpC_pure (wpC_of_any (any1 (wpAny_assign_Name (wpAny_storeName_local V.x (hn'.sameBut hs₂ hLa'.2) (fun h₃ hn₃ hs₃ => ?_) V.stores))))
    have k3 : ∀ b o, b ≠ I → b ≠ env.locals → h'.get? b = some o → h₃.get? b = some o := fun b o h1 h2 e => hs₃.extBut b o h2 (hs₂.extBut b o h1 e)
    have hR₃ : LinesAt h₃ R its₂ := let ⟨n, e⟩ := hR'; ⟨n, k3 R _ hRI.2 hRL e⟩
    have hit₃ : h₃.IsListIter I a (i + 1) := let ⟨o, e, r⟩ := hit₂; ⟨o, hs₃.extBut I o (Ne.symm hLa'.2) e, r⟩
    refine wpC_of_any (any1 (write_turn (R := R) (its := its₂) (T := T') (v := b) (t := t) V hn₃ (by show (if _ then _ else _) = _; rw [if_neg (by decide)]; exact hr') (by show (if _ then _ else _) = _; rw [if_pos rfl]) hRL hR₃ hS' hT' (by omega) hline hsw ?_))
    intro h₄ tk₄ its₄ n m₄ hn0 hL₄ hS₄ hn₄ hm₄ k₄
    dsimp only at k₄ ⊢
    have kk : ∀ b o, b ≠ I → b ≠ env.locals → b ≠ R → h'.get? b = some o → h₄.get? b = some o := fun b o h1 h2 h3 e => k₄ b o h2 h3 (k3 b o h1 h2 e)
    refine ⟨its'.size + 1 - (i + 1), by omega, h₄, _, m₄, i + 1, its₄, T'.push n, rfl, fun b o e => kk b o (old b o (up b o e)).2 (hLn b o e).1 (hLn b o e).2 (up' b o e), hn₄, (let ⟨o, e, d⟩ := hc'; ⟨o, kk c o hcI.2 hcL hcR e, d⟩), ?_, ?_, hL₄, hS₄, ends_push_ne n hT', by rw [Array.size_push]; omega, ?_,
      (let ⟨o, e, r⟩ := hit₃; ⟨o, k₄ I o (Ne.symm hLa'.2) (Ne.symm hRI.2) e, r⟩), (let ⟨o, e, r⟩ := hla; ⟨o, kk a o haI (Ne.symm hLa'.1) (Ne.symm hRI.1) e, r⟩), hlt, rfl⟩
    · rw [hm₄ _ (by decide)]; show (if _ then _ else _) = _; rw [if_neg (by decide)]; exact hs'
    · rw [hm₄ _ (by decide)]; show (if _ then _ else _) = _; rw [if_neg (by decide)]; exact hr'
    · unfold PyData.strOk at hok' ⊢
      show (T'.push n).all _ = true
      rw [Array.all_push]
      simp only [Bool.and_eq_true]
      exact ⟨hok', by simpa using hn0⟩
  · have hin : its'[i]? = none := by simp; omega
    refine wpC_of_any (any1 (wpAny_pyNext_list_end hh hit hla hin fun h₂ he₂ => ?_))
    exact hQ h₂ tk' m' its₂ T' (fun b o e => he₂ b o (old b o (up b o e)).2 (up' b o e)) (hn'.extBut he₂ hLa'.2) hs' hr' (let ⟨o, e, d⟩ := hc'; ⟨o, he₂ c o hcI.2 e, d⟩) (let ⟨n, e⟩ := hR'; ⟨n, he₂ R _ hRI.2 e⟩) hS' hT' (by omega) hok'
end
end Mine
end
section
open PySem PySem.W PyProof.Rows
set_option maxRecDepth 100000
set_option maxHeartbeats 1000000
namespace Mine
def cutScope : Scope := { kind := .function, names := [(".0", .local), ("x", .local), ("len", .globalImplicit), ("text", .free)], isGenerator := false, isCoroutine := false }
theorem sum_lens (l : List Str) : (l.map (·.length)).sum = (catAll l).length := by
  induction l with
  | nil => rfl
  | cons x r ih => simp only [List.map_cons, List.sum_cons, ih, catAll, List.flatten_cons, List.length_append]; rfl
theorem mod_cut (v : Int) (n : Nat) : 0 ≤ (v.fdiv 10).fmod ((n : Int) + 1) ∧ (v.fdiv 10).fmod ((n : Int) + 1) ≤ n := by
  have h1 := Int.fmod_nonneg_of_pos (v.fdiv 10) (show (0 : Int) < (n : Int) + 1 by omega)
  have h2 := Int.fmod_lt_of_pos (v.fdiv 10) (show (0 : Int) < (n : Int) + 1 by omega)
  omega
theorem paired_ints {n : Nat} : ∀ {vs ys : List Value}, Paired (fun _ y => ∃ a t, y = Value.int a t ∧ 0 ≤ a ∧ a ≤ (n : Int)) vs ys → ∃ ks, IntsAre ys ks ∧ ks.length = vs.length ∧ ∀ k ∈ ks, 0 ≤ k ∧ k ≤ (n : Int)
  | _, _, .nil => ⟨[], .nil, rfl, fun _ h => by cases h⟩
  | _, _, .cons ⟨a, t, e, h1, h2⟩ r => by
    obtain ⟨ks, x, y, z⟩ := paired_ints r
    subst e
    refine ⟨a :: ks, .cons a t x, by simp [y], fun k hk => ?_⟩
    rcases List.mem_cons.mp hk with rfl | hk
    · exact ⟨h1, h2⟩
    · exact z k hk

section
variable {prog : Program} {w : World} {A : Around} {E : Value → Shared → Prop} {s : Shared} {env : Env}

/-- text = ''.join(rows) -/
theorem text_exec {p1 p2 p3 p4 p5 p6 : Pos} {k1 : Nat} {c R : Addr} {m : Str → Option Value} {its : Array Value} {T : Array Nat} {Q : Flow → Shared → Prop}
    (V : Env6 env c) (hn : s.heap.Ns env.locals m) (hr : m "rows" = some (.ref R)) (hR : LinesAt s.heap R its) (hS : StrsAre its.toList (parts T)) (hsz : T.size ≤ 10000) (hc : s.heap.IsCell c none) (hline : (p3.endLine == p5.line) = true)
    (hQ : ∀ h' tk t, h'.IsCell c (some (.str ⟨T⟩ t)) → Heap.SameBut c s.heap h' → Q .next { s with heap := h', toks := tk }) :
    wpAny (model prog w) A (exec (.Assign [.Name "text" p1] (.Call (.Attribute (.Constant (.str "") k1 p2) "join" p3) [.Name "rows" p4] [] p5) p6) env) Q E s := by
  refine wpAny_Assign_Name (Call_method1 rfl rfl hline (wpAny_Constant_str ⟨"str", "str.join", F.plainAttrs_str, F.slot_str_join, F.type_str_join, typeIs_str _ _ _, (fun _ e => nomatch e), ?_⟩))
  refine Calls.callWith_builtin rfl (Calls.evalArgs_plain (Calls.spliced_cons (eval_local V.fn V.rows (m := m) hn hr (Calls.spliced_nil ?_))))
  refine join_listW hR.lst hS (by decide) ?_ fun t' k => ?_
  · rw [sum_lens, catAll_parts]
    have := parts_len T
    simp; omega
  · rw [show Txt.join ("" : Str) (parts T) = _ from join_parts T]
    exact wpAny_storeName_cell V.fn V.text V.cell hc fun h' a b => hQ h' _ _ a b

/-- if rows[-1] != '': rows.append('') -/
theorem shut_exec {p1 p2 p3 p4 p5 p6 p7 p8 p9 p10 p11 p12 : Pos} {k k' k'' : Nat} {c : Addr} {m : Str → Option Value} {D : Addr} {its : Array Value} {T : Array Nat} {Q : Flow → Shared → Prop} (V : Env6 env c)
    (hn : s.heap.Ns env.locals m) (hm : m "rows" = some (.ref D)) (hD : LinesAt s.heap D its) (hS : StrsAre its.toList (parts T)) (hsz : T.size ≤ 10000) (hline : (p8.endLine == p10.line) = true)
    (hsw : swapsWith (.Call (.Attribute (.Name "rows" p7) "append" p8) [.Constant (.str "") k'' p9] [] p10) none p11.line env = pure false)
    (h : ∀ h' tk its', LinesAt h' D its' → StrsAre its'.toList (rowsFrom T 0) → (∀ b o, b ≠ D → s.heap.get? b = some o → h'.get? b = some o) → Q .next { s with heap := h', toks := tk }) :
    wpAny (model prog w) A (exec (.If (.Compare (.Subscript (.Name "rows" p1) (.UnaryOp .USub (.Constant (.int 1) k p2) p3) p4) [.NotEq] [.Constant (.str "") k' p5] p6) [.Expr (.Call (.Attribute (.Name "rows" p7) "append" p8) [.Constant (.str "") k'' p9] [] p10) p11] [] p12) env) Q E s := by
  have hp := parts_fix T
  have hpl := parts_len T
  have hl := strs_length hS
  have hits : its.size ≤ sizeLine := by rw [← Array.length_toList, hl, sizeLine_eq]; omega
  have hne : parts T ≠ [] := by rw [parts_eq]; simp
  obtain ⟨init, last, hil⟩ : ∃ init last, parts T = init ++ [last] := ⟨_, _, (List.dropLast_concat_getLast hne).symm⟩
  have hp' : (if last = emptyStr then init ++ [last] else init ++ [last] ++ [emptyStr]) = rowsFrom T 0 := by
    rw [← hp, hil]; unfold fixEnd
    rw [List.getLast?_concat]
    simp only [Option.some.injEq]
  rw [hil] at hS
  rw [← hp'] at h
  refine wpAny_If (wpAny_isTrue_Compare1 ?_)
  refine Subscript_UnaryOp (eval_local V.fn V.rows hn hm (UnaryOp_ (wpAny_Constant_int (neg_int ?_))))
  refine item_last hD hS fun t => ?_
  refine wpAny_Constant_str (PyProof.Rows.ne_str (wpAny_truthy_bool ?_))
  have s2 : ("" : Str) = emptyStr := by decide
  rw [s2]
  by_cases hl : last = emptyStr
  · rw [if_neg (by simp [hl])]
    refine wpAny_execs_nil ?_
    exact h s.heap _ its hD (by rw [if_pos hl]; exact hS) fun _ _ _ e => e
  · rw [if_pos (by simp [bne, hl])]
    refine wpAny_execs_cons (exec_append_const V.fn V.plain V.rows hn hm hD hits hline hsw fun h' tk t hL hs => wpAny_execs_nil ?_)
    refine h h' _ _ hL ?_ hs.extBut
    rw [if_neg hl, Array.toList_push, ← s2]
    exact strs_snoc _ _ hS

/-- held, given = ('', []) -/
theorem held_exec {p1 p2 p3 p4 p5 p6 p7 : Pos} {k1 k2 k3 : Nat} {c : Addr} {m : Str → Option Value} {Q : Flow → Shared → Prop} (V : Env6 env c) (hh : A.handled = none) (hn : s.heap.Ns env.locals m)
    (hw : swappedStores [.Tuple [.Name "held" p1, .Name "given" p2] k1 p3] (.Tuple [.Constant (.str "") k2 p4, .List [] p5] k3 p6) env = pure (some [("held" : Str), "given"]))
    (hQ : ∀ h' tk D t, s.heap.get? D = none → LinesAt h' D #[] → h'.Ns env.locals (fun z => if z = "held" then some (.str emptyStr t) else if z = "given" then some (.ref D) else m z) → But env.locals s.heap h' → Q .next { s with heap := h', toks := tk }) :
    wpAny (model prog w) A (exec (.Assign [.Tuple [.Name "held" p1, .Name "given" p2] k1 p3] (.Tuple [.Constant (.str "") k2 p4, .List [] p5] k3 p6) p7) env) Q E s := by
  have s2 : ("" : Str) = emptyStr := by decide
  refine Assign_Tuple_swapped (names := [("held" : Str), "given"]) (wpAny_Tuple (PyProof.Rows.spliced_more (wpAny_Constant_str (PyProof.Rows.spliced_more (wpAny_List (PyProof.Rows.spliced_none ⟨by simp [sizeLine_eq], PyProof.Rows.spliced_none ⟨by simp [sizeLine_eq], ?_⟩⟩)))))) rfl hw
  dsimp only
  have hL1 : env.locals < s.heap.objs.size := hn.lt
  have u1 : Up s.heap (s.heap.push { cls := .type "list", data := .seq ([] : List Value).toArray }) := .push _ _
  have g1 : (s.heap.push { cls := .type "list", data := .seq ([] : List Value).toArray }).get? s.heap.objs.size = some { cls := .type "list", data := .seq ([] : List Value).toArray } := Heap.get?_push_size _ rfl
  generalize hH1 : (s.heap.push { cls := .type "list", data := .seq ([] : List Value).toArray }) = H1 at *
  refine unpackItems_tuple (items := #[Value.str ("" : Str) s.toks, .ref s.heap.objs.size]) hh ⟨_, Heap.get?_push_size _ rfl, rfl, _, rfl⟩ fun h₂ he₂ => ?_
  have u2 : Up H1 h₂ := fun b o e => he₂ b o (Nat.ne_of_lt (Heap.lt_size ((Up.push _ _) _ _ e))) ((Up.push _ _) _ _ e)
  show wpAny _ _ (assignInOrder [bindName env "given", bindName env "held"] [.ref s.heap.objs.size, .str ("" : Str) s.toks]) _ _ _
  refine assignInOrder_cons (bindName_ (wpAny_storeName_local V.given (m := m) ((hn.keeps u1).keeps u2) (fun h₃ hn₃ hs₃ => ?_) V.stores))
  refine assignInOrder_cons (bindName_ (wpAny_storeName_local V.held hn₃ (fun h₄ hn₄ hs₄ => ?_) V.stores))
  refine assignInOrder_nil ?_
  have hDL : s.heap.objs.size ≠ env.locals := Ne.symm (Nat.ne_of_lt hL1)
  dsimp only at hs₃ hs₄ ⊢
  rw [s2] at hn₄
  exact hQ h₄ _ _ _ (fresh_of (Nat.le_refl _)) ⟨_, hs₄.extBut _ _ hDL (hs₃.extBut _ _ hDL (u2 _ _ g1))⟩ hn₄ fun b o hb e => hs₄.extBut _ _ hb (hs₃.extBut _ _ hb (u2 _ _ (u1 _ _ e)))

/-- cuts = sorted([x // 10 % (len(text) + 1) for x in script[:3]]) -/
theorem cuts_exec {p1 p2 p3 p4 p5 p6 p7 p8 p9 p10 p11 p12 p13 p14 p15 p16 p17 p18 p19 : Pos} {k1 k2 k3 : Nat} {c f sl : Addr} {m : Str → Option Value} {zs : Array Value} {xs : List Int} {text : Str} {u : Tok} {Q : Flow → Shared → Prop}
    (V : Env6 env c) (T : Top6 s.heap env f) (hh : A.handled = none) (hc : s.heap.IsCell c (some (.str text u))) (hn : s.heap.Ns env.locals m) (hs : m "script" = some (.ref sl)) (hl : s.heap.IsList sl zs) (hz : IntsAre zs.toList xs) (hzs : zs.size ≤ 100000) (hsz : text.length ≤ 100000)
    (hclos : closureFor cutScope env = pure [(("text" : Str), c)])
    (hQ : ∀ h' tk D its ks, s.heap.get? D = none → LinesAt h' D its → IntsAre its.toList ks → ks.length ≤ 3 → (∀ k ∈ ks, 0 ≤ k ∧ k ≤ (text.length : Int)) → ks.Pairwise (· ≤ ·) → h'.Ns env.locals (fun z => if z = "cuts" then some (.ref D) else m z) → But env.locals s.heap h' → Q .next { s with heap := h', toks := tk }) :
    wpAny (model prog w) A (exec (.Assign [.Name "cuts" p1] (.Call (.Name "sorted" p2) [.ListComp (.BinOp (.BinOp (.Name "x" p3) .FloorDiv (.Constant (.int 10) k1 p4) p5) .Mod (.BinOp (.Call (.Name "len" p6) [.Name "text" p7] [] p8) .Add (.Constant (.int 1) k2 p9) p10) p11)
      [⟨.Name "x" p12, .Subscript (.Name "script" p13) (.Slice none (some (.Constant (.int 3) k3 p14)) none p15) p16, [], 0⟩] cutScope p17] [] p18) p19) env) Q E s := by
  obtain ⟨mg, hg, _, g1, _, g3⟩ := id T.glob
  obtain ⟨mb, hb, b1, _, b3⟩ := id T.blt
  refine wpAny_Assign_Name (call_name_builtin V.fn V.sorted hg g3 hb b3 (PyProof.Rows.spliced_more ?_))
  refine wpAny_ListComp_free (fun _ => true) (fun _ y => ∃ a t, y = Value.int a t ∧ 0 ≤ a ∧ a ≤ (text.length : Int)) hclos (by decide) rfl (by decide) rfl ?_
  refine eval_upto (k := 3) V hn hs hl hz hzs fun h₁ tk₁ a its hL₁ hI₁ ha u₁ => ?_
  refine wpAny_pyIter_list hL₁.lst ?_
  dsimp only at ha u₁ ⊢
  obtain ⟨na, hLa⟩ := hL₁
  have haI : a ≠ h₁.objs.size := Nat.ne_of_lt (Heap.lt_size hLa)
  have hILe : s.heap.objs.size ≤ h₁.objs.size := Nat.le_of_lt (Nat.lt_of_le_of_lt ha (Heap.lt_size hLa))
  have hlen : its.size ≤ 3 := by
    have := hI₁.length
    rw [← Array.length_toList, this]; simp; omega
  have oldI : ∀ b o, s.heap.get? b = some o → b ≠ h₁.objs.size := fun b o e => get?_ne e (fresh_of hILe)
  refine ⟨h₁.objs.size, _, _, _, _, _, rfl, Walks.list hh h₁.objs.size a haI its, by rw [sizeLine_eq]; omega, ⟨⟨_, Heap.get?_push_size _ rfl, rfl, rfl⟩, ⟨_, (Up.push _ _) _ _ hLa, rfl, _, rfl⟩⟩, ?_, ⟨?_, ?_⟩, ?_⟩
  · intro b hb
    rw [Heap.size_push]
    have hb' : b = h₁.objs.size ∨ b = a := by simpa using hb
    rcases hb' with rfl | rfl
    · exact Nat.lt_succ_self _
    · exact Nat.lt_succ_of_lt (Heap.lt_size hLa)
  · intro C i v s₃ m₃ E' hC hP hn₃ hm₃ hk₃ htk
    exact wpAny_pure ⟨rfl, _, _, rfl, fun _ _ e => e⟩
  · intro C i v s₃ m₃ E' hC hP _ hn₃ hm₃ hk₃ htk
    obtain ⟨b, t, rfl, _⟩ := IntsAre.at hI₁ i v (by rw [Array.getElem?_toList]; exact hP)
    have uu : ∀ b o, s.heap.get? b = some o → s₃.heap.get? b = some o := fun b o e => hk₃ b o (by simpa using oldI b o e) ((Up.push _ _) _ _ (u₁ _ _ e))
    have hkt : (compEnvC cutScope [(("text" : Str), c)] C env).kindOf "text" = some .cell := by
      show (relabel cutScope env).names.lookup _ = _
      simp [relabel, cutScope, V.fn, V.text]
      decide
    have hkl : (compEnvC cutScope [(("text" : Str), c)] C env).kindOf "len" = some .globalImplicit := by
      show (relabel cutScope env).names.lookup _ = _
      simp [relabel, cutScope, V.fn, V.text]
      decide
    refine wpAny_BinOp (wpAny_BinOp (eval_local rfl (lookup_relabel_local (by decide)) hn₃ hm₃ (wpAny_Constant_int (floordiv_int (by decide) ?_))))
    refine wpAny_BinOp (call_name_builtin (mg := mg) (mb := mb) rfl hkl (hg.keeps uu) g1 (hb.keeps uu) b1 (PyProof.Rows.spliced_more (eval_cell rfl hkt rfl (let ⟨o, e, d⟩ := hc; ⟨o, uu _ _ e, d⟩) (PyProof.Rows.spliced_none ?_))))
    refine P.len_str (by omega) (wpAny_Constant_int (PyProof.Rows.add_int (mod_int' (by omega) ?_)))
    exact ⟨⟨_, _, rfl, mod_cut b text.length⟩, _, _, rfl, fun _ _ e => e⟩
  · intro D h₂ tk₂ ys vs hD hLD hPl hvl hvP hF hk₂
    have hvf : vs.filter (fun _ => true) = vs := by simp
    rw [hvf] at hF
    obtain ⟨ks, hks, hkl, hkb⟩ := paired_ints hF
    have hyl : ys.toList.length < 64 := by rw [hks.length, hkl, hvl]; omega
    refine PyProof.Rows.spliced_none ?_
    refine sorted_ints (vs := ys.toList) (by simpa using hLD) hks hyl fun out ns' a1 a2 a3 => ?_
    obtain ⟨e, he⟩ := sortedAll_at h₂ ys.toList out
    have uu : Up s.heap h₂ := fun b o e => hk₂ b o (by simpa using oldI b o e) ((Up.push _ _) _ _ (u₁ _ _ e))
    have u3 : Up s.heap (sortedAll h₂ ys.toList out) := uu.trans fun b o e => sortedAll_old e
    refine wpAny_storeName_local V.cuts (m := m) (hn.keeps u3) (fun h₄ hn₄ hs₄ => ?_) V.stores
    dsimp only at hs₄ ⊢
    have hfr : s.heap.get? (h₂.objs.size + 1) = none := by
      cases e : s.heap.get? (h₂.objs.size + 1) with
      | none => rfl
      | some o => exact absurd (Heap.lt_size (uu _ _ e)) (Nat.not_lt.mpr (Nat.le_succ _))
    have hDL : h₂.objs.size + 1 ≠ env.locals := Ne.symm (Nat.ne_of_lt (Nat.lt_succ_of_lt (hn.keeps uu).lt))
    refine hQ h₄ _ _ out ns' hfr ⟨e, hs₄.extBut _ _ hDL he⟩ a1 (by rw [a2.length_eq, hkl, hvl]; exact hlen) (fun k hk => hkb k (a2.mem_iff.mp hk)) a3 hn₄ fun b o hb e => hs₄.extBut b o hb (u3 b o e)
end
end Mine
end
section
open PySem PySem.W PyProof.Rows
set_option maxRecDepth 100000
set_option maxHeartbeats 1000000
namespace Mine
/-- what is told of a text that is not empty -/
theorem told_plain {H : Array Nat} (h : 0 < H.size) : ∃ Y, rowsUpTo H (some 2) = [⟨H.extract 0 (rowEnd H 0)⟩, Y] ∧ (rowsUpTo (H.extract (rowEnd H 0) H.size) (some 2)).take 1 = [Y] := by
  have hle := rowEnd_le H 0 (Nat.zero_le _)
  have e1 : rowsUpTo H (some 2) = (rowsFrom H 0).take 2 := rfl
  have e2 : rowsUpTo (H.extract (rowEnd H 0) H.size) (some 2) = (rowsFrom (H.extract (rowEnd H 0) H.size) 0).take 2 := rfl
  rw [e1, e2, rows_suffix H _ hle, rowsFrom_lt h]
  cases hr : rowsFrom H (rowEnd H 0) with
  | nil =>
    rw [rowsFrom] at hr
    split at hr <;> cases hr
  | cons Y r => exact ⟨Y, rfl, by simp⟩
theorem slice_from (x : Str) (a : Nat) : Txt.slice x (some (a : Int)) none = ⟨x.cps.extract a x.cps.size⟩ := by
  rw [← slice_nat x a x.cps.size]
  have : PySem.Builtin.Str.strSliceIndices (some (a : Int)) none 1 x.length = PySem.Builtin.Str.strSliceIndices (some (a : Int)) (some (x.cps.size : Int)) 1 x.length := by
    unfold PySem.Builtin.Str.strSliceIndices
    have hl : x.length = x.cps.size := rfl
    have h2 : ¬ ((x.cps.size : Int) < 0) := by omega
    simp only [hl, h2, if_false, show (1 : Int) > 0 by decide, if_true]
    have : max (0 : Int) (min (x.cps.size : Int) (x.cps.size : Int)) = (x.cps.size : Int) := by omega
    rw [this]
  unfold Txt.slice
  rw [this]

section
variable {prog : Program} {w : World} {A : Around} {E : Value → Shared → Prop} {s : Shared} {env : Env} {M : Model}

theorem wpC_isTrue_or {x rest pos whole} {Q : Bool → Shared → Prop}
    (h : wpC M A (isTrue x env (eval x env)) (fun c s' => if c then Q true s' else wpC M A (isTrue (.BoolOp .Or rest pos) env whole) Q E s') E s) :
    wpC M A (isTrue (.BoolOp .Or (x :: rest) pos) env whole) Q E s := by
  show wpC M A (do
    match BoolOp.Or, ← isTrue x env (eval x env) with
    | .And, false => pure false
    | .Or, true => pure true
    | _, _ => allTrue .Or rest env) Q E s
  refine wpC_bind (wpC_mono h (fun c s' h' => ?_) fun _ _ x => x)
  cases c with
  | false => exact h'
  | true => exact wpC_pure h'
theorem wpC_isTrue_or_nil {pos whole} {Q : Bool → Shared → Prop} (h : Q false s) : wpC M A (isTrue (.BoolOp .Or [] pos) env whole) Q E s := wpC_pure (a := false) h
theorem wpC_Subscript {value slice pos} {Q : Value → Shared → Prop}
    (h : wpC M A (eval value env) (fun o s₁ => wpC M A (eval slice env) (fun i s₂ => wpC M A (subscriptTail value slice o i) Q E s₂) E s₁) E s) :
    wpC M A (eval (.Subscript value slice pos) env) Q E s := by
  rw [eval_Subscript]
  exact wpC_bind (wpC_mono h (fun o s₁ h₁ => wpC_bind (wpC_holding (wpC_mono h₁ (fun i s₂ h₂ => wpC_bind (wpC_standAt h₂)) fun _ _ x => x))) fun _ _ x => x)

theorem tail_slice {value : Expr} {lower upper : Option Expr} {p : Pos} {l sl : Addr} {items : Array Value} {vl vu : Value} {lo hi : Option Int} {Q : Value → Shared → Prop} (hl : s.heap.IsList l items) (hs : s.heap.IsSliceOf sl vl vu .none)
    (pl : IsPart vl lo) (pu : IsPart vu hi) (hsz : items.size ≤ sizeLine) (h : Q (.ref s.heap.objs.size) { s with heap := s.heap.push { cls := .type "list", data := .seq (slicePick items lo hi none) } }) :
    wpAny (model prog w) A (subscriptTail value (.Slice lower upper none p) (.ref l) (.ref sl)) Q E s := by
  have hT := hl.typeIs (s := s)
  unfold subscriptTail
  refine wpAny_bind ?_
  rw [getitemInPython_of_ne hT.not_modules]
  refine wpAny_bind (wpAny_specialOf hT list_getitem_lookup ?_)
  have fin : wpAny (model prog w) A (operate [.ref sl, .ref l] (getItem (.ref l) (.ref sl))) (fun r s₃ => wpAny (model prog w) A (letTemporaryGo value (.ref l) r >>= fun _ => pure r) Q E s₃) E s :=
    wpAny_operating (wpAny_getItem_list_slice hl hs pl pu .none (by simp) (wpAny_bind (wpAny_letTemporaryGo (wpAny_pure h))) hsz)
  first
    | exact wpAny_pure (wpAny_bind fin)
    | exact wpAny_bind (wpAny_pure (wpAny_bind fin))
    | exact wpAny_bind fin

/-- told[0] -/
theorem eval_first {p1 p2 p3 : Pos} {k : Nat} {c D : Addr} {m : Str → Option Value} {its : Array Value} {x : Str} {r : List Str} {Q : Value → Shared → Prop} (V : Env6 env c) (hn : s.heap.Ns env.locals m) (hm : m "told" = some (.ref D)) (hD : LinesAt s.heap D its) (hS : StrsAre its.toList (x :: r))
    (h : ∀ t, Q (.str x t) { s with toks := s.toks + 1 }) : wpAny (model prog w) A (eval (.Subscript (.Name "told" p1) (.Constant (.int 0) k p2) p3) env) Q E s := by
  obtain ⟨t, ht⟩ := strs_getElem hS 0 x rfl
  refine Subscript_Constant (eval_local V.fn V.told hn hm (wpAny_Constant_int (item_at (v := .str x t) hD.lst (by decide) (by decide) ?_ (h t))))
  rw [← Array.getElem?_toList]; exact ht

/-- len(told[0]) -/
theorem eval_len_first {p1 p2 p3 p4 p5 : Pos} {k : Nat} {c f D : Addr} {m : Str → Option Value} {its : Array Value} {x : Str} {r : List Str} {Q : Value → Shared → Prop} (V : Env6 env c) (T : Top6 s.heap env f) (hn : s.heap.Ns env.locals m) (hm : m "told" = some (.ref D)) (hD : LinesAt s.heap D its) (hS : StrsAre its.toList (x :: r)) (hx : x.length ≤ 100000)
    (h : ∀ t tk, Q (.int x.length t) { s with toks := tk }) : wpAny (model prog w) A (eval (.Call (.Name "len" p1) [.Subscript (.Name "told" p2) (.Constant (.int 0) k p3) p4] [] p5) env) Q E s := by
  obtain ⟨mg, hg, _, g1, _⟩ := T.glob
  obtain ⟨mb, hb, b1, _⟩ := T.blt
  refine call_name_builtin V.fn V.len hg g1 hb b1 (PyProof.Rows.spliced_more (eval_first V hn hm hD hS fun t => PyProof.Rows.spliced_none ?_))
  exact P.len_str (by omega) (h _ _)

/-- held[len(told[0]):] -/
theorem eval_behind {p1 p2 p3 p4 p5 p6 p7 p8 : Pos} {k : Nat} {c f D : Addr} {m : Str → Option Value} {its : Array Value} {x held : Str} {tH : Tok} {r : List Str} {Q : Value → Shared → Prop} (V : Env6 env c) (T : Top6 s.heap env f) (hn : s.heap.Ns env.locals m) (hm : m "told" = some (.ref D)) (hH : m "held" = some (.str held tH))
    (hD : LinesAt s.heap D its) (hS : StrsAre its.toList (x :: r)) (hx : x.length ≤ 100000) (hsz : held.length ≤ 100000)
    (h : ∀ h' t tk, Up s.heap h' → Q (.str ⟨held.cps.extract x.length held.cps.size⟩ t) { s with heap := h', toks := tk }) :
    wpAny (model prog w) A (eval (.Subscript (.Name "held" p1) (.Slice (some (.Call (.Name "len" p2) [.Subscript (.Name "told" p3) (.Constant (.int 0) k p4) p5] [] p6)) none none p7) p8) env) Q E s := by
  refine Subscript_Slice (eval_local V.fn V.held hn hH (wpAny_Slice (evalPart_some_step (eval_len_first V T hn hm hD hS hx fun t tk => evalPart_none_step (evalPart_none_step ?_)))))
  refine SBH.sliceItem_sn (s := { s with toks := tk }) (Up.kept _) (Up.refl _) (fun h' t' k u => ?_) (by rw [sizeLine_eq]; omega)
  rw [slice_from]
  exact h h' t' k u

/-- a call of the function, the bound two -/
theorem eval_split2 {p1 p3 p4 p5 : Pos} {k : Nat} {e : Expr} {base : Heap} {c f : Addr} {text : Str} {Q : Value → Shared → Prop} (V : Env6 env c) (T : Top6 s.heap env f) (hS : SplitAt prog w base f) (up : Up base s.heap)
    (hh : A.handled = none) (hroom : A.depth < recursionLimit) (hu : A.units + 50 < cLine) (hsz : text.length + 100 ≤ sizeLine)
    (harg : ∀ Q' : Value → Shared → Prop, (∀ h' t tk, Up s.heap h' → Q' (.str text t) { s with heap := h', toks := tk }) → wpAny (model prog w) A (eval e env) Q' E s)
    (hQ : ∀ h' tk D its, s.heap.get? D = none → LinesAt h' D its → StrsAre its.toList (rowsUpTo text.cps (some 2)) → Up s.heap h' → Q (.ref D) { s with heap := h', toks := tk })
    (he : starEach [e] env = [(false, eval e env)] := by rfl) :
    wpC (M1 prog w) A (eval (.Call (.Name "_splitlines_no_ff" p1) [e] [⟨some "maxlines", .Constant (.int 2) k p3, p4⟩] p5) env) Q E s := by
  obtain ⟨mg, hg, hf, _⟩ := T.glob
  obtain ⟨⟨o, fd, ho, hd⟩, hS⟩ := hS
  refine wpC_Call_Name (wpC_of_any (any1 (Calls.Name_function_global V.fn V.split (Calls.loadGlobal_global hg hf ?_))))
  rw [he]
  refine wpC_callWith_function (o := o) (fd := fd) (wpC_of_any (any1 (evalArgs_kw rfl (Calls.spliced_cons ?_))))
  refine harg _ fun h₁ t₁ tk₁ u₁ => Calls.spliced_nil ?_
  refine wpAny_evalAll_cons ?_
  show wpAny _ _ (eval (.Constant (.int 2) k p3) env >>= fun v => standAt p5 >>= fun _ => pure v) _ _ _
  refine wpAny_bind (wpAny_Constant_int (wpAny_bind (wpAny_standAt (wpAny_pure (wpAny_evalAll_nil ⟨⟨u₁ _ _ (up _ _ ho), hd⟩, ?_⟩)))))
  refine wpC_call (hS A _ text t₁ _ (some 2) _ (up.trans u₁) hh hroom hu hsz ⟨_, rfl⟩ fun h' tk D a b c => ?_)
  obtain ⟨its, b1, b2⟩ := b
  refine hQ h' tk D its ?_ b1 b2 (u₁.trans c)
  cases x : s.heap.get? D with
  | none => rfl
  | some o => exact absurd (Heap.lt_size (u₁ _ _ x)) (Nat.not_lt.mpr a)
end
end Mine
end
section
open PySem PySem.W PyProof.Rows
set_option maxRecDepth 100000
set_option maxHeartbeats 1000000
namespace Mine
theorem extract_self_eq {H : Array Nat} {r : Nat} (h : r ≤ H.size) : ((⟨H.extract 0 r⟩ : Str) == ⟨H⟩) = decide (r = H.size) := by
  by_cases e : r = H.size
  · subst e; simp
  · have : (⟨H.extract 0 r⟩ : Str) ≠ ⟨H⟩ := fun x => e (by
      have := congrArg (fun y : Str => y.cps.size) x
      simp at this; omega)
    simp only [e, decide_false]
    exact beq_eq_false_iff_ne.mpr this
theorem one_ne (b k : Nat) : ((⟨#[b]⟩ : Str) != ⟨#[k]⟩) = decide (b ≠ k) := by
  show (!((⟨#[b]⟩ : Str) == ⟨#[k]⟩)) = _
  rw [one_eq]; simp
section
variable {prog : Program} {w : World} {A : Around} {E : Value → Shared → Prop} {s : Shared} {env : Env}

/-- len(told) != 2 or told[0] == '' or told[1:] != _splitlines_no_ff(held[len(told[0]):], maxlines=2)[:1] -/
theorem test_told {p1 p2 p3 p4 p5 p6 p7 p8 p9 p10 p11 p12 p13 p14 p15 p16 p17 p18 p19 p20 p21 p22 p23 p24 p25 p26 p27 p28 p29 p30 p31 : Pos} {k1 k2 k3 k4 k5 k6 k7 : Nat} {base : Heap} {c f D : Addr} {m : Str → Option Value} {its : Array Value} {H : Array Nat} {r : Nat} {Y : Str} {tH : Tok} {whole : Sem Value} {Q : Bool → Shared → Prop}
    (V : Env6 env c) (T : Top6 s.heap env f) (hS : SplitAt prog w base f) (up : Up base s.heap) (hh : A.handled = none) (hroom : A.depth < recursionLimit) (hu : A.units + 70 < cLine)
    (hn : s.heap.Ns env.locals m) (hm : m "told" = some (.ref D)) (hH : m "held" = some (.str ⟨H⟩ tH)) (hD : LinesAt s.heap D its) (hs : StrsAre its.toList [⟨H.extract 0 r⟩, Y]) (h0 : 0 < r) (hr : r ≤ H.size) (hsz : H.size ≤ 10000)
    (hY : (rowsUpTo (H.extract r H.size) (some 2)).take 1 = [Y]) (hok : PyData.strOk Y = true)
    (h : ∀ h' tk, Up s.heap h' → Q false { s with heap := h', toks := tk }) :
    wpC (M1 prog w) A (isTrue (.BoolOp .Or [.Compare (.Call (.Name "len" p1) [.Name "told" p2] [] p3) [.NotEq] [.Constant (.int 2) k1 p4] p5,
      .Compare (.Subscript (.Name "told" p6) (.Constant (.int 0) k2 p7) p8) [.Eq] [.Constant (.str "") k3 p9] p10,
      .Compare (.Subscript (.Name "told" p11) (.Slice (some (.Constant (.int 1) k4 p12)) none none p13) p14) [.NotEq]
        [.Subscript (.Call (.Name "_splitlines_no_ff" p15) [.Subscript (.Name "held" p16) (.Slice (some (.Call (.Name "len" p17) [.Subscript (.Name "told" p18) (.Constant (.int 0) k5 p19) p20] [] p21)) none none p22) p23] [⟨some "maxlines", .Constant (.int 2) k6 p24, p25⟩] p26)
          (.Slice none (some (.Constant (.int 1) k7 p27)) none p28) p29] p30] p31) env whole) Q E s := by
  obtain ⟨mg, hg, _, g1, _⟩ := T.glob
  obtain ⟨mb, hb, b1, _⟩ := T.blt
  have hl := strs_length hs
  have hsz2 : its.size = 2 := by rw [← Array.length_toList, hl]; rfl
  have s2 : ("" : Str) = emptyStr := by decide
  have hxs : (H.extract 0 r).size = r := by simp; omega
  have hX : (⟨H.extract 0 r⟩ : Str) ≠ emptyStr := fun x => by
    have : (H.extract 0 r).size = 0 := congrArg (fun y : Str => y.cps.size) x
    omega
  refine wpC_isTrue_or (wpC_of_any (any1 (wpAny_isTrue_Compare1 (call_name_builtin V.fn V.len hg g1 hb b1 (PyProof.Rows.spliced_more (eval_local V.fn V.told hn hm (PyProof.Rows.spliced_none (Calls.call_len_list hD.lst (by omega) (wpAny_Constant_int (PyProof.Rows.ne_int (wpAny_truthy_bool ?_)))))))))))
  rw [if_neg (by rw [hsz2]; decide)]
  refine wpC_isTrue_or (wpC_of_any (any1 (wpAny_isTrue_Compare1 (eval_first (m := m) V hn hm hD hs fun t => wpAny_Constant_str (PyProof.Rows.eq_str (wpAny_truthy_bool ?_))))))
  rw [s2, empty_eq, decide_eq_false hX, if_neg (by decide)]
  dsimp only
  refine wpC_isTrue_or (wpC_isTrue_Compare1 (wpC_of_any (any1 (wpAny_Subscript_list_slice (eval_local V.fn V.told (m := m) hn hm (evalPart_some_step (wpAny_Constant_int (evalPart_none_step ⟨D, its, some 1, none, rfl, hD.lst, by rw [hsz2, sizeLine_eq]; decide, .int _ _, .none, ?_⟩))))))))
  dsimp only
  generalize hH1 : (s.heap.push { cls := .type "slice", data := .fields #[Value.int 1 _, Value.none, Value.none] }) = H1
  have u1 : Up s.heap H1 := hH1 ▸ .push _ _
  have z1 : H1.objs.size = s.heap.objs.size + 1 := by rw [← hH1, Heap.size_push]
  have e1 : slicePick its (some 1) none none = (its.toList.drop 1).toArray := slicePick_from' its 1
  rw [e1]
  have u2 : Up s.heap (H1.push { cls := .type "list", data := .seq (its.toList.drop 1).toArray }) := u1.trans (.push _ _)
  have g2 : (H1.push { cls := .type "list", data := .seq (its.toList.drop 1).toArray }).get? (s.heap.objs.size + 1) = some { cls := .type "list", data := .seq (its.toList.drop 1).toArray } := by rw [← z1]; exact Heap.get?_push_size _ rfl
  generalize hH2 : (H1.push { cls := .type "list", data := .seq (its.toList.drop 1).toArray }) = H2 at u2 g2 ⊢
  refine wpC_Subscript (eval_split2 (text := ⟨H.extract r H.size⟩) V (T.up u2) hS (up.trans u2) hh hroom (by omega) ?_ ?_ fun h₃ tk₃ D₃ its₃ hD₃ hL₃ hS₃ u₃ => ?_)
  · show (H.extract r H.size).size + 100 ≤ _
    rw [sizeLine_eq]; simp; omega
  · intro Q' hQ'
    refine eval_behind (held := ⟨H⟩) V (T.up u2) (hn.keeps u2) hm hH (hD.up u2) hs (by show (H.extract 0 r).size ≤ _; omega) (by show H.size ≤ _; omega) fun h' t tk u => ?_
    have := hQ' h' t tk u
    rw [show (⟨H.extract 0 r⟩ : Str).length = r from hxs]
    exact this
  · dsimp only at hD₃ u₃ ⊢
    refine wpC_of_any (any1 (wpAny_Slice (evalPart_none_step (evalPart_some_step (wpAny_Constant_int (evalPart_none_step ?_))))))
    have hl₃ := strs_length hS₃
    have hsz₃ : its₃.size ≤ 2 := by
      rw [← Array.length_toList, hl₃]
      show ((rowsFrom _ 0).take 2).length ≤ 2
      simp; omega
    refine wpC_of_any (any1 (tail_slice (lo := none) (hi := some 1) (hL₃.lst.push _) (Heap.IsSliceOf.new ..) .none (.int _ _) (by rw [sizeLine_eq]; omega) ?_))
    dsimp only
    rw [show slicePick its₃ none (some 1) none = (its₃.toList.take 1).toArray from slicePick_upto' its₃ 1]
    have u₄ : Up H2 ((h₃.push { cls := .type "slice", data := .fields #[Value.none, Value.int 1 tk₃, Value.none] }).push { cls := .type "list", data := .seq (its₃.toList.take 1).toArray }) := (u₃.trans (.push _ _)).trans (.push _ _)
    have hS4 := strs_take 1 hS₃
    rw [show (rowsUpTo (⟨H.extract r H.size⟩ : Str).cps (some 2)).take 1 = [Y] from hY] at hS4
    have hS5 : StrsAre (its.toList.drop 1) [Y] := by
      have := PyProof.Rows.StrsAre.drop' hs 1
      simpa using this
    refine wpC_of_any (any1 (ne_strs (ns := [Y]) (ms := [Y]) (xs := (its.toList.drop 1).toArray) (ys := (its₃.toList.take 1).toArray) ⟨_, u₄ _ _ g2, rfl, _, rfl⟩ ⟨_, Heap.get?_push_size _ rfl, rfl, _, rfl⟩ (by simpa using hS5) (by simpa using hS4) (by simpa using hok) (by simpa using hok) (by omega) (wpC_of_any (any1 (wpAny_truthy_bool ?_)))))
    rw [if_neg (by simp)]
    exact wpC_isTrue_or_nil (h _ _ (u2.trans u₄))

/-- told[0] == held and held[-1] != '\n' -/
theorem test_whole {p1 p2 p3 p4 p5 p6 p7 p8 p9 p10 p11 p12 : Pos} {k1 k2 k3 : Nat} {c D : Addr} {m : Str → Option Value} {its : Array Value} {H : Array Nat} {r : Nat} {Y : Str} {tH : Tok} {whole : Sem Value} {Q : Bool → Shared → Prop}
    (V : Env6 env c) (hn : s.heap.Ns env.locals m) (hm : m "told" = some (.ref D)) (hH : m "held" = some (.str ⟨H⟩ tH)) (hD : LinesAt s.heap D its) (hs : StrsAre its.toList [⟨H.extract 0 r⟩, Y]) (h0 : 0 < r) (hr : r ≤ H.size)
    (h : ∀ tk, Q (decide (r = H.size ∧ H.back? ≠ some 10)) { s with toks := tk }) :
    wpAny (model prog w) A (isTrue (.BoolOp .And [.Compare (.Subscript (.Name "told" p1) (.Constant (.int 0) k1 p2) p3) [.Eq] [.Name "held" p4] p5,
      .Compare (.Subscript (.Name "held" p6) (.UnaryOp .USub (.Constant (.int 1) k2 p7) p8) p9) [.NotEq] [.Constant (.str "\n") k3 p10] p11] p12) env whole) Q E s := by
  have s1 : ("\n" : Str) = ⟨#[10]⟩ := by decide
  refine isTrue_and (wpAny_isTrue_Compare1 (eval_first V hn hm hD hs fun t => eval_local V.fn V.held (m := m) hn hH (PyProof.Rows.eq_str (wpAny_truthy_bool ?_))))
  rw [extract_self_eq hr]
  by_cases e : r = H.size
  · rw [if_pos (by simpa using e)]
    obtain ⟨b, hb1, hb2⟩ := item_back (x := ⟨H⟩) (by show 0 < H.size; omega)
    refine isTrue_and (wpAny_isTrue_Compare1 (Subscript_UnaryOp (eval_local V.fn V.held (m := m) hn hH (UnaryOp_ (wpAny_Constant_int (neg_int ?_))))))
    refine SB.item (by decide) (charAt_isSome (by show -((H.size : Nat) : Int) ≤ -1; omega) (by show (-1 : Int) < ((H.size : Nat) : Int); omega)) ?_
    refine wpAny_Constant_str (PyProof.Rows.ne_str (wpAny_truthy_bool ?_))
    dsimp only
    rw [hb2, s1, one_ne]
    have hq : decide (r = H.size ∧ H.back? ≠ some 10) = decide (b ≠ 10) := by
      rw [show H.back? = some b from hb1]; simp [e]
    rw [hq] at h
    by_cases hb : b ≠ 10
    · rw [if_pos (by simpa using hb)]
      rw [decide_eq_true hb] at h
      exact isTrue_and_nil (h _)
    · rw [if_neg (by simpa using hb)]
      rw [decide_eq_false hb] at h
      exact h _
  · rw [if_neg (by simpa using e)]
    have hf : decide (r = H.size ∧ H.back? ≠ some 10) = false := decide_eq_false fun x => e x.1
    rw [hf] at h
    exact h _
end
end Mine
end
section
open PySem PySem.W PyProof.Rows
set_option maxRecDepth 100000
set_option maxHeartbeats 1000000
namespace Mine
theorem back_ext {T : Array Nat} {p q : Nat} (hq : q ≤ T.size) (h : p < q) : (T.extract p q).back? = T[q - 1]? := by
  rw [Array.back?, getElem?_ext T p q _ hq]
  have hs : (T.extract p q).size = q - p := by simp; omega
  rw [hs, if_pos (by omega)]
  congr 1; omega
/-- a row is taken off -/
theorem take_off {T : Array Nat} {p q r : Nat} {g : List Str} (hq : q ≤ T.size) (h : p < q) (hr : r = rowEnd (T.extract p q) 0) (hw : ¬ (r = (T.extract p q).size ∧ (T.extract p q).back? ≠ some 10)) (hg : g ++ rowsFrom T p = rowsFrom T 0) :
    (g ++ [⟨(T.extract p q).extract 0 r⟩]) ++ rowsFrom T (p + r) = rowsFrom T 0 ∧ (T.extract p q).extract r (T.extract p q).size = T.extract (p + r) q ∧ p + r ≤ q := by
  have hs : (T.extract p q).size = q - p := by simp; omega
  have hle := rowEnd_le (T.extract p q) 0 (Nat.zero_le _)
  rw [← hr, hs] at hle
  have he : rowEnd T p = p + r := by
    rw [hr]
    refine rowEnd_ext hq h ?_
    rw [← hr]
    rw [hs, back_ext hq h] at hw
    by_cases h1 : r < q - p
    · exact .inl h1
    · refine .inr (.inl ?_)
      by_cases h2 : T[q - 1]? = some 10
      · exact h2
      · exact absurd ⟨by omega, h2⟩ hw
  refine ⟨?_, ?_, by omega⟩
  · rw [← hg, List.append_assoc, rowsFrom_lt (T := T) (p := p) (by omega), he, extract_extract' T p q 0 r hq (by omega)]
    rfl
  · rw [hs, extract_extract' T p q r (q - p) hq (by omega)]
    congr 1; omega

section
variable {prog : Program} {w : World} {A : Around} {E : Value → Shared → Prop} {s : Shared} {env : Env}

/-- given.append(told[0]) -/
theorem exec_give {p1 p2 p3 p4 p5 p6 p7 : Pos} {k : Nat} {c G D : Addr} {m : Str → Option Value} {its gs : Array Value} {x : Str} {r : List Str} {Q : Flow → Shared → Prop} (V : Env6 env c)
    (hn : s.heap.Ns env.locals m) (hm : m "told" = some (.ref D)) (hD : LinesAt s.heap D its) (hS : StrsAre its.toList (x :: r)) (hg : m "given" = some (.ref G)) (hG : LinesAt s.heap G gs) (hsz : gs.size ≤ sizeLine) (hline : (p2.endLine == p6.line) = true)
    (hsw : swapsWith (.Call (.Attribute (.Name "given" p1) "append" p2) [.Subscript (.Name "told" p3) (.Constant (.int 0) k p4) p5] [] p6) none p7.line env = pure false)
    (h : ∀ h' tk t, LinesAt h' G (gs.push (.str x t)) → Heap.SameBut G s.heap h' → Q .next { s with heap := h', toks := tk }) :
    wpAny (model prog w) A (exec (.Expr (.Call (.Attribute (.Name "given" p1) "append" p2) [.Subscript (.Name "told" p3) (.Constant (.int 0) k p4) p5] [] p6) p7) env) Q E s := by
  refine wpAny_Expr ?_ V.plain hsw
  obtain ⟨n, hl'⟩ := id hG
  refine wpAny_Call_method (T := "list") (id := "list.append") rfl rfl hline plain_list slot_list_append type_list_append ?_
  refine eval_local V.fn V.given hn hg ⟨⟨_, hl', rfl⟩, (fun a e => by cases e; exact ⟨_, hl', rfl⟩), ?_⟩
  refine Calls.callWith_builtin rfl (Calls.evalArgs_plain (Calls.spliced_cons ?_))
  refine eval_first V hn hm hD hS fun t => Calls.spliced_nil ?_
  exact append_at (s := { s with toks := s.toks + 1 }) hG hsz fun h' a b => h h' _ _ a b

theorem while_exec {a1 a2 a3 a4 b1 b2 b3 b4 b5 b6 b7 p1 p2 p3 p4 p5 p6 p7 p8 p9 p10 p11 p12 p13 p14 p15 p16 p17 p18 p19 p20 p21 p22 p23 p24 p25 p26 p27 p28 p29 p30 p31 c1 c2 c3 q1 q2 q3 q4 q5 q6 q7 q8 q9 q10 q11 q12 d1 d2 e1 e2 e3 e4 e5 e6 e7 f1 f2 f3 f4 f5 f6 f7 f8 f9 f10 : Pos} {i1 i2 k1 k2 k3 k4 k5 k6 k7 i3 j1 j2 j3 i4 i5 : Nat}
    {base : Shared} {c f G : Addr} {m : Str → Option Value} {gs : Array Value} {g : List Str} {T : Array Nat} {p stop : Nat} {t : Tok} {h : Heap} {tk : Nat} {Q : Flow → Shared → Prop}
    (V : Env6 env c) (Tp : Top6 base.heap env f) (hS : SplitAt prog w base.heap f) (up : Up base.heap h) (hLb : base.heap.get? env.locals = none) (hGb : base.heap.get? G = none) (hGL : G ≠ env.locals)
    (hh : A.handled = none) (hroom : A.depth < recursionLimit) (hu : A.units + 70 < cLine)
    (hn : h.Ns env.locals m) (hheld : m "held" = some (.str ⟨T.extract p stop⟩ t)) (hgiven : m "given" = some (.ref G)) (hG : LinesAt h G gs) (hgs : StrsAre gs.toList g) (hg : g ++ rowsFrom T p = rowsFrom T 0)
    (hp : p ≤ stop) (hst : stop ≤ T.size) (hTs : T.size ≤ 10000) (hok : PyData.strOk ⟨T⟩ = true)
    (hline : (e2.endLine == e6.line) = true)
    (hsw : swapsWith (.Call (.Attribute (.Name "given" e1) "append" e2) [.Subscript (.Name "told" e3) (.Constant (.int 0) i4 e4) e5] [] e6) none e7.line env = pure false)
    (hQ : ∀ h' tk' m' p' gs' g' t', p' ≤ stop → h'.Ns env.locals m' → m' "held" = some (.str ⟨T.extract p' stop⟩ t') → (∀ z : Str, z ≠ "held" → z ≠ "told" → m' z = m z) → LinesAt h' G gs' → StrsAre gs'.toList g' → g' ++ rowsFrom T p' = rowsFrom T 0 →
      (∀ b o, b ≠ env.locals → b ≠ G → h.get? b = some o → h'.get? b = some o) → Q .next { base with heap := h', toks := tk' }) :
    wpC (M1 prog w) A (exec (.While (.Compare (.Name "held" a1) [.NotEq] [.Constant (.str "") i1 a2] a3)
      [.Assign [.Name "told" b1] (.Call (.Name "_splitlines_no_ff" b2) [.Name "held" b3] [⟨some "maxlines", .Constant (.int 2) i2 b4, b5⟩] b6) b7,
       .If (.BoolOp .Or [.Compare (.Call (.Name "len" p1) [.Name "told" p2] [] p3) [.NotEq] [.Constant (.int 2) k1 p4] p5,
         .Compare (.Subscript (.Name "told" p6) (.Constant (.int 0) k2 p7) p8) [.Eq] [.Constant (.str "") k3 p9] p10,
         .Compare (.Subscript (.Name "told" p11) (.Slice (some (.Constant (.int 1) k4 p12)) none none p13) p14) [.NotEq]
           [.Subscript (.Call (.Name "_splitlines_no_ff" p15) [.Subscript (.Name "held" p16) (.Slice (some (.Call (.Name "len" p17) [.Subscript (.Name "told" p18) (.Constant (.int 0) k5 p19) p20] [] p21)) none none p22) p23] [⟨some "maxlines", .Constant (.int 2) k6 p24, p25⟩] p26)
             (.Slice none (some (.Constant (.int 1) k7 p27)) none p28) p29] p30] p31) [.Return (some (.Constant (.bool false) i3 c1)) c2] [] c3,
       .If (.BoolOp .And [.Compare (.Subscript (.Name "told" q1) (.Constant (.int 0) j1 q2) q3) [.Eq] [.Name "held" q4] q5,
         .Compare (.Subscript (.Name "held" q6) (.UnaryOp .USub (.Constant (.int 1) j2 q7) q8) q9) [.NotEq] [.Constant (.str "\n") j3 q10] q11] q12) [.Break d1] [] d2,
       .Expr (.Call (.Attribute (.Name "given" e1) "append" e2) [.Subscript (.Name "told" e3) (.Constant (.int 0) i4 e4) e5] [] e6) e7,
       .Assign [.Name "held" f1] (.Subscript (.Name "held" f2) (.Slice (some (.Call (.Name "len" f3) [.Subscript (.Name "told" f4) (.Constant (.int 0) i5 f5) f6] [] f7)) none none f8) f9) f10] [] a4) env) Q E { base with heap := h, toks := tk } := by
  have hLn : ∀ b o, base.heap.get? b = some o → b ≠ env.locals ∧ b ≠ G := fun b o e => ⟨get?_ne e hLb, get?_ne e hGb⟩
  have s2 : ("" : Str) = emptyStr := by decide
  refine wpC_While (codeC_whileLoop (fun k s' => ∃ h' tk' m' p' gs' g' t', s' = { base with heap := h', toks := tk' } ∧ p' ≤ stop ∧ h'.Ns env.locals m' ∧ m' "held" = some (.str ⟨T.extract p' stop⟩ t') ∧ (∀ z : Str, z ≠ "held" → z ≠ "told" → m' z = m z) ∧ LinesAt h' G gs' ∧ StrsAre gs'.toList g' ∧ g' ++ rowsFrom T p' = rowsFrom T 0 ∧
    (∀ b o, b ≠ env.locals → b ≠ G → h.get? b = some o → h'.get? b = some o) ∧ k = stop - p' + 1) ?_ (stop - p + 1) ⟨h, tk, m, p, gs, g, t, rfl, hp, hn, hheld, fun _ _ _ => rfl, hG, hgs, hg, fun _ _ _ _ e => e, rfl⟩)
  rintro k s' ⟨h', tk', m', p', gs', g', t', rfl, hp', hn', hH', hm', hG', hgs', hg', hk', rfl⟩
  have up' : Up base.heap h' := fun b o e => hk' b o (hLn b o e).1 (hLn b o e).2 (up b o e)
  have hgiv' : m' "given" = some (.ref G) := by rw [hm' _ (by decide) (by decide)]; exact hgiven
  have hHs : (T.extract p' stop).size = stop - p' := by simp; omega
  refine wpC_of_any (any1 (wpAny_isTrue_Compare1 (eval_local V.fn V.held hn' hH' (wpAny_Constant_str (PyProof.Rows.ne_str (wpAny_truthy_bool ?_))))))
  have hne : ((⟨T.extract p' stop⟩ : Str) != ("" : Str)) = decide (p' < stop) := by
    rw [s2]
    show (!((⟨T.extract p' stop⟩ : Str) == emptyStr)) = _
    rw [empty_eq]
    by_cases hlt : p' < stop
    · rw [decide_eq_true hlt, decide_eq_false fun x => ?_]; rfl
      have : (T.extract p' stop).size = 0 := congrArg (fun y : Str => y.cps.size) x
      omega
    · rw [decide_eq_false hlt, decide_eq_true ?_]; rfl
      refine getElem_str_ext ?_
      show T.extract p' stop = #[]
      apply Array.eq_empty_of_size_eq_zero; omega
  rw [hne]
  by_cases hge : ¬ p' < stop
  · have hlt := hge
    rw [if_neg (by simpa using hlt)]
    exact hQ h' _ m' p' gs' g' t' hp' hn' hH' hm' hG' hgs' hg' hk'
  have hlt : p' < stop := Nat.not_le.mp fun x => hge (Nat.not_lt.mpr x)
  clear hge
  rw [if_pos (by simpa using hlt)]
  have hpos : 0 < (T.extract p' stop).size := by omega
  obtain ⟨Y, hY1, hY2⟩ := told_plain hpos
  have hr0 := rowEnd_gt _ 0 hpos
  have hrl := rowEnd_le _ 0 (Nat.zero_le (T.extract p' stop).size)
  have hokH : PyData.strOk ⟨T.extract p' stop⟩ = true := strOk_extract hok _ _
  have hokY : PyData.strOk Y = true := rows_ok hokH 0 Y (List.mem_of_mem_take (i := 2) (by rw [show (rowsFrom (T.extract p' stop) 0).take 2 = _ from hY1]; simp))
  have hoff := fun hw => take_off (r := rowEnd (T.extract p' stop) 0) hst hlt rfl hw hg'
  generalize hr : rowEnd (T.extract p' stop) 0 = r at *
  -- told = ..
  refine wpC_execs_cons (wpC_Assign_Name (eval_split2 (text := ⟨T.extract p' stop⟩) V (Tp.up up') hS up' hh hroom (by omega) ?_ (fun Q' hQ' => eval_local V.fn V.held hn' hH' (hQ' h' _ _ (Up.refl _))) fun h₁ tk₁ D its hD hL₁ hS₁ u₁ => ?_))
  · show (T.extract p' stop).size + 100 ≤ _
    rw [sizeLine_eq]; omega
  rw [show rowsUpTo (⟨T.extract p' stop⟩ : Str).cps (some 2) = _ from hY1] at hS₁
  dsimp only at hD u₁ ⊢
  refine wpC_of_any (any1 (wpAny_storeName_local V.told (hn'.keeps u₁) (fun h₂ hn₂ hs₂ => ?_) V.stores))
  dsimp only at hs₂ ⊢
  have hDL : D ≠ env.locals := let ⟨_, _, _, e, _⟩ := hn'; Ne.symm (get?_ne e hD)
  have hDG : D ≠ G := let ⟨_, e⟩ := hG'; Ne.symm (get?_ne e hD)
  have k₂ : But env.locals h' h₂ := fun b o hb e => hs₂.extBut b o hb (u₁ b o e)
  have up₂ : Up base.heap h₂ := fun b o e => k₂ b o (hLn b o e).1 (up' b o e)
  have hL₂ : LinesAt h₂ D its := let ⟨n, e⟩ := hL₁; ⟨n, hs₂.extBut _ _ hDL e⟩
  have hG₂ : LinesAt h₂ G gs' := k₂.lines hG' hGL
  have t₂ : (fun z : Str => if z = "told" then some (Value.ref D) else m' z) "told" = some (.ref D) := by show (if _ then _ else _) = _; rw [if_pos rfl]
  have H₂ : (fun z : Str => if z = "told" then some (Value.ref D) else m' z) "held" = some (.str ⟨T.extract p' stop⟩ t') := by show (if _ then _ else _) = _; rw [if_neg (by decide)]; exact hH'
  have G₂ : (fun z : Str => if z = "told" then some (Value.ref D) else m' z) "given" = some (.ref G) := by show (if _ then _ else _) = _; rw [if_neg (by decide)]; exact hgiv'
  have M₂ : ∀ z : Str, z ≠ "held" → z ≠ "told" → (fun z : Str => if z = "told" then some (Value.ref D) else m' z) z = m z := fun z h1 h2 => by show (if _ then _ else _) = _; rw [if_neg h2]; exact hm' z h1 h2
  generalize (fun z : Str => if z = "told" then some (Value.ref D) else m' z) = m₂ at *
  -- if .. : return False
  refine wpC_execs_cons (wpC_If (test_told V (Tp.up up₂) hS up₂ hh hroom hu hn₂ t₂ H₂ hL₂ hS₁ hr0 hrl (by omega) hY2 hokY fun h₃ tk₃ u₃ => ?_))
  rw [if_neg (by decide)]
  dsimp only at u₃ ⊢
  refine wpC_execs_nil ?_
  have k₃ : But env.locals h' h₃ := k₂.up u₃
  have up₃ := up₂.trans u₃
  have hn₃ := hn₂.keeps u₃
  have hL₃ := hL₂.up u₃
  have hG₃ := hG₂.up u₃
  -- if .. : break
  refine wpC_execs_cons (wpC_If (wpC_of_any (any1 (test_whole (r := r) V hn₃ t₂ H₂ hL₃ hS₁ hr0 hrl fun tk₄ => ?_))))
  dsimp only
  by_cases hw : r = (T.extract p' stop).size ∧ (T.extract p' stop).back? ≠ some 10
  · rw [if_pos (decide_eq_true hw)]
    refine wpC_execs_cons (wpC_of_any (any1 ?_))
    show wpAny _ _ (exec (.Break d1) env) _ _ _
    refine wpAny_bind (wpAny_standAt (wpAny_pure ?_))
    exact hQ h₃ _ m₂ p' gs' g' t' hp' hn₃ H₂ M₂ hG₃ hgs' hg' fun b o hb hb' e => k₃ b o hb (hk' b o hb hb' e)
  · rw [if_neg (by simpa using hw)]
    refine wpC_execs_nil ?_
    obtain ⟨o1, o2, o3⟩ := hoff hw
    have hgl : gs'.size ≤ sizeLine := by
      have l1 := strs_length hgs'
      have l2 := congrArg List.length hg'
      have l3 := rowsFrom_length T 0 (Nat.zero_le _)
      rw [List.length_append] at l2
      rw [← Array.length_toList, l1, sizeLine_eq]; omega
    -- given.append(told[0])
    refine wpC_execs_cons (wpC_of_any (any1 (exec_give V hn₃ t₂ hL₃ hS₁ G₂ hG₃ hgl hline hsw fun h₅ tk₅ t₅ hG₅ hs₅ => ?_)))
    dsimp only at hs₅ ⊢
    have hn₅ := hn₃.sameBut hs₅ (Ne.symm hGL)
    have hL₅ : LinesAt h₅ D its := let ⟨n, e⟩ := hL₃; ⟨n, hs₅.extBut _ _ hDG e⟩
    have k₅ : ∀ b o, b ≠ env.locals → b ≠ G → h'.get? b = some o → h₅.get? b = some o := fun b o hb hb' e => hs₅.extBut b o hb' (k₃ b o hb e)
    have up₅ : Up base.heap h₅ := fun b o e => k₅ b o (hLn b o e).1 (hLn b o e).2 (up' b o e)
    have hxs : ((T.extract p' stop).extract 0 r).size = r := by simp; omega
    -- held = held[len(told[0]):]
    refine wpC_execs_cons (wpC_Assign_Name (wpC_of_any (any1 (eval_behind (held := ⟨T.extract p' stop⟩) V (Tp.up up₅) hn₅ t₂ H₂ hL₅ hS₁ (by show ((T.extract p' stop).extract 0 r).size ≤ _; omega) (by show (T.extract p' stop).size ≤ _; omega) fun h₆ t₆ tk₆ u₆ => ?_))))
    dsimp only at u₆ ⊢
    rw [show (⟨(T.extract p' stop).extract 0 r⟩ : Str).length = r from hxs, o2]
    refine wpC_of_any (any1 (wpAny_storeName_local V.held (hn₅.keeps u₆) (fun h₇ hn₇ hs₇ => ?_) V.stores))
    dsimp only at hs₇ ⊢
    refine wpC_execs_nil ⟨stop - (p' + r) + 1, by omega, h₇, _, _, p' + r, gs'.push (.str ⟨(T.extract p' stop).extract 0 r⟩ t₅), g' ++ [⟨(T.extract p' stop).extract 0 r⟩], _, rfl, o3, hn₇, by show (if _ then _ else _) = _; rw [if_pos rfl], ?_, ?_, ?_, o1, ?_, rfl⟩
    · intro z h1 h2
      show (if _ then _ else _) = _
      rw [if_neg h1]; exact M₂ z h1 h2
    · exact let ⟨n, e⟩ := hG₅; ⟨n, hs₇.extBut _ _ hGL (u₆ _ _ e)⟩
    · rw [Array.toList_push]; exact strs_snoc _ _ hgs'
    · intro b o hb hb' e
      exact hs₇.extBut b o hb (u₆ _ _ (k₅ b o hb hb' (hk' b o hb hb' e)))
end
end Mine
end
section
open PySem PySem.W PyProof.Rows
set_option maxRecDepth 100000
set_option maxHeartbeats 1000000
namespace Mine
/-- the places where the text is cut: 0, the cuts, its length -/
def cutAt (ks : List Int) (n i : Nat) : Nat := ((0 :: (ks ++ [(n : Int)]))[i]?.getD 0).toNat
section
variable {ks : List Int} {n : Nat}
theorem cut_zero : cutAt ks n 0 = 0 := rfl
theorem cut_last : cutAt ks n (ks.length + 1) = n := by
  unfold cutAt
  rw [List.getElem?_cons_succ, List.getElem?_append_right (Nat.le_refl _)]
  simp
theorem cut_left (hb : ∀ k ∈ ks, 0 ≤ k ∧ k ≤ (n : Int)) {i : Nat} {a : Int} (h : (0 :: ks)[i]? = some a) : a = (cutAt ks n i : Int) := by
  have h0 : 0 ≤ a := by
    rcases List.mem_cons.mp (List.mem_of_getElem? h) with e | e
    · omega
    · exact (hb a e).1
  unfold cutAt
  have e : (0 :: (ks ++ [(n : Int)]))[i]? = some a := by
    rw [← List.cons_append, List.getElem?_append_left, h]
    exact (List.getElem?_eq_some_iff.mp h).1
  rw [e]; simp; omega
theorem cut_right (hb : ∀ k ∈ ks, 0 ≤ k ∧ k ≤ (n : Int)) {i : Nat} {b : Int} (h : (ks ++ [(n : Int)])[i]? = some b) : b = (cutAt ks n (i + 1) : Int) := by
  have h0 : 0 ≤ b := by
    rcases List.mem_append.mp (List.mem_of_getElem? h) with e | e
    · exact (hb b e).1
    · simp at e; omega
  unfold cutAt
  rw [List.getElem?_cons_succ, h]; simp; omega
theorem cut_step (hb : ∀ k ∈ ks, 0 ≤ k ∧ k ≤ (n : Int)) (hp : ks.Pairwise (· ≤ ·)) {i : Nat} (hi : i < ks.length + 1) : cutAt ks n i ≤ cutAt ks n (i + 1) ∧ cutAt ks n (i + 1) ≤ n := by
  have hall : (0 :: (ks ++ [(n : Int)])).Pairwise (· ≤ ·) := by
    rw [List.pairwise_cons, List.pairwise_append]
    refine ⟨fun a ha => ?_, hp, by simp, fun a ha b hb' => ?_⟩
    · rcases List.mem_append.mp ha with e | e
      · exact (hb a e).1
      · simp at e; omega
    · simp at hb'; subst hb'; exact (hb a ha).2
  have hl : (0 :: (ks ++ [(n : Int)])).length = ks.length + 2 := by simp
  have e1 : (0 :: (ks ++ [(n : Int)]))[i]? = some ((0 :: (ks ++ [(n : Int)]))[i]'(by omega)) := List.getElem?_eq_getElem (by omega)
  have e2 : (0 :: (ks ++ [(n : Int)]))[i + 1]? = some ((0 :: (ks ++ [(n : Int)]))[i + 1]'(by omega)) := List.getElem?_eq_getElem (by omega)
  have h1 := List.pairwise_iff_getElem.mp hall i (i + 1) (by omega) (by omega) (Nat.lt_succ_self _)
  have h3 : (0 :: (ks ++ [(n : Int)]))[i + 1]'(by omega) ≤ (n : Int) := by
    have hm := List.getElem_mem (l := 0 :: (ks ++ [(n : Int)])) (n := i + 1) (by omega)
    rcases List.mem_cons.mp hm with e | e
    · omega
    · rcases List.mem_append.mp e with e | e
      · exact (hb _ e).2
      · simp only [List.mem_singleton] at e; omega
  unfold cutAt
  rw [e1, e2]
  simp only [Option.getD_some]
  generalize (0 :: (ks ++ [(n : Int)]))[i]'(by omega) = x at *
  generalize (0 :: (ks ++ [(n : Int)]))[i + 1]'(by omega) = y at *
  omega
end
theorem cat_ext {T : Array Nat} {p q r : Nat} (h1 : p ≤ q) (h2 : q ≤ r) (h3 : r ≤ T.size) : (⟨T.extract p q⟩ : Str) ++ (⟨T.extract q r⟩ : Str) = ⟨T.extract p r⟩ := by
  refine getElem_str_ext ?_
  show T.extract p q ++ T.extract q r = T.extract p r
  apply Array.ext
  · simp; omega
  · intro i a b
    simp at a b
    rw [Array.getElem_append]
    split
    · rw [Array.getElem_extract, Array.getElem_extract]
    · rename_i hi
      simp at hi
      rw [Array.getElem_extract, Array.getElem_extract]
      congr 1
      simp; omega

section
variable {prog : Program} {w : World} {A : Around} {E : Value → Shared → Prop} {s : Shared} {env : Env}

/-- zip([0] + cuts, cuts + [len(text)]), and the walk over it -/
theorem eval_zip {p1 p2 p3 p4 p5 p6 p7 p8 p9 p10 p11 p12 : Pos} {k1 : Nat} {c f De : Addr} {text : Str} {u : Tok} {m : Str → Option Value} {ys : Array Value} {ks : List Int} {Q : Value → Shared → Prop}
    (V : Env6 env c) (T : Top6 s.heap env f) (hh : A.handled = none) (hc : s.heap.IsCell c (some (.str text u))) (hn : s.heap.Ns env.locals m) (hm : m "cuts" = some (.ref De)) (hD : LinesAt s.heap De ys) (hy : IntsAre ys.toList ks)
    (hsz : text.length ≤ 100000) (hle : ks.length ≤ 3) (hb : ∀ k ∈ ks, 0 ≤ k ∧ k ≤ (text.length : Int))
    (hQ : ∀ (h' : Heap) (tk : Nat) (I : Addr) (fp wr : List Addr) (Pt : Nat → Array Value → Prop) (St : Nat → Heap → Prop) (Mid : Nat → Addr → Heap → Prop), WalksT prog w A I fp wr (ks.length + 1) Pt St Mid → St 0 h' →
      (∀ i vals, Pt i vals → ∃ ta tb, vals = #[.int (cutAt ks text.length i) ta, .int (cutAt ks text.length (i + 1)) tb]) → (∀ b o, s.heap.get? b = some o → b ∉ fp) → (∀ b ∈ fp, b < h'.objs.size) → Up s.heap h' →
      (∀ (Q' : Value → Shared → Prop) (E' : Value → Shared → Prop), Q' (.ref I) { s with heap := h', toks := tk } → wpAny (model prog w) A (pyIter (.ref I)) Q' E' { s with heap := h', toks := tk }) → Q (.ref I) { s with heap := h', toks := tk }) :
    wpAny (model prog w) A (eval (.Call (.Name "zip" p1) [.BinOp (.List [.Constant (.int 0) k1 p2] p3) .Add (.Name "cuts" p4) p5, .BinOp (.Name "cuts" p6) .Add (.List [.Call (.Name "len" p7) [.Name "text" p8] [] p9] p10) p11] [] p12) env) Q E s := by
  obtain ⟨mg, hg, _, g1, g2, _⟩ := id T.glob
  obtain ⟨mb, hbb, b1, b2, _⟩ := id T.blt
  obtain ⟨nD, hDe⟩ := hD
  have hys : ys.size = ks.length := by rw [← Array.length_toList]; exact hy.length
  refine call_name_type V.fn V.zip hg g2 hbb b2 ?_
  refine PyProof.Rows.spliced_more (wpAny_BinOp (wpAny_List (PyProof.Rows.spliced_more (wpAny_Constant_int (PyProof.Rows.spliced_none ⟨by simp [sizeLine_eq], ?_⟩)))))
  refine eval_local V.fn V.cuts (m := m) (hn.push _) hm ?_
  have u1 : Up s.heap (s.heap.push { cls := .type "list", data := .seq [Value.int 0 s.toks].toArray }) := .push _ _
  refine P.add_list (Heap.get?_push_size _ rfl) (u1 _ _ hDe) ?_ (by simp [sizeLine_eq]; omega)
  generalize hL1 : ([Value.int 0 s.toks].toArray ++ ys) = L1
  generalize hH1 : (s.heap.push { cls := .type "list", data := .seq [Value.int 0 s.toks].toArray }) = H1 at u1 ⊢
  have z1 : H1.objs.size = s.heap.objs.size + 1 := by rw [← hH1, Heap.size_push]
  have u2 : Up s.heap (H1.push { cls := .type "list", data := .seq L1 }) := u1.trans (.push _ _)
  refine PyProof.Rows.spliced_more (wpAny_BinOp (eval_local V.fn V.cuts (m := m) (hn.keeps u2) hm ?_))
  refine wpAny_List (PyProof.Rows.spliced_more (call_name_builtin (mg := mg) (mb := mb) V.fn V.len (hg.keeps u2) g1 (hbb.keeps u2) b1 (PyProof.Rows.spliced_more (eval_cell V.fn V.text V.cell (IsCell.up hc u2) (PyProof.Rows.spliced_none (P.len_str (by omega) (PyProof.Rows.spliced_none ⟨by simp [sizeLine_eq], ?_⟩)))))))
  dsimp only
  have g1' : (H1.push { cls := .type "list", data := .seq L1 }).get? H1.objs.size = some { cls := .type "list", data := .seq L1 } := Heap.get?_push_size _ rfl
  generalize hH2 : (H1.push { cls := .type "list", data := .seq L1 }) = H2 at u2 g1' ⊢
  have z2 : H2.objs.size = s.heap.objs.size + 2 := by rw [← hH2, Heap.size_push, z1]
  have u3 : Up H2 (H2.push { cls := .type "list", data := .seq [Value.int text.length (s.toks + 1 + 1)].toArray }) := .push _ _
  refine P.add_list (l := De) (b := H2.objs.size) ((u2.trans u3) _ _ hDe) (Heap.get?_push_size _ rfl) ?_ (by simp [sizeLine_eq]; omega)
  generalize hL2 : (ys ++ [Value.int text.length (s.toks + 1 + 1)].toArray) = L2
  generalize hH3 : (H2.push { cls := .type "list", data := .seq [Value.int text.length (s.toks + 1 + 1)].toArray }) = H3 at u3 ⊢
  have z3 : H3.objs.size = s.heap.objs.size + 3 := by rw [← hH3, Heap.size_push, z2]
  have u4 : Up H3 (H3.push { cls := .type "list", data := .seq L2 }) := .push _ _
  have g3' : (H3.push { cls := .type "list", data := .seq L2 }).get? H3.objs.size = some { cls := .type "list", data := .seq L2 } := Heap.get?_push_size _ rfl
  refine PyProof.Rows.spliced_none ?_
  generalize hH4 : (H3.push { cls := .type "list", data := .seq L2 }) = H4 at u4 g3' ⊢
  have z4 : H4.objs.size = s.heap.objs.size + 4 := by rw [← hH4, Heap.size_push, z3]
  have uA : Up s.heap H4 := (u2.trans u3).trans u4
  have hl1 : H4.IsList H1.objs.size L1 := ⟨_, (u3.trans u4) _ _ g1', rfl, _, rfl⟩
  have hl2 : H4.IsList H3.objs.size L2 := ⟨_, g3', rfl, _, rfl⟩
  refine call_zip_2 hl1 hl2 fun h' hz hTI hTO hi1 hi2 hsz' hk => ?_
  have hz0 : ∀ b o, s.heap.get? b = some o → b < s.heap.objs.size := fun b o e => Heap.lt_size e
  dsimp only at hz hTI hTO hi1 hi2 hsz' hk ⊢
  generalize hN : H4.objs.size = N at *
  generalize hN1 : H1.objs.size = N1 at *
  generalize hN3 : H3.objs.size = N3 at *
  have ap : ZipApart (N + 4) (N + 2) (N + 3) N (N + 1) N1 N3 := by
    constructor <;> (intro e; have e' : (_ : Nat) = _ := e; omega)
  have key : ∀ b : Nat, b < s.heap.objs.size → ¬ (b = N + 4 ∨ b = N + 2 ∨ b = N + 3 ∨ b = N ∨ b = N + 1 ∨ b = N1 ∨ b = N3) := by intro b hb; omega
  have hLf : ∀ b o, s.heap.get? b = some o → b ∉ [N + 4, N + 2, N + 3, N, N + 1, N1, N3] := fun b o e hm => key b (hz0 b o e) (by simpa using hm)
  have lk : ∀ {a : Addr} {l : Array Value}, H4.IsList a l → h'.IsList a l := fun x => let ⟨o, e, r⟩ := x; ⟨o, hk _ _ e, r⟩
  have sL1 : L1.size = ks.length + 1 := by rw [← hL1]; simp; omega
  have sL2 : L2.size = ks.length + 1 := by rw [← hL2]; simp; omega
  have at1 : ∀ (i : Nat) v, L1[i]? = some v → ∃ a t, (0 :: ks)[i]? = some a ∧ v = Value.int a t := by
    intro i v e
    have hi : IntsAre (Value.int 0 s.toks :: ys.toList) (0 :: ks) := .cons _ _ hy
    have e' : (Value.int 0 s.toks :: ys.toList)[i]? = some v := by rw [← hL1] at e; rw [← e, ← Array.getElem?_toList]; simp
    exact let ⟨k, t, e1, e2⟩ := IntsAre.at hi i v e'; ⟨k, t, e2, e1⟩
  have at2 : ∀ (i : Nat) v, L2[i]? = some v → ∃ a t, (ks ++ [(text.length : Int)])[i]? = some a ∧ v = Value.int a t := by
    intro i v e
    have hi : IntsAre (ys.toList ++ [Value.int text.length (s.toks + 1 + 1)]) (ks ++ [(text.length : Int)]) := IntsAre.append hy (.cons _ _ .nil)
    have e' : (ys.toList ++ [Value.int text.length (s.toks + 1 + 1)])[i]? = some v := by rw [← hL2] at e; rw [← e, ← Array.getElem?_toList]; simp
    exact let ⟨k, t, e1, e2⟩ := IntsAre.at hi i v e'; ⟨k, t, e2, e1⟩
  have W := WalksT.zip2 (prog := prog) (w := w) hh (N + 4) (N + 2) (N + 3) N (N + 1) N1 N3 ap L1 L2
  rw [show min L1.size L2.size = ks.length + 1 by rw [sL1, sL2]; omega] at W
  refine hQ h' _ (N + 4) _ _ _ _ _ W ⟨hz, hTI, ⟨_, _, hTO⟩, hi1, hi2, lk hl1, lk hl2⟩ ?_ hLf ?_ (uA.trans hk) fun Q' E' hq => wpAny_pyIter_zip hz hq
  · rintro i vals ⟨x, y, e1, e2, rfl⟩
    obtain ⟨av, ta, ea, rfl⟩ := at1 i _ e1
    obtain ⟨bv, tb, eb, rfl⟩ := at2 i _ e2
    exact ⟨ta, tb, by rw [cut_left hb ea, cut_right hb eb]⟩
  · intro b hb
    have hb' : (b : Nat) = N + 4 ∨ b = N + 2 ∨ b = N + 3 ∨ b = N ∨ b = N + 1 ∨ b = N1 ∨ b = N3 := by simpa using hb
    have : ∀ b : Nat, (b = N + 4 ∨ b = N + 2 ∨ b = N + 3 ∨ b = N ∨ b = N + 1 ∨ b = N1 ∨ b = N3) → b < h'.objs.size := by intro b hb; omega
    exact this b hb'
end
end Mine
end
section
open PySem PySem.W PyProof.Rows
set_option maxRecDepth 100000
set_option maxHeartbeats 1000000
namespace Mine
section
variable {prog : Program} {w : World} {A : Around} {E : Value → Shared → Prop} {s : Shared} {env : Env}

theorem read_for {x1 x2 x3 x4 z1 z2 z3 z4 z5 z6 z7 z8 z9 z10 z11 z12 g1 g2 g3 g4 g5 g6 g7 a1 a2 a3 a4 b1 b2 b3 b4 b5 b6 b7 p1 p2 p3 p4 p5 p6 p7 p8 p9 p10 p11 p12 p13 p14 p15 p16 p17 p18 p19 p20 p21 p22 p23 p24 p25 p26 p27 p28 p29 p30 p31 c1 c2 c3 q1 q2 q3 q4 q5 q6 q7 q8 q9 q10 q11 q12 d1 d2 e1 e2 e3 e4 e5 e6 e7 f1 f2 f3 f4 f5 f6 f7 f8 f9 f10 : Pos} {l1 l2 i1 i2 k1 k2 k3 k4 k5 k6 k7 i3 j1 j2 j3 i4 i5 : Nat}
    {base : Shared} {c f G R De : Addr} {m : Str → Option Value} {rs ys : Array Value} {ks : List Int} {T : Array Nat} {t u : Tok} {h : Heap} {tk : Nat} {Q : Flow → Shared → Prop}
    (V : Env6 env c) (Tp : Top6 base.heap env f) (hS : SplitAt prog w base.heap f) (up : Up base.heap h) (hLb : base.heap.get? env.locals = none) (hGb : base.heap.get? G = none) (hGL : G ≠ env.locals) (hRL : R ≠ env.locals) (hRG : R ≠ G) (hcL : c ≠ env.locals) (hcG : c ≠ G)
    (hh : A.handled = none) (hroom : A.depth < recursionLimit) (hu : A.units + 70 < cLine)
    (hc : h.IsCell c (some (.str ⟨T⟩ u))) (hn : h.Ns env.locals m) (hheld : m "held" = some (.str emptyStr t)) (hgiven : m "given" = some (.ref G)) (hG : LinesAt h G #[]) (hrows : m "rows" = some (.ref R)) (hR : LinesAt h R rs) (hcuts : m "cuts" = some (.ref De)) (hDe : LinesAt h De ys) (hy : IntsAre ys.toList ks)
    (hle : ks.length ≤ 3) (hb : ∀ k ∈ ks, 0 ≤ k ∧ k ≤ (T.size : Int)) (hpw : ks.Pairwise (· ≤ ·))
    (hTs : T.size ≤ 10000) (hok : PyData.strOk ⟨T⟩ = true)
    (hline : (e2.endLine == e6.line) = true)
    (hsw : swapsWith (.Call (.Attribute (.Name "given" e1) "append" e2) [.Subscript (.Name "told" e3) (.Constant (.int 0) i4 e4) e5] [] e6) none e7.line env = pure false)
    (hQ : ∀ h' tk' m' p gs g t, p ≤ T.size → Up base.heap h' → h'.Ns env.locals m' → m' "held" = some (.str ⟨T.extract p T.size⟩ t) → m' "given" = some (.ref G) → m' "rows" = some (.ref R) → LinesAt h' R rs → LinesAt h' G gs → StrsAre gs.toList g → g ++ rowsFrom T p = rowsFrom T 0 →
      Q .next { base with heap := h', toks := tk' }) :
    wpC (M1 prog w) A (exec (.For (.Tuple [.Name "start" x1, .Name "stop" x2] l2 x3) (.Call (.Name "zip" z1) [.BinOp (.List [.Constant (.int 0) l1 z2] z3) .Add (.Name "cuts" z4) z5, .BinOp (.Name "cuts" z6) .Add (.List [.Call (.Name "len" z7) [.Name "text" z8] [] z9] z10) z11] [] z12)
     [.AugAssign (.Name "held" g1) .Add (.Subscript (.Name "text" g2) (.Slice (some (.Name "start" g3)) (some (.Name "stop" g4)) none g5) g6) g7,
      (.While (.Compare (.Name "held" a1) [.NotEq] [.Constant (.str "") i1 a2] a3)
      [.Assign [.Name "told" b1] (.Call (.Name "_splitlines_no_ff" b2) [.Name "held" b3] [⟨some "maxlines", .Constant (.int 2) i2 b4, b5⟩] b6) b7,
       .If (.BoolOp .Or [.Compare (.Call (.Name "len" p1) [.Name "told" p2] [] p3) [.NotEq] [.Constant (.int 2) k1 p4] p5,
         .Compare (.Subscript (.Name "told" p6) (.Constant (.int 0) k2 p7) p8) [.Eq] [.Constant (.str "") k3 p9] p10,
         .Compare (.Subscript (.Name "told" p11) (.Slice (some (.Constant (.int 1) k4 p12)) none none p13) p14) [.NotEq]
           [.Subscript (.Call (.Name "_splitlines_no_ff" p15) [.Subscript (.Name "held" p16) (.Slice (some (.Call (.Name "len" p17) [.Subscript (.Name "told" p18) (.Constant (.int 0) k5 p19) p20] [] p21)) none none p22) p23] [⟨some "maxlines", .Constant (.int 2) k6 p24, p25⟩] p26)
             (.Slice none (some (.Constant (.int 1) k7 p27)) none p28) p29] p30] p31) [.Return (some (.Constant (.bool false) i3 c1)) c2] [] c3,
       .If (.BoolOp .And [.Compare (.Subscript (.Name "told" q1) (.Constant (.int 0) j1 q2) q3) [.Eq] [.Name "held" q4] q5,
         .Compare (.Subscript (.Name "held" q6) (.UnaryOp .USub (.Constant (.int 1) j2 q7) q8) q9) [.NotEq] [.Constant (.str "\n") j3 q10] q11] q12) [.Break d1] [] d2,
       .Expr (.Call (.Attribute (.Name "given" e1) "append" e2) [.Subscript (.Name "told" e3) (.Constant (.int 0) i4 e4) e5] [] e6) e7,
       .Assign [.Name "held" f1] (.Subscript (.Name "held" f2) (.Slice (some (.Call (.Name "len" f3) [.Subscript (.Name "told" f4) (.Constant (.int 0) i5 f5) f6] [] f7)) none none f8) f9) f10] [] a4)] [] x4) env) Q E { base with heap := h, toks := tk } := by
  have hLn : ∀ b o, base.heap.get? b = some o → b ≠ env.locals ∧ b ≠ G := fun b o e => ⟨get?_ne e hLb, get?_ne e hGb⟩
  refine wpC_For (wpC_of_any (any1 (eval_zip (text := ⟨T⟩) V (Tp.up up) hh hc hn hcuts hDe hy (by show T.size ≤ _; omega) hle hb fun h₁ tk₁ I fp wr Pt St Mid W hSt hPt hfp hfz u₁ hIt => ?_)))
  dsimp only at hfp hfz u₁ hIt ⊢
  have hPt : ∀ i vals, Pt i vals → ∃ ta tb, vals = #[.int (cutAt ks T.size i) ta, .int (cutAt ks T.size (i + 1)) tb] := hPt
  refine wpC_of_any (any1 (hIt _ _ ?_))
  have hwr : ∀ b o, h.get? b = some o → b ∉ wr := fun b o e hm => hfp b o e (W.sub b hm)
  obtain ⟨oL, _, _, hoL, _⟩ := id hn
  have fL := hfp _ _ hoL
  have fG := let ⟨_, e⟩ := hG; hfp _ _ e
  have fc := let ⟨_, e, _⟩ := hc; hfp _ _ e
  have fR := let ⟨_, e⟩ := hR; hfp _ _ e
  have wL := hwr _ _ hoL
  have wG := let ⟨_, e⟩ := hG; hwr _ _ e
  have wc := let ⟨_, e, _⟩ := hc; hwr _ _ e
  have wR := let ⟨_, e⟩ := hR; hwr _ _ e
  refine codeC_forLoop (fun k s' => ∃ h' tk' m' i p gs g t, s' = { base with heap := h', toks := tk' } ∧ i ≤ ks.length + 1 ∧ p ≤ cutAt ks T.size i ∧ Up base.heap h' ∧ h'.Ns env.locals m' ∧ m' "held" = some (.str ⟨T.extract p (cutAt ks T.size i)⟩ t) ∧ m' "given" = some (.ref G) ∧ m' "rows" = some (.ref R) ∧ LinesAt h' R rs ∧ h'.IsCell c (some (.str ⟨T⟩ u)) ∧
    LinesAt h' G gs ∧ StrsAre gs.toList g ∧ g ++ rowsFrom T p = rowsFrom T 0 ∧ St i h' ∧ k = ks.length + 2 - i) ?_ (ks.length + 2)
    ⟨h₁, _, m, 0, 0, #[], [], t, rfl, Nat.zero_le _, Nat.zero_le _, up.trans u₁, hn.keeps u₁, ?_, hgiven, hrows, hR.up u₁, IsCell.up hc u₁, hG.up u₁, .nil, rfl, hSt, rfl⟩
  · rintro k s' ⟨h', tk', m', i, p, gs, g, t, rfl, hi, hp, up', hn', hH', hg', hr', hR', hc', hG', hgs, hgr, hSt', rfl⟩
    by_cases hlt : i < ks.length + 1
    · obtain ⟨hc1, hc2⟩ := cut_step (n := T.size) hb hpw hlt
      refine wpC_of_any (any1 (W.item i _ _ _ hlt hSt' fun Tt vals h₂ tk₂ hv hT hTup hMid hk₂ => ?_))
      obtain ⟨ta, tb, rfl⟩ := hPt i vals hv
      dsimp only at hT hk₂ ⊢
      refine wpC_of_any (any1 (W.go _ _ _ i Tt _ _ _ hMid fun h₃ hSt₃ hk₃ => ?_))
      dsimp only at hk₃ ⊢
      have hTw : Tt ∉ wr := W.apart _ _ _ hMid
      have hTup₃ := let ⟨o, ho, r⟩ := hTup; (⟨o, hk₃ _ _ hTw ho, r⟩ : h₃.IsTuple Tt _)
      have k₃ : ∀ b o, b ∉ wr → h'.get? b = some o → h₃.get? b = some o := fun b o hw e => hk₃ b o hw (hk₂ b o hw e)
      have hn₃ : h₃.Ns env.locals m' := hn'.at' fun o e => k₃ _ _ wL e
      refine wpC_of_any (any1 (kcp_assign hh hTup₃ V.start V.stop V.stores hn₃ fun h₄ tk₄ hn₄ hk₄ => ?_))
      dsimp only at hk₄ ⊢
      have k₄ : ∀ b o, b ∉ wr → b ≠ env.locals → h'.get? b = some o → h₄.get? b = some o := fun b o hw hb e => hk₄ b o hb (k₃ b o hw e)
      have hm1 : (fun z : Str => if z = "stop" then some (Value.int (cutAt ks T.size (i + 1)) tb) else if z = "start" then some (Value.int (cutAt ks T.size i) ta) else m' z) "start" = some (.int (cutAt ks T.size i) ta) := by
        show (if _ then _ else _) = _; rw [if_neg (by decide), if_pos rfl]
      have hm2 : (fun z : Str => if z = "stop" then some (Value.int (cutAt ks T.size (i + 1)) tb) else if z = "start" then some (Value.int (cutAt ks T.size i) ta) else m' z) "stop" = some (.int (cutAt ks T.size (i + 1)) tb) := by
        show (if _ then _ else _) = _; rw [if_pos rfl]
      have hm3 : ∀ z : Str, z ≠ "stop" → z ≠ "start" → (fun z : Str => if z = "stop" then some (Value.int (cutAt ks T.size (i + 1)) tb) else if z = "start" then some (Value.int (cutAt ks T.size i) ta) else m' z) z = m' z := fun z h1 h2 => by
        show (if _ then _ else _) = _; rw [if_neg h1, if_neg h2]
      generalize (fun z : Str => if z = "stop" then some (Value.int (cutAt ks T.size (i + 1)) tb) else if z = "start" then some (Value.int (cutAt ks T.size i) ta) else m' z) = m₄ at *
      have hH₄ : m₄ "held" = _ := (hm3 _ (by decide) (by decide)).trans hH'
      have hc₄ : h₄.IsCell c (some (.str ⟨T⟩ u)) := let ⟨o, e, d⟩ := hc'; ⟨o, k₄ c o wc hcL e, d⟩
      -- held += text[start:stop]
      refine wpC_execs_cons (wpC_of_any (any1 (wpAny_AugAssign_Name (wpAny_loadName_local V.fn V.held hn₄ hH₄ ?_))))
      refine eval_slice_ss (x := ⟨T⟩) (by show T.size ≤ _; rw [sizeLine_eq]; omega) (fun Q' h => eval_cell V.fn V.text V.cell hc₄ h) (i := cutAt ks T.size i) (ui := ta) (fun Q' h => eval_local V.fn V.start hn₄ hm1 (h _)) (j := cutAt ks T.size (i + 1)) (uj := tb) (fun tk Q' h => eval_local V.fn V.stop (m := m₄) hn₄ hm2 (h tk)) fun h₅ t₅ k₅ u₅ => ?_
      rw [slice_nat]
      dsimp only at u₅ ⊢
      refine SB.iadd (fun t₆ tk₆ => ?_) ?_
      · rw [cat_ext hp hc1 hc2]
        refine wpAny_storeName_local V.held (m := m₄) (hn₄.keeps u₅) (fun h₇ hn₇ hs₇ => ?_) V.stores
        dsimp only at hs₇ ⊢
        have k₇ : ∀ b o, b ∉ wr → b ≠ env.locals → h'.get? b = some o → h₇.get? b = some o := fun b o hw hb e => hs₇.extBut b o hb (u₅ _ _ (k₄ b o hw hb e))
        have up₇ : Up base.heap h₇ := fun b o e => k₇ b o (hwr b o (up b o e)) (hLn b o e).1 (up' b o e)
        have hG₇ : LinesAt h₇ G gs := let ⟨n, e⟩ := hG'; ⟨n, k₇ G _ wG hGL e⟩
        refine wpC_execs_cons (while_exec (p := p) (stop := cutAt ks T.size (i + 1)) (gs := gs) (g := g) V Tp hS up₇ hLb hGb hGL hh hroom hu hn₇ (by show (if _ then _ else _) = _; rw [if_pos rfl]) (by show (if _ then _ else _) = _; rw [if_neg (by decide), hm3 _ (by decide) (by decide)]; exact hg') hG₇ hgs hgr (Nat.le_trans hp hc1) hc2 hTs hok hline hsw ?_)
        intro h₈ tk₈ m₈ p₈ gs₈ g₈ t₈ hp₈ hn₈ hH₈ hm₈ hG₈ hgs₈ hgr₈ k₈
        have mm : ∀ z : Str, z ≠ "held" → z ≠ "told" → z ≠ "stop" → z ≠ "start" → m₈ z = m' z := fun z h1 h2 h3 h4 => by
          rw [hm₈ z h1 h2]; show (if _ then _ else _) = _; rw [if_neg h1]; exact hm3 z h3 h4
        have kk : ∀ b o, b ∉ wr → b ≠ env.locals → b ≠ G → h'.get? b = some o → h₈.get? b = some o := fun b o hw hb hb' e => k₈ b o hb hb' (k₇ b o hw hb e)
        refine wpC_execs_nil ⟨ks.length + 2 - (i + 1), by omega, h₈, _, m₈, i + 1, p₈, gs₈, g₈, t₈, rfl, hlt, hp₈, fun b o e => k₈ b o (hLn b o e).1 (hLn b o e).2 (up₇ b o e), hn₈, hH₈, (mm _ (by decide) (by decide) (by decide) (by decide)).trans hg', (mm _ (by decide) (by decide) (by decide) (by decide)).trans hr',
          (let ⟨n, e⟩ := hR'; ⟨n, kk R _ wR hRL hRG e⟩), (let ⟨o, e, d⟩ := hc'; ⟨o, kk c o wc hcL hcG e, d⟩), hG₈, hgs₈, hgr₈, ?_, rfl⟩
        refine W.frame _ _ _ hSt₃ fun b hb o e => ?_
        have h1 : b ≠ env.locals := fun x => fL (x ▸ hb)
        have h2 : b ≠ G := fun x => fG (x ▸ hb)
        exact k₈ b o h1 h2 (hs₇.extBut b o h1 (u₅ _ _ (hk₄ b o h1 e)))
      · show (T.extract p (cutAt ks T.size i)).size + (T.extract (cutAt ks T.size i) (cutAt ks T.size (i + 1))).size ≤ _
        rw [sizeLine_eq]; simp; omega
    · have hin : i = ks.length + 1 := by omega
      subst hin
      rw [cut_last] at hH' hp
      refine wpC_of_any (any1 (W.done _ _ _ hSt' fun h₂ tk₂ hk₂ => ?_))
      exact hQ h₂ _ m' p gs g t hp (fun b o e => hk₂ b o (hwr b o (up b o e)) (up' b o e)) (hn'.at' fun o e => hk₂ _ _ wL e) hH' hg' hr' (let ⟨n, e⟩ := hR'; ⟨n, hk₂ _ _ wR e⟩) (let ⟨n, e⟩ := hG'; ⟨n, hk₂ _ _ wG e⟩) hgs hgr
  · rw [cut_zero, hheld]
    have : T.extract 0 0 = #[] := by apply Array.eq_empty_of_size_eq_zero; simp
    rw [this]; rfl
end
end Mine
end
section
open PySem PySem.W PyProof.Rows
set_option maxRecDepth 100000
set_option maxHeartbeats 2000000
namespace Mine
theorem strs_append : ∀ {vs ws : List Value} {xs ys : List Str}, StrsAre vs xs → StrsAre ws ys → StrsAre (vs ++ ws) (xs ++ ys)
  | _, _, _, _, .nil, h => h
  | _, _, _, _, .cons a t r, h => .cons a t (strs_append r h)
theorem start_ok (k : Nat) : PyData.strOk ⟨(List.replicate k 97 ++ [13, 10, 12, 11, 13]).toArray⟩ = true := by
  unfold PyData.strOk
  show Array.all (List.replicate k 97 ++ [13, 10, 12, 11, 13]).toArray _ = true
  rw [Array.all_eq_true_iff_forall_mem]
  intro x hx
  rw [List.mem_toArray, List.mem_append] at hx
  rcases hx with hx | hx
  · rw [(List.mem_replicate.mp hx).2]; decide
  · have : x = 13 ∨ x = 10 ∨ x = 12 ∨ x = 11 ∨ x = 13 := by simpa using hx
    rcases this with rfl | rfl | rfl | rfl | rfl <;> decide
section
variable {prog : Program} {w : World} {A : Around} {E : Value → Shared → Prop} {s : Shared} {env : Env}

/-- a call of the function, with no bound -/
theorem eval_split6 {p1 p2 p3 : Pos} {base : Heap} {c f : Addr} {text : Str} {u : Tok} {m : Str → Option Value} {Q : Value → Shared → Prop} (V : Env6 env c) (T : Top6 s.heap env f) (hS : SplitAt prog w base f) (up : Up base s.heap)
    (hn : s.heap.Ns env.locals m) (hm : m "held" = some (.str text u)) (hh : A.handled = none) (hroom : A.depth < recursionLimit) (hu : A.units + 50 < cLine) (hsz : text.length + 100 ≤ sizeLine)
    (hQ : ∀ h' tk D its, LinesAt h' D its → StrsAre its.toList (rowsFrom text.cps 0) → Up s.heap h' → Q (.ref D) { s with heap := h', toks := tk }) :
    wpC (M1 prog w) A (eval (.Call (.Name "_splitlines_no_ff" p1) [.Name "held" p2] [] p3) env) Q E s := by
  obtain ⟨mg, hg, hf, _⟩ := T.glob
  obtain ⟨⟨o, fd, ho, hd⟩, hS⟩ := hS
  refine wpC_Call_Name (wpC_of_any (any1 (Calls.Name_function_global V.fn V.split (Calls.loadGlobal_global hg hf ?_))))
  refine wpC_callWith_function (o := o) (fd := fd) (wpC_of_any (any1 (Calls.evalArgs_plain (Calls.spliced_cons (eval_local V.fn V.held hn hm (Calls.spliced_nil ⟨⟨up _ _ ho, hd⟩, ?_⟩))))))
  refine wpC_call (hS A s text u [] none _ up hh hroom hu hsz rfl fun h' tk D a b c => ?_)
  obtain ⟨its, b1, b2⟩ := b
  exact hQ h' tk D its b1 b2 c

theorem body6 {s1p1 s1p2 s1p3 s1p4 s1p5 s1p6 s1p7 s1p8 s1p9 s1p10 s1p11 s1p12 s1p13 s1p14 s1p15 s1p16 s1p17 s1p18 s1p19 s1p20 s1p21 s2q1 s2q2 s2q3 s2q4 s2q5 s2p1 s2p2 s2p3 s2p4 s2p5 s2p6 s2p7 s2a1 s2a2 s2a3 s2a4 s2a5 s2a6 s2a7 s2a8 s2a9 s2a10 s2a11 s2a12 s2a13 s2a14 s2a15 s2a16 s2a17 s2a18 s2a19 s2b1 s2b2 s2b3 s2b4 s2b5 s2b6 s2c1 s2c2 s2c3 s2c4 s2c5 s2c6 s2d1 s2d2 s2d3 s2d4 s2d5 s2d6 s2d7 s2d8 s2d9 s2d10 s2q6 s3p1 s3p2 s3p3 s3p4 s3p5 s3p6 s4p1 s4p2 s4p3 s4p4 s4p5 s4p6 s4p7 s4p8 s4p9 s4p10 s4p11 s4p12 s5p1 s5p2 s5p3 s5p4 s5p5 s5p6 s5p7 s5p8 s5p9 s5p10 s5p11 s5p12 s5p13 s5p14 s5p15 s5p16 s5p17 s5p18 s5p19 s6p1 s6p2 s6p3 s6p4 s6p5 s6p6 s6p7 s7x1 s7x2 s7x3 s7z1 s7z2 s7z3 s7z4 s7z5 s7z6 s7z7 s7z8 s7z9 s7z10 s7z11 s7z12 s7g1 s7g2 s7g3 s7g4 s7g5 s7g6 s7g7 s7a1 s7a2 s7a3 s7b1 s7b2 s7b3 s7b4 s7b5 s7b6 s7b7 s7p1 s7p2 s7p3 s7p4 s7p5 s7p6 s7p7 s7p8 s7p9 s7p10 s7p11 s7p12 s7p13 s7p14 s7p15 s7p16 s7p17 s7p18 s7p19 s7p20 s7p21 s7p22 s7p23 s7p24 s7p25 s7p26 s7p27 s7p28 s7p29 s7p30 s7p31 s7c1 s7c2 s7c3 s7q1 s7q2 s7q3 s7q4 s7q5 s7q6 s7q7 s7q8 s7q9 s7q10 s7q11 s7q12 s7d1 s7d2 s7e1 s7e2 s7e3 s7e4 s7e5 s7e6 s7e7 s7f1 s7f2 s7f3 s7f4 s7f5 s7f6 s7f7 s7f8 s7f9 s7f10 s7a4 s7x4 s8p1 s8p2 s8p3 s8p4 s8p5 s8p6 s8p7 s8p8 : Pos} {s1k1 s1k2 s1k3 s1k4 s1k5 s1k6 s1k7 s1k8 s1k9 s2k0 s2k1 s2k2 s2i1 s2i2 s2i3 s2i4 s2i5 s2i6 s2j1 s2j2 s2j3 s2j4 s3k1 s4k91 s4k92 s4k93 s5k1 s5k2 s5k3 s6k1 s6k2 s6k3 s7l2 s7l1 s7i1 s7i2 s7k1 s7k2 s7k3 s7k4 s7k5 s7k6 s7k7 s7i3 s7j1 s7j2 s7j3 s7i4 s7i5 : Nat}
    {base : Shared} {c f sl : Addr} {m : Str → Option Value} {zs : Array Value} {xs : List Int} {h : Heap} {tk : Nat} {Q : Flow → Shared → Prop}
    (V : Env6 env c) (Tp : Top6 base.heap env f) (hS : SplitAt prog w base.heap f) (up : Up base.heap h) (hLb : base.heap.get? env.locals = none) (hcb : base.heap.get? c = none) (hcL : c ≠ env.locals)
    (hh : A.handled = none) (hroom : A.depth < recursionLimit) (hu : A.units + 70 < cLine)
    (hn : h.Ns env.locals m) (hs : m "script" = some (.ref sl)) (hl : base.heap.IsList sl zs) (hz : IntsAre zs.toList xs) (hzs : zs.size ≤ 100000) (hc : h.IsCell c none)
    (hline2 : (s2d5.endLine == s2d7.line) = true)
    (hsw2 : swapsWith (.Call (.Attribute (.Name "rows" s2d4) "append" s2d5) [.Constant (.str "") s2j4 s2d6] [] s2d7) none s2d8.line env = pure false)
    (hline3 : (s3p3.endLine == s3p5.line) = true)
    (hline4 : (s4p8.endLine == s4p10.line) = true)
    (hsw4 : swapsWith (.Call (.Attribute (.Name "rows" s4p7) "append" s4p8) [.Constant (.str "") s4k93 s4p9] [] s4p10) none s4p11.line env = pure false)
    (hclos5 : closureFor cutScope env = pure [(("text" : Str), c)])
    (hw6 : swappedStores [.Tuple [.Name "held" s6p1, .Name "given" s6p2] s6k1 s6p3] (.Tuple [.Constant (.str "") s6k2 s6p4, .List [] s6p5] s6k3 s6p6) env = pure (some [("held" : Str), "given"]))
    (hline7 : (s7e2.endLine == s7e6.line) = true)
    (hsw7 : swapsWith (.Call (.Attribute (.Name "given" s7e1) "append" s7e2) [.Subscript (.Name "told" s7e3) (.Constant (.int 0) s7i4 s7e4) s7e5] [] s7e6) none s7e7.line env = pure false)
    (hQ : ∀ h' tk', Up base.heap h' → Q (.ret (.bool true)) { base with heap := h', toks := tk' }) :
    wpC (M1 prog w) A (execs [.Assign [.Name "rows" s1p1] (.List [.BinOp (.BinOp (.Constant (.str "a") s1k1 s1p2) .Mult (.BinOp (.Constant (.int 64) s1k2 s1p3) .Add
      (.BinOp (.BinOp (.Subscript (.BinOp (.Name "script" s1p4) .Add (.List [.Constant (.int 0) s1k3 s1p5] s1p6) s1p7) (.Constant (.int 0) s1k4 s1p8) s1p9) .FloorDiv (.Constant (.int 10) s1k5 s1p10) s1p11) .Mod (.Constant (.int 64) s1k6 s1p12) s1p13) s1p14) s1p15)
      .Add (.Constant (.str "\r\n") s1k7 s1p16) s1p17, .Constant (.str "\u000c\u000b\r") s1k8 s1p18, .Constant (.str "") s1k9 s1p19] s1p20) s1p21,
      .For (.Name "x" s2q1) (.Subscript (.Name "script" s2q2) (.Slice none (some (.Constant (.int 40) s2k0 s2q3)) none s2q4) s2q5)
     [.Assign [.Name "sign" s2p1] (.Subscript (.Constant (.str "\n\r\n\ra\u000c\u0085\u2028 \u000b") s2k1 s2p2) (.BinOp (.Name "x" s2p3) .Mod (.Constant (.int 10) s2k2 s2p4) s2p5) s2p6) s2p7,
      .If (.BoolOp .And [.Compare (.Name "sign" s2a1) [.Eq] [.Constant (.str "\n") s2i1 s2a2] s2a3,
      .Compare (.Subscript (.Name "rows" s2a4) (.UnaryOp .USub (.Constant (.int 1) s2i2 s2a5) s2a6) s2a7) [.Eq] [.Constant (.str "") s2i3 s2a8] s2a9,
      .Compare (.Subscript (.Subscript (.Name "rows" s2a10) (.UnaryOp .USub (.Constant (.int 2) s2i4 s2a11) s2a12) s2a13) (.UnaryOp .USub (.Constant (.int 1) s2i5 s2a14) s2a15) s2a16) [.Eq] [.Constant (.str "\r") s2i6 s2a17] s2a18] s2a19)
      [.AugAssign (.Subscript (.Name "rows" s2b1) (.UnaryOp .USub (.Constant (.int 2) s2j1 s2b2) s2b3) s2b4) .Add (.Name "sign" s2b5) s2b6]
      [.AugAssign (.Subscript (.Name "rows" s2c1) (.UnaryOp .USub (.Constant (.int 1) s2j2 s2c2) s2c3) s2c4) .Add (.Name "sign" s2c5) s2c6,
        .If (.Compare (.Name "sign" s2d1) [.In] [.Constant (.str "\r\n") s2j3 s2d2] s2d3) [.Expr (.Call (.Attribute (.Name "rows" s2d4) "append" s2d5) [.Constant (.str "") s2j4 s2d6] [] s2d7) s2d8] [] s2d9] s2d10] [] s2q6,
      .Assign [.Name "text" s3p1] (.Call (.Attribute (.Constant (.str "") s3k1 s3p2) "join" s3p3) [.Name "rows" s3p4] [] s3p5) s3p6,
      .If (.Compare (.Subscript (.Name "rows" s4p1) (.UnaryOp .USub (.Constant (.int 1) s4k91 s4p2) s4p3) s4p4) [.NotEq] [.Constant (.str "") s4k92 s4p5] s4p6) [.Expr (.Call (.Attribute (.Name "rows" s4p7) "append" s4p8) [.Constant (.str "") s4k93 s4p9] [] s4p10) s4p11] [] s4p12,
      .Assign [.Name "cuts" s5p1] (.Call (.Name "sorted" s5p2) [.ListComp (.BinOp (.BinOp (.Name "x" s5p3) .FloorDiv (.Constant (.int 10) s5k1 s5p4) s5p5) .Mod (.BinOp (.Call (.Name "len" s5p6) [.Name "text" s5p7] [] s5p8) .Add (.Constant (.int 1) s5k2 s5p9) s5p10) s5p11)
      [⟨.Name "x" s5p12, .Subscript (.Name "script" s5p13) (.Slice none (some (.Constant (.int 3) s5k3 s5p14)) none s5p15) s5p16, [], 0⟩] cutScope s5p17] [] s5p18) s5p19,
      .Assign [.Tuple [.Name "held" s6p1, .Name "given" s6p2] s6k1 s6p3] (.Tuple [.Constant (.str "") s6k2 s6p4, .List [] s6p5] s6k3 s6p6) s6p7,
      .For (.Tuple [.Name "start" s7x1, .Name "stop" s7x2] s7l2 s7x3) (.Call (.Name "zip" s7z1) [.BinOp (.List [.Constant (.int 0) s7l1 s7z2] s7z3) .Add (.Name "cuts" s7z4) s7z5, .BinOp (.Name "cuts" s7z6) .Add (.List [.Call (.Name "len" s7z7) [.Name "text" s7z8] [] s7z9] s7z10) s7z11] [] s7z12)
     [.AugAssign (.Name "held" s7g1) .Add (.Subscript (.Name "text" s7g2) (.Slice (some (.Name "start" s7g3)) (some (.Name "stop" s7g4)) none s7g5) s7g6) s7g7,
      (.While (.Compare (.Name "held" s7a1) [.NotEq] [.Constant (.str "") s7i1 s7a2] s7a3)
      [.Assign [.Name "told" s7b1] (.Call (.Name "_splitlines_no_ff" s7b2) [.Name "held" s7b3] [⟨some "maxlines", .Constant (.int 2) s7i2 s7b4, s7b5⟩] s7b6) s7b7,
       .If (.BoolOp .Or [.Compare (.Call (.Name "len" s7p1) [.Name "told" s7p2] [] s7p3) [.NotEq] [.Constant (.int 2) s7k1 s7p4] s7p5,
         .Compare (.Subscript (.Name "told" s7p6) (.Constant (.int 0) s7k2 s7p7) s7p8) [.Eq] [.Constant (.str "") s7k3 s7p9] s7p10,
         .Compare (.Subscript (.Name "told" s7p11) (.Slice (some (.Constant (.int 1) s7k4 s7p12)) none none s7p13) s7p14) [.NotEq]
           [.Subscript (.Call (.Name "_splitlines_no_ff" s7p15) [.Subscript (.Name "held" s7p16) (.Slice (some (.Call (.Name "len" s7p17) [.Subscript (.Name "told" s7p18) (.Constant (.int 0) s7k5 s7p19) s7p20] [] s7p21)) none none s7p22) s7p23] [⟨some "maxlines", .Constant (.int 2) s7k6 s7p24, s7p25⟩] s7p26)
             (.Slice none (some (.Constant (.int 1) s7k7 s7p27)) none s7p28) s7p29] s7p30] s7p31) [.Return (some (.Constant (.bool false) s7i3 s7c1)) s7c2] [] s7c3,
       .If (.BoolOp .And [.Compare (.Subscript (.Name "told" s7q1) (.Constant (.int 0) s7j1 s7q2) s7q3) [.Eq] [.Name "held" s7q4] s7q5,
         .Compare (.Subscript (.Name "held" s7q6) (.UnaryOp .USub (.Constant (.int 1) s7j2 s7q7) s7q8) s7q9) [.NotEq] [.Constant (.str "\n") s7j3 s7q10] s7q11] s7q12) [.Break s7d1] [] s7d2,
       .Expr (.Call (.Attribute (.Name "given" s7e1) "append" s7e2) [.Subscript (.Name "told" s7e3) (.Constant (.int 0) s7i4 s7e4) s7e5] [] s7e6) s7e7,
       .Assign [.Name "held" s7f1] (.Subscript (.Name "held" s7f2) (.Slice (some (.Call (.Name "len" s7f3) [.Subscript (.Name "told" s7f4) (.Constant (.int 0) s7i5 s7f5) s7f6] [] s7f7)) none none s7f8) s7f9) s7f10] [] s7a4)] [] s7x4,
      .Return (some (.Compare (.BinOp (.Name "given" s8p1) .Add (.Call (.Name "_splitlines_no_ff" s8p2) [.Name "held" s8p3] [] s8p4) s8p5) [.Eq] [.Name "rows" s8p6] s8p7)) s8p8] env) Q E { base with heap := h, toks := tk } := by
  have lst : ∀ {h' : Heap}, Up base.heap h' → h'.IsList sl zs := fun u => let ⟨o, e, r⟩ := hl; ⟨o, u _ _ e, r⟩
  have hLn : ∀ b o, base.heap.get? b = some o → b ≠ env.locals := fun b o e => get?_ne e hLb
  have isL : ∀ {h' : Heap} {m' : Str → Option Value}, h'.Ns env.locals m' → ∃ o, h'.get? env.locals = some o := fun x => let ⟨o, _, _, e, _⟩ := x; ⟨o, e⟩
  -- rows = ..
  refine wpC_execs_cons (wpC_of_any (any1 (rows_exec V hn hs (lst up) hz hzs fun h₁ tk₁ R its k hR hL₁ hk hS₁ hn₁ b₁ => ?_)))
  dsimp only at hR b₁ ⊢
  have hRL : R ≠ env.locals := let ⟨_, e⟩ := isL hn; Ne.symm (get?_ne e hR)
  have hcR : c ≠ R := let ⟨_, e, _⟩ := hc; get?_ne e hR
  have hRb : base.heap.get? R = none := by
    cases e : base.heap.get? R with
    | none => rfl
    | some o => rw [up _ _ e] at hR; cases hR
  have up₁ : Up base.heap h₁ := fun b o e => b₁ b o (hLn b o e) (up b o e)
  obtain ⟨e1, e2⟩ := parts_start k
  rw [← e1] at hS₁
  -- the writer
  refine wpC_execs_cons (write_for V hh up₁ hLb hRb hn₁ (by show (if _ then _ else _) = _; rw [if_neg (by decide)]; exact hs) hl hz hzs (by show (if _ then _ else _) = _; rw [if_pos rfl]) hRL hcL hcR (b₁.cell hc hcL) hL₁ hS₁ e2 (by simp; omega) (start_ok k) hline2 hsw2 ?_)
  intro h₂ tk₂ m₂ its₂ T up₂ hn₂ hs₂ hr₂ hc₂ hR₂ hS₂ hT hsz hok
  -- text = ..
  refine wpC_execs_cons (wpC_of_any (any1 (text_exec V hn₂ hr₂ hR₂ hS₂ (by omega) hc₂ hline3 fun h₃ tk₃ t hc₃ hs₃ => ?_)))
  dsimp only at hs₃ ⊢
  have up₃ : Up base.heap h₃ := fun b o e => hs₃.extBut b o (get?_ne e hcb) (up₂ b o e)
  have hn₃ := hn₂.sameBut hs₃ (Ne.symm hcL)
  have hR₃ : LinesAt h₃ R its₂ := let ⟨n, e⟩ := hR₂; ⟨n, hs₃.extBut _ _ (Ne.symm hcR) e⟩
  -- if rows[-1] != '' ..
  refine wpC_execs_cons (wpC_of_any (any1 (shut_exec V hn₃ hr₂ hR₃ hS₂ (by omega) hline4 hsw4 fun h₄ tk₄ rs hR₄ hS₄ k₄ => ?_)))
  dsimp only at k₄ ⊢
  have up₄ : Up base.heap h₄ := fun b o e => k₄ b o (get?_ne e hRb) (up₃ b o e)
  have hn₄ : h₄.Ns env.locals m₂ := hn₃.at' fun o e => k₄ _ _ (Ne.symm hRL) e
  have hc₄ : h₄.IsCell c (some (.str ⟨T⟩ t)) := let ⟨o, e, d⟩ := hc₃; ⟨o, k₄ _ _ hcR e, d⟩
  -- cuts = ..
  refine wpC_execs_cons (wpC_of_any (any1 (cuts_exec (text := ⟨T⟩) V (Tp.up up₄) hh hc₄ hn₄ hs₂ (lst up₄) hz hzs (by show T.size ≤ _; omega) hclos5 fun h₅ tk₅ De ys ks hDe hL₅ hI₅ hlen hbnd hpw hn₅ b₅ => ?_)))
  dsimp only at hDe b₅ ⊢
  have hDL : De ≠ env.locals := let ⟨_, e⟩ := isL hn₄; Ne.symm (get?_ne e hDe)
  have up₅ : Up base.heap h₅ := fun b o e => b₅ b o (hLn b o e) (up₄ b o e)
  have hR₅ := b₅.lines hR₄ hRL
  have hc₅ := b₅.cell hc₄ hcL
  -- held, given = ..
  refine wpC_execs_cons (wpC_of_any (any1 (held_exec V hh hn₅ hw6 fun h₆ tk₆ G tg hG hL₆ hn₆ b₆ => ?_)))
  dsimp only at hG b₆ ⊢
  have hGL : G ≠ env.locals := let ⟨_, e⟩ := isL hn₅; Ne.symm (get?_ne e hG)
  have hRG : R ≠ G := let ⟨_, e⟩ := hR₅; get?_ne e hG
  have hcG : c ≠ G := let ⟨_, e, _⟩ := hc₅; get?_ne e hG
  have hGb : base.heap.get? G = none := by
    cases e : base.heap.get? G with
    | none => rfl
    | some o => rw [up₅ _ _ e] at hG; cases hG
  have up₆ : Up base.heap h₆ := fun b o e => b₆ b o (hLn b o e) (up₅ b o e)
  have hR₆ := b₆.lines hR₅ hRL
  have hc₆ := b₆.cell hc₅ hcL
  have hD₆ := b₆.lines hL₅ hDL
  -- the reader
  refine wpC_execs_cons (read_for (T := T) (u := t) (rs := rs) (G := G) (R := R) (De := De) (ys := ys) (ks := ks) V Tp hS up₆ hLb hGb hGL hRL hRG hcL hcG hh hroom hu hc₆ hn₆ (by show (if _ then _ else _) = _; rw [if_pos rfl]) (by show (if _ then _ else _) = _; rw [if_neg (by decide), if_pos rfl]) hL₆
    (by show (if _ then _ else _) = _; rw [if_neg (by decide), if_neg (by decide), if_neg (by decide)]; exact hr₂) hR₆ (by show (if _ then _ else _) = _; rw [if_neg (by decide), if_neg (by decide), if_pos rfl]) hD₆ hI₅ hlen hbnd hpw (by omega) hok hline7 hsw7 ?_)
  intro h₇ tk₇ m₇ p gs g t₇ hp up₇ hn₇ hH₇ hg₇ hr₇ hR₇ hG₇ hgs hgr
  -- return ..
  have hHs : (T.extract p T.size).size ≤ 10000 := by simp; omega
  refine wpC_execs_cons (wpC_Return_some (wpC_Compare1 (wpC_BinOp (wpC_of_any (any1 (eval_local V.fn V.given hn₇ hg₇ ?_))))))
  refine eval_split6 (m := m₇) (text := ⟨T.extract p T.size⟩) V (Tp.up up₇) hS up₇ hn₇ hH₇ hh hroom (by omega) (by show (T.extract p T.size).size + 100 ≤ _; rw [sizeLine_eq]; omega) fun h₈ tk₈ D its₈ hL₈ hS₈ u₈ => ?_
  dsimp only at u₈ ⊢
  have hlen8 : gs.size + its₈.size ≤ sizeLine := by
    have l1 := strs_length hgs
    have l2 := strs_length hS₈
    have l3 := congrArg List.length hgr
    have l4 := rowsFrom_length T 0 (Nat.zero_le _)
    have l5 := rowsFrom_length (T.extract p T.size) 0 (Nat.zero_le _)
    rw [List.length_append] at l3
    have l6 : its₈.size = (rowsFrom (T.extract p T.size) 0).length := by rw [← Array.length_toList]; exact l2
    rw [← Array.length_toList, l1, l6, sizeLine_eq]; omega
  refine wpC_of_any (any1 (add_isl (hG₇.up u₈).lst hL₈.lst hlen8 ?_))
  refine wpC_of_any (any1 (eval_local V.fn V.rows (m := m₇) ((hn₇.keeps u₈).push _) hr₇ ?_))
  have hcat : StrsAre (gs ++ its₈).toList (rowsFrom T 0) := by
    rw [Array.toList_append, ← hgr, ← rows_suffix T p hp]
    exact strs_append hgs hS₈
  refine wpC_of_any (any1 (eq_strs (ns := rowsFrom T 0) (ms := rowsFrom T 0) ⟨_, Heap.get?_push_size _ rfl, rfl, _, rfl⟩ ((hR₇.up u₈).up (.push _ _)).lst hcat hS₄ (rows_ok hok 0) (rows_ok hok 0) (by omega) ?_))
  simp only [decide_true]
  exact hQ _ _ ((up₇.trans u₈).trans (.push _ _))
end
end Mine
end
section
open PySem PySem.W PyProof.Rows
set_option maxRecDepth 100000
set_option maxHeartbeats 8000000
namespace Mine
def names6 : List (Str × NameKind) := [("script", .local), ("rows", .local), ("x", .local), ("sign", .local), ("text", .cell), ("cuts", .local), ("held", .local), ("given", .local), ("start", .local), ("stop", .local), ("told", .local), ("sorted", .globalImplicit), ("zip", .globalImplicit), ("len", .globalImplicit), ("_splitlines_no_ff", .globalImplicit)]
theorem lawEnv6 {name : Str} {scope : Scope} {L fa : Addr} {cd : Value} (hsc : scope.names = names6)
    (hk : scope.kind = .function) (hi : interactive (envOfC name scope L fa cd) = false) : Env6 (envOfC name scope L fa cd) (L + 1) := by
  have e : ∀ x, (envOfC name scope L fa cd).kindOf x = List.lookup x names6 := fun x => by
    show List.lookup x scope.names = _; rw [hsc]
  refine ⟨hk, (e _).trans rfl, (e _).trans rfl, (e _).trans rfl, (e _).trans rfl, (e _).trans rfl, ?_, (e _).trans rfl, (e _).trans rfl, (e _).trans rfl, (e _).trans rfl, (e _).trans rfl, (e _).trans rfl, (e _).trans rfl, (e _).trans rfl, (e _).trans rfl, (e _).trans rfl, ?_, ?_⟩
  · show List.lookup _ (cellsFrom (L + 1) scope.names []) = _
    rw [hsc]; rfl
  · show (scope.kind == .class || (scope.kind == .module && _)) = false
    rw [hk]; rfl
  · exact hi
theorem lawTop6 {w : World} {h : Heap} {p : Program} {loose : List Str} {mean : ExcName → Option Value} {mg mb : Str → Option Value} {name : Str} {scope : Scope} {L fa : Addr} {cd : Value}
    (X : (Mine.hd06.heap_39 w.params).In h) (T : Top p loose mean mg mb h) : Top6 h (envOfC name scope L fa cd) 44 := by
  have h3 := X 3 _ rfl
  have e : ∀ x, mg x = nsFind _ x := ns_of_get T.g h3 rfl
  refine ⟨⟨mg, T.g, ?_, ?_, ?_, ?_⟩, ⟨mb, T.b, ?_, ?_, ?_⟩⟩
  · rw [e]; kernel_rfl
  · rw [e]; kernel_rfl
  · rw [e]; kernel_rfl
  · rw [e]; kernel_rfl
  · rw [T.builtins _ (by decide)]; exact boot_len
  · rw [T.builtins _ (by decide)]; exact boot_zip
  · rw [T.builtins _ (by decide)]; first | exact boot_sorted | exact PyProof.Rows.boot_sorted | exact Calls.boot_sorted
theorem lay {p : Prop} (h : p) : Halt p := h
end Mine
end
section
open PySem PySem.W PyProof.Rows
set_option maxRecDepth 100000
set_option maxHeartbeats 8000000
namespace Mine
theorem walk06 {d kwd} (hdef : defOf Mine.hd06.view_39 PySem.Challenge.rw_dm0006_06.row.name = some (d, kwd)) : Walk1 Mine.hd06.view_39 [Str.ofString "_line_pattern", Str.ofString "_splitlines_no_ff"] (XL Mine.hd06.view_39 []) (Hook.says (kHook Mine.hd06.heap_39 [2, 3, 6, 11, 12, 35, 36, 37, 38, 40, 41, 43, 44, 45, 48, 49] (fun _ => by kernel_rfl))) PySem.Challenge.rw_dm0006_06.row.toRowW d kwd := by
  cases hdef
  k_fill
  intro w s₀ s₁ mg mb G Y fa o pm cd doc dV kV ho hd hcd hD hmg hg args vals as hpre hlay hrd hwl hlo
  have KX := kIn_of Y
  have X := (Ground.X G).1
  have V := (Ground.X G).2
  try w_nolog (first | (have GL := glob_more (Ground.glob G (by first | k_qdec | decide +kernel) (by first | k_qdec | decide +kernel)) V) | (have GL := glob_more (Ground.glob G (by decide +kernel)) V))
  refine Ground.open G ?_
  intro T B D TE TW
  try (refine guard_noD D (by decide +kernel) ?_; clear D)
  obtain ⟨_, _, M⟩ := bmod_of_top T
  have TA := at_of_top T
  try (obtain ⟨_, _, he, B0⟩ := based_of_top T rfl hmg ho hd; have he' : cd = _ := he; subst he'; clear he)
  clear hmg
  wrow_args hpre hlay hrd hwl hlo
  rename ¬ (_ : Int) < _ => hlen
  rename Heap.IsList _ _ _ => hLst
  rename IntsAre _ _ => hInts
  have kInts := lay hInts
  have kLst := lay hLst
  have kLen := lay hlen
  have K0 := below_caller (Top.heap T)
  have he := Dflts.none hD rfl; subst he; have he := Dflts.noKw hD; subst he
  refine codeC_call_cells (by decide) ho (fd_plain hd) (Top.nolimit T) hcd (BindsTo.of_eq rfl) (kinds_of (by kinds_ok)) (by decide) fun h₁ tk₁ cells F N0 X0 => ?_
  cells_open X0
  rename_i hcell
  show wpC _ _ (execs (_ :: _) _) _ _ _
  refine body6 (base := s₁) (c := s₁.heap.objs.size + 1) (f := 44) (lawEnv6 rfl rfl rfl) (lawTop6 KX T) (splitAt06 KX T) F.keep (fresh_of (Nat.le_refl _)) (fresh_of (Nat.le_succ _)) (Nat.succ_ne_self _) rfl ?c3 ?c4 F.ns rfl kLst (by simpa using hInts) ?c6 ⟨_, N0.get (.head _), hcell⟩ ?d1 ?d2 ?d3 ?d4 ?d5 ?d6 ?d7 ?d8 ?d9 ?c10
  case c3 => simp only [depth_deeper, depth_caller]; decide
  case c4 => exact Nat.le_of_ble_eq_true rfl
  case c6 => have h1 := hInts.length; have h2 : ¬ ((63 : Nat) : Int) < _ := kLen; rw [List.size_toArray]; omega
  case d1 => rfl
  case d2 => first | rfl | with_unfolding_all rfl
  case d3 => rfl
  case d4 => rfl
  case d5 => first | rfl | with_unfolding_all rfl
  case d6 => first | rfl | with_unfolding_all rfl
  case d7 => first | rfl | with_unfolding_all rfl
  case d8 => rfl
  case d9 => first | rfl | with_unfolding_all rfl
  case c10 =>
    intro h' tk' hup
    refine ⟨_, rfl, GoodW.toG ⟨.inl ⟨_, _, [], rfl, raisesW_false (by wrow_none_raised), readsW_of_reads (Reads.bool _), postW_of (by wrow_shape) (by wtm_val) (by w_fin), unshared_nil⟩, hup, rfl, hg⟩⟩
end Mine
end
open PySem PySem.W PyProof.Rows
namespace Mine
noncomputable abbrev H06 : Hook := kHook Mine.hd06.heap_39 [2, 3, 6, 11, 12, 35, 36, 37, 38, 40, 41, 43, 44, 45, 48, 49] (fun _ => by kernel_rfl)
end Mine
set_option maxRecDepth 100000 in
set_option maxHeartbeats 8000000 in
theorem PySem.Challenge.cw_dm0006_06_holds : PySem.Challenge.rw_dm0006_06.Holds := by
  w_on
  o_law
  refine Mine.head1 (q := Mine.hd06.view_39) (loose := [Str.ofString "_line_pattern", Str.ofString "_splitlines_no_ff"]) (Xt := fun s => xlAt Mine.hd06.view_39 [] s && recOk (RowW.records PySem.Challenge.rw_dm0006_06.row.toRowW) s) (XP := XL Mine.hd06.view_39 []) (Yf := Hook.obs Mine.H06) (Ya := Hook.val Mine.H06) (YP := Hook.says Mine.H06) (N := 1696) (fun w => by kernel_rfl) (Hook.of Mine.H06) (Hook.keeps Mine.H06) (fun s e => xl_of s (Bool.and_eq_true_iff.mp e).1) XL.keeps (by rfl) (by rfl) (by rfl) (fun s e => recFacts_of (Bool.and_eq_true_iff.mp e).2) (by rfl) (by assumption) (by decide +kernel) ⟨rfl, rfl, rfl, rfl, rfl, by decide +kernel⟩ ?hw ?hc
  case hw => w_witness2
  exact Mine.walk06 rfl
