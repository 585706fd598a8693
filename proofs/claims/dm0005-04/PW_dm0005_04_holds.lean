import PyProof.Rows.All
import Wide.All
import OpenK.AllK
import Wide.FinOn
import PySem.Challenge.RW_dm0005_04
set_option Elab.async false
set_option maxRecDepth 100000
set_option maxHeartbeats 8000000
namespace Mine
open PySem
/-- the question that the scanner asks of the collector -/
def isAsk : Args → Bool
  | ⟨[.int 13 _], []⟩ => true
  | _ => false
/-- the table's meaning, but for that question: it answers no at once -/
def denX : Code → Sem Fin
  | .builtin id args => if id = "gc.ask" ∧ isAsk args = true then ret (.bool false) else denote table (.builtin id args)
  | c => denote table c
/-- the model in which the question is answered at once -/
def MX (prog : Program) (w : World) : Model := ⟨denX, prog, w⟩
theorem den_builtin (id : String) (args : Args) : denote table (.builtin id args) = (match entryFor table id with | some b => b args | none => unsupported ((withoutEnding? id "#data").getD id)) := rfl
theorem ask_is (args : Args) : denote table (.builtin "gc.ask" args) = again (.builtin "lifetime.ask" args) := by
  have e : entryFor table "gc.ask" = some Builtin.«gc.ask» := entryFor_of_fast (by kernel_rfl)
  rw [den_builtin, e]
  rfl
theorem denX_at (id : String) (args : Args) : denX (.builtin id args) = (if id = "gc.ask" ∧ isAsk args = true then ret (.bool false) else denote table (.builtin id args)) := rfl
theorem ask_shape {args : Args} (h : isAsk args = true) : ∃ t, args = ⟨[.int 13 t], []⟩ := by
  unfold isAsk at h
  split at h
  · exact ⟨_, rfl⟩
  · cases h
theorem denX_cases (c : Code) : denX c = denote table c ∨ ∃ t, c = .builtin "gc.ask" ⟨[.int 13 t], []⟩ ∧ denX c = ret (.bool false) ∧ denote table c = again (.builtin "lifetime.ask" ⟨[.int 13 t], []⟩) := by
  cases c with
  | builtin id args =>
    by_cases h : id = "gc.ask" ∧ isAsk args = true
    · obtain ⟨t, rfl⟩ := ask_shape h.2
      obtain ⟨rfl, _⟩ := h
      refine .inr ⟨t, rfl, ?_, ask_is _⟩
      rw [denX_at, if_pos ⟨rfl, rfl⟩]
    · refine .inl ?_
      rw [denX_at, if_neg h]
  | _ => exact .inl rfl
theorem denX_builtin {id : String} (args : Args) (h : id ≠ "gc.ask") : denX (.builtin id args) = denote table (.builtin id args) := by
  rw [denX_at, if_neg fun x => h x.1]
theorem ask_loud (t : Tok) : (Code.builtin "lifetime.ask" ⟨[.int 13 t], []⟩).quiet = false := by
  simp [Code.quiet, Thread.loud, Thread.atCollectorCode, Thread.atExit, Thread.yieldsInsideHandler]
/-- a run of the model never passes the question -/
theorem den_same {prog : Program} {w : World} {Γ : Ctx} {p : Pos} {c : Code} {s : Shared} {e : End} {s' : Shared} (h : Runs (model prog w) Γ p ((model prog w).den c) [] s e s') : (model prog w).den c = (MX prog w).den c := by
  rcases denX_cases c with q | ⟨t, rfl, _, q⟩
  · exact q.symm
  · have h' : Runs (model prog w) Γ p (denote table (.builtin "gc.ask" ⟨[.int 13 t], []⟩)) [] s e s' := h
    rw [q] at h'
    cases h' with
    | again hq _ => rw [ask_loud] at hq; cases hq
theorem runs_lift {prog : Program} {w : World} {Γ : Ctx} {p : Pos} {t : Sem Fin} {fs : List Frame} {s : Shared} {e : End} {s' : Shared} (h : Runs (model prog w) Γ p t fs s e s') : Runs (MX prog w) Γ p t fs s e s' := by
  induction h with
  | done => exact .done
  | raise => exact .raise
  | again hq h ih => exact .again hq (den_same h ▸ ih)
  | rule _ ih => exact .rule ih
  | «at» _ ih => exact .at ih
  | load ho _ ih => exact .load ho ih
  | update ho _ ih => exact .update ho ih
  | loadIfAlive _ ih => exact .loadIfAlive ih
  | point _ ih => exact .point ih
  | alloc _ ih => exact .alloc ih
  | fresh _ ih => exact .fresh ih
  | ask _ ih => exact .ask ih
  | choose hn _ ih => exact .choose hn ih
  | os _ ih => exact .os ih
  | handled _ ih => exact .handled ih
  | genState hg _ ih => exact .genState hg ih
  | stack _ ih => exact .stack ih
  | thread _ ih => exact .thread ih
  | newGen _ ih => exact .newGen ih
  | call h _ ih ih' => exact .call (den_same h ▸ ih) ih'
  | callSusp h ih => exact .callSusp (den_same h ▸ ih)
  | yield => exact .yield
  | resumeFresh hg h hq _ ih ih' => exact .resumeFresh hg (den_same h ▸ ih) hq ih'
  | resumeSuspended hg _ hq _ ih ih' => exact .resumeSuspended hg ih hq ih'
  | resumeJustStarted hg hv _ ih => exact .resumeJustStarted hg hv ih
  | resumeThrowFresh hg _ ih => exact .resumeThrowFresh hg ih
  | resumeRunning hg _ ih => exact .resumeRunning hg ih
  | resumeFinished hg _ ih => exact .resumeFinished hg ih
  | segRet _ _ ih ih' => exact .segRet ih ih'
  | segGen _ _ ih ih' => exact .segGen ih ih'
  | segSuspOut hs _ ih => exact .segSuspOut hs ih
  | segSuspGen hs _ hq _ ih ih' => exact .segSuspGen hs ih hq ih'
theorem code_lift {prog : Program} {w : World} {Γ : Ctx} {R : Result → Shared → Prop} {p : Pos} {s : Shared} (h : wpCode (model prog w) Γ R p s) : wpCode (MX prog w) Γ R p s := by
  obtain ⟨r, s', hr, hR⟩ := h
  refine ⟨r, s', ?_, hR⟩
  have q := runs_lift hr
  rw [den_same hr] at q
  exact q
theorem wakes_lift {prog : Program} {w : World} {Γ : Ctx} {p : Pos} {g : Nat} {r : Resume} {s : Shared} {res : GenResult} {s' : Shared} (h : Wakes (model prog w) Γ p g r s res s') : Wakes (MX prog w) Γ p g r s res s' := by
  unfold Wakes at h ⊢
  cases hg : s.gens[g]? with
  | none => rw [hg] at h; exact h
  | some x =>
    rw [hg] at h
    cases x with
    | fresh c =>
      cases r with
      | send v =>
        cases v <;> first
          | (obtain ⟨e₁, s₁, h1, h2⟩ := h
             exact ⟨e₁, s₁, by have q := runs_lift h1; rw [den_same h1] at q; exact q, h2⟩)
          | exact h
      | throw x => exact h
    | suspended k₀ l₀ c₀ p₀ fs cl =>
      obtain ⟨e₁, s₁, h1, h2⟩ := h
      exact ⟨e₁, s₁, runs_lift h1, h2⟩
    | running => exact h
    | finished => exact h
theorem wp_lift {prog : Program} {w : World} {Γ : Ctx} {α : Type} (t : Sem α) {Q : α → Pos → Shared → Prop} {E : Value → Pos → Shared → Prop} {p : Pos} {s : Shared} (h : Sem.wp (model prog w) Γ t Q E p s) : Sem.wp (MX prog w) Γ t Q E p s := by
  induction t generalizing p s with
  | pure | raise | unsupported | finish | yield | fork | await | register => exact h
  | rule _ k ih | «at» _ k ih | alloc _ k ih | loadIfAlive _ k ih | point _ k ih | fresh k ih | ask k ih | os _ _ k ih | handled _ k ih | newGen _ k ih | stack k ih | thread k ih => exact ih _ h
  | load a _ k ih | genState a k ih => exact let ⟨o, ho, h⟩ := h; ⟨o, ho, ih _ h⟩
  | update a _ f k ih | choose _ _ k ih => exact ⟨h.1, ih _ h.2⟩
  | call c hd g l k ih => exact code_lift (wpCode_mono (fun r s' h' => ih r h') h)
  | resume g r l k ih => exact let ⟨res, s', hw, h'⟩ := h; ⟨res, s', wakes_lift hw, ih _ h'⟩
/-- what the library's logic shows holds in the other model too -/
theorem lift {prog : Program} {w : World} {A : Around} {α : Type} {t : Sem α} {Q : α → Shared → Prop} {E : Value → Shared → Prop} {s : Shared} (h : wpAny (model prog w) A t Q E s) : wpAny (MX prog w) A t Q E s :=
  fun Γ p hΓ => wp_lift t (h Γ p hΓ)
theorem liftCode {prog : Program} {w : World} {A : Around} {c : Code} {R : Result → Shared → Prop} {s : Shared} (h : codeAny (model prog w) A c R s) : codeAny (MX prog w) A c R s :=
  fun Γ p hc hΓ => code_lift (h Γ p hc hΓ)
end Mine
namespace Mine
open PySem
section
variable {prog : Program} {w : World}
/-- one step in the two meanings: the same, or the real one stands at the question -/
theorem step_two (s : Shared) (t : Thread) :
    step denX prog w s t = step (denote table) prog w s t ∨
    ∃ s₁ code p st k, step denX prog w s t = .go s₁ ⟨ret (.bool false), code, p, st⟩ ∧ step (denote table) prog w s t = .go s₁ ⟨.pure (.again (.builtin "lifetime.ask" ⟨[.int 13 k], []⟩)), code, p, st⟩ := by
  obtain ⟨heap, gens, drawn, toks, os⟩ := s
  obtain ⟨cur, code, pos, stack⟩ := t
  have put : ∀ (c : Code), (∃ s₁ st p, ∀ den : Code → Sem Fin, step den prog w ⟨heap, gens, drawn, toks, os⟩ ⟨cur, code, pos, stack⟩ = .go s₁ ⟨den c, c, p, st⟩) →
      step denX prog w ⟨heap, gens, drawn, toks, os⟩ ⟨cur, code, pos, stack⟩ = step (denote table) prog w ⟨heap, gens, drawn, toks, os⟩ ⟨cur, code, pos, stack⟩ ∨
      ∃ s₁ code' p st k, step denX prog w ⟨heap, gens, drawn, toks, os⟩ ⟨cur, code, pos, stack⟩ = .go s₁ ⟨ret (.bool false), code', p, st⟩ ∧ step (denote table) prog w ⟨heap, gens, drawn, toks, os⟩ ⟨cur, code, pos, stack⟩ = .go s₁ ⟨.pure (.again (.builtin "lifetime.ask" ⟨[.int 13 k], []⟩)), code', p, st⟩ := by
    rintro c ⟨s₁, st, p, e⟩
    rcases denX_cases c with q | ⟨k, _, q1, q2⟩
    · exact .inl (by rw [e, e, q])
    · exact .inr ⟨s₁, c, p, st, k, by rw [e, q1], by rw [e, q2]; rfl⟩
  cases cur with
  | pure fin =>
    cases fin with
    | done f => exact .inl rfl
    | again c => exact put c ⟨_, _, _, fun _ => rfl⟩
  | call c h g l k => exact put c ⟨_, _, _, fun _ => rfl⟩
  | resume g r l k =>
    cases hg : gens[g]? with
    | none => refine .inl ?_; simp only [step, hg]
    | some x =>
      cases x with
      | fresh c =>
        cases r with
        | send v =>
          cases v <;> first
            | (refine .inl ?_; simp only [step, hg]; done)
            | exact put c ⟨_, _, _, fun _ => by simp only [step, hg]; rfl⟩
        | throw e => refine .inl ?_; simp only [step, hg]
      | suspended => refine .inl ?_; simp only [step, hg]
      | running => refine .inl ?_; simp only [step, hg]
      | finished => refine .inl ?_; simp only [step, hg]
  | _ => exact .inl rfl
theorem ask_turn (others : List Value) {s : Shared} (hw : s.watching = false) (t : Thread) (k : Tok) : askTurn w.params others s t [.int 13 k] = (s, { t with cur := ret (.bool false) }) := by
  have h : ∀ b : Bool, b = true → ∀ {α : Type} {x y : α}, (if b then x else y) = x := fun b h _ _ _ => if_pos h
  refine h (!s.heap.life.gcEnabled || s.heap.life.thresholds.head? == some 0 || s.heap.life.collecting || !s.watching) ?_
  rw [hw]
  simp
theorem life_ask {s : Shared} (hz : s.asleep) (others : List Value) {t : Thread} {k : Tok} (ht : t.cur = .pure (.again (.builtin "lifetime.ask" ⟨[.int 13 k], []⟩))) :
    lifeStep (denote table) prog w others s t = .go s { t with cur := ret (.bool false) } := by
  obtain ⟨hr, hc⟩ := hz
  have hw : s.watching = false := by simp [Shared.watching, hr]
  obtain ⟨cur, code, pos, stack⟩ := t
  dsimp only at ht
  subst ht
  have h1 : Thread.special ⟨.pure (.again (.builtin "lifetime.ask" ⟨[.int 13 k], []⟩)), code, pos, stack⟩ = true := by simp [Thread.special, Thread.atCollectorCode]
  have h2 : collectorTurn? w.params others s ⟨.pure (.again (.builtin "lifetime.ask" ⟨[.int 13 k], []⟩)), code, pos, stack⟩ = some (s, ⟨ret (.bool false), code, pos, stack⟩) := by
    have e : collectorTurn? w.params others s ⟨.pure (.again (.builtin "lifetime.ask" ⟨[.int 13 k], []⟩)), code, pos, stack⟩ = some (askTurn w.params others s ⟨.pure (.again (.builtin "lifetime.ask" ⟨[.int 13 k], []⟩)), code, pos, stack⟩ [.int 13 k]) := rfl
    rw [e, ask_turn others hw]
  unfold lifeStep
  rw [if_pos h1]
  dsimp only
  rw [h2]
  dsimp only
  rw [hc]
  rfl
theorem run_ask {s : Shared} (hz : s.asleep) {t : Thread} {k : Tok} (ht : t.cur = .pure (.again (.builtin "lifetime.ask" ⟨[.int 13 k], []⟩))) :
    (Config.single s t).run (denote table) prog w 0 = .go (.single s { t with cur := ret (.bool false) }) := by
  have hl := fun others => life_ask (prog := prog) (w := w) hz others ht
  obtain ⟨cur, code, pos, stack⟩ := t
  dsimp only at ht
  subst ht
  have h1 : Thread.special ⟨.pure (.again (.builtin "lifetime.ask" ⟨[.int 13 k], []⟩)), code, pos, stack⟩ = true := by simp [Thread.special, Thread.atCollectorCode]
  have h2 : Thread.finalizes ⟨.pure (.again (.builtin "lifetime.ask" ⟨[.int 13 k], []⟩)), code, pos, stack⟩ = false := rfl
  show (match (if Thread.special ⟨.pure (.again (.builtin "lifetime.ask" ⟨[.int 13 k], []⟩)), code, pos, stack⟩ then Config.others ⟨s.entering #[.live ⟨.pure (.again (.builtin "lifetime.ask" ⟨[.int 13 k], []⟩)), code, pos, stack⟩] 0 0, #[.live ⟨.pure (.again (.builtin "lifetime.ask" ⟨[.int 13 k], []⟩)), code, pos, stack⟩], 0⟩ 0 else some []) with
    | none => _
    | some others => _) = _
  rw [if_pos h1, others_single]
  dsimp only
  rw [entering_same, h2, hl]
  simp [Config.single]
/-- the engine answers the question -/
theorem sstep_ask {s : Shared} (hz : s.asleep) {t : Thread} {k : Tok} (ht : t.cur = .pure (.again (.builtin "lifetime.ask" ⟨[.int 13 k], []⟩))) :
    sstep (denote table) prog w (.single s t) = .go (.single s { t with cur := ret (.bool false) }) := by
  have hrun := run_ask (prog := prog) (w := w) hz ht
  obtain ⟨hr, hc⟩ := hz
  have hw : s.watching = false := by simp [Shared.watching, hr]
  have h1 : (Config.single s t).collect? w.params = none := by
    simp [Config.collect?, Config.single, hw]
  have h2 : (Config.single s t).collectable = [] := by
    simp [Config.collectable, Config.single, hw]
  have h3 : ∀ pr, (Config.single s t).moves pr = [.run 0] := by
    intro pr
    have h : ∀ h i, Thread.moves h i t = [.run i] := fun h i => by unfold Thread.moves; rw [ht]
    simp [Config.moves, Config.single, movesFrom, h]
  have h4 : (Config.single s t).pick w = .ok (.run 0, .single s t) := by
    simp only [Config.pick, h1, h2, Config.pickThread, h3]
    cases w.params.lifetimes <;> rfl
  simp only [sstep, h4, Config.move]
  exact hrun
/-- so every calm run in the one meaning is a run of the engine in the other -/
theorem sim {o : Outcome} {s' : Shared} (ho : o.ends = true) : ∀ (n : Nat) (s : Shared) (t : Thread), s.asleep → runN denX prog w n s t = .halted o s' → (∀ k s₁ t₁, runN denX prog w k s t = .running s₁ t₁ → t₁.calm = true) →
    ∃ m, schedN (denote table) prog w m (.single s t) = .halted o s'
  | 0, _, _, _, h, _ => by cases h
  | n + 1, s, t, hz, h, hc => by
    have ht := hc 0 s t rfl
    have one := sstep_single (denote table) prog w s t ht hz
    rcases step_two (prog := prog) (w := w) s t with e | ⟨s₁, code, p, st, k, e1, e2⟩
    · simp only [runN, e] at h
      cases hs : step (denote table) prog w s t with
      | halt o₂ s₂ =>
        rw [hs] at h one
        injection h with h1 h2
        subst h1 h2
        refine ⟨1, ?_⟩
        rcases one with one | one
        · simp only [schedN, one]; rfl
        · injection one with h1 _
          subst h1
          cases ho
      | go s₂ t₂ =>
        rw [hs] at h one
        have hl := step_life (denote table) prog w s s₂ t t₂ hs
        obtain ⟨m, hm⟩ := sim ho n s₂ t₂ (Shared.asleep_of_life hl hz) h fun k s₃ t₃ hk => hc (k + 1) s₃ t₃ (by simp only [runN, e, hs]; exact hk)
        refine ⟨m + 1, ?_⟩
        rcases one with one | one
        · simp only [schedN, one]; exact hm
        · cases one
    · simp only [runN, e1] at h
      rw [e2] at one
      have hl := step_life (denote table) prog w s s₁ t _ e2
      have hz₁ := Shared.asleep_of_life hl hz
      obtain ⟨m, hm⟩ := sim ho n s₁ _ hz₁ h fun k s₃ t₃ hk => hc (k + 1) s₃ t₃ (by simp only [runN, e1]; exact hk)
      refine ⟨m + 1 + 1, ?_⟩
      rcases one with one | one
      · have two := sstep_ask (prog := prog) (w := w) hz₁ (t := ⟨.pure (.again (.builtin "lifetime.ask" ⟨[.int 13 k], []⟩)), code, p, st⟩) rfl
        have one' : sstep (denote table) prog w (.single s t) = .go (.single s₁ ⟨.pure (.again (.builtin "lifetime.ask" ⟨[.int 13 k], []⟩)), code, p, st⟩) := one
        simp only [schedN, one', two]
        exact hm
      · cases one
/-- a tree that ends well in the other model ends so in the engine -/
theorem ends_full {t : Sem Fin} {c : Code} {p : Pos} {s : Shared} {R : Result → Shared → Prop} (hreg : s.asleep)
    (h : Sem.wp (MX prog w) ⟨c, none, none, [], none⟩ t (Sem.finPost (MX prog w) ⟨c, none, none, [], none⟩ fun r s' => R r s' ∧ leftWithCleanup s'.gens = false)
      (fun e _ s' => R (.error e) s' ∧ leftWithCleanup s'.gens = false) p s) :
    ∃ m n r s' s'', schedN (denote table) prog w m (.single s ⟨t, c, p, []⟩) = .halted (outcomeOf r) s'' ∧ runN denX prog w n s ⟨t, c, p, []⟩ = .halted (outcomeOf r) s'' ∧ s''.forget = s'.forget ∧ R r s' := by
  obtain ⟨n, r, s', hn, hR⟩ := (wp_iff_halts (M := MX prog w) t R p s).mp h
  obtain ⟨s'', hr, hf, hc⟩ := runNI_real denX prog w hn (outcomeOf_ends r)
  obtain ⟨m, hm⟩ := sim (outcomeOf_ends r) n s _ hreg hr hc
  exact ⟨m, n, r, s', s'', hm, hr, hf, hR⟩
end
end Mine
namespace Mine
open PySem PySem.W PyProof.Rows PySem.Calls
/-- the walk that a law's head asks for, in the other model -/
abbrev WalkX (q : Program) (loose : List PySem.Str) (XP : (PySem.Str → Option Value) → Heap → Prop) (YP : World → Heap → Prop) (r : RowW) (d : DefRec) (kwd : List (PySem.Str × PySem.Expr)) : Prop :=
  ∀ (w : World) (s₀ s₁ : Shared) (mg mb : PySem.Str → Option Value), Ground q loose r.records XP w s₀ mg mb s₁.heap → YP w s₁.heap → ∀ (a : Addr) (o : Obj) (pm cd doc dV kV : Value), s₁.heap.get? a = some o →
    o.data = .func { docDef d.name d.params d.body d.scope pm cd doc with defaults := dV, kwdefaults := kV } → s₁.heap.CodeRec cd d.name → Dflts mg s₁.heap d.params kwd dV kV → mg d.name = some (.ref a) → s₁.gens = #[] →
    ∀ (args : List WData) (vals : List Value) (as : List Addr), r.claim.pre args = true → WData.layableAll args = true → ReadsAllW r.records (classAt s₀.heap) s₁.heap vals args as → WellAll w.params s₁.heap vals args → (∀ a ∈ as, (a == sysModules) = false) →
      wpAny (MX r.prog w) callerA (call (.ref a) vals) (fun v s' => GoodWG r.claim (classAt s₀.heap) (ExcName.means s₀.heap) args s₁ (.ok (.ret v)) s')
        (fun e s' => GoodWG r.claim (classAt s₀.heap) (ExcName.means s₀.heap) args s₁ (.error e) s') s₁
/-- a call's promise from what its tree does in the other model -/
theorem callFromX {c : ClaimW} {tree : List Value → Sem Fin} {w : World} {s : Shared} {free : Addr → Prop} {gens : Prop} {kept : Heap → Prop} (hz : s.asleep) (hg : s.gens = #[])
    (spec : ∀ args, c.pre args = true → WData.layableAll args = true → ∀ ord : List DictEntry → List DictEntry, (∀ l, (ord l).Perm l) →
      ∃ vs s₁, layAllW c.records (classAt s.heap) w.params ord args s = some (vs, s₁) ∧
        wpAny (MX c.prog w) callerA (tree vs) (fun fin s' => ∃ f, fin = .done f ∧ (c.Ends s args vs s₁ (.ok f) s' ∧ s'.os = s.os ∧ kept s'.heap) ∧ leftWithCleanup s'.gens = false)
          (fun e s' => (c.Ends s args vs s₁ (.error e) s' ∧ s'.os = s.os ∧ kept s'.heap) ∧ leftWithCleanup s'.gens = false) s₁) :
    c.CallFrom (fun vs => ⟨tree vs, .builtin "claim.caller" {}, default, []⟩) w free gens kept s := by
  intro args hpre hlay ord hord
  obtain ⟨vs, s₁, hl, hc⟩ := spec args hpre hlay ord hord
  have rest := layAllW_rest _ _ _ hl
  obtain ⟨m, n, r, s', s'', hm, hn, hf, ⟨he, ho, hk⟩⟩ := ends_full (prog := c.prog) (w := w) (R := fun r s' => c.Ends s args vs s₁ r s' ∧ s'.os = s.os ∧ kept s'.heap) (Shared.asleep_of_life rest.2.2.2 hz)
    (wp_of_wpAny_done (R := fun r s' => (c.Ends s args vs s₁ r s' ∧ s'.os = s.os ∧ kept s'.heap) ∧ leftWithCleanup s'.gens = false) caller_in hc default)
  obtain ⟨eh, _, _, eo, _⟩ := Shared.forget_eq hf
  have hlife : s''.heap.life = s.heap.life := (runN_life _ _ _ hn).trans rest.2.2.2
  have he := he.congr eh
  rw [← eo] at ho
  rw [← eh] at hk
  refine ⟨vs, s₁, hl, m, _, s'', hm, ?_, (fun _ i x hx => by rw [hg] at hx; simp at hx), hk, by rw [hlife], Shared.rest_eq ho⟩
  rcases he with ⟨v, rfl, a1, a2, a3, a4, a5⟩ | ⟨e, ob, cls, rfl, a1, a2, a3, a4, a5⟩
  · exact .inl ⟨v, rfl, a1, a2, a3, fun b o y _ => a4 b o y, a5⟩
  · exact .inr ⟨e, ob, cls, rfl, a1, a2, a3, a4, fun b o y _ => a5 b o y⟩
theorem headX {r : OpenRow} {q : Program} {loose : List PySem.Str} {Xt : Shared → Bool} {XP : (PySem.Str → Option Value) → Heap → Prop} {α : Type} {Yf : Shared → α} {Ya : World → α} {YP : World → Heap → Prop} {d : DefRec} {kwd : List (PySem.Str × PySem.Expr)} {N : Nat}
    (left : LeftO r.prog q loose Xt Yf Ya N) (hY : ∀ w s, Yf s = Ya w → YP w s.heap) (hYk : ∀ w h h', YP w h → (∀ b o, h.get? b = some o → h'.get? b = some o) → YP w h')
    (hX : ∀ s, Xt s = true → XP (s.heap.nsMap mainGlobals) s.heap) (hXk : ∀ mg h h', XP mg h → (∀ b o, h.get? b = some o → h'.get? b = some o) → XP mg h')
    (hdef : defOf q r.name = some (d, kwd)) (hp : r.prog.theDef r.name = some (d.params, d.body, d.scope)) (hk : kwWritten? d.params.kwonlyargs d.params.kw_defaults = some kwd)
    (hRf : ∀ s, Xt s = true → RecFacts r.records s.heap) (hwr : (!r.writes || r.records.isEmpty) = true)
    (k1 : r.wellSaid = true) (ok : (chainsOk q && opensWell r.prog && (frees r.toRowW && r.within.isEmpty)) = true) (hb : r.prog.bare) (hw : r.toRowW.promised)
    (walk : WalkX q loose XP YP r.toRowW d kwd) : r.Holds := by
  simp only [Bool.and_eq_true] at ok
  obtain ⟨⟨hch, o1⟩, k5, k6⟩ := ok
  obtain ⟨hsame, hu, ha, hap, hm⟩ := frees_parts k5
  have hwi : r.toRowW.claim.within = [] := List.isEmpty_iff.mp k6
  have hi := ident_freeW hu ha hap
  refine ⟨k1, hw, ⟨hb, o1, by show r.makers.map _ = []; rw [hm]; rfl⟩, hw.witness, fun w => ⟨(left.behind hX hch w).1, fun s' hs' => ?_⟩⟩
  obtain ⟨s₀, e1, e2, s, hT, hz, hgens, hg, G', y⟩ := (left.behind (XP := fun mg h => XP mg h ∧ RecFacts r.records h) (fun s hs => ⟨hX s hs, hRf s hs⟩) hch w).2 s' hs'
  have RF := G'.X.2
  have G0 : Ground q loose [] XP w s (s.heap.nsMap mainGlobals) (s.heap.nsMap builtinsNs) s.heap := ⟨G'.T, G'.B, G'.D, G'.TE, G'.TD, G'.W, G'.X.1, G'.cls, G'.has, G'.apart, G'.once, G'.K⟩
  have hgens : s.gens = #[] := Array.eq_empty_of_size_eq_zero (beq_iff_eq.mp hgens)
  have G : Ground q loose r.records XP w s _ _ s.heap := RF.ground G0
  refine ⟨s₀, e1, e2, s, hT, fun n hn => ?_, RF.1, RF.2.1, ?_⟩
  · obtain rfl : n = r.name := by split at hn <;> simp_all
    exact pinned_of_view hg G0 hdef hp hk
  refine callFromX (c := r.toRowW.claim) (tree := fun vs => do match ← nsGet mainNs r.name with
      | some f => do ret (← PySem.call f vs)
      | none => unsupported "claim.caller:no-such-global") hz hgens fun args hpre hlay ord hord => ?_
  obtain ⟨⟨vs, s₁⟩, hl⟩ := Option.isSome_iff_exists.mp (layAllW_isSome (P := w.params) (ord := ord) G.has args r.args s (pre_splitW hpre).1)
  have keeps := layAllW_keeps _ _ _ hl
  have rest := layAllW_rest _ _ _ hl
  obtain ⟨as, hrd, hin, hold⟩ := reads_layAllW hord _ _ _ hl hlay s₁.heap (fun _ _ e => e)
  have L : Laid r.records w s s₁ args vs as := ⟨⟨ord, hord, hl⟩, hrd, hin, hold, keeps, rest.1.trans hgens, rest.2.2.1⟩
  have G₁ := G.keeps hXk keeps
  obtain ⟨a, o, pm, cd, doc, dV, kV, h1, h2, h3, h4, h5⟩ := G₁.fn hdef
  have W := walk w s s₁ _ _ G₁ (hYk _ _ _ (hY w s y) keeps) a o pm cd doc dV kV h2 h3 h4 h5 (defOf_name hdef ▸ h1) L.gens args vs as hpre hlay L.reads L.well (L.low G.low)
  have good : ∀ {res : Result} {s' : Shared}, GoodWG r.toRowW.claim (classAt s.heap) (ExcName.means s.heap) args s₁ res s' →
      (r.toRowW.claim.Ends s args vs s₁ res s' ∧ s'.os = s.os ∧ (r.writes = true → namesKept r.toRowW.claim.prog r.keeps s.heap s'.heap ∧ ∀ x ∈ r.toRowW.claim.records, ∀ a, classAt s.heap x.1 = some a → recordClass s'.heap a x.1 (x.2.map (·.1)) = true)) ∧ leftWithCleanup s'.gens = false := by
    intro res s' g
    have z := g.laid (c := r.toRowW.claim) hsame hwi hi L
    exact ⟨⟨z.1, z.2.1, fun q => ⟨namesKept_of hT hg r.keeps keeps g.2.1.old, noTable hwr q⟩⟩, leftWithCleanup_false_of_bare z.2.2⟩
  refine ⟨vs, s₁, hl, wpAny_bind (wpAny_nsGet G₁.T.g ?_)⟩
  rw [h1]
  exact wpAny_bind (wpAny_mono W (fun v s' g => wpAny_pure ⟨_, rfl, good g⟩) fun e s' g => good g)
end Mine
namespace Mine
open PySem PySem.W PyProof.Rows PySem.Calls
/-- what is left to do in the other model, behind a stretch that the library walks -/
structure Then (P : Prop) : Prop where
  go : P
section
variable {prog : Program} {w : World} {A : Around} {E : Value → Shared → Prop} {R : Result → Shared → Prop} {s : Shared}
theorem codeX_builtin {id : String} {args : Args} {b : Builtin} (hq : plainId id = true) (hb : entryFor table id = some b) (hne : id ≠ "gc.ask")
    (h : wpAny (MX prog w) A.in1 (b args) (fun fin s' => match fin with | .done f => R (.ok f) s' | .again c' => c'.quiet = true ∧ codeAny (MX prog w) A c' R s') (fun e s' => R (.error e) s') s) :
    codeAny (MX prog w) A (.builtin id args) R s := by
  refine codeAny_of_tree ?_
  rw [Around.under_plainId hq args]
  show wpAny (MX prog w) A.in1 (denX (.builtin id args)) _ _ s
  rw [denX_builtin args hne, den_builtin, hb]
  exact h
/-- a built-in called in the other model -/
theorem callX_entry {T : String} {name : PySem.Str} {id : String} {b : Builtin} {self : Value} {rest : List Value} {Q : Value → Shared → Prop} (h : Slot T name id) (hT : s.TypeIs self T)
    (hb : entryFor table id = some b) (hc : wpAny (MX prog w) A.in1 (b ⟨self :: rest, []⟩) (fun fin s' => ∃ v, fin = .done (.ret v) ∧ Q v s') E s)
    (ha : argsOk id ⟨self :: rest, []⟩ := by rfl) (hne : id ≠ "gc.ask" := by decide) : wpAny (MX prog w) A (call (.builtin id) (self :: rest)) Q E s := by
  refine wpAny_call (codeAny_of_tree ?_)
  show wpAny (MX prog w) A.in1 (do checkBuiltinCall id ⟨self :: rest, []⟩; again (.builtin id ⟨self :: rest, []⟩)) _ _ s
  refine wpAny_bind (h.check _ _ _ _ _ _ _ _ hT ha (wpAny_pure (And.intro (plainId_quiet h.plain _) (codeX_builtin h.plain hb hne (wpAny_mono hc (fun fin s' h' => ?_) fun _ _ h' => h')))))
  obtain ⟨v, rfl, hv⟩ := h'
  exact hv
theorem codeX_func {body : List PySem.Stmt} {env : Env}
    (h : wpAny (MX prog w) (A.deeper env) (execs body env) (fun f s' => R (.ok (.ret (match f with | .ret v => v | _ => .none))) s')
      (fun e s' => wpAny (MX prog w) (A.deeper env) (leaving env e) (fun _ s'' => R (.error e) s'') (fun e' s'' => R (.error e') s'') s') s) :
    codeAny (MX prog w) A (.func body env) R s := by
  refine codeAny_of_tree ?_
  show wpAny (MX prog w) (A.deeper env) (do point; match ← (execs body env).onRaise (leaving env) with | .ret v => ret v | _ => ret .none) _ _ s
  refine wpAny_bind (wpAny_point (wpAny_bind (wpAny_onRaise (wpAny_mono h (fun f s' h' => ?_) fun _ _ h' => h'))))
  cases f <;> exact wpAny_pure h'
/-- a def of the text entered in the other model -/
theorem codeX_plain {A₀ : Around} {base h₀ : Heap} {outer : List Env} {L : Addr} {m : PySem.Str → Option Value} {env : Env} {news : List (Addr × Obj)} {name qual : PySem.Str} {params : Arguments} {body : List PySem.Stmt} {scope : Scope} {dV kV doc pm cdv ct oc : Value} {an od : Option Addr} {osl : Array (Option Value)} {f : Addr} {args : Args} {binds : List (PySem.Str × Value)} {K : Frag} {p : Program} {loose : List PySem.Str} {mean : ExcName → Option Value} {mg mb : PySem.Str → Option Value}
    (B : Below A₀ base outer h₀) (F : Fr h₀ L s.heap m) (X₀ : K.In h₀) (N : News h₀ L s.heap news) (T : Top p loose mean mg mb h₀) (hA : A.frames = some (env :: outer)) (hf : env.frame = some L) (hke : env.scope.kind = .function)
    (ho : K.lookup f = some ⟨oc, od, .func (fnOf name qual params body scope dV kV doc pm an cdv ct), osl⟩) (hcd : codeIn K cdv qual = true) (hroom : A.depth < recursionLimit)
    (hbind : BindsTo s (fnOf name qual params body scope dV kV doc pm an cdv ct) args binds) (hloc : ∀ y ∈ binds, scope.names.lookup y.1 = some .local)
    (h : ∀ g L' h₁, Fr h₀ L g m → Fr g L' h₁ (fun y => binds.reverse.lookup y) → News g L' h₁ news → Below A base (env :: outer) g → K.In g → Top p loose mean mg mb g →
      wpAny (MX prog w) (A.deeper (envOf qual scope L' f cdv)) (execs body (envOf qual scope L' f cdv))
        (fun fl s' => LeaveK h₀ L m g R (match fl with | .ret v => v | _ => .none) s')
        (fun e s' => wpAny (MX prog w) (A.deeper (envOf qual scope L' f cdv)) (leaving (envOf qual scope L' f cdv) e) (fun _ s'' => R (.error e) s'') (fun e' s'' => R (.error e') s'') s')
        { s with heap := h₁, toks := s.toks + binds.length })
    (hco : scope.isCoroutine = false) (hgen : scope.isGenerator = false) (hk : scope.kind = .function)
    (hcell : ∀ x ∈ scope.names, x.2 ≠ .cell) : codeAny (MX prog w) A (.call (.ref f) args) R s := by
  obtain ⟨FG, BG, st, lv⟩ := groundX (R := R) B F N hA hf hke
  have hlim := T.nolimit.keeps F.keep
  obtain ⟨c, oc', vs, tq, hc, hoc, hdc, hq⟩ := codeRec_of (X₀.keeps F.keep) hcd
  refine codeAny_of_tree ?_
  show wpAny (MX prog w) A.in1 (callAny (.ref f) args) _ _ s
  simp only [callAny]
  refine wpAny_bind (wpAny_load ((X₀.keeps F.keep) _ _ ho) ?_)
  simp only [callFunction, hco, hgen, hc]
  rw [hc] at hbind h
  refine wpAny_bind (m := field (.ref c) 1) (wpAny_field hoc hdc hq (wpAny_bind (wpAny_pure ?_)))
  refine wpAny_bind (hbind _ _ _ _ (wpAny_bind (wpAny_newFunctionEnv hcell hloc (fun h₁ hns hsb => ?_) hk)))
  have hk₁ : ∀ b o, s.heap.get? b = some o → h₁.get? b = some o := fun b o e => hsb.extBut b o (Nat.ne_of_lt (Heap.lt_size e)) (Heap.get?_push_of_some _ e)
  refine wpAny_bind (wpAny_enterFrame (hlim.fresh _ hsb) hroom (wpAny_pure (And.intro rfl (codeX_func ?_))))
  exact wpAny_mono (h _ s.heap.objs.size h₁ FG ⟨hns, fun b o e => hk₁ b o (of_hideAll _ e), Nat.le_of_eq (hideAll_size _ _)⟩
    (fun p hp => ⟨hk₁ _ _ (N p hp).1, Nat.ne_of_lt (Heap.lt_size (N p hp).1), hideAll_none _ (List.mem_map_of_mem hp)⟩) BG (X₀.keeps st) (T.keeps st)) (fun fl s' hl => lv _ _ hl) fun _ _ y => y
end
theorem wp_execs_app {M : Model} {Γ : Ctx} {env : Env} {ys : List PySem.Stmt} {Q : Flow → Pos → Shared → Prop} {E : Value → Pos → Shared → Prop} : ∀ (xs : List PySem.Stmt) (p : Pos) (s : Shared),
    Sem.wp M Γ (execs xs env) (fun f p' s' => match f with | .next => Sem.wp M Γ (execs ys env) Q E p' s' | f => Q f p' s') E p s → Sem.wp M Γ (execs (xs ++ ys) env) Q E p s
  | [], _, _, h => h
  | x :: xs, p, s, h => by
    rw [List.cons_append, execs_cons, Sem.wp_bind']
    rw [execs_cons, Sem.wp_bind'] at h
    refine Sem.wp_mono M Γ _ (fun f p' s' q => ?_) (fun _ _ _ q => q) _ _ h
    cases f with
    | next => exact wp_execs_app xs p' s' q
    | _ => exact q
/-- a stretch of statements, and what is behind it -/
theorem execs_app {M : Model} {A : Around} {E : Value → Shared → Prop} {s : Shared} {env : Env} {xs ys : List PySem.Stmt} {Q : Flow → Shared → Prop}
    (h : wpAny M A (execs xs env) (fun f s' => match f with | .next => wpAny M A (execs ys env) Q E s' | f => Q f s') E s) : wpAny M A (execs (xs ++ ys) env) Q E s := fun Γ p hΓ => by
  refine wp_execs_app xs p s (Sem.wp_mono M Γ _ (fun f p' s' q => ?_) (fun _ _ _ q => q) _ _ (h Γ p hΓ))
  cases f with
  | next => exact q Γ p' hΓ
  | _ => exact q
/-- the next n statements by the library's walk, what is behind them in the other model -/
theorem stretch {prog : Program} {w : World} {A : Around} {E : Value → Shared → Prop} {s : Shared} {env : Env} {l : List PySem.Stmt} {Q : Flow → Shared → Prop} (n : Nat)
    (h : wpAny (model prog w) A (execs (l.take n) env) (fun f s' => match f with | .next => Then (wpAny (MX prog w) A (execs (l.drop n) env) Q E s') | f => Q f s') E s) : wpAny (MX prog w) A (execs l env) Q E s := by
  rw [← List.take_append_drop n l]
  refine execs_app (wpAny_mono (lift h) (fun f s' q => ?_) fun _ _ q => q)
  cases f with
  | next => exact q.go
  | _ => exact q
end Mine
namespace Mine
open PySem PySem.Sre
def lineCode : Array Nat := #[14, 4, 0, 0, 4294967295, 17, 0, 26, 5, 0, 4294967295, 2, 1, 7, 7, 16, 13, 16, 10, 15, 17, 5, 16, 10, 15, 12, 5, 16, 13, 15, 7, 5, 6, 5, 15, 2, 0, 17, 1, 1]
/-- the machine over the line pattern -/
abbrev mk (text : Array Nat) (lim start pc pos handed : Nat) (marks : Array (Option Nat)) (lm li : Int) (frames : List Sre.Frame) (wt : Nat) (ans : Option Bool) (seen : Seen) : M :=
  { code := lineCode, text := text, lim := lim, start := start, lastStart := lim, wholeText := false, mustAdvance := false, pc := pc, pos := pos, handed := handed, outermost := true, marks := marks, lastmark := lm, lastindex := li, loops := #[], inner := none, frames := frames, weight := wt, answer := ans, seen := seen, outcome := none }
abbrev keptM : Sre.Kept := { lastmark := 0, lastindex := -1, whole := false, marks := #[] }
abbrev fr0 (start : Nat) : Sre.Frame := { wait := .nextStart, pc := 5, pos := start, outermost := true }
abbrev fr1 (p : Nat) (k : Int) : Sre.Frame := { wait := .takeMore, pc := 7, pos := p, outermost := true, count := k, kept := keptM }
abbrev frB (j p : Nat) : Sre.Frame := { wait := .nextBranch, pc := j, pos := p, outermost := true, kept := keptM }
section
variable {text : Array Nat} {lim start pos handed : Nat} {marks : Array (Option Nat)} {lm li : Int} {frames : List Sre.Frame} {wt : Nat} {seen : Seen}
theorem lit_no {pc c : Nat} (hp : pc < lineCode.size) (hc : lineCode.getD pc 0 = 16) (hw : lineCode.getD (pc + 1) 0 = c) (h : lim ≤ pos ∨ text.getD pos 0 ≠ c) : ∃ sn, (mk text lim start pc pos handed marks lm li frames wt none seen).step = mk text lim start pc pos handed marks lm li frames wt (some false) sn := by
  have ho : ops[(16 : Nat)]? = some .LITERAL := rfl
  refine ⟨seen.add 16, ?_⟩
  by_cases hl : lim ≤ pos
  · simp only [M.step, mk, Option.isSome_none, Bool.false_eq_true, if_false, if_true, M.exec, M.word, Nat.add_zero, M.say, ge_iff_le, hp, hc, ho, hl]
  · have hb : (text.getD pos 0 == c) = false := by
      rcases h with h | h
      · exact absurd h hl
      · simpa using h
    simp only [M.step, mk, Option.isSome_none, Bool.false_eq_true, if_false, if_true, M.exec, M.word, Nat.add_zero, M.say, ge_iff_le, hp, hc, ho, hl, accepts, hw, hb]
theorem lit_yes {pc c : Nat} (hp : pc < lineCode.size) (hc : lineCode.getD pc 0 = 16) (hw : lineCode.getD (pc + 1) 0 = c) (hl : pos < lim) (h : text.getD pos 0 = c) : ∃ sn, (mk text lim start pc pos handed marks lm li frames wt none seen).step = mk text lim start (pc + 2) (pos + 1) handed marks lm li frames wt none sn := by
  have ho : ops[(16 : Nat)]? = some .LITERAL := rfl
  refine ⟨seen.add 16, ?_⟩
  have hl' : ¬ lim ≤ pos := by omega
  have hb : (text.getD pos 0 == c) = true := by simpa using h
  simp only [M.step, mk, Option.isSome_none, Bool.false_eq_true, if_false, if_true, M.exec, M.word, Nat.add_zero, M.say, ge_iff_le, hp, hc, ho, hl', accepts, hw, hb, itemWidth]
theorem do_mark0 : ∃ sn, (mk text lim start 5 start start #[none, none] (-1) (-1) frames wt none seen).step = mk text lim start 7 start start #[some start, none] 0 (-1) frames wt none sn := ⟨seen.add 17, by
  have hp : 5 < lineCode.size := by decide
  have h0 : lineCode.getD 5 0 = 17 := rfl
  have h1 : lineCode.getD (5 + 1) 0 = 0 := rfl
  have ho : ops[(17 : Nat)]? = some .MARK := rfl
  simp only [M.step, mk, Option.isSome_none, Bool.false_eq_true, if_false, if_true, M.exec, M.word, Nat.add_zero, M.say, ge_iff_le, hp, h0, ho, M.mark, h1]
  rfl⟩
theorem do_min (hl : start ≤ lim) (hw : wt + 1 ≤ 16777216) : ∃ sn, (mk text lim start 7 start start marks 0 (-1) frames wt none seen).step = mk text lim start 13 start start marks 0 (-1) (fr1 start 0 :: frames) (wt + 1) none sn := by
  have hp : 7 < lineCode.size := by decide
  have h0 : lineCode.getD 7 0 = 26 := rfl
  have h1 : lineCode.getD (7 + 1) 0 = 5 := rfl
  have h2 : lineCode.getD (7 + 2) 0 = 0 := rfl
  have h3 : lineCode.getD (7 + 3) 0 = 4294967295 := rfl
  have h4 : lineCode.getD (7 + 4) 0 = 2 := rfl
  have ho : ops[(26 : Nat)]? = some .MIN_REPEAT_ONE := rfl
  have hr : ¬ (((0 : Nat) : Int) > (lim : Int) - (start : Int)) := by omega
  have hw' : ¬ (wt + 1 > 16777216) := by omega
  refine ⟨(seen.add 26).add 2, ?_⟩
  simp only [M.step, mk, Option.isSome_none, Bool.false_eq_true, if_false, if_true, M.exec, M.word, Nat.add_zero, M.say, ge_iff_le, hp, h0, ho, h1, h2, h3, h4, hr, Nat.zero_min, Sre.run, Nat.lt_irrefl, M.afterRun, M.attempt, M.frame, M.keep, Array.size_empty, hw', Nat.zero_le, Nat.not_lt_zero]
  rfl
theorem do_branch (hw : wt + 1 ≤ 16777216) : ∃ sn, (mk text lim start 13 pos handed marks 0 (-1) frames wt none seen).step = mk text lim start 15 pos pos marks 0 (-1) (frB 14 pos :: frames) (wt + 1) none sn := by
  have hp : 13 < lineCode.size := by decide
  have h0 : lineCode.getD 13 0 = 7 := rfl
  have h1 : (lineCode.getD (13 + 1) 0 == 0) = false := rfl
  have ho : ops[(7 : Nat)]? = some .BRANCH := rfl
  have hw' : ¬ (wt + 1 > 16777216) := by omega
  refine ⟨seen.add 7, ?_⟩
  simp only [M.step, mk, Option.isSome_none, Bool.false_eq_true, if_false, if_true, M.exec, M.word, Nat.add_zero, M.say, ge_iff_le, hp, h0, ho, M.alternative, h1, M.attempt, M.frame, M.keep, Array.size_empty, hw']
theorem res_next {pc j j' p : Nat} (hj : j + lineCode.getD j 0 = j') (hn : (lineCode.getD j' 0 == 0) = false) (hw : wt + 1 ≤ 16777216) : ∃ sn, (mk text lim start pc pos handed marks lm li (frB j p :: frames) (wt + 1) (some false) seen).step = mk text lim start (j' + 1) p p marks 0 (-1) (frB j' p :: frames) (wt + 1) none sn := by
  have hw' : ¬ (wt + 1 > 16777216) := by omega
  refine ⟨seen, ?_⟩
  simp only [M.step, mk, Option.isSome_none, Bool.false_eq_true, if_false, if_true, M.exec, M.word, Nat.add_zero, M.say, ge_iff_le, M.resume, M.putBack, M.alternative, hj, hn, M.attempt, M.frame, Array.size_empty, Nat.add_sub_cancel, hw']
theorem res_none {pc j j' p : Nat} (hj : j + lineCode.getD j 0 = j') (hn : (lineCode.getD j' 0 == 0) = true) : ∃ sn, (mk text lim start pc pos handed marks lm li (frB j p :: frames) (wt + 1) (some false) seen).step = mk text lim start j p handed marks 0 (-1) frames wt (some false) sn := by
  refine ⟨seen, ?_⟩
  simp only [M.step, mk, Option.isSome_none, Bool.false_eq_true, if_false, if_true, M.exec, M.word, Nat.add_zero, M.say, ge_iff_le, M.resume, M.putBack, M.alternative, hj, hn, Array.size_empty, Nat.add_sub_cancel]
theorem res_more {pc p : Nat} {k : Int} (hl : p < lim) (hc : text.getD p 0 ≠ 10) (hw : wt + 1 ≤ 16777216) : ∃ sn, (mk text lim start pc pos handed marks lm li (fr1 p k :: frames) (wt + 1) (some false) seen).step = mk text lim start 13 (p + 1) (p + 1) marks 0 (-1) (fr1 (p + 1) (k + 1) :: frames) (wt + 1) none sn := by
  have h1 : lineCode.getD (7 + 1) 0 = 5 := rfl
  have h3 : lineCode.getD (7 + 3) 0 = 4294967295 := rfl
  have h4 : lineCode.getD (7 + 4) 0 = 2 := rfl
  have ho : ops[(2 : Nat)]? = some .ANY := rfl
  have hw' : ¬ (wt + 1 > 16777216) := by omega
  have hl' : ¬ lim ≤ p := by omega
  have hb : (text.getD p 0 != 10) = true := by simpa using hc
  have hm : (4294967295 != maxRepeat) = false := by decide
  refine ⟨seen, ?_⟩
  simp only [M.step, mk, Option.isSome_none, Bool.false_eq_true, if_false, if_true, M.exec, M.word, Nat.add_zero, M.say, ge_iff_le, M.resume, M.putBack, h1, h3, h4, hm, Bool.and_false, accepts, ho, hb, hl', M.afterRun, M.attempt, M.frame, Array.size_empty, Nat.add_sub_cancel, hw']
theorem do_at_no (hl : pos < lim) (hc : text.getD pos 0 ≠ 10) : ∃ sn, (mk text lim start 32 pos handed marks lm li frames wt none seen).step = mk text lim start 32 pos handed marks lm li frames wt (some false) sn := by
  have hp : 32 < lineCode.size := by decide
  have h0 : lineCode.getD 32 0 = 6 := rfl
  have h1 : lineCode.getD (32 + 1) 0 = 5 := rfl
  have ho : ops[(6 : Nat)]? = some .AT := rfl
  have ha : (pos == lim || (pos + 1 == lim && text.getD pos 0 == 10)) = false := by
    have a : (pos == lim) = false := by simp; omega
    have b : (text.getD pos 0 == 10) = false := by simpa using hc
    rw [a, b]; simp
  refine ⟨(seen.add 6).add (43 + 5), ?_⟩
  simp only [M.step, mk, Option.isSome_none, Bool.false_eq_true, if_false, if_true, M.exec, M.word, Nat.add_zero, M.say, ge_iff_le, hp, h0, ho, M.isAt, h1, ha]
theorem do_at_yes : ∃ sn, (mk text lim start 32 lim handed marks lm li frames wt none seen).step = mk text lim start 34 lim handed marks lm li frames wt none sn := by
  have hp : 32 < lineCode.size := by decide
  have h0 : lineCode.getD 32 0 = 6 := rfl
  have h1 : lineCode.getD (32 + 1) 0 = 5 := rfl
  have ho : ops[(6 : Nat)]? = some .AT := rfl
  have ha : (lim == lim || (lim + 1 == lim && text.getD lim 0 == 10)) = true := by simp
  refine ⟨(seen.add 6).add (43 + 5), ?_⟩
  simp only [M.step, mk, Option.isSome_none, Bool.false_eq_true, if_false, if_true, M.exec, M.word, Nat.add_zero, M.say, ge_iff_le, hp, h0, ho, M.isAt, h1, ha]
theorem do_jump {pc n : Nat} (hp : pc < lineCode.size) (hc : lineCode.getD pc 0 = 15) (hw : lineCode.getD (pc + 1) 0 = n) : ∃ sn, (mk text lim start pc pos handed marks lm li frames wt none seen).step = mk text lim start (pc + 1 + n) pos handed marks lm li frames wt none sn := by
  have ho : ops[(15 : Nat)]? = some .JUMP := rfl
  refine ⟨seen.add 15, ?_⟩
  simp only [M.step, mk, Option.isSome_none, Bool.false_eq_true, if_false, if_true, M.exec, M.word, Nat.add_zero, M.say, ge_iff_le, hp, hc, ho, hw]
theorem do_mark1 {s0 : Nat} {x : Option Nat} : ∃ sn, (mk text lim start 37 pos handed #[some s0, x] 0 (-1) frames wt none seen).step = mk text lim start 39 pos handed #[some s0, some pos] 1 1 frames wt none sn := ⟨seen.add 17, by
  have hp : 37 < lineCode.size := by decide
  have h0 : lineCode.getD 37 0 = 17 := rfl
  have h1 : lineCode.getD (37 + 1) 0 = 1 := rfl
  have ho : ops[(17 : Nat)]? = some .MARK := rfl
  simp only [M.step, mk, Option.isSome_none, Bool.false_eq_true, if_false, if_true, M.exec, M.word, Nat.add_zero, M.say, ge_iff_le, hp, h0, ho, M.mark, h1]
  rfl⟩
theorem do_success : ∃ sn, (mk text lim start 39 pos handed marks lm li frames wt none seen).step = mk text lim start 39 pos pos marks lm li frames wt (some true) sn := by
  have hp : 39 < lineCode.size := by decide
  have h0 : lineCode.getD 39 0 = 1 := rfl
  have ho : ops[(1 : Nat)]? = some .SUCCESS := rfl
  refine ⟨seen.add 1, ?_⟩
  simp only [M.step, mk, Option.isSome_none, Bool.false_eq_true, if_false, if_true, M.exec, M.word, Nat.add_zero, M.say, ge_iff_le, hp, h0, ho, Bool.false_and, Bool.or_self, Bool.and_false]
theorem res_yes {pc : Nat} {f : Sre.Frame} (hf : f.wait = .nextStart ∨ f.wait = .nextBranch ∨ f.wait = .takeMore) (ho : f.outermost = true) : ∃ pc' pos' wt', (mk text lim start pc pos handed marks lm li (f :: frames) wt (some true) seen).step = mk text lim start pc' pos' handed marks lm li frames wt' (some true) seen := by
  refine ⟨f.pc, f.pos, wt - (1 + f.kept.marks.size), ?_⟩
  rcases hf with h | h | h
  all_goals simp only [M.step, mk, Option.isSome_none, Bool.false_eq_true, if_false, if_true, M.exec, M.word, Nat.add_zero, M.say, ge_iff_le, M.resume, h, ho]
end
end Mine
namespace Mine
open PySem PySem.Sre
/-- n steps of the machine -/
def Go (n : Nat) (m m' : M) : Prop := ∀ k, M.runFor (n + k) m = M.runFor k m'
theorem Go.one {m m' : M} (ho : m.outcome = none) (h : m.step = m') : Go 1 m m' := fun k => by
  rw [Nat.add_comm, M.runFor, ho, h]
  rfl
theorem Go.trans {a b : Nat} {m m' m'' : M} (h : Go a m m') (h' : Go b m' m'') : Go (a + b) m m'' := fun k => by
  rw [Nat.add_assoc, h, h']
theorem Go.refl (m : M) : Go 0 m m := fun k => by rw [Nat.zero_add]
section
variable {text : Array Nat} {lim start : Nat} {marks : Array (Option Nat)}
abbrev atP (text : Array Nat) (lim start p : Nat) (k : Int) (handed : Nat) (seen : Seen) : M := mk text lim start 13 p handed #[some start, none] 0 (-1) [fr1 p k, fr0 start] 2 none seen
theorem go_start (hl : start ≤ lim) (seen : Seen) : ∃ sn, Go 2 (mk text lim start 5 start start #[none, none] (-1) (-1) [fr0 start] 1 none seen) (atP text lim start start 0 start sn) := by
  obtain ⟨s1, e1⟩ := do_mark0 (text := text) (lim := lim) (start := start) (frames := [fr0 start]) (wt := 1) (seen := seen)
  obtain ⟨s2, e2⟩ := do_min (text := text) (lim := lim) (start := start) (marks := #[some start, none]) (frames := [fr0 start]) (wt := 1) (seen := s1) hl (by decide)
  exact ⟨s2, (Go.one rfl e1).trans (Go.one rfl e2)⟩
theorem go_turn {p h : Nat} {k : Int} (hp : p < lim) (h10 : text.getD p 0 ≠ 10) (h13 : text.getD p 0 ≠ 13) (seen : Seen) : ∃ sn, Go 10 (atP text lim start p k h seen) (atP text lim start (p + 1) (k + 1) (p + 1) sn) := by
  obtain ⟨s1, e1⟩ := do_branch (text := text) (lim := lim) (start := start) (pos := p) (handed := h) (marks := #[some start, none]) (frames := [fr1 p k, fr0 start]) (wt := 2) (seen := seen) (by decide)
  obtain ⟨s2, e2⟩ := lit_no (text := text) (lim := lim) (start := start) (pos := p) (handed := p) (marks := #[some start, none]) (lm := 0) (li := -1) (frames := [frB 14 p, fr1 p k, fr0 start]) (wt := 3) (seen := s1) (pc := 15) (c := 13) (by decide) rfl rfl (.inr h13)
  obtain ⟨s3, e3⟩ := res_next (text := text) (lim := lim) (start := start) (pos := p) (handed := p) (marks := #[some start, none]) (lm := 0) (li := -1) (frames := [fr1 p k, fr0 start]) (wt := 2) (seen := s2) (pc := 15) (j := 14) (j' := 21) (p := p) rfl rfl (by decide)
  obtain ⟨s4, e4⟩ := lit_no (text := text) (lim := lim) (start := start) (pos := p) (handed := p) (marks := #[some start, none]) (lm := 0) (li := -1) (frames := [frB 21 p, fr1 p k, fr0 start]) (wt := 3) (seen := s3) (pc := 22) (c := 10) (by decide) rfl rfl (.inr h10)
  obtain ⟨s5, e5⟩ := res_next (text := text) (lim := lim) (start := start) (pos := p) (handed := p) (marks := #[some start, none]) (lm := 0) (li := -1) (frames := [fr1 p k, fr0 start]) (wt := 2) (seen := s4) (pc := 22) (j := 21) (j' := 26) (p := p) rfl rfl (by decide)
  obtain ⟨s6, e6⟩ := lit_no (text := text) (lim := lim) (start := start) (pos := p) (handed := p) (marks := #[some start, none]) (lm := 0) (li := -1) (frames := [frB 26 p, fr1 p k, fr0 start]) (wt := 3) (seen := s5) (pc := 27) (c := 13) (by decide) rfl rfl (.inr h13)
  obtain ⟨s7, e7⟩ := res_next (text := text) (lim := lim) (start := start) (pos := p) (handed := p) (marks := #[some start, none]) (lm := 0) (li := -1) (frames := [fr1 p k, fr0 start]) (wt := 2) (seen := s6) (pc := 27) (j := 26) (j' := 31) (p := p) rfl rfl (by decide)
  obtain ⟨s8, e8⟩ := do_at_no (text := text) (lim := lim) (start := start) (pos := p) (handed := p) (marks := #[some start, none]) (lm := 0) (li := -1) (frames := [frB 31 p, fr1 p k, fr0 start]) (wt := 3) (seen := s7) hp h10
  obtain ⟨s9, e9⟩ := res_none (text := text) (lim := lim) (start := start) (pos := p) (handed := p) (marks := #[some start, none]) (lm := 0) (li := -1) (frames := [fr1 p k, fr0 start]) (wt := 2) (seen := s8) (pc := 32) (j := 31) (j' := 36) (p := p) rfl rfl
  obtain ⟨s10, e10⟩ := res_more (text := text) (lim := lim) (start := start) (pos := p) (handed := p) (marks := #[some start, none]) (lm := 0) (li := -1) (frames := [fr0 start]) (wt := 1) (seen := s9) (pc := 31) (p := p) (k := k) hp h10 (by decide)
  exact ⟨s10, (((((((((Go.one rfl e1).trans (Go.one rfl e2)).trans (Go.one rfl e3)).trans (Go.one rfl e4)).trans (Go.one rfl e5)).trans (Go.one rfl e6)).trans (Go.one rfl e7)).trans (Go.one rfl e8)).trans (Go.one rfl e9)).trans (Go.one rfl e10)⟩
/-- the machine has found start .. e -/
structure Found (m : M) (start e : Nat) : Prop where
  out : m.outcome = some .matched
  st : m.start = start
  hd : m.handed = e
  mks : m.marks = #[some start, some e]
  lm : m.lastmark = 1
  li : m.lastindex = 1
theorem go_end {e h wt : Nat} {x y : Sre.Frame} (hx : x.wait = .nextBranch) (hx' : x.outermost = true) (hy : y.wait = .takeMore) (hy' : y.outermost = true) (seen : Seen) :
    ∃ m', Go 6 (mk text lim start 37 e h #[some start, none] 0 (-1) [x, y, fr0 start] wt none seen) m' ∧ Found m' start e := by
  obtain ⟨s1, e1⟩ := do_mark1 (text := text) (lim := lim) (start := start) (pos := e) (handed := h) (s0 := start) (x := none) (frames := [x, y, fr0 start]) (wt := wt) (seen := seen)
  obtain ⟨s2, e2⟩ := do_success (text := text) (lim := lim) (start := start) (pos := e) (handed := h) (marks := #[some start, some e]) (lm := 1) (li := 1) (frames := [x, y, fr0 start]) (wt := wt) (seen := s1)
  obtain ⟨c3, p3, w3, e3⟩ := res_yes (text := text) (lim := lim) (start := start) (pos := e) (handed := e) (marks := #[some start, some e]) (lm := 1) (li := 1) (frames := [y, fr0 start]) (wt := wt) (seen := s2) (pc := 39) (f := x) (.inr (.inl hx)) hx'
  obtain ⟨c4, p4, w4, e4⟩ := res_yes (text := text) (lim := lim) (start := start) (pos := p3) (handed := e) (marks := #[some start, some e]) (lm := 1) (li := 1) (frames := [fr0 start]) (wt := w3) (seen := s2) (pc := c3) (f := y) (.inr (.inr hy)) hy'
  obtain ⟨c5, p5, w5, e5⟩ := res_yes (text := text) (lim := lim) (start := start) (pos := p4) (handed := e) (marks := #[some start, some e]) (lm := 1) (li := 1) (frames := []) (wt := w4) (seen := s2) (pc := c4) (f := fr0 start) (.inl rfl) rfl
  refine ⟨_, ((((((Go.one rfl e1).trans (Go.one rfl e2)).trans (Go.one rfl e3)).trans (Go.one rfl e4)).trans (Go.one rfl e5)).trans (Go.one rfl rfl)), ?_⟩
  exact ⟨rfl, rfl, rfl, rfl, rfl, rfl⟩
/-- a line end of one sign, 10 -/
theorem go_lf {p h : Nat} {k : Int} (hp : p < lim) (hc : text.getD p 0 = 10) (seen : Seen) : ∃ m', Go 11 (atP text lim start p k h seen) m' ∧ Found m' start (p + 1) := by
  obtain ⟨s1, e1⟩ := do_branch (text := text) (lim := lim) (start := start) (pos := p) (handed := h) (marks := #[some start, none]) (frames := [fr1 p k, fr0 start]) (wt := 2) (seen := seen) (by decide)
  obtain ⟨s2, e2⟩ := lit_no (text := text) (lim := lim) (start := start) (pos := p) (handed := p) (marks := #[some start, none]) (lm := 0) (li := -1) (frames := [frB 14 p, fr1 p k, fr0 start]) (wt := 3) (seen := s1) (pc := 15) (c := 13) (by decide) rfl rfl (.inr (by rw [hc]; decide))
  obtain ⟨s3, e3⟩ := res_next (text := text) (lim := lim) (start := start) (pos := p) (handed := p) (marks := #[some start, none]) (lm := 0) (li := -1) (frames := [fr1 p k, fr0 start]) (wt := 2) (seen := s2) (pc := 15) (j := 14) (j' := 21) (p := p) rfl rfl (by decide)
  obtain ⟨s4, e4⟩ := lit_yes (text := text) (lim := lim) (start := start) (pos := p) (handed := p) (marks := #[some start, none]) (lm := 0) (li := -1) (frames := [frB 21 p, fr1 p k, fr0 start]) (wt := 3) (seen := s3) (pc := 22) (c := 10) (by decide) rfl rfl hp hc
  obtain ⟨s5, e5⟩ := do_jump (text := text) (lim := lim) (start := start) (pos := p + 1) (handed := p) (marks := #[some start, none]) (lm := 0) (li := -1) (frames := [frB 21 p, fr1 p k, fr0 start]) (wt := 3) (seen := s4) (pc := 24) (n := 12) (by decide) rfl rfl
  obtain ⟨m', e6, hf⟩ := go_end (text := text) (lim := lim) (start := start) (e := p + 1) (h := p) (wt := 3) (x := frB 21 p) (y := fr1 p k) rfl rfl rfl rfl s5
  exact ⟨m', (((((Go.one rfl e1).trans (Go.one rfl e2)).trans (Go.one rfl e3)).trans (Go.one rfl e4)).trans (Go.one rfl e5)).trans e6, hf⟩
/-- a line end of two signs, 13 and 10 -/
theorem go_crlf {p h : Nat} {k : Int} (hp : p + 1 < lim) (hc : text.getD p 0 = 13) (hd : text.getD (p + 1) 0 = 10) (seen : Seen) : ∃ m', Go 10 (atP text lim start p k h seen) m' ∧ Found m' start (p + 2) := by
  obtain ⟨s1, e1⟩ := do_branch (text := text) (lim := lim) (start := start) (pos := p) (handed := h) (marks := #[some start, none]) (frames := [fr1 p k, fr0 start]) (wt := 2) (seen := seen) (by decide)
  obtain ⟨s2, e2⟩ := lit_yes (text := text) (lim := lim) (start := start) (pos := p) (handed := p) (marks := #[some start, none]) (lm := 0) (li := -1) (frames := [frB 14 p, fr1 p k, fr0 start]) (wt := 3) (seen := s1) (pc := 15) (c := 13) (by decide) rfl rfl (by omega) hc
  obtain ⟨s3, e3⟩ := lit_yes (text := text) (lim := lim) (start := start) (pos := p + 1) (handed := p) (marks := #[some start, none]) (lm := 0) (li := -1) (frames := [frB 14 p, fr1 p k, fr0 start]) (wt := 3) (seen := s2) (pc := 17) (c := 10) (by decide) rfl rfl hp hd
  obtain ⟨s4, e4⟩ := do_jump (text := text) (lim := lim) (start := start) (pos := p + 1 + 1) (handed := p) (marks := #[some start, none]) (lm := 0) (li := -1) (frames := [frB 14 p, fr1 p k, fr0 start]) (wt := 3) (seen := s3) (pc := 19) (n := 17) (by decide) rfl rfl
  obtain ⟨m', e6, hf⟩ := go_end (text := text) (lim := lim) (start := start) (e := p + 1 + 1) (h := p) (wt := 3) (x := frB 14 p) (y := fr1 p k) rfl rfl rfl rfl s4
  exact ⟨m', ((((Go.one rfl e1).trans (Go.one rfl e2)).trans (Go.one rfl e3)).trans (Go.one rfl e4)).trans e6, hf⟩
/-- a line end of one sign, 13 -/
theorem go_cr {p h : Nat} {k : Int} (hp : p < lim) (hc : text.getD p 0 = 13) (hd : lim ≤ p + 1 ∨ text.getD (p + 1) 0 ≠ 10) (seen : Seen) : ∃ m', Go 14 (atP text lim start p k h seen) m' ∧ Found m' start (p + 1) := by
  obtain ⟨s1, e1⟩ := do_branch (text := text) (lim := lim) (start := start) (pos := p) (handed := h) (marks := #[some start, none]) (frames := [fr1 p k, fr0 start]) (wt := 2) (seen := seen) (by decide)
  obtain ⟨s2, e2⟩ := lit_yes (text := text) (lim := lim) (start := start) (pos := p) (handed := p) (marks := #[some start, none]) (lm := 0) (li := -1) (frames := [frB 14 p, fr1 p k, fr0 start]) (wt := 3) (seen := s1) (pc := 15) (c := 13) (by decide) rfl rfl hp hc
  obtain ⟨s3, e3⟩ := lit_no (text := text) (lim := lim) (start := start) (pos := p + 1) (handed := p) (marks := #[some start, none]) (lm := 0) (li := -1) (frames := [frB 14 p, fr1 p k, fr0 start]) (wt := 3) (seen := s2) (pc := 17) (c := 10) (by decide) rfl rfl hd
  obtain ⟨s4, e4⟩ := res_next (text := text) (lim := lim) (start := start) (pos := p + 1) (handed := p) (marks := #[some start, none]) (lm := 0) (li := -1) (frames := [fr1 p k, fr0 start]) (wt := 2) (seen := s3) (pc := 17) (j := 14) (j' := 21) (p := p) rfl rfl (by decide)
  obtain ⟨s5, e5⟩ := lit_no (text := text) (lim := lim) (start := start) (pos := p) (handed := p) (marks := #[some start, none]) (lm := 0) (li := -1) (frames := [frB 21 p, fr1 p k, fr0 start]) (wt := 3) (seen := s4) (pc := 22) (c := 10) (by decide) rfl rfl (.inr (by rw [hc]; decide))
  obtain ⟨s6, e6⟩ := res_next (text := text) (lim := lim) (start := start) (pos := p) (handed := p) (marks := #[some start, none]) (lm := 0) (li := -1) (frames := [fr1 p k, fr0 start]) (wt := 2) (seen := s5) (pc := 22) (j := 21) (j' := 26) (p := p) rfl rfl (by decide)
  obtain ⟨s7, e7⟩ := lit_yes (text := text) (lim := lim) (start := start) (pos := p) (handed := p) (marks := #[some start, none]) (lm := 0) (li := -1) (frames := [frB 26 p, fr1 p k, fr0 start]) (wt := 3) (seen := s6) (pc := 27) (c := 13) (by decide) rfl rfl hp hc
  obtain ⟨s8, e8⟩ := do_jump (text := text) (lim := lim) (start := start) (pos := p + 1) (handed := p) (marks := #[some start, none]) (lm := 0) (li := -1) (frames := [frB 26 p, fr1 p k, fr0 start]) (wt := 3) (seen := s7) (pc := 29) (n := 7) (by decide) rfl rfl
  obtain ⟨m', e9, hf⟩ := go_end (text := text) (lim := lim) (start := start) (e := p + 1) (h := p) (wt := 3) (x := frB 26 p) (y := fr1 p k) rfl rfl rfl rfl s8
  exact ⟨m', ((((((((Go.one rfl e1).trans (Go.one rfl e2)).trans (Go.one rfl e3)).trans (Go.one rfl e4)).trans (Go.one rfl e5)).trans (Go.one rfl e6)).trans (Go.one rfl e7)).trans (Go.one rfl e8)).trans e9, hf⟩
/-- the text's end -/
theorem go_eof {h : Nat} {k : Int} (seen : Seen) : ∃ m', Go 15 (atP text lim start lim k h seen) m' ∧ Found m' start lim := by
  obtain ⟨s1, e1⟩ := do_branch (text := text) (lim := lim) (start := start) (pos := lim) (handed := h) (marks := #[some start, none]) (frames := [fr1 lim k, fr0 start]) (wt := 2) (seen := seen) (by decide)
  obtain ⟨s2, e2⟩ := lit_no (text := text) (lim := lim) (start := start) (pos := lim) (handed := lim) (marks := #[some start, none]) (lm := 0) (li := -1) (frames := [frB 14 lim, fr1 lim k, fr0 start]) (wt := 3) (seen := s1) (pc := 15) (c := 13) (by decide) rfl rfl (.inl (Nat.le_refl _))
  obtain ⟨s3, e3⟩ := res_next (text := text) (lim := lim) (start := start) (pos := lim) (handed := lim) (marks := #[some start, none]) (lm := 0) (li := -1) (frames := [fr1 lim k, fr0 start]) (wt := 2) (seen := s2) (pc := 15) (j := 14) (j' := 21) (p := lim) rfl rfl (by decide)
  obtain ⟨s4, e4⟩ := lit_no (text := text) (lim := lim) (start := start) (pos := lim) (handed := lim) (marks := #[some start, none]) (lm := 0) (li := -1) (frames := [frB 21 lim, fr1 lim k, fr0 start]) (wt := 3) (seen := s3) (pc := 22) (c := 10) (by decide) rfl rfl (.inl (Nat.le_refl _))
  obtain ⟨s5, e5⟩ := res_next (text := text) (lim := lim) (start := start) (pos := lim) (handed := lim) (marks := #[some start, none]) (lm := 0) (li := -1) (frames := [fr1 lim k, fr0 start]) (wt := 2) (seen := s4) (pc := 22) (j := 21) (j' := 26) (p := lim) rfl rfl (by decide)
  obtain ⟨s6, e6⟩ := lit_no (text := text) (lim := lim) (start := start) (pos := lim) (handed := lim) (marks := #[some start, none]) (lm := 0) (li := -1) (frames := [frB 26 lim, fr1 lim k, fr0 start]) (wt := 3) (seen := s5) (pc := 27) (c := 13) (by decide) rfl rfl (.inl (Nat.le_refl _))
  obtain ⟨s7, e7⟩ := res_next (text := text) (lim := lim) (start := start) (pos := lim) (handed := lim) (marks := #[some start, none]) (lm := 0) (li := -1) (frames := [fr1 lim k, fr0 start]) (wt := 2) (seen := s6) (pc := 27) (j := 26) (j' := 31) (p := lim) rfl rfl (by decide)
  obtain ⟨s8, e8⟩ := do_at_yes (text := text) (lim := lim) (start := start) (handed := lim) (marks := #[some start, none]) (lm := 0) (li := -1) (frames := [frB 31 lim, fr1 lim k, fr0 start]) (wt := 3) (seen := s7)
  obtain ⟨s9, e9⟩ := do_jump (text := text) (lim := lim) (start := start) (pos := lim) (handed := lim) (marks := #[some start, none]) (lm := 0) (li := -1) (frames := [frB 31 lim, fr1 lim k, fr0 start]) (wt := 3) (seen := s8) (pc := 34) (n := 2) (by decide) rfl rfl
  obtain ⟨m', e10, hf⟩ := go_end (text := text) (lim := lim) (start := start) (e := lim) (h := lim) (wt := 3) (x := frB 31 lim) (y := fr1 lim k) rfl rfl rfl rfl s9
  exact ⟨m', (((((((((Go.one rfl e1).trans (Go.one rfl e2)).trans (Go.one rfl e3)).trans (Go.one rfl e4)).trans (Go.one rfl e5)).trans (Go.one rfl e6)).trans (Go.one rfl e7)).trans (Go.one rfl e8)).trans (Go.one rfl e9)).trans e10, hf⟩
/-- the signs ahead of a line's end -/
theorem go_signs : ∀ (n p h : Nat) (k : Int) (seen : Seen), p + n ≤ lim → (∀ i, p ≤ i → i < p + n → text.getD i 0 ≠ 10 ∧ text.getD i 0 ≠ 13) → ∃ h' k' sn, Go (10 * n) (atP text lim start p k h seen) (atP text lim start (p + n) k' h' sn)
  | 0, p, h, k, seen, _, _ => ⟨h, k, seen, Go.refl _⟩
  | n + 1, p, h, k, seen, hl, hs => by
    obtain ⟨sn, e⟩ := go_turn (text := text) (lim := lim) (start := start) (p := p) (h := h) (k := k) (by omega) (hs p (Nat.le_refl _) (by omega)).1 (hs p (Nat.le_refl _) (by omega)).2 seen
    obtain ⟨h', k', sn', e'⟩ := go_signs n (p + 1) (p + 1) (k + 1) sn (by omega) fun i a b => hs i (by omega) (by omega)
    refine ⟨h', k', sn', ?_⟩
    have q := e.trans e'
    have e1 : 10 + 10 * n = 10 * (n + 1) := by omega
    have e2 : p + 1 + n = p + (n + 1) := by omega
    rw [e1, e2] at q
    exact q
end
end Mine
namespace Mine
open PySem PySem.Sre PySem.Builtin.Re
theorem search_is {text : Array Nat} {lim start : Nat} (hl : start ≤ lim) : ∃ sn, Sre.forSearch lineCode text 1 start lim false = mk text lim start 5 start start #[none, none] (-1) (-1) [fr0 start] 1 none sn := by
  refine ⟨({} : Seen).add 14, ?_⟩
  have h1 : ¬ (start > lim) := by omega
  have h2 : ¬ (lim - start < 0) := by omega
  unfold Sre.forSearch
  have hh : header lineCode = (0, 5) := rfl
  rw [hh]
  simp only [h1, h2, decide_false, Bool.or_self, Bool.false_eq_true, if_false]
  rfl
/-- text from start on opens with a line that ends ahead of e -/
def IsLine (text : Array Nat) (lim start e : Nat) : Prop :=
  ∃ n, (∀ i, start ≤ i → i < start + n → text.getD i 0 ≠ 10 ∧ text.getD i 0 ≠ 13) ∧ start + n ≤ lim ∧
    ((start + n = lim ∧ e = lim) ∨ (start + n < lim ∧ text.getD (start + n) 0 = 10 ∧ e = start + n + 1) ∨
     (start + n + 1 < lim ∧ text.getD (start + n) 0 = 13 ∧ text.getD (start + n + 1) 0 = 10 ∧ e = start + n + 2) ∨
     (start + n < lim ∧ text.getD (start + n) 0 = 13 ∧ (lim ≤ start + n + 1 ∨ text.getD (start + n + 1) 0 ≠ 10) ∧ e = start + n + 1))
theorem search_line {text : Array Nat} {lim start e : Nat} (h : IsLine text lim start e) : ∃ N m', N ≤ 10 * lim + 40 ∧ Go N (Sre.forSearch lineCode text 1 start lim false) m' ∧ Found m' start e := by
  obtain ⟨n, hs, hn, h⟩ := h
  obtain ⟨s0, e0⟩ := search_is (text := text) (lim := lim) (start := start) (by omega)
  obtain ⟨s1, g1⟩ := go_start (text := text) (lim := lim) (start := start) (by omega) s0
  obtain ⟨h', k', s2, g2⟩ := go_signs (text := text) (lim := lim) (start := start) n start start 0 s1 hn hs
  rw [e0]
  rcases h with ⟨a, rfl⟩ | ⟨a, b, rfl⟩ | ⟨a, b, c, rfl⟩ | ⟨a, b, c, rfl⟩
  · rw [a] at g2
    obtain ⟨m', g3, f⟩ := go_eof (text := text) (lim := e) (start := start) (h := h') (k := k') s2
    exact ⟨_, m', by omega, (g1.trans g2).trans g3, f⟩
  · obtain ⟨m', g3, f⟩ := go_lf (text := text) (lim := lim) (start := start) (p := start + n) (h := h') (k := k') a b s2
    exact ⟨_, m', by omega, (g1.trans g2).trans g3, f⟩
  · obtain ⟨m', g3, f⟩ := go_crlf (text := text) (lim := lim) (start := start) (p := start + n) (h := h') (k := k') a b c s2
    exact ⟨_, m', by omega, (g1.trans g2).trans g3, f⟩
  · obtain ⟨m', g3, f⟩ := go_cr (text := text) (lim := lim) (start := start) (p := start + n) (h := h') (k := k') a b c s2
    exact ⟨_, m', by omega, (g1.trans g2).trans g3, f⟩
theorem run_done {m : M} (h : m.outcome.isSome = true) : ∀ k, M.runFor k m = m
  | 0 => rfl
  | k + 1 => by rw [M.runFor, if_pos h]
theorem run_add (a : Nat) : ∀ (m : M) (b : Nat), M.runFor (a + b) m = M.runFor b (M.runFor a m) := by
  induction a with
  | zero => intro m b; rw [Nat.zero_add]; rfl
  | succ a ih =>
    intro m b
    by_cases h : m.outcome.isSome = true
    · rw [run_done h, run_done h, run_done h]
    · have e : a + 1 + b = (a + b) + 1 := by omega
      rw [e, M.runFor, if_neg h, ih, M.runFor, if_neg h]
section
variable {Mo : Model} {A : Around} {E : Value → Shared → Prop} {s : Shared}
theorem drive {m' : M} (ho : m'.outcome.isSome = true) {Q : M → Shared → Prop} (h : Q m' s) : ∀ (T n : Nat) (m : M), Go n m m' → n ≤ 4 * T → 0 < T → wpAny Mo A (reDrive T m) Q E s
  | 0, _, _, _, _, h0 => absurd h0 (Nat.lt_irrefl _)
  | T + 1, n, m, g, hn, _ => by
    unfold reDrive
    show wpAny Mo A (if (m.runFor reTurnSteps).outcome.isSome then pure (m.runFor reTurnSteps) else (do rule "sre.turn"; reDrive T (m.runFor reTurnSteps))) Q E s
    have e4 : reTurnSteps = 4 := rfl
    rw [e4]
    have fin : M.runFor n m = m' := by simpa [M.runFor] using g 0
    by_cases hc : (M.runFor 4 m).outcome.isSome = true
    · rw [if_pos hc]
      have e : M.runFor 4 m = m' := by
        by_cases h4 : n ≤ 4
        · have q := g (4 - n)
          rw [show n + (4 - n) = 4 from by omega, run_done ho] at q
          exact q
        · have q := run_add 4 m (n - 4)
          rw [show 4 + (n - 4) = n from by omega, fin, run_done hc] at q
          exact q.symm
      rw [e]
      exact wpAny_pure h
    · rw [if_neg hc]
      have h4 : 4 < n := by
        rcases Nat.lt_or_ge 4 n with h4 | h4
        · exact h4
        · have q := g (4 - n)
          rw [show n + (4 - n) = 4 from by omega, run_done ho] at q
          exact absurd (by rw [q]; exact ho) hc
      refine wpAny_bind (wpAny_rule ?_)
      refine drive ho h T (n - 4) _ (fun k => ?_) (by omega) (by omega)
      rw [← run_add, show 4 + (n - 4 + k) = n + k from by omega]
      exact g k
theorem for_units {f : Nat → PUnit → Sem (ForInStep PUnit)} (hf : ∀ i (Q : ForInStep PUnit → Shared → Prop), Q (.yield ⟨⟩) s → wpAny Mo A (f i ⟨⟩) Q E s) {Q : PUnit → Shared → Prop} (h : Q ⟨⟩ s) : ∀ l : List Nat, wpAny Mo A (forIn l ⟨⟩ f) Q E s
  | [] => wpAny_pure h
  | a :: l => by
    rw [List.forIn_cons]
    refine wpAny_bind (hf a _ ?_)
    exact for_units hf h l
theorem run_to_end {m m' : M} {n : Nat} (g : Go n m m') (ho : m'.outcome = some .matched) (hn : n ≤ 4 * 2 ^ 64) {Q : Option M → Shared → Prop} (h : Q (some m') s) : wpAny Mo A (reRunToEnd m) Q E s := by
  unfold reRunToEnd
  refine wpAny_bind (drive (by rw [ho]; rfl) ?_ _ n m g hn (by decide))
  refine wpAny_bind (for_units (fun i Q h => ?_) ?_ _)
  · skip
    split
    · exact wpAny_bind (wpAny_bind (wpAny_rule (wpAny_pure (wpAny_pure h))))
    · exact wpAny_bind (wpAny_pure (wpAny_pure h))
  · rw [ho]
    exact wpAny_pure h
theorem found_line {text : Array Nat} {lim start e : Nat} (hl : IsLine text lim start e) (hlim : lim ≤ 16777216) {Q : Option M → Shared → Prop} (h : ∀ m', Found m' start e → Q (some m') s) : wpAny Mo A (reRunToEnd (Sre.forSearch lineCode text 1 start lim false)) Q E s := by
  obtain ⟨N, m', hN, g, f⟩ := search_line hl
  exact run_to_end g f.out (by omega) (h m' f)
end
end Mine
namespace Mine
open PySem PySem.W PyProof.Rows PySem.Calls PySem.Builtin PySem.Builtin.Re
abbrev scanObj (P : Addr) (src : PySem.Str) (t : Tok) (start : Nat) (must : Bool) : Obj :=
  { cls := .type "_sre.SRE_Scanner", data := .fields #[.ref P, .str src t, rawInt start, rawInt 0, rawInt src.cps.size, .bool must] }
abbrev patObj (C : Addr) (a b : Value) : Obj :=
  { cls := .type "re.Pattern", data := .fields #[a, b, .int 1 0, .none, .none, .ref C, .int 0 0] }
abbrev codeObj : Obj := { cls := .type "tuple", data := .seq (lineCode.map fun (n : Nat) => Value.int (n : Int) 0) }
abbrev spanObj (b e : Nat) : Obj := { cls := .type "tuple", data := .seq #[rawInt b, rawInt e, rawInt b, rawInt e] }
abbrev matchObj (P : Addr) (src : PySem.Str) (t : Tok) (T : Addr) : Obj :=
  { cls := .type "re.Match", data := .fields #[.str src t, .ref P, rawInt 0, rawInt src.cps.size, rawInt 1, .ref T] }
section
variable {prog : Program} {w : World} {A : Around} {E : Value → Shared → Prop} {s : Shared}
theorem askX {stop : String} {Q : Unit → Shared → Prop} (h : Q () s) : wpAny (MX prog w) A (noCollectionInside stop) Q E s := by
  unfold noCollectionInside
  refine wpAny_bind (wpAny_runValue (codeAny_of_tree ?_))
  show wpAny (MX prog w) _ (denX (.builtin "gc.ask" ⟨[rawInt 13], []⟩)) _ _ s
  rw [denX_at, if_pos ⟨rfl, rfl⟩]
  refine wpAny_pure ?_
  show wpAny _ _ (if ((Value.bool false) != Value.bool false) = true then _ else _) _ _ s
  rw [if_neg (by decide)]
  exact wpAny_pure h
theorem codes_back : (((lineCode.map fun (n : Nat) => Value.int (n : Int) 0).map reRawOf).map (·.toNat)) = lineCode := by decide +kernel
theorem target {P C : Addr} {a b : Value} {src : PySem.Str} {t : Tok} {Q : ReTarget → Shared → Prop} (hP : s.heap.get? P = some (patObj C a b)) (hC : s.heap.get? C = some codeObj)
    (h : Q { pattern := .ref P, string := .str src t, code := lineCode, text := src.cps, kind := 0, groups := 1, pos := 0, lim := src.cps.size } s) :
    wpAny (MX prog w) A (reWholeTarget (.ref P) (.str src t)) Q E s := by
  unfold reWholeTarget
  refine wpAny_bind (wpAny_fieldsOf hP rfl ?_)
  refine wpAny_bind (m := reTextOf (.str src t)) (wpAny_of_eq (a := (src.cps, 0)) rfl ?_)
  refine wpAny_bind (m := reRawItems _) (wpAny_bind (wpAny_bind (wpAny_load hC (wpAny_pure (wpAny_pure ?_)))))
  refine wpAny_pure ?_
  have e : Array.map (fun x => x.toNat) (Array.map reRawOf ((some (lineCode.map fun (n : Nat) => Value.int (n : Int) 0)).getD #[])) = lineCode := codes_back
  rw [e]
  exact h
theorem setX {a : Addr} {cls : Value} {vs : Array Value} {k : Nat} {x : Value} {Q : Unit → Shared → Prop}
    (ho : s.heap.get? a = some { cls := cls, dict := none, data := .fields vs, slots := #[] }) (hk : k < vs.size)
    (h : ∀ h', h'.get? a = some { cls := cls, dict := none, data := .fields (vs.setIfInBounds k x), slots := #[] } → Heap.SameBut a s.heap h' → Q () { s with heap := h' }) :
    wpAny (MX prog w) A (setField (.ref a) k x) Q E s := lift (wpAny_setField_rec ho hk h)
theorem line_le {text : Array Nat} {lim start e : Nat} (h : IsLine text lim start e) : start ≤ e ∧ e ≤ lim := by
  obtain ⟨n, _, h1, h2⟩ := h
  rcases h2 with ⟨a, rfl⟩ | ⟨a, b, rfl⟩ | ⟨a, b, c, rfl⟩ | ⟨a, b, c, rfl⟩ <;> omega
theorem new_match {P : Addr} {src : PySem.Str} {t : Tok} {start e : Nat} {m : Sre.M} (f : Found m start e) (hge : start ≤ e) {Q : Value → Shared → Prop}
    (h : Q (.ref (s.heap.objs.size + 1)) { s with heap := (s.heap.push (spanObj start e)).push (matchObj P src t s.heap.objs.size) }) :
    wpAny (MX prog w) A (reNewMatch (.ref P) (.str src t) 1 0 src.cps.size m) Q E s := by
  unfold reNewMatch
  rw [f.lm, f.mks, f.st, f.hd, f.li]
  dsimp only
  rw [if_neg (show ¬ _ = true from by
    show ¬ (((decide (((2 * 0 + 1 : Nat) : Int) ≤ 1) && decide (e < start)) || false) = true)
    have : decide (e < start) = false := by simp; omega
    rw [this]
    simp)]
  show wpAny _ _ (newTuple [rawInt start, rawInt e, rawInt start, rawInt e] >>= _) _ _ s
  refine wpAny_bind (wpAny_newTuple ?_)
  unfold newFields
  refine wpAny_newObj_type ?_ (by size_fits)
  have hz : (s.heap.push { cls := .type "tuple", data := .seq [rawInt start, rawInt e, rawInt start, rawInt e].toArray }).objs.size = s.heap.objs.size + 1 := Heap.size_push ..
  dsimp only
  rw [hz]
  exact h
theorem scan_step {sc P C : Addr} {a b : Value} {src : PySem.Str} {t : Tok} {start e : Nat} {Q : Value → Shared → Prop}
    (hS : s.heap.get? sc = some (scanObj P src t start false)) (hP : s.heap.get? P = some (patObj C a b)) (hC : s.heap.get? C = some codeObj)
    (hl : IsLine src.cps src.cps.size start e) (hlim : src.cps.size ≤ 16777216)
    (hQ : ∀ h', h'.get? sc = some (scanObj P src t e (e == start)) → h'.get? s.heap.objs.size = some (spanObj start e) → h'.get? (s.heap.objs.size + 1) = some (matchObj P src t s.heap.objs.size) →
      (∀ b o, b ≠ sc → s.heap.get? b = some o → h'.get? b = some o) → Q (.ref (s.heap.objs.size + 1)) { s with heap := h' }) :
    wpAny (MX prog w) A (Builtin.«_sre.SRE_Scanner.search» ⟨[.ref sc], []⟩) (fun fin s' => ∃ v, fin = .done (.ret v) ∧ Q v s') E s := by
  unfold Builtin.«_sre.SRE_Scanner.search» reScan
  show wpAny _ _ (fieldsOf (.ref sc) >>= _) _ _ s
  refine wpAny_bind (wpAny_fieldsOf hS rfl ?_)
  have h0 : ¬ (reRawOf (#[.ref P, .str src t, rawInt start, rawInt 0, rawInt src.cps.size, .bool false].getD 2 .none) < 0) := by
    show ¬ ((start : Int) < 0)
    omega
  rw [if_neg h0]
  refine wpAny_bind (askX ?_)
  refine wpAny_bind (target hP hC ?_)
  show wpAny (MX prog w) A (reRunToEnd (Sre.forSearch lineCode src.cps 1 start src.cps.size false) >>= _) _ _ s
  refine wpAny_bind (found_line hl hlim fun m' f => ?_)
  dsimp only
  rw [f.hd, f.st]
  refine wpAny_bind (setX hS (by show 2 < 6; decide) fun h₁ e₁ s₁ => ?_)
  replace s₁ : Heap.SameBut sc s.heap h₁ := s₁
  refine wpAny_bind (setX e₁ (by show 5 < 6; decide) fun h₂ e₂ s₂ => ?_)
  replace s₂ : Heap.SameBut sc h₁ h₂ := s₂
  replace e₂ : h₂.get? sc = some (scanObj P src t e (e == start)) := e₂
  have hz : h₂.objs.size = s.heap.objs.size := by rw [s₂.1, s₁.1]
  have hge := (line_le hl).1
  refine wpAny_bind (new_match (s := { s with heap := h₂ }) f hge (wpAny_pure ⟨_, rfl, ?_⟩))
  dsimp only
  rw [hz]
  have hlt : sc < s.heap.objs.size := Heap.lt_size hS
  have hz1 : (h₂.push (spanObj start e)).objs.size = s.heap.objs.size + 1 := by rw [Heap.size_push, hz]
  refine hQ _ ?_ ?_ ?_ fun b o hb ho => ?_
  · exact Heap.get?_push_of_some _ (Heap.get?_push_of_some _ e₂)
  · refine Heap.get?_push_of_some _ ?_
    rw [← hz]
    exact Heap.get?_push_size _ rfl
  · rw [← hz1]
    exact Heap.get?_push_size _ rfl
  · exact Heap.get?_push_of_some _ (Heap.get?_push_of_some _ (s₂.extBut b o hb (s₁.extBut b o hb ho)))
end
end Mine
namespace Mine
open PySem PySem.W PyProof.Rows PySem.Calls PySem.Builtin PySem.Builtin.Re
theorem owner_ci : Manifest.owners.lookup (String.ofList ['r','o','t','a','r','e','t','i','_','e','l','b','a','l','l','a','c'].reverse) = some Manifest.sig_callable_iterator := by kernel_rfl
theorem slot_ci_next : Slot "callable_iterator" (Str.ofString "__next__") "callable_iterator.__next__" :=
  .of (owner := "callable_iterator") (n := "__next__") (by rw [typeLookup_type, builtinLookup_eq_fast]; kernel_rfl) (by decide +kernel) (by decide +kernel) (by decide +kernel)
    (by first | exact .inl (by decide +kernel) | exact .inr (by decide +kernel)) (by rw [isSubtype_type]; kernel_rfl)
theorem entry_ci_next : entryFor table "callable_iterator.__next__" = some Builtin.«callable_iterator.__next__» := entryFor_of_tree (by kernel_rfl)
theorem args_ci_next (a : Value) : argsOk "callable_iterator.__next__" ⟨[a], []⟩ := by
  unfold argsOk; rw [signature?_of (id := "callable_iterator.__next__") (n := ['_', '_', 't', 'x', 'e', 'n', '_', '_']) (o := ['r','o','t','a','r','e','t','i','_','e','l','b','a','l','l','a','c']) (by kernel_rfl) owner_ci]; kernel_rfl
theorem entry_search : entryFor table "_sre.SRE_Scanner.search" = some Builtin.«_sre.SRE_Scanner.search» := entryFor_of_tree (by kernel_rfl)
theorem plain_search : plainId "_sre.SRE_Scanner.search" = true := by decide +kernel
theorem owner_scan : Manifest.owners.lookup (String.ofList ['r','e','n','n','a','c','S','_','E','R','S','.','e','r','s','_'].reverse) = some Manifest.sig__sre_SRE_Scanner := by kernel_rfl
theorem sig_search : Manifest.signature? "_sre.SRE_Scanner.search" = some ⟨.nothing, "SRE_Scanner.search", "search", .self, []⟩ := by
  rw [signature?_of (id := "_sre.SRE_Scanner.search") (n := ['h','c','r','a','e','s']) (o := ['r','e','n','n','a','c','S','_','E','R','S','.','e','r','s','_']) (by kernel_rfl) owner_scan]; kernel_rfl
theorem kind_search : builtinKind "_sre.SRE_Scanner.search" = some .method := by decide +kernel
theorem scan_no_module : isSubtype (.type "_sre.SRE_Scanner") (.type "module") = pure false := by rw [isSubtype_type]; kernel_rfl
theorem slot_match_eq_refl : Slot "re.Match" (cmpInfo .Eq).2.2 "object.__eq__" :=
  .of (owner := "object") (n := "__eq__") (by rw [typeLookup_type, builtinLookup_eq_fast]; kernel_rfl) (by decide +kernel) (by decide +kernel) (by decide +kernel)
    (by first | exact .inl (by decide +kernel) | exact .inr (by decide +kernel)) (by rw [isSubtype_type]; kernel_rfl)
theorem match_no_none : isSubtype (.type "re.Match") (.type "NoneType") = pure false := by rw [isSubtype_type]; kernel_rfl
theorem entry_object_eq : entryFor table "object.__eq__" = some Builtin.«object.__eq__» := entryFor_of_tree (by kernel_rfl)
section
variable {M : Model} {prog : Program} {w : World} {A : Around} {E : Value → Shared → Prop} {s : Shared}
/-- a match object is not None -/
theorem eq_none_match {a : Addr} {o : Obj} {Q : Bool → Shared → Prop} (ho : s.heap.get? a = some o) (hc : o.cls = .type "re.Match") (hu : A.units < cLine) (h : Q false s) : wpAny (model prog w) A (eqBool .none (.ref a)) Q E s := by
  unfold eqBool
  refine wpAny_holding ?_
  refine wpAny_ite_split (fun hab => absurd (eq_of_beq hab) nofun) (fun _ => ?_)
  refine wpAny_bind (SeqAt.rc_eq_decline_or (k := false) rfl ⟨_, ho, hc⟩ (by decide) match_no_none F.slot_NoneType_eq slot_match_eq_refl
    (fun _ hq => call_gives F.slot_NoneType_eq rfl F.entry_NoneType_eq (F.args_NoneType_eq_2 _ _) (SeqAt.NoneType___eq___none_ref_0 a) hq)
    (fun _ hq => wpAny_call_entry slot_match_eq_refl ⟨_, ho, hc⟩ entry_object_eq ?_ (F.args_object_eq_2 _ _))
    (fun _ hq => wpAny_of_eq (rfl : isSame .none (.ref a) = pure false) hq) (.inr hu) (wpAny_truthy_bool h))
  exact wpAny_pure ⟨_, rfl, hq⟩
abbrev boundObj (sc : Addr) : Obj := { cls := .type "builtin_function_or_method", data := .fields #[.builtin "_sre.SRE_Scanner.search", .ref sc] }
abbrev iterObj (bm : Addr) : Obj := { cls := .type "callable_iterator", data := .fields #[.ref bm, .none, .bool false] }
theorem search_args {sc : Addr} {P : Addr} {src : PySem.Str} {t : Tok} {start : Nat} {Q : Unit → Shared → Prop} (hS : s.heap.get? sc = some (scanObj P src t start false)) (h : Q () s) :
    wpAny M A (checkBoundCall "_sre.SRE_Scanner.search" ⟨[.ref sc], []⟩) Q E s := by
  unfold checkBoundCall
  rw [sig_search, kind_search]
  dsimp only
  rw [if_neg (by decide)]
  have hT : s.TypeIs (.ref sc) "_sre.SRE_Scanner" := ⟨_, hS, rfl⟩
  refine wpAny_bind (wpAny_isInstance hT scan_no_module ?_)
  rw [if_neg (by decide +kernel)]
  refine wpAny_bind (m := isType (.ref sc)) (wpAny_bind (wpAny_loadPart hS (wpAny_pure ?_)))
  rw [if_neg (show ¬ (false = true) from nofun)]
  refine wpAny_bind (wpAny_typeOf hT ?_)
  dsimp only
  exact wpAny_of_eq (a := ()) (by kernel_rfl) h
/-- the bound method called out of its slot -/
theorem call_search {bm sc P C : Addr} {a b : Value} {src : PySem.Str} {t : Tok} {start e : Nat} {Q : Value → Shared → Prop}
    (hB : s.heap.get? bm = some (boundObj sc)) (hS : s.heap.get? sc = some (scanObj P src t start false)) (hP : s.heap.get? P = some (patObj C a b)) (hC : s.heap.get? C = some codeObj)
    (hl : IsLine src.cps src.cps.size start e) (hlim : src.cps.size ≤ 16777216)
    (hQ : ∀ h', h'.get? sc = some (scanObj P src t e (e == start)) → h'.get? s.heap.objs.size = some (spanObj start e) → h'.get? (s.heap.objs.size + 1) = some (matchObj P src t s.heap.objs.size) →
      (∀ b o, b ≠ sc → s.heap.get? b = some o → h'.get? b = some o) → Q (.ref (s.heap.objs.size + 1)) { s with heap := h' }) :
    wpAny (MX prog w) A (callOutOfASlot (.ref bm)) Q E s := by
  unfold callOutOfASlot borrowsExactly
  refine wpAny_bind (wpAny_bind (wpAny_load hB ?_))
  dsimp only
  rw [if_neg (by decide), if_pos (by decide)]
  refine wpAny_pure ?_
  rw [if_neg (by decide)]
  refine wpAny_call (codeAny_of_tree ?_)
  show wpAny (MX prog w) A.in1 (callAny (.ref bm) ⟨[], []⟩) _ _ s
  simp only [callAny]
  refine wpAny_bind (wpAny_load hB ?_)
  dsimp only
  rw [if_pos (by decide)]
  show wpAny (MX prog w) A.in1 (if (Value.type "builtin_function_or_method" != Value.type "method") = true then _ else _) _ _ s
  rw [if_pos (by decide)]
  refine wpAny_bind (search_args hS ?_)
  refine wpAny_bind (wpAny_pure (wpAny_pure ?_))
  refine And.intro (plainId_quiet plain_search _) (codeX_builtin plain_search entry_search (by decide) ?_)
  refine wpAny_mono (scan_step (Q := Q) hS hP hC hl hlim hQ) (fun fin s' h' => ?_) fun _ _ h' => h'
  obtain ⟨v, rfl, hv⟩ := h'
  exact hv
/-- the iterator's step -/
theorem iter_step {ci bm sc P C : Addr} {a b : Value} {src : PySem.Str} {t : Tok} {start e : Nat} {Q : Value → Shared → Prop}
    (hI : s.heap.get? ci = some (iterObj bm)) (hB : s.heap.get? bm = some (boundObj sc)) (hS : s.heap.get? sc = some (scanObj P src t start false)) (hP : s.heap.get? P = some (patObj C a b)) (hC : s.heap.get? C = some codeObj)
    (hl : IsLine src.cps src.cps.size start e) (hlim : src.cps.size ≤ 16777216) (hu : A.units < cLine)
    (hQ : ∀ h', h'.get? sc = some (scanObj P src t e (e == start)) → h'.get? s.heap.objs.size = some (spanObj start e) → h'.get? (s.heap.objs.size + 1) = some (matchObj P src t s.heap.objs.size) →
      (∀ b o, b ≠ sc → s.heap.get? b = some o → h'.get? b = some o) → Q (.ref (s.heap.objs.size + 1)) { s with heap := h' }) :
    wpAny (MX prog w) A (Builtin.«callable_iterator.__next__» ⟨[.ref ci], []⟩) (fun fin s' => ∃ v, fin = .done (.ret v) ∧ Q v s') E s := by
  have hne : ci ≠ sc := fun q => by
    rw [q, hS] at hI
    have q' : Value.type "_sre.SRE_Scanner" = .type "callable_iterator" := congrArg Obj.cls (Option.some.inj hI)
    exact absurd q' (by decide)
  unfold Builtin.«callable_iterator.__next__»
  show wpAny (MX prog w) A (field (.ref ci) 2 >>= _) _ _ s
  refine wpAny_bind (wpAny_field hI rfl (x := .bool false) rfl ?_)
  rw [if_neg (by decide)]
  refine wpAny_bind (m := field (.ref ci) 0) (wpAny_field hI rfl (x := .ref bm) rfl ?_)
  refine wpAny_bind (wpAny_attempt (call_search hB hS hP hC hl hlim fun h' e1 e2 e3 kp => ?_))
  dsimp only
  have hI' := kp _ _ hne hI
  refine wpAny_bind (m := field (.ref ci) 2) (wpAny_field hI' rfl (x := .bool false) rfl ?_)
  rw [if_neg (by decide)]
  refine wpAny_bind (m := field (.ref ci) 1) (wpAny_field hI' rfl (x := .none) rfl ?_)
  refine wpAny_bind (wpAny_holding (lift (eq_none_match e3 rfl hu ?_)))
  rw [if_pos (by decide)]
  exact wpAny_pure ⟨_, rfl, hQ h' e1 e2 e3 kp⟩
end
end Mine
namespace Mine
open PySem PySem.W PyProof.Rows PySem.Calls PySem.Builtin PySem.Builtin.Re
section
variable {M : Model} {prog : Program} {w : World} {A : Around} {E : Value → Shared → Prop} {s : Shared}
theorem enum_step {e ci bm sc P C : Addr} {a b : Value} {src : PySem.Str} {t : Tok} {start fin : Nat} {i : Int} {old : Value} {Q : Value → Shared → Prop}
    (he : IsEnum s.heap e ci i old) (hI : s.heap.get? ci = some (iterObj bm)) (hB : s.heap.get? bm = some (boundObj sc)) (hS : s.heap.get? sc = some (scanObj P src t start false)) (hP : s.heap.get? P = some (patObj C a b)) (hC : s.heap.get? C = some codeObj)
    (hl : IsLine src.cps src.cps.size start fin) (hlim : src.cps.size ≤ 16777216) (hu : A.units + 1 < cLine)
    (hQ : ∀ T mt sp h' tk, s.heap.objs.size ≤ T → s.heap.objs.size ≤ mt → s.heap.objs.size ≤ sp → IsEnumOut h' e ci (i + 1) (.ref mt) T → h'.get? T = some { cls := .type "tuple", data := .seq #[.int i tk, .ref mt] } →
      h'.get? mt = some (matchObj P src t sp) → h'.get? sp = some (spanObj start fin) → h'.get? sc = some (scanObj P src t fin (fin == start)) →
      (∀ b o, b ≠ e → b ≠ sc → s.heap.get? b = some o → h'.get? b = some o) → Q (.ref T) { s with heap := h', toks := tk + 1 }) :
    wpAny (MX prog w) A (Builtin.«enumerate.__next__» ⟨[.ref e], []⟩) (fun fin s' => ∃ v, fin = .done (.ret v) ∧ Q v s') E s := by
  obtain ⟨hp, g, d, tk, os⟩ := s
  have hes : e ≠ sc := fun q => by
    have h1 := he
    rw [q] at h1
    have q' : Value.type "_sre.SRE_Scanner" = .type "enumerate" := congrArg Obj.cls (Option.some.inj (hS.symm.trans h1))
    exact absurd q' (by decide)
  have hlt : @LT.lt Nat _ e hp.objs.size := Heap.lt_size he
  show wpAny (MX prog w) A (field (.ref e) 2 >>= _) _ _ _
  refine wpAny_bind (wpAny_field he rfl (x := .ref ci) rfl ?_)
  have hT : Shared.TypeIs ⟨hp, g, d, tk, os⟩ (.ref ci) "callable_iterator" := ⟨_, hI, rfl⟩
  refine wpAny_bind (m := Builtin.SmallTypes.nextOf (.ref ci)) ?_
  unfold Builtin.SmallTypes.nextOf
  refine wpAny_bind (wpAny_callSpecial?_slot (name := PySem.Str.ofString "__next__") hT slot_ci_next (callX_entry slot_ci_next hT entry_ci_next (iter_step hI hB hS hP hC hl hlim hu fun h₁ e1 e2 e3 kp => ?_) (args_ci_next _)))
  replace e2 : h₁.get? hp.objs.size = some (spanObj start fin) := e2
  replace e3 : h₁.get? (hp.objs.size + 1) = some (matchObj P src t hp.objs.size) := e3
  replace kp : ∀ b o, b ≠ sc → hp.get? b = some o → h₁.get? b = some o := kp
  dsimp only
  refine wpAny_pure ?_
  generalize hmt : hp.objs.size + 1 = mt at e3
  generalize hsp : hp.objs.size = sp at e2 e3
  have he₁ : IsEnum h₁ e ci i old := kp _ _ hes he
  show wpAny (MX prog w) A (field (.ref e) 3 >>= _) _ _ ⟨h₁, g, d, tk, os⟩
  refine wpAny_bind (wpAny_field he₁ rfl (x := rawInt i) rfl ?_)
  show wpAny (MX prog w) A (field (.ref e) 4 >>= _) _ _ ⟨h₁, g, d, tk, os⟩
  refine wpAny_bind (wpAny_field he₁ rfl (x := .none) rfl ?_)
  show wpAny (MX prog w) A (mkInt i >>= _) _ _ ⟨h₁, g, d, tk, os⟩
  refine wpAny_bind (wpAny_mkInt ?_)
  show wpAny (MX prog w) A (setField (.ref e) 3 (rawInt (i + 1)) >>= _) _ _ ⟨h₁, g, d, tk + 1, os⟩
  refine wpAny_bind (setX he₁ (by show 3 < 6; decide) fun h₂ he₂ hs₂ => ?_)
  replace hs₂ : Heap.SameBut e h₁ h₂ := hs₂
  replace he₂ : IsEnum h₂ e ci (i + 1) old := he₂
  show wpAny (MX prog w) A (setField (.ref e) 4 .none >>= _) _ _ ⟨h₂, g, d, tk + 1, os⟩
  refine wpAny_bind (setX he₂ (by show 4 < 6; decide) fun h₃ he₃ hs₃ => ?_)
  replace hs₃ : Heap.SameBut e h₂ h₃ := hs₃
  replace he₃ : IsEnum h₃ e ci (i + 1) old := he₃
  show wpAny (MX prog w) A (newTuple [.int i tk, .ref mt] >>= _) _ _ ⟨h₃, g, d, tk + 1, os⟩
  refine wpAny_bind (wpAny_newTuple ?_)
  have he₄ : IsEnum (h₃.push { cls := .type "tuple", data := .seq #[.int i tk, .ref mt] }) e ci (i + 1) old := Heap.get?_push_of_some _ he₃
  have ht₄ : (h₃.push { cls := .type "tuple", data := .seq #[.int i tk, .ref mt] }).get? h₃.objs.size = some { cls := .type "tuple", data := .seq #[.int i tk, .ref mt] } := Heap.get?_push_size _ rfl
  have hz₃ : h₃.objs.size = h₁.objs.size := by rw [hs₃.1, hs₂.1]
  have hle : hp.objs.size + 1 < h₁.objs.size := by
    rw [hmt]; exact Heap.lt_size e3
  have up₄ : ∀ b o, b ≠ e → h₁.get? b = some o → (h₃.push { cls := .type "tuple", data := .seq #[.int i tk, .ref mt] }).get? b = some o := fun b o hb h => Heap.get?_push_of_some _ (hs₃.extBut b o hb (hs₂.extBut b o hb h))
  show wpAny (MX prog w) A (Builtin.SmallTypes.ownedTupleIsFree (.ref e) >>= _) _ _ ⟨h₃.push { cls := .type "tuple", data := .seq #[.int i tk, .ref mt] }, g, d, tk + 1, os⟩
  show wpAny (MX prog w) A (Builtin.SmallTypes.ownedTupleIsFree (.ref e) >>= fun r => _) _ _ _
  generalize hT3 : h₃.objs.size = T at ht₄ hz₃
  generalize h₃.push { cls := .type "tuple", data := .seq #[.int i tk, .ref mt] } = h₄ at he₄ ht₄ up₄
  refine wpAny_bind ?_
  unfold Builtin.SmallTypes.ownedTupleIsFree
  refine wpAny_bind (wpAny_field he₄ rfl (x := .none) rfl (wpAny_pure ?_))
  rw [if_pos rfl]
  refine wpAny_bind (wpAny_rule ?_)
  refine wpAny_bind (wpAny_field he₄ rfl (x := old) rfl ?_)
  refine wpAny_bind (setX he₄ (by show 5 < 6; decide) fun h₅ he₅ hs₅ => ?_)
  replace hs₅ : Heap.SameBut e h₄ h₅ := hs₅
  replace he₅ : IsEnum h₅ e ci (i + 1) (.ref mt) := he₅
  refine wpAny_bind ?_
  unfold Builtin.SmallTypes.ownedTupleHandOut
  refine wpAny_bind (setX he₅ (by show 0 < 6; decide) fun h₆ he₆ hs₆ => ?_)
  replace hs₆ : Heap.SameBut e h₅ h₆ := hs₆
  replace he₆ : IsEnumOut h₆ e ci (i + 1) (.ref mt) T := he₆
  refine setX he₆ (by show 1 < 6; decide) fun h₇ he₇ hs₇ => ?_
  replace hs₇ : Heap.SameBut e h₆ h₇ := hs₇
  replace he₇ : IsEnumOut h₇ e ci (i + 1) (.ref mt) T := he₇
  have up : ∀ b o, b ≠ e → h₄.get? b = some o → h₇.get? b = some o := fun b o hb h => hs₇.extBut b o hb (hs₆.extBut b o hb (hs₅.extBut b o hb h))
  have n1 : T ≠ e := by omega
  have n2 : mt ≠ e := by omega
  have n3 : sp ≠ e := by omega
  refine wpAny_bind (wpAny_letGo (wpAny_pure ⟨_, rfl, hQ T mt sp h₇ tk (by show hp.objs.size ≤ T; omega) (by show hp.objs.size ≤ mt; omega) (by show hp.objs.size ≤ sp; omega) he₇ (up _ _ n1 ht₄) (up _ _ n2 (up₄ _ _ n2 e3)) (up _ _ n3 (up₄ _ _ n3 e2)) (up _ _ (Ne.symm hes) (up₄ _ _ (Ne.symm hes) e1)) fun b o hb hb' h => up b o hb (up₄ b o hb (kp b o hb' h))⟩))
end
end Mine
namespace Mine
open PySem PySem.W PyProof.Rows PySem.Calls PySem.Builtin PySem.Builtin.Re
theorem scan_ga : typeLookup (.type "_sre.SRE_Scanner") "__getattribute__" = pure (some (.builtin "object.__getattribute__")) := by rw [typeLookup_type, builtinLookup_eq_fast]; kernel_rfl
theorem slot_scan_ga : Slot "_sre.SRE_Scanner" "__getattribute__" "object.__getattribute__" :=
  .of (owner := "object") (n := "__getattribute__") (by rw [typeLookup_type, builtinLookup_eq_fast]; kernel_rfl) (by decide +kernel) (by decide +kernel) (by decide +kernel)
    (by first | exact .inl (by decide +kernel) | exact .inr (by decide +kernel)) (by rw [isSubtype_type]; kernel_rfl)
theorem entry_oga : entryFor table "object.__getattribute__" = some Builtin.«object.__getattribute__» := entryFor_of_tree (by kernel_rfl)
theorem scan_search : typeLookup (.type "_sre.SRE_Scanner") (Str.ofString "search") = pure (some (.builtin "_sre.SRE_Scanner.search")) := by rw [typeLookup_type, builtinLookup_eq_fast]; kernel_rfl
theorem type_search : typeOf (.builtin "_sre.SRE_Scanner.search") = pure (.type "method_descriptor") := by show builtinType _ = _; rw [builtinType_eq_fast]; kernel_rfl
theorem md_get : typeLookup (.type "method_descriptor") "__get__" = pure (some (.builtin "method_descriptor.__get__")) := by rw [typeLookup_type, builtinLookup_eq_fast]; kernel_rfl
theorem md_set : typeLookup (.type "method_descriptor") "__set__" = pure none := by rw [typeLookup_type, builtinLookup_eq_fast]; kernel_rfl
theorem md_del : typeLookup (.type "method_descriptor") "__delete__" = pure none := by rw [typeLookup_type, builtinLookup_eq_fast]; kernel_rfl
theorem slot_md_get : Slot "method_descriptor" "__get__" "method_descriptor.__get__" :=
  .of (owner := "method_descriptor") (n := "__get__") (by rw [typeLookup_type, builtinLookup_eq_fast]; kernel_rfl) (by decide +kernel) (by decide +kernel) (by decide +kernel)
    (by first | exact .inl (by decide +kernel) | exact .inr (by decide +kernel)) (by rw [isSubtype_type]; kernel_rfl)
theorem entry_md_get : entryFor table "method_descriptor.__get__" = some Builtin.«method_descriptor.__get__» := entryFor_of_tree (by kernel_rfl)
theorem args_md_get (a b c : Value) : argsOk "method_descriptor.__get__" ⟨[a, b, c], []⟩ := by unfold argsOk; kernel_rfl
theorem scan_sub : isSubtype (.type "_sre.SRE_Scanner") (.type "_sre.SRE_Scanner") = pure true := by rw [isSubtype_type]; kernel_rfl
section
variable {M : Model} {prog : Program} {w : World} {A : Around} {E : Value → Shared → Prop} {s : Shared}
theorem check_inst {sc P : Addr} {src : PySem.Str} {t : Tok} {start : Nat} {Q : Unit → Shared → Prop} (hS : s.heap.get? sc = some (scanObj P src t start false)) (h : Q () s) :
    wpAny M A ((kfb_private% "checkInstance") (.builtin "_sre.SRE_Scanner.search") (.ref sc)) Q E s := by
  have hT : s.TypeIs (.ref sc) "_sre.SRE_Scanner" := ⟨_, hS, rfl⟩
  refine wpAny_bind (wpAny_of_eq (a := (Str.ofString "search", .type "_sre.SRE_Scanner")) (by kernel_rfl) ?_)
  refine wpAny_bind (m := isInstance (.ref sc) (.type "_sre.SRE_Scanner")) (wpAny_isInstance hT scan_sub ?_)
  exact wpAny_pure h
theorem run_md_get {sc P : Addr} {src : PySem.Str} {t : Tok} {start : Nat} {R : Fin → Shared → Prop} (hS : s.heap.get? sc = some (scanObj P src t start false))
    (h : R (.done (.ret (.ref s.heap.objs.size))) { s with heap := s.heap.push (boundObj sc) }) :
    wpAny M A (Builtin.«method_descriptor.__get__» ⟨[.builtin "_sre.SRE_Scanner.search", .ref sc, .type "_sre.SRE_Scanner"], []⟩) R E s := by
  unfold Builtin.«method_descriptor.__get__»
  refine wpAny_bind (wpAny_of_eq (a := (.builtin "_sre.SRE_Scanner.search", some (.ref sc), some (.type "_sre.SRE_Scanner"))) (by first | rfl | kernel_rfl) ?_)
  dsimp only
  rw [if_pos (by decide +kernel)]
  refine wpAny_bind (check_inst hS ?_)
  refine wpAny_bind (m := isType (.type "_sre.SRE_Scanner")) (wpAny_of_eq (a := true) rfl ?_)
  rw [if_neg (by decide)]
  refine wpAny_bind (check_inst hS ?_)
  exact wpAny_bind (m := newFields "builtin_function_or_method" [.builtin "_sre.SRE_Scanner.search", .ref sc]) (wpAny_newObj_type (wpAny_pure h) (by size_fits))
/-- scanner.search, bound -/
theorem get_search {sc P : Addr} {src : PySem.Str} {t : Tok} {start : Nat} {Q : Value → Shared → Prop} (hS : s.heap.get? sc = some (scanObj P src t start false))
    (h : Q (.ref s.heap.objs.size) { s with heap := s.heap.push (boundObj sc), toks := s.toks + 1 }) : wpAny (model prog w) A (getAttr (.ref sc) (Str.ofString "search")) Q E s := by
  have hT : s.TypeIs (.ref sc) "_sre.SRE_Scanner" := ⟨_, hS, rfl⟩
  obtain ⟨hp, g, d, tk, os⟩ := s
  unfold getAttr
  refine wpAny_bind (m := mkText (Str.ofString "search")) (wpAny_bind (m := fresh) (wpAny_fresh (wpAny_pure ?_)))
  have hT : Shared.TypeIs ⟨hp, g, d, tk + 1, os⟩ (.ref sc) "_sre.SRE_Scanner" := ⟨_, hS, rfl⟩
  unfold getAttrBy
  refine wpAny_holding (wpAny_bind (wpAny_typeOf hT (wpAny_bind (wpAny_of_eq scan_ga ?_))))
  dsimp only
  rw [if_neg (by decide)]
  unfold getAttrByItsOwn
  refine wpAny_bind (m := hookBefore _) (wpAny_of_eq (a := none) rfl ?_)
  refine wpAny_bind (wpAny_attempt (wpAny_holding ?_))
  unfold callGetattribute
  rw [if_neg (by decide)]
  unfold boundAndCalled
  refine wpAny_bind (wpAny_of_eq (a := (.builtin "object.__getattribute__", [.ref sc])) (slot_scan_ga.bind _) ?_)
  refine wpAny_call_entry slot_scan_ga hT entry_oga ?_ (F.args_object_getattribute_2 _ _)
  unfold Builtin.«object.__getattribute__»
  refine wpAny_bind (m := slotArgs _ _ _) (wpAny_of_eq (a := (.ref sc, [.str (Str.ofString "search") tk])) rfl ?_)
  dsimp only
  refine wpAny_bind (m := ObjectAttr.attrName _) (wpAny_of_eq (a := Str.ofString "search") rfl ?_)
  refine wpAny_bind (wpAny_typeOf hT ?_)
  refine wpAny_bind (m := ObjectAttr.find _ _ _) ?_
  unfold ObjectAttr.find
  refine wpAny_bind (wpAny_of_eq scan_search ?_)
  have hF : Shared.TypeIs ⟨hp, g, d, tk + 1, os⟩ (.builtin "_sre.SRE_Scanner.search") "method_descriptor" := type_search
  refine wpAny_bind (m := ObjectAttr.getOf _) (wpAny_specialOf hF md_get ?_)
  refine wpAny_bind (m := ObjectAttr.dataDescriptor? _ _) ?_
  unfold ObjectAttr.dataDescriptor? ObjectAttr.takesStores
  refine wpAny_bind (wpAny_bind (wpAny_specialOf hF md_set ?_))
  rw [if_neg (by decide)]
  refine wpAny_bind (wpAny_specialOf hF md_del (wpAny_pure ?_))
  rw [if_neg (by decide)]
  refine wpAny_pure ?_
  dsimp only
  unfold ObjectAttr.ownThenClass
  refine wpAny_bind (m := ObjectAttr.inOwnDict _ _) ?_
  unfold ObjectAttr.inOwnDict ObjectAttr.ownDict
  refine wpAny_bind (wpAny_bind (wpAny_loadPart hS ?_))
  dsimp only
  refine wpAny_bind (wpAny_loadPart hS ?_)
  refine wpAny_of_eq (a := none) rfl ?_
  refine wpAny_of_eq (a := none) rfl ?_
  dsimp only
  refine wpAny_bind (m := ObjectAttr.copiedAttributeGuard _ _) (wpAny_of_eq (a := ()) (by kernel_rfl) ?_)
  unfold ObjectAttr.byTheClass
  refine wpAny_bind (wpAny_rule (wpAny_pure ?_))
  dsimp only
  unfold ObjectAttr.bindTo
  dsimp only
  refine wpAny_bind (wpAny_holding (wpAny_call_entry slot_md_get hF entry_md_get (run_md_get hS ⟨_, rfl, wpAny_pure ⟨_, rfl, ?_⟩⟩) (args_md_get _ _ _)))
  dsimp only
  exact wpAny_pure h
abbrev enumObj (ci : Addr) (i : Int) (old : Value) : Obj := { cls := .type "enumerate", data := .fields #[.none, .bool false, .ref ci, rawInt i, .none, old] }
theorem slot_finditer : Slot "re.Pattern" (Str.ofString "finditer") "re.Pattern.finditer" :=
  .of (owner := "re.Pattern") (n := "finditer") (by rw [typeLookup_type, builtinLookup_eq_fast]; kernel_rfl) (by decide +kernel) (by decide +kernel) (by decide +kernel)
    (by first | exact .inl (by decide +kernel) | exact .inr (by decide +kernel)) (by rw [isSubtype_type]; kernel_rfl)
theorem entry_finditer : entryFor table "re.Pattern.finditer" = some Builtin.«re.Pattern.finditer» := entryFor_of_tree (by kernel_rfl)
theorem owner_pattern : Manifest.owners.lookup (String.ofList ['n','r','e','t','t','a','P','.','e','r'].reverse) = some Manifest.sig_re_Pattern := by kernel_rfl
theorem args_finditer (a : Value) (x : PySem.Str) (t : Tok) : argsOk "re.Pattern.finditer" ⟨[a, .str x t], []⟩ := by
  unfold argsOk; rw [signature?_of (id := "re.Pattern.finditer") (n := ['r','e','t','i','d','n','i','f']) (o := ['n','r','e','t','t','a','P','.','e','r']) (by kernel_rfl) owner_pattern]; kernel_rfl
theorem plain_pattern : PlainAttrs "re.Pattern" := ⟨⟨"object.__getattribute__", by rw [typeLookup_type, builtinLookup_eq_fast]; kernel_rfl, by decide +kernel⟩, by rw [typeLookup_type, builtinLookup_eq_fast]; kernel_rfl⟩
theorem type_finditer : typeOf (.builtin "re.Pattern.finditer") = pure (.type "method_descriptor") := by show builtinType _ = _; rw [builtinType_eq_fast]; kernel_rfl
theorem get_finditer {P C : Addr} {a b : Value} {pl : Sem Bool} {Q : Value × List Value → Shared → Prop} (hP : s.heap.get? P = some (patObj C a b)) (h : Q (.builtin "re.Pattern.finditer", [.ref P]) s) :
    wpAny (model prog w) A (getMethod (.ref P) (Str.ofString "finditer") pl) Q E s :=
  getMethod_builtin ⟨_, hP, rfl⟩ plain_pattern slot_finditer type_finditer (fun x e => by cases e; exact ⟨_, hP, rfl⟩) h
end
end Mine
namespace Mine
open PySem PySem.W PyProof.Rows PySem.Calls PySem.Builtin PySem.Builtin.Re
section
variable {M : Model} {prog : Program} {w : World} {A : Around} {E : Value → Shared → Prop} {s : Shared}
theorem str_no_bytearray : isSubtype (.type "str") (.type "bytearray") = pure false := by rw [isSubtype_type]; kernel_rfl
theorem named_fi (src : PySem.Str) (t : Tok) : reNamed "re.Pattern.finditer" "finditer" ["string", "pos", "endpos"] 1 [.str src t] [] = pure [some (.str src t), none, none] := by first | rfl | kernel_rfl
theorem target_fi {P C : Addr} {a b : Value} {src : PySem.Str} {t : Tok} {Q : ReTarget → Shared → Prop} (hP : s.heap.get? P = some (patObj C a b)) (hC : s.heap.get? C = some codeObj) (hlim : src.cps.size ≤ 16777216)
    (h : Q { pattern := .ref P, string := .str src t, code := lineCode, text := src.cps, kind := 0, groups := 1, pos := 0, lim := src.cps.size } s) :
    wpAny M A (reTarget "re.Pattern.finditer" "finditer" ⟨[.ref P, .str src t], []⟩) Q E s := by
  unfold reTarget
  dsimp only
  refine wpAny_bind (wpAny_of_eq (named_fi src t) ?_)
  dsimp only
  refine wpAny_bind (wpAny_pure (wpAny_bind (wpAny_pure ?_)))
  refine wpAny_bind (wpAny_fieldsOf hP rfl ?_)
  refine wpAny_bind (m := reTextOf (.str src t)) (wpAny_of_eq (a := (src.cps, 0)) rfl ?_)
  refine wpAny_bind (m := reRawItems _) (wpAny_bind (wpAny_bind (wpAny_load hC (wpAny_pure (wpAny_pure ?_)))))
  refine wpAny_pure ?_
  have e : Array.map (fun x => x.toNat) (Array.map reRawOf ((some (lineCode.map fun (n : Nat) => Value.int (n : Int) 0)).getD #[])) = lineCode := codes_back
  have e2 : Min.min (Int.toNat 0) src.cps.size = 0 := by simp
  have e3 : Min.min (2 ^ 63 - 1 : Int).toNat src.cps.size = src.cps.size := by
    have : (2 ^ 63 - 1 : Int).toNat = 9223372036854775807 := by decide
    rw [this]; omega
  dsimp only
  rw [e, e2, e3]
  exact h
/-- the iterator over the lines -/
theorem run_finditer {P C : Addr} {a b : Value} {src : PySem.Str} {t : Tok} {R : Fin → Shared → Prop} (hP : s.heap.get? P = some (patObj C a b)) (hC : s.heap.get? C = some codeObj) (hlim : src.cps.size ≤ 16777216)
    (h : R (.done (.ret (.ref (s.heap.objs.size + 2)))) { s with heap := ((s.heap.push (scanObj P src t 0 false)).push (boundObj s.heap.objs.size)).push (iterObj (s.heap.objs.size + 1)), toks := s.toks + 1 }) :
    wpAny (model prog w) A (Builtin.«re.Pattern.finditer» ⟨[.ref P, .str src t], []⟩) R E s := by
  unfold Builtin.«re.Pattern.finditer»
  refine wpAny_bind (target_fi hP hC hlim ?_)
  dsimp only
  refine wpAny_bind (m := reNotHeld _ _) ?_
  unfold reNotHeld
  refine wpAny_bind (wpAny_isInstance (T := "str") (show s.TypeIs (.str src t) "str" from rfl) str_no_bytearray ?_)
  rw [if_neg (by decide)]
  refine wpAny_pure ?_
  refine wpAny_bind (m := newFields "_sre.SRE_Scanner" [.ref P, .str src t, rawInt 0, rawInt 0, rawInt src.cps.size, .bool false]) (wpAny_newObj_type ?_ (by size_fits))
  have hz : (s.heap.push (scanObj P src t 0 false)).objs.size = s.heap.objs.size + 1 := Heap.size_push ..
  have hS : (s.heap.push (scanObj P src t 0 false)).get? s.heap.objs.size = some (scanObj P src t 0 false) := Heap.get?_push_size _ rfl
  refine wpAny_bind (wpAny_holding (get_search (s := { s with heap := s.heap.push (scanObj P src t 0 false) }) hS ?_))
  have hz2 : ((s.heap.push (scanObj P src t 0 false)).push (boundObj s.heap.objs.size)).objs.size = s.heap.objs.size + 2 := by rw [Heap.size_push, hz]
  refine wpAny_bind (m := newFields "callable_iterator" [.ref (s.heap.push (scanObj P src t 0 false)).objs.size, .none, .bool false]) (wpAny_newObj_type ?_ (by size_fits))
  refine wpAny_pure ?_
  dsimp only
  rw [hz2, hz]
  exact h
theorem call_finditer {P C : Addr} {a b : Value} {src : PySem.Str} {t : Tok} {Q : Value → Shared → Prop} (hP : s.heap.get? P = some (patObj C a b)) (hC : s.heap.get? C = some codeObj) (hlim : src.cps.size ≤ 16777216)
    (h : Q (.ref (s.heap.objs.size + 2)) { s with heap := ((s.heap.push (scanObj P src t 0 false)).push (boundObj s.heap.objs.size)).push (iterObj (s.heap.objs.size + 1)), toks := s.toks + 1 }) :
    wpAny (model prog w) A (call (.builtin "re.Pattern.finditer") [.ref P, .str src t]) Q E s :=
  wpAny_call_entry slot_finditer ⟨_, hP, rfl⟩ entry_finditer (run_finditer hP hC hlim ⟨_, rfl, h⟩) (args_finditer _ _ _)
end
end Mine
namespace Mine
open PySem PySem.W PyProof.Rows PySem.Calls PySem.Builtin PySem.Builtin.Re
open AutoSeq1 (wpAny_loadPart')
theorem slot_ci_iter : Slot "callable_iterator" "__iter__" "callable_iterator.__iter__" :=
  .of (owner := "callable_iterator") (n := "__iter__") (by rw [typeLookup_type, builtinLookup_eq_fast]; kernel_rfl) (by decide +kernel) (by decide +kernel) (by decide +kernel)
    (by first | exact .inl (by decide +kernel) | exact .inr (by decide +kernel)) (by rw [isSubtype_type]; kernel_rfl)
theorem entry_ci_iter : entryFor table "callable_iterator.__iter__" = some Builtin.«dict_keyiterator.__iter__» :=
  entryFor_alias (id' := "dict_keyiterator.__iter__") (by kernel_rfl) (by first | rfl | decide +kernel | (unfold String.splitOn; simp +decide [String.splitOnAux])) (by decide +kernel) (by kernel_rfl)
theorem args_ci_iter (a : Value) : argsOk "callable_iterator.__iter__" ⟨[a], []⟩ := by
  unfold argsOk; rw [signature?_of (id := "callable_iterator.__iter__") (n := ['_', '_', 'r', 'e', 't', 'i', '_', '_']) (o := ['r','o','t','a','r','e','t','i','_','e','l','b','a','l','l','a','c']) (by kernel_rfl) owner_ci]; kernel_rfl
section
variable {M : Model} {prog : Program} {w : World} {A : Around} {E : Value → Shared → Prop} {s : Shared}
theorem pyIter_ci {ci bm : Addr} {Q : Value → Shared → Prop} (hI : s.heap.get? ci = some (iterObj bm)) (h : Q (.ref ci) s) : wpAny (model prog w) A (pyIter (.ref ci)) Q E s := by
  have hT : s.TypeIs (.ref ci) "callable_iterator" := ⟨_, hI, rfl⟩
  refine wpAny_pyIter_slot hT slot_ci_iter (wpAny_call_entry slot_ci_iter hT entry_ci_iter ?_ (args_ci_iter _))
  show wpAny _ _ (ret (.ref ci)) _ _ s
  exact wpAny_pure ⟨_, rfl, "callable_iterator", _, hT, slot_ci_next.lookup, h⟩
theorem meets_enum1 (ci bm : Addr) (t : Tok) :
    Meets (Builtin.«enumerate.__new__» ⟨[.type "enumerate", .ref ci, .int 1 t], []⟩) (fun _ R s => s.heap.get? ci = some (iterObj bm) ∧
      R (.ok (.ret (.ref s.heap.objs.size))) { s with heap := s.heap.push (enumObj ci 1 .none) }) :=
  .of_wp fun prog w A R s h => by
    obtain ⟨hp, g, d, tk, os⟩ := s; obtain ⟨hl, h⟩ := h
    have hsub := sub_enumerate
    wp_walk using wpAny_loadPart' hl
    refine wpAny_stack_any fun st => wpAny_pure ?_
    have fin : wpAny (model prog w) A.in1 (do
        let it ← pyIter (.ref ci)
        let r ← SmallTypes.newRecord (.type "enumerate") (SmallTypes.ownedTupleFields ++ [it, rawInt 1, .none, .none])
        ret r) (fun fin s' => ∃ v, fin = Fin.done (Flow.ret v) ∧ R (Except.ok (Flow.ret v)) s') (fun e s' => R (Except.error e) s') ⟨hp, g, d, tk, os⟩ := by
      refine wpAny_bind (pyIter_ci hl ?_)
      wp_walk using wpAny_loadPart' hl
      exact ⟨_, rfl, h⟩
    split
    · rename_i c _ _ _ _ _
      cases (c == Value.type "enumerate")
      · refine wpAny_bind (wpAny_of_eq (a := (.ref ci, some (.int 1 t))) rfl ?_)
        refine wpAny_bind (wpAny_of_eq (a := .int 1 t) rfl ?_)
        refine wpAny_bind (wpAny_of_eq (a := some 1) rfl ?_)
        exact fin
      · refine wpAny_bind (wpAny_of_eq (a := (.ref ci, some (.int 1 t))) rfl ?_)
        refine wpAny_bind (wpAny_of_eq (a := .int 1 t) rfl ?_)
        refine wpAny_bind (wpAny_of_eq (a := some 1) rfl ?_)
        exact fin
    · refine wpAny_bind (wpAny_of_eq (a := (.ref ci, some (.int 1 t))) rfl ?_)
      refine wpAny_bind (wpAny_of_eq (a := .int 1 t) rfl ?_)
      refine wpAny_bind (wpAny_of_eq (a := some 1) rfl ?_)
      exact fin
theorem typeCall_enumerate_2 (a b : Value) : checkTypeCall "enumerate" ⟨[a, b], []⟩ = pure () := by kernel_rfl
theorem newCall_enumerate_2 (a b : Value) : checkBuiltinCall "enumerate.__new__" ⟨[.type "enumerate", a, b], []⟩ = pure () := by kernel_rfl
/-- enumerate(iterator, 1) -/
theorem call_enum1 {ci bm : Addr} {t : Tok} {Q : Value → Shared → Prop} (hI : s.heap.get? ci = some (iterObj bm)) (h : Q (.ref s.heap.objs.size) { s with heap := s.heap.push (enumObj ci 1 .none) }) :
    wpAny (model prog w) A (call (.type "enumerate") [.ref ci, .int 1 t]) Q E s := by
  refine callType_new F.called_enumerate (by decide) (typeCall_enumerate_2 _ _) (newCall_enumerate_2 _ _) (fun obj => F.initArgs_range_2 obj _ _) F.entry_enumerate_new (meets_enum1 ci bm t) ⟨hI, ?_⟩
  show _ ∧ _
  exact ⟨⟨_, Heap.get?_push_size _ rfl, rfl⟩, h⟩
end
end Mine
namespace Mine
open PySem PySem.W PyProof.Rows PySem.Calls PySem.Builtin PySem.Builtin.Re
section
variable {prog : Program} {w : World} {A : Around} {E : Value → Shared → Prop} {s : Shared} {K : Frag} {h₀ : Heap} {L : Addr} {m : PySem.Str → Option Value} {news : List (Addr × Obj)}
theorem get_finditer_K {P C : Addr} {a b : Value} {pl : Sem Bool} {Q : Value × List Value → Shared → Prop} (F : Fr h₀ L s.heap m) (X₀ : K.In h₀) (hP : K.lookup P = some (patObj C a b)) (h : Q (.builtin "re.Pattern.finditer", [.ref P]) s) :
    wpAny (model prog w) A (getMethod (.ref P) (Str.ofString "finditer") pl) Q E s := get_finditer ((X₀.keeps F.keep) _ _ hP) h
theorem finditer_K {P C : Addr} {a b : Value} {src : PySem.Str} {t : Tok} {Q : Value → Shared → Prop} (F : Fr h₀ L s.heap m) (N : News h₀ L s.heap news) (X₀ : K.In h₀) (hP : K.lookup P = some (patObj C a b)) (hC : K.lookup C = some codeObj) (hlim : src.cps.size ≤ 16777216)
    (h : ∀ x h', Fr h₀ L h' m → News h₀ L h' ((x + 2, iterObj (x + 1)) :: (x + 1, boundObj x) :: (x, scanObj P src t 0 false) :: news) → (∀ p ∈ news, p.1 < x) → Q (.ref (x + 2)) { s with heap := h', toks := s.toks + 1 }) :
    wpAny (model prog w) A (call (.builtin "re.Pattern.finditer") [.ref P, .str src t]) Q E s := by
  refine call_finditer ((X₀.keeps F.keep) _ _ hP) ((X₀.keeps F.keep) _ _ hC) hlim ?_
  have F1 := F.push (scanObj P src t 0 false)
  have N1 := News.push F N (scanObj P src t 0 false)
  have F2 := F1.push (boundObj s.heap.objs.size)
  have N2 := News.push F1 N1 (boundObj s.heap.objs.size)
  have F3 := F2.push (iterObj (s.heap.objs.size + 1))
  have N3 := News.push F2 N2 (iterObj (s.heap.objs.size + 1))
  rw [Heap.size_push, Heap.size_push] at N3
  exact h _ _ F3 N3 fun p hp => Heap.lt_size (N p hp).1
theorem enum_K {ci bm : Addr} {t : Tok} {Q : Value → Shared → Prop} (F : Fr h₀ L s.heap m) (N : News h₀ L s.heap news) (hm : (ci, iterObj bm) ∈ news)
    (h : ∀ x h', Fr h₀ L h' m → News h₀ L h' ((x, enumObj ci 1 .none) :: news) → (∀ p ∈ news, p.1 < x) → Q (.ref x) { s with heap := h' }) :
    wpAny (model prog w) A (call (.type "enumerate") [.ref ci, .int 1 t]) Q E s :=
  call_enum1 (N.get hm) (h _ _ (F.push _) (News.push F N _) fun p hp => Heap.lt_size (N p hp).1)
end
end Mine
namespace Mine
open PySem PySem.W PyProof.Rows PySem.Calls PySem.Builtin PySem.Builtin.Re
/-- the frame's names, with the two that a turn stores -/
abbrev ov (m : PySem.Str → Option Value) (k : Int) (tk : Tok) (mt : Addr) : PySem.Str → Option Value :=
  fun y => if y = Str.ofString "match" then some (.ref mt) else if y = Str.ofString "lineno" then some (.int k tk) else m y
theorem ov_ov (m : PySem.Str → Option Value) (k k' : Int) (tk tk' : Tok) (mt mt' : Addr) : ov (ov m k tk mt) k' tk' mt' = ov m k' tk' mt' := by
  funext y
  unfold ov
  split
  · rfl
  · split <;> rfl
/-- what stands on the ledger while the loop runs, ahead of the caller's -/
abbrev loopN (e ci bm sc P D : Addr) (src : PySem.Str) (t : Tok) (k : Int) (old : Value) (pos : Nat) (must : Bool) (oD : Obj) (news : List (Addr × Obj)) : List (Addr × Obj) :=
  (e, enumObj ci k old) :: (ci, iterObj bm) :: (bm, boundObj sc) :: (sc, scanObj P src t pos must) :: (D, oD) :: news
section
variable {prog : Program} {w : World} {A : Around} {s : Shared} {R : Result → Shared → Prop}
theorem turnX {e ci bm sc P C D L : Addr} {a b : Value} {src : PySem.Str} {t : Tok} {pos fin : Nat} {k : Int} {old : Value} {oD : Obj} {g : Heap} {m : PySem.Str → Option Value} {news : List (Addr × Obj)} {qual : PySem.Str} {scope : Scope} {f : Addr} {cdv : Value} {body : List PySem.Stmt} {p1 p2 p3 : Pos}
    (F : Fr g L s.heap m) (N : News g L s.heap (loopN e ci bm sc P D src t k old pos false oD news)) (hP : s.heap.get? P = some (patObj C a b)) (hC : s.heap.get? C = some codeObj)
    (hDe : D ≠ e) (hDs : D ≠ sc) (hne : ∀ p ∈ news, p.1 ≠ e ∧ p.1 ≠ sc)
    (hl : IsLine src.cps src.cps.size pos fin) (hlim : src.cps.size ≤ 16777216) (hu : A.units + 3 < cLine) (hh : A.handled = none)
    (hk : scope.kind = .function) (hx1 : scope.names.lookup (Str.ofString "lineno") = some .local) (hx2 : scope.names.lookup (Str.ofString "match") = some .local)
    (hb : ∀ mt sp h' tk tk', Fr g L h' (ov m k tk mt) → News g L h' ((mt, matchObj P src t sp) :: (sp, spanObj pos fin) :: loopN e ci bm sc P D src t (k + 1) (.ref mt) fin (fin == pos) oD news) → (∀ p ∈ loopN e ci bm sc P D src t k old pos false oD news, p.1 < mt ∧ p.1 < sp) →
      (∀ b o, b ≠ e → b ≠ sc → b ≠ L → s.heap.get? b = some o → h'.get? b = some o) →
      wpAny (MX prog w) A (execs body (envOf qual scope L f cdv)) (fun fl s' => match fl with
        | .next | .cont => codeAny (MX prog w) A (.forLoop (.Tuple [.Name (Str.ofString "lineno") p1, .Name (Str.ofString "match") p2] 0 p3) (.ref e) body [] (envOf qual scope L f cdv)) R s'
        | .brk => R (.ok .next) s'
        | .ret v => R (.ok (.ret v)) s') (fun _ _ => False) { s with heap := h', toks := tk' }) :
    codeAny (MX prog w) A (.forLoop (.Tuple [.Name (Str.ofString "lineno") p1, .Name (Str.ofString "match") p2] 0 p3) (.ref e) body [] (envOf qual scope L f cdv)) R s := by
  have he : IsEnum s.heap e ci k old := (N _ (.head _)).1
  have hI : s.heap.get? ci = some (iterObj bm) := (N _ (.tail _ (.head _))).1
  have hB : s.heap.get? bm = some (boundObj sc) := (N _ (.tail _ (.tail _ (.head _)))).1
  have hS : s.heap.get? sc = some (scanObj P src t pos false) := (N _ (.tail _ (.tail _ (.tail _ (.head _))))).1
  have hLt : @LT.lt Nat _ L s.heap.objs.size := F.ns.lt
  refine codeAny_of_tree ?_
  show wpAny (MX prog w) A ((forTurn (.Tuple [.Name (Str.ofString "lineno") p1, .Name (Str.ofString "match") p2] 0 p3) (.ref e) body [] (envOf qual scope L f cdv)).onRaise (fun x => do noteFrame x (envOf qual scope L f cdv); theTreesLotGoes x)) _ _ s
  refine wpAny_onRaise (wpAny_mono (E := fun _ _ => False) ?_ (fun _ _ h => h) fun _ _ h => h.elim)
  unfold forTurn
  refine wpAny_bind (wpAny_standAt ?_)
  have hT : s.TypeIs (.ref e) "enumerate" := ⟨_, he, rfl⟩
  refine wpAny_bind (wpAny_onRaise (wpAny_mono (E := fun _ _ => False) ?_ (fun _ _ h => h) fun _ _ h => h.elim))
  unfold pyNext
  refine wpAny_bind (wpAny_attempt (wpAny_callSpecial?_slot (name := Str.ofString "__next__") hT PySem.F.slot_enumerate_next (callX_entry PySem.F.slot_enumerate_next hT PySem.F.entry_enumerate_next
    (enum_step he hI hB hS hP hC hl hlim (by show A.units + 1 + 1 < cLine; omega) fun T mt sp h₁ tk lT lm ls he₁ hT₁ hm₁ hs₁ hS₁ kp => ?_) (PySem.F.args_enumerate_next_1 _))))
  refine wpAny_pure ?_
  dsimp only
  refine wpAny_bind (lift (wpAny_letOwnedTupleGo_enum he₁ fun h₂ he₂ hs₂ => ?_))
  replace hs₂ : Heap.SameBut e h₁ h₂ := hs₂
  have hes : e ≠ sc := fun q => by
    have h1 := he
    rw [q] at h1
    have q' : Value.type "_sre.SRE_Scanner" = .type "enumerate" := congrArg Obj.cls (Option.some.inj (hS.symm.trans h1))
    exact absurd q' (by decide)
  have hle : @LT.lt Nat _ e s.heap.objs.size := Heap.lt_size he
  have ne1 : T ≠ e := fun q => by rw [q] at lT; exact absurd hle (Nat.not_lt.mpr lT)
  have ht₂ : h₂.IsTuple T #[.int k tk, .ref mt] := ⟨_, (hs₂.2 _ ne1).trans hT₁, rfl, _, rfl⟩
  refine wpAny_bind (lift (wpAny_assign_Tuple hh ht₂ rfl rfl fun h₃ hx₃ => ?_))
  replace hx₃ : Heap.ExtBut h₂.objs.size h₂ h₃ := hx₃
  have up₃ : ∀ b o, h₂.get? b = some o → h₃.get? b = some o := fun b o h => hx₃ b o (Nat.ne_of_lt (Heap.lt_size h)) h
  have keep : ∀ b o, b ≠ e → b ≠ sc → s.heap.get? b = some o → h₃.get? b = some o := fun b o hb hb' h => up₃ b o ((hs₂.2 b hb).trans (kp b o hb hb' h))
  have hLe : L ≠ e := fun q => (N _ (.head _)).2.1 q.symm
  have hLs : L ≠ sc := fun q => (N _ (.tail _ (.tail _ (.tail _ (.head _))))).2.1 q.symm
  have gne : ∀ b o, g.get? b = some o → b ≠ e ∧ b ≠ sc := by
    intro b o h
    refine ⟨fun q => ?_, fun q => ?_⟩
    · have q2 := (N _ (.head _)).2.2
      rw [q] at h
      rw [h] at q2; cases q2
    · have q2 := (N _ (.tail _ (.tail _ (.tail _ (.head _))))).2.2
      rw [q] at h
      rw [h] at q2; cases q2
  have F₃ : Fr g L h₃ m := ⟨F.ns.at fun o h => keep L o hLe hLs h, fun b o h => keep b o (gne b o h).1 (gne b o h).2 (F.keep b o h), F.above⟩
  have hcl : ((envOf qual scope L f cdv).scope.kind == .class || ((envOf qual scope L f cdv).scope.kind == .module && (envOf qual scope L f cdv).locals != (envOf qual scope L f cdv).globals)) = false := by
    show (scope.kind == .class || (scope.kind == .module && L != mainGlobals)) = false
    rw [hk]; rfl
  show wpAny (model prog w) A (do holding [.ref mt] (assign (.Name (Str.ofString "lineno") p1) (envOf qual scope L f cdv) (.int k tk)); do holding [] (assign (.Name (Str.ofString "match") p2) (envOf qual scope L f cdv) (.ref mt)); pure ()) _ _ _
  refine wpAny_bind (wpAny_holding (wpAny_assign_Name (wpAny_storeName_local hx1 F₃.ns (fun h₄ hn₄ hs₄ => ?_) hcl)))
  replace hs₄ : Heap.SameBut L h₃ h₄ := hs₄
  have F₄ := F₃.set hn₄ hs₄
  refine wpAny_bind (wpAny_holding (wpAny_assign_Name (wpAny_storeName_local hx2 F₄.ns (fun h₅ hn₅ hs₅ => wpAny_pure ?_) hcl)))
  replace hs₅ : Heap.SameBut L h₄ h₅ := hs₅
  have F₅ : Fr g L h₅ (ov m k tk mt) := F₄.set hn₅ hs₅
  have up₅ : ∀ b o, b ≠ L → h₂.get? b = some o → h₅.get? b = some o := fun b o hb h => (hs₅.2 b hb).trans ((hs₄.2 b hb).trans (up₃ b o h))
  have lmt : mt ≠ L := fun q => by rw [q] at lm; exact absurd hLt (Nat.not_lt.mpr lm)
  have lsp : sp ≠ L := fun q => by rw [q] at ls; exact absurd hLt (Nat.not_lt.mpr ls)
  have mte : mt ≠ e := fun q => by rw [q] at lm; exact absurd hle (Nat.not_lt.mpr lm)
  have spe : sp ≠ e := fun q => by rw [q] at ls; exact absurd hle (Nat.not_lt.mpr ls)
  have gmt : g.get? mt = none := Heap.get?_none_of_le (Nat.le_trans (Nat.le_trans F.above (Nat.le_of_lt hLt)) lm)
  have gsp : g.get? sp = none := Heap.get?_none_of_le (Nat.le_trans (Nat.le_trans F.above (Nat.le_of_lt hLt)) ls)
  have rest : ∀ p ∈ ((ci, iterObj bm) : Addr × Obj) :: (bm, boundObj sc) :: [], p.1 ≠ e ∧ p.1 ≠ sc := by
    intro p hp
    have no : ∀ {x : Addr} {o : Obj}, s.heap.get? x = some o → (o.cls == .type "enumerate") = false → (o.cls == .type "_sre.SRE_Scanner") = false → x ≠ e ∧ x ≠ sc := by
      intro x o h c1 c2
      refine ⟨fun q => ?_, fun q => ?_⟩
      · rw [q] at h
        rw [← Option.some.inj (he.symm.trans h)] at c1
        exact absurd c1 (by dsimp only; decide)
      · rw [q] at h
        rw [← Option.some.inj (hS.symm.trans h)] at c2
        exact absurd c2 (by dsimp only; decide)
    rcases List.mem_cons.mp hp with rfl | hp
    · exact no hI (by dsimp only; decide) (by dsimp only; decide)
    · rcases List.mem_cons.mp hp with rfl | hp
      · exact no hB (by dsimp only; decide) (by dsimp only; decide)
      · exact nomatch hp
  have N₅ : News g L h₅ ((mt, matchObj P src t sp) :: (sp, spanObj pos fin) :: loopN e ci bm sc P D src t (k + 1) (.ref mt) fin (fin == pos) oD news) := by
    intro p hp
    have kept : ∀ p ∈ loopN e ci bm sc P D src t k old pos false oD news, p.1 ≠ e → p.1 ≠ sc → h₅.get? p.1 = some p.2 ∧ p.1 ≠ L ∧ g.get? p.1 = none := fun p hp n1 n2 => by
      obtain ⟨q1, q2, q3⟩ := N p hp
      exact ⟨up₅ _ _ q2 ((hs₂.2 _ n1).trans (kp _ _ n1 n2 q1)), q2, q3⟩
    rcases List.mem_cons.mp hp with rfl | hp
    · exact ⟨up₅ _ _ lmt ((hs₂.2 _ mte).trans hm₁), lmt, gmt⟩
    rcases List.mem_cons.mp hp with rfl | hp
    · exact ⟨up₅ _ _ lsp ((hs₂.2 _ spe).trans hs₁), lsp, gsp⟩
    rcases List.mem_cons.mp hp with rfl | hp
    · exact ⟨up₅ _ _ hLe.symm he₂, hLe.symm, (N _ (.head _)).2.2⟩
    rcases List.mem_cons.mp hp with rfl | hp
    · exact kept _ (.tail _ (.head _)) (rest _ (.head _)).1 (rest _ (.head _)).2
    rcases List.mem_cons.mp hp with rfl | hp
    · exact kept _ (.tail _ (.tail _ (.head _))) (rest _ (.tail _ (.head _))).1 (rest _ (.tail _ (.head _))).2
    rcases List.mem_cons.mp hp with rfl | hp
    · exact ⟨up₅ _ _ hLs.symm ((hs₂.2 _ hes.symm).trans hS₁), hLs.symm, (N _ (.tail _ (.tail _ (.tail _ (.head _))))).2.2⟩
    rcases List.mem_cons.mp hp with rfl | hp
    · exact kept _ (.tail _ (.tail _ (.tail _ (.tail _ (.head _))))) hDe hDs
    · exact kept _ (.tail _ (.tail _ (.tail _ (.tail _ (.tail _ hp))))) (hne _ hp).1 (hne _ hp).2
  refine wpAny_bind (wpAny_mono (hb mt sp h₅ tk _ F₅ N₅ (fun p hp => ⟨Nat.lt_of_lt_of_le (Heap.lt_size (N p hp).1) lm, Nat.lt_of_lt_of_le (Heap.lt_size (N p hp).1) ls⟩) fun b o n1 n2 n3 h => up₅ b o n3 ((hs₂.2 b n1).trans (kp b o n1 n2 h))) (fun fl s' h' => ?_) fun _ _ h => h)
  cases fl with
  | next => exact wpAny_pure ⟨rfl, h'⟩
  | cont => exact wpAny_pure ⟨rfl, h'⟩
  | brk => exact wpAny_pure h'
  | ret v => exact wpAny_pure h'
end
end Mine
namespace Mine
open PySem PySem.W PyProof.Rows PySem.Calls PySem.Builtin PySem.Builtin.Re
/-- the text from pos on is lines that end at these places -/
def Chain (src : PySem.Str) : Nat → List Nat → Prop
  | pos, [] => pos = src.cps.size
  | pos, e :: r => IsLine src.cps src.cps.size pos e ∧ pos < e ∧ Chain src e r
/-- the values are those lines -/
def LinesAre (src : PySem.Str) : Nat → List Nat → List Value → Prop
  | _, [], [] => True
  | pos, e :: r, v :: vs => (∃ t, v = .str ⟨src.cps.extract pos e⟩ t) ∧ LinesAre src e r vs
  | _, _, _ => False
theorem line_end (src : PySem.Str) : IsLine src.cps src.cps.size src.cps.size src.cps.size :=
  ⟨0, fun i a b => absurd b (by omega), by omega, .inl ⟨rfl, rfl⟩⟩
section
variable {prog : Program} {w : World} {A : Around} {R : Result → Shared → Prop}
theorem loopX {e ci bm sc P C D L : Addr} {a b : Value} {src : PySem.Str} {t : Tok} {n : Int} {g : Heap} {m : PySem.Str → Option Value} {news : List (Addr × Obj)} {qual : PySem.Str} {scope : Scope} {f : Addr} {cdv : Value} {body : List PySem.Stmt} {p1 p2 p3 : Pos}
    (hP : g.get? P = some (patObj C a b)) (hC : g.get? C = some codeObj)
    (hDe : D ≠ e) (hDs : D ≠ sc) (hDc : D ≠ ci) (hDb : D ≠ bm) (hne : ∀ p ∈ news, p.1 ≠ e ∧ p.1 ≠ sc) (hnD : ∀ p ∈ news, p.1 ≠ D)
    (hlim : src.cps.size ≤ 16777216) (hu : A.units + 3 < cLine) (hh : A.handled = none)
    (hk : scope.kind = .function) (hx1 : scope.names.lookup (Str.ofString "lineno") = some .local) (hx2 : scope.names.lookup (Str.ofString "match") = some .local)
    (hmore : ∀ (k : Int) (tkk : Tok) (mt sp : Addr) (x y : Nat) (vs : Array Value) (c : Nat) (more : List (Addr × Obj)) (s : Shared) (Q : Flow → Shared → Prop) (E : Value → Shared → Prop), k ≤ n → (∀ p ∈ more, p.1 ≠ D) → (mt, matchObj P src t sp) ∈ more → (sp, spanObj x y) ∈ more → vs.size ≤ 1024 →
      Fr g L s.heap (ov m k tkk mt) → News g L s.heap ((D, W.listOf vs c) :: more) →
      (∀ h' tk t', Fr g L h' (ov m k tkk mt) → News g L h' ((D, W.listOf (vs.push (.str ⟨src.cps.extract x y⟩ t')) (c + 1)) :: more) → Q .next { s with heap := h', toks := tk }) → wpAny (model prog w) A (execs body (envOf qual scope L f cdv)) Q E s)
    (hbrk : ∀ (k : Int) (tkk : Tok) (mt : Addr) (s : Shared) (Q : Flow → Shared → Prop) (E : Value → Shared → Prop), n < k → Fr g L s.heap (ov m k tkk mt) → Q .brk s → wpAny (model prog w) A (execs body (envOf qual scope L f cdv)) Q E s) :
    ∀ (rest : List Nat) (pos : Nat) (k : Int) (old : Value) (vs : Array Value) (c : Nat) (m' : PySem.Str → Option Value) (s : Shared), Chain src pos rest → k + rest.length = n + 1 → vs.size + rest.length ≤ 1024 → (∀ k tk mt, ov m' k tk mt = ov m k tk mt) →
      Fr g L s.heap m' → News g L s.heap (loopN e ci bm sc P D src t k old pos false (W.listOf vs c) news) →
      (∀ (k' : Int) (tkk : Tok) (mt : Addr) (vs' : List Value) (c' : Nat) (h' : Heap) (tk' : Nat), LinesAre src pos rest vs' → Fr g L h' (ov m k' tkk mt) → News g L h' ((D, W.listOf (vs ++ vs'.toArray) c') :: news) → R (.ok .next) { s with heap := h', toks := tk' }) →
      codeAny (MX prog w) A (.forLoop (.Tuple [.Name (Str.ofString "lineno") p1, .Name (Str.ofString "match") p2] 0 p3) (.ref e) body [] (envOf qual scope L f cdv)) R s
  | [], pos, k, old, vs, c, m', s, hch, hkn, hsz, hm', F, N, hend => by
    have hpos : pos = src.cps.size := hch
    subst hpos
    refine turnX F N (F.keep _ _ hP) (F.keep _ _ hC) hDe hDs hne (line_end src) hlim hu hh hk hx1 hx2 fun mt sp h' tk tk' F' N' lt kp => ?_
    rw [hm'] at F'
    refine lift (hbrk k tk mt _ _ _ (by simp at hkn; omega) F' ?_)
    refine hend k tk mt [] c h' tk' trivial F' ?_
    have e0 : vs ++ ([] : List Value).toArray = vs := by simp
    rw [e0]
    intro p hp
    rcases List.mem_cons.mp hp with rfl | hp
    · exact N' _ (.tail _ (.tail _ (.tail _ (.tail _ (.tail _ (.tail _ (.head _)))))))
    · exact N' p (.tail _ (.tail _ (.tail _ (.tail _ (.tail _ (.tail _ (.tail _ hp)))))))
  | fin :: rest, pos, k, old, vs, c, m', s, hch, hkn, hsz, hm', F, N, hend => by
    obtain ⟨hl, hlt, hch⟩ := hch
    refine turnX F N (F.keep _ _ hP) (F.keep _ _ hC) hDe hDs hne hl hlim hu hh hk hx1 hx2 fun mt sp h' tk tk' F' N' lt kp => ?_
    rw [hm'] at F'
    have hf : (fin == pos) = false := by simp; omega
    rw [hf] at N'
    have lD := lt (D, W.listOf vs c) (.tail _ (.tail _ (.tail _ (.tail _ (.head _)))))
    refine lift (hmore k tk mt sp pos fin vs c ((mt, matchObj P src t sp) :: (sp, spanObj pos fin) :: (e, enumObj ci (k + 1) (.ref mt)) :: (ci, iterObj bm) :: (bm, boundObj sc) :: (sc, scanObj P src t fin false) :: news) _ _ _ (by simp at hkn; omega) ?_ (.head _) (.tail _ (.head _)) (by simp at hsz; omega) F' ?_ ?_)
    · intro p hp
      rcases List.mem_cons.mp hp with rfl | hp
      · exact Nat.ne_of_gt lD.1
      rcases List.mem_cons.mp hp with rfl | hp
      · exact Nat.ne_of_gt lD.2
      rcases List.mem_cons.mp hp with rfl | hp
      · exact hDe.symm
      rcases List.mem_cons.mp hp with rfl | hp
      · exact hDc.symm
      rcases List.mem_cons.mp hp with rfl | hp
      · exact hDb.symm
      rcases List.mem_cons.mp hp with rfl | hp
      · exact hDs.symm
      · exact hnD p hp
    · intro p hp
      rcases List.mem_cons.mp hp with rfl | hp
      · exact N' _ (.tail _ (.tail _ (.tail _ (.tail _ (.tail _ (.tail _ (.head _)))))))
      rcases List.mem_cons.mp hp with rfl | hp
      · exact N' _ (.head _)
      rcases List.mem_cons.mp hp with rfl | hp
      · exact N' _ (.tail _ (.head _))
      rcases List.mem_cons.mp hp with rfl | hp
      · exact N' _ (.tail _ (.tail _ (.head _)))
      rcases List.mem_cons.mp hp with rfl | hp
      · exact N' _ (.tail _ (.tail _ (.tail _ (.head _))))
      rcases List.mem_cons.mp hp with rfl | hp
      · exact N' _ (.tail _ (.tail _ (.tail _ (.tail _ (.head _)))))
      rcases List.mem_cons.mp hp with rfl | hp
      · exact N' _ (.tail _ (.tail _ (.tail _ (.tail _ (.tail _ (.head _))))))
      · exact N' _ (.tail _ (.tail _ (.tail _ (.tail _ (.tail _ (.tail _ (.tail _ hp)))))))
    · intro h₂ tk₂ t₂ F₂ N₂
      dsimp only
      refine loopX hP hC hDe hDs hDc hDb hne hnD hlim hu hh hk hx1 hx2 hmore hbrk rest fin (k + 1) (.ref mt) (vs.push (.str ⟨src.cps.extract pos fin⟩ t₂)) (c + 1) (ov m k tk mt) _ hch (by simp at hkn ⊢; omega) (by simp at hsz ⊢; omega) (fun k' tk' mt' => ov_ov m k k' tk tk' mt mt') F₂ ?_ ?_
      · intro p hp
        rcases List.mem_cons.mp hp with rfl | hp
        · exact N₂ _ (.tail _ (.tail _ (.tail _ (.head _))))
        rcases List.mem_cons.mp hp with rfl | hp
        · exact N₂ _ (.tail _ (.tail _ (.tail _ (.tail _ (.head _)))))
        rcases List.mem_cons.mp hp with rfl | hp
        · exact N₂ _ (.tail _ (.tail _ (.tail _ (.tail _ (.tail _ (.head _))))))
        rcases List.mem_cons.mp hp with rfl | hp
        · exact N₂ _ (.tail _ (.tail _ (.tail _ (.tail _ (.tail _ (.tail _ (.head _)))))))
        rcases List.mem_cons.mp hp with rfl | hp
        · exact N₂ _ (.head _)
        · exact N₂ _ (.tail _ (.tail _ (.tail _ (.tail _ (.tail _ (.tail _ (.tail _ hp)))))))
      · intro k' tkk mt' vs' c' h'' tk'' hv F'' N''
        refine hend k' tkk mt' (.str ⟨src.cps.extract pos fin⟩ t₂ :: vs') c' h'' tk'' ⟨⟨_, rfl⟩, hv⟩ F'' ?_
        have e : (vs.push (Value.str ⟨src.cps.extract pos fin⟩ t₂)) ++ vs'.toArray = vs ++ (Value.str ⟨src.cps.extract pos fin⟩ t₂ :: vs').toArray := by
          apply Array.ext'
          simp
        rw [← e]
        exact N''
end
end Mine
namespace Mine
open PySem PySem.W PyProof.Rows PySem.Calls PySem.Builtin PySem.Builtin.Re
theorem slot_match_item : Slot "re.Match" (Str.ofString "__getitem__") "re.Match.__getitem__" :=
  .of (owner := "re.Match") (n := "__getitem__") (by rw [typeLookup_type, builtinLookup_eq_fast]; kernel_rfl) (by decide +kernel) (by decide +kernel) (by decide +kernel)
    (by first | exact .inl (by decide +kernel) | exact .inr (by decide +kernel)) (by rw [isSubtype_type]; kernel_rfl)
theorem entry_match_item : entryFor table "re.Match.__getitem__" = some Builtin.«re.Match.__getitem__» := entryFor_of_tree (by kernel_rfl)
theorem owner_match : Manifest.owners.lookup (String.ofList ['h','c','t','a','M','.','e','r'].reverse) = some Manifest.sig_re_Match := by kernel_rfl
theorem args_match_item (a b : Value) : argsOk "re.Match.__getitem__" ⟨[a, b], []⟩ := by
  unfold argsOk; rw [signature?_of (id := "re.Match.__getitem__") (n := ['_','_','m','e','t','i','t','e','g','_','_']) (o := ['h','c','t','a','M','.','e','r']) (by kernel_rfl) owner_match]; kernel_rfl
section
variable {M : Model} {prog : Program} {w : World} {A : Around} {E : Value → Shared → Prop} {s : Shared}
theorem run_match_item {mt sp P : Addr} {src : PySem.Str} {t u : Tok} {x y : Nat} {R : Fin → Shared → Prop} (hM : s.heap.get? mt = some (matchObj P src t sp)) (hS : s.heap.get? sp = some (spanObj x y)) (hlim : src.cps.size ≤ 16777216)
    (h : R (.done (.ret (.str ⟨src.cps.extract x y⟩ s.toks))) { s with toks := s.toks + 1 }) : wpAny M A (Builtin.«re.Match.__getitem__» ⟨[.ref mt, .int 0 u], []⟩) R E s := by
  unfold Builtin.«re.Match.__getitem__»
  refine wpAny_bind (m := slotArgs _ _ _) (wpAny_of_eq (a := (.ref mt, [.int 0 u])) rfl ?_)
  dsimp only
  refine wpAny_bind (m := reFound (.ref mt)) ?_
  unfold reFound
  refine wpAny_bind (wpAny_fieldsOf hM rfl ?_)
  refine wpAny_bind (m := reRawItems _) (wpAny_bind (wpAny_bind (wpAny_load hS (wpAny_pure (wpAny_pure (wpAny_pure ?_))))))
  have e : (Array.map reRawOf ((some #[rawInt (x : Int), rawInt y, rawInt x, rawInt y]).getD #[])) = #[(x : Int), y, x, y] := by simp [reRawOf, rawInt]
  rw [e]
  refine wpAny_bind (m := reGroupNumber _ _) ?_
  unfold reGroupNumber
  refine wpAny_bind (m := asInt? (.int 0 u)) (wpAny_of_eq (a := some 0) rfl ?_)
  refine wpAny_bind (m := asIndex (.int 0 u)) (wpAny_of_eq (a := 0) rfl ?_)
  dsimp only
  rw [if_neg (by simp)]
  refine wpAny_pure ?_
  unfold reGroupText
  show wpAny M A ((if ((x : Int) < 0 || (y : Int) < 0) = true then pure Value.none else do
    let (text, kind) ← reTextOf (.str src t)
    reSlice text kind (x : Int).toNat (y : Int).toNat) >>= fun v => ret v) R E s
  rw [if_neg (by simp)]
  refine wpAny_bind (wpAny_bind (m := reTextOf (.str src t)) (wpAny_of_eq (a := (src.cps, 0)) rfl ?_))
  show wpAny M A (mkStr ⟨src.cps.extract (x : Int).toNat (y : Int).toNat⟩) _ _ s
  refine wpAny_mkStr (wpAny_pure h) ?_
  rw [sizeLine_eq]
  show (src.cps.extract x y).size ≤ 16777216
  rw [Array.size_extract]
  omega
theorem match_item {mt sp P : Addr} {src : PySem.Str} {t u : Tok} {x y : Nat} {value slice : PySem.Expr} {Q : Value → Shared → Prop} (hM : s.heap.get? mt = some (matchObj P src t sp)) (hS : s.heap.get? sp = some (spanObj x y)) (hlim : src.cps.size ≤ 16777216)
    (h : Q (.str ⟨src.cps.extract x y⟩ s.toks) { s with toks := s.toks + 1 })
    (hs : subscripted slice false (.ref mt) (.int 0 u) = operate [.ref mt, .int 0 u] (getItem (.ref mt) (.int 0 u)) := by with_unfolding_all rfl) :
    wpAny (model prog w) A (subscriptTail value slice (.ref mt) (.int 0 u)) Q E s := by
  have hT : s.TypeIs (.ref mt) "re.Match" := ⟨_, hM, rfl⟩
  refine tail_any hT slot_match_item.lookup ?_ hs
  unfold getItem
  refine wpAny_holding ?_
  refine wpAny_bind (wpAny_sequenceKey hT (by decide) ?_)
  refine wpAny_bind (wpAny_callSpecial?_slot (name := Str.ofString "__getitem__") hT slot_match_item (wpAny_call_entry slot_match_item hT entry_match_item (run_match_item hM hS hlim ⟨_, rfl, ?_⟩) (args_match_item _ _)))
  exact wpAny_pure h
end
end Mine
namespace Mine
open PySem PySem.W PyProof.Rows
/-- one sign's pad -/
def padc (c : Nat) : Nat := if c = 9 ∨ c = 12 then c else 32
/-- a text's pad -/
def pad (s : PySem.Str) : PySem.Str := ⟨(s.cps.toList.map padc).toArray⟩
theorem pad_length (s : PySem.Str) : (pad s).length = s.length := by simp [pad, PySem.Str.length]
theorem pad_append (a b : PySem.Str) : pad (a ++ b) = pad a ++ pad b := by
  refine PySem.Str.ext' (Array.toList_inj.mp ?_)
  rw [PySem.Str.cps_append, Array.toList_append]
  simp [pad, PySem.Str.cps_append]
theorem pad_one (n : Nat) : pad ⟨#[n]⟩ = ⟨#[padc n]⟩ := rfl
theorem ff_tab : PySem.Str.ofString "\x0c\t" = ⟨#[12, 9]⟩ := by decide +kernel
theorem blank : PySem.Str.ofString " " = ⟨#[32]⟩ := by decide +kernel
theorem occ_ff_tab (n : Nat) : (Builtin.Str.occurrences (PySem.Str.ofString "\x0c\t") ⟨#[n]⟩ 0 (PySem.Str.ofString "\x0c\t").length 1).isEmpty = !decide (n = 9 ∨ n = 12) := by
  have h := StrLaws.found_one (PySem.Str.ofString "\x0c\t") n
  rw [← Bool.not_not (b := List.isEmpty _), h, ff_tab]
  simp [or_comm]
theorem pad_start : (PySem.Str.ofString "") = pad (KStt.txt []) ∧ (PySem.Str.ofString "").length = ([] : List Int).length := by
  constructor <;> decide +kernel
theorem pad_keep {pre : List Int} {n : Nat} {r : PySem.Str} (h1 : r = pad (KStt.txt pre)) (h2 : r.length = pre.length)
    (ho : (Builtin.Str.occurrences (PySem.Str.ofString "\x0c\t") ⟨#[n]⟩ 0 (PySem.Str.ofString "\x0c\t").length 1).isEmpty = false) :
    r ++ (⟨#[n]⟩ : PySem.Str) = pad (KStt.txt (pre ++ [(n : Int)])) ∧ (r ++ (⟨#[n]⟩ : PySem.Str)).length = (pre ++ [(n : Int)]).length := by
  rw [occ_ff_tab] at ho
  have hp : n = 9 ∨ n = 12 := of_decide_eq_true (by simpa only [Bool.not_eq_false'] using ho)
  constructor
  · rw [KStt.txt_snoc, pad_append, pad_one, h1, padc, if_pos hp]
  · rw [PySem.Str.length_append, h2]; simp [PySem.Str.length]
theorem pad_blank {pre : List Int} {n : Nat} {r : PySem.Str} (h1 : r = pad (KStt.txt pre)) (h2 : r.length = pre.length)
    (ho : (Builtin.Str.occurrences (PySem.Str.ofString "\x0c\t") ⟨#[n]⟩ 0 (PySem.Str.ofString "\x0c\t").length 1).isEmpty = true) :
    r ++ (PySem.Str.ofString " ") = pad (KStt.txt (pre ++ [(n : Int)])) ∧ (r ++ (PySem.Str.ofString " ")).length = (pre ++ [(n : Int)]).length := by
  rw [occ_ff_tab] at ho
  have hp : ¬ (n = 9 ∨ n = 12) := of_decide_eq_false (by simpa only [Bool.not_eq_true'] using ho)
  constructor
  · rw [KStt.txt_snoc, pad_append, pad_one, h1, padc, if_neg hp, blank]
  · rw [PySem.Str.length_append, h2, blank]; simp [PySem.Str.length]
theorem pad_done {src r : PySem.Str} (h : r = pad (KStt.txt (KStt.codes src))) : r = pad src := by
  rw [h, KStt.txt_codes]
end Mine
namespace Mine
open PySem PySem.W PyProof.Rows
/-- a def's contract: from any frame, where asks holds, the call gives back R, and makes nothing that is kept -/
abbrev Cs (prog : Program) (w : World) (K : Frag) (p : Program) (loose : List PySem.Str) (mean : ExcName → Option Value) (mg mb : PySem.Str → Option Value) (f : Addr) (n : Nat) (news : List (Addr × Obj)) (asks : Prop) (vs : List Value) (R : Tok → Value) : Prop :=
  ∀ (dp un : Nat) (gd : Option (List Code)) (cn : PySem.Str) (cs : Scope) (a : Addr) (ccd : Value) (cl : List (PySem.Str × Addr)) (outer : List Env) (A₀ : Around) (base h₀ : Heap) (L : Addr) (m : PySem.Str → Option Value) (s : Shared) (Q E : Value → Shared → Prop),
    Below A₀ base outer h₀ → Fr h₀ L s.heap m → K.In h₀ → News h₀ L s.heap news → Top p loose mean mg mb h₀ → cs.kind = .function →
    asks → dp + n < recursionLimit → un + 8 * n < cLine →
    (∀ (t : Tok) (h' : Heap) (tk' : Nat), Fr h₀ L h' m → News h₀ L h' news → Q (R t) { s with heap := h', toks := tk' }) →
      wpAny (model prog w) (ktrTop dp un gd cn cs L a ccd cl outer) (call (.ref f) vs) Q E s
/-- the same for a call that gives back something new -/
abbrev Ct (prog : Program) (w : World) (K : Frag) (p : Program) (loose : List PySem.Str) (mean : ExcName → Option Value) (mg mb : PySem.Str → Option Value) (f : Addr) (n : Nat) (news : List (Addr × Obj)) (asks : Prop) (vs : List Value) (Post : List (Addr × Obj) → Value → Prop) : Prop :=
  ∀ (dp un : Nat) (gd : Option (List Code)) (cn : PySem.Str) (cs : Scope) (a : Addr) (ccd : Value) (cl : List (PySem.Str × Addr)) (outer : List Env) (A₀ : Around) (base h₀ : Heap) (L : Addr) (m : PySem.Str → Option Value) (s : Shared) (Q E : Value → Shared → Prop),
    Below A₀ base outer h₀ → Fr h₀ L s.heap m → K.In h₀ → News h₀ L s.heap news → Top p loose mean mg mb h₀ → cs.kind = .function →
    asks → dp + n < recursionLimit → un + 8 * n < cLine →
    (∀ (r : Value) (tl : List (Addr × Obj)) (h' : Heap) (tk' : Nat), Fr h₀ L h' m → News h₀ L h' (tl ++ news) → (∀ p ∈ tl, ∀ q ∈ news, q.1 < p.1) → Post tl r → Q r { s with heap := h', toks := tk' }) →
      wpAny (model prog w) (ktrTop dp un gd cn cs L a ccd cl outer) (call (.ref f) vs) Q E s
section
variable {prog : Program} {w : World} {K : Frag} {p : Program} {loose : List PySem.Str} {mean : ExcName → Option Value} {mg mb : PySem.Str → Option Value} {f : Addr} {n : Nat} {news : List (Addr × Obj)} {asks : Prop} {vs : List Value} {R : Tok → Value} {Post : List (Addr × Obj) → Value → Prop}
  {dp un : Nat} {gd : Option (List Code)} {cn : PySem.Str} {cs : Scope} {a : Addr} {ccd : Value} {cl : List (PySem.Str × Addr)} {outer : List Env} {A₀ : Around} {base h₀ : Heap} {L : Addr} {m : PySem.Str → Option Value} {s : Shared} {Q E : Value → Shared → Prop}
theorem cs_use (C : Cs prog w K p loose mean mg mb f n news asks vs R) (B : Below A₀ base outer h₀) (F : Fr h₀ L s.heap m) (X : K.In h₀) (N : News h₀ L s.heap news) (T : Top p loose mean mg mb h₀) (hk : cs.kind = .function) (ha : asks) (hd : dp + n < recursionLimit) (hu : un + 8 * n < cLine)
    (ret : ∀ (t : Tok) (h' : Heap) (tk' : Nat), Fr h₀ L h' m → News h₀ L h' news → Q (R t) { s with heap := h', toks := tk' }) :
    wpAny (model prog w) (ktrTop dp un gd cn cs L a ccd cl outer) (call (.ref f) vs) Q E s := C _ _ _ _ _ _ _ _ _ _ _ _ _ _ _ _ _ B F X N T hk ha hd hu ret
theorem ct_use (C : Ct prog w K p loose mean mg mb f n news asks vs Post) (B : Below A₀ base outer h₀) (F : Fr h₀ L s.heap m) (X : K.In h₀) (N : News h₀ L s.heap news) (T : Top p loose mean mg mb h₀) (hk : cs.kind = .function) (ha : asks) (hd : dp + n < recursionLimit) (hu : un + 8 * n < cLine)
    (ret : ∀ (r : Value) (tl : List (Addr × Obj)) (h' : Heap) (tk' : Nat), Fr h₀ L h' m → News h₀ L h' (tl ++ news) → (∀ p ∈ tl, ∀ q ∈ news, q.1 < p.1) → Post tl r → Q r { s with heap := h', toks := tk' }) :
    wpAny (model prog w) (ktrTop dp un gd cn cs L a ccd cl outer) (call (.ref f) vs) Q E s := C _ _ _ _ _ _ _ _ _ _ _ _ _ _ _ _ _ B F X N T hk ha hd hu ret
end
theorem ct_ret {h₀ h' : Heap} {L : Addr} {m : PySem.Str → Option Value} {news news' : List (Addr × Obj)} {s : Shared} {Q : Value → Shared → Prop} {tk' : Nat} {Post : List (Addr × Obj) → Value → Prop} {r : Value} {D : Addr} {o : Obj}
    (hret : ∀ (r : Value) (tl : List (Addr × Obj)) (h' : Heap) (tk' : Nat), Fr h₀ L h' m → News h₀ L h' (tl ++ news) → (∀ p ∈ tl, ∀ q ∈ news, q.1 < p.1) → Post tl r → Q r { s with heap := h', toks := tk' })
    (F : Fr h₀ L h' m) (N : News h₀ L h' news') (hm : (D, o) ∈ news') (hs : ∀ p ∈ news, p ∈ news') (hl : AllLt D news) (hp : Post [(D, o)] r) : Q r { s with heap := h', toks := tk' } := by
  refine hret r [(D, o)] h' tk' F (fun p hp => ?_) (fun p hp q hq => ?_) hp
  · rcases List.mem_cons.mp hp with rfl | hp
    · exact N _ hm
    · exact N p (hs p hp)
  · rw [List.mem_singleton.mp hp]
    exact kst_ltOf hl q hq
end Mine
namespace Mine
open PySem PySem.W PyProof.Rows
open_top hd04 for PySem.Challenge.rw_dm0005_04
end Mine
namespace Mine
open PySem PySem.W PyProof.Rows
noncomputable abbrev loose04 : List PySem.Str := looseW hd04.view_39 [PySem.Str.ofString "_line_pattern", PySem.Str.ofString "_splitlines_no_ff", PySem.Str.ofString "get_source_segment"]
/-- a def's contract in the other model: the call gives back something new -/
abbrev CX (prog : Program) (w : World) (K : Frag) (p : Program) (loose : List PySem.Str) (mean : ExcName → Option Value) (mg mb : PySem.Str → Option Value) (f : Addr) (n : Nat) (news : List (Addr × Obj)) (asks : Prop) (vs : List Value) (kw : List (PySem.Str × Value)) (Post : List (Addr × Obj) → Value → Prop) : Prop :=
  ∀ (dp un : Nat) (gd : Option (List Code)) (cn : PySem.Str) (cs : Scope) (a : Addr) (ccd : Value) (cl : List (PySem.Str × Addr)) (outer : List Env) (A₀ : Around) (base h₀ : Heap) (L : Addr) (m : PySem.Str → Option Value) (s : Shared) (Q E : Value → Shared → Prop),
    Below A₀ base outer h₀ → Fr h₀ L s.heap m → K.In h₀ → News h₀ L s.heap news → Top p loose mean mg mb h₀ → cs.kind = .function →
    asks → dp + n < recursionLimit → un + 8 * n < cLine →
    (∀ (r : Value) (tl : List (Addr × Obj)) (h' : Heap) (tk' : Nat), Fr h₀ L h' m → News h₀ L h' (tl ++ news) → (∀ p ∈ tl, ∀ q ∈ news, q.1 < p.1) → Post tl r → Q r { s with heap := h', toks := tk' }) →
      wpAny (MX prog w) (ktrTop dp un gd cn cs L a ccd cl outer) (call (.ref f) vs kw) Q E s
theorem code_at (P : Params) : (hd04.heap_39 P).lookup 35 = some codeObj := by
  have e : codeObj = { cls := .type "tuple", data := .seq #[Value.int 14 0, Value.int 4 0, Value.int 0 0, Value.int 0 0, Value.int 4294967295 0, Value.int 17 0,
              Value.int 0 0, Value.int 26 0, Value.int 5 0, Value.int 0 0, Value.int 4294967295 0, Value.int 2 0,
              Value.int 1 0, Value.int 7 0, Value.int 7 0, Value.int 16 0, Value.int 13 0, Value.int 16 0,
              Value.int 10 0, Value.int 15 0, Value.int 17 0, Value.int 5 0, Value.int 16 0, Value.int 10 0,
              Value.int 15 0, Value.int 12 0, Value.int 5 0, Value.int 16 0, Value.int 13 0, Value.int 15 0,
              Value.int 7 0, Value.int 5 0, Value.int 6 0, Value.int 5 0, Value.int 15 0, Value.int 2 0, Value.int 0 0,
              Value.int 17 0, Value.int 1 0, Value.int 1 0] } := by
    have e' : (lineCode.map fun (n : Nat) => Value.int (n : Int) 0) = #[Value.int 14 0, Value.int 4 0, Value.int 0 0, Value.int 0 0, Value.int 4294967295 0, Value.int 17 0,
              Value.int 0 0, Value.int 26 0, Value.int 5 0, Value.int 0 0, Value.int 4294967295 0, Value.int 2 0,
              Value.int 1 0, Value.int 7 0, Value.int 7 0, Value.int 16 0, Value.int 13 0, Value.int 16 0,
              Value.int 10 0, Value.int 15 0, Value.int 17 0, Value.int 5 0, Value.int 16 0, Value.int 10 0,
              Value.int 15 0, Value.int 12 0, Value.int 5 0, Value.int 16 0, Value.int 13 0, Value.int 15 0,
              Value.int 7 0, Value.int 5 0, Value.int 6 0, Value.int 5 0, Value.int 15 0, Value.int 2 0, Value.int 0 0,
              Value.int 17 0, Value.int 1 0, Value.int 1 0] := by simp [lineCode]
    unfold codeObj
    rw [e']
  rw [e]
  rfl
local macro_rules | `(tactic| walk_at "getMethod ref") => `(tactic| (
  k_here; (with_reducible show wpAny _ _ (getMethod (Value.ref 36) _ _) _ _ _);
  (k_dflt (refine' get_finditer_K ?k1 ?k2 ?k3 ?_; (case k1 => k_asm); (case k2 => k_asm); (case k3 => exact rfl))); k_whole; (try dsimp only)))
local macro_rules | `(tactic| walk_at "call builtin:re.Pattern.finditer") => `(tactic| (
  k_here;
  (k_dflt (refine' finditer_K ?k1 ?k2 ?k3 ?k4 ?k5 ?k6 ?_; (case k1 => k_asm); (case k2 => k_asm); (case k3 => k_asm); (case k4 => exact rfl); (case k5 => exact code_at _); (case k6 => assumption))); k_whole; intro x9 h9 F9 N9 l9; (try dsimp only)))
local macro_rules | `(tactic| walk_at "call type:enumerate") => `(tactic| (
  k_here; (with_reducible show wpAny _ _ (call (Value.type "enumerate") [Value.ref _, Value.int 1 _]) _ _ _);
  (k_dflt (refine' enum_K ?k1 ?k2 ?k3 ?_; (case k1 => k_asm); (case k2 => k_asm); (case k3 => exact List.Mem.head _))); k_whole; intro x8 h8 F8 N8 l8; (try dsimp only)))
local macro_rules | `(tactic| walk_at "subscriptTail Name Constant ref int") => `(tactic| (
  k_here; (with_reducible show wpAny _ _ (subscriptTail _ _ (Value.ref _) (Value.int 0 _)) _ _ _);
  (k_dflt (refine' match_item (News.get (by assumption) (List.mem_cons_of_mem _ (by assumption))) (News.get (by assumption) (List.mem_cons_of_mem _ (by assumption))) ?k3 ?_ ?k4; (case k3 => assumption); (case k4 => with_unfolding_all rfl))); k_whole; (try dsimp only)))
local macro_rules | `(tactic| walk_at "call builtin:list.append") => `(tactic| (
  k_here; (with_reducible show wpAny _ _ (call (Value.builtin _) [Value.ref _, _]) _ _ _);
  (k_dflt (refine' append_K ?k1 ?k2 ?k3 ?_ ?z; (case k1 => k_asm); (case k2 => k_asm); (case k3 => exact Upd.head (by assumption)); (case z => (rw [sizeLine_eq]; omega)))); k_whole; intro h7 F7 N7; (try dsimp only)))
theorem split_claim (w : World) (mean : ExcName → Option Value) (mg mb : PySem.Str → Option Value) (news : List (Addr × Obj)) (src : PySem.Str) (ends : List Nat) (tk tk2 : Tok) :
    CX Challenge.rw_dm0005_04.prog w (hd04.heap_39 w.params) hd04.view_39 loose04 mean mg mb 44 1 news (src.cps.size ≤ 16777216 ∧ ends.length ≤ 64 ∧ Chain src 0 ends) [.str src tk] [(PySem.Str.ofString "maxlines", .int (ends.length : Int) tk2)] (fun tl r => ∃ D vs c, r = .ref D ∧ tl = [(D, W.listOf vs.toArray c)] ∧ LinesAre src 0 ends vs) := by
  w_top off
  k_fill
  dsimp only [CX]; intros; rename_i hasks _ _ hret
  obtain ⟨hlim, hmany, hchain⟩ := hasks
  k_with_none
  refine wpAny_call ?_
  k_dflt (refine' codeX_plain (binds := [(PySem.Str.ofString "source", .str src tk), (PySem.Str.ofString "maxlines", .int (ends.length : Int) tk2)]) ?k1 ?k2 ?k3 ?k4 ?k5 ?kA ?kF ?kK ?k6 ?k7 ?k8 ?k9 ?kB ?_ ?c2 ?c3 ?c4 ?c5)
  (case kA => exact rfl)
  (case kF => exact rfl)
  (case kK => assumption)
  (case k1 => k_asm)
  (case k2 => k_asm)
  (case k3 => k_asm)
  (case k4 => k_asm)
  (case k5 => k_asm)
  (case k6 => k_dflt k_is)
  (case k7 => k_dflt k_is)
  (case k8 => ktr_room)
  (case k9 => k_dflt (exact BindsTo.of_defaults rfl (Frag.In.keeps (by assumption) (Fr.keep (by assumption)) 37 _ rfl) rfl rfl rfl))
  (case c5 => decide)
  (case kB => exact locs rfl)
  (case c2 => exact rfl)
  (case c3 => exact rfl)
  (case c4 => exact rfl)
  intro g' L' h' FG' F' N' B' X' T'; (try dsimp only); (try k_lift B'); (try k_fold)
  refine stretch 1 ?_
  dsimp only [List.take, List.drop]
  k_steps
  refine ⟨?_⟩
  refine wpAny_execs_cons (wpAny_For (lift ?_))
  k_steps
  rename_i D _ l1 _ _ _ x9 _ _ _ l9 e _ F8 N8 l8
  refine lift (wpAny_pyIter_enum (N8.get (.head _)) ?_)
  have hD := l9 _ (.head _)
  have q9 := l8 _ (.tail _ (.tail _ (.head _)))
  have q8 := l8 _ (.head _)
  have q7 := l8 _ (.tail _ (.head _))
  dsimp only at hD q9 q8 q7
  refine loopX (n := (ends.length : Int)) (X' 36 _ rfl) (X' 35 _ (code_at _)) (D := D) ?d1 ?d2 ?d3 ?d4 ?d5 ?d6 hlim ?u rfl rfl rfl rfl ?more ?brk ends 0 1 .none #[] 0 _ _ hchain (by omega) (by simp; omega) (fun _ _ _ => rfl) F8 N8 ?fin
  case d1 => exact Nat.ne_of_lt (Nat.lt_trans hD q9)
  case d2 => exact Nat.ne_of_lt hD
  case d3 => exact Nat.ne_of_lt (Nat.lt_succ_of_lt (Nat.lt_succ_of_lt hD))
  case d4 => exact Nat.ne_of_lt (Nat.lt_succ_of_lt hD)
  case d5 => exact fun p hp => ⟨Nat.ne_of_lt (l8 p (.tail _ (.tail _ (.tail _ (.tail _ hp))))), Nat.ne_of_lt (l9 p (.tail _ hp))⟩
  case d6 => exact fun p hp => Nat.ne_of_lt (l1 p hp)
  case u => simp only [Around.deeper_units]; omega
  case more =>
    intro k tkk mt sp x y vs c more s Q E hk hm hM hS hv F N hQ
    unfold ov at F
    k_steps
    exact hQ _ _ _ (by assumption) (by assumption)
  case brk =>
    intro k tkk mt s Q E hk F hQ
    unfold ov at F
    k_steps
    exact hQ
  case fin =>
    intro k' tkk mt vs' c' h5 tk5 hv F N
    unfold ov at F
    dsimp only
    refine lift ?_
    have e0 : #[] ++ vs'.toArray = vs'.toArray := by simp
    rw [e0] at N
    k_steps
    refine hret (.ref D) [(D, W.listOf vs'.toArray c')] _ _ (by assumption) (by assumption) (fun p hp q hq => ?_) ⟨D, vs', c', rfl, rfl, hv⟩
    rw [List.mem_singleton.mp hp]
    exact l1 q hq
end Mine
namespace Mine
open PySem PySem.W PyProof.Rows PySem.Calls PySem.Builtin
abbrev excObj (t : Addr) (d : Option Addr) : Obj := { cls := .type "Exception", dict := d, data := .fields #[.ref t, .none, .none, .none, .bool false, .none] }
/-- an object that is a dict of these names -/
def NsO (o : Obj) (m : PySem.Str → Option Value) : Prop := ∃ es ep, o.data = .dict es ep ∧ StrKeys es ∧ UniqKeys es ∧ ∀ name, nsFind es name = m name
theorem NsO.ns {h : Heap} {a : Addr} {o : Obj} {m : PySem.Str → Option Value} (x : NsO o m) (e : h.get? a = some o) : h.Ns1 a m := let ⟨es, ep, d, k, u, f⟩ := x; ⟨o, es, ep, e, d, k, u, f⟩
theorem NsO.of {h : Heap} {a : Addr} {m : PySem.Str → Option Value} (x : h.Ns1 a m) : ∃ o, h.get? a = some o ∧ NsO o m := let ⟨o, es, ep, e, d, k, u, f⟩ := x; ⟨o, e, es, ep, d, k, u, f⟩
theorem slot_exc_set : Slot "Exception" "__setattr__" "object.__setattr__" :=
  .of (owner := "object") (n := "__setattr__") (by rw [typeLookup_type, builtinLookup_eq_fast]; kernel_rfl) (by decide +kernel) (by decide +kernel) (by decide +kernel)
    (by first | exact .inl (by decide +kernel) | exact .inr (by decide +kernel)) (by rw [isSubtype_type]; kernel_rfl)
theorem entry_oset : entryFor table "object.__setattr__" = some Builtin.«object.__setattr__» := entryFor_of_tree (by kernel_rfl)
theorem args_oset (a b c : Value) : argsOk "object.__setattr__" ⟨[a, b, c], []⟩ := by
  unfold argsOk; rw [signature?_of (id := "object.__setattr__") (n := ['_','_','r','t','t','a','t','e','s','_','_']) (o := ['t', 'c', 'e', 'j', 'b', 'o']) (by kernel_rfl) PySem.F.owner_object]; kernel_rfl
theorem exc_ga : typeLookup (.type "Exception") "__getattribute__" = pure (some (.builtin "BaseException.__getattribute__")) := by rw [typeLookup_type, builtinLookup_eq_fast]; kernel_rfl
theorem slot_exc_ga : Slot "Exception" "__getattribute__" "BaseException.__getattribute__" :=
  .of (owner := "BaseException") (n := "__getattribute__") (by rw [typeLookup_type, builtinLookup_eq_fast]; kernel_rfl) (by decide +kernel) (by decide +kernel) (by decide +kernel)
    (by first | exact .inl (by decide +kernel) | exact .inr (by decide +kernel)) (by rw [isSubtype_type]; kernel_rfl)
theorem entry_bga : entryFor table "BaseException.__getattribute__" = some Builtin.«object.__getattribute__» :=
  entryFor_alias (id' := "object.__getattribute__") (by kernel_rfl) (by first | rfl | decide +kernel | (unfold String.splitOn; simp +decide [String.splitOnAux])) (by decide +kernel) (by kernel_rfl)
theorem args_bga (a b : Value) : argsOk "BaseException.__getattribute__" ⟨[a, b], []⟩ := by unfold argsOk; kernel_rfl
theorem mro_exc : mroOf (.type "Exception") = pure [.type "Exception", .type "BaseException", .type "object"] := by rw [mroOf_type]; kernel_rfl
theorem refuse_exc (self : Value) : refuseLoop self "__setattr__" [.type "Exception", .type "BaseException", .type "object"] = pure () := by kernel_rfl
section
variable {prog : Program} {w : World} {A : Around} {E : Value → Shared → Prop} {s : Shared} {e t d : Addr}
/-- reading an attribute out of the object's dict -/
theorem node_get {m : PySem.Str → Option Value} {name : PySem.Str} {v : Value} {b : Bool} {Q : Value → Shared → Prop} (he : s.heap.get? e = some (excObj t (some d))) (hn : s.heap.Ns d m) (hm : m name = some v) (hl : typeLookup (.type "Exception") name = pure none) (hv : handedOut v = pure v)
    (h : Q v { s with toks := s.toks + 1 }) : wpAny (model prog w) A (getAttr (.ref e) name b) Q E s := by
  obtain ⟨hp, g, dr, tk, os⟩ := s
  unfold getAttr
  refine wpAny_bind (m := mkText name) (wpAny_bind (m := fresh) (wpAny_fresh (wpAny_pure ?_)))
  have hT : Shared.TypeIs ⟨hp, g, dr, tk + 1, os⟩ (.ref e) "Exception" := ⟨_, he, rfl⟩
  unfold getAttrBy
  refine wpAny_holding (wpAny_bind (wpAny_typeOf hT (wpAny_bind (wpAny_of_eq exc_ga ?_))))
  dsimp only
  rw [if_neg (by decide)]
  unfold getAttrByItsOwn
  refine wpAny_bind (m := hookBefore _) (wpAny_of_eq (a := none) rfl ?_)
  refine wpAny_bind (wpAny_attempt (wpAny_holding ?_))
  unfold callGetattribute
  rw [if_neg (by simp [onTheHeap])]
  unfold boundAndCalled
  refine wpAny_bind (wpAny_of_eq (a := (.builtin "BaseException.__getattribute__", [.ref e])) (slot_exc_ga.bind _) ?_)
  refine wpAny_call_entry slot_exc_ga hT entry_bga ?_ (args_bga _ _)
  unfold Builtin.«object.__getattribute__»
  refine wpAny_bind (m := slotArgs _ _ _) (wpAny_of_eq (a := (.ref e, [.str name tk])) rfl ?_)
  dsimp only
  refine wpAny_bind (m := ObjectAttr.attrName _) (wpAny_of_eq (a := name) rfl ?_)
  refine wpAny_bind (wpAny_typeOf hT ?_)
  refine wpAny_bind (m := ObjectAttr.find _ _ _) ?_
  unfold ObjectAttr.find
  refine wpAny_bind (wpAny_of_eq hl ?_)
  refine wpAny_bind (m := ObjectAttr.getOf none) (wpAny_of_eq (a := none) rfl ?_)
  refine wpAny_bind (m := ObjectAttr.dataDescriptor? _ _) (wpAny_of_eq (a := none) rfl ?_)
  dsimp only
  unfold ObjectAttr.ownThenClass
  refine wpAny_bind (m := ObjectAttr.inOwnDict _ _) ?_
  unfold ObjectAttr.inOwnDict ObjectAttr.ownDict
  refine wpAny_bind (wpAny_bind (wpAny_loadPart he ?_))
  dsimp only
  refine wpAny_bind (wpAny_loadPart he ?_)
  refine wpAny_of_eq (a := some d) rfl ?_
  unfold ObjectAttr.inDict
  refine wpAny_nsGet hn ?_
  rw [hm]
  dsimp only
  refine wpAny_bind (wpAny_rule (wpAny_pure ?_))
  refine wpAny_pure ⟨_, rfl, ?_⟩
  exact wpAny_of_eq hv h
/-- a store into the object's dict, that stands -/
theorem run_oset {m : PySem.Str → Option Value} {ns : List PySem.Str} {name : PySem.Str} {v : Value} {tk : Tok} {R : Fin → Shared → Prop} (he : s.heap.get? e = some (excObj t (some d))) (hn : s.heap.Ns1 d m) (hw : Within m ns) (hz : ns.length ≤ 1000) (hl : typeLookup (.type "Exception") name = pure none)
    (h : ∀ h', h'.Ns1 d (fun x => if x = name then some v else m x) → Heap.SameBut d s.heap h' → R (.done (.ret .none)) { s with heap := h', toks := s.toks + 1 }) :
    wpAny (model prog w) A (Builtin.«object.__setattr__» ⟨[.ref e, .str name tk, v], []⟩) R E s := by
  have hT : s.TypeIs (.ref e) "Exception" := ⟨_, he, rfl⟩
  unfold Builtin.«object.__setattr__»
  dsimp only
  rw [if_neg (by decide)]
  refine wpAny_bind (m := ObjectAttr.refuseIfOverridden _ _) ?_
  rw [refuse_eq]
  refine wpAny_bind (wpAny_typeOf hT (wpAny_bind (wpAny_of_eq mro_exc (wpAny_of_eq (refuse_exc _) ?_))))
  refine wpAny_bind (m := ObjectAttr.attrName _) (wpAny_of_eq (a := name) rfl ?_)
  refine wpAny_bind (wpAny_typeOf hT (wpAny_bind (wpAny_of_eq hl ?_)))
  refine wpAny_bind (m := ObjectAttr.storeTaker? none) (wpAny_of_eq (a := none) rfl ?_)
  dsimp only
  unfold ObjectAttr.storeInOwnDict
  refine wpAny_bind (m := ownStreamTells _ _) (wpAny_of_eq (a := ()) rfl ?_)
  rw [if_neg (by decide)]
  refine wpAny_bind (m := ObjectAttr.ownDictForStores _) ?_
  unfold ObjectAttr.ownDictForStores
  refine wpAny_bind (wpAny_loadPart he ?_)
  refine wpAny_of_eq (a := some d) rfl ?_
  dsimp only
  unfold ObjectAttr.storeInDict
  refine wpAny_bind (m := ObjectAttr.newKeyGuard _ _ _) (wpAny_of_eq (a := ()) rfl ?_)
  refine wpAny_bind (wpAny_nsSet1 hn fun h' hn' hs' => ?_)
  obtain ⟨o, es, ep, ho, hd, hsz⟩ := Heap.Ns1.count hn' (Within.cons name v hw)
  refine wpAny_bind (wpAny_lookBehind ho (by rw [hd]; exact pastItsLine_dict (by rw [sizeLine_eq]; simp at hsz; omega)) (wpAny_pure ?_))
  exact h h' hn' hs'
theorem node_set {m : PySem.Str → Option Value} {ns : List PySem.Str} {name : PySem.Str} {v : Value} {Q : Unit → Shared → Prop} (he : s.heap.get? e = some (excObj t (some d))) (hn : s.heap.Ns1 d m) (hw : Within m ns) (hz : ns.length ≤ 1000) (hl : typeLookup (.type "Exception") name = pure none)
    (h : ∀ h' tk', h'.Ns1 d (fun x => if x = name then some v else m x) → Heap.SameBut d s.heap h' → Q () { s with heap := h', toks := tk' }) :
    wpAny (model prog w) A (setAttr (.ref e) name v) Q E s := by
  obtain ⟨hp, g, dr, tk, os⟩ := s
  unfold setAttr
  refine wpAny_bind (m := mkText name) (wpAny_bind (m := fresh) (wpAny_fresh (wpAny_pure ?_)))
  have hT : Shared.TypeIs ⟨hp, g, dr, tk + 1, os⟩ (.ref e) "Exception" := ⟨_, he, rfl⟩
  refine wpAny_bind (wpAny_callSpecial?_slot (name := Str.ofString "__setattr__") hT slot_exc_set (wpAny_call_entry slot_exc_set hT entry_oset (run_oset (s := ⟨hp, g, dr, tk + 1, os⟩) he hn hw hz hl fun h' hn' hs' => ⟨_, rfl, ?_⟩) (args_oset _ _ _)))
  exact wpAny_pure (h h' _ hn' hs')
/-- the first store: the dict is made -/
theorem run_oset0 {name : PySem.Str} {v : Value} {tk : Tok} {R : Fin → Shared → Prop} (he : s.heap.get? e = some (excObj t none)) (hl : typeLookup (.type "Exception") name = pure none)
    (h : ∀ h', h'.Ns1 s.heap.objs.size (fun x => if x = name then some v else none) → h'.get? e = some (excObj t (some s.heap.objs.size)) → (∀ b o, b ≠ e → s.heap.get? b = some o → h'.get? b = some o) → R (.done (.ret .none)) { s with heap := h', toks := s.toks + 1 }) :
    wpAny (model prog w) A (Builtin.«object.__setattr__» ⟨[.ref e, .str name tk, v], []⟩) R E s := by
  have hT : s.TypeIs (.ref e) "Exception" := ⟨_, he, rfl⟩
  unfold Builtin.«object.__setattr__»
  dsimp only
  rw [if_neg (by decide)]
  refine wpAny_bind (m := ObjectAttr.refuseIfOverridden _ _) ?_
  rw [refuse_eq]
  refine wpAny_bind (wpAny_typeOf hT (wpAny_bind (wpAny_of_eq mro_exc (wpAny_of_eq (refuse_exc _) ?_))))
  refine wpAny_bind (m := ObjectAttr.attrName _) (wpAny_of_eq (a := name) rfl ?_)
  refine wpAny_bind (wpAny_typeOf hT (wpAny_bind (wpAny_of_eq hl ?_)))
  refine wpAny_bind (m := ObjectAttr.storeTaker? none) (wpAny_of_eq (a := none) rfl ?_)
  dsimp only
  unfold ObjectAttr.storeInOwnDict
  refine wpAny_bind (m := ownStreamTells _ _) (wpAny_of_eq (a := ()) rfl ?_)
  rw [if_neg (by decide)]
  refine wpAny_bind (m := ObjectAttr.ownDictForStores _) ?_
  unfold ObjectAttr.ownDictForStores
  refine wpAny_bind (wpAny_loadPart he ?_)
  have hq : (!true || !typeHasDict (excObj t none).cls) = false := by
    show (!true || !typeHasDict (.type "Exception")) = false
    decide +kernel
  dsimp only
  rw [hq]
  refine wpAny_bind (wpAny_alloc ?_)
  have he1 : (s.heap.push { cls := .type "dict", data := .dict #[] }).get? e = some (excObj t none) := Heap.get?_push_of_some _ he
  have hne : e ≠ s.heap.objs.size := Nat.ne_of_lt (Heap.lt_size he)
  refine wpAny_bind (wpAny_update he1 ?_)
  refine wpAny_of_eq (a := some s.heap.objs.size) rfl ?_
  dsimp only
  generalize hH : (s.heap.push { cls := Value.type "dict", data := Data.dict #[] }).update e (fun o => { cls := o.cls, dict := some s.heap.objs.size, data := o.data, slots := o.slots }) = H
  have heH : H.get? e = some (excObj t (some s.heap.objs.size)) := by
    rw [← hH]
    exact Heap.get?_update_self _ he1 rfl
  have hdH : H.get? s.heap.objs.size = some { cls := .type "dict", data := .dict #[] } := by
    rw [← hH, Heap.get?_update_ne _ _ _ _ (Ne.symm hne)]
    exact Heap.get?_push_size _ rfl
  have kH : ∀ b o, b ≠ e → s.heap.get? b = some o → H.get? b = some o := fun b o hb ho => by
    rw [← hH, Heap.get?_update_ne _ _ _ _ hb]
    exact Heap.get?_push_of_some _ ho
  have hn : H.Ns1 s.heap.objs.size (fun _ => none) := ⟨_, #[], 0, hdH, rfl, fun x hx => by simp at hx, List.Pairwise.nil, fun _ => rfl⟩
  unfold ObjectAttr.storeInDict
  refine wpAny_bind (m := ObjectAttr.newKeyGuard _ _ _) (wpAny_of_eq (a := ()) rfl ?_)
  refine wpAny_bind (wpAny_nsSet1 (s := { s with heap := H }) hn fun h' hn' hs' => ?_)
  replace hs' : Heap.SameBut s.heap.objs.size H h' := hs'
  obtain ⟨o, es, ep, ho, hd, hsz⟩ := Heap.Ns1.count hn' (Within.cons name v Within.nil)
  refine wpAny_bind (wpAny_lookBehind ho (by rw [hd]; exact pastItsLine_dict (by rw [sizeLine_eq]; simp at hsz; omega)) (wpAny_pure ?_))
  exact h h' hn' ((hs'.2 e hne).trans heH) fun b o hb hbo => (hs'.2 b (Nat.ne_of_lt (Heap.lt_size hbo))).trans (kH b o hb hbo)
theorem node_set0 {name : PySem.Str} {v : Value} {Q : Unit → Shared → Prop} (he : s.heap.get? e = some (excObj t none)) (hl : typeLookup (.type "Exception") name = pure none)
    (h : ∀ h' tk', h'.Ns1 s.heap.objs.size (fun x => if x = name then some v else none) → h'.get? e = some (excObj t (some s.heap.objs.size)) → (∀ b o, b ≠ e → s.heap.get? b = some o → h'.get? b = some o) → Q () { s with heap := h', toks := tk' }) :
    wpAny (model prog w) A (setAttr (.ref e) name v) Q E s := by
  obtain ⟨hp, g, dr, tk, os⟩ := s
  unfold setAttr
  refine wpAny_bind (m := mkText name) (wpAny_bind (m := fresh) (wpAny_fresh (wpAny_pure ?_)))
  have hT : Shared.TypeIs ⟨hp, g, dr, tk + 1, os⟩ (.ref e) "Exception" := ⟨_, he, rfl⟩
  refine wpAny_bind (wpAny_callSpecial?_slot (name := Str.ofString "__setattr__") hT slot_exc_set (wpAny_call_entry slot_exc_set hT entry_oset (run_oset0 (s := ⟨hp, g, dr, tk + 1, os⟩) he hl fun h' hn' he' kp => ⟨_, rfl, ?_⟩) (args_oset _ _ _)))
  exact wpAny_pure (h h' _ hn' he' kp)
end
/-! upon the ledger -/
section
variable {prog : Program} {w : World} {A : Around} {E : Value → Shared → Prop} {s : Shared} {e t d L : Addr} {h₀ : Heap} {m : PySem.Str → Option Value} {news : List (Addr × Obj)}
theorem exc_K {Q : Value → Shared → Prop} (F : Fr h₀ L s.heap m) (N : News h₀ L s.heap news)
    (h : ∀ e t h', Fr h₀ L h' m → News h₀ L h' ((e, excObj t none) :: news) → (∀ p ∈ news, p.1 ≠ e) → Q (.ref e) { s with heap := h' }) :
    wpAny (model prog w) A (call (.type "Exception") []) Q E s := by
  obtain ⟨hp, g, dr, tk, os⟩ := s
  refine wpAny_call_exc PySem.F.excCall_Exception fun h' e x => ?_
  obtain ⟨t, h1, _, _⟩ := x.there
  have hLe : L ≠ e := fun q => by
    obtain ⟨o, _, _, ho, _⟩ := F.ns
    have q2 : hp.get? e = some o := q ▸ ho
    rw [x.new] at q2; cases q2
  refine h e t h' ⟨F.ns.at fun o q => x.keeps _ _ q, fun b o q => x.keeps _ _ (F.keep b o q), F.above⟩ (fun p hp' => ?_) fun p hp' q => ?_
  · rcases List.mem_cons.mp hp' with rfl | hp'
    · refine ⟨h1, hLe.symm, ?_⟩
      cases q : h₀.get? e with
      | none => rfl
      | some o => have q2 := F.keep _ _ q; have q3 : hp.get? e = none := x.new; rw [show hp.get? e = some o from q2] at q3; cases q3
    · exact ⟨x.keeps _ _ (N p hp').1, (N p hp').2.1, (N p hp').2.2⟩
  · have q2 := (N p hp').1
    rw [q] at q2
    have q3 : hp.get? e = none := x.new
    rw [show hp.get? e = some p.2 from q2] at q3; cases q3
theorem set0_K {name : PySem.Str} {v : Value} {Q : Unit → Shared → Prop} (F : Fr h₀ L s.heap m) (N : News h₀ L s.heap ((e, excObj t none) :: news)) (hne : ∀ p ∈ news, p.1 ≠ e) (hl : typeLookup (.type "Exception") name = pure none)
    (h : ∀ d od h' tk', Fr h₀ L h' m → News h₀ L h' ((d, od) :: (e, excObj t (some d)) :: news) → (∀ p ∈ (e, excObj t (some d)) :: news, p.1 ≠ d) → NsO od (fun x => if x = name then some v else none) → Q () { s with heap := h', toks := tk' }) :
    wpAny (model prog w) A (setAttr (.ref e) name v) Q E s := by
  have he := N _ (.head _)
  have hL : @LT.lt Nat _ L s.heap.objs.size := F.ns.lt
  refine node_set0 he.1 hl fun h' tk' hn' he' kp => ?_
  obtain ⟨od, hod, ho⟩ := NsO.of hn'
  refine h s.heap.objs.size od h' tk' ⟨F.ns.at fun o q => kp _ _ (Ne.symm he.2.1) q, fun b o q => kp _ _ (fun q2 => ?_) (F.keep b o q), F.above⟩ (fun p hp => ?_) (fun p hp => ?_) ho
  · have q3 : h₀.get? e = none := he.2.2
    rw [← q2, q] at q3; cases q3
  · rcases List.mem_cons.mp hp with rfl | hp
    · exact ⟨hod, Nat.ne_of_gt hL, Heap.get?_none_of_le (Nat.le_trans F.above (Nat.le_of_lt hL))⟩
    rcases List.mem_cons.mp hp with rfl | hp
    · exact ⟨he', he.2.1, he.2.2⟩
    · have q := N p (.tail _ hp)
      exact ⟨kp _ _ (hne p hp) q.1, q.2.1, q.2.2⟩
  · rcases List.mem_cons.mp hp with rfl | hp
    · exact Nat.ne_of_lt (Heap.lt_size he.1)
    · exact Nat.ne_of_lt (Heap.lt_size (N p (.tail _ hp)).1)
theorem set_K {od : Obj} {m₁ : PySem.Str → Option Value} {ns : List PySem.Str} {name : PySem.Str} {v : Value} {Q : Unit → Shared → Prop} (F : Fr h₀ L s.heap m) (N : News h₀ L s.heap ((d, od) :: (e, excObj t (some d)) :: news)) (hne : ∀ p ∈ (e, excObj t (some d)) :: news, p.1 ≠ d) (ho : NsO od m₁) (hw : Within m₁ ns) (hz : ns.length ≤ 1000) (hl : typeLookup (.type "Exception") name = pure none)
    (h : ∀ od' h' tk', Fr h₀ L h' m → News h₀ L h' ((d, od') :: (e, excObj t (some d)) :: news) → NsO od' (fun x => if x = name then some v else m₁ x) → Q () { s with heap := h', toks := tk' }) :
    wpAny (model prog w) A (setAttr (.ref e) name v) Q E s := by
  have hd := N _ (.head _)
  refine node_set (N _ (.tail _ (.head _))).1 (ho.ns hd.1) hw hz hl fun h' tk' hn' hs' => ?_
  obtain ⟨od', hod, ho'⟩ := NsO.of hn'
  refine h od' h' tk' (F.change hs' hd.2.1 hd.2.2) (fun p hp => ?_) ho'
  rcases List.mem_cons.mp hp with rfl | hp
  · exact ⟨hod, hd.2.1, hd.2.2⟩
  · have q := N p (.tail _ hp)
    exact ⟨(hs'.2 _ (hne p hp)).trans q.1, q.2.1, q.2.2⟩
theorem get_K {od : Obj} {m₁ : PySem.Str → Option Value} {name : PySem.Str} {v : Value} {b : Bool} {Q : Value → Shared → Prop} (N : News h₀ L s.heap news) (h1 : (e, excObj t (some d)) ∈ news) (h2 : (d, od) ∈ news) (ho : NsO od m₁) (hm : m₁ name = some v) (hl : typeLookup (.type "Exception") name = pure none) (hv : handedOut v = pure v)
    (h : Q v { s with toks := s.toks + 1 }) : wpAny (model prog w) A (getAttr (.ref e) name b) Q E s :=
  node_get (N.get h1) (ho.ns (N.get h2)).ns hm hl hv h
end
theorem look_lineno : typeLookup (.type "Exception") (Str.ofString "lineno") = pure none := by rw [typeLookup_type, builtinLookup_eq_fast]; kernel_rfl
theorem look_col : typeLookup (.type "Exception") (Str.ofString "col_offset") = pure none := by rw [typeLookup_type, builtinLookup_eq_fast]; kernel_rfl
theorem look_elineno : typeLookup (.type "Exception") (Str.ofString "end_lineno") = pure none := by rw [typeLookup_type, builtinLookup_eq_fast]; kernel_rfl
theorem look_ecol : typeLookup (.type "Exception") (Str.ofString "end_col_offset") = pure none := by rw [typeLookup_type, builtinLookup_eq_fast]; kernel_rfl
end Mine
namespace Mine
open PySem PySem.W PyProof.Rows
/-- the names of a node's dict -/
abbrev nodeM (a b c d : Value) : PySem.Str → Option Value := fun x => if x = PySem.Str.ofString "end_col_offset" then some d else if x = PySem.Str.ofString "end_lineno" then some c else if x = PySem.Str.ofString "col_offset" then some b else if x = PySem.Str.ofString "lineno" then some a else none
/-- a def's contract: the call gives back something new (its addresses are none of the ledger's) -/
abbrev Cn (prog : Program) (w : World) (K : Frag) (p : Program) (loose : List PySem.Str) (mean : ExcName → Option Value) (mg mb : PySem.Str → Option Value) (f : Addr) (n : Nat) (news : List (Addr × Obj)) (asks : Prop) (vs : List Value) (Post : List (Addr × Obj) → Value → Prop) : Prop :=
  ∀ (dp un : Nat) (gd : Option (List Code)) (cn : PySem.Str) (cs : Scope) (a : Addr) (ccd : Value) (cl : List (PySem.Str × Addr)) (outer : List Env) (A₀ : Around) (base h₀ : Heap) (L : Addr) (m : PySem.Str → Option Value) (s : Shared) (Q E : Value → Shared → Prop),
    Below A₀ base outer h₀ → Fr h₀ L s.heap m → K.In h₀ → News h₀ L s.heap news → Top p loose mean mg mb h₀ → cs.kind = .function →
    asks → dp + n < recursionLimit → un + 8 * n < cLine →
    (∀ (r : Value) (tl : List (Addr × Obj)) (h' : Heap) (tk' : Nat), Fr h₀ L h' m → News h₀ L h' (tl ++ news) → (∀ p ∈ tl, ∀ q ∈ news, q.1 ≠ p.1) → Post tl r → Q r { s with heap := h', toks := tk' }) →
      wpAny (model prog w) (ktrTop dp un gd cn cs L a ccd cl outer) (call (.ref f) vs) Q E s
local macro_rules | `(tactic| walk_at "MINE enter") => `(tactic| (
  (case kA => exact rfl); (case kF => exact rfl); (case kK => assumption); (case k1 => k_asm); (case k2 => k_asm); (case k3 => k_asm); (case k4 => k_asm); (case k5 => k_asm); (case k6 => k_is); (case k7 => k_is); (case k8 => ktr_room); (case k9 => exact BindsTo.of_eq rfl); (case c5 => decide); (case kB => exact locs rfl); (case c2 => exact rfl); (case c3 => exact rfl); (case c4 => exact rfl); k_whole; intro g' L' h' FG' F' N' B' X' T'; (try dsimp only); (try k_lift B'); (try k_fold)))
local macro_rules | `(tactic| walk_at "call type:Exception") => `(tactic| (
  k_here; (k_dflt (refine' exc_K ?k1 ?k2 ?_; (case k1 => k_asm); (case k2 => k_asm))); k_whole; intro e7 t7 h7 F7 N7 n7; (try dsimp only)))
local macro_rules | `(tactic| walk_at "setAttr ref") => `(tactic| (
  k_here; (k_dflt (first
    | (refine' set0_K ?k1 ?k2 ?k3 ?k4 ?_; (case k1 => k_asm); (case k2 => k_asm); (case k3 => assumption); (case k4 => exact look_lineno); k_whole; intro d7 o7 h7 tk7 F7 N7 n7 s7)
    | (refine' set_K ?k1 ?k2 ?k3 ?k4 ?k5 ?k6 ?k7 ?_; (case k1 => k_asm); (case k2 => k_asm); (case k3 => assumption); (case k4 => assumption); (case k5 => (first | exact Within.cons _ _ Within.nil | exact Within.cons _ _ (Within.cons _ _ Within.nil) | exact Within.cons _ _ (Within.cons _ _ (Within.cons _ _ Within.nil)))); (case k6 => decide); (case k7 => (first | exact look_col | exact look_elineno | exact look_ecol)); k_whole; intro o7 h7 tk7 F7 N7 s7))); (try dsimp only)))
theorem node_claim (w : World) (mean : ExcName → Option Value) (mg mb : PySem.Str → Option Value) (news : List (Addr × Obj)) (a b c d : Int) (ta tb tc td : Tok) :
    Cn Challenge.rw_dm0005_04.prog w (hd04.heap_39 w.params) hd04.view_39 (looseW hd04.view_39 [PySem.Str.ofString "_line_pattern", PySem.Str.ofString "_splitlines_no_ff", PySem.Str.ofString "get_source_segment"]) mean mg mb 66 1 news True [.int a ta, .int b tb, .int c tc, .int d td] (fun tl r => ∃ e t x od, r = .ref e ∧ tl = [(x, od), (e, excObj t (some x))] ∧ NsO od (nodeM (.int a ta) (.int b tb) (.int c tc) (.int d td))) := by
  w_top off
  k_fill
  dsimp only [Cn]; intros; rename_i hret
  k_with_none
  refine wpAny_call ?_
  k_dflt (refine' code_def (binds := [(PySem.Str.ofString "lineno", .int a ta), (PySem.Str.ofString "col_offset", .int b tb), (PySem.Str.ofString "end_lineno", .int c tc), (PySem.Str.ofString "end_col_offset", .int d td)]) ?k1 ?k2 ?k3 ?k4 ?k5 ?kA ?kF ?kK ?k6 ?k7 ?k8 ?k9 ?kB ?_ ?c2 ?c3 ?c4 ?c5; walk_at "MINE enter")
  k_steps
  refine hret _ [(_, _), (_, _)] _ _ (by assumption) (by assumption) (fun p hp q hq => ?_) ⟨_, _, _, _, rfl, rfl, by assumption⟩
  rcases List.mem_cons.mp hp with rfl | hp
  · exact (by assumption : ∀ p ∈ _ :: news, p.1 ≠ _) q (.tail _ hq)
  · rw [List.mem_singleton.mp hp]
    exact (by assumption : ∀ p ∈ news, p.1 ≠ _) q hq
end Mine
namespace Mine
open PySem PySem.W PyProof.Rows PySem.Builtin PySem.Builtin._codecs
/-- the octets of a text -/
def enc (s : PySem.Str) : Array UInt8 := (s.cps.toList.flatMap Str.utf8Of).toArray
/-- a loop that turns once and then leaves -/
theorem forIn_two {β : Type} {f : Nat → β → Sem (ForInStep β)} {s0 s1 : β} (h0 : ∀ i, f i s0 = pure (.yield s1)) (h1 : ∀ i, f i s1 = pure (.done s1)) : ∀ (n a : Nat), 0 < n → forIn (List.range' a n 1) s0 f = pure s1
  | 0, _, h => absurd h (Nat.lt_irrefl _)
  | 1, a, _ => by
    rw [List.range'_succ, List.forIn_cons, h0]
    rfl
  | n + 2, a, _ => by
    rw [List.range'_succ, List.forIn_cons, h0]
    show forIn (List.range' (a + 1) (n + 1) 1) s1 f = pure s1
    rw [List.range'_succ, List.forIn_cons, h1]
    rfl
theorem foldl_enc (l : List Nat) : ∀ acc : Array UInt8, l.foldl (fun acc y => acc ++ (Str.utf8Of y).toArray) acc = acc ++ (l.flatMap Str.utf8Of).toArray := by
  induction l with
  | nil => intro acc; simp
  | cons c l ih =>
    intro acc
    rw [List.foldl_cons, ih]
    apply Array.ext'
    simp
theorem enc_eq (id : String) (self : Value) (s : PySem.Str) (hs : ∀ c ∈ s.cps.toList, Str.isSurrogate c = false) (hz : (enc s).size ≤ sizeLine) (hne : 0 < s.cps.size) : encodeNarrow id utf8Codec none self s = pure (enc s) := by
  unfold encodeNarrow
  simp only [Std.Legacy.Range.forIn_eq_forIn_range']
  have hx : s.cps[0]? = some s.cps[0] := by simp [hne]
  have hb : utf8Codec.bad s.cps[0] = false := hs _ (by simp)
  have hno : Array.findIdx? utf8Codec.bad s.cps = none := by
    rw [Array.findIdx?_eq_none_iff]
    intro c hc
    exact hs c (Array.mem_toList_iff.mpr hc)
  refine (congrArg (· >>= _) (forIn_two (s1 := (s.cps.size, enc s, ({} : Faults))) (fun i => ?_) (fun i => ?_) _ _ (by simpa [Std.Legacy.Range.size, PySem.Str.length] using hne))).trans ?_
  · dsimp only
    rw [if_neg (by simp)]
    simp only [hx, hb, Bool.not_false, if_true]
    have e1 : s.cps.extract 0 = s.cps := by simp
    rw [e1, hno]
    have e2 : Array.foldl (fun acc y => acc ++ (utf8Codec.bytesOf y).toArray) #[] (s.cps.extract 0 (Option.none.getD s.cps.size)) = enc s := by
      show Array.foldl (fun acc y => acc ++ (Str.utf8Of y).toArray) #[] (s.cps.extract 0 s.cps.size) = enc s
      rw [Array.extract_size, ← Array.foldl_toList, foldl_enc]
      simp [enc]
    rw [e2]
    simp
  · dsimp only
    rw [if_neg (Nat.not_lt.mpr hz)]
    have e1 : s.cps[s.cps.size]? = none := by simp
    simp only [e1]
  · rfl
/-- the signs that the law's texts are made of -/
def okc : List Nat := [9, 12, 32, 97, 233, 8364, 128512, 11, 133, 8232, 28, 116, 98, 120, 10, 13]
theorem ok_sur {c : Nat} (h : c ∈ okc) : Str.isSurrogate c = false := by
  revert c
  decide
theorem ok_len {c : Nat} (h : c ∈ okc) : 0 < (Str.utf8Of c).length ∧ (Str.utf8Of c).length ≤ 4 := by
  revert c
  decide
theorem at_one {b : Array UInt8} {p : Nat} {x : UInt8} (h : b[p]? = some x) (hx : x.toNat < 128) : Bytes.utf8At b p = (.char x.toNat, p + 1) := by
  unfold Bytes.utf8At
  have e : b.getD p 0 = x := by rw [Array.getD_eq_getD_getElem?, h]; rfl
  rw [e]
  dsimp only
  rw [if_pos hx]
theorem utf8_at {b : Array UInt8} {p c : Nat} {rest : List UInt8} (hc : c ∈ okc) (h : b.toList.drop p = Str.utf8Of c ++ rest) : Bytes.utf8At b p = (.char c, p + (Str.utf8Of c).length) := by
  have g : ∀ i, b[p + i]? = (Str.utf8Of c ++ rest)[i]? := fun i => by
    rw [← h, List.getElem?_drop, Array.getElem?_toList]
  have g0 := g 0
  have g1 := g 1
  have g2 := g 2
  have g3 := g 3
  clear g h
  simp only [Nat.add_zero] at g0
  unfold okc at hc
  simp only [List.mem_cons, List.not_mem_nil, or_false] at hc
  rcases hc with rfl | rfl | rfl | rfl | rfl | rfl | rfl | rfl | rfl | rfl | rfl | rfl | rfl | rfl | rfl | rfl
  all_goals first
    | exact at_one g0 (by decide)
    | (have e : ∀ x, b[p]? = some x → b.getD p 0 = x := fun x hx => by rw [Array.getD_eq_getD_getElem?, hx]; rfl
       unfold Bytes.utf8At
       rw [e _ g0]
       simp [Str.utf8Of, List.range, List.range.loop] at g1 g2 g3 ⊢
       simp [g1, g2, g3, Except.bind]
       done)
theorem forIn_chars {b : Array UInt8} {st : Faults} {f : Nat → Nat × Array Nat × Faults → Sem (ForInStep (Nat × Array Nat × Faults))}
    (hstep : ∀ i p out c rest, c ∈ okc → b.toList.drop p = Str.utf8Of c ++ rest → out.size ≤ sizeLine → f i (p, out, st) = pure (.yield (p + (Str.utf8Of c).length, out ++ #[c], st)))
    (hend : ∀ i p out, b.size ≤ p → out.size ≤ sizeLine → f i (p, out, st) = pure (.done (p, out, st))) :
    ∀ (n : Nat) (cs : List Nat) (a p : Nat) (out : Array Nat), cs.length ≤ n → (∀ c ∈ cs, c ∈ okc) → p ≤ b.size → b.toList.drop p = cs.flatMap Str.utf8Of → out.size + cs.length ≤ sizeLine →
      forIn (List.range' a n 1) (p, out, st) f = pure (b.size, out ++ cs.toArray, st)
  | 0, cs, a, p, out, hn, hc, hp, hb, hz => by
    obtain rfl : cs = [] := List.eq_nil_of_length_eq_zero (Nat.le_zero.mp hn)
    have hl := congrArg List.length hb
    simp at hl
    have : p = b.size := by omega
    subst this
    simp
  | n + 1, [], a, p, out, hn, hc, hp, hb, hz => by
    have hl := congrArg List.length hb
    simp at hl
    have : p = b.size := by omega
    subst this
    rw [List.range'_succ, List.forIn_cons, hend _ _ _ (Nat.le_refl _) (by simpa using hz)]
    simp
  | n + 1, c :: cs, a, p, out, hn, hc, hp, hb, hz => by
    have h0 := hc c (.head _)
    rw [List.flatMap_cons] at hb
    rw [List.range'_succ, List.forIn_cons, hstep _ _ _ c _ h0 hb (by simp at hz; omega)]
    have hl := congrArg List.length hb
    simp at hl
    have hlen := ok_len h0
    show forIn (List.range' (a + 1) n 1) (p + (Str.utf8Of c).length, out ++ #[c], st) f = _
    rw [forIn_chars hstep hend n cs (a + 1) _ _ (by simp at hn; omega) (fun x hx => hc x (.tail _ hx)) (by omega) (by
      rw [← List.drop_drop, hb, List.drop_left']
      rfl) (by simp at hz ⊢; omega)]
    congr 2
    congr 1
    apply Array.ext'
    simp
/-- a text out of its octets -/
theorem dec_eq (id : String) (s : PySem.Str) (hs : ∀ c ∈ s.cps.toList, c ∈ okc) (hz : s.cps.size ≤ sizeLine) : runDecoder id utf8Decoder none true (enc s) 0 [] = pure (s.cps, (enc s).size) := by
  unfold runDecoder
  simp only [Std.Legacy.Range.forIn_eq_forIn_range']
  have hlen : s.cps.toList.length ≤ (enc s).size := by
    have key : ∀ l : List Nat, (∀ c ∈ l, c ∈ okc) → l.length ≤ (l.flatMap Str.utf8Of).length := by
      intro l
      induction l with
      | nil => intro _; simp
      | cons c l ih =>
        intro hl
        rw [List.flatMap_cons, List.length_append, List.length_cons]
        have h1 := ok_len (hl c (.head _))
        have h2 := ih fun x hx => hl x (.tail _ hx)
        omega
    have := key _ hs
    simpa [enc] using this
  refine (congrArg (· >>= _) (forIn_chars (b := enc s) (fun i p out c rest hc hb ho => ?_) (fun i p out hp ho => ?_) _ s.cps.toList _ 0 #[] (by simpa [Std.Legacy.Range.size] using hlen) hs (Nat.zero_le _) (by simp [enc]) (by simpa using hz))).trans ?_
  · dsimp only
    rw [if_neg (Nat.not_lt.mpr ho)]
    have hp : ¬ p ≥ (enc s).size := by
      have hl := congrArg List.length hb
      have h1 := ok_len hc
      simp at hl
      omega
    rw [if_neg hp]
    show (match utf8Decoder.find true (enc s) p with
      | Found.text cs nxt => (pure (ForInStep.yield (nxt, out ++ cs.toArray, ({} : Faults))) : Sem _)
      | Found.refuse tag => _
      | Found.bad stop reason mayGrow => _) = _
    have e : utf8Decoder.find true (enc s) p = Found.text [c] (p + (Str.utf8Of c).length) := by
      show (match Bytes.utf8At (enc s) p with
        | (.char c, nxt) => Found.char c nxt
        | (.bad _ stop reason, _) => _) = _
      rw [utf8_at hc hb]
      rfl
    rw [e]
  · dsimp only
    rw [if_neg (Nat.not_lt.mpr ho), if_pos hp]
  · simp
end Mine
namespace Mine
open PySem PySem.W PyProof.Rows PySem.Builtin PySem.Builtin._codecs
/-- a text of the law's signs, not empty, not too long -/
structure OkT (s : PySem.Str) : Prop where
  ok : ∀ c ∈ s.cps.toList, c ∈ okc
  pos : 0 < s.cps.size
  few : s.cps.size ≤ 4096
theorem enc_append (a b : PySem.Str) : enc (a ++ b) = enc a ++ enc b := by
  unfold enc
  apply Array.ext'
  show (a.cps ++ b.cps).toList.flatMap Str.utf8Of = _
  simp
theorem enc_len {l : List Nat} (h : ∀ c ∈ l, c ∈ okc) : l.length ≤ (l.flatMap Str.utf8Of).length ∧ (l.flatMap Str.utf8Of).length ≤ 4 * l.length := by
  induction l with
  | nil => simp
  | cons c l ih =>
    rw [List.flatMap_cons, List.length_append, List.length_cons]
    have h1 := ok_len (h c (.head _))
    have h2 := ih fun x hx => h x (.tail _ hx)
    omega
theorem OkT.enc_size {s : PySem.Str} (h : OkT s) : 0 < (enc s).size ∧ (enc s).size ≤ 16384 := by
  have q := enc_len h.ok
  have p := h.pos
  have f := h.few
  simp only [enc, List.size_toArray]
  simp only [Array.length_toList] at q
  omega
section
variable {prog : Program} {w : World} {A : Around} {E : Value → Shared → Prop} {s : Shared} {x : PySem.Str} {t : Tok}
theorem call_encode {Q : Value → Shared → Prop} (hx : OkT x) (h : ∀ t' k, Q (.bytes (enc x) t') { s with toks := k }) : wpAny (model prog w) A (call (.builtin "str.encode") [.str x t]) Q E s := by
  have hz : (enc x).size ≤ sizeLine := by rw [sizeLine_eq]; have := hx.enc_size; omega
  refine wpAny_call_entry PySem.F.slot_str_encode (show s.TypeIs (.str x t) "str" from rfl) PySem.F.entry_str_encode ?_ (PySem.F.args_str_encode_1 _)
  rw [encode_tree, encodeRoad_utf8]
  refine wpAny_bind (wpAny_bind (wpAny_of_eq (enc_eq _ _ x (fun c hc => ok_sur (hx.ok c hc)) hz hx.pos) ?_))
  exact wpAny_mkBytes (wpAny_pure ⟨_, rfl, h _ _⟩) hz
theorem call_decode {Q : Value → Shared → Prop} (hx : OkT x) (h : ∀ t' k, Q (.str x t') { s with toks := k }) : wpAny (model prog w) A (call (.builtin "bytes.decode") [.bytes (enc x) t]) Q E s := by
  have hp := hx.enc_size.1
  have hd := fun id => dec_eq id x hx.ok (by rw [sizeLine_eq]; have := hx.few; omega)
  unfold enc at hp hd ⊢
  cases hl : x.cps.toList.flatMap Str.utf8Of with
  | nil => rw [hl] at hp; simp at hp
  | cons c cs =>
    rw [hl] at hd
    exact KBd.decode hd (by show x.cps.size ≤ 16777216; have := hx.few; omega) h
end
theorem pick_map (b : Array UInt8) (i : Nat) : ∀ l : List Nat, (∀ k ∈ l, i + k < b.size) → (l.map fun (k : Nat) => ((i : Int) + 1 * (k : Int)).toNat).filterMap (b[·]?) = l.map fun k => b.toList.getD (i + k) 0
  | [], _ => rfl
  | k :: l, h => by
    have hk := h k (.head _)
    have e3 : ((i : Int) + 1 * (k : Int)).toNat = i + k := by omega
    have e4 : b[i + k]? = some (b.toList.getD (i + k) 0) := by simp [hk]
    rw [List.map_cons, e3, List.filterMap_cons, e4, List.map_cons, pick_map b i l fun x hx => h x (.tail _ hx)]
theorem range_pick (b : Array UInt8) (i j : Nat) (hj : i ≤ j) (hb : j ≤ b.size) : Bytes.sliced b (i : Int) (j : Int) 1 = b.extract i j := by
  unfold Bytes.sliced sliceRange
  have e1 : (if (1 : Int) > 0 then (if (i : Int) < (j : Int) then ((j : Int) - i + 1 - 1) / 1 else 0) else (if (i : Int) > j then ((i : Int) - j - 1 - 1) / (-1) else 0)).toNat = j - i := by
    rw [if_pos (by decide)]
    split
    · omega
    · omega
  dsimp only
  rw [e1, pick_map b i _ fun k hk => by have := List.mem_range.mp hk; omega]
  apply Array.ext'
  rw [Array.toList_extract]
  apply List.ext_getElem?
  intro k
  by_cases hk : k < j - i
  · have hlt : i + k < b.size := by omega
    simp [hk, List.extract, hlt]
  · simp [hk, List.extract]
    omega
theorem pick_tail (a b : PySem.Str) : KBy.picked (enc (a ++ b)) (some ((enc a).size : Int)) none = enc b := by
  unfold KBy.picked
  have e : sliceBounds (some ((enc a).size : Int)) none none (enc (a ++ b)).size = (((enc a).size : Int), ((enc (a ++ b)).size : Int), 1) := by
    unfold sliceBounds
    have : (enc a).size ≤ (enc (a ++ b)).size := by rw [enc_append, Array.size_append]; omega
    simp
    omega
  rw [e, range_pick _ _ _ (by rw [enc_append, Array.size_append]; omega) (Nat.le_refl _), enc_append]
  apply Array.ext'
  simp
theorem pick_head (a b : PySem.Str) : KBy.picked (enc (a ++ b)) none (some ((enc a).size : Int)) = enc a := by
  unfold KBy.picked
  have e : sliceBounds none (some ((enc a).size : Int)) none (enc (a ++ b)).size = (0, ((enc a).size : Int), 1) := by
    unfold sliceBounds
    have : (enc a).size ≤ (enc (a ++ b)).size := by rw [enc_append, Array.size_append]; omega
    simp
    omega
  rw [e]
  have := range_pick (enc (a ++ b)) 0 (enc a).size (Nat.zero_le _) (by rw [enc_append, Array.size_append]; omega)
  rw [show ((0 : Nat) : Int) = 0 from rfl] at this
  rw [this, enc_append]
  apply Array.ext'
  simp
theorem not_whole_tail (a b : PySem.Str) (ha : 0 < (enc a).size) : KBy.whole (enc (a ++ b)) (some ((enc a).size : Int)) none = false := by
  have e : sliceBounds (some ((enc a).size : Int)) none none (enc (a ++ b)).size = (((enc a).size : Int), ((enc (a ++ b)).size : Int), 1) := by
    unfold sliceBounds
    have : (enc a).size ≤ (enc (a ++ b)).size := by rw [enc_append, Array.size_append]; omega
    simp
    omega
  unfold KBy.whole
  rw [e]
  have : (((enc a).size : Int) == 0) = false := beq_eq_false_iff_ne.mpr (by omega)
  simp [this]
theorem not_whole_head (a b : PySem.Str) (hb : 0 < (enc b).size) : KBy.whole (enc (a ++ b)) none (some ((enc a).size : Int)) = false := by
  have hz : (enc (a ++ b)).size = (enc a).size + (enc b).size := by rw [enc_append, Array.size_append]
  have e : sliceBounds none (some ((enc a).size : Int)) none (enc (a ++ b)).size = (0, ((enc a).size : Int), 1) := by
    unfold sliceBounds
    simp
    omega
  unfold KBy.whole
  rw [e]
  have : (((enc a).size : Int) == ((enc (a ++ b)).size : Int)) = false := beq_eq_false_iff_ne.mpr (by omega)
  simp [this]
section
variable {prog : Program} {w : World} {A : Around} {E : Value → Shared → Prop} {s : Shared} {value slice : PySem.Expr} {a b : PySem.Str} {t tk : Tok} {h₀ : Heap} {L : Addr} {m : PySem.Str → Option Value} {news : List (Addr × Obj)} {k : Int} {Q : Value → Shared → Prop}
theorem slice_tail (hF : Fr h₀ L s.heap m) (hN : News h₀ L s.heap news) (ha : OkT a) (hb : OkT b) (hk : k = ((enc a).size : Int))
    (h : ∀ h' t' k, Fr h₀ L h' m → News h₀ L h' news → Q (.bytes (enc b) t') { s with heap := h', toks := k })
    (hs : subscripted slice false (.bytes (enc (a ++ b)) t) (.ref s.heap.objs.size) = operate [.ref s.heap.objs.size, .bytes (enc (a ++ b)) t] (getItem (.bytes (enc (a ++ b)) t) (.ref s.heap.objs.size)) := by with_unfolding_all rfl)
    (ht : ∀ r, letTemporaryGo value (.bytes (enc (a ++ b)) t) r = pure () := by intro _; with_unfolding_all rfl) :
    wpAny (model prog w) A (subscriptTail value slice (.bytes (enc (a ++ b)) t) (.ref s.heap.objs.size)) Q E { s with heap := s.heap.push { cls := .type "slice", data := .fields #[.int k tk, .none, .none] } } := by
  subst hk
  refine KBy.slice_N hF hN (.int _ _) .none (not_whole_tail a b ha.enc_size.1) (by rw [pick_tail]; have := hb.enc_size; omega) ?_ hs ht
  rw [pick_tail]
  exact h
theorem slice_head (hF : Fr h₀ L s.heap m) (hN : News h₀ L s.heap news) (ha : OkT a) (hb : OkT b) (hk : k = ((enc a).size : Int))
    (h : ∀ h' t' k, Fr h₀ L h' m → News h₀ L h' news → Q (.bytes (enc a) t') { s with heap := h', toks := k })
    (hs : subscripted slice false (.bytes (enc (a ++ b)) t) (.ref s.heap.objs.size) = operate [.ref s.heap.objs.size, .bytes (enc (a ++ b)) t] (getItem (.bytes (enc (a ++ b)) t) (.ref s.heap.objs.size)) := by with_unfolding_all rfl)
    (ht : ∀ r, letTemporaryGo value (.bytes (enc (a ++ b)) t) r = pure () := by intro _; with_unfolding_all rfl) :
    wpAny (model prog w) A (subscriptTail value slice (.bytes (enc (a ++ b)) t) (.ref s.heap.objs.size)) Q E { s with heap := s.heap.push { cls := .type "slice", data := .fields #[.none, .int k tk, .none] } } := by
  subst hk
  refine KBy.slice_N hF hN .none (.int _ _) (not_whole_head a b hb.enc_size.1) (by rw [pick_head]; have := ha.enc_size; omega) ?_ hs ht
  rw [pick_head]
  exact h
end
/-- the whole of the octets is the very object -/
theorem meets_whole (b : Array UInt8) (t : Tok) (a : Addr) {u : Value} {hi : Option Int} (hu : IsPart u hi) (hne : KBy.whole b none hi = true) :
    Meets («bytes.__getitem__» ⟨[.bytes b t, .ref a], []⟩) (fun _ R s => s.heap.IsSliceOf a .none u .none ∧ R (.ok (.ret (.bytes b t))) s) := by
  refine .of_wp fun prog w A R s hS => ?_
  obtain ⟨⟨o, ho, hc, hd⟩, h⟩ := hS
  have hT : s.TypeIs (.ref a) "slice" := ⟨o, ho, hc⟩
  show wpAny _ _ (Bytes.payload (.bytes b t) >>= fun r => _) _ _ s
  refine wpAny_bind (wpAny_of_eq (a := b) rfl ?_)
  show wpAny _ _ (Bytes.subscript? (.ref a) >>= fun r => _) _ _ s
  refine wpAny_bind ?_
  unfold Bytes.subscript?
  refine wpAny_bind (wpAny_specialOf hT slice_no_index (wpAny_pure ?_))
  refine wpAny_bind (wpAny_typeOf hT ?_)
  show wpAny _ _ (Bytes.sliceParts (.ref a) >>= fun r => _) _ _ s
  refine wpAny_bind ?_
  unfold Bytes.sliceParts
  refine wpAny_bind (wpAny_field (x := .none) ho hd rfl ?_)
  refine wpAny_bind (wpAny_of_eq (a := Value.none) rfl ?_)
  refine wpAny_ite (KBy.ite_no (show ¬ ((Value.none == rawInt 0) = true) from Bool.false_ne_true) ?_)
  refine wpAny_bind (wpAny_field (x := .none) ho hd rfl ?_)
  have go : wpAny (model prog w) A.in1 (sliceIndices (rawPart none) (rawPart hi) (rawPart none) b.size) (fun r s' => r = sliceBounds none hi none b.size ∧ s' = s) (fun _ _ => False) s :=
    wpAny_of_eq (sliceIndices_raw none hi none b.size (fun e => nomatch e)) ⟨rfl, rfl⟩
  refine wpAny_bind (wpAny_of_eq (a := Value.none) rfl ?_)
  cases hu with
  | none =>
    refine wpAny_bind (wpAny_field (x := .none) ho hd rfl ?_)
    refine wpAny_bind (wpAny_of_eq (a := Value.none) rfl ?_)
    refine wpAny_pure ?_
    refine wpAny_bind (wpAny_mono go (fun r s' hr => ?_) fun _ _ e => e.elim)
    obtain ⟨hr1, hr2⟩ := hr
    subst hr1 hr2
    refine KFB.if_so hne ?_
    refine wpAny_bind (wpAny_typeOf (typeIs_bytes _ _ _) ?_)
    exact wpAny_bind (wpAny_rule (wpAny_pure ⟨_, rfl, h⟩))
  | int i ti =>
    refine wpAny_bind (wpAny_field (x := .int _ _) ho hd rfl ?_)
    kby_int
    refine wpAny_pure ?_
    refine wpAny_bind (wpAny_mono go (fun r s' hr => ?_) fun _ _ e => e.elim)
    obtain ⟨hr1, hr2⟩ := hr
    subst hr1 hr2
    refine KFB.if_so hne ?_
    refine wpAny_bind (wpAny_typeOf (typeIs_bytes _ _ _) ?_)
    exact wpAny_bind (wpAny_rule (wpAny_pure ⟨_, rfl, h⟩))
theorem is_whole (a : PySem.Str) (ha : 0 < (enc a).size) : KBy.whole (enc a) none (some ((enc a).size : Int)) = true := by
  have e : sliceBounds none (some ((enc a).size : Int)) none (enc a).size = (0, ((enc a).size : Int), 1) := by
    unfold sliceBounds
    simp
    omega
  unfold KBy.whole
  rw [e]
  have q : (enc a).isEmpty = false := by
    cases hq : (enc a).isEmpty with
    | false => rfl
    | true => have := Array.isEmpty_iff.mp hq; rw [this] at ha; simp at ha
  simp [q]
section
variable {prog : Program} {w : World} {A : Around} {E : Value → Shared → Prop} {s : Shared} {value slice : PySem.Expr} {a : PySem.Str} {t tk : Tok} {h₀ : Heap} {L : Addr} {m : PySem.Str → Option Value} {news : List (Addr × Obj)} {k : Int} {Q : Value → Shared → Prop}
theorem slice_whole (hF : Fr h₀ L s.heap m) (hN : News h₀ L s.heap news) (ha : OkT a) (hk : k = ((enc a).size : Int))
    (h : ∀ h' t' k, Fr h₀ L h' m → News h₀ L h' news → Q (.bytes (enc a) t') { s with heap := h', toks := k })
    (hs : subscripted slice false (.bytes (enc a) t) (.ref s.heap.objs.size) = operate [.ref s.heap.objs.size, .bytes (enc a) t] (getItem (.bytes (enc a) t) (.ref s.heap.objs.size)) := by with_unfolding_all rfl)
    (ht : ∀ r, letTemporaryGo value (.bytes (enc a) t) r = pure () := by intro _; with_unfolding_all rfl) :
    wpAny (model prog w) A (subscriptTail value slice (.bytes (enc a) t) (.ref s.heap.objs.size)) Q E { s with heap := s.heap.push { cls := .type "slice", data := .fields #[.none, .int k tk, .none] } } := by
  subst hk
  exact tail_of_ItemOn ⟨"bytes", _, FB.slot_bytes_getitem.lookup, typeIs_bytes _ _ _, getItem_meets (typeIs_bytes _ _ _) (by decide) FB.slot_bytes_getitem FB.entry_bytes_getitem (FB.args_bytes_getitem_2 _ _) (meets_whole (enc a) t _ (.int _ _) (is_whole a ha.enc_size.1))
    ⟨Heap.IsSliceOf.new _ _ _ _, h _ _ _ (hF.push _) (News.pushKeep hN _)⟩⟩ hs ht
end
end Mine
namespace Mine
open PySem PySem.W
def IsEnd (e : PySem.Str) : Prop := e = ⟨#[10]⟩ ∨ e = ⟨#[13]⟩ ∨ e = ⟨#[13, 10]⟩
def NoEnd (x : PySem.Str) : Prop := ∀ c ∈ x.cps.toList, c ≠ 10 ∧ c ≠ 13
/-- the texts, put together -/
def glue (ls : List PySem.Str) : List Nat := ls.flatMap (·.cps.toList)
def endsOf : Nat → List PySem.Str → List Nat
  | _, [] => []
  | p, x :: ls => (p + x.cps.size) :: endsOf (p + x.cps.size) ls
theorem endsOf_length : ∀ (ls : List PySem.Str) (p : Nat), (endsOf p ls).length = ls.length
  | [], _ => rfl
  | _ :: ls, p => by simp [endsOf, endsOf_length ls]
/-- lines, each with its end but for the last, perhaps -/
inductive GoodLines : List PySem.Str → Prop
  | nil : GoodLines []
  | last {x} : NoEnd x → 0 < x.cps.size → GoodLines [x]
  | cons {x e ls} : NoEnd x → IsEnd e → (e = ⟨#[13]⟩ → ∀ c r, glue ls = c :: r → c ≠ 10) → GoodLines ls → GoodLines ((x ++ e) :: ls)
theorem getD_of {a : Array Nat} {l : List Nat} {i : Nat} {c : Nat} (h : a.toList = l) (hc : l[i]? = some c) : a.getD i 0 = c := by
  rw [Array.getD_eq_getD_getElem?, ← Array.getElem?_toList, h, hc]; rfl
theorem app_list (a b : PySem.Str) : (a ++ b).cps.toList = a.cps.toList ++ b.cps.toList := by
  show (a.cps ++ b.cps).toList = _
  simp
theorem app_size (a b : PySem.Str) : (a ++ b).cps.size = a.cps.size + b.cps.size := by
  show (a.cps ++ b.cps).size = _
  simp
theorem line_at {src : PySem.Str} {x e : PySem.Str} {pre post : List Nat} (h : src.cps.toList = pre ++ (x.cps.toList ++ e.cps.toList ++ post)) (hx : NoEnd x) (he : IsEnd e) (hp : e = ⟨#[13]⟩ → ∀ c r, post = c :: r → c ≠ 10) :
    IsLine src.cps src.cps.size pre.length (pre.length + (x ++ e).cps.size) := by
  have hz : src.cps.size = pre.length + (x.cps.size + e.cps.size + post.length) := by
    have := congrArg List.length h
    simp at this
    omega
  rw [app_size]
  refine ⟨x.cps.size, fun i h1 h2 => ?_, by omega, ?_⟩
  · obtain ⟨k, rfl⟩ := Nat.exists_eq_add_of_le h1
    have hk : k < x.cps.size := by omega
    have e1 : src.cps.getD (pre.length + k) 0 = x.cps[k] := by
      refine getD_of h ?_
      rw [List.getElem?_append_right (by omega)]
      rw [Nat.add_sub_cancel_left, List.getElem?_append_left (by simp; omega), List.getElem?_append_left (by simpa using hk)]
      simp [hk]
    rw [e1]
    exact hx _ (by simp)
  · have at_e : ∀ k c, (e.cps.toList ++ post)[k]? = some c → src.cps.getD (pre.length + x.cps.size + k) 0 = c := fun k c hc => by
      refine getD_of h ?_
      rw [List.getElem?_append_right (by omega), List.append_assoc, List.getElem?_append_right (by simp; omega)]
      rw [← hc]
      congr 1
      simp
      omega
    rcases he with rfl | rfl | rfl
    · exact .inr (.inl ⟨by simp at hz; omega, at_e 0 10 rfl, by simp; omega⟩)
    · refine .inr (.inr (.inr ⟨by simp at hz; omega, at_e 0 13 rfl, ?_, by simp; omega⟩))
      cases post with
      | nil => exact .inl (by simp at hz; omega)
      | cons c r =>
        refine .inr ?_
        rw [at_e 1 c rfl]
        exact hp rfl c r rfl
    · exact .inr (.inr (.inl ⟨by simp at hz; omega, at_e 0 13 rfl, at_e 1 10 rfl, by simp; omega⟩))
theorem line_last {src : PySem.Str} {x : PySem.Str} {pre : List Nat} (h : src.cps.toList = pre ++ x.cps.toList) (hx : NoEnd x) : IsLine src.cps src.cps.size pre.length (pre.length + x.cps.size) := by
  have hz : src.cps.size = pre.length + x.cps.size := by
    have := congrArg List.length h
    simpa using this
  refine ⟨x.cps.size, fun i h1 h2 => ?_, by omega, .inl ⟨hz.symm, hz.symm⟩⟩
  obtain ⟨k, rfl⟩ := Nat.exists_eq_add_of_le h1
  have hk : k < x.cps.size := by omega
  have e1 : src.cps.getD (pre.length + k) 0 = x.cps[k] := by
    refine getD_of h ?_
    rw [List.getElem?_append_right (by omega)]
    rw [Nat.add_sub_cancel_left]
    simp [hk]
  rw [e1]
  exact hx _ (by simp)
theorem IsEnd.pos {e : PySem.Str} (h : IsEnd e) : 0 < e.cps.size := by
  rcases h with rfl | rfl | rfl <;> decide
theorem chain_of {src : PySem.Str} : ∀ {ls : List PySem.Str} (pre : List Nat), GoodLines ls → src.cps.toList = pre ++ glue ls → Chain src pre.length (endsOf pre.length ls)
  | _, pre, .nil, h => by
    have := congrArg List.length h
    simp [glue] at this
    exact this.symm
  | _, pre, .last (x := x) hx hp, h => by
    have h' : src.cps.toList = pre ++ x.cps.toList := by simpa [glue] using h
    refine ⟨line_last h' hx, by omega, ?_⟩
    have := congrArg List.length h'
    simp at this
    exact this.symm
  | _, pre, .cons (x := x) (e := e) (ls := ls) hx he hn hl, h => by
    have h' : src.cps.toList = pre ++ (x.cps.toList ++ e.cps.toList ++ glue ls) := by
      rw [h]
      simp [glue, app_list]
    refine ⟨line_at h' hx he hn, by have := he.pos; rw [app_size]; omega, ?_⟩
    have e2 : pre.length + (x ++ e).cps.size = (pre ++ (x ++ e).cps.toList).length := by simp
    rw [e2]
    refine chain_of _ hl ?_
    rw [h', app_list]
    simp
/-- the values are these texts -/
def AreStrs : List PySem.Str → List Value → Prop
  | [], [] => True
  | x :: ls, v :: vs => (∃ t, v = .str x t) ∧ AreStrs ls vs
  | _, _ => False
theorem lines_of {src : PySem.Str} : ∀ (ls : List PySem.Str) (pre : List Nat) (vs : List Value), src.cps.toList = pre ++ glue ls → LinesAre src pre.length (endsOf pre.length ls) vs → AreStrs ls vs
  | [], _, [], _, _ => trivial
  | [], _, _ :: _, _, h => h.elim
  | _ :: _, _, [], _, h => h.elim
  | x :: ls, pre, v :: vs, h, hl => by
    obtain ⟨⟨t, ht⟩, hl⟩ := hl
    have h' : src.cps.toList = (pre ++ x.cps.toList) ++ glue ls := by
      rw [h]
      simp [glue]
    have e2 : pre.length + x.cps.size = (pre ++ x.cps.toList).length := by simp
    refine And.intro ⟨t, ?_⟩ (lines_of ls (pre ++ x.cps.toList) vs h' (by rw [← e2]; exact hl))
    rw [ht]
    congr 1
    show PySem.Str.mk (src.cps.extract pre.length (pre.length + x.cps.size)) = x
    obtain ⟨cps⟩ := x
    congr 1
    apply Array.ext'
    rw [Array.toList_extract, h']
    simp [List.extract]
end Mine
namespace Mine
open PySem PySem.W PyProof.Rows PySem.Calls PySem.Builtin
theorem binds_kw {s : Shared} {fd : FuncData} {args : Args} {binds : List (PySem.Str × Value)} {d : Addr} {m : PySem.Str → Option Value} {name : PySem.Str} {k : Option Value → Sem (List (PySem.Str × Value))} (hn : s.heap.Ns d m)
    (h₁ : bindArgs fd args = nsGet d name >>= k) (h₂ : k (m name) = pure binds) : BindsTo s fd args binds :=
  fun M A E Q hq => by
    rw [h₁]
    refine wpAny_bind (wpAny_nsGet hn ?_)
    rw [h₂]
    exact wpAny_pure hq
theorem binds_load {s : Shared} {fd : FuncData} {args : Args} {binds : List (PySem.Str × Value)} {d : Addr} {o : Obj} {part : Option Value} {k : Obj → Sem (List (PySem.Str × Value))} (h₁ : bindArgs fd args = .load d part k) (ho : s.heap.get? d = some o) (h₂ : k o = pure binds) : BindsTo s fd args binds :=
  fun M A E Q hq Γ p hΓ => by
    rw [h₁]
    refine ⟨o, ho, ?_⟩
    rw [h₂]
    exact hq
theorem ns_one {h : Heap} {a : Addr} {c : Value} {dd : Option Addr} {hs : Int} {x : PySem.Str} {t : Tok} {v : Value} {n : Nat} {sl : Array (Option Value)} (e : h.get? a = some ⟨c, dd, .dict #[⟨hs, .str x t, v⟩] n, sl⟩) : h.Ns a (nsFind #[⟨hs, .str x t, v⟩]) :=
  ⟨_, _, _, e, rfl, fun y hy => by simp at hy; subst hy; exact ⟨_, _, rfl⟩, fun _ => rfl⟩
section
variable {prog : Program} {w : World} {A : Around} {E : Value → Shared → Prop} {s : Shared}
/-- the callee's name, then the call in the other model -/
theorem callX_name {env : Env} {id : PySem.Str} {p pos : Pos} {args : List PySem.Expr} {keywords : List Keyword} {Q : Value → Shared → Prop}
    (h : wpAny (model prog w) A (eval (.Name id p) env) (fun f s₁ => Then (wpAny (MX prog w) A (callWith pos f [] (backTo pos (starEach args env)) (backToKw pos (keywordEach keywords env))) Q E s₁)) E s) :
    wpAny (MX prog w) A (eval (.Call (.Name id p) args keywords pos) env) Q E s := wpAny_Call_Name_kw (wpAny_mono (lift h) (fun _ _ x => x.go) fun _ _ x => x)
/-- its arguments, by the library's walk -/
theorem callX_KW {K : Frag} {h₀ : Heap} {env : Env} {pos : Pos} {f : Value} {first : List Value} {Q : Value → Shared → Prop} {e : PySem.Expr} {rest : List PySem.Expr} {kws : List Keyword} (_X : K.In h₀) (hk : keepIn K f = true) (hall : (backToKw pos (keywordEach kws env)).all (·.1.isSome) = true)
    (h : wpAny (model prog w) A (spliced (backTo pos (starEach (e :: rest) env))) (fun vs s₁ => wpAny (model prog w) A (evalAll ((backToKw pos (keywordEach kws env)).map (·.2)))
      (fun ks s₂ => Then (K.In s₂.heap ∧ wpAny (MX prog w) A (call f (first ++ vs) (((backToKw pos (keywordEach kws env)).filterMap (·.1)).zip ks)) Q E s₂)) E s₁) E s)
    (hplain : ((backTo pos (starEach (e :: rest) env)).any (·.1) || (backToKw pos (keywordEach kws env)).any (·.1.isNone)) = false := by rfl) (he : starEach (e :: rest) env = (false, eval e env) :: starEach rest env := by rfl) :
    wpAny (MX prog w) A (callWith pos f first (backTo pos (starEach (e :: rest) env)) (backToKw pos (keywordEach kws env))) Q E s :=
  callWith_of hplain (keeps_K hk) (wpAny_mono (lift (evalArgs_kw2 (Q := fun z s₂ => Then (K.In s₂.heap ∧ wpAny (MX prog w) A (call f (first ++ z.pos) z.kw) Q E s₂)) hall h he)) (fun _ _ x => x.go) fun _ _ x => x)
/-- a store, then what is behind it -/
theorem storeX {env : Env} {x : PySem.Str} {v : Value} {Q : Unit → Shared → Prop} (h : wpAny (model prog w) A (storeName env x v) (fun r s' => Then (Q r s')) E s) : wpAny (MX prog w) A (storeName env x v) Q E s := wpAny_mono (lift h) (fun _ _ x => x.go) fun _ _ x => x
end
end Mine
namespace Mine
open PySem PySem.W PyProof.Rows
theorem pad_claim (w : World) (mean : ExcName → Option Value) (mg mb : PySem.Str → Option Value) (news : List (Addr × Obj)) (src : PySem.Str) (tk : Tok) :
    Cs Challenge.rw_dm0005_04.prog w (hd04.heap_39 w.params) hd04.view_39 loose04 mean mg mb 51 1 news (src.length ≤ 1048576) [.str src tk] (fun t => .str (pad src) t) := by
  w_top off
  k_fill
  dsimp only [Cs]; intros; rename_i hlen _ _ hret
  k_with_none
  k_with "pyIter str" => k_state (fun (pre : List Int) r => r = pad (KStt.txt pre) ∧ r.length = pre.length) "result"
  k_with "state" => first | exact pad_start | exact pad_keep (by assumption) (by assumption) (by assumption) | exact pad_blank (by assumption) (by assumption) (by assumption)
  refine wpAny_call ?_
  k_dflt cell_enter
  k_steps

  exact cb_retS hret (pad_done (by assumption)) (by k_asm) (by k_asm)
end Mine
namespace Mine
open PySem PySem.W PyProof.Rows
theorem meth_encode {M : Model} {A : Around} {E : Value → Shared → Prop} {s : Shared} {t : Tok} {pl : Sem Bool} {x : PySem.Str} {Q : Value × List Value → Shared → Prop} (h : Q (.builtin "str.encode", [.str x t]) s) : wpAny M A (getMethod (.str x t) "encode" pl) Q E s :=
  getMethod_builtin (show s.TypeIs (.str x t) "str" from rfl) PySem.F.plainAttrs_str PySem.F.slot_str_encode PySem.F.type_str_encode (fun _ e => nomatch e) h
end Mine
namespace Mine
open PySem PySem.W PyProof.Rows
local macro_rules | `(tactic| walk_at "getAttr ref") => `(tactic| (
  k_here; (k_dflt (refine' get_K (by k_asm) (by first | assumption | (repeat (first | assumption | apply List.Mem.tail))) (by first | assumption | (repeat (first | assumption | apply List.Mem.tail))) (by assumption) ?k5 ?k6 ?k7 ?_; (case k5 => exact rfl); (case k6 => first | exact look_lineno | exact look_col | exact look_elineno | exact look_ecol); (case k7 => exact rfl))); k_whole; (try dsimp only)))
local macro_rules | `(tactic| walk_at "getMethod str") => `(tactic| (k_here; (with_reducible refine meth_encode ?_)))
local macro_rules | `(tactic| walk_at "call builtin:str.encode") => `(tactic| (k_here; (with_reducible refine call_encode (by assumption) ?_); intro _ _; (try dsimp only)))
local macro_rules | `(tactic| walk_at "call builtin:bytes.decode") => `(tactic| (k_here; (with_reducible refine call_decode (by assumption) ?_); intro _ _; (try dsimp only)))
local macro_rules | `(tactic| walk_at "subscriptTail") => `(tactic| (k_here; (with_reducible show wpAny _ _ (subscriptTail _ (PySem.Expr.Slice _ _ none _) (Value.bytes _ _) (Value.ref _)) _ _ _); (with_reducible rename Fr _ _ _ _ => F'); (with_reducible rename News _ _ _ _ => N'); (first | refine slice_tail (s := ⟨_, _, _, _, _⟩) F' N' (by assumption) (by assumption) rfl ?_ | refine slice_head (s := ⟨_, _, _, _, _⟩) F' N' (by assumption) (by assumption) rfl ?_ | refine slice_whole (s := ⟨_, _, _, _, _⟩) F' N' (by assumption) rfl ?_); intro _ _ _ _ _; (try dsimp only)))
local macro_rules | `(tactic| walk_at "binaryOp Add str str") => `(tactic| (k_here; (with_reducible show wpAny _ _ (binaryOp Operator.Add (Value.str _ _) (Value.str _ _)) _ _ _); (refine KOpn.add (by omega) ?_); intro _ _ _; (try dsimp only)))
local macro_rules | `(tactic| walk_at "call builtin:str.join") => `(tactic| (k_here; (with_reducible show wpAny _ _ (call (Value.builtin _) [Value.str _ _, Value.ref _]) _ _ _); (k_dflt (refine join_listW (by is_list) (by kct_strs) (by decide +kernel) (by simp only [List.map_cons, List.map_nil, List.sum_cons, List.sum_nil, List.length_cons, List.length_nil]; omega) ?_)); intro _ _; (try dsimp only)))
local macro_rules | `(tactic| walk_at "MINE call") => `(tactic| (
  (case k1 => first | k_asm | ktn_no "MINE: the frames below");
  (case k2 => first | k_asm | ktn_no "MINE: the frame");
  (case k3 => first | k_asm | ktn_no "MINE: the written part");
  (case k4 => first | k_asm | ktn_no "MINE: the ledger");
  (case k5 => first | k_asm | ktn_no "MINE: the top's facts");
  (case kK => first | exact rfl | assumption | ktn_no "MINE: the caller is no def");
  (case kd => first | ktr_room | ktn_no "MINE: the frames' room");
  (case ku => first | ktr_units | ktn_no "MINE: the C units")))
local macro_rules | `(tactic| walk_at "call ref") => `(tactic| (
  k_here; (with_reducible show wpAny _ _ (call (Value.ref 51) [Value.str _ _]) _ _ _);
  (k_dflt (refine' cs_use (pad_claim _ _ _ _ _ _ _) ?k1 ?k2 ?k3 ?k4 ?k5 ?kK ?kp ?kd ?ku ?_; (case kp => omega); walk_at "MINE call")); k_whole; intro t9 h9 tk9 F9 N9; (try dsimp only); (try k_fold)))
theorem binds_eq {s : Shared} {fd : FuncData} {args : Args} {binds : List (PySem.Str × Value)} (h : bindArgs fd args = pure binds) : BindsTo s fd args binds :=
  fun M A E Q hq => by
    rw [h]
    exact wpAny_pure hq
theorem join3p (p F S T : PySem.Str) : PySem.Txt.join (PySem.Str.ofString "") [p ++ F, S, T] = p ++ F ++ S ++ T := by
  have e0 : PySem.Str.ofString "" = PySem.Str.empty := rfl
  unfold PySem.Txt.join
  rw [e0, StrLaws.glued_eq_join]
  show p ++ F ++ PySem.Str.empty ++ (S ++ PySem.Str.empty ++ T) = _
  simp only [PySem.Str.append_empty, PySem.Str.append_assoc]
theorem join3e (F S T : PySem.Str) : PySem.Txt.join (PySem.Str.ofString "") [PySem.Str.ofString "" ++ F, S, T] = F ++ S ++ T := by
  have e0 : PySem.Str.ofString "" = PySem.Str.empty := rfl
  rw [join3p, e0, PySem.Str.empty_append]
theorem gss4 (w : World) (mean : ExcName → Option Value) (mg mb : PySem.Str → Option Value) (news : List (Addr × Obj)) (src P H F S T U : PySem.Str) (tk ta tb tc td : Tok) (e t d : Addr) (od : Obj) :
    CX Challenge.rw_dm0005_04.prog w (hd04.heap_39 w.params) hd04.view_39 loose04 mean mg mb 59 2 news
      ((src.cps.toList = glue [P, H ++ F, S, T ++ U] ∧ src.cps.size ≤ 16384 ∧ GoodLines [P, H ++ F, S, T ++ U]) ∧ (OkT H ∧ OkT F ∧ OkT (H ++ F) ∧ OkT T ∧ OkT U ∧ OkT (T ++ U) ∧ S.cps.size ≤ 4096) ∧
        (e, excObj t (some d)) ∈ news ∧ (d, od) ∈ news ∧ NsO od (nodeM (.int 2 ta) (.int ((enc H).size : Int) tb) (.int 4 tc) (.int ((enc T).size : Int) td)))
      [.str src tk, .ref e] [] (fun tl r => tl = [] ∧ ∃ t, r = .str (F ++ S ++ T) t) := by
  w_top off
  k_fill
  dsimp only [CX]; intros; rename_i hasks _ _ hret
  obtain ⟨⟨hsrc, hsz, hgood⟩, ⟨okH, okF, okHF, okT, okU, okTU, szS⟩, m1, m2, hnode⟩ := hasks
  have zP : (pad H).length = H.length := pad_length H
  have zH : H.length ≤ 4096 := okH.few
  have zF : F.length ≤ 4096 := okF.few
  have zT : T.length ≤ 4096 := okT.few
  have zS : S.length ≤ 4096 := szS
  have z0 : (PySem.Str.ofString "").length = 0 := rfl
  k_with_none
  refine wpAny_call ?_
  k_dflt (refine' codeX_plain (binds := [(PySem.Str.ofString "source", .str src tk), (PySem.Str.ofString "node", .ref e), (PySem.Str.ofString "padded", .bool false)]) ?k1 ?k2 ?k3 ?k4 ?k5 ?kA ?kF ?kK ?k6 ?k7 ?k8 ?k9 ?kB ?_ ?c2 ?c3 ?c4 ?c5)
  (case kA => exact rfl)
  (case kF => exact rfl)
  (case kK => assumption)
  (case k1 => k_asm)
  (case k2 => k_asm)
  (case k3 => k_asm)
  (case k4 => k_asm)
  (case k5 => k_asm)
  (case k6 => k_dflt k_is)
  (case k7 => k_dflt k_is)
  (case k8 => ktr_room)
  (case k9 => k_dflt (refine' binds_load ?q1 (Frag.In.keeps (by assumption) (Fr.keep (by assumption)) 52 _ rfl) ?q2; (case q1 => exact rfl); (case q2 => kernel_rfl)))
  (case c5 => decide)
  (case kB => exact locs rfl)
  (case c2 => exact rfl)
  (case c3 => exact rfl)
  (case c4 => exact rfl)
  intro g' L' h' FG' F' N' B' X' T'; (try dsimp only); (try k_lift B'); (try k_fold)
  refine stretch 1 ?_
  dsimp only [List.take, List.drop]
  k_steps
  refine ⟨?_⟩
  refine wpAny_execs_cons (wpAny_Assign_Name (callX_name ?_))
  k_steps
  refine ⟨?_⟩
  refine callX_KW X' (by k_dflt k_is) rfl ?_
  k_steps
  refine ⟨⟨Frag.In.keeps X' (Fr.keep (by assumption)), ?_⟩⟩
  have hch : Chain src 0 (endsOf 0 [P, H ++ F, S, T ++ U]) := chain_of [] hgood hsrc
  refine split_claim w _ _ _ _ src (endsOf 0 [P, H ++ F, S, T ++ U]) _ _ _ _ _ _ _ _ _ _ _ _ _ _ _ _ _ _ _ B' (by assumption) X' (by assumption) T' rfl ⟨by omega, by simp [endsOf], hch⟩ ?r1 ?r2 ?_
  case r1 => ktr_room
  case r2 => ktr_room
  intro r tl h9 k9 F9 N9 l9 hp
  obtain ⟨D, vs, c, rfl, rfl, hl⟩ := hp
  have hv := lines_of [P, H ++ F, S, T ++ U] [] vs hsrc hl
  match vs, hv with
  | [_, _, _, _], ⟨⟨q1, e1⟩, ⟨q2, e2⟩, ⟨q3, e3⟩, ⟨q4, e4⟩, _⟩ =>
  subst e1 e2 e3 e4
  dsimp only [List.cons_append, List.nil_append] at N9 l9 ⊢
  refine storeX ?_
  k_steps
  refine ⟨?_⟩
  refine lift ?_
  k_steps
  rw [join3e]
  exact hret _ [] _ _ (by k_asm) (by intro p hp; rename News _ _ _ _ => Nn; exact Nn p (by repeat (first | exact hp | apply List.Mem.tail))) (fun p hp => nomatch hp) ⟨rfl, _, rfl⟩
theorem gss4p (w : World) (mean : ExcName → Option Value) (mg mb : PySem.Str → Option Value) (news : List (Addr × Obj)) (src P H F S T U : PySem.Str) (tk ta tb tc td : Tok) (e t d : Addr) (od : Obj) :
    CX Challenge.rw_dm0005_04.prog w (hd04.heap_39 w.params) hd04.view_39 loose04 mean mg mb 59 2 news
      ((src.cps.toList = glue [P, H ++ F, S, T ++ U] ∧ src.cps.size ≤ 16384 ∧ GoodLines [P, H ++ F, S, T ++ U]) ∧ (OkT H ∧ OkT F ∧ OkT (H ++ F) ∧ OkT T ∧ OkT U ∧ OkT (T ++ U) ∧ S.cps.size ≤ 4096) ∧
        (e, excObj t (some d)) ∈ news ∧ (d, od) ∈ news ∧ NsO od (nodeM (.int 2 ta) (.int ((enc H).size : Int) tb) (.int 4 tc) (.int ((enc T).size : Int) td)))
      [.str src tk, .ref e] [(PySem.Str.ofString "padded", .bool true)] (fun tl r => tl = [] ∧ ∃ t, r = .str (pad H ++ F ++ S ++ T) t) := by
  w_top off
  k_fill
  dsimp only [CX]; intros; rename_i hasks _ _ hret
  obtain ⟨⟨hsrc, hsz, hgood⟩, ⟨okH, okF, okHF, okT, okU, okTU, szS⟩, m1, m2, hnode⟩ := hasks
  have zP : (pad H).length = H.length := pad_length H
  have zH : H.length ≤ 4096 := okH.few
  have zF : F.length ≤ 4096 := okF.few
  have zT : T.length ≤ 4096 := okT.few
  have zS : S.length ≤ 4096 := szS
  have z0 : (PySem.Str.ofString "").length = 0 := rfl
  k_with_none
  refine wpAny_call ?_
  k_dflt (refine' codeX_plain (binds := [(PySem.Str.ofString "source", .str src tk), (PySem.Str.ofString "node", .ref e), (PySem.Str.ofString "padded", .bool true)]) ?k1 ?k2 ?k3 ?k4 ?k5 ?kA ?kF ?kK ?k6 ?k7 ?k8 ?k9 ?kB ?_ ?c2 ?c3 ?c4 ?c5)
  (case kA => exact rfl)
  (case kF => exact rfl)
  (case kK => assumption)
  (case k1 => k_asm)
  (case k2 => k_asm)
  (case k3 => k_asm)
  (case k4 => k_asm)
  (case k5 => k_asm)
  (case k6 => k_dflt k_is)
  (case k7 => k_dflt k_is)
  (case k8 => ktr_room)
  (case k9 => k_dflt (exact binds_eq (by kernel_rfl)))
  (case c5 => decide)
  (case kB => exact locs rfl)
  (case c2 => exact rfl)
  (case c3 => exact rfl)
  (case c4 => exact rfl)
  intro g' L' h' FG' F' N' B' X' T'; (try dsimp only); (try k_lift B'); (try k_fold)
  refine stretch 1 ?_
  dsimp only [List.take, List.drop]
  k_steps
  refine ⟨?_⟩
  refine wpAny_execs_cons (wpAny_Assign_Name (callX_name ?_))
  k_steps
  refine ⟨?_⟩
  refine callX_KW X' (by k_dflt k_is) rfl ?_
  k_steps
  refine ⟨⟨Frag.In.keeps X' (Fr.keep (by assumption)), ?_⟩⟩
  have hch : Chain src 0 (endsOf 0 [P, H ++ F, S, T ++ U]) := chain_of [] hgood hsrc
  refine split_claim w _ _ _ _ src (endsOf 0 [P, H ++ F, S, T ++ U]) _ _ _ _ _ _ _ _ _ _ _ _ _ _ _ _ _ _ _ B' (by assumption) X' (by assumption) T' rfl ⟨by omega, by simp [endsOf], hch⟩ ?r1 ?r2 ?_
  case r1 => ktr_room
  case r2 => ktr_room
  intro r tl h9 k9 F9 N9 l9 hp
  obtain ⟨D, vs, c, rfl, rfl, hl⟩ := hp
  have hv := lines_of [P, H ++ F, S, T ++ U] [] vs hsrc hl
  match vs, hv with
  | [_, _, _, _], ⟨⟨q1, e1⟩, ⟨q2, e2⟩, ⟨q3, e3⟩, ⟨q4, e4⟩, _⟩ =>
  subst e1 e2 e3 e4
  dsimp only [List.cons_append, List.nil_append] at N9 l9 ⊢
  refine storeX ?_
  k_steps
  refine ⟨?_⟩
  refine lift ?_
  k_steps
  rw [join3p]
  exact hret _ [] _ _ (by k_asm) (by intro p hp; rename News _ _ _ _ => Nn; exact Nn p (by repeat (first | exact hp | apply List.Mem.tail))) (fun p hp => nomatch hp) ⟨rfl, _, rfl⟩
theorem gss3 (w : World) (mean : ExcName → Option Value) (mg mb : PySem.Str → Option Value) (news : List (Addr × Obj)) (src H F S T : PySem.Str) (tk ta tb tc td : Tok) (e t d : Addr) (od : Obj) :
    CX Challenge.rw_dm0005_04.prog w (hd04.heap_39 w.params) hd04.view_39 loose04 mean mg mb 59 2 news
      ((src.cps.toList = glue [H ++ F, S, T] ∧ src.cps.size ≤ 16384 ∧ GoodLines [H ++ F, S, T]) ∧ (OkT H ∧ OkT F ∧ OkT (H ++ F) ∧ OkT T ∧ S.cps.size ≤ 4096) ∧
        (e, excObj t (some d)) ∈ news ∧ (d, od) ∈ news ∧ NsO od (nodeM (.int 1 ta) (.int ((enc H).size : Int) tb) (.int 3 tc) (.int ((enc T).size : Int) td)))
      [.str src tk, .ref e] [] (fun tl r => tl = [] ∧ ∃ t, r = .str (F ++ S ++ T) t) := by
  w_top off
  k_fill
  dsimp only [CX]; intros; rename_i hasks _ _ hret
  obtain ⟨⟨hsrc, hsz, hgood⟩, ⟨okH, okF, okHF, okT, szS⟩, m1, m2, hnode⟩ := hasks
  have zP : (pad H).length = H.length := pad_length H
  have zH : H.length ≤ 4096 := okH.few
  have zF : F.length ≤ 4096 := okF.few
  have zT : T.length ≤ 4096 := okT.few
  have zS : S.length ≤ 4096 := szS
  have z0 : (PySem.Str.ofString "").length = 0 := rfl
  k_with_none
  refine wpAny_call ?_
  k_dflt (refine' codeX_plain (binds := [(PySem.Str.ofString "source", .str src tk), (PySem.Str.ofString "node", .ref e), (PySem.Str.ofString "padded", .bool false)]) ?k1 ?k2 ?k3 ?k4 ?k5 ?kA ?kF ?kK ?k6 ?k7 ?k8 ?k9 ?kB ?_ ?c2 ?c3 ?c4 ?c5)
  (case kA => exact rfl)
  (case kF => exact rfl)
  (case kK => assumption)
  (case k1 => k_asm)
  (case k2 => k_asm)
  (case k3 => k_asm)
  (case k4 => k_asm)
  (case k5 => k_asm)
  (case k6 => k_dflt k_is)
  (case k7 => k_dflt k_is)
  (case k8 => ktr_room)
  (case k9 => k_dflt (refine' binds_load ?q1 (Frag.In.keeps (by assumption) (Fr.keep (by assumption)) 52 _ rfl) ?q2; (case q1 => exact rfl); (case q2 => kernel_rfl)))
  (case c5 => decide)
  (case kB => exact locs rfl)
  (case c2 => exact rfl)
  (case c3 => exact rfl)
  (case c4 => exact rfl)
  intro g' L' h' FG' F' N' B' X' T'; (try dsimp only); (try k_lift B'); (try k_fold)
  refine stretch 1 ?_
  dsimp only [List.take, List.drop]
  k_steps
  refine ⟨?_⟩
  refine wpAny_execs_cons (wpAny_Assign_Name (callX_name ?_))
  k_steps
  refine ⟨?_⟩
  refine callX_KW X' (by k_dflt k_is) rfl ?_
  k_steps
  refine ⟨⟨Frag.In.keeps X' (Fr.keep (by assumption)), ?_⟩⟩
  have hch : Chain src 0 (endsOf 0 [H ++ F, S, T]) := chain_of [] hgood hsrc
  refine split_claim w _ _ _ _ src (endsOf 0 [H ++ F, S, T]) _ _ _ _ _ _ _ _ _ _ _ _ _ _ _ _ _ _ _ B' (by assumption) X' (by assumption) T' rfl ⟨by omega, by simp [endsOf], hch⟩ ?r1 ?r2 ?_
  case r1 => ktr_room
  case r2 => ktr_room
  intro r tl h9 k9 F9 N9 l9 hp
  obtain ⟨D, vs, c, rfl, rfl, hl⟩ := hp
  have hv := lines_of [H ++ F, S, T] [] vs hsrc hl
  match vs, hv with
  | [_, _, _], ⟨⟨q1, e1⟩, ⟨q2, e2⟩, ⟨q3, e3⟩, _⟩ =>
  subst e1 e2 e3
  dsimp only [List.cons_append, List.nil_append] at N9 l9 ⊢
  refine storeX ?_
  k_steps
  refine ⟨?_⟩
  refine lift ?_
  k_steps
  rw [join3e]
  exact hret _ [] _ _ (by k_asm) (by intro p hp; rename News _ _ _ _ => Nn; exact Nn p (by repeat (first | exact hp | apply List.Mem.tail))) (fun p hp => nomatch hp) ⟨rfl, _, rfl⟩
theorem gss3p (w : World) (mean : ExcName → Option Value) (mg mb : PySem.Str → Option Value) (news : List (Addr × Obj)) (src H F S T : PySem.Str) (tk ta tb tc td : Tok) (e t d : Addr) (od : Obj) :
    CX Challenge.rw_dm0005_04.prog w (hd04.heap_39 w.params) hd04.view_39 loose04 mean mg mb 59 2 news
      ((src.cps.toList = glue [H ++ F, S, T] ∧ src.cps.size ≤ 16384 ∧ GoodLines [H ++ F, S, T]) ∧ (OkT H ∧ OkT F ∧ OkT (H ++ F) ∧ OkT T ∧ S.cps.size ≤ 4096) ∧
        (e, excObj t (some d)) ∈ news ∧ (d, od) ∈ news ∧ NsO od (nodeM (.int 1 ta) (.int ((enc H).size : Int) tb) (.int 3 tc) (.int ((enc T).size : Int) td)))
      [.str src tk, .ref e] [(PySem.Str.ofString "padded", .bool true)] (fun tl r => tl = [] ∧ ∃ t, r = .str (pad H ++ F ++ S ++ T) t) := by
  w_top off
  k_fill
  dsimp only [CX]; intros; rename_i hasks _ _ hret
  obtain ⟨⟨hsrc, hsz, hgood⟩, ⟨okH, okF, okHF, okT, szS⟩, m1, m2, hnode⟩ := hasks
  have zP : (pad H).length = H.length := pad_length H
  have zH : H.length ≤ 4096 := okH.few
  have zF : F.length ≤ 4096 := okF.few
  have zT : T.length ≤ 4096 := okT.few
  have zS : S.length ≤ 4096 := szS
  have z0 : (PySem.Str.ofString "").length = 0 := rfl
  k_with_none
  refine wpAny_call ?_
  k_dflt (refine' codeX_plain (binds := [(PySem.Str.ofString "source", .str src tk), (PySem.Str.ofString "node", .ref e), (PySem.Str.ofString "padded", .bool true)]) ?k1 ?k2 ?k3 ?k4 ?k5 ?kA ?kF ?kK ?k6 ?k7 ?k8 ?k9 ?kB ?_ ?c2 ?c3 ?c4 ?c5)
  (case kA => exact rfl)
  (case kF => exact rfl)
  (case kK => assumption)
  (case k1 => k_asm)
  (case k2 => k_asm)
  (case k3 => k_asm)
  (case k4 => k_asm)
  (case k5 => k_asm)
  (case k6 => k_dflt k_is)
  (case k7 => k_dflt k_is)
  (case k8 => ktr_room)
  (case k9 => k_dflt (exact binds_eq (by kernel_rfl)))
  (case c5 => decide)
  (case kB => exact locs rfl)
  (case c2 => exact rfl)
  (case c3 => exact rfl)
  (case c4 => exact rfl)
  intro g' L' h' FG' F' N' B' X' T'; (try dsimp only); (try k_lift B'); (try k_fold)
  refine stretch 1 ?_
  dsimp only [List.take, List.drop]
  k_steps
  refine ⟨?_⟩
  refine wpAny_execs_cons (wpAny_Assign_Name (callX_name ?_))
  k_steps
  refine ⟨?_⟩
  refine callX_KW X' (by k_dflt k_is) rfl ?_
  k_steps
  refine ⟨⟨Frag.In.keeps X' (Fr.keep (by assumption)), ?_⟩⟩
  have hch : Chain src 0 (endsOf 0 [H ++ F, S, T]) := chain_of [] hgood hsrc
  refine split_claim w _ _ _ _ src (endsOf 0 [H ++ F, S, T]) _ _ _ _ _ _ _ _ _ _ _ _ _ _ _ _ _ _ _ B' (by assumption) X' (by assumption) T' rfl ⟨by omega, by simp [endsOf], hch⟩ ?r1 ?r2 ?_
  case r1 => ktr_room
  case r2 => ktr_room
  intro r tl h9 k9 F9 N9 l9 hp
  obtain ⟨D, vs, c, rfl, rfl, hl⟩ := hp
  have hv := lines_of [H ++ F, S, T] [] vs hsrc hl
  match vs, hv with
  | [_, _, _], ⟨⟨q1, e1⟩, ⟨q2, e2⟩, ⟨q3, e3⟩, _⟩ =>
  subst e1 e2 e3
  dsimp only [List.cons_append, List.nil_append] at N9 l9 ⊢
  refine storeX ?_
  k_steps
  refine ⟨?_⟩
  refine lift ?_
  k_steps
  rw [join3p]
  exact hret _ [] _ _ (by k_asm) (by intro p hp; rename News _ _ _ _ => Nn; exact Nn p (by repeat (first | exact hp | apply List.Mem.tail))) (fun p hp => nomatch hp) ⟨rfl, _, rfl⟩
end Mine
namespace Mine
open PySem PySem.W PyProof.Rows PySem.Calls
/-- the law's own def entered in the other model -/
theorem call_fullX {prog : Program} {w : World} {A : Around} {R : Result → Shared → Prop} {s : Shared} {name : PySem.Str} {params : Arguments} {body : List PySem.Stmt} {scope : Scope}
    {dV kV pm cd doc : Value} {a : Addr} {o : Obj} {args : Args} {binds : List (PySem.Str × Value)}
    (hroom : A.depth < recursionLimit) (ho : s.heap.get? a = some o) (hdata : o.data = .func { docDef name params body scope pm cd doc with defaults := dV, kwdefaults := kV }) (hlim : s.heap.NoLimit) (hcd : s.heap.CodeRec cd name)
    (hbind : BindsTo s { docDef name params body scope pm cd doc with defaults := dV, kwdefaults := kV } args binds)
    (hloc : ∀ x ∈ binds, scope.names.lookup x.1 = some .local)
    (h : ∀ h₁, Fr s.heap s.heap.objs.size h₁ (fun x => binds.reverse.lookup x) →
      wpAny (MX prog w) (A.deeper (envOf name scope s.heap.objs.size a cd)) (execs body (envOf name scope s.heap.objs.size a cd))
        (fun f s' => R (.ok (.ret (match f with | .ret v => v | _ => .none))) s')
        (fun e s' => wpAny (MX prog w) (A.deeper (envOf name scope s.heap.objs.size a cd)) (leaving (envOf name scope s.heap.objs.size a cd) e)
          (fun _ s'' => R (.error e) s'') (fun e' s'' => R (.error e') s'') s')
        { s with heap := h₁, toks := s.toks + binds.length })
    (hco : scope.isCoroutine = false := by rfl) (hgen : scope.isGenerator = false := by rfl) (hk : scope.kind = .function := by rfl)
    (hcell : ∀ x ∈ scope.names, x.2 ≠ .cell := by decide) :
    codeAny (MX prog w) A (.call (.ref a) args) R s := by
  obtain ⟨c, oc', vs, tq, hc, hoc, hdc, hq⟩ := hcd
  refine codeAny_of_tree ?_
  show wpAny (MX prog w) A.in1 (callAny (.ref a) args) _ _ s
  simp only [callAny]
  refine wpAny_bind (wpAny_load ho ?_)
  rw [hdata]
  simp only [callFunction, docDef, hco, hgen, hc]
  rw [hc] at hbind h
  refine wpAny_bind (m := field (.ref c) 1) (wpAny_field hoc hdc hq (wpAny_bind (wpAny_pure ?_)))
  refine wpAny_bind (hbind _ _ _ _ (wpAny_bind (wpAny_newFunctionEnv hcell hloc (fun h₁ hns hsb => ?_) hk)))
  have hk₁ : ∀ b o, s.heap.get? b = some o → h₁.get? b = some o := fun b o e => hsb.extBut b o (Nat.ne_of_lt (Heap.lt_size e)) (Heap.get?_push_of_some _ e)
  refine wpAny_bind (wpAny_enterFrame (hlim.fresh _ hsb) hroom (wpAny_pure (And.intro rfl (codeX_func ?_))))
  exact h h₁ ⟨hns, hk₁, Nat.le_refl _⟩
end Mine
namespace Mine
open PySem PySem.W PyProof.Rows PySem.Calls
section
variable {prog : Program} {w : World} {A : Around} {E : Value → Shared → Prop} {s : Shared} {env : Env} {h₀ : Heap} {x : PySem.Str} {body : List PySem.Stmt} {Q : Flow → Shared → Prop}
/-- a loop over a list of numbers that was there before, with any invariant -/
theorem iter_ints {l : Addr} {vs : List Value} {ns : List Int}
    {m₀ : PySem.Str → Option Value} {news : List (Addr × Obj)} (hh : A.handled = none) (hl : h₀.IsList l vs.toArray) (hi : IntsAre vs ns) (F : Fr h₀ env.locals s.heap m₀) (N : News h₀ env.locals s.heap news)
    (J : Nat → (PySem.Str → Option Value) → List (Addr × Obj) → Prop) (h0 : J 0 m₀ news)
    (turn : ∀ (i : Nat) n t m₁ news₁ (h₁ : Heap) tk₁ own, ns[i]? = some n → J i m₁ news₁ → (∀ q ∈ own, ∀ p ∈ news₁, q.1 ≠ p.1) →
      Fr h₀ env.locals h₁ (fun y => if y = x then some (.int n t) else m₁ y) → News h₀ env.locals h₁ (own ++ news₁) →
      wpAny (model prog w) A (execs body env) (fun f s₂ => f = .next ∧ ∃ h' tk' m' news', s₂ = { s with heap := h', toks := tk' } ∧ news'.map (·.1) = news₁.map (·.1) ∧ Fr h₀ env.locals h' m' ∧ News h₀ env.locals h' (own ++ news') ∧ J (i + 1) m' news') E { s with heap := h₁, toks := tk₁ })
    (done : ∀ h' tk m' news', Fr h₀ env.locals h' m' → News h₀ env.locals h' news' → J ns.length m' news' → Q .next { s with heap := h', toks := tk }) :
    wpAny (model prog w) A (pyIter (.ref l)) (fun it s₂ => LoopAtV prog w A h₀ env x body Q E it s₂) E s := by
  have hls : s.heap.IsList l vs.toArray := hl.at fun o e => F.keep l o e
  obtain ⟨ol, hol, _⟩ := id hl
  have hlt : l < h₀.objs.size := Heap.lt_size hol
  have hne : l ≠ s.heap.objs.size := Nat.ne_of_lt (Nat.lt_trans (Nat.lt_of_lt_of_le hlt F.above) F.ns.lt)
  refine wpAny_pyIter_list hls ?_
  have W := Walks.list (prog := prog) (w := w) hh s.heap.objs.size l hne vs.toArray
  have hlen : vs.toArray.size = ns.length := by simp [hi.length]
  rw [hlen] at W
  refine ⟨s.heap.objs.size, _, _, ns.length, _, _, m₀, news, J, rfl, W, ?_, ?_, ?_,
    ⟨⟨_, Heap.get?_push_size _ rfl, rfl, rfl⟩, hls.at fun o e => Heap.get?_push_of_some _ e⟩, (F.push _), (fun p hp => ⟨Heap.get?_push_of_some _ (N p hp).1, (N p hp).2⟩), h0, ?_, ?_⟩
  · intro hm
    rcases List.mem_cons.mp hm with e | hm
    · exact absurd F.ns.lt (e ▸ Nat.lt_irrefl _)
    · exact absurd (Nat.lt_of_lt_of_le hlt F.above) ((List.mem_singleton.mp hm) ▸ Nat.lt_irrefl _)
  · intro b hb
    rw [List.mem_singleton.mp hb]
    exact next_is_new F
  · intro p hp hI
    exact absurd (Heap.lt_size (N p hp).1) ((List.mem_singleton.mp hI) ▸ Nat.lt_irrefl _)
  · rintro i v m₁ news₁ s₁ own ⟨hh', tk', rfl⟩ hn hP hJ hoff hsub _ _ _ F₁ N₁
    obtain ⟨n, t, rfl, hn⟩ := hi.at i v (by simpa using hP)
    refine wpAny_mono (turn i n t m₁ news₁ _ _ own hn hJ (fun q hq p hp e => ?_) F₁ N₁) (fun f s₂ h₂ => ?_) fun _ _ e => e
    · rcases List.mem_cons.mp (hsub q hq) with e1 | e1
      · exact hoff p hp (by rw [← e, e1]; exact .head _)
      · have hnone : h₀.get? p.1 = none := (N₁ p (List.mem_append_right _ hp)).2.2
        rw [← e, List.mem_singleton.mp e1, hol] at hnone
        cases hnone
    · obtain ⟨rfl, h', tk'', m', news', rfl, hsame, F', N', hJ'⟩ := h₂
      exact ⟨rfl, h', tk'', m', news', rfl, F', N', off_of_same_addrs hsame hoff, hJ'⟩
  · intro h' tk m' news' F' N' _ hA
    exact done h' tk m' news' F' N' hA
end
end Mine
namespace Mine
open PySem PySem.W PyProof.Rows
/-- a text of the law's signs, with no line's end -/
def Tx (s : PySem.Str) : Prop := ∀ c ∈ s.cps.toList, c ∈ okc ∧ c ≠ 10 ∧ c ≠ 13
def Sg (z : PySem.Str) : Prop := Tx z ∧ z.cps.size = 1
theorem Tx.app {a b : PySem.Str} (h : Tx a) (h' : Tx b) : Tx (a ++ b) := fun c hc => by
  rw [app_list] at hc
  exact (List.mem_append.mp hc).elim (h c) (h' c)
/-- the law's four texts -/
structure Four (a b c d : PySem.Str) (i : Nat) : Prop where
  ta : Tx a
  tb : Tx b
  tc : Tx c
  td : Tx d
  pa : 0 < a.cps.size
  pb : 0 < b.cps.size
  pd : 0 < d.cps.size
  na : a.cps.size ≤ 4 + i
  nb : b.cps.size ≤ 4 + i
  nc : c.cps.size ≤ 4 + i
  nd : d.cps.size ≤ 4 + i
theorem four_start : Four (PySem.Str.ofString "\té\x0c") (PySem.Str.ofString "a") (PySem.Str.ofString "") (PySem.Str.ofString "b") 0 := by
  constructor <;> first | decide +kernel | (unfold Tx; decide +kernel)
variable {a b c d z : PySem.Str} {i : Nat}
theorem Four.s0 (h : Four a b c d i) (hz : Sg z) : Four (a ++ z) b c d (i + 1) := by
  obtain ⟨h1, h2, h3, h4, p1, p2, p4, n1, n2, n3, n4⟩ := h
  obtain ⟨hz, ez⟩ := hz
  constructor <;> first | assumption | exact Tx.app (by assumption) (by assumption) | ((try rw [app_size]); omega)
theorem Four.s1 (h : Four a b c d i) (hz : Sg z) : Four a (b ++ z) c d (i + 1) := by
  obtain ⟨h1, h2, h3, h4, p1, p2, p4, n1, n2, n3, n4⟩ := h
  obtain ⟨hz, ez⟩ := hz
  constructor <;> first | assumption | exact Tx.app (by assumption) (by assumption) | ((try rw [app_size]); omega)
theorem Four.s2 (h : Four a b c d i) (hz : Sg z) : Four a b (c ++ z) d (i + 1) := by
  obtain ⟨h1, h2, h3, h4, p1, p2, p4, n1, n2, n3, n4⟩ := h
  obtain ⟨hz, ez⟩ := hz
  constructor <;> first | assumption | exact Tx.app (by assumption) (by assumption) | ((try rw [app_size]); omega)
theorem Four.s3 (h : Four a b c d i) (hz : Sg z) : Four a b c (d ++ z) (i + 1) := by
  obtain ⟨h1, h2, h3, h4, p1, p2, p4, n1, n2, n3, n4⟩ := h
  obtain ⟨hz, ez⟩ := hz
  constructor <;> first | assumption | exact Tx.app (by assumption) (by assumption) | ((try rw [app_size]); omega)
theorem fm4 (n : Int) : n.fmod 4 = 0 ∨ n.fmod 4 = 1 ∨ n.fmod 4 = 2 ∨ n.fmod 4 = 3 := by
  have h1 := Int.fmod_nonneg_of_pos n (show (0 : Int) < 4 by decide)
  have h2 := Int.fmod_lt_of_pos n (show (0 : Int) < 4 by decide)
  omega
section
variable {prog : Program} {w : World} {A : Around} {E : Value → Shared → Prop} {s : Shared} {value slice : PySem.Expr} {l D : Addr} {k : Int} {u : Tok}
theorem get4 {v0 v1 v2 v3 : Value} {Q : Value → Shared → Prop} {j : Nat} {v : Value} (hl : s.heap.IsList l #[v0, v1, v2, v3]) (hk : k = (j : Int)) (hj : j < 4) (hv : [v0, v1, v2, v3][j]? = some v) (h : Q v s) : wpAny (model prog w) A (getItem (.ref l) (.int k u)) Q E s := by
  subst hk
  refine wpAny_getItem_list hl (by omega) (by omega) ?_ h
  simpa using hv
theorem set4 {h₀ : Heap} {L : Addr} {m : PySem.Str → Option Value} {news news' : List (Addr × Obj)} {its : Array Value} {n : Nat} {j : Nat} {v : Value} {q : List Value} {Q : Unit → Shared → Prop} (hk : k = (j : Int)) (hj : j < 4) (F : Fr h₀ L s.heap m) (N : News h₀ L s.heap news) (e : ki_setL its.toList j v = some q) (U : Upd D (listOf its n) (listOf q.toArray n) news news')
    (h : ∀ h', Fr h₀ L h' m → News h₀ L h' news' → Q () { s with heap := h' }) : wpAny (model prog w) A (setItem (.ref D) (.int k u) v) Q E s := by
  subst hk
  exact ki_set F N (by omega) (by omega) e U h
/-- one of the signs -/
theorem sign12 {t0 t1 t2 t3 t4 t5 t6 t7 t8 t9 t10 t11 : Tok} {Q : Value → Shared → Prop} (hl : s.heap.IsList l #[.str (PySem.Str.ofString "\t") t0, .str (PySem.Str.ofString "\x0c") t1, .str (PySem.Str.ofString " ") t2, .str (PySem.Str.ofString "a") t3, .str (PySem.Str.ofString "é") t4, .str (PySem.Str.ofString "€") t5, .str (PySem.Str.ofString "😀") t6, .str (PySem.Str.ofString "\x0b") t7, .str (PySem.Str.ofString "\u0085") t8, .str (PySem.Str.ofString "\u2028") t9, .str (PySem.Str.ofString "\x1c") t10, .str (PySem.Str.ofString "t") t11])
    {n : Int} (hk : k = n.fmod 12) (h : ∀ z t, Sg z → Q (.str z t) s) (hs : subscripted slice false (.ref l) (.int k u) = operate [.ref l, .int k u] (getItem (.ref l) (.int k u)) := by with_unfolding_all rfl) :
    wpAny (model prog w) A (subscriptTail value slice (.ref l) (.int k u)) Q E s := by
  have h1 := Int.fmod_nonneg_of_pos n (show (0 : Int) < 12 by decide)
  have h2 := Int.fmod_lt_of_pos n (show (0 : Int) < 12 by decide)
  rw [← hk] at h1 h2
  obtain ⟨j, rfl⟩ := Int.eq_ofNat_of_zero_le h1
  have hj : j < 12 := by omega
  have sg : ∀ z, (z = PySem.Str.ofString "\t" ∨ z = PySem.Str.ofString "\x0c" ∨ z = PySem.Str.ofString " " ∨ z = PySem.Str.ofString "a" ∨ z = PySem.Str.ofString "é" ∨ z = PySem.Str.ofString "€" ∨ z = PySem.Str.ofString "😀" ∨ z = PySem.Str.ofString "\x0b" ∨ z = PySem.Str.ofString "\u0085" ∨ z = PySem.Str.ofString "\u2028" ∨ z = PySem.Str.ofString "\x1c" ∨ z = PySem.Str.ofString "t") → Sg z := by
    intro z hz
    rcases hz with e | e | e | e | e | e | e | e | e | e | e | e <;> (rw [e]; unfold Sg Tx; decide +kernel)
  have key : ∀ (j : Nat) (x : PySem.Str) (t : Tok), Sg x → s.heap.IsList l #[.str (PySem.Str.ofString "\t") t0, .str (PySem.Str.ofString "\x0c") t1, .str (PySem.Str.ofString " ") t2, .str (PySem.Str.ofString "a") t3, .str (PySem.Str.ofString "é") t4, .str (PySem.Str.ofString "€") t5, .str (PySem.Str.ofString "😀") t6, .str (PySem.Str.ofString "\x0b") t7, .str (PySem.Str.ofString "\u0085") t8, .str (PySem.Str.ofString "\u2028") t9, .str (PySem.Str.ofString "\x1c") t10, .str (PySem.Str.ofString "t") t11] → j < 12 →
      ([Value.str (PySem.Str.ofString "\t") t0, .str (PySem.Str.ofString "\x0c") t1, .str (PySem.Str.ofString " ") t2, .str (PySem.Str.ofString "a") t3, .str (PySem.Str.ofString "é") t4, .str (PySem.Str.ofString "€") t5, .str (PySem.Str.ofString "😀") t6, .str (PySem.Str.ofString "\x0b") t7, .str (PySem.Str.ofString "\u0085") t8, .str (PySem.Str.ofString "\u2028") t9, .str (PySem.Str.ofString "\x1c") t10, .str (PySem.Str.ofString "t") t11])[j]? = some (.str x t) → wpAny (model prog w) A (getItem (.ref l) (.int (j : Int) u)) Q E s := fun j x t hx hl hj e =>
    wpAny_getItem_list hl (by omega) (by omega) (by simpa using e) (h x t hx)
  refine tail_any hl.typeIs slot_list_getitem.lookup ?_ hs
  match j, hj with
  | 0, _ => exact key 0 _ _ (sg _ (by first | exact .inl rfl | exact .inl rfl)) hl (by omega) rfl
  | 1, _ => exact key 1 _ _ (sg _ (by first | exact .inl rfl | exact .inr (.inl rfl))) hl (by omega) rfl
  | 2, _ => exact key 2 _ _ (sg _ (by first | exact .inl rfl | exact .inr (.inr (.inl rfl)))) hl (by omega) rfl
  | 3, _ => exact key 3 _ _ (sg _ (by first | exact .inl rfl | exact .inr (.inr (.inr (.inl rfl))))) hl (by omega) rfl
  | 4, _ => exact key 4 _ _ (sg _ (by first | exact .inl rfl | exact .inr (.inr (.inr (.inr (.inl rfl)))))) hl (by omega) rfl
  | 5, _ => exact key 5 _ _ (sg _ (by first | exact .inl rfl | exact .inr (.inr (.inr (.inr (.inr (.inl rfl))))))) hl (by omega) rfl
  | 6, _ => exact key 6 _ _ (sg _ (by first | exact .inl rfl | exact .inr (.inr (.inr (.inr (.inr (.inr (.inl rfl)))))))) hl (by omega) rfl
  | 7, _ => exact key 7 _ _ (sg _ (by first | exact .inl rfl | exact .inr (.inr (.inr (.inr (.inr (.inr (.inr (.inl rfl))))))))) hl (by omega) rfl
  | 8, _ => exact key 8 _ _ (sg _ (by first | exact .inl rfl | exact .inr (.inr (.inr (.inr (.inr (.inr (.inr (.inr (.inl rfl)))))))))) hl (by omega) rfl
  | 9, _ => exact key 9 _ _ (sg _ (by first | exact .inl rfl | exact .inr (.inr (.inr (.inr (.inr (.inr (.inr (.inr (.inr (.inl rfl))))))))))) hl (by omega) rfl
  | 10, _ => exact key 10 _ _ (sg _ (by first | exact .inl rfl | exact .inr (.inr (.inr (.inr (.inr (.inr (.inr (.inr (.inr (.inr (.inl rfl)))))))))))) hl (by omega) rfl
  | 11, _ => exact key 11 _ _ (sg _ (by first | exact .inl rfl | exact .inr (.inr (.inr (.inr (.inr (.inr (.inr (.inr (.inr (.inr (.inr (rfl))))))))))))) hl (by omega) rfl
end
theorem upd_own {D Ds : Addr} {o o' oS : Obj} (hne : Ds ≠ D) : ∀ (own : List (Addr × Obj)), (∀ q ∈ own, q.1 ≠ D) → Upd D o o' (own ++ [(D, o), (Ds, oS)]) (own ++ [(D, o'), (Ds, oS)])
  | [], _ => .head fun p hp => by rw [List.mem_singleton.mp hp]; exact hne
  | q :: own, h => .tail (h q (.head _)) (upd_own hne own fun p hp => h p (.tail _ hp))
section
variable {prog : Program} {w : World} {A : Around} {E : Value → Shared → Prop} {s : Shared} {env : Env} {h₀ : Heap} {x : PySem.Str} {body : List PySem.Stmt} {Q : Flow → Shared → Prop}
/-- the law's loop over its four texts -/
theorem iter4 {l : Addr} {vs : List Value} {ns : List Int} {m₀ : PySem.Str → Option Value} {D Ds : Addr} {oS : Obj} {a0 b0 c0 d0 : PySem.Str} {ta0 tb0 tc0 td0 : Tok}
    (hh : A.handled = none) (hl : h₀.IsList l vs.toArray) (hi : IntsAre vs ns) (F : Fr h₀ env.locals s.heap m₀) (N : News h₀ env.locals s.heap [(D, W.listOf #[.str a0 ta0, .str b0 tb0, .str c0 tc0, .str d0 td0] 0), (Ds, oS)]) (h4 : Four a0 b0 c0 d0 0)
    (turn : ∀ (i : Nat) n t a b c d ta tb tc td (h₁ : Heap) tk₁ own, i < ns.length → Four a b c d i → (∀ q ∈ own, q.1 ≠ D) →
      Fr h₀ env.locals h₁ (fun y => if y = x then some (.int n t) else m₀ y) → News h₀ env.locals h₁ (own ++ [(D, W.listOf #[.str a ta, .str b tb, .str c tc, .str d td] 0), (Ds, oS)]) →
      wpAny (model prog w) A (execs body env) (fun f s₂ => f = .next ∧ ∃ h' tk' a b c d ta tb tc td, s₂ = { s with heap := h', toks := tk' } ∧ Fr h₀ env.locals h' (fun y => if y = x then some (.int n t) else m₀ y) ∧ News h₀ env.locals h' (own ++ [(D, W.listOf #[.str a ta, .str b tb, .str c tc, .str d td] 0), (Ds, oS)]) ∧ Four a b c d (i + 1)) E { s with heap := h₁, toks := tk₁ })
    (done : ∀ h' tk xo a b c d ta tb tc td, Fr h₀ env.locals h' (fun y => if y = x then xo else m₀ y) → News h₀ env.locals h' [(D, W.listOf #[.str a ta, .str b tb, .str c tc, .str d td] 0), (Ds, oS)] → Four a b c d ns.length → Q .next { s with heap := h', toks := tk }) :
    wpAny (model prog w) A (pyIter (.ref l)) (fun it s₂ => LoopAtV prog w A h₀ env x body Q E it s₂) E s := by
  refine iter_ints hh hl hi F N (fun i m₁ n₁ => (∀ y, y ≠ x → m₁ y = m₀ y) ∧ ∃ a b c d ta tb tc td, n₁ = [(D, W.listOf #[.str a ta, .str b tb, .str c tc, .str d td] 0), (Ds, oS)] ∧ Four a b c d i) ⟨fun _ _ => rfl, _, _, _, _, _, _, _, _, rfl, h4⟩ ?_ ?_
  · intro i n t m₁ n₁ hh tk₁ own hn hJ ho F₁ N₁
    obtain ⟨hm, a, b, c, d, ta, tb, tc, td, rfl, h4⟩ := hJ
    have e : (fun y => if y = x then some (Value.int n t) else m₁ y) = fun y => if y = x then some (Value.int n t) else m₀ y := by
      funext y
      split
      · rfl
      · exact hm y (by assumption)
    rw [e] at F₁
    have hin : i < ns.length := by
      have := List.getElem?_eq_some_iff.mp hn
      exact this.1
    refine wpAny_mono (turn i n t a b c d ta tb tc td hh tk₁ own hin h4 (fun q hq => ho q hq _ (.head _)) F₁ N₁) (fun f s₂ h2 => ?_) fun _ _ e => e
    obtain ⟨rfl, h', tk', a, b, c, d, ta, tb, tc, td, rfl, F₂, N₂, h4'⟩ := h2
    exact ⟨rfl, h', tk', _, [(D, W.listOf #[.str a ta, .str b tb, .str c tc, .str d td] 0), (Ds, oS)], rfl, rfl, F₂, N₂, fun y hy => if_neg hy, a, b, c, d, ta, tb, tc, td, rfl, h4'⟩
  · intro h' tk m' n' F' N' hJ
    obtain ⟨hm, a, b, c, d, ta, tb, tc, td, rfl, h4⟩ := hJ
    have e : m' = fun y => if y = x then m' x else m₀ y := by
      funext y
      split
      · rename_i hy
        rw [hy]
      · exact hm y (by assumption)
    rw [e] at F'
    exact done h' tk _ a b c d ta tb tc td F' N' h4
end
end Mine
namespace Mine
open PySem PySem.W PyProof.Rows
section
variable {prog : Program} {w : World} {A : Around} {E : Value → Shared → Prop} {s : Shared} {value slice : PySem.Expr} {l D : Addr} {k : Int} {u : Tok}
theorem end3 {t0 t1 t2 : Tok} {Q : Value → Shared → Prop} (hl : s.heap.IsList l #[.str (PySem.Str.ofString "\n") t0, .str (PySem.Str.ofString "\x0d") t1, .str (PySem.Str.ofString "\x0d\n") t2]) {n : Int} (hk : k = n.fmod 3) (h : ∀ en t, IsEnd en → Q (.str en t) s)
    (hs : subscripted slice false (.ref l) (.int k u) = operate [.ref l, .int k u] (getItem (.ref l) (.int k u)) := by with_unfolding_all rfl) :
    wpAny (model prog w) A (subscriptTail value slice (.ref l) (.int k u)) Q E s := by
  have h1 := Int.fmod_nonneg_of_pos n (show (0 : Int) < 3 by decide)
  have h2 := Int.fmod_lt_of_pos n (show (0 : Int) < 3 by decide)
  rw [← hk] at h1 h2
  obtain ⟨j, rfl⟩ := Int.eq_ofNat_of_zero_le h1
  have hj : j < 3 := by omega
  have e1 : PySem.Str.ofString "\n" = ⟨#[10]⟩ := by decide +kernel
  have e2 : PySem.Str.ofString "\x0d" = ⟨#[13]⟩ := by decide +kernel
  have e3 : PySem.Str.ofString "\x0d\n" = ⟨#[13, 10]⟩ := by decide +kernel
  refine tail_any hl.typeIs slot_list_getitem.lookup ?_ hs
  match j, hj with
  | 0, _ => exact wpAny_getItem_list hl (by omega) (by decide) rfl (h _ _ (.inl e1))
  | 1, _ => exact wpAny_getItem_list hl (by omega) (by decide) rfl (h _ _ (.inr (.inl e2)))
  | 2, _ => exact wpAny_getItem_list hl (by omega) (by decide) rfl (h _ _ (.inr (.inr e3)))
end
theorem IsEnd.len {e : PySem.Str} (h : IsEnd e) : 0 < e.length ∧ e.length ≤ 2 := by
  rcases h with rfl | rfl | rfl <;> decide
theorem IsEnd.ok {e : PySem.Str} (h : IsEnd e) : ∀ c ∈ e.cps.toList, c ∈ okc := by
  rcases h with rfl | rfl | rfl <;> decide
theorem app_ok {a b : PySem.Str} (h : ∀ c ∈ a.cps.toList, c ∈ okc) (h' : ∀ c ∈ b.cps.toList, c ∈ okc) : ∀ c ∈ (a ++ b).cps.toList, c ∈ okc := fun c hc => by
  rw [app_list] at hc
  exact (List.mem_append.mp hc).elim (h c) (h' c)
theorem Tx.ok {s : PySem.Str} (h : Tx s) : ∀ c ∈ s.cps.toList, c ∈ okc := fun c hc => (h c hc).1
theorem Tx.no {s : PySem.Str} (h : Tx s) : NoEnd s := fun c hc => (h c hc).2
theorem NoEnd.app {a b : PySem.Str} (h : NoEnd a) (h' : NoEnd b) : NoEnd (a ++ b) := fun c hc => by
  rw [app_list] at hc
  exact (List.mem_append.mp hc).elim (h c) (h' c)
theorem tx_x : Tx (PySem.Str.ofString "x") := by unfold Tx; decide +kernel
theorem ok_app {a b : PySem.Str} (h : ∀ c ∈ a.cps.toList, c ∈ okc) (h' : ∀ c ∈ b.cps.toList, c ∈ okc) (hp : 0 < a.length) (h1 : a.length + b.length ≤ 4096) : OkT (a ++ b) :=
  ⟨app_ok h h', by rw [app_size]; exact Nat.lt_of_lt_of_le hp (Nat.le_add_right _ _), by rw [app_size]; exact h1⟩
theorem first_ne {x e : PySem.Str} {ls : List PySem.Str} (hx : NoEnd x) (he : e = ⟨#[13]⟩) : ∀ c r, glue ((x ++ e) :: ls) = c :: r → c ≠ 10 := by
  intro c r h
  subst he
  have h' : x.cps.toList ++ (13 :: glue ls) = c :: r := by
    rw [← h]
    simp [glue, app_list]
  cases hq : x.cps.toList with
  | nil =>
    rw [hq] at h'
    have := (List.cons.inj h').1
    omega
  | cons y ys =>
    rw [hq] at h'
    have e := (List.cons.inj h').1
    subst e
    exact (hx y (by rw [hq]; exact .head _)).1
/-- the four lines of the law's source -/
theorem good4 {hd fi se th en : PySem.Str} {i : Nat} (h : Four hd fi se th i) (he : IsEnd en) : GoodLines [PySem.Str.ofString "x" ++ en, hd ++ (fi ++ en), se ++ en, th ++ (PySem.Str.ofString "x" ++ en)] := by
  rw [← PySem.Str.append_assoc hd, ← PySem.Str.append_assoc th]
  exact .cons tx_x.no he (fun e => first_ne (h.ta.no.app h.tb.no) e) (.cons (h.ta.no.app h.tb.no) he (fun e => first_ne h.tc.no e) (.cons h.tc.no he (fun e => first_ne (h.td.no.app tx_x.no) e) (.cons (h.td.no.app tx_x.no) he (fun _ c r hc => nomatch hc) .nil)))
theorem pad_tx {s : PySem.Str} (h : Tx s) : Tx (pad s) := by
  intro c hc
  simp only [pad, List.mem_map] at hc
  obtain ⟨y, hy, rfl⟩ := hc
  unfold padc
  have := h y hy
  split
  · exact this
  · decide
/-- the three lines of the padded text -/
theorem good3 {hd fi se th en : PySem.Str} {i : Nat} (h : Four hd fi se th i) (he : IsEnd en) : GoodLines [pad hd ++ (fi ++ en), se ++ en, th] := by
  rw [← PySem.Str.append_assoc (pad hd)]
  refine .cons ((pad_tx h.ta).no.app h.tb.no) he (fun e => first_ne h.tc.no e) (.cons h.tc.no he (fun _ c r hc => ?_) (.last h.td.no h.pd))
  simp only [glue, List.flatMap_cons, List.flatMap_nil, List.append_nil] at hc
  exact (h.td c (by rw [hc]; exact .head _)).2.1
end Mine
namespace Mine
open PySem PySem.W PyProof.Rows
variable {hd fi se th en : PySem.Str} {i : Nat}
theorem src4 (h : Four hd fi se th i) (he : IsEnd en) (hi : i ≤ 63) :
    ((PySem.Str.ofString "x" ++ en ++ hd ++ fi ++ en ++ se ++ en ++ th ++ PySem.Str.ofString "x" ++ en).cps.toList = glue [PySem.Str.ofString "x" ++ en, hd ++ (fi ++ en), se ++ en, th ++ (PySem.Str.ofString "x" ++ en)] ∧
      (PySem.Str.ofString "x" ++ en ++ hd ++ fi ++ en ++ se ++ en ++ th ++ PySem.Str.ofString "x" ++ en).cps.size ≤ 16384 ∧ GoodLines [PySem.Str.ofString "x" ++ en, hd ++ (fi ++ en), se ++ en, th ++ (PySem.Str.ofString "x" ++ en)]) ∧
    (OkT hd ∧ OkT (fi ++ en) ∧ OkT (hd ++ (fi ++ en)) ∧ OkT th ∧ OkT (PySem.Str.ofString "x" ++ en) ∧ OkT (th ++ (PySem.Str.ofString "x" ++ en)) ∧ (se ++ en).cps.size ≤ 4096) := by
  have n1 := h.na
  have n2 := h.nb
  have n3 := h.nc
  have n4 := h.nd
  have p1 := h.pa
  have p2 := h.pb
  have p4 := h.pd
  have l : 0 < en.cps.size ∧ en.cps.size ≤ 2 := he.len
  have lx : (PySem.Str.ofString "x").cps.size = 1 := by decide +kernel
  have mk : ∀ {s : PySem.Str}, (∀ c ∈ s.cps.toList, c ∈ okc) → 0 < s.cps.size → s.cps.size ≤ 4096 → OkT s := fun a b c => ⟨a, b, c⟩
  refine ⟨⟨?_, ?_, good4 h he⟩, mk h.ta.ok p1 (by omega), mk (app_ok h.tb.ok he.ok) ?_ ?_, mk (app_ok h.ta.ok (app_ok h.tb.ok he.ok)) ?_ ?_, mk h.td.ok p4 (by omega), mk (app_ok tx_x.ok he.ok) ?_ ?_, mk (app_ok h.td.ok (app_ok tx_x.ok he.ok)) ?_ ?_, ?_⟩
  · simp only [glue, List.flatMap_cons, List.flatMap_nil, app_list, List.append_nil, List.append_assoc]
  all_goals (simp only [app_size]; omega)
theorem src3 (h : Four hd fi se th i) (he : IsEnd en) (hi : i ≤ 63) :
    ((pad hd ++ (fi ++ en) ++ (se ++ en) ++ th).cps.toList = glue [pad hd ++ (fi ++ en), se ++ en, th] ∧ (pad hd ++ (fi ++ en) ++ (se ++ en) ++ th).cps.size ≤ 16384 ∧ GoodLines [pad hd ++ (fi ++ en), se ++ en, th]) ∧
    (OkT (pad hd) ∧ OkT (fi ++ en) ∧ OkT (pad hd ++ (fi ++ en)) ∧ OkT th ∧ (se ++ en).cps.size ≤ 4096) := by
  have n1 := h.na
  have n2 := h.nb
  have n3 := h.nc
  have n4 := h.nd
  have p1 := h.pa
  have p2 := h.pb
  have p4 := h.pd
  have l : 0 < en.cps.size ∧ en.cps.size ≤ 2 := he.len
  have lp : (pad hd).cps.size = hd.cps.size := pad_length hd
  have mk : ∀ {s : PySem.Str}, (∀ c ∈ s.cps.toList, c ∈ okc) → 0 < s.cps.size → s.cps.size ≤ 4096 → OkT s := fun a b c => ⟨a, b, c⟩
  refine ⟨⟨?_, ?_, good3 h he⟩, mk (pad_tx h.ta).ok (by omega) (by omega), mk (app_ok h.tb.ok he.ok) ?_ ?_, mk (app_ok (pad_tx h.ta).ok (app_ok h.tb.ok he.ok)) ?_ ?_, mk h.td.ok p4 (by omega), ?_⟩
  · simp only [glue, List.flatMap_cons, List.flatMap_nil, app_list, List.append_nil, List.append_assoc]
  all_goals (simp only [app_size]; omega)
theorem len_flat : ∀ l : List Nat, (∀ c ∈ l, (Str.utf8Of c).length = 1) → (l.flatMap Str.utf8Of).length = l.length
  | [], _ => rfl
  | c :: l, h => by
    rw [List.flatMap_cons, List.length_append, h c (.head _), len_flat l fun x hx => h x (.tail _ hx), List.length_cons]
    omega
/-- each sign of a pad is one octet -/
theorem enc_pad (x : PySem.Str) : (enc (pad x)).size = (pad x).length := by
  have h : ∀ c ∈ (pad x).cps.toList, (Str.utf8Of c).length = 1 := by
    intro c hc
    simp only [pad, List.mem_map] at hc
    obtain ⟨y, _, rfl⟩ := hc
    unfold padc
    split
    · rename_i h
      rcases h with rfl | rfl <;> rfl
    · rfl
  have := len_flat _ h
  unfold enc
  show (((pad x).cps.toList.flatMap Str.utf8Of).toArray).size = (pad x).cps.size
  rw [List.size_toArray, this]
  simp
end Mine
namespace Mine
open PySem PySem.W PyProof.Rows
/-- one sign's step of the column's reader -/
def colStep (size col : Int) (c : Int) : Int := if c = 9 then col + (size - col.fmod size) else if c = 12 then 0 else col + 1
def colsF (size : Int) (l : List Int) : Int × List Int := l.foldl (fun p x => (colStep size p.1 x, p.2 ++ [colStep size p.1 x])) (0, [])
theorem colsF_snoc (size : Int) (l : List Int) (x : Int) : colsF size (l ++ [x]) = (colStep size (colsF size l).1 x, (colsF size l).2 ++ [colStep size (colsF size l).1 x]) := by
  simp [colsF, List.foldl_append]
theorem tab_is : PySem.Str.ofString "\t" = ⟨#[9]⟩ := by decide +kernel
theorem ff_is : PySem.Str.ofString "\x0c" = ⟨#[12]⟩ := by decide +kernel
theorem one_inj {a b : Nat} : ((⟨#[a]⟩ : PySem.Str) = ⟨#[b]⟩) ↔ a = b := by simp
theorem one_eq {a b : Nat} : ((⟨#[a]⟩ : PySem.Str) == ⟨#[b]⟩) = decide (a = b) := by
  rw [Bool.eq_iff_iff, beq_iff_eq, one_inj, decide_eq_true_eq]
theorem col_start (size : Int) : (0 : Int) = (colsF size []).1 ∧ ([] : List Int) = (colsF size []).2 ∧ ([] : List Int).length = ([] : List Int).length := ⟨rfl, rfl, rfl⟩
theorem col_turn {size col : Int} {cols pre : List Int} {n : Nat} {d : Int} (h1 : col = (colsF size pre).1) (h2 : cols = (colsF size pre).2) (h3 : cols.length = pre.length) (hd : d = colStep size col (n : Int)) :
    d = (colsF size (pre ++ [(n : Int)])).1 ∧ cols ++ [d] = (colsF size (pre ++ [(n : Int)])).2 ∧ (cols ++ [d]).length = (pre ++ [(n : Int)]).length := by
  rw [colsF_snoc]
  subst hd
  refine ⟨by rw [h1], by rw [h2, h1], ?_⟩
  rw [List.length_append, List.length_append, h3]; rfl
theorem step_tab {size col : Int} {n : Nat} (h : ((⟨#[n]⟩ : PySem.Str) == PySem.Str.ofString "\t") = true) : col + (size - col.fmod size) = colStep size col (n : Int) := by
  rw [tab_is, one_eq] at h
  have h := of_decide_eq_true h
  subst h
  rfl
theorem step_ff {size col : Int} {n : Nat} (h : ((⟨#[n]⟩ : PySem.Str) == PySem.Str.ofString "\x0c") = true) : (0 : Int) = colStep size col (n : Int) := by
  rw [ff_is, one_eq] at h
  have h := of_decide_eq_true h
  subst h
  rfl
theorem step_else {size col : Int} {n : Nat} (h : ((⟨#[n]⟩ : PySem.Str) == PySem.Str.ofString "\t") = false) (h' : ((⟨#[n]⟩ : PySem.Str) == PySem.Str.ofString "\x0c") = false) : col + 1 = colStep size col (n : Int) := by
  rw [tab_is, one_eq] at h
  rw [ff_is, one_eq] at h'
  have h := of_decide_eq_false h
  have h' := of_decide_eq_false h'
  unfold colStep
  rw [if_neg (by omega), if_neg (by omega)]
theorem col_done {vs : List Value} {cols X : List Int} (h : IntsAre vs cols) (e : cols = X) : IntsAre vs X := e ▸ h
end Mine
namespace Mine
open PySem PySem.W PyProof.Rows
local macro_rules | `(tactic| walk_at "MINE enter") => `(tactic| (
  (case kA => exact rfl); (case kF => exact rfl); (case kK => assumption); (case k1 => k_asm); (case k2 => k_asm); (case k3 => k_asm); (case k4 => k_asm); (case k5 => k_asm); (case k6 => k_is); (case k7 => k_is); (case k8 => ktr_room); (case k9 => exact BindsTo.of_eq rfl); (case c5 => decide); (case kB => exact locs rfl); (case c2 => exact rfl); (case c3 => exact rfl); (case c4 => exact rfl); k_whole; intro g' L' h' FG' F' N' B' X' T'; (try dsimp only); (try k_lift B'); (try k_fold)))
local macro_rules | `(tactic| kst_facts1) => `(tactic| exact IntsAre.nil)
theorem col_claim (w : World) (mean : ExcName → Option Value) (mg mb : PySem.Str → Option Value) (news : List (Addr × Obj)) (src : PySem.Str) (size : Int) (tk tk2 : Tok) :
    Ct Challenge.rw_dm0005_04.prog w (hd04.heap_39 w.params) hd04.view_39 loose04 mean mg mb 73 1 news (src.length ≤ 1048576 ∧ 0 < size) [.str src tk, .int size tk2] (fun tl r => ∃ D vs c, r = .ref D ∧ IntsAre vs (colsF size (KStt.codes src)).2 ∧ (colsF size (KStt.codes src)).2.length = src.length ∧ tl = [(D, W.listOf vs.toArray c)]) := by
  w_top off
  k_fill
  dsimp only [Ct]; intros; rename_i hasks _ _ hret
  obtain ⟨hlen, hsz⟩ := hasks
  k_with_none
  k_with "pyIter str" => k_state (fun (pre : List Int) col cols => col = (colsF size pre).1 ∧ cols = (colsF size pre).2 ∧ cols.length = pre.length) "column" "columns"
  k_with "state" => first | exact col_start _ | exact col_turn (by assumption) (by assumption) (by assumption) (step_tab (by assumption)) | exact col_turn (by assumption) (by assumption) (by assumption) (step_ff (by assumption)) | exact col_turn (by assumption) (by assumption) (by assumption) (step_else (by assumption) (by assumption))
  refine wpAny_call ?_
  k_dflt (refine' code_def (binds := [(PySem.Str.ofString "text", .str src tk), (PySem.Str.ofString "size", .int size tk2)]) ?k1 ?k2 ?k3 ?k4 ?k5 ?kA ?kF ?kK ?k6 ?k7 ?k8 ?k9 ?kB ?_ ?c2 ?c3 ?c4 ?c5; walk_at "MINE enter")
  k_steps
  exact ct_ret hret (by k_asm) (by k_asm) (List.Mem.head _) (fun p hp => .tail _ hp) (allLt_of (by assumption)) ⟨_, _, _, rfl, col_done (by assumption) (by assumption), (congrArg List.length (Eq.symm (by assumption))).trans (by assumption), rfl⟩
end Mine
namespace Mine
open PySem PySem.W PyProof.Rows
theorem codes_append (a b : PySem.Str) : KStt.codes (a ++ b) = KStt.codes a ++ KStt.codes b := by
  simp [KStt.codes, PySem.Str.cps_append]
theorem codes_pad (a : PySem.Str) : KStt.codes (pad a) = (KStt.codes a).map fun c => ((padc c.toNat : Nat) : Int) := by
  simp [KStt.codes, pad]
theorem colStep_pad (size col : Int) (c : Nat) : colStep size col ((padc c : Nat) : Int) = colStep size col (c : Int) := by
  unfold padc colStep
  split
  · rfl
  · rw [if_neg (by omega), if_neg (by omega), if_neg (by omega), if_neg (by omega)]
theorem fold_pad (size : Int) (x : PySem.Str) (p : Int × List Int) : (KStt.codes (pad x)).foldl (fun p x => (colStep size p.1 x, p.2 ++ [colStep size p.1 x])) p = (KStt.codes x).foldl (fun p x => (colStep size p.1 x, p.2 ++ [colStep size p.1 x])) p := by
  unfold KStt.codes pad
  generalize x.cps.toList = l
  simp only
  induction l generalizing p with
  | nil => rfl
  | cons c r ih => simp only [List.map_cons, List.foldl_cons, colStep_pad]; exact ih _
theorem colsF_pad (size : Int) (x : PySem.Str) : colsF size (KStt.codes (pad x)) = colsF size (KStt.codes x) := fold_pad size x _
theorem colsF_pad_append (size : Int) (x y : PySem.Str) : colsF size (KStt.codes (pad x ++ y)) = colsF size (KStt.codes (x ++ y)) := by
  rw [codes_append, codes_append]
  unfold colsF
  rw [List.foldl_append, List.foldl_append, fold_pad]
end Mine
namespace Mine
open PySem PySem.W PyProof.Rows
theorem set_is : PySem.Str.ofString " \t\x0c" = ⟨#[32, 9, 12]⟩ := by decide +kernel
theorem padc_in (c : Nat) : (PySem.Str.ofString " \t\x0c").cps.contains (padc c) = true := by
  rw [set_is]
  unfold padc
  split
  · rename_i h; rcases h with h | h <;> subst h <;> decide +kernel
  · decide +kernel
theorem tw_all {goes : Nat → Bool} : ∀ {l : List Nat}, (∀ c ∈ l, goes c = true) → l.takeWhile goes = l
  | [], _ => rfl
  | c :: r, h => by
    rw [List.takeWhile_cons, if_pos (h c (.head _)), tw_all fun d hd => h d (.tail _ hd)]
theorem strip_pad (x : PySem.Str) : Txt.stripChars (pad x) (PySem.Str.ofString " \t\x0c") = PySem.Str.ofString "" := by
  have hall : ∀ c ∈ (pad x).cps.toList, (PySem.Str.ofString " \t\x0c").cps.contains c = true := by
    intro c hc
    have hc : c ∈ x.cps.toList.map padc := hc
    obtain ⟨d, _, rfl⟩ := List.mem_map.mp hc
    exact padc_in d
  have hlo : stripLo (PySem.Str.ofString " \t\x0c").cps.contains true (pad x) = (pad x).length := by
    unfold stripLo
    rw [if_pos rfl, tw_all hall]
    simp [PySem.Str.length]
  have hhi : stripHi (PySem.Str.ofString " \t\x0c").cps.contains true (pad x) (pad x).length = (pad x).length := by
    unfold stripHi
    rw [if_pos rfl, List.drop_of_length_le (by simp [PySem.Str.length])]
    rfl
  unfold Txt.stripChars Txt.stripBy
  unfold PySem.stripSame PySem.stripped
  rw [hlo, hhi]
  split
  · rename_i h
    have h0 : (pad x).length = 0 := by simpa using h
    have e : (pad x).cps = #[] := Array.eq_empty_of_size_eq_zero h0
    exact PySem.Str.ext' (e.trans (by decide +kernel))
  · refine PySem.Str.ext' ?_
    show (pad x).cps.extract _ _ = _
    rw [Array.extract_empty_of_stop_le_start (Nat.le_refl _)]
    decide +kernel
end Mine
namespace Mine
open PySem PySem.W PyProof.Rows
local macro_rules | `(tactic| walk_at "subscriptTail") => `(tactic| (
  k_here; (with_reducible show wpAny _ _ (subscriptTail _ _ (Value.ref _) (Value.int (Int.fmod _ 3) _)) _ _ _);
  (k_dflt (refine' end3 ?k1 ?k2 ?_ ?k3; (case k2 => exact rfl); (case k1 => exact News.isList (by k_asm) (List.Mem.head _)); (case k3 => with_unfolding_all rfl))); intro en9 t9 hen9; (have zen9 := IsEnd.len hen9); (try dsimp only)))
local macro_rules | `(tactic| walk_at "getMethod str") => `(tactic| (k_here; (with_reducible refine meth_encode ?_)))
local macro_rules | `(tactic| walk_at "call builtin:str.encode") => `(tactic| (k_here; (with_reducible refine call_encode (by assumption) ?_); intro _ _; (try dsimp only)))
local macro_rules | `(tactic| walk_at "call builtin:len") => `(tactic| (k_here; (with_reducible show wpAny _ _ (call (Value.builtin "len") [Value.bytes (enc _) _]) _ _ _); (refine len_bytes (Nat.le_trans (OkT.enc_size (by assumption)).2 (by decide)) ?_); (try dsimp only)))
local macro_rules | `(tactic| walk_at "binaryOp Add str str") => `(tactic| (k_here; (with_reducible show wpAny _ _ (binaryOp Operator.Add (Value.str _ _) (Value.str _ _)) _ _ _); (refine KOpn.add (by omega) ?_); intro _ _ _; (try dsimp only)))
local macro_rules | `(tactic| walk_at "MINE call") => `(tactic| (
  (case k1 => first | k_asm | ktn_no "MINE: the frames below");
  (case k2 => first | k_asm | ktn_no "MINE: the frame");
  (case k3 => first | k_asm | ktn_no "MINE: the written part");
  (case k4 => first | k_asm | ktn_no "MINE: the ledger");
  (case k5 => first | k_asm | ktn_no "MINE: the top's facts");
  (case kK => first | exact rfl | assumption | ktn_no "MINE: the caller is no def");
  (case kd => first | ktr_room | ktn_no "MINE: the frames' room");
  (case ku => first | ktr_units | ktn_no "MINE: the C units")))
theorem cn_use {prog : Program} {w : World} {K : Frag} {p : Program} {loose : List PySem.Str} {mean : ExcName → Option Value} {mg mb : PySem.Str → Option Value} {f : Addr} {n : Nat} {news : List (Addr × Obj)} {asks : Prop} {vs : List Value} {Post : List (Addr × Obj) → Value → Prop}
    {dp un : Nat} {gd : Option (List Code)} {cn : PySem.Str} {cs : Scope} {a : Addr} {ccd : Value} {cl : List (PySem.Str × Addr)} {outer : List Env} {A₀ : Around} {base h₀ : Heap} {L : Addr} {m : PySem.Str → Option Value} {s : Shared} {Q E : Value → Shared → Prop}
    (C : Cn prog w K p loose mean mg mb f n news asks vs Post) (B : Below A₀ base outer h₀) (F : Fr h₀ L s.heap m) (X : K.In h₀) (N : News h₀ L s.heap news) (T : Top p loose mean mg mb h₀) (hk : cs.kind = .function) (ha : asks) (hd : dp + n < recursionLimit) (hu : un + 8 * n < cLine)
    (ret : ∀ (r : Value) (tl : List (Addr × Obj)) (h' : Heap) (tk' : Nat), Fr h₀ L h' m → News h₀ L h' (tl ++ news) → (∀ p ∈ tl, ∀ q ∈ news, q.1 ≠ p.1) → Post tl r → Q r { s with heap := h', toks := tk' }) :
    wpAny (model prog w) (ktrTop dp un gd cn cs L a ccd cl outer) (call (.ref f) vs) Q E s := C _ _ _ _ _ _ _ _ _ _ _ _ _ _ _ _ _ B F X N T hk ha hd hu ret
local macro_rules | `(tactic| walk_at "call ref") => `(tactic| (
  k_here; (with_reducible show wpAny _ _ (call (Value.ref 66) [Value.int _ _, Value.int _ _, Value.int _ _, Value.int _ _]) _ _ _);
  (k_dflt (refine' cn_use (node_claim _ _ _ _ _ _ _ _ _ _ _ _ _) ?k1 ?k2 ?k3 ?k4 ?k5 ?kK ?kp ?kd ?ku ?_; (case kp => trivial); walk_at "MINE call")); k_whole; intro r9 tl9 h9 tk9 F9 N9 l9 P9; (obtain ⟨e9, te9, x9, od9, er9, et9, hns9⟩ := P9); (subst er9 et9); (dsimp only [List.cons_append, List.nil_append] at N9); (try dsimp only); (try k_fold)))
local macro_rules | `(tactic| walk_at "call ref") => `(tactic| (
  k_here; (with_reducible show wpAny _ _ (call (Value.ref 51) [Value.str _ _]) _ _ _);
  (k_dflt (refine' cs_use (pad_claim _ _ _ _ _ _ _) ?k1 ?k2 ?k3 ?k4 ?k5 ?kK ?kp ?kd ?ku ?_; (case kp => omega); walk_at "MINE call")); k_whole; intro t9 h9 tk9 F9 N9; (try dsimp only); (try k_fold)))
theorem cx_use {prog : Program} {w : World} {K : Frag} {p : Program} {loose : List PySem.Str} {mean : ExcName → Option Value} {mg mb : PySem.Str → Option Value} {f : Addr} {n : Nat} {news : List (Addr × Obj)} {asks : Prop} {vs : List Value} {kw : List (PySem.Str × Value)} {Post : List (Addr × Obj) → Value → Prop}
    {dp un : Nat} {gd : Option (List Code)} {cn : PySem.Str} {cs : Scope} {a : Addr} {ccd : Value} {cl : List (PySem.Str × Addr)} {outer : List Env} {A₀ : Around} {base h₀ : Heap} {L : Addr} {m : PySem.Str → Option Value} {s : Shared} {Q E : Value → Shared → Prop}
    (C : CX prog w K p loose mean mg mb f n news asks vs kw Post) (B : Below A₀ base outer h₀) (F : Fr h₀ L s.heap m) (X : K.In h₀) (N : News h₀ L s.heap news) (T : Top p loose mean mg mb h₀) (hk : cs.kind = .function) (ha : asks) (hd : dp + n < recursionLimit) (hu : un + 8 * n < cLine)
    (ret : ∀ (r : Value) (tl : List (Addr × Obj)) (h' : Heap) (tk' : Nat), Fr h₀ L h' m → News h₀ L h' (tl ++ news) → (∀ p ∈ tl, ∀ q ∈ news, q.1 < p.1) → Post tl r → Q r { s with heap := h', toks := tk' }) :
    wpAny (MX prog w) (ktrTop dp un gd cn cs L a ccd cl outer) (call (.ref f) vs kw) Q E s := C _ _ _ _ _ _ _ _ _ _ _ _ _ _ _ _ _ B F X N T hk ha hd hu ret
section
variable {prog : Program} {w : World} {A : Around} {E : Value → Shared → Prop} {s : Shared} {x : PySem.Str} {t u : Tok} {Q : Value → Shared → Prop}
theorem ne_same (h : Q (.bool false) s) : wpAny (model prog w) A (compareOp .NotEq (.str x t) (.str x u)) Q E s := by
  refine ne_str ?_
  rw [show (x != x) = false from by show (!(x == x)) = false; rw [show (x == x) = true from str_beq_self x]; rfl]
  exact h
theorem eq_same (h : Q (.bool true) s) : wpAny (model prog w) A (compareOp .Eq (.str x t) (.str x u)) Q E s := by
  refine eq_str ?_
  rw [show (x == x) = true from str_beq_self x]
  exact h
end
local macro_rules | `(tactic| walk_at "compareOp NotEq str str") => `(tactic| (k_here; (with_reducible refine ne_same ?_)))
local macro_rules | `(tactic| walk_at "compareOp Eq str str") => `(tactic| (k_here; (with_reducible refine eq_same ?_)))
local macro_rules | `(tactic| walk_at "call builtin:str.strip") => `(tactic| (
  k_here; (with_reducible show wpAny _ _ (call (Value.builtin "str.strip") [Value.str (pad _) _, Value.str _ _]) _ _ _);
  (refine KXw.stripChars (strip_pad _) (by rw [pad_length, sizeLine_eq]; omega) ?_); intro t9 k9; (try dsimp only); (try k_fold)))
local macro_rules | `(tactic| walk_at "MINE col") => `(tactic| (
  k_here; (with_reducible show wpAny _ _ (call (Value.ref 73) [Value.str _ _, Value.int _ _]) _ _ _);
  (k_dflt (refine' ct_use (col_claim _ _ _ _ _ _ _ _ _) ?k1 ?k2 ?k3 ?k4 ?k5 ?kK ?kq ?kd ?ku ?_; (case kq => refine And.intro ?_ ?_; all_goals (first | ((simp only [pad_length]); omega) | omega)); walk_at "MINE call")); k_whole; intro r9 tl9 h9 tk9 F9 N9 l9 P9; (obtain ⟨D9, vs9, c9, e9, i9, len9, e8⟩ := P9); (subst e9 e8); (have l1 := l9 _ (List.mem_singleton.mpr rfl)); (clear l9); (simp only [List.cons_append, List.nil_append] at N9); (try simp only [colsF_pad, pad_length] at i9 len9); (have lv9 := IntsAre.length i9); (try k_lt l1); (try dsimp only); (try k_fold)))
theorem restX {α : Type} {prog : Program} {w : World} {A : Around} {E : Value → Shared → Prop} {s : Shared} {t : Sem α} {Q : α → Shared → Prop} (h : wpAny (model prog w) A t (fun r s' => Then (Q r s')) E s) : wpAny (MX prog w) A t Q E s := wpAny_mono (lift h) (fun _ _ x => x.go) fun _ _ x => x
theorem pad2 (s : PySem.Str) : pad (pad s) = pad s := by
  unfold pad
  congr 1
  simp only [List.map_map]
  congr 1
  refine List.map_congr_left fun c _ => ?_
  show padc (padc c) = padc c
  by_cases h : c = 9 ∨ c = 12
  · rw [show padc c = c from if_pos h, show padc c = c from if_pos h]
  · rw [show padc c = 32 from if_neg h]
    rfl
theorem cat3 (f s t en : PySem.Str) : f ++ en ++ (s ++ en) ++ t = f ++ en ++ s ++ en ++ t := by simp only [PySem.Str.append_assoc]
theorem cat4 (p f s t en : PySem.Str) : p ++ (f ++ en) ++ (s ++ en) ++ t = p ++ (f ++ en ++ s ++ en ++ t) := by simp only [PySem.Str.append_assoc]
theorem t04 : PySem.Challenge.rw_dm0005_04.Holds := by
  k_with_none
  w_on
  o_law
  refine headX Mine.hd04._proof_42 (Hook.of _) (Hook.keeps _) (fun s e => xl_of s (Bool.and_eq_true_iff.mp e).1) XL.keeps (by rfl) (by rfl) (by rfl) (fun s e => recFacts_of (Bool.and_eq_true_iff.mp e).2) (by rfl) (by assumption) (by decide +kernel) ⟨rfl, rfl, rfl, rfl, rfl, by decide +kernel⟩ ?hw ?walk
  case hw => w_witness2
  case walk =>
    k_fill
    intro w s₀ s₁ mg mb G Y fa o pm cd doc dV kV ho hd hcd hD hmg hg args vals as hpre hlay hrd hwl hlo
    have KX := kIn_of Y
    have X := (Ground.X G).1
    have V := (Ground.X G).2
    try w_nolog (first | (have GL := glob_more (Ground.glob G (by first | k_qdec | decide +kernel) (by first | k_qdec | decide +kernel)) V) | (have GL := glob_more (Ground.glob G (by decide +kernel)) V))
    refine Ground.open G ?_
    intro T B D TE TW
    try (refine guard_noD D (by decide +kernel) ?_; clear D)
    obtain ⟨_, _, M⟩ := bmod_of_top T
    have TA := at_of_top T
    try (obtain ⟨_, _, he, B0⟩ := based_of_top T rfl hmg ho hd; have he' : cd = _ := he; subst he'; clear he)
    clear hmg
    wrow_args hpre hlay hrd hwl hlo
    refine enter_call ?_
    w_top off
    try refine codeAny_mono ?_ (fun _ _ g => GoodW.toG g)
    have K0 := below_caller (Top.heap T)
    have he := Dflts.none hD rfl; subst he
    refine call_fullX (by decide) ho hd (Top.nolimit T) hcd (BindsTo.of_eq rfl) (locs rfl) fun h₁ F => ?_
    w_binds F
    have N0 := (News.nil : News _ _ _ []).at F
    clear hd TA
    k_drop
    dsimp only
    have HE : ∀ (A : Around) (t : Sem Flow) (R : Flow → Shared → Prop) (E : Value → Shared → Prop) (s : Shared), wpAny (MX Challenge.rw_dm0005_04.prog w) A t (fun f s' => f = .ret (.bool true) ∧ ∃ h' tk' m', Fr s₁.heap s₁.heap.objs.size h' m' ∧ s' = { s₁ with heap := h', toks := tk' }) (fun _ _ => False) s →
        (∀ f s', (f = .ret (.bool true) ∧ ∃ h' tk' m', Fr s₁.heap s₁.heap.objs.size h' m' ∧ s' = { s₁ with heap := h', toks := tk' }) → R f s') → wpAny (MX Challenge.rw_dm0005_04.prog w) A t R E s := fun A t R E s h1 h2 => wpAny_mono h1 h2 (fun _ _ h => h.elim)
    refine HE _ _ _ _ _ ?_ ?fin
    case fin =>
      rintro f s' ⟨rfl, h', tk', m', F', rfl⟩
      dsimp only
      have N1 := (News.nil : News _ _ _ []).at F'
      k_steps
    with_reducible refine stretch 2 ?_
    dsimp only [List.take, List.drop]
    k_steps
    dsimp only
    with_reducible refine ⟨?_⟩
    with_reducible refine stretch 1 ?_
    dsimp only [List.take, List.drop]
    refine wpAny_execs_cons ?_
    rename Fr _ _ _ _ => lF'
    refine For_invVF lF' rfl rfl ?_
    walk1
    (try dsimp only)
    rename News _ _ _ _ => N'
    rename IntsAre _ _ => hI
    rename Heap.IsList _ _ _ => hL
    rename_i Ds _ _ _ _ D _ lD _
    have lDne : Ds ≠ D := Nat.ne_of_lt lD
    refine iter4 rfl hL hI lF' N' four_start ?turn ?done
    case turn =>
      intro i n t a b c d ta tb tc td hh tk₁ own hin h4 ho F₁ N₁
      have z1 : a.length ≤ 4 + i := h4.na
      have z2 : b.length ≤ 4 + i := h4.nb
      have z3 : c.length ≤ 4 + i := h4.nc
      have z4 : d.length ≤ 4 + i := h4.nd
      have z0 : i ≤ 63 := by omega
      rcases fm4 (n.fdiv 12) with e4 | e4 | e4 | e4
      · refine wpAny_execs_cons ?_
        repeat ((fail_if_success (with_reducible show wpAny _ _ (getItem _ _) _ _ _)); first | walk1 | (dsimp only; walk1))
        (try dsimp only)
        have e5 : (n.fdiv 12).fmod 4 = ((0 : Nat) : Int) := (by omega)
        refine get4 (j := 0) (News.isList N₁ (List.mem_append_right _ (List.Mem.head _))) e5 (by decide) rfl ?_
        repeat ((fail_if_success (with_reducible show wpAny _ _ (subscriptTail _ _ _ _) _ _ _)); first | walk1 | (dsimp only; walk1))
        (try dsimp only)
        refine sign12 (n := n) (News.isList N₁ (List.mem_append_right _ (List.Mem.tail _ (List.Mem.head _)))) rfl ?_ (by with_unfolding_all rfl)
        intro z t9 hz
        have zz : PySem.Str.length z = 1 := hz.2
        (try dsimp only)
        refine SBL.iadd (hsz := by rw [sizeLine_eq]; omega) ?_
        intro t8 k8 _
        (try dsimp only)
        refine set4 (j := 0) e5 (by decide) F₁ N₁ rfl (upd_own lDne own ho) ?_
        intro h8 F8 N8
        (try dsimp only)
        refine wpAny_execs_nil ?_
        exact ⟨rfl, _, _, _, _, _, _, _, _, _, _, rfl, F8, N8, h4.s0 hz⟩
      · refine wpAny_execs_cons ?_
        repeat ((fail_if_success (with_reducible show wpAny _ _ (getItem _ _) _ _ _)); first | walk1 | (dsimp only; walk1))
        (try dsimp only)
        have e5 : (n.fdiv 12).fmod 4 = ((1 : Nat) : Int) := (by omega)
        refine get4 (j := 1) (News.isList N₁ (List.mem_append_right _ (List.Mem.head _))) e5 (by decide) rfl ?_
        repeat ((fail_if_success (with_reducible show wpAny _ _ (subscriptTail _ _ _ _) _ _ _)); first | walk1 | (dsimp only; walk1))
        (try dsimp only)
        refine sign12 (n := n) (News.isList N₁ (List.mem_append_right _ (List.Mem.tail _ (List.Mem.head _)))) rfl ?_ (by with_unfolding_all rfl)
        intro z t9 hz
        have zz : PySem.Str.length z = 1 := hz.2
        (try dsimp only)
        refine SBL.iadd (hsz := by rw [sizeLine_eq]; omega) ?_
        intro t8 k8 _
        (try dsimp only)
        refine set4 (j := 1) e5 (by decide) F₁ N₁ rfl (upd_own lDne own ho) ?_
        intro h8 F8 N8
        (try dsimp only)
        refine wpAny_execs_nil ?_
        exact ⟨rfl, _, _, _, _, _, _, _, _, _, _, rfl, F8, N8, h4.s1 hz⟩
      · refine wpAny_execs_cons ?_
        repeat ((fail_if_success (with_reducible show wpAny _ _ (getItem _ _) _ _ _)); first | walk1 | (dsimp only; walk1))
        (try dsimp only)
        have e5 : (n.fdiv 12).fmod 4 = ((2 : Nat) : Int) := (by omega)
        refine get4 (j := 2) (News.isList N₁ (List.mem_append_right _ (List.Mem.head _))) e5 (by decide) rfl ?_
        repeat ((fail_if_success (with_reducible show wpAny _ _ (subscriptTail _ _ _ _) _ _ _)); first | walk1 | (dsimp only; walk1))
        (try dsimp only)
        refine sign12 (n := n) (News.isList N₁ (List.mem_append_right _ (List.Mem.tail _ (List.Mem.head _)))) rfl ?_ (by with_unfolding_all rfl)
        intro z t9 hz
        have zz : PySem.Str.length z = 1 := hz.2
        (try dsimp only)
        refine SBL.iadd (hsz := by rw [sizeLine_eq]; omega) ?_
        intro t8 k8 _
        (try dsimp only)
        refine set4 (j := 2) e5 (by decide) F₁ N₁ rfl (upd_own lDne own ho) ?_
        intro h8 F8 N8
        (try dsimp only)
        refine wpAny_execs_nil ?_
        exact ⟨rfl, _, _, _, _, _, _, _, _, _, _, rfl, F8, N8, h4.s2 hz⟩
      · refine wpAny_execs_cons ?_
        repeat ((fail_if_success (with_reducible show wpAny _ _ (getItem _ _) _ _ _)); first | walk1 | (dsimp only; walk1))
        (try dsimp only)
        have e5 : (n.fdiv 12).fmod 4 = ((3 : Nat) : Int) := (by omega)
        refine get4 (j := 3) (News.isList N₁ (List.mem_append_right _ (List.Mem.head _))) e5 (by decide) rfl ?_
        repeat ((fail_if_success (with_reducible show wpAny _ _ (subscriptTail _ _ _ _) _ _ _)); first | walk1 | (dsimp only; walk1))
        (try dsimp only)
        refine sign12 (n := n) (News.isList N₁ (List.mem_append_right _ (List.Mem.tail _ (List.Mem.head _)))) rfl ?_ (by with_unfolding_all rfl)
        intro z t9 hz
        have zz : PySem.Str.length z = 1 := hz.2
        (try dsimp only)
        refine SBL.iadd (hsz := by rw [sizeLine_eq]; omega) ?_
        intro t8 k8 _
        (try dsimp only)
        refine set4 (j := 3) e5 (by decide) F₁ N₁ rfl (upd_own lDne own ho) ?_
        intro h8 F8 N8
        (try dsimp only)
        refine wpAny_execs_nil ?_
        exact ⟨rfl, _, _, _, _, _, _, _, _, _, _, rfl, F8, N8, h4.s3 hz⟩
    case done =>
    intro h5 tk5 xo hd fi se th u1 u2 u3 u4 F5 N5 h4
    dsimp only
    refine wpAny_execs_nil ?_
    dsimp only
    with_reducible refine ⟨?_⟩
    have F6 : Fr s₁.heap s₁.heap.objs.size h5 _ := F5
    have N6 : News s₁.heap s₁.heap.objs.size h5 _ := N5
    clear F5 lF' N5 N'
    have zh : hd.length ≤ 67 := Nat.le_trans h4.na (by omega)
    have zf : fi.length ≤ 67 := Nat.le_trans h4.nb (by omega)
    have zs : se.length ≤ 67 := Nat.le_trans h4.nc (by omega)
    have zt : th.length ≤ 67 := Nat.le_trans h4.nd (by omega)
    have zx : (PySem.Str.ofString "x").length = 1 := by decide +kernel
    have okh : OkT hd := ⟨h4.ta.ok, h4.pa, Nat.le_trans zh (by decide)⟩
    have okt : OkT th := ⟨h4.td.ok, h4.pd, Nat.le_trans zt (by decide)⟩
    with_reducible refine stretch 4 ?_
    dsimp only [List.take, List.drop]
    k_steps
    (try dsimp only)
    with_reducible refine ⟨?_⟩
    rename IsEnd _ => hen
    rename NsO _ _ => hns
    have s4 := src4 h4 hen (by omega)
    refine wpAny_execs_cons (wpAny_Assign_Name (callX_name ?_))
    k_steps
    with_reducible refine ⟨?_⟩
    refine callX_KW KX (by k_dflt k_is) rfl ?_
    k_steps
    refine ⟨⟨Frag.In.keeps KX (Fr.keep (by assumption)), ?_⟩⟩
    (try dsimp only)
    refine cx_use (gss4 w _ mg mb _ _ (PySem.Str.ofString "x" ++ _) hd (fi ++ _) (se ++ _) th (PySem.Str.ofString "x" ++ _) _ _ _ _ _ _ _ _ _) K0 (by assumption) KX (by assumption) T rfl ⟨s4.1, s4.2, List.Mem.tail _ (List.Mem.head _), List.Mem.head _, hns⟩ (by ktr_room) (by ktr_room) ?_
    intro r tl h7 k7 F7 N7 _ P7
    obtain ⟨rfl, tb7, rfl⟩ := P7
    rw [cat3]
    dsimp only [List.nil_append] at N7 ⊢
    refine storeX ?_
    k_steps
    with_reducible refine ⟨?_⟩
    refine wpAny_execs_cons (wpAny_Assign_Name (callX_name ?_))
    k_steps
    with_reducible refine ⟨?_⟩
    refine callX_KW KX (by k_dflt k_is) rfl ?_
    k_steps
    refine ⟨⟨Frag.In.keeps KX (Fr.keep (by assumption)), ?_⟩⟩
    (try dsimp only)
    refine cx_use (gss4p w _ mg mb _ _ (PySem.Str.ofString "x" ++ _) hd (fi ++ _) (se ++ _) th (PySem.Str.ofString "x" ++ _) _ _ _ _ _ _ _ _ _) K0 (by assumption) KX (by assumption) T rfl ⟨s4.1, s4.2, List.Mem.tail _ (List.Mem.head _), List.Mem.head _, hns⟩ (by ktr_room) (by ktr_room) ?_
    intro r tl h8 k8 F8 N8 _ P8
    obtain ⟨rfl, tb8, rfl⟩ := P8
    rw [cat4]
    dsimp only [List.nil_append] at N8 ⊢
    refine storeX ?_
    k_steps
    with_reducible refine ⟨?_⟩
    have s3 := src3 h4 hen (by omega)
    rw [cat4] at s3
    have zp : (pad hd).length = hd.length := pad_length hd
    with_reducible refine stretch 3 ?_
    dsimp only [List.take, List.drop]
    k_steps
    (try dsimp only)
    with_reducible refine ⟨?_⟩
    with_reducible refine stretch 1 ?_
    dsimp only [List.take, List.drop]
    repeat' (first | walk_at "MINE col" | ((fail_if_success (with_reducible show wpAny _ _ (call (Value.ref 73) _) _ _ _)); (first | (k_unfold; (try dsimp only)) | walk1 | (dsimp only; walk1) | (leave1; walk_say "STEP leave1"; try dsimp only))))
    (try dsimp only)
    with_reducible refine ⟨?_⟩
    with_reducible refine stretch 1 ?_
    dsimp only [List.take, List.drop]
    k_steps
    (try dsimp only)
    with_reducible refine ⟨?_⟩
    rename NsO _ _ => hns2
    rw [← enc_pad hd] at hns2
    refine wpAny_execs_cons (wpAny_If (wpAny_isTrue_Compare1 (callX_name ?_)))
    k_steps
    with_reducible refine ⟨?_⟩
    refine callX_KW KX (by k_dflt k_is) rfl ?_
    k_steps
    refine ⟨⟨Frag.In.keeps KX (Fr.keep (by assumption)), ?_⟩⟩
    (try dsimp only)
    refine cx_use (gss3 w _ mg mb _ _ (pad hd) (fi ++ _) (se ++ _) th _ _ _ _ _ _ _ _ _) K0 (by assumption) KX (by assumption) T rfl ⟨s3.1, s3.2, List.Mem.tail _ (List.Mem.head _), List.Mem.head _, hns2⟩ (by ktr_room) (by ktr_room) ?_
    intro r tl h11 k11 F11 N11 _ P11
    obtain ⟨rfl, tb11, rfl⟩ := P11
    rw [cat3]
    dsimp only [List.nil_append] at N11 ⊢
    refine restX ?_
    k_steps
    with_reducible refine ⟨?_⟩
    refine restX ?_
    k_steps
    with_reducible refine ⟨?_⟩
    refine wpAny_truthy_bool ?_
    rw [if_neg Bool.false_ne_true]
    refine wpAny_execs_nil ?_
    dsimp only
    refine wpAny_execs_cons (wpAny_Return_some (wpAny_Compare1 (callX_name ?_)))
    k_steps
    with_reducible refine ⟨?_⟩
    refine callX_KW KX (by k_dflt k_is) rfl ?_
    k_steps
    refine ⟨⟨Frag.In.keeps KX (Fr.keep (by assumption)), ?_⟩⟩
    (try dsimp only)
    refine cx_use (gss3p w _ mg mb _ _ (pad hd) (fi ++ _) (se ++ _) th _ _ _ _ _ _ _ _ _) K0 (by assumption) KX (by assumption) T rfl ⟨s3.1, s3.2, List.Mem.tail _ (List.Mem.head _), List.Mem.head _, hns2⟩ (by ktr_room) (by ktr_room) ?_
    intro r tl h12 k12 F12 N12 _ P12
    obtain ⟨rfl, tb12, rfl⟩ := P12
    rw [cat4, pad2]
    dsimp only [List.nil_append] at N12 ⊢
    refine restX ?_
    k_steps
    with_reducible refine ⟨?_⟩
    refine restX ?_
    k_steps
    with_reducible refine ⟨?_⟩
    (try dsimp only)
    exact ⟨rfl, _, _, _, by assumption, rfl⟩
end Mine
theorem PySem.Challenge.cw_dm0005_04_holds : PySem.Challenge.rw_dm0005_04.Holds :=
  Mine.t04
