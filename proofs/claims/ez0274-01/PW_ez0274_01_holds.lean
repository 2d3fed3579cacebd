import PyProof.Rows.All
import Wide.All
import OpenK.AllK
import Wide.FinOn
import PySem.Challenge.RW_ez0274_01
open PySem PySem.W PySem.Spec PySem.Calls PyProof.Rows
set_option Elab.async false
set_option maxRecDepth 100000
set_option maxHeartbeats 8000000
set_option linter.unusedVariables false
set_option rowWalk.seconds 0
namespace Mine
section
section
variable {M : Model}
def Silent (s : Shared) (th : Thread) : Prop :=
  ∃ v l k a kw rest fs b st, th.cur = .yield v true l k ∧ th.code = .builtin "proto.yield_from" ⟨.ref a :: rest, kw⟩ ∧ splitAtGen th.stack = some (fs, b, st) ∧ fs.any Frame.guarded = false ∧ ((s.heap.get? a).bind (·.genNumber?)).isSome = true
def Go1 (M : Model) (s : Shared) (th : Thread) (s₁ : Shared) (th₁ : Thread) : Prop :=
  M.step s th = .go s₁ th₁ ∨ (Silent s th ∧ stepK M.den M.prog M.w s th = .go s₁ th₁)
inductive Path (M : Model) : Shared → Thread → Outcome → Shared → Prop
  | halt {s th o s'} : M.step s th = .halt o s' → Path M s th o s'
  | step {s th s₁ th₁ o s'} : Go1 M s th s₁ th₁ → Path M s₁ th₁ o s' → Path M s th o s'
theorem same_heap {s₀ s : Shared} (h : s₀.forget = s.forget) : s₀.heap = s.heap := (Shared.forget_eq h).1
theorem same_cur {t₀ t : Thread} (h : t₀.forget = t.forget) : t₀.cur = t.cur ∧ t₀.code = t.code ∧ forgetAll t₀.stack = forgetAll t.stack := by
  obtain ⟨a, b, c, d⟩ := t₀
  obtain ⟨a', b', c', d'⟩ := t
  simp only [Thread.forget, Thread.mk.injEq] at h
  exact ⟨h.1, h.2.1, h.2.2.2⟩
theorem Silent.same {s₀ s : Shared} {t₀ t : Thread} (hs : s₀.forget = s.forget) (ht : t₀.forget = t.forget) (h : Silent s t) : Silent s₀ t₀ := by
  obtain ⟨v, l, k, a, kw, rest, fs, b, st, h1, h2, h3, h4, h5⟩ := h
  obtain ⟨e1, e2, e3⟩ := same_cur ht
  have z := splitAtGen_forgetAll t₀.stack
  rw [e3, splitAtGen_forgetAll, h3] at z
  cases hx : splitAtGen t₀.stack with
  | none => rw [hx] at z; cases z
  | some x =>
    obtain ⟨fs', b', st'⟩ := x
    rw [hx] at z
    simp only [Option.map_some, Option.some.injEq, Prod.mk.injEq] at z
    refine ⟨v, l, k, a, kw, rest, fs', b', st', e1.trans h1, e2.trans h2, hx, ?_, by rw [same_heap hs]; exact h5⟩
    rw [← any_guarded_forgetAll fs', ← z.1, any_guarded_forgetAll]; exact h4
theorem silent_step {den : Code → Sem Fin} {prog : Program} {w : World} {s : Shared} {t : Thread} (h : Silent s t) (hz : s.asleep) : sstep den prog w (.single s t) = (step den prog w s t).lift := by
  obtain ⟨v, l, k, a, kw, rest, fs, b, st, h1, h2, h3, h4, h5⟩ := h
  obtain ⟨cur, code, pos, stack⟩ := t
  obtain rfl : cur = _ := h1
  obtain rfl : code = _ := h2
  simp only at h3
  have p : (Config.single s ⟨.yield v true l k, .builtin "proto.yield_from" ⟨.ref a :: rest, kw⟩, pos, stack⟩).pick w = .ok (.run 0, .single s ⟨.yield v true l k, .builtin "proto.yield_from" ⟨.ref a :: rest, kw⟩, pos, stack⟩) := by
    have h1 : (Config.single s ⟨.yield v true l k, .builtin "proto.yield_from" ⟨.ref a :: rest, kw⟩, pos, stack⟩).collect? w.params = none := by
      simp [Config.collect?, Config.single, (nothing_to_collect _ _ _ s _ hz.1).1]
    have h2 : (Config.single s ⟨.yield v true l k, .builtin "proto.yield_from" ⟨.ref a :: rest, kw⟩, pos, stack⟩).collectable = [] := by
      simp [Config.collectable, Config.single, (nothing_to_collect w.params _ _ s _ hz.1).2]
    have h3 : (Config.single s ⟨.yield v true l k, .builtin "proto.yield_from" ⟨.ref a :: rest, kw⟩, pos, stack⟩).moves w.params.profile = [.run 0] := by
      simp [Config.moves, Config.single, movesFrom, Thread.moves, Thread.atomic, Thread.rests, Thread.tells]
    simp only [Config.pick, h1, h2, Config.pickThread, h3]
    cases w.params.lifetimes <;> simp
  have hw : s.watching = false := by simp [Shared.watching, hz.1]
  have hsp : Thread.special ⟨.yield v true l k, .builtin "proto.yield_from" ⟨.ref a :: rest, kw⟩, pos, stack⟩ = true := by
    simp [Thread.special, Thread.yieldsInsideHandler]
  have hcl : closingShows s fs (.builtin "proto.yield_from" ⟨.ref a :: rest, kw⟩) true = false := by
    obtain ⟨o, ho⟩ := Option.isSome_iff_exists.mp h5
    obtain ⟨o₁, ho₁, hg⟩ := Option.bind_eq_some_iff.mp ho
    simp [closingShows, h4, delegateShows, ho₁, hg, hz.1]
  have hl : ∀ others, lifeStep den prog w others s ⟨.yield v true l k, .builtin "proto.yield_from" ⟨.ref a :: rest, kw⟩, pos, stack⟩ = step den prog w s ⟨.yield v true l k, .builtin "proto.yield_from" ⟨.ref a :: rest, kw⟩, pos, stack⟩ := by
    intro others
    simp only [lifeStep, hsp, if_true, collectorTurn?, h3, hcl, Bool.false_eq_true, if_false, Bool.false_and, Thread.atItsEnd, stepCounting, hz.2]
  have hr : (Config.single s ⟨.yield v true l k, .builtin "proto.yield_from" ⟨.ref a :: rest, kw⟩, pos, stack⟩).run den prog w 0 = (step den prog w s ⟨.yield v true l k, .builtin "proto.yield_from" ⟨.ref a :: rest, kw⟩, pos, stack⟩).lift := by
    simp only [Config.run, Config.single]
    simp [hl, hsp, others_single, Thread.finalizes]
    split <;> simp_all [Step.lift, Config.single]
  simp only [sstep, p, Config.move, hr]
theorem path_sched {s : Shared} {th : Thread} {o : Outcome} {s' : Shared} (h : Path M s th o s') : o.ends = true → ∀ s₀ th₀, s₀.forget = s.forget → th₀.forget = th.forget → s₀.asleep →
    ∃ n s'', schedN M.den M.prog M.w n (.single s₀ th₀) = .halted o s'' ∧ s''.forget = s'.forget ∧ s''.heap.life = s₀.heap.life := by
  have calm : ∀ {s : Shared} {th : Thread}, th.loud = false → (∀ what, stepK M.den M.prog M.w s th ≠ .halt (.unsupported what) s) → th.calm = true := by
    intro s th hl hn
    rw [Thread.calm_eq, hl]
    cases hr : th.refused with
    | false => rfl
    | true => obtain ⟨what, e⟩ := stepK_refused M.den M.prog M.w (s := s) hr; exact absurd e (hn what)
  have calm_same : ∀ {t₀ t : Thread}, t₀.forget = t.forget → t.calm = true → t₀.calm = true := by
    intro t₀ t e h
    rw [← Thread.calm_forget, e, Thread.calm_forget]; exact h
  induction h with
  | @halt s th o s' hh =>
    intro ho s₀ th₀ es et hz
    have hl : th.loud = false := by
      cases e : th.loud with
      | false => rfl
      | true => rw [M.step_loud e] at hh; cases hh; cases ho
    rw [M.step_quiet hl] at hh
    have hc : th₀.calm = true := calm_same et (calm (s := s) hl (by intro what e; rw [hh] at e; cases e; cases ho))
    have e := (stepK_forget M.den M.prog M.w s th).trans (step_same M.den M.prog M.w es.symm et.symm)
    rw [hh] at e
    cases hs : step M.den M.prog M.w s₀ th₀ with
    | go a b => rw [hs] at e; cases e
    | halt o₂ s₂ =>
      rw [hs] at e
      simp only [Step.forget, Step.halt.injEq] at e
      obtain ⟨rfl, e⟩ := e
      have x := sstep_single M.den M.prog M.w s₀ th₀ hc hz
      have x := x.resolve_right (by intro e; rw [hs] at e; cases e; cases ho)
      exact ⟨1, s₂, by simp only [schedN, x, hs, Step.lift], e.symm, by rw [step_halt_same M.den M.prog M.w s₀ s₂ th₀ o hs]⟩
  | @step s th s₁ th₁ o s' hg _ ih =>
    intro ho s₀ th₀ es et hz
    have main : stepK M.den M.prog M.w s th = .go s₁ th₁ ∧ sstep M.den M.prog M.w (.single s₀ th₀) = (step M.den M.prog M.w s₀ th₀).lift := by
      rcases hg with hg | ⟨hS, hg⟩
      · have hl : th.loud = false := by
          cases e : th.loud with
          | false => rfl
          | true => rw [M.step_loud e] at hg; cases hg
        rw [M.step_quiet hl] at hg
        have hc : th₀.calm = true := calm_same et (calm (s := s) hl (by intro what e; rw [hg] at e; cases e))
        refine ⟨hg, (sstep_single M.den M.prog M.w s₀ th₀ hc hz).resolve_right ?_⟩
        intro e
        have z := (stepK_forget M.den M.prog M.w s th).trans (step_same M.den M.prog M.w es.symm et.symm)
        rw [hg, e] at z; cases z
      · exact ⟨hg, silent_step (hS.same es et) hz⟩
    have e := (stepK_forget M.den M.prog M.w s th).trans (step_same M.den M.prog M.w es.symm et.symm)
    rw [main.1] at e
    cases hs : step M.den M.prog M.w s₀ th₀ with
    | halt a b => rw [hs] at e; cases e
    | go s₂ t₂ =>
      rw [hs] at e
      simp only [Step.forget, Step.go.injEq] at e
      have hlf := step_life M.den M.prog M.w s₀ s₂ th₀ t₂ hs
      obtain ⟨n, s'', h1, h2, h3⟩ := ih ho s₂ t₂ e.1.symm e.2.symm (Shared.asleep_of_life hlf hz)
      refine ⟨n + 1, s'', ?_, h2, h3.trans hlf⟩
      simp only [schedN, main.2, hs, Step.lift]; exact h1

def To (M : Model) (Z : Outcome → Shared → Prop) (s : Shared) (th : Thread) : Prop := ∃ o s', Path M s th o s' ∧ Z o s'
variable {Z : Outcome → Shared → Prop}
theorem To.go {s s₁ : Shared} {th th₁ : Thread} (h : M.step s th = .go s₁ th₁) (x : To M Z s₁ th₁) : To M Z s th :=
  let ⟨o, s', p, z⟩ := x; ⟨o, s', .step (.inl h) p, z⟩
theorem To.comes {s s₁ : Shared} {th th₁ : Thread} (h : Comes M s th s₁ th₁) (x : To M Z s₁ th₁) : To M Z s th := by
  obtain ⟨n, hn⟩ := h
  induction n generalizing s th with
  | zero =>
    have e : Run.running s th = .running s₁ th₁ := hn
    cases e; exact x
  | succ n ih =>
    rw [runN_succ] at hn
    cases hs : M.step s th with
    | go s₂ t₂ => simp only [hs] at hn; exact .go hs (ih hn)
    | halt o s₂ => simp only [hs] at hn; cases hn
theorem to_wrap {α : Type} {Γ : PySem.Ctx} {st : List Frame} (hf : Γ.Fits st) (K : α → Sem Fin) (H : Value → Sem Fin) (gd : Bool → Bool) (lv : List Value → List Value) (m : Sem α) :
    ∀ {Q : α → Pos → Shared → Prop} {E : Value → Pos → Shared → Prop} {p : Pos} {s : Shared}, Sem.wp M Γ m Q E p s →
      (∀ a p' s', Q a p' s' → To M Z s' ⟨K a, Γ.code, p', st⟩) → (∀ x p' s', E x p' s' → To M Z s' ⟨H x, Γ.code, p', st⟩) → To M Z s ⟨m.wrap K H gd lv, Γ.code, p, st⟩ := by
  induction m with
  | pure a => intro Q E p s h hQ _; exact hQ a p s h
  | raise x => intro Q E p s h _ hE; exact hE x p s h
  | unsupported what => intro Q E p s h; exact h.elim
  | finish x => intro Q E p s h; exact h.elim
  | register a k => intro Q E p s h; exact h.elim
  | yield v g l k => intro Q E p s h; exact h.elim
  | fork c k => intro Q E p s h; exact h.elim
  | await a f d l k => intro Q E p s h; exact h.elim
  | rule tag k ih => intro Q E p s h hQ hE; exact .go (step_rule ..) (ih () h hQ hE)
  | «at» p' k ih => intro Q E p s h hQ hE; exact .go (step_at ..) (ih () h hQ hE)
  | load a part k ih => intro Q E p s h hQ hE; obtain ⟨o, ho, h⟩ := h; exact .go (step_load _ _ _ _ _ _ _ ho) (ih o h hQ hE)
  | update a part f k ih => intro Q E p s h hQ hE; obtain ⟨ha, h⟩ := h; exact .go (step_update _ _ _ _ _ _ _ _ ha) (ih () h hQ hE)
  | loadIfAlive a k ih => intro Q E p s h hQ hE; exact .go (step_loadIfAlive ..) (ih _ h hQ hE)
  | point l k ih => intro Q E p s h hQ hE; exact .go (step_point ..) (ih () h hQ hE)
  | alloc o k ih => intro Q E p s h hQ hE; exact .go (step_alloc ..) (ih _ h hQ hE)
  | fresh k ih => intro Q E p s h hQ hE; exact .go (step_fresh ..) (ih _ h hQ hE)
  | ask k ih => intro Q E p s h hQ hE; exact .go (step_ask ..) (ih _ h hQ hE)
  | choose src n k ih => intro Q E p s h hQ hE; obtain ⟨hn, h⟩ := h; exact .go (step_choose _ _ _ _ _ _ _ hn) (ih _ h hQ hE)
  | os q l k ih => intro Q E p s h hQ hE; exact .go (step_os ..) (ih _ h hQ hE)
  | call c h₀ g l k ih =>
    intro Q E p s h hQ hE
    obtain ⟨r, s₁, hr, h⟩ := h
    obtain ⟨t', c', p', pre', hc₁, hx⟩ := (runs_reach hr _ (hf.enter c (fun r => (k r).wrap K H gd lv) h₀ (gd g) (lv l) p [])).comes
    obtain ⟨rfl, rfl⟩ := hx
    exact .go (step_call ..) (.comes hc₁ (.go (step_leaf_ret ..) (ih r h hQ hE)))
  | handled own k ih =>
    intro Q E p s h hQ hE
    refine .go ?_ (ih _ h hQ hE)
    show M.step s ⟨.handled own fun x => (k x).wrap K H gd lv, _, _, _⟩ = _
    rw [step_handled]
    cases own
    · rw [hf.handled]; rfl
    · rw [hf.own]; rfl
  | newGen c k ih => intro Q E p s h hQ hE; exact .go (step_newGen ..) (ih _ h hQ hE)
  | genState g k ih => intro Q E p s h hQ hE; obtain ⟨x, hg, h⟩ := h; exact .go (step_genState _ _ _ _ _ _ hg) (ih _ h hQ hE)
  | resume g r l k ih =>
    intro Q E p s h hQ hE
    obtain ⟨res, s₁, hw, h⟩ := h
    exact .comes (wakes_comes hf (lv l) (fun x => (k x).wrap K H gd lv) hw) (ih res h hQ hE)
  | stack k ih =>
    intro Q E p s h hQ hE
    refine .go ?_ (ih _ h hQ hE)
    rw [hf.below]; exact step_stack ..
  | thread k ih => intro Q E p s h hQ hE; exact .go (step_thread ..) (ih _ h hQ hE)
end

end
section
def wpT {α : Type} (M : Model) (A : Around) (m : Sem α) (Q : α → Shared → Prop) (E : Value → Shared → Prop) (s : Shared) : Prop :=
  ∀ (Z : Outcome → Shared → Prop) (c : Code) (p : Pos) (st : List Frame) (K : α → Sem Fin) (H : Value → Sem Fin) (gd : Bool → Bool) (lv : List Value → List Value), (PySem.Ctx.of c st).In A →
    (∀ a p' s', Q a s' → To M Z s' ⟨K a, c, p', st⟩) → (∀ e p' s', E e s' → To M Z s' ⟨H e, c, p', st⟩) → To M Z s ⟨m.wrap K H gd lv, c, p, st⟩
section
variable {α β : Type} {M : Model} {A : Around} {E : Value → Shared → Prop} {s : Shared}
theorem wpT_of {m : Sem α} {Q : α → Shared → Prop} (h : wpAny M A m Q E s) : wpT M A m Q E s := fun _ c p st K H gd lv hin hQ hE =>
  to_wrap (Γ := PySem.Ctx.of c st) (PySem.Ctx.fits_of c st) K H gd lv m (h _ p hin) (fun a p' s' x => hQ a p' s' x) (fun x p' s' y => hE x p' s' y)
theorem wpT_mono {m : Sem α} {Q Q' : α → Shared → Prop} {E' : Value → Shared → Prop} (h : wpT M A m Q E s) (hQ : ∀ a s', Q a s' → Q' a s') (hE : ∀ e s', E e s' → E' e s') : wpT M A m Q' E' s :=
  fun Z c p st K H gd lv hin hq he => h Z c p st K H gd lv hin (fun a p' s' x => hq a p' s' (hQ a s' x)) (fun e p' s' x => he e p' s' (hE e s' x))
theorem wpT_wrap {m : Sem α} {K : α → Sem β} {H : Value → Sem β} {gd : Bool → Bool} {lv : List Value → List Value} {Q : β → Shared → Prop} (h : wpT M A m (fun a s' => wpT M A (K a) Q E s') (fun e s' => wpT M A (H e) Q E s') s) :
    wpT M A (m.wrap K H gd lv) Q E s := fun Z c p st K' H' gd' lv' hin hq he => by
  rw [Sem.wrap_wrap]
  exact h Z c p st _ _ _ _ hin (fun a p' s' x => x Z c p' st K' H' gd' lv' hin hq he) (fun e p' s' x => x Z c p' st K' H' gd' lv' hin hq he)
theorem wpT_pure {a : α} {Q : α → Shared → Prop} (h : Q a s) : wpT M A (pure a) Q E s := fun _ _ p _ _ _ _ _ _ hq _ => hq a p s h
theorem wpT_throw {e : Value} {Q : α → Shared → Prop} (h : E e s) : wpT M A (throw e : Sem α) Q E s := fun _ _ p _ _ _ _ _ _ _ he => he e p s h
theorem wpT_bind {m : Sem α} {f : α → Sem β} {Q : β → Shared → Prop} (h : wpT M A m (fun a s' => wpT M A (f a) Q E s') E s) : wpT M A (m >>= f) Q E s := by
  rw [Sem.bind_eq_wrap']
  exact wpT_wrap (wpT_mono h (fun _ _ x => x) fun _ _ x => wpT_throw x)
theorem wpT_then {m : Sem α} {f : α → Sem β} {Q : β → Shared → Prop} (h : wpAny M A m (fun a s' => wpT M A (f a) Q E s') E s) : wpT M A (m >>= f) Q E s := wpT_bind (wpT_of h)
theorem wpT_of_eq {m m' : Sem α} {Q : α → Shared → Prop} (e : m = m') (h : wpT M A m' Q E s) : wpT M A m Q E s := e ▸ h
theorem wpT_tryCatch {m : Sem α} {f : Value → Sem α} {Q : α → Shared → Prop} (h : wpT M A m Q (fun e s' => wpT M A (f e) Q E s') s) : wpT M A (m.tryCatch f) Q E s := by
  rw [Sem.tryCatch_eq_wrap]
  exact wpT_wrap (wpT_mono h (fun _ _ x => wpT_pure x) fun _ _ x => x)
theorem wpT_onRaise {m : Sem α} {f : Value → Sem Unit} {Q : α → Shared → Prop} (h : wpT M A m Q (fun e s' => wpT M A (f e) (fun _ s'' => E e s'') E s') s) : wpT M A (m.onRaise f) Q E s := by
  rw [Sem.onRaise_eq_wrap]
  exact wpT_wrap (wpT_mono h (fun _ _ x => wpT_pure x) fun e s' x => wpT_of_eq (Sem.bind_eq_wrap _ _) (wpT_wrap (wpT_mono x (fun _ _ y => wpT_throw y) fun _ _ y => wpT_throw y)))
theorem wpT_keep {m : Sem α} {vs : List Value} {Q : α → Shared → Prop} (h : wpT M A m Q E s) : wpT M A (m.keep vs) Q E s := by
  rw [Sem.keep_eq_wrap]
  exact wpT_wrap (wpT_mono h (fun _ _ x => wpT_pure x) fun _ _ x => wpT_throw x)
end
theorem wrap_id : ∀ m : Sem Fin, m.wrap .pure .raise id id = m := fun m => by
  rw [← Sem.bind_eq_wrap]
  exact Sem.bind_pure m
theorem ends_T {prog : Program} {w : World} {t : Sem Fin} {s : Shared} {R : Result → Shared → Prop} (hz : s.asleep)
    (h : wpT (model prog w) callerA t (fun fin s' => ∃ f, fin = .done f ∧ R (.ok f) s' ∧ leftWithCleanup s'.gens = false) (fun e s' => R (.error e) s' ∧ leftWithCleanup s'.gens = false) s) :
    ∃ n r s' s'', schedN (denote table) prog w n (.single s ⟨t, .builtin "claim.caller" {}, default, []⟩) = .halted (outcomeOf r) s' ∧ s'.forget = s''.forget ∧ s'.heap.life = s.heap.life ∧ R r s'' := by
  have fin : ∀ r p s', R r s' ∧ leftWithCleanup s'.gens = false → To (model prog w) (fun o s' => ∃ r, o = outcomeOf r ∧ R r s') s' ⟨leafOf r, .builtin "claim.caller" {}, p, []⟩ := fun r p s' x =>
    ⟨outcomeOf r, s', .halt (by rw [step_leaf_nil]; simp only [finish, x.2, Bool.false_eq_true, if_false]), r, rfl, x.1⟩
  have z := h (fun o s' => ∃ r, o = outcomeOf r ∧ R r s') (.builtin "claim.caller" {}) default [] .pure .raise id id caller_in
    (fun a p' s' x => by obtain ⟨f, rfl, x⟩ := x; exact fin (.ok f) p' s' x) (fun e p' s' x => fin (.error e) p' s' x)
  rw [wrap_id] at z
  obtain ⟨_, s'', hp, r, rfl, hR⟩ := z
  obtain ⟨n, s', h1, h2, h3⟩ := path_sched hp (outcomeOf_ends r) s _ rfl rfl hz
  exact ⟨n, r, s', s'', h1, h2, h3, hR⟩
abbrev WalkT (q : Program) (loose : List Str) (XP : (Str → Option Value) → Heap → Prop) (YP : World → Heap → Prop) (r : RowW) (d : DefRec) (kwd : List (Str × Expr)) (run : Value → List Value → Sem Value) : Prop :=
  ∀ (w : World) (s₀ s₁ : Shared) (mg mb : Str → Option Value), Ground q loose r.records XP w s₀ mg mb s₁.heap → YP w s₁.heap → ∀ (a : Addr) (o : Obj) (pm cd doc dV kV : Value), s₁.heap.get? a = some o →
    o.data = .func { docDef d.name d.params d.body d.scope pm cd doc with defaults := dV, kwdefaults := kV } → s₁.heap.CodeRec cd d.name → Dflts mg s₁.heap d.params kwd dV kV → mg d.name = some (.ref a) → s₁.gens = #[] →
    ∀ (args : List WData) (vals : List Value) (as : List Addr), r.claim.pre args = true → WData.layableAll args = true → ReadsAllW r.records (classAt s₀.heap) s₁.heap vals args as → WellAll w.params s₁.heap vals args → (∀ a ∈ as, (a == sysModules) = false) →
      wpT (model r.prog w) callerA (run (.ref a) vals) (fun v s' => GoodWG r.claim (classAt s₀.heap) (ExcName.means s₀.heap) args s₁ (.ok (.ret v)) s')
        (fun e s' => GoodWG r.claim (classAt s₀.heap) (ExcName.means s₀.heap) args s₁ (.error e) s') s₁
theorem PySem.W.holds_open {r : OpenRow} {q : Program} {loose : List Str} {Xt : Shared → Bool} {XP : (Str → Option Value) → Heap → Prop} {α : Type} {Yf : Shared → α} {Ya : World → α} {YP : World → Heap → Prop} {d : DefRec} {kwd : List (Str × Expr)} {N : Nat}
    (left : LeftO r.prog q loose Xt Yf Ya N) (hY : ∀ w s, Yf s = Ya w → YP w s.heap) (hYk : ∀ w h h', YP w h → (∀ b o, h.get? b = some o → h'.get? b = some o) → YP w h')
    (hX : ∀ s, Xt s = true → XP (s.heap.nsMap mainGlobals) s.heap) (hXk : ∀ mg h h', XP mg h → (∀ b o, h.get? b = some o → h'.get? b = some o) → XP mg h')
    (hdef : defOf q r.name = some (d, kwd)) (hp : r.prog.theDef r.name = some (d.params, d.body, d.scope)) (hk : kwWritten? d.params.kwonlyargs d.params.kw_defaults = some kwd) (hRf : ∀ s, Xt s = true → RecFacts r.records s.heap) (hwr : (!r.writes || r.records.isEmpty) = true)
    (k1 : r.wellSaid = true) (ok : (chainsOk q && opensWell r.prog && (frees r.toRowW && r.within.isEmpty)) = true) (hb : r.prog.bare) (hw : r.toRowW.promised)
    (call : WalkT q loose XP YP r.toRowW d kwd fun f vs => PySem.call f vs) : r.Holds := by
  simp only [Bool.and_eq_true] at ok
  obtain ⟨⟨hch, o1⟩, k5, k6⟩ := ok
  obtain ⟨hsame, hu, ha, hap, hm⟩ := frees_parts k5
  have hi := ident_freeW hu ha hap
  have hwi : r.toRowW.claim.within = [] := List.isEmpty_iff.mp k6
  refine ⟨k1, hw, ⟨hb, o1, by show r.makers.map _ = []; rw [hm]; rfl⟩, hw.witness, fun w => ⟨(left.behind hX hch w).1, fun s' hs' => ?_⟩⟩
  obtain ⟨s₀, hf, hg0, s, hT, hz, hgn, hg, G00, y⟩ := (left.behind (XP := fun mg h => XP mg h ∧ RecFacts r.records h) (fun s hs => ⟨hX s hs, hRf s hs⟩) hch w).2 s' hs'
  have G0 : Ground q loose [] XP w s (s.heap.nsMap mainGlobals) (s.heap.nsMap builtinsNs) s.heap := ⟨G00.T, G00.B, G00.D, G00.TE, G00.TD, G00.W, G00.X.1, G00.cls, G00.has, G00.apart, G00.once, G00.K⟩
  have RF := G00.X.2
  have hgens : s.gens = #[] := Array.eq_empty_of_size_eq_zero (beq_iff_eq.mp hgn)
  have G : Ground q loose r.records XP w s _ _ s.heap := RF.ground G0
  refine ⟨s₀, hf, hg0, s, hT, fun n hn => ?_, RF.1, RF.2.1, fun args hpre hlay ord hord => ?_⟩
  · obtain rfl : n = r.name := by split at hn <;> simp_all
    exact pinned_of_view hg G0 hdef hp hk
  obtain ⟨⟨vs, s₁⟩, hlaid⟩ := Option.isSome_iff_exists.mp (layAllW_isSome (P := w.params) (ord := ord) G.has args r.args s (pre_splitW hpre).1)
  have keeps := layAllW_keeps _ _ _ hlaid
  have hal := layAllW_rest _ _ _ hlaid
  obtain ⟨as, hrd, hin, hold⟩ := reads_layAllW hord _ _ _ hlaid hlay s₁.heap (fun _ _ e => e)
  have L : Laid r.records w s s₁ args vs as := ⟨⟨ord, hord, hlaid⟩, hrd, hin, hold, keeps, hal.1.trans hgens, hal.2.2.1⟩
  have G₁ := G.keeps hXk keeps
  obtain ⟨a, o, pm, cd, doc, dV, kV, h1, h2, h3, h4, h5⟩ := G₁.fn hdef
  have hcode := call w s s₁ _ _ G₁ (hYk _ _ _ (hY w s y) keeps) a o pm cd doc dV kV h2 h3 h4 h5 (defOf_name hdef ▸ h1) L.gens args vs as hpre hlay L.reads L.well (L.low G.low)
  have all : ∀ res s', GoodWG r.toRowW.claim (classAt s.heap) (ExcName.means s.heap) args s₁ res s' → (r.toRowW.claim.Ends s args vs s₁ res s' ∧ s'.os = s.os ∧ (r.writes = true → namesKept r.prog r.keeps s.heap s'.heap ∧ ∀ x ∈ r.records, ∀ a, classAt s.heap x.1 = some a → recordClass s'.heap a x.1 (x.2.map (·.1)) = true)) ∧ leftWithCleanup s'.gens = false := fun res s' g =>
    have z := g.laid (c := r.toRowW.claim) hsame hwi hi L
    ⟨⟨z.1, z.2.1, fun q => ⟨namesKept_of hT hg r.keeps keeps g.2.1.old, noTable hwr q⟩⟩, leftWithCleanup_false_of_bare z.2.2⟩
  obtain ⟨n, res, s', s'', hsch, hfo, hlife, hends, hos, hkp⟩ := ends_T (prog := r.prog) (w := w) (s := s₁) (Shared.asleep_of_life hal.2.2.2 hz)
    (t := do match ← nsGet mainNs r.name with
      | some f => do ret (← PySem.call f vs)
      | none => unsupported "claim.caller:no-such-global")
    (R := fun res s' => r.toRowW.claim.Ends s args vs s₁ res s' ∧ s'.os = s.os ∧ (r.writes = true → namesKept r.prog r.keeps s.heap s'.heap ∧ ∀ x ∈ r.records, ∀ a, classAt s.heap x.1 = some a → recordClass s'.heap a x.1 (x.2.map (·.1)) = true))
    (wpT_then (wpAny_nsGet G₁.T.g (by
      rw [h1]
      exact wpT_bind (wpT_mono hcode (fun v s' g => wpT_pure ⟨_, rfl, all _ _ g⟩) fun e s' g => all _ _ g))))
  obtain ⟨eh, _, _, eo, _⟩ := Shared.forget_eq hfo
  have hends := hends.congr eh
  rw [← eh] at hkp
  rw [← eo] at hos
  have hl : s'.heap.life = s.heap.life := hlife.trans hal.2.2.2
  refine ⟨vs, s₁, hlaid, n, _, s', hsch, ?_, (fun _ i x hx => by rw [hgens] at hx; simp at hx), hkp, by rw [hl], Shared.rest_eq hos⟩
  rcases hends with ⟨v, rfl, d1, d2, d3, d4, d5⟩ | ⟨e, ob, cls, rfl, d1, d2, d3, d4, d5⟩
  · exact .inl ⟨v, rfl, d1, d2, d3, fun b o y _ => d4 b o y, d5⟩
  · exact .inr ⟨e, ob, cls, rfl, d1, d2, d3, d4, fun b o y _ => d5 b o y⟩

end
open_top hd for PySem.Challenge.rw_ez0274_01
section

section
variable {prog : Program} {w : World} {A : Around} {s : Shared} {h₀ : Heap} {L : Addr} {m : Str → Option Value} {news : List (Addr × Obj)}
  {R : Result → Shared → Prop} {name qual : Str} {params : Arguments} {body : List Stmt} {scope : Scope} {cl : List (Str × Addr)} {dV kV doc pm cdv ct : Value} {an : Option Addr} {fo : Obj} {f : Addr} {args : Args} {binds : List (Str × Value)}

theorem groundY (F : Fr h₀ L s.heap m) (N : News h₀ L s.heap news) :
    Fr h₀ L (hideAll s.heap (news.map (·.1))) m ∧ h₀.StaysIn (hideAll s.heap (news.map (·.1))) ∧
      ∀ v s', LeaveK h₀ L m (hideAll s.heap (news.map (·.1))) R v s' → R (.ok (.ret v)) s' := by
  have nm : ∀ b o, h₀.get? b = some o → b ∉ news.map (·.1) := fun b o e q => by
    obtain ⟨p, hp, rfl⟩ := List.mem_map.mp q
    rw [(N p hp).2.2] at e; cases e
  have st : h₀.StaysIn (hideAll s.heap (news.map (·.1))) := fun b o e => hideAll_get _ (F.keep b o e) (nm b o e)
  obtain ⟨oL, es, ep, hL, hLd, hLk, hLf⟩ := F.ns
  have nL : L ∉ news.map (·.1) := fun q => by
    obtain ⟨p, hp, e⟩ := List.mem_map.mp q
    exact (N p hp).2.1 e
  have hLg := hideAll_get (news.map (·.1)) hL nL
  refine ⟨⟨⟨oL, es, ep, hLg, hLd, hLk, hLf⟩, st, F.above⟩, st, fun v s' hl => ?_⟩
  obtain ⟨L', m', news', F', N', k⟩ := hl
  refine k ⟨⟨oL, es, ep, F'.keep L oL hLg, hLd, hLk, hLf⟩, fun b o e => F'.keep b o (st b o e), F.above⟩ fun p hp => ⟨(N' p hp).1, fun q => ?_, ?_⟩
  · have := (N' p hp).2.2; rw [q, hLg] at this; cases this
  · cases q : h₀.get? p.1 with
    | none => rfl
    | some o => have := (N' p hp).2.2; rw [st _ _ q] at this; cases this

theorem callY_plain (F : Fr h₀ L s.heap m) (N : News h₀ L s.heap news) (hlim : h₀.NoLimit)
    (ho : s.heap.get? f = some fo) (hd : fo.data = .func (fnX name qual params body scope cl dV kV doc pm an cdv ct)) (hcd : s.heap.CodeRec cdv qual) (hroom : A.depth < recursionLimit)
    (hbind : BindsTo s (fnX name qual params body scope cl dV kV doc pm an cdv ct) args binds) (hloc : ∀ y ∈ binds, scope.names.lookup y.1 = some .local)
    (h : ∀ g L' h₁, Fr h₀ L g m → Fr g L' h₁ (fun y => binds.reverse.lookup y) → News g L' h₁ news → h₀.StaysIn g → (∀ p ∈ news, p.1 < L') →
      wpAny (model prog w) (A.deeper (envX qual scope L' f cdv cl)) (execs body (envX qual scope L' f cdv cl))
        (fun fl s' => LeaveK h₀ L m g R (match fl with | .ret v => v | _ => .none) s')
        (fun _ _ => False)
        { s with heap := h₁, toks := s.toks + binds.length })
    (hcell : ∀ x ∈ scope.names, x.2 ≠ .cell) (hco : scope.isCoroutine = false := by rfl) (hgen : scope.isGenerator = false := by rfl) (hk : scope.kind = .function := by rfl) : codeAny (model prog w) A (.call (.ref f) args) R s := by
  obtain ⟨FG, st, lv⟩ := groundY (R := R) F N
  refine codeAny_call_def (fd := fnX name qual params body scope cl dV kV doc pm an cdv ct) (body := body) (binds := binds) hroom ho hd (hlim.keeps F.keep) hcd rfl hbind hcell hloc (fun h₁ hns hk₁ => ?_) hco hgen hk
  exact wpAny_mono (h _ s.heap.objs.size h₁ FG ⟨hns, fun b o e => hk₁ b o (of_hideAll _ e), Nat.le_of_eq (hideAll_size _ _)⟩
    (fun p hp => ⟨hk₁ _ _ (N p hp).1, Nat.ne_of_lt (Heap.lt_size (N p hp).1), hideAll_none _ (List.mem_map_of_mem hp)⟩) st (fun p hp => Heap.lt_size (N p hp).1)) (fun fl s' hl => lv _ _ hl) fun _ _ y => y.elim

theorem callY_cells (F : Fr h₀ L s.heap m) (N : News h₀ L s.heap news) (hlim : h₀.NoLimit)
    (ho : s.heap.get? f = some fo) (hd : fo.data = .func (fnX name qual params body scope [] dV kV doc pm an cdv ct)) (hcd : s.heap.CodeRec cdv qual) (hroom : A.depth < recursionLimit)
    (hbind : BindsTo s (fnX name qual params body scope [] dV kV doc pm an cdv ct) args binds)
    (hkind : ∀ n, ∀ x ∈ binds, scope.names.lookup x.1 = some .local ∨ (scope.names.lookup x.1 = some .cell ∧ ((cellsFrom n scope.names []).lookup x.1).isSome = true))
    (hnd : ((cellsFrom 0 scope.names []).map (·.1)).Nodup)
    (h : ∀ g L' h₁ tk cells, Fr h₀ L g m → Fr g L' h₁ (bindL (envOfC qual scope L' f cdv).kindOf binds fun _ => none) → News g L' h₁ (cells ++ news) →
      CellsAre (bindC (envOfC qual scope L' f cdv).kindOf binds fun _ => none) (cellsFrom (L' + 1) scope.names []) cells → h₀.StaysIn g → (∀ p ∈ news, p.1 < L') →
      wpAny (model prog w) (A.deeper (envOfC qual scope L' f cdv)) (execs body (envOfC qual scope L' f cdv))
        (fun fl s' => LeaveK h₀ L m g R (match fl with | .ret v => v | _ => .none) s')
        (fun _ _ => False)
        { s with heap := h₁, toks := tk })
    (hco : scope.isCoroutine = false := by rfl) (hgen : scope.isGenerator = false := by rfl) (hk : scope.kind = .function := by rfl) : codeAny (model prog w) A (.call (.ref f) args) R s := by
  obtain ⟨FG, st, lv⟩ := groundY (R := R) F N
  refine codeAny_call_function hroom ho hd hco hgen rfl hcd (hbind _ _ _ _ ?_)
  refine wpAny_newFunctionEnv_cells hk (hkind _) fun env' he s' x => ?_
  subst he
  refine ⟨(hlim.keeps F.keep).keeps x.toInCall.keep, codeAny_func ?_⟩
  obtain ⟨h₁, tk, rfl, _⟩ := x.done
  have hk₁ := x.toInCall.keep
  obtain ⟨cells, NC, Y⟩ := Cl.news (h₀ := s.heap) (Nat.le_refl _) fun n c hm => ⟨x.cell n c (lookup_of_mem_nodup (cellsFrom_names scope.names 0 (s.heap.objs.size + 1) [] [] rfl ▸ hnd) hm), x.above n c hm⟩
  refine wpAny_mono (h _ s.heap.objs.size h₁ tk cells FG ⟨x.toInCall.ns, fun b o e => hk₁ b o (of_hideAll _ e), Nat.le_of_eq (hideAll_size _ _)⟩ (fun p hp => ?_) Y st (fun p hp => Heap.lt_size (N p hp).1)) (fun fl s' hl => lv _ _ hl) fun _ _ y => y.elim
  rcases List.mem_append.mp hp with hp | hp
  · refine ⟨(NC p hp).1, (NC p hp).2.1, ?_⟩
    cases q : (hideAll s.heap (news.map (·.1))).get? p.1 with
    | none => rfl
    | some o => have := of_hideAll _ q; rw [(NC p hp).2.2] at this; cases this
  · exact ⟨hk₁ _ _ (N p hp).1, Nat.ne_of_lt (Heap.lt_size (N p hp).1), hideAll_none _ (List.mem_map_of_mem hp)⟩
end
section
variable {prog : Program} {w : World} {A : Around} {s : Shared} {K : Frag} {h₀ : Heap} {L : Addr} {m mg mb : Str → Option Value} {news : List (Addr × Obj)} {p : Program} {loose : List Str} {mean : ExcName → Option Value}
  {R : Result → Shared → Prop} {name qual : Str} {params : Arguments} {body : List Stmt} {scope : Scope} {cl : List (Str × Addr)} {dV kV doc pm cdv ct oc : Value} {an od : Option Addr} {osl : Array (Option Value)} {f : Addr} {args : Args} {binds : List (Str × Value)}
theorem code_defY (F : Fr h₀ L s.heap m) (X₀ : K.In h₀) (N : News h₀ L s.heap news) (T : Top p loose mean mg mb h₀)
    (ho : K.lookup f = some ⟨oc, od, .func (fnOf name qual params body scope dV kV doc pm an cdv ct), osl⟩) (hcd : codeIn K cdv qual = true) (hroom : A.depth < recursionLimit)
    (hbind : BindsTo s (fnOf name qual params body scope dV kV doc pm an cdv ct) args binds) (hloc : ∀ y ∈ binds, scope.names.lookup y.1 = some .local)
    (h : ∀ g L' h₁, Fr h₀ L g m → Fr g L' h₁ (fun y => binds.reverse.lookup y) → News g L' h₁ news → K.In g → Top p loose mean mg mb g → (∀ p ∈ news, p.1 < L') →
      wpAny (model prog w) (A.deeper (envOf qual scope L' f cdv)) (execs body (envOf qual scope L' f cdv))
        (fun fl s' => LeaveK h₀ L m g R (match fl with | .ret v => v | _ => .none) s')
        (fun _ _ => False)
        { s with heap := h₁, toks := s.toks + binds.length })
    (hco : scope.isCoroutine = false) (hgen : scope.isGenerator = false) (hk : scope.kind = .function)
    (hcell : ∀ x ∈ scope.names, x.2 ≠ .cell) : codeAny (model prog w) A (.call (.ref f) args) R s :=
  callY_plain (cl := []) F N T.nolimit ((X₀.keeps F.keep) _ _ ho) rfl (codeRec_of (X₀.keeps F.keep) hcd) hroom hbind hloc (fun g L' h₁ FG F' N' st lt => h g L' h₁ FG F' N' (X₀.keeps st) (T.keeps st) lt) hcell hco hgen hk
theorem code_defCY (F : Fr h₀ L s.heap m) (X₀ : K.In h₀) (N : News h₀ L s.heap news) (T : Top p loose mean mg mb h₀)
    (ho : K.lookup f = some ⟨oc, od, .func (fnOf name qual params body scope dV kV doc pm an cdv ct), osl⟩) (hcd : codeIn K cdv qual = true) (hroom : A.depth < recursionLimit)
    (hbind : BindsTo s (fnOf name qual params body scope dV kV doc pm an cdv ct) args binds) (hkind : (binds.all fun y => scope.names.lookup y.1 == some .local || scope.names.lookup y.1 == some .cell) = true)
    (hnd : ((cellsFrom 0 scope.names []).map (·.1)).Nodup)
    (h : ∀ g L' h₁ tk cells, Fr h₀ L g m → Fr g L' h₁ (bindL (envOfC qual scope L' f cdv).kindOf binds fun _ => none) → News g L' h₁ (cells ++ news) →
      CellsAre (bindC (envOfC qual scope L' f cdv).kindOf binds fun _ => none) (cellsFrom (L' + 1) scope.names []) cells → K.In g → Top p loose mean mg mb g → (∀ p ∈ news, p.1 < L') →
      wpAny (model prog w) (A.deeper (envOfC qual scope L' f cdv)) (execs body (envOfC qual scope L' f cdv))
        (fun fl s' => LeaveK h₀ L m g R (match fl with | .ret v => v | _ => .none) s')
        (fun _ _ => False)
        { s with heap := h₁, toks := tk })
    (hco : scope.isCoroutine = false) (hgen : scope.isGenerator = false) (hk : scope.kind = .function) : codeAny (model prog w) A (.call (.ref f) args) R s :=
  callY_cells F N T.nolimit ((X₀.keeps F.keep) _ _ ho) rfl (codeRec_of (X₀.keeps F.keep) hcd) hroom hbind (kindsX hkind) hnd (fun g L' h₁ tk cells FG F' N' Y st lt => h g L' h₁ tk cells FG F' N' Y (X₀.keeps st) (T.keeps st) lt) hco hgen hk
end
section
variable {M : Model} {A : Around} {E : Value → Shared → Prop} {s : Shared}
theorem evalArgs_star2 {f : Value} {x y : Sem Value} {b : Bool} {rest : List (Bool × Sem Value)} {Q : Args → Shared → Prop}
    (h : wpAny M A (spliced ((true, x) :: (b, y) :: rest)) (fun vs s' => Q ⟨vs, []⟩ s') E s) : wpAny M A (evalArgs f true ((true, x) :: (b, y) :: rest) []) Q E s := by
  unfold evalArgs
  show wpAny M A (spliced ((true, x) :: (b, y) :: rest) >>= _) Q E s
  refine wpAny_bind (wpAny_mono h (fun vs s' h' => ?_) fun _ _ x => x)
  refine wpAny_holding ?_
  exact wpAny_bind (wpAny_pure (wpAny_bind (wpAny_pure (wpAny_pure h'))))
variable {K : Frag} {env : Env} {pos p : Pos} {f : Value} {first : List Value} {Q : Value → Shared → Prop} {h₀ : Heap} {e e2 : Expr} {rest : List Expr}
theorem callWith_S3 (_X : K.In h₀) (hk : keepIn K f = true) (h : wpAny M A (spliced (backTo pos (starEach (.Starred e p :: e2 :: rest) env))) (fun vs s₁ => K.In s₁.heap ∧ wpAny M A (call f (first ++ vs)) Q E s₁) E s)
    (he : starEach (.Starred e p :: e2 :: rest) env = (true, eval e env) :: (false, eval e2 env) :: starEach rest env := by rfl) :
    wpAny M A (callWith pos f first (backTo pos (starEach (.Starred e p :: e2 :: rest) env)) []) Q E s := by
  rw [he] at h ⊢
  exact ks_call rfl (keeps_K hk) (evalArgs_star2 h)
end
section
variable {prog : Program} {w : World} {A : Around} {s : Shared} {K : Frag} {h₀ : Heap} {L : Addr} {m mg mb : Str → Option Value} {news : List (Addr × Obj)} {p : Program} {loose : List Str} {mean : ExcName → Option Value}
  {R : Result → Shared → Prop} {name qual : Str} {params : Arguments} {body : List Stmt} {scope : Scope} {cl : List (Str × Addr)} {dV kV doc pm cdv ct oc : Value} {an od : Option Addr} {osl : Array (Option Value)} {f : Addr} {args : Args}
abbrev tupO (vs : List Value) : Obj := { cls := .type "tuple", data := .seq vs.toArray }
theorem code_restY {vs : List Value} {binds : Value → List (Str × Value)} (F : Fr h₀ L s.heap m) (X₀ : K.In h₀) (N : News h₀ L s.heap news) (T : Top p loose mean mg mb h₀)
    (ho : K.lookup f = some ⟨oc, od, .func (fnOf name qual params body scope dV kV doc pm an cdv ct), osl⟩) (hcd : codeIn K cdv qual = true) (hroom : A.depth < recursionLimit)
    (hb : bindArgs (fnOf name qual params body scope dV kV doc pm an cdv ct) args = (newTuple vs >>= fun t => pure (binds t))) (hz : vs.length ≤ sizeLine)
    (hloc : ∀ t, ∀ y ∈ binds t, scope.names.lookup y.1 = some .local)
    (h : ∀ D g L' h₁, (∀ p ∈ news, p.1 < D) → Fr h₀ L g m → Fr g L' h₁ (fun y => (binds (.ref D)).reverse.lookup y) → News g L' h₁ ((D, tupO vs) :: news) → K.In g → Top p loose mean mg mb g → (∀ p ∈ (D, tupO vs) :: news, p.1 < L') →
      wpAny (model prog w) (A.deeper (envOf qual scope L' f cdv)) (execs body (envOf qual scope L' f cdv))
        (fun fl s' => LeaveK h₀ L m g R (match fl with | .ret v => v | _ => .none) s')
        (fun _ _ => False)
        { s with heap := h₁, toks := s.toks + (binds (.ref D)).length })
    (hco : scope.isCoroutine = false) (hgen : scope.isGenerator = false) (hk : scope.kind = .function)
    (hcell : ∀ x ∈ scope.names, x.2 ≠ .cell) : codeAny (model prog w) A (.call (.ref f) args) R s := by
  refine codeAny_call_function (fd := fnOf name qual params body scope dV kV doc pm an cdv ct) (body := body) hroom ((X₀.keeps F.keep) _ _ ho) rfl hco hgen rfl (codeRec_of (X₀.keeps F.keep) hcd) ?_
  rw [hb]
  refine wpAny_bind (newTuple_N F N (fun h' F' N' => wpAny_pure ?_) hz)
  have lt : ∀ p ∈ news, p.1 < s.heap.objs.size := fun p hp => Heap.lt_size (N p hp).1
  obtain ⟨FG, st, lv⟩ := groundY (R := R) (s := { s with heap := h' }) F' N'
  refine wpAny_newFunctionEnv hcell (hloc _) (fun h₁ hns hsb => ⟨(T.nolimit.keeps F'.keep).fresh _ hsb, codeAny_func ?_⟩) hk
  have hk₁ : ∀ b o, h'.get? b = some o → h₁.get? b = some o := fun b o e => hsb.extBut b o (Nat.ne_of_lt (Heap.lt_size e)) (Heap.get?_push_of_some _ e)
  exact wpAny_mono (h _ _ h'.objs.size h₁ lt FG ⟨hns, fun b o e => hk₁ b o (of_hideAll _ e), Nat.le_of_eq (hideAll_size _ _)⟩
    (fun p hp => ⟨hk₁ _ _ (N' p hp).1, Nat.ne_of_lt (Heap.lt_size (N' p hp).1), hideAll_none _ (List.mem_map_of_mem hp)⟩) (X₀.keeps st) (T.keeps st) (fun p hp => Heap.lt_size (N' p hp).1)) (fun fl s' hl => lv _ _ hl) fun _ _ y => y.elim
end
theorem allLt_all {d : Addr} : ∀ {l : List (Addr × Obj)}, AllLt d l → ∀ p ∈ l, p.1 < d
  | [], _, _, h => nomatch h
  | q :: r, H, p, h => by
    rcases List.mem_cons.mp h with rfl | h
    · exact H.1
    · exact allLt_all H.2 p h
theorem allNe {d : Addr} {l : List (Addr × Obj)} (h : ∀ p ∈ l, p.1 < d) : ∀ p ∈ l, p.1 ≠ d := fun p hp => Nat.ne_of_lt (h p hp)
theorem allNe' {d : Addr} {l : List (Addr × Obj)} (h : AllLt d l) : ∀ p ∈ l, p.1 ≠ d := fun p hp => Nat.ne_of_lt (allLt_all h p hp)
section
variable {prog : Program} {w : World} {A : Around} {E : Value → Shared → Prop} {s : Shared} {K : Frag} {h₀ : Heap} {L t : Addr} {m : Str → Option Value}
theorem truthyKF {its : Array Value} {n : Nat} {Q : Bool → Shared → Prop} (F : Fr h₀ L s.heap m) (X : K.In h₀) (e : K.lookup t = some { cls := .type "tuple", data := .seq its n }) (hz : its.size ≤ 1000)
    (h : Q (!its.isEmpty) { s with toks := s.toks + 1 + 1 }) : wpAny (model prog w) A (truthy (.ref t)) Q E s :=
  ktl_truthy ((X.keeps F.keep) _ _ e) (by omega) h
theorem star_seqK {T : String} {its : Array Value} {n : Nat} {ws : List Value} {Q : List Value → Shared → Prop} {news : List (Addr × Obj)} (F : Fr h₀ L s.heap m) (N : News h₀ L s.heap news) (X : K.In h₀) (ek : K.lookup t = some { cls := .type T, data := .seq its n }) (hT : T = "list" ∨ T = "tuple") (e : its.toList = ws)
    (hz : its.size ≤ sizeLine) (h : ∀ h', Fr h₀ L h' m → News h₀ L h' news → Q ws { s with heap := h' }) : StarOf (model prog w) A E (.ref t) Q s := by
  have D := (X.keeps F.keep) _ _ ek
  have hT' : s.TypeIs (.ref t) T := ⟨_, D, rfl⟩
  subst e
  have z : wpAny (model prog w) A (collect (.ref t)) Q E s := by
    refine wpAny_collect_seq t hT D rfl rfl (fun h' hk => h h' ?_ fun p hp => ⟨hk _ _ (N p hp).1, (N p hp).2⟩) hz
    obtain ⟨oL, es, ep, hL, r⟩ := F.ns
    exact ⟨⟨oL, es, ep, hk _ _ hL, r⟩, fun b x q => hk _ _ (F.keep b x q), F.above⟩
  unfold StarOf notIterableAtAll
  rcases hT with rfl | rfl
  · exact wpAny_bind (wpAny_specialOf hT' PySem.F.slot_list_iter.lookup (wpAny_pure ⟨rfl, z⟩))
  · exact wpAny_bind (wpAny_specialOf hT' PySem.F.slot_tuple_iter.lookup (wpAny_pure ⟨rfl, z⟩))
end

end
section

theorem News.sub {h₀ h : Heap} {L : Addr} {l l' : List (Addr × Obj)} (N : News h₀ L h l) (hs : ∀ p ∈ l', p ∈ l) : News h₀ L h l' := fun p hp => N p (hs p hp)

structure Iter (prog : Program) (w : World) (src : List (Addr × Obj)) (n : Nat) (P : Nat → Value → Prop) (It : Nat → Obj → Prop) : Prop where
  go : ∀ (target : Expr) (A : Around) (s : Shared) (I : Addr) (o : Obj) (i : Nat) (v : Value) (Q : Unit → Shared → Prop) (E : Value → Shared → Prop), It i o → s.heap.get? I = some o → Q () s → wpAny (model prog w) A (letOwnedTupleGo target (.ref I) v) Q E s
  self : ∀ (A : Around) (s : Shared) (I : Addr) (o : Obj) (i : Nat) (Q : Value → Shared → Prop) (E : Value → Shared → Prop), It i o → s.heap.get? I = some o → Q (.ref I) s → wpAny (model prog w) A (pyIter (.ref I)) Q E s
  item : ∀ (A : Around) (s : Shared) (I : Addr) (o : Obj) (i : Nat) (Q : Option Value → Shared → Prop) (E : Value → Shared → Prop), A.handled = none → i < n → It i o → s.heap.get? I = some o → (∀ p ∈ src, s.heap.get? p.1 = some p.2) →
    (∀ v h' o' tk, P i v → h'.get? I = some o' → It (i + 1) o' → Heap.SameBut I s.heap h' → Q (some v) { s with heap := h', toks := tk }) → wpAny (model prog w) A (pyNext (.ref I)) Q E s
  fin : ∀ (A : Around) (s : Shared) (I : Addr) (o : Obj) (Q : Option Value → Shared → Prop) (E : Value → Shared → Prop), A.handled = none → It n o → s.heap.get? I = some o → (∀ p ∈ src, s.heap.get? p.1 = some p.2) →
    (∀ h' tk, Heap.ExtBut I s.heap h' → Q none { s with heap := h', toks := tk }) → wpAny (model prog w) A (pyNext (.ref I)) Q E s

section
variable {prog : Program} {w : World} {A : Around} {s : Shared} {h₀ : Heap} {m : Str → Option Value} {news : List (Addr × Obj)} {env : Env}
theorem Fr.change' {L I : Addr} {h h' : Heap} (F : Fr h₀ L h m) (hs : Heap.ExtBut I h h') (h1 : I ≠ L) (h2 : h₀.get? I = none) : Fr h₀ L h' m := by
  obtain ⟨oL, a1, a2, hL, a3⟩ := F.ns
  refine ⟨⟨oL, a1, a2, hs _ _ (Ne.symm h1) hL, a3⟩, fun b o e => hs _ _ (fun q => ?_) (F.keep b o e), F.above⟩
  rw [q, h2] at e; cases e

theorem loop_iter {R : Result → Shared → Prop} {target : Expr} {body : List Stmt} {I : Addr} {o : Obj} {src : List (Addr × Obj)} {n : Nat} {P : Nat → Value → Prop} {It : Nat → Obj → Prop} (W : Iter prog w src n P It)
    (hh : A.handled = none) (J : Nat → (Str → Option Value) → List (Addr × Obj) → Prop) (hsrc : ∀ i m₁ rest, J i m₁ rest → ∀ p ∈ src, p ∈ rest)
    (F : Fr h₀ env.locals s.heap m) (N : News h₀ env.locals s.heap ((I, o) :: news)) (hne : ∀ p ∈ news, p.1 ≠ I) (hI : It 0 o) (hj : J 0 m news)
    (turn : ∀ i v o₁ m₁ rest h tk, i < n → P i v → J i m₁ rest → Fr h₀ env.locals h m₁ → News h₀ env.locals h ((I, o₁) :: rest) → (∀ p ∈ rest, p.1 ≠ I) →
      wpAny (model prog w) A (assign target env v) (fun _ s₂ => wpAny (model prog w) A (execs body env) (fun f s₃ => match f with
        | .next | .cont => ∃ h' tk' m₂ rest₂, s₃ = { s with heap := h', toks := tk' } ∧ Fr h₀ env.locals h' m₂ ∧ News h₀ env.locals h' ((I, o₁) :: rest₂) ∧ (∀ p ∈ rest₂, p.1 ≠ I) ∧ J (i + 1) m₂ rest₂
        | .brk => R (.ok .next) s₃
        | .ret v => R (.ok (.ret v)) s₃) (fun _ _ => False) s₂) (fun _ _ => False) { s with heap := h, toks := tk })
    (done : ∀ m₁ rest h tk, J n m₁ rest → Fr h₀ env.locals h m₁ → News h₀ env.locals h rest → R (.ok .next) { s with heap := h, toks := tk })
    :
    codeAny (model prog w) A (.forLoop target (.ref I) body [] env) R s := by
  refine codeAny_forLoop_any (fun k s' => ∃ h tk m₁ rest o₁ i, s' = { s with heap := h, toks := tk } ∧ Fr h₀ env.locals h m₁ ∧ News h₀ env.locals h ((I, o₁) :: rest) ∧ (∀ p ∈ rest, p.1 ≠ I) ∧ It i o₁ ∧ J i m₁ rest ∧ i ≤ n ∧ k = n + 1 - i) ?_ (n + 1)
    ⟨s.heap, s.toks, m, news, o, 0, rfl, F, N, hne, hI, hj, Nat.zero_le _, rfl⟩
  rintro k s' ⟨h, tk, m₁, rest, o₁, i, rfl, F₁, N₁, hne₁, hI₁, hJ, hi, rfl⟩
  have zI := N₁ (I, o₁) (.head _)
  have hs : ∀ p ∈ src, h.get? p.1 = some p.2 := fun p hp => (N₁ p (.tail _ (hsrc i m₁ rest hJ p hp))).1
  by_cases hlt : i < n
  · refine W.item A _ I o₁ i _ _ hh hlt hI₁ zI.1 hs (fun v h' o' tk' hP ho' hI' hb => ?_)
    have F₂ := Fr.change' F₁ hb.extBut zI.2.1 zI.2.2
    have N₂ : News h₀ env.locals h' ((I, o') :: rest) := by
      intro p hp
      rcases List.mem_cons.mp hp with rfl | hp
      · exact ⟨ho', zI.2⟩
      · have z := N₁ p (.tail _ hp)
        exact ⟨(hb.2 p.1 (hne₁ p hp)).trans z.1, z.2⟩
    refine W.go target A _ I o' (i + 1) v _ _ hI' ho' ?_
    refine wpAny_mono (turn i v o' m₁ rest h' tk' hlt hP hJ F₂ N₂ hne₁) (fun _ s₂ h₂ => wpAny_mono h₂ (fun f s₃ h₃ => ?_) fun _ _ e => e.elim) fun _ _ e => e.elim
    cases f with
    | next =>
      obtain ⟨h'', tk'', m₂, rest₂, rfl, F₃, N₃, hne₃, hJ₃⟩ := h₃
      exact ⟨n + 1 - (i + 1), by omega, h'', tk'', m₂, rest₂, o', i + 1, rfl, F₃, N₃, hne₃, hI', hJ₃, hlt, rfl⟩
    | cont =>
      obtain ⟨h'', tk'', m₂, rest₂, rfl, F₃, N₃, hne₃, hJ₃⟩ := h₃
      exact ⟨n + 1 - (i + 1), by omega, h'', tk'', m₂, rest₂, o', i + 1, rfl, F₃, N₃, hne₃, hI', hJ₃, hlt, rfl⟩
    | brk => exact h₃
    | ret v => exact h₃
  · have e : i = n := by omega
    subst e
    refine W.fin A _ I o₁ _ _ hh hI₁ zI.1 hs (fun h' tk' hb => wpAny_execs_nil (done m₁ rest h' tk' hJ (Fr.change' F₁ hb zI.2.1 zI.2.2) fun p hp => ?_))
    have z := N₁ p (.tail _ hp)
    exact ⟨hb p.1 p.2 (hne₁ p hp) z.1, z.2⟩
end
theorem go_plain {prog : Program} {w : World} {target : Expr} {A : Around} {s : Shared} {I : Addr} {o : Obj} {v : Value} {n : String} {Q : Unit → Shared → Prop} {E : Value → Shared → Prop} (ho : s.heap.get? I = some o) (hc : o.cls = .type n)
    (hn : (["enumerate", "zip", "dict_itemiterator", "dict_reverseitemiterator", "odict_iterator", "itertools.zip_longest", "itertools.pairwise"].contains n) = false) (hQ : Q () s) : wpAny (model prog w) A (letOwnedTupleGo target (.ref I) v) Q E s := by
  have key : wpAny (model prog w) A (do
      let (.ref r, .ref a) := ((.ref I : Value), v) | return
      let o ← load r
      match o.cls, o.data with
      | .type n, .fields vs =>
        if ["enumerate", "zip", "dict_itemiterator", "dict_reverseitemiterator", "odict_iterator", "itertools.zip_longest", "itertools.pairwise"].contains n && vs[0]? == some (rawInt a) then
          rule "for.unpacks-the-owned-tuple"
          updateField r 0 .none
      | _, _ => pure ()) Q E s := by
    cases v with
    | ref T =>
      refine wpAny_bind (wpAny_load ho ?_)
      rw [hc]
      split
      · rename_i e1 e2
        cases e1
        rw [hn, Bool.false_and, if_neg Bool.false_ne_true]
        exact wpAny_pure hQ
      · exact wpAny_pure hQ
    | _ => exact wpAny_pure hQ
  unfold letOwnedTupleGo
  cases target with
  | Tuple _ _ _ => exact key
  | List _ _ => exact key
  | _ => exact wpAny_pure hQ
theorem iterList {prog : Program} {w : World} {l : Addr} {lo : Obj} {vs : List Value} {ep : Nat} (hc : lo.cls = .type "list") (hd : lo.data = .seq vs.toArray ep) :
    Iter prog w [(l, lo)] vs.length (fun i v => vs[i]? = some v) (fun i o => o.cls = .type "list_iterator" ∧ o.data = .fields #[.ref l, .int i 0]) where
  go := fun target A s I o i v Q E hI ho hQ => go_plain ho hI.1 rfl hQ
  self := fun A s I o i Q E hI ho hQ => wpAny_pyIter_listiter ⟨o, ho, hI.1, hI.2⟩ hQ
  item := fun A s I o i Q E _ hi hI ho hs k => by
    have hl : s.heap.IsList l vs.toArray := ⟨lo, hs (l, lo) (.head _), hc, ep, hd⟩
    refine wpAny_pyNext_list_item (i := i) ⟨o, ho, hI.1, hI.2⟩ hl (x := vs[i]) (by simp [hi]) (fun h' hit hb => ?_)
    obtain ⟨o', ho', hc', hd'⟩ := hit
    exact k vs[i] h' o' s.toks (by simp [hi]) ho' ⟨hc', hd'⟩ hb
  fin := fun A s I o Q E hh hI ho hs k => by
    have hl : s.heap.IsList l vs.toArray := ⟨lo, hs (l, lo) (.head _), hc, ep, hd⟩
    exact wpAny_pyNext_list_end hh (i := vs.length) ⟨o, ho, hI.1, hI.2⟩ hl (by simp) (fun h' hb => k h' s.toks hb)
theorem iterTuple {prog : Program} {w : World} {l : Addr} {lo : Obj} {vs : List Value} {ep : Nat} (hc : lo.cls = .type "tuple") (hd : lo.data = .seq vs.toArray ep) :
    Iter prog w [(l, lo)] vs.length (fun i v => vs[i]? = some v) (fun i o => o.cls = .type "tuple_iterator" ∧ o.data = .fields #[.ref l, .int i 0]) where
  go := fun target A s I o i v Q E hI ho hQ => go_plain ho hI.1 rfl hQ
  self := fun A s I o i Q E hI ho hQ => wpAny_pyIter_tupleiter ⟨o, ho, hI.1, hI.2⟩ hQ
  item := fun A s I o i Q E _ hi hI ho hs k => by
    have hl : s.heap.IsTuple l vs.toArray := ⟨lo, hs (l, lo) (.head _), hc, ep, hd⟩
    refine wpAny_pyNext_tuple_item (i := i) ⟨o, ho, hI.1, hI.2⟩ hl (x := vs[i]) (by simp [hi]) (fun h' hit hb => ?_)
    obtain ⟨o', ho', hc', hd'⟩ := hit
    exact k vs[i] h' o' s.toks (by simp [hi]) ho' ⟨hc', hd'⟩ hb
  fin := fun A s I o Q E hh hI ho hs k => by
    have hl : s.heap.IsTuple l vs.toArray := ⟨lo, hs (l, lo) (.head _), hc, ep, hd⟩
    exact wpAny_pyNext_tuple_end hh (i := vs.length) ⟨o, ho, hI.1, hI.2⟩ hl (by simp) (fun h' hb => k h' s.toks hb)
theorem iterRange {prog : Program} {w : World} (a c : Int) (n : Nat) :
    Iter prog w [] n (fun i v => ∃ t, v = .int (a + i * c) t) (fun i o => o = { cls := .type "range_iterator", dict := none, data := .fields #[rawInt (a + i * c), rawInt ((n : Int) - i), rawInt c], slots := #[] }) where
  go := fun target A s I o i v Q E hI ho hQ => go_plain (n := "range_iterator") ho (by rw [hI]) rfl hQ
  self := fun A s I o i Q E hI ho hQ => wpAny_pyIter_rangeiter (hI ▸ ho) hQ
  item := fun A s I o i Q E _ hi hI ho hs k => by
    subst hI
    refine wpAny_pyNext_range_item ho (by omega) fun h' hit hb => ?_
    refine k _ h' _ _ ⟨_, rfl⟩ hit ?_ hb
    have e1 : a + ((i + 1 : Nat) : Int) * c = a + (i : Int) * c + c := by push_cast; rw [Int.add_mul, Int.one_mul, Int.add_assoc]
    have e2 : (n : Int) - ((i + 1 : Nat) : Int) = (n : Int) - (i : Int) - 1 := by push_cast; omega
    rw [e1, e2]
  fin := fun A s I o Q E hh hI ho hs k => by
    subst hI
    exact wpAny_pyNext_range_end hh ho (by omega) fun h' hb => k h' s.toks hb
section
variable {prog : Program} {w : World} {A : Around} {s : Shared} {h₀ : Heap} {m : Str → Option Value} {news : List (Addr × Obj)} {env : Env} {E : Value → Shared → Prop}
theorem pyIter_listY {L l : Addr} {lo : Obj} {vs : List Value} {ep : Nat} {Q : Value → Shared → Prop} (F : Fr h₀ L s.heap m) (N : News h₀ L s.heap news) (hm : (l, lo) ∈ news) (hc : lo.cls = .type "list") (hd : lo.data = .seq vs.toArray ep)
    (h : ∀ I o h', Fr h₀ L h' m → News h₀ L h' ((I, o) :: news) → (∀ p ∈ news, p.1 < I) → (o.cls = .type "list_iterator" ∧ o.data = .fields #[.ref l, .int 0 0]) → Q (.ref I) { s with heap := h' }) :
    wpAny (model prog w) A (pyIter (.ref l)) Q E s :=
  wpAny_pyIter_list ⟨lo, N.get hm, hc, ep, hd⟩ (h _ _ _ (F.push _) (N.push F _) (fun p hp => Heap.lt_size (N p hp).1) ⟨rfl, rfl⟩)
theorem pyIter_tupleY {L l : Addr} {lo : Obj} {vs : List Value} {ep : Nat} {Q : Value → Shared → Prop} (F : Fr h₀ L s.heap m) (N : News h₀ L s.heap news) (hm : (l, lo) ∈ news) (hc : lo.cls = .type "tuple") (hd : lo.data = .seq vs.toArray ep)
    (h : ∀ I o h', Fr h₀ L h' m → News h₀ L h' ((I, o) :: news) → (∀ p ∈ news, p.1 < I) → (o.cls = .type "tuple_iterator" ∧ o.data = .fields #[.ref l, .int 0 0]) → Q (.ref I) { s with heap := h' }) :
    wpAny (model prog w) A (pyIter (.ref l)) Q E s :=
  wpAny_pyIter_tuple ⟨lo, N.get hm, hc, ep, hd⟩ (h _ _ _ (F.push _) (N.push F _) (fun p hp => Heap.lt_size (N p hp).1) ⟨rfl, rfl⟩)
theorem pyIter_rangeY {L r : Addr} {a b c : Int} {t u v : Tok} {Q : Value → Shared → Prop} (F : Fr h₀ L s.heap m) (N : News h₀ L s.heap news) (hr : IsRange s.heap r a b c t u v) (hsmall : Builtin.Range.small a b c = true)
    (h : ∀ I o h', Fr h₀ L h' m → News h₀ L h' ((I, o) :: news) → (∀ p ∈ news, p.1 < I) → o = { cls := .type "range_iterator", dict := none, data := .fields #[rawInt a, rawInt (Builtin.Range.rangeSize a b c), rawInt c], slots := #[] } → Q (.ref I) { s with heap := h' }) :
    wpAny (model prog w) A (pyIter (.ref r)) Q E s :=
  wpAny_pyIter_range hr hsmall (h _ _ _ (F.push _) (N.push F _) (fun p hp => Heap.lt_size (N p hp).1) rfl)
end

end
section
abbrev AM (d u : Nat) : Around := { handled := none, depth := d, frames := none, guards := none, units := u }
structure Fits (A : Around) (d u : Nat) : Prop where
  handled : A.handled = none
  depth : A.depth ≤ d
  units : A.units ≤ u
theorem in_lift {Γ : PySem.Ctx} {A : Around} {d u : Nat} (h : Fits A d u) (g : Γ.In A) : Γ.In (AM d u) :=
  ⟨g.1.trans h.handled, Nat.le_trans g.2.1 h.depth, (fun _ e => nomatch e), (fun _ e => nomatch e), Nat.le_trans g.2.2.2.2 h.units⟩
theorem wpAny_lift {α : Type} {M : Model} {A : Around} {d u : Nat} {t : Sem α} {Q : α → Shared → Prop} {E : Value → Shared → Prop} {s : Shared} (f : Fits A d u) (h : wpAny M (AM d u) t Q E s) : wpAny M A t Q E s :=
  fun Γ p g => h Γ p (in_lift f g)
theorem woken_lift {Γ : PySem.Ctx} {A : Around} {d u : Nat} (h : Fits A d u) (g : Γ.Woken A) : Γ.Woken (AM d u) :=
  ⟨⟨g.1.1.trans h.handled, Nat.le_trans g.1.2.1 h.depth, (fun _ e => nomatch e), (fun _ e => nomatch e), Nat.le_trans g.1.2.2.2.2 h.units⟩, g.2⟩
theorem Fits.mono {A : Around} {d u d' u' : Nat} (h : Fits A d u) (h1 : d ≤ d') (h2 : u ≤ u') : Fits A d' u' := ⟨h.handled, Nat.le_trans h.depth h1, Nat.le_trans h.units h2⟩

def KindIn (news : List (Addr × Obj)) (a : Addr) (vals : List Value) : Prop :=
  ∃ d t hs tk, (a, instObj 66 d) ∈ news ∧ (d, dictOf [⟨hs, .str "names" tk, .ref t⟩] 1) ∈ news ∧ (t, tupO vals) ∈ news
theorem KindIn.mono {news news' : List (Addr × Obj)} {a : Addr} {vals : List Value} (h : KindIn news a vals) (hs : ∀ p ∈ news, p ∈ news') : KindIn news' a vals := by
  obtain ⟨d, t, hs', tk, h1, h2, h3⟩ := h
  exact ⟨d, t, hs', tk, hs _ h1, hs _ h2, hs _ h3⟩
theorem Fr.congr {h₀ h : Heap} {L : Addr} {m m' : Str → Option Value} (F : Fr h₀ L h m) (e : m = m') : Fr h₀ L h m' := e ▸ F
theorem sub_app (tl news : List (Addr × Obj)) : ∀ p ∈ news, p ∈ tl ++ news := fun _ h => List.mem_append_right _ h
def Above (tl news : List (Addr × Obj)) : Prop := ∀ p ∈ tl, ∀ q ∈ news, q.1 < p.1
theorem Above.nil {news : List (Addr × Obj)} : Above [] news := fun _ h => nomatch h
theorem Above.cons {a : Addr} {o : Obj} {tl news : List (Addr × Obj)} (h : ∀ q ∈ news, q.1 < a) (r : Above tl news) : Above ((a, o) :: tl) news := fun p hp => by
  rcases List.mem_cons.mp hp with rfl | hp
  · exact h
  · exact r p hp
theorem Above.app {a b news : List (Addr × Obj)} (h : Above a (b ++ news)) (r : Above b news) : Above (a ++ b) news := fun p hp q hq => by
  rcases List.mem_append.mp hp with hp | hp
  · exact h p hp q (List.mem_append_right _ hq)
  · exact r p hp q hq
theorem Above.sub {a news news' : List (Addr × Obj)} (h : Above a news) (hs : ∀ p ∈ news', p ∈ news) : Above a news' := fun p hp q hq => h p hp q (hs q hq)
theorem Above.ne {a news : List (Addr × Obj)} {q : Addr × Obj} (h : Above a news) (hq : q ∈ news) : ∀ p ∈ a, p.1 ≠ q.1 := fun p hp => Nat.ne_of_gt (h p hp q hq)
theorem lt_trans' {d x : Addr} {news : List (Addr × Obj)} (h2 : d < x) (h1 : ∀ q ∈ news, q.1 < d) : ∀ q ∈ news, q.1 < x := fun q hq => Nat.lt_trans (h1 q hq) h2
def Nxt (h₀ : Heap) (L : Addr) (s : Shared) (I : Addr) (o₁ : Obj) (tl news : List (Addr × Obj)) (J : (Str → Option Value) → List (Addr × Obj) → Prop) (s₃ : Shared) : Prop :=
  ∃ h' tk' m₂ tl', s₃ = { s with heap := h', toks := tk' } ∧ Fr h₀ L h' m₂ ∧ News h₀ L h' (tl' ++ (I, o₁) :: (tl ++ news)) ∧ Above tl' ((I, o₁) :: (tl ++ news)) ∧ J m₂ (tl' ++ tl)
theorem Nxt.intro {h₀ : Heap} {L : Addr} {s : Shared} {I : Addr} {o₁ : Obj} {tl news : List (Addr × Obj)} {J : (Str → Option Value) → List (Addr × Obj) → Prop} {h' : Heap} {tk' : Nat} {m₂ : Str → Option Value} (tl' : List (Addr × Obj))
    (F : Fr h₀ L h' m₂) (N : News h₀ L h' (tl' ++ (I, o₁) :: (tl ++ news))) (hn : Above tl' ((I, o₁) :: (tl ++ news))) (hJ : J m₂ (tl' ++ tl)) : Nxt h₀ L s I o₁ tl news J { s with heap := h', toks := tk' } :=
  ⟨h', tk', m₂, tl', rfl, F, N, hn, hJ⟩
section
variable {prog : Program} {w : World} {A : Around} {s : Shared} {h₀ : Heap} {m : Str → Option Value} {news : List (Addr × Obj)} {env : Env} {E : Value → Shared → Prop}
theorem loop_iterM {R : Result → Shared → Prop} {target : Expr} {body : List Stmt} {I : Addr} {o : Obj} {src : List (Addr × Obj)} {n : Nat} {P : Nat → Value → Prop} {It : Nat → Obj → Prop} (W : Iter prog w src n P It)
    (hh : A.handled = none) (hsrc : ∀ p ∈ src, p ∈ news) (F : Fr h₀ env.locals s.heap m) (N : News h₀ env.locals s.heap ((I, o) :: news)) (hlt : ∀ p ∈ news, p.1 < I) (hI : It 0 o)
    (J : Nat → (Str → Option Value) → List (Addr × Obj) → Prop) (hj : J 0 m [])
    (turn : ∀ i v o₁ m₁ tl h tk, i < n → P i v → J i m₁ tl → Fr h₀ env.locals h m₁ → News h₀ env.locals h ((I, o₁) :: (tl ++ news)) → Above tl ((I, o) :: news) →
      wpAny (model prog w) A (assign target env v) (fun _ s₂ => wpAny (model prog w) A (execs body env) (fun f s₃ => match f with
        | .next | .cont => Nxt h₀ env.locals s I o₁ tl news (J (i + 1)) s₃
        | .brk => R (.ok .next) s₃
        | .ret v => R (.ok (.ret v)) s₃) (fun _ _ => False) s₂) (fun _ _ => False) { s with heap := h, toks := tk })
    (done : ∀ m₁ tl h tk, J n m₁ tl → Fr h₀ env.locals h m₁ → News h₀ env.locals h (tl ++ news) → Above tl news → R (.ok .next) { s with heap := h, toks := tk }) :
    codeAny (model prog w) A (.forLoop target (.ref I) body [] env) R s := by
  refine loop_iter W hh (fun i m₁ rest => ∃ tl, rest = tl ++ news ∧ Above tl ((I, o) :: news) ∧ J i m₁ tl) (fun i m₁ rest h p hp => by obtain ⟨tl, rfl, _⟩ := h; exact List.mem_append_right _ (hsrc p hp)) F N (fun p hp => Nat.ne_of_lt (hlt p hp)) hI
    ⟨[], rfl, Above.nil, hj⟩ ?_ ?_
  · rintro i v o₁ m₁ rest h tk hi hv ⟨tl, rfl, ha, hJ⟩ F₁ N₁ hne
    have key : ∀ s₃, Nxt h₀ env.locals s I o₁ tl news (J (i + 1)) s₃ → ∃ h' tk' m₂ rest₂, s₃ = { s with heap := h', toks := tk' } ∧ Fr h₀ env.locals h' m₂ ∧ News h₀ env.locals h' ((I, o₁) :: rest₂) ∧ (∀ p ∈ rest₂, p.1 ≠ I) ∧ ∃ tl, rest₂ = tl ++ news ∧ Above tl ((I, o) :: news) ∧ J (i + 1) m₂ tl := by
      rintro s₃ ⟨h', tk', m₂, tl', e, F₂, N₂, hn, hJ₂⟩
      refine ⟨h', tk', m₂, (tl' ++ tl) ++ news, e, F₂, News.sub N₂ (fun p hp => ?_), fun p hp => ?_, _, rfl, fun p hp q hq => ?_, hJ₂⟩
      · rcases List.mem_cons.mp hp with rfl | hp
        · exact List.mem_append_right _ (.head _)
        · rw [List.append_assoc] at hp
          rcases List.mem_append.mp hp with hp | hp
          · exact List.mem_append_left _ hp
          · exact List.mem_append_right _ (.tail _ hp)
      · rw [List.append_assoc] at hp
        rcases List.mem_append.mp hp with hp | hp
        · exact Nat.ne_of_gt (hn p hp _ (.head _))
        · exact hne p hp
      · rcases List.mem_append.mp hp with hp | hp
        · rcases List.mem_cons.mp hq with rfl | hq
          · exact hn p hp (I, o₁) (.head _)
          · exact hn p hp q (.tail _ (List.mem_append_right _ hq))
        · exact ha p hp q hq
    refine wpAny_mono (turn i v o₁ m₁ tl h tk hi hv hJ F₁ N₁ ha) (fun _ s₂ h₂ => wpAny_mono h₂ (fun f s₃ h₃ => ?_) fun _ _ e => e) fun _ _ e => e
    cases f with
    | next => exact key _ h₃
    | cont => exact key _ h₃
    | brk => exact h₃
    | ret v => exact h₃
  · rintro m₁ rest h tk ⟨tl, rfl, ha, hJ⟩ F₁ N₁
    exact done m₁ tl h tk hJ F₁ N₁ (Above.sub ha fun p hp => .tail _ hp)
theorem loop_listM {R : Result → Shared → Prop} {target : Expr} {body : List Stmt} {l : Addr} {lo : Obj} {vs : List Value} {ep : Nat} (F : Fr h₀ env.locals s.heap m) (N : News h₀ env.locals s.heap news) (hm : (l, lo) ∈ news) (hc : lo.cls = .type "list") (hd : lo.data = .seq vs.toArray ep)
    (hh : A.handled = none) (J : Nat → (Str → Option Value) → List (Addr × Obj) → Prop) (hj : J 0 m [])
    (turn : ∀ I i v o₁ m₁ tl h tk, vs[i]? = some v → J i m₁ tl → Fr h₀ env.locals h m₁ → News h₀ env.locals h ((I, o₁) :: (tl ++ news)) → (∀ p ∈ news, p.1 < I) → (∀ q ∈ tl, I < q.1) →
      wpAny (model prog w) A (assign target env v) (fun _ s₂ => wpAny (model prog w) A (execs body env) (fun f s₃ => match f with
        | .next | .cont => Nxt h₀ env.locals s I o₁ tl news (J (i + 1)) s₃
        | .brk => R (.ok .next) s₃
        | .ret v => R (.ok (.ret v)) s₃) (fun _ _ => False) s₂) (fun _ _ => False) { s with heap := h, toks := tk })
    (done : ∀ m₁ tl h tk, J vs.length m₁ tl → Fr h₀ env.locals h m₁ → News h₀ env.locals h (tl ++ news) → Above tl news → R (.ok .next) { s with heap := h, toks := tk }) :
    wpAny (model prog w) A (pyIter (.ref l)) (fun it s₂ => codeAny (model prog w) A (.forLoop target it body [] env) R s₂) E s :=
  pyIter_listY F N hm hc hd (fun I o h' F' N' hlt hI => loop_iterM (s := { s with heap := h' }) (iterList (l := l) hc hd) hh (fun p hp => by rcases List.mem_singleton.mp hp with rfl; exact hm) F' N' hlt hI J hj
    (fun i v o₁ m₁ tl h tk _ hP hJ F₁ N₁ ha => turn I i v o₁ m₁ tl h tk hP hJ F₁ N₁ hlt (fun q hq => ha q hq _ (.head _))) done)
theorem loop_tupleM {R : Result → Shared → Prop} {target : Expr} {body : List Stmt} {l : Addr} {lo : Obj} {vs : List Value} {ep : Nat} (F : Fr h₀ env.locals s.heap m) (N : News h₀ env.locals s.heap news) (hm : (l, lo) ∈ news) (hc : lo.cls = .type "tuple") (hd : lo.data = .seq vs.toArray ep)
    (hh : A.handled = none) (J : Nat → (Str → Option Value) → List (Addr × Obj) → Prop) (hj : J 0 m [])
    (turn : ∀ I i v o₁ m₁ tl h tk, vs[i]? = some v → J i m₁ tl → Fr h₀ env.locals h m₁ → News h₀ env.locals h ((I, o₁) :: (tl ++ news)) → (∀ p ∈ news, p.1 < I) → (∀ q ∈ tl, I < q.1) →
      wpAny (model prog w) A (assign target env v) (fun _ s₂ => wpAny (model prog w) A (execs body env) (fun f s₃ => match f with
        | .next | .cont => Nxt h₀ env.locals s I o₁ tl news (J (i + 1)) s₃
        | .brk => R (.ok .next) s₃
        | .ret v => R (.ok (.ret v)) s₃) (fun _ _ => False) s₂) (fun _ _ => False) { s with heap := h, toks := tk })
    (done : ∀ m₁ tl h tk, J vs.length m₁ tl → Fr h₀ env.locals h m₁ → News h₀ env.locals h (tl ++ news) → Above tl news → R (.ok .next) { s with heap := h, toks := tk }) :
    wpAny (model prog w) A (pyIter (.ref l)) (fun it s₂ => codeAny (model prog w) A (.forLoop target it body [] env) R s₂) E s :=
  pyIter_tupleY F N hm hc hd (fun I o h' F' N' hlt hI => loop_iterM (s := { s with heap := h' }) (iterTuple (l := l) hc hd) hh (fun p hp => by rcases List.mem_singleton.mp hp with rfl; exact hm) F' N' hlt hI J hj
    (fun i v o₁ m₁ tl h tk _ hP hJ F₁ N₁ ha => turn I i v o₁ m₁ tl h tk hP hJ F₁ N₁ hlt (fun q hq => ha q hq _ (.head _))) done)
end
theorem sub_app' (tl news : List (Addr × Obj)) : ∀ p ∈ tl, p ∈ tl ++ news := fun _ h => List.mem_append_left _ h
theorem take_succ_get {α : Type} {l : List α} {i : Nat} {v : α} (h : l[i]? = some v) : l.take (i + 1) = l.take i ++ [v] := by
  rw [List.take_add_one, h]; rfl
theorem below_tail {d : Addr} {x : Addr × Obj} {l : List (Addr × Obj)} (h : ∀ p ∈ x :: l, p.1 < d) : ∀ p ∈ l, p.1 < d := fun p hp => h p (.tail _ hp)
theorem below_app {d : Addr} {a l : List (Addr × Obj)} (h : ∀ p ∈ a ++ l, p.1 < d) : ∀ p ∈ l, p.1 < d := fun p hp => h p (List.mem_append_right _ hp)
theorem below_cons {d a : Addr} {o : Obj} {l : List (Addr × Obj)} (h1 : a < d) (h2 : ∀ p ∈ l, p.1 < d) : ∀ p ∈ (a, o) :: l, p.1 < d := fun p hp => by
  rcases List.mem_cons.mp hp with rfl | hp
  · exact h1
  · exact h2 p hp
theorem below_s1 {d : Addr} {l : List (Addr × Obj)} (h : ∀ p ∈ l, p.1 < d) : ∀ p ∈ l, p.1 < d + 1 := fun p hp => Nat.lt_succ_of_lt (h p hp)
theorem below_s2 {d : Addr} {l : List (Addr × Obj)} (h : ∀ p ∈ l, p.1 < d) : ∀ p ∈ l, p.1 < d + 1 + 1 := fun p hp => Nat.lt_succ_of_lt (Nat.lt_succ_of_lt (h p hp))
theorem ltN {a b : Addr} (h : (show Nat from a) < (show Nat from b)) : a < b := h
theorem Above.via {a l l' : List (Addr × Obj)} (h : Above a l) (hs : ∀ q ∈ l', ∃ q' ∈ l, q'.1 = q.1) : Above a l' := fun p hp q hq => by
  obtain ⟨q', h1, h2⟩ := hs q hq
  exact h2 ▸ h p hp q' h1

end
section
section
variable {h₀ h : Heap} {L : Addr} {m : Str → Option Value} {news : List (Addr × Obj)}
theorem ground0 (F : Fr h₀ L h m) (N : News h₀ L h news) : Fr h₀ L (hideAll h (news.map (·.1))) m ∧ h₀.StaysIn (hideAll h (news.map (·.1))) := by
  have nm : ∀ b o, h₀.get? b = some o → b ∉ news.map (·.1) := fun b o e q => by
    obtain ⟨p, hp, rfl⟩ := List.mem_map.mp q
    rw [(N p hp).2.2] at e; cases e
  have st : h₀.StaysIn (hideAll h (news.map (·.1))) := fun b o e => hideAll_get _ (F.keep b o e) (nm b o e)
  obtain ⟨oL, es, ep, hL, hLd, hLk, hLf⟩ := F.ns
  have nL : L ∉ news.map (·.1) := fun q => by
    obtain ⟨p, hp, e⟩ := List.mem_map.mp q
    exact (N p hp).2.1 e
  exact ⟨⟨⟨oL, es, ep, hideAll_get (news.map (·.1)) hL nL, hLd, hLk, hLf⟩, st, F.above⟩, st⟩
theorem unground {g h' : Heap} {news' : List (Addr × Obj)} (FG : Fr h₀ L g m) (hk : ∀ b o, g.get? b = some o → h'.get? b = some o) (N' : ∀ p ∈ news', h'.get? p.1 = some p.2 ∧ g.get? p.1 = none) : Fr h₀ L h' m ∧ News h₀ L h' news' := by
  obtain ⟨oL, es, ep, hL, hLd, hLk, hLf⟩ := FG.ns
  refine ⟨⟨⟨oL, es, ep, hk _ _ hL, hLd, hLk, hLf⟩, fun b o e => hk b o (FG.keep b o e), FG.above⟩, fun p hp => ⟨(N' p hp).1, fun q => ?_, ?_⟩⟩
  · have := (N' p hp).2; rw [q, hL] at this; cases this
  · cases q : h₀.get? p.1 with
    | none => rfl
    | some o => have := (N' p hp).2; rw [FG.keep _ _ q] at this; cases this
end
section
variable {prog : Program} {w : World} {A : Around} {E : Value → Shared → Prop} {s : Shared} {env : Env}
theorem codeAny_compLoop_any {R : Result → Shared → Prop} {elt target iter : Expr} {ifs : List Expr} {scope : Scope} {pos : Pos} {it acc : Value} {env : Env} (I : Nat → Shared → Prop)
    (turn : ∀ n s, I n s → wpAny (model prog w) A (pyNext it) (fun r s₁ => match r with
      | none => R (.ok .next) s₁
      | some v => wpAny (model prog w) A (letOwnedTupleGo target it v) (fun _ s₁' => wpAny (model prog w) A (assign target env v) (fun _ s₂ =>
          wpAny (model prog w) A (forIn ifs true fun c r => if r = true then do let ok ← isTrue c env (eval c env); pure (ForInStep.yield ok) else pure (ForInStep.yield r)) (fun ok s₃ =>
            if ok = true then wpAny (model prog w) A (eval elt env) (fun x s₄ =>
              wpAny (model prog w) A (call (.builtin "list.append") [acc, x]) (fun _ s₅ => ∃ m, m < n ∧ I m s₅) (notedBy (model prog w) A env fun e s' => R (.error e) s') s₄) (notedBy (model prog w) A env fun e s' => R (.error e) s') s₃
            else ∃ m, m < n ∧ I m s₃) (notedBy (model prog w) A env fun e s' => R (.error e) s') s₂) (notedBy (model prog w) A env fun e s' => R (.error e) s') s₁') (notedBy (model prog w) A env fun e s' => R (.error e) s') s₁) (notedBy (model prog w) A env fun e s' => R (.error e) s') s)
    (n : Nat) (h : I n s) :
    codeAny (model prog w) A (.compLoop (.ListComp elt [⟨target, iter, ifs, 0⟩] scope pos) 0 it acc env) R s := by
  refine codeAny_loop rfl I (fun n s hI => ?_) n h
  show wpAny _ A ((compTurn (.ListComp elt [⟨target, iter, ifs, 0⟩] scope pos) 0 it acc env).onRaise (fun x => do noteFrame x env; theTreesLotGoes x)) _ _ s
  refine wpAny_noted ?_
  rw [compTurn_list]
  refine wpAny_bind (wpAny_standAt (wpAny_bind (wpAny_mono (turn n s hI) (fun r s₁ h₁ => ?_) fun _ _ h' => h')))
  cases r with
  | none => exact wpAny_pure h₁
  | some v =>
    refine wpAny_bind (wpAny_mono h₁ (fun _ s₁' h₁' => ?_) fun _ _ h' => h')
    refine wpAny_bind (wpAny_mono h₁' (fun _ s₂ h₂ => wpAny_bind (wpAny_mono h₂ (fun ok s₃ h₃ => ?_) fun _ _ h' => h')) fun _ _ h' => h')
    cases ok with
    | false => exact wpAny_pure ⟨rfl, h₃⟩
    | true =>
      exact wpAny_bind (wpAny_bind (wpAny_mono h₃ (fun x s₄ h₄ => wpAny_bind (wpAny_mono h₄ (fun _ s₅ h₅ => wpAny_pure (wpAny_pure ⟨rfl, h₅⟩)) fun _ _ h' => h')) fun _ _ h' => h'))

def NxtC (g : Heap) (C : Addr) (s : Shared) (I : Addr) (o₁ : Obj) (D : Addr) (lo : Obj) (tl news : List (Addr × Obj)) (J : List (Addr × Obj) → Prop) (s₃ : Shared) : Prop :=
  ∃ h' tk' m₂ tl', s₃ = { s with heap := h', toks := tk' } ∧ Fr g C h' m₂ ∧ News g C h' (tl' ++ (I, o₁) :: (D, lo) :: (tl ++ news)) ∧ Above tl' ((I, o₁) :: (D, lo) :: (tl ++ news)) ∧ J (tl' ++ tl)
theorem NxtC.intro {g : Heap} {C : Addr} {s : Shared} {I : Addr} {o₁ : Obj} {D : Addr} {lo : Obj} {tl news : List (Addr × Obj)} {J : List (Addr × Obj) → Prop} {h' : Heap} {tk' : Nat} {m₂ : Str → Option Value} (tl' : List (Addr × Obj))
    (F : Fr g C h' m₂) (N : News g C h' (tl' ++ (I, o₁) :: (D, lo) :: (tl ++ news))) (hn : Above tl' ((I, o₁) :: (D, lo) :: (tl ++ news))) (hJ : J (tl' ++ tl)) : NxtC g C s I o₁ D lo tl news J { s with heap := h', toks := tk' } :=
  ⟨h', tk', m₂, tl', rfl, F, N, hn, hJ⟩
structure CompRun (prog : Program) (w : World) (A : Around) (env : Env) (elt target : Expr) (ifs : List Expr) (scope : Scope) (cl : List (Str × Addr)) (Q : Value → Shared → Prop) (I : Addr) (s : Shared) where
  h₀ : Heap
  L : Addr
  m : Str → Option Value
  o : Obj
  src : List (Addr × Obj)
  n : Nat
  P : Nat → Value → Prop
  It : Nat → Obj → Prop
  news : List (Addr × Obj)
  J : Nat → List Value → List (Addr × Obj) → Prop
  W : Iter prog w src n P It
  hsrc : ∀ p ∈ src, p ∈ news
  F : Fr h₀ L s.heap m
  N : News h₀ L s.heap ((I, o) :: news)
  lt : ∀ p ∈ news, p.1 < I
  hI : It 0 o
  hj : J 0 [] []
  hn : n ≤ 1000
  turn : ∀ g C D i v o₁ lo ys tl h tk m₁, i < n → P i v → J i ys tl → h₀.StaysIn g → Fr g C h m₁ → News g C h ((I, o₁) :: (D, lo) :: (tl ++ news)) →
    wpAny (model prog w) A (assign target (compEnvC scope cl C env) v) (fun _ s₂ =>
      wpAny (model prog w) A (forIn ifs true fun c r => if r = true then do let ok ← isTrue c (compEnvC scope cl C env) (eval c (compEnvC scope cl C env)); pure (ForInStep.yield ok) else pure (ForInStep.yield r)) (fun ok s₃ =>
        if ok = true then wpAny (model prog w) A (eval elt (compEnvC scope cl C env)) (fun y s₄ => NxtC g C s I o₁ D lo tl news (J (i + 1) (ys ++ [y])) s₄) (fun _ _ => False) s₃
        else NxtC g C s I o₁ D lo tl news (J (i + 1) ys) s₃) (fun _ _ => False) s₂) (fun _ _ => False) { s with heap := h, toks := tk }
  done : ∀ D e ys tl h tk, J n ys tl → Fr h₀ L h m → News h₀ L h ((D, ({ cls := .type "list", data := .seq ys.toArray e } : Obj)) :: (tl ++ news)) → Above tl news → (∀ p ∈ news, p.1 < D) → (∀ p ∈ tl, D < p.1) → Q (.ref D) { s with heap := h, toks := tk }
theorem News.apart {h₀ h : Heap} {L : Addr} {news : List (Addr × Obj)} (N : News h₀ L h news) {p : Addr × Obj} (hp : p ∈ news) : h.get? p.1 = some p.2 := (N p hp).1

theorem compRun {elt target iter : Expr} {ifs : List Expr} {scope : Scope} {pos : Pos} {cl : List (Str × Addr)} {Q : Value → Shared → Prop} {I : Addr}
    (hh : A.handled = none) (hcell : ∀ y ∈ scope.names, y.2 ≠ .cell) (hkind : scope.kind = .function) (Z : CompRun prog w A env elt target ifs scope cl Q I s) :
    wpAny (model prog w) A (newList []) (fun acc s₃ => wpAny (model prog w) A (newFunctionEnv scope env.globals cl [] env.qual none .none (some env)) (fun cenv s₄ =>
      codeAny (model prog w) A (.compStart (.ListComp elt [⟨target, iter, ifs, 0⟩] scope pos) 0 (.ref I) acc { cenv with scope := relabel scope env }) (compPost (model prog w) A E none Q acc cenv.locals) s₄) E s₃) E s := by
  obtain ⟨h₀, L, m, o, src, n, P, It, news, J, W, hsrc, F, N, lt, hI, hj, hn, turn, done⟩ := Z
  refine newList_N F N (fun h₂ F₂ N₂ => ?_) (Nat.zero_le _)
  generalize hD : s.heap.objs.size = D at N₂ ⊢
  have ltD : ∀ p ∈ (I, o) :: news, p.1 < D := fun p hp => hD ▸ Heap.lt_size (N p hp).1
  obtain ⟨FG, st⟩ := ground0 F₂ N₂
  generalize hg : hideAll h₂ (((D, ({ cls := .type "list", data := .seq ([] : List Value).toArray } : Obj)) :: (I, o) :: news).map (·.1)) = g at FG st
  refine wpAny_newFunctionEnv hcell (by intro y hy; simp at hy) (fun h₁ hns hsb => ?_) hkind
  dsimp only at hns hsb ⊢
  generalize hC : h₂.objs.size = C at hns hsb ⊢
  have up : ∀ b o, h₂.get? b = some o → h₁.get? b = some o := fun b o e => hsb.extBut b o (Nat.ne_of_lt (hC ▸ Heap.lt_size e)) (Heap.get?_push_of_some _ e)
  have F₁ : Fr g C h₁ (fun x => ([] : List (Str × Value)).reverse.lookup x) := ⟨hns, fun b o e => up b o (of_hideAll _ (hg ▸ e)), by rw [← hg, ← hC]; exact Nat.le_of_eq (hideAll_size _ _)⟩
  have N₁ : News g C h₁ ((I, o) :: (D, ({ cls := .type "list", data := .seq ([] : List Value).toArray } : Obj)) :: ([] ++ news)) := by
    intro p hp
    have hp' : p ∈ (D, ({ cls := .type "list", data := .seq ([] : List Value).toArray } : Obj)) :: (I, o) :: news := by
      simp only [List.nil_append, List.mem_cons] at hp ⊢
      rcases hp with e | e | e
      · exact .inr (.inl e)
      · exact .inl e
      · exact .inr (.inr e)
    exact ⟨up _ _ (N₂ p hp').1, Nat.ne_of_lt (hC ▸ Heap.lt_size (N₂ p hp').1), by rw [← hg]; exact hideAll_none _ (List.mem_map_of_mem hp')⟩
  have neDI : D ≠ I := Nat.ne_of_gt (ltD _ (.head _))
  have loop : ∀ s₃ : Shared, s₃ = { s with heap := h₁, toks := s.toks + ([] : List (Str × Value)).length } →
      codeAny (model prog w) A (.compLoop (.ListComp elt [⟨target, iter, ifs, 0⟩] scope pos) 0 (.ref I) (.ref D) (compEnvC scope cl C env)) (compPost (model prog w) A E none Q (.ref D) C) s₃ := by
    rintro s₃ rfl
    refine codeAny_compLoop_any (fun k s' => ∃ h tk m₁ tl ys o₁ e i, s' = { s with heap := h, toks := tk } ∧ Fr g C h m₁ ∧ News g C h ((I, o₁) :: (D, ({ cls := .type "list", data := .seq (List.toArray ys) e } : Obj)) :: (tl ++ news)) ∧ Above tl ((D, o) :: (I, o) :: news) ∧ It i o₁ ∧ J i ys tl ∧ ys.length ≤ i ∧ i ≤ n ∧ k = n + 1 - i) ?_ (n + 1)
      ⟨h₁, _, _, [], [], o, 0, 0, rfl, F₁, N₁, Above.nil, hI, hj, Nat.le_refl _, Nat.zero_le _, rfl⟩
    rintro k s' ⟨h, tk, m₁, tl, ys, o₁, e, i, rfl, F₃, N₃, ha, hI₁, hJ, hy, hi, rfl⟩
    have zI := N₃ (I, o₁) (.head _)
    have zD := N₃ (D, _) (.tail _ (.head _))
    have hs : ∀ p ∈ src, h.get? p.1 = some p.2 := fun p hp => (N₃ p (.tail _ (.tail _ (List.mem_append_right _ (hsrc p hp))))).1
    have neI : ∀ p ∈ tl ++ news, p.1 ≠ I ∧ p.1 ≠ D := fun p hp => by
      rcases List.mem_append.mp hp with hp | hp
      · exact ⟨Nat.ne_of_gt (ha p hp (I, o) (.tail _ (.head _))), Nat.ne_of_gt (ha p hp (D, o) (.head _))⟩
      · exact ⟨Nat.ne_of_lt (lt p hp), Nat.ne_of_lt (ltD p (.tail _ hp))⟩
    by_cases hlt : i < n
    · refine W.item A _ I o₁ i _ _ hh hlt hI₁ zI.1 hs (fun v h' o' tk' hP ho' hI' hb => ?_)
      have F₄ := Fr.change' F₃ hb.extBut zI.2.1 zI.2.2
      have N₄ : News g C h' ((I, o') :: (D, ({ cls := .type "list", data := .seq (List.toArray ys) e } : Obj)) :: (tl ++ news)) := by
        intro p hp
        rcases List.mem_cons.mp hp with rfl | hp
        · exact ⟨ho', zI.2⟩
        · have ne : p.1 ≠ I := by
            rcases List.mem_cons.mp hp with rfl | hp
            · exact neDI
            · exact (neI p hp).1
          have z := N₃ p (.tail _ hp)
          exact ⟨(hb.2 p.1 ne).trans z.1, z.2⟩
      refine W.go target A _ I o' (i + 1) v _ _ hI' ho' ?_
      have stop : ∀ (J' : List (Addr × Obj) → Prop) s₃, NxtC g C s I o' D { cls := .type "list", data := .seq (List.toArray ys) e } tl news J' s₃ → ∃ h tk m₁ tl₂, s₃ = { s with heap := h, toks := tk } ∧ Fr g C h m₁ ∧ News g C h ((I, o') :: (D, ({ cls := .type "list", data := .seq (List.toArray ys) e } : Obj)) :: (tl₂ ++ news)) ∧ Above tl₂ ((D, o) :: (I, o) :: news) ∧ J' tl₂ := by
        rintro J' s₃ ⟨h₅, tk₅, m₅, tl', rfl, F₅, N₅, A₅, J₅⟩
        refine ⟨h₅, tk₅, m₅, tl' ++ tl, rfl, F₅, News.sub N₅ fun p hp => ?_, fun p hp q hq => ?_, J₅⟩
        · simp only [List.mem_append, List.mem_cons] at hp ⊢
          rcases hp with hp | hp | (hp | hp) | hp
          · exact .inr (.inl hp)
          · exact .inr (.inr (.inl hp))
          · exact .inl hp
          · exact .inr (.inr (.inr (.inl hp)))
          · exact .inr (.inr (.inr (.inr hp)))
        · rcases List.mem_append.mp hp with hp | hp
          · rcases List.mem_cons.mp hq with rfl | hq
            · show D < p.1; exact A₅ p hp (D, { cls := .type "list", data := .seq (List.toArray ys) e }) (.tail _ (.head _))
            · rcases List.mem_cons.mp hq with rfl | hq
              · show I < p.1; exact A₅ p hp (I, o') (.head _)
              · exact A₅ p hp q (.tail _ (.tail _ (List.mem_append_right _ hq)))
          · exact ha p hp q hq
      refine wpAny_mono (turn g C D i v o' _ ys tl h' tk' m₁ hlt hP hJ st F₄ N₄) (fun _ s₂ h₂ => wpAny_mono h₂ (fun ok s₃ h₃ => ?_) fun _ _ e => e.elim) fun _ _ e => e.elim
      cases ok with
      | false =>
        rw [if_neg Bool.false_ne_true] at h₃ ⊢
        obtain ⟨h₅, tk₅, m₅, tl₂, rfl, F₅, N₅, A₅, J₅⟩ := stop _ _ h₃
        exact ⟨n + 1 - (i + 1), by omega, h₅, tk₅, m₅, tl₂, ys, o', e, i + 1, rfl, F₅, N₅, A₅, hI', J₅, Nat.le_succ_of_le hy, hlt, rfl⟩
      | true =>
        rw [if_pos rfl] at h₃ ⊢
        refine wpAny_mono h₃ (fun y s₄ h₄ => ?_) fun _ _ e => e.elim
        obtain ⟨h₅, tk₅, m₅, tl₂, rfl, F₅, N₅, A₅, J₅⟩ := stop _ _ h₄
        have zD₅ := N₅ (D, _) (.tail _ (.head _))
        refine append_at (its := ys.toArray) (n := e) zD₅.1 (fun h₆ hb₆ ho₆ => ?_) (by rw [List.size_toArray, sizeLine_eq]; omega)
        have F₆ := Fr.change' F₅ hb₆.extBut zD₅.2.1 zD₅.2.2
        refine ⟨n + 1 - (i + 1), by omega, h₆, tk₅, m₅, tl₂, ys ++ [y], o', e + 1, i + 1, rfl, F₆, ?_, A₅, hI', J₅, by rw [List.length_append]; exact Nat.succ_le_succ hy, hlt, rfl⟩
        intro p hp
        rcases List.mem_cons.mp hp with rfl | hp
        · have z := N₅ (I, o') (.head _)
          exact ⟨(hb₆.2 _ (Ne.symm neDI)).trans z.1, z.2⟩
        · rcases List.mem_cons.mp hp with rfl | hp
          · exact ⟨by rw [ho₆]; simp, zD₅.2⟩
          · have z := N₅ p (.tail _ (.tail _ hp))
            refine ⟨(hb₆.2 _ ?_).trans z.1, z.2⟩
            rcases List.mem_append.mp hp with hp | hp
            · exact Nat.ne_of_gt (A₅ p hp (D, o) (.head _))
            · exact (neI p (List.mem_append_right _ hp)).2
    · have ei : i = n := by omega
      subst ei
      refine W.fin A _ I o₁ _ _ hh hI₁ zI.1 hs (fun h' tk' hb => ?_)
      refine ⟨m₁, (Fr.change' F₃ hb zI.2.1 zI.2.2).ns, fun h'' hs'' => ?_⟩
      have gC : g.get? C = none := by
        cases q : g.get? C with
        | none => rfl
        | some o' => exact absurd (Heap.lt_size q) (Nat.not_lt.mpr F₃.above)
      have keep : ∀ b o, b ≠ I → b ≠ C → h.get? b = some o → h''.get? b = some o := fun b o b1 b2 e => hs''.extBut b o b2 (hb b o b1 e)
      obtain ⟨F₇, N₇⟩ := unground (news' := (D, ({ cls := .type "list", data := .seq (List.toArray ys) e } : Obj)) :: (tl ++ news)) FG (fun b o e => keep b o (fun q => by rw [q, zI.2.2] at e; cases e) (fun q => by rw [q, gC] at e; cases e) (F₃.keep b o e)) (fun p hp => by
        have z := N₃ p (.tail _ hp)
        refine ⟨keep _ _ ?_ z.2.1 z.1, z.2.2⟩
        rcases List.mem_cons.mp hp with rfl | hp
        · exact neDI
        · exact (neI p hp).1)
      exact done D e ys tl h'' tk' hJ F₇ N₇ (fun p hp q hq => ha p hp q (.tail _ (.tail _ hq))) (fun p hp => ltD p (.tail _ hp)) (fun p hp => ha p hp (D, o) (.head _))
  exact codeAny_compStart_list (loop _ rfl) (W.self A _ I o 0 _ _ hI (N₁ (I, o) (.head _)).1 (loop _ rfl))

theorem listComp_M {elt target iter : Expr} {ifs : List Expr} {scope : Scope} {cl : List (Str × Addr)} {pos : Pos} {Q : Value → Shared → Prop}
    (hh : A.handled = none) (hclos : closureFor scope env = pure cl) (hcell : ∀ y ∈ scope.names, y.2 ≠ .cell) (hkind : scope.kind = .function)
    (hnames : ∀ y ∈ scope.names, y.2 = .local → scope.names.lookup y.1 = some .local)
    (h : wpAny (model prog w) A (eval iter env) (fun xv s₁ => wpAny (model prog w) A (pyIter xv) (fun it s₂ => ∃ I, it = .ref I ∧ Nonempty (CompRun prog w A env elt target ifs scope cl Q I s₂)) E s₁) E s)
    (hs : ∀ x, foldedSetIterable iter env x = pure x) :
    wpAny (model prog w) A (eval (.ListComp elt [⟨target, iter, ifs, 0⟩] scope pos) env) Q E s := by
  rw [eval_ListComp]
  refine wpAny_comprehension_free (use := none) rfl hs hclos hkind hnames (wpAny_mono h (fun xv s₁ h₁ => wpAny_mono h₁ (fun it s₂ h₂ => ?_) fun _ _ e => e) fun _ _ e => e)
  obtain ⟨I, rfl, ⟨Z⟩⟩ := h₂
  exact compRun hh hcell hkind Z
end
section
variable {prog : Program} {w : World} {A : Around} {E : Value → Shared → Prop} {s : Shared} {env : Env} {h₀ : Heap} {L : Addr} {m : Str → Option Value} {news : List (Addr × Obj)}
  {elt target c : Expr} {ifs : List Expr} {scope : Scope} {cl : List (Str × Addr)} {Q : Value → Shared → Prop} {l : Addr} {lo : Obj} {vs : List Value} {ep : Nat}
theorem comp_list0 (F : Fr h₀ L s.heap m) (N : News h₀ L s.heap news) (hm : (l, lo) ∈ news) (hc : lo.cls = .type "list") (hd : lo.data = .seq vs.toArray ep) (hn : vs.length ≤ 1000)
    (J : Nat → List Value → List (Addr × Obj) → Prop) (hj : J 0 [] [])
    (turn : ∀ g C I D i v o₁ lo₁ ys tl h tk m₁, vs[i]? = some v → J i ys tl → h₀.StaysIn g → Fr g C h m₁ → News g C h ((I, o₁) :: (D, lo₁) :: (tl ++ news)) →
      wpAny (model prog w) A (assign target (compEnvC scope cl C env) v) (fun _ s₂ => wpAny (model prog w) A (eval elt (compEnvC scope cl C env)) (fun y s₄ => NxtC g C s I o₁ D lo₁ tl news (J (i + 1) (ys ++ [y])) s₄) (fun _ _ => False) s₂) (fun _ _ => False) { s with heap := h, toks := tk })
    (done : ∀ D e ys tl h tk, J vs.length ys tl → Fr h₀ L h m → News h₀ L h ((D, ({ cls := .type "list", data := .seq ys.toArray e } : Obj)) :: (tl ++ news)) → Above tl news → (∀ p ∈ news, p.1 < D) → (∀ p ∈ tl, D < p.1) → Q (.ref D) { s with heap := h, toks := tk }) :
    wpAny (model prog w) A (pyIter (.ref l)) (fun it s₂ => ∃ I, it = .ref I ∧ Nonempty (CompRun prog w A env elt target [] scope cl Q I s₂)) E s :=
  pyIter_listY F N hm hc hd (fun I o h' F' N' hlt hI => ⟨I, rfl, ⟨⟨h₀, L, m, o, [(l, lo)], vs.length, _, _, news, J, iterList hc hd, (fun p hp => by rcases List.mem_singleton.mp hp with rfl; exact hm), F', N', hlt, hI, hj, hn,
    (fun g C D i v o₁ lo₁ ys tl h tk m₁ _ hv hJ st F₁ N₁ => wpAny_mono (turn g C I D i v o₁ lo₁ ys tl h tk m₁ hv hJ st F₁ N₁) (fun _ s₂ h₂ => wpAny_tests_nil (by rw [if_pos rfl]; exact h₂)) fun _ _ e => e), done⟩⟩⟩)
theorem comp_list1 (F : Fr h₀ L s.heap m) (N : News h₀ L s.heap news) (hm : (l, lo) ∈ news) (hc : lo.cls = .type "list") (hd : lo.data = .seq vs.toArray ep) (hn : vs.length ≤ 1000)
    (J : Nat → List Value → List (Addr × Obj) → Prop) (hj : J 0 [] [])
    (turn : ∀ g C I D i v o₁ lo₁ ys tl h tk m₁, vs[i]? = some v → J i ys tl → h₀.StaysIn g → Fr g C h m₁ → News g C h ((I, o₁) :: (D, lo₁) :: (tl ++ news)) →
      wpAny (model prog w) A (assign target (compEnvC scope cl C env) v) (fun _ s₂ => wpAny (model prog w) A (isTrue c (compEnvC scope cl C env) (eval c (compEnvC scope cl C env))) (fun ok s₃ =>
        if ok = true then wpAny (model prog w) A (eval elt (compEnvC scope cl C env)) (fun y s₄ => NxtC g C s I o₁ D lo₁ tl news (J (i + 1) (ys ++ [y])) s₄) (fun _ _ => False) s₃
        else NxtC g C s I o₁ D lo₁ tl news (J (i + 1) ys) s₃) (fun _ _ => False) s₂) (fun _ _ => False) { s with heap := h, toks := tk })
    (done : ∀ D e ys tl h tk, J vs.length ys tl → Fr h₀ L h m → News h₀ L h ((D, ({ cls := .type "list", data := .seq ys.toArray e } : Obj)) :: (tl ++ news)) → Above tl news → (∀ p ∈ news, p.1 < D) → (∀ p ∈ tl, D < p.1) → Q (.ref D) { s with heap := h, toks := tk }) :
    wpAny (model prog w) A (pyIter (.ref l)) (fun it s₂ => ∃ I, it = .ref I ∧ Nonempty (CompRun prog w A env elt target [c] scope cl Q I s₂)) E s :=
  pyIter_listY F N hm hc hd (fun I o h' F' N' hlt hI => ⟨I, rfl, ⟨⟨h₀, L, m, o, [(l, lo)], vs.length, _, _, news, J, iterList hc hd, (fun p hp => by rcases List.mem_singleton.mp hp with rfl; exact hm), F', N', hlt, hI, hj, hn,
    (fun g C D i v o₁ lo₁ ys tl h tk m₁ _ hv hJ st F₁ N₁ => wpAny_mono (turn g C I D i v o₁ lo₁ ys tl h tk m₁ hv hJ st F₁ N₁) (fun _ s₂ h₂ => wpAny_tests_one h₂) fun _ _ e => e), done⟩⟩⟩)
end
section
variable {M : Model} {A : Around} {E : Value → Shared → Prop} {s : Shared} {env : Env} {h₀ : Heap} {L c : Addr} {m : Str → Option Value} {news : List (Addr × Obj)} {x : Str} {v : Value} {pos : Pos} {o : Obj}
theorem nameL {Q : Value → Shared → Prop} (F : Fr h₀ L s.heap m) (hv : m x = some v) (h : Q v s) (hL : env.locals = L) (hk : env.scope.kind = .function) (hl : env.kindOf x = some .local) (hd : (x == ("__debug__" : Str)) = false) :
    wpAny M A (eval (.Name x pos) env) Q E s := wpAny_Name (wpAny_loadName_local hk hl (hL ▸ F.ns) hv h) hd
theorem nameF {Q : Value → Shared → Prop} (N : News h₀ L s.heap news) (hc : env.cells.lookup x = some c) (hm : (c, o) ∈ news) (ho : o.data = .cell (some v)) (h : Q v s) (hk : env.scope.kind = .function) (hl : env.kindOf x = some .free) (hd : (x == ("__debug__" : Str)) = false) (hn : (x == ("__classdict__" : Str)) = false) :
    wpAny M A (eval (.Name x pos) env) Q E s := wpAny_Name (wpAny_loadName_free hk hl hc ⟨o, (N _ hm).1, ho⟩ h hn) hd
theorem nameC {Q : Value → Shared → Prop} (N : News h₀ L s.heap news) (hc : env.cells.lookup x = some c) (hm : (c, o) ∈ news) (ho : o.data = .cell (some v)) (h : Q v s) (hk : env.scope.kind = .function) (hl : env.kindOf x = some .cell) (hd : (x == ("__debug__" : Str)) = false) :
    wpAny M A (eval (.Name x pos) env) Q E s := wpAny_Name (wpAny_loadName_cell hk hl hc ⟨o, (N _ hm).1, ho⟩ h) hd
theorem storeL {Q : Unit → Shared → Prop} (F : Fr h₀ L s.heap m) (N : News h₀ L s.heap news) (hL : env.locals = L) (hl : env.kindOf x = some .local) (hp : (env.scope.kind == .class || (env.scope.kind == .module && env.locals != env.globals)) = false)
    (h : ∀ h', Fr h₀ L h' (fun y => if y = x then some v else m y) → News h₀ L h' news → Q () { s with heap := h', toks := s.toks + 1 }) : wpAny M A (storeName env x v) Q E s :=
  wpAny_storeName_local hl (hL ▸ F.ns) (fun h' hn hs => h h' (F.set (hL ▸ hn) (hL ▸ hs)) (News.set N (hL ▸ hs))) hp
end
theorem strsAre_strValues : ∀ (l : List (Str × Tok)), StrsAre (strValues l) (l.map Prod.fst)
  | [] => .nil
  | (a, t) :: r => .cons a t (strsAre_strValues r)
section
variable {prog : Program} {w : World} {A : Around} {E : Value → Shared → Prop} {s : Shared} {h₀ : Heap} {L D : Addr} {news : List (Addr × Obj)} {x : Str} {t : Tok} {o : Obj} {e : Nat}
theorem joinY {l : List (Str × Tok)} {Q : Value → Shared → Prop} (N : News h₀ L s.heap news) (hm : (D, o) ∈ news) (hc : o.cls = .type "list") (hd : o.data = .seq (strValues l).toArray e) (hsep : x.length ≤ 16) (hw : ((l.map Prod.fst).map (·.length)).sum + (l.map Prod.fst).length ≤ 1048576)
    (h : ∀ t' k, Q (.str (Txt.join x (l.map Prod.fst)) t') { s with toks := k }) : wpAny (model prog w) A (call (.builtin "str.join") [.str x t, .ref D]) Q E s :=
  join_listW ⟨o, (N _ hm).1, hc, e, hd⟩ (by simpa using strsAre_strValues l) hsep hw h
theorem joinT {l : List (Str × Tok)} {Q : Value → Shared → Prop} (N : News h₀ L s.heap news) (hm : (D, o) ∈ news) (hc : o.cls = .type "tuple") (hd : o.data = .seq (strValues l).toArray e) (hsep : x.length ≤ 16) (hw : ((l.map Prod.fst).map (·.length)).sum + (l.map Prod.fst).length ≤ 1048576)
    (h : ∀ t' k, Q (.str (Txt.join x (l.map Prod.fst)) t') { s with toks := k }) : wpAny (model prog w) A (call (.builtin "str.join") [.str x t, .ref D]) Q E s :=
  join_tupleW ⟨o, (N _ hm).1, hc, e, hd⟩ (by simpa using strsAre_strValues l) hsep hw h
end
section
variable {prog : Program} {w : World} {A : Around} {E : Value → Shared → Prop} {s : Shared} {h₀ : Heap} {L a : Addr} {news : List (Addr × Obj)} {value slice : Expr} {lo : Obj} {l : List Value} {n i : Nat} {k : Int} {u : Tok} {x : Value} {Q : Value → Shared → Prop}
theorem itemY (N : News h₀ L s.heap news) (hm : (a, lo) ∈ news) (hc : lo.cls = .type "list") (hd : lo.data = .seq l.toArray n) (hx : l[i]? = some x) (hk : k = (i : Int)) (hz : l.length ≤ 100000) (h : Q x s)
    (hs : subscripted slice false (.ref a) (.int k u) = operate [.ref a, .int k u] (getItem (.ref a) (.int k u)) := by with_unfolding_all rfl) (hg : ∀ r, letTemporaryGo value (.ref a) r = pure () := by intro _; with_unfolding_all rfl) :
    wpAny (model prog w) A (subscriptTail value slice (.ref a) (.int k u)) Q E s := by
  have := (List.getElem?_eq_some_iff.mp hx).1
  exact kim_list N hm hc hd (by omega) (by omega) (by rw [hk]; exact hx) h hs hg
theorem isListN (N : News h₀ L s.heap news) (hm : (a, lo) ∈ news) (hc : lo.cls = .type "list") (hd : lo.data = .seq l.toArray n) : s.heap.IsList a l.toArray := ⟨lo, (N _ hm).1, hc, n, hd⟩
theorem size_le (h : l.length ≤ 1000) : l.toArray.size ≤ sizeLine := by rw [List.size_toArray, sizeLine_eq]; omega
theorem size_le' (h : l.length ≤ 1000) : l.length ≤ 100000 := by omega
theorem size_le0 (h : l.length ≤ 1000) : l.length ≤ sizeLine := by rw [sizeLine_eq]; omega
end
theorem allNeP1 {d : Addr} {l : List (Addr × Obj)} (h : ∀ p ∈ l, p.1 < d) : ∀ p ∈ l, p.1 ≠ d + 1 := fun p hp => Nat.ne_of_lt (Nat.lt_of_lt_of_le (h p hp) (Nat.le_add_right d 1))
theorem allNeP2 {d : Addr} {l : List (Addr × Obj)} (h : ∀ p ∈ l, p.1 < d) : ∀ p ∈ l, p.1 ≠ d + 1 + 1 := fun p hp => Nat.ne_of_lt (Nat.lt_of_lt_of_le (h p hp) (Nat.le_add_right d 2))
theorem allNeP3 {d : Addr} {l : List (Addr × Obj)} (h : ∀ p ∈ l, p.1 < d) : ∀ p ∈ l, p.1 ≠ d + 1 + 1 + 1 := fun p hp => Nat.ne_of_lt (Nat.lt_of_lt_of_le (h p hp) (Nat.le_add_right d 3))
theorem allNeP4 {d : Addr} {l : List (Addr × Obj)} (h : ∀ p ∈ l, p.1 < d) : ∀ p ∈ l, p.1 ≠ d + 1 + 1 + 1 + 1 := fun p hp => Nat.ne_of_lt (Nat.lt_of_lt_of_le (h p hp) (Nat.le_add_right d 4))
theorem allNeP5 {d : Addr} {l : List (Addr × Obj)} (h : ∀ p ∈ l, p.1 < d) : ∀ p ∈ l, p.1 ≠ d + 1 + 1 + 1 + 1 + 1 := fun p hp => Nat.ne_of_lt (Nat.lt_of_lt_of_le (h p hp) (Nat.le_add_right d 5))
theorem allNeP6 {d : Addr} {l : List (Addr × Obj)} (h : ∀ p ∈ l, p.1 < d) : ∀ p ∈ l, p.1 ≠ d + 1 + 1 + 1 + 1 + 1 + 1 := fun p hp => Nat.ne_of_lt (Nat.lt_of_lt_of_le (h p hp) (Nat.le_add_right d 6))
theorem allNeP7 {d : Addr} {l : List (Addr × Obj)} (h : ∀ p ∈ l, p.1 < d) : ∀ p ∈ l, p.1 ≠ d + 1 + 1 + 1 + 1 + 1 + 1 + 1 := fun p hp => Nat.ne_of_lt (Nat.lt_of_lt_of_le (h p hp) (Nat.le_add_right d 7))
theorem allNeP8 {d : Addr} {l : List (Addr × Obj)} (h : ∀ p ∈ l, p.1 < d) : ∀ p ∈ l, p.1 ≠ d + 1 + 1 + 1 + 1 + 1 + 1 + 1 + 1 := fun p hp => Nat.ne_of_lt (Nat.lt_of_lt_of_le (h p hp) (Nat.le_add_right d 8))

end
section
section
variable {prog : Program} {w : World} {A : Around} {E : Value → Shared → Prop} {s : Shared} {K : Frag} {h₀ : Heap} {L : Addr} {m mg mb : Str → Option Value} {news : List (Addr × Obj)} {p : Program} {loose : List Str} {mean : ExcName → Option Value}
  {R : Result → Shared → Prop} {name qual : Str} {params : Arguments} {body : List Stmt} {scope : Scope} {dV kV doc pm cdv ct oc : Value} {an od : Option Addr} {osl : Array (Option Value)} {f : Addr} {args : Args} {binds : List (Str × Value)}
theorem frameY {cl : List (Str × Addr)} (F : Fr h₀ L s.heap m) (N : News h₀ L s.heap news) (hlim : h₀.NoLimit) (hloc : ∀ y ∈ binds, scope.names.lookup y.1 = some .local)
    (h : ∀ g L' h₁, Fr h₀ L g m → Fr g L' h₁ (fun y => binds.reverse.lookup y) → News g L' h₁ news → h₀.StaysIn g → (∀ p ∈ news, p.1 < L') →
      wpAny (model prog w) (A.deeper (envX qual scope L' f cdv cl)) (execs body (envX qual scope L' f cdv cl)) (fun fl s' => LeaveK h₀ L m g R (match fl with | .ret v => v | _ => .none) s') (fun _ _ => False)
        { s with heap := h₁, toks := s.toks + binds.length })
    (hcell : ∀ x ∈ scope.names, x.2 ≠ .cell) (hk : scope.kind = .function) :
    wpAny (model prog w) A.in1 (newFunctionEnv scope mainGlobals cl binds (qual ++ ".<locals>.") (some f) cdv none builtinsNs) (fun env' s₂ => s₂.heap.NoLimit ∧ codeAny (model prog w) A (.func body env') R s₂) E s := by
  obtain ⟨FG, st, lv⟩ := groundY (R := R) F N
  refine wpAny_newFunctionEnv hcell hloc (fun h₁ hns hsb => ⟨(hlim.keeps F.keep).fresh _ hsb, codeAny_func ?_⟩) hk
  have hk₁ : ∀ b o, s.heap.get? b = some o → h₁.get? b = some o := fun b o e => hsb.extBut b o (Nat.ne_of_lt (Heap.lt_size e)) (Heap.get?_push_of_some _ e)
  show wpAny (model prog w) (A.deeper (envX qual scope s.heap.objs.size f cdv cl)) (execs body (envX qual scope s.heap.objs.size f cdv cl)) _ _ _
  exact wpAny_mono (h _ s.heap.objs.size h₁ FG ⟨hns, fun b o e => hk₁ b o (of_hideAll _ e), Nat.le_of_eq (hideAll_size _ _)⟩
    (fun p hp => ⟨hk₁ _ _ (N p hp).1, Nat.ne_of_lt (Heap.lt_size (N p hp).1), hideAll_none _ (List.mem_map_of_mem hp)⟩) st (fun p hp => Heap.lt_size (N p hp).1)) (fun fl s' hl => lv _ _ hl) fun _ _ y => y.elim
theorem frameCY (F : Fr h₀ L s.heap m) (N : News h₀ L s.heap news) (hlim : h₀.NoLimit)
    (hkind : ∀ n, ∀ x ∈ binds, scope.names.lookup x.1 = some .local ∨ (scope.names.lookup x.1 = some .cell ∧ ((cellsFrom n scope.names []).lookup x.1).isSome = true))
    (hnd : ((cellsFrom 0 scope.names []).map (·.1)).Nodup)
    (h : ∀ g L' h₁ tk cells, Fr h₀ L g m → Fr g L' h₁ (bindL (envOfC qual scope L' f cdv).kindOf binds fun _ => none) → News g L' h₁ (cells ++ news) →
      CellsAre (bindC (envOfC qual scope L' f cdv).kindOf binds fun _ => none) (cellsFrom (L' + 1) scope.names []) cells → h₀.StaysIn g → (∀ p ∈ news, p.1 < L') →
      wpAny (model prog w) (A.deeper (envOfC qual scope L' f cdv)) (execs body (envOfC qual scope L' f cdv)) (fun fl s' => LeaveK h₀ L m g R (match fl with | .ret v => v | _ => .none) s') (fun _ _ => False)
        { s with heap := h₁, toks := tk }) (hk : scope.kind = .function) :
    wpAny (model prog w) A.in1 (newFunctionEnv scope mainGlobals [] binds (qual ++ ".<locals>.") (some f) cdv none builtinsNs) (fun env' s₂ => s₂.heap.NoLimit ∧ codeAny (model prog w) A (.func body env') R s₂) E s := by
  obtain ⟨FG, st, lv⟩ := groundY (R := R) F N
  refine wpAny_newFunctionEnv_cells hk (hkind _) fun env' he s' x => ?_
  subst he
  refine ⟨(hlim.keeps F.keep).keeps x.toInCall.keep, codeAny_func ?_⟩
  obtain ⟨h₁, tk, rfl, _⟩ := x.done
  have hk₁ := x.toInCall.keep
  obtain ⟨cells, NC, Y⟩ := Cl.news (h₀ := s.heap) (Nat.le_refl _) fun n c hm => ⟨x.cell n c (lookup_of_mem_nodup (cellsFrom_names scope.names 0 (s.heap.objs.size + 1) [] [] rfl ▸ hnd) hm), x.above n c hm⟩
  refine wpAny_mono (h _ s.heap.objs.size h₁ tk cells FG ⟨x.toInCall.ns, fun b o e => hk₁ b o (of_hideAll _ e), Nat.le_of_eq (hideAll_size _ _)⟩ (fun p hp => ?_) Y st (fun p hp => Heap.lt_size (N p hp).1)) (fun fl s' hl => lv _ _ hl) fun _ _ y => y.elim
  rcases List.mem_append.mp hp with hp | hp
  · refine ⟨(NC p hp).1, (NC p hp).2.1, ?_⟩
    cases q : (hideAll s.heap (news.map (·.1))).get? p.1 with
    | none => rfl
    | some o => have := of_hideAll _ q; rw [(NC p hp).2.2] at this; cases this
  · exact ⟨hk₁ _ _ (N p hp).1, Nat.ne_of_lt (Heap.lt_size (N p hp).1), hideAll_none _ (List.mem_map_of_mem hp)⟩

theorem code_restCY {vs : List Value} {binds : Value → List (Str × Value)} (F : Fr h₀ L s.heap m) (X₀ : K.In h₀) (N : News h₀ L s.heap news) (T : Top p loose mean mg mb h₀)
    (ho : K.lookup f = some ⟨oc, od, .func (fnOf name qual params body scope dV kV doc pm an cdv ct), osl⟩) (hcd : codeIn K cdv qual = true) (hroom : A.depth < recursionLimit)
    (hb : bindArgs (fnOf name qual params body scope dV kV doc pm an cdv ct) args = (newTuple vs >>= fun t => pure (binds t))) (hz : vs.length ≤ sizeLine)
    (hkind : ∀ t, ((binds t).all fun y => scope.names.lookup y.1 == some .local || scope.names.lookup y.1 == some .cell) = true) (hnd : ((cellsFrom 0 scope.names []).map (·.1)).Nodup)
    (h : ∀ D g L' h₁ tk cells, (∀ p ∈ news, p.1 < D) → Fr h₀ L g m → Fr g L' h₁ (bindL (envOfC qual scope L' f cdv).kindOf (binds (.ref D)) fun _ => none) → News g L' h₁ (cells ++ ((D, tupO vs) :: news)) →
      CellsAre (bindC (envOfC qual scope L' f cdv).kindOf (binds (.ref D)) fun _ => none) (cellsFrom (L' + 1) scope.names []) cells → K.In g → Top p loose mean mg mb g → (∀ p ∈ (D, tupO vs) :: news, p.1 < L') →
      wpAny (model prog w) (A.deeper (envOfC qual scope L' f cdv)) (execs body (envOfC qual scope L' f cdv))
        (fun fl s' => LeaveK h₀ L m g R (match fl with | .ret v => v | _ => .none) s') (fun _ _ => False) { s with heap := h₁, toks := tk })
    (hco : scope.isCoroutine = false) (hgen : scope.isGenerator = false) (hk : scope.kind = .function) : codeAny (model prog w) A (.call (.ref f) args) R s := by
  refine codeAny_call_function (fd := fnOf name qual params body scope dV kV doc pm an cdv ct) (body := body) hroom ((X₀.keeps F.keep) _ _ ho) rfl hco hgen rfl (codeRec_of (X₀.keeps F.keep) hcd) ?_
  rw [hb]
  refine wpAny_bind (newTuple_N F N (fun h' F' N' => wpAny_pure ?_) hz)
  have lt : ∀ p ∈ news, p.1 < s.heap.objs.size := fun p hp => Heap.lt_size (N p hp).1
  exact frameCY (s := { s with heap := h' }) F' N' T.nolimit (kindsX (hkind _)) hnd (fun g L' h₁ tk cells FG FL NG Y st l => h _ g L' h₁ tk cells lt FG FL NG Y (X₀.keeps st) (T.keeps st) l) hk
theorem code_moreY {ex front : List (Str × Value)} {nm : Str} {DD : List (PyData × PyData)} {g₁ : Addr → Sem (List (Str × Value))} (F : Fr h₀ L s.heap m) (X₀ : K.In h₀) (N : News h₀ L s.heap news) (T : Top p loose mean mg mb h₀)
    (ho : K.lookup f = some ⟨oc, od, .func (fnOf name qual params body scope dV kV doc pm an cdv ct), osl⟩) (hcd : codeIn K cdv qual = true) (hroom : A.depth < recursionLimit)
    (hx : args.kw.filter (fun x => !ownKw params x.1) = ex) (hnm : params.kwarg.map (·.arg) = some nm) (hn : kwDistinct ex = true) (hD : PyProof.V.FlatPairs PyData.str ex DD)
    (_hfr : peek K ⟨prog, w.params⟩ (bindArgs (fnCut (fnOf name qual params body scope dV kV doc pm an cdv ct)) (argsCut params args)) = some front)
    (hp : peekA K ⟨prog, w.params⟩ (bindArgs (fnOf name qual params body scope dV kV doc pm an cdv ct) args) = some (dictOf [] 0, g₁))
    (hk₁ : ∀ D, g₁ D = (forIn ex PUnit.unit (fun x _ => (nsSet D x.1 x.2 >>= fun _ => pure (ForInStep.yield PUnit.unit))) >>= fun _ => pure (front ++ [(nm, Value.ref D)])))
    (hloc : ∀ D, ∀ y ∈ front ++ [(nm, Value.ref D)], scope.names.lookup y.1 = some .local)
    (h : ∀ D o g L' h₁ tk, (∀ p ∈ news, p.1 < D) → (D == sysModules) = false → o.IsDictOf (strKind prog w) ex → PyProof.V.FlatPairs PyData.str ex DD → Fr h₀ L g m → Fr g L' h₁ (fun y => (front ++ [(nm, Value.ref D)]).reverse.lookup y) → News g L' h₁ ((D, o) :: news) → K.In g → Top p loose mean mg mb g → (∀ p ∈ (D, o) :: news, p.1 < L') →
      wpAny (model prog w) (A.deeper (envOf qual scope L' f cdv)) (execs body (envOf qual scope L' f cdv)) (fun fl s' => LeaveK h₀ L m g R (match fl with | .ret v => v | _ => .none) s') (fun _ _ => False) { s with heap := h₁, toks := tk })
    (hco : scope.isCoroutine = false) (hgen : scope.isGenerator = false) (hk : scope.kind = .function) (hcell : ∀ x ∈ scope.names, x.2 ≠ .cell) : codeAny (model prog w) A (.call (.ref f) args) R s := by
  have _ := hx
  have _ := hnm
  have hn' := kwDistinct_nodup hn
  refine codeAny_call_function (fd := fnOf name qual params body scope dV kV doc pm an cdv ct) (body := body) hroom ((X₀.keeps F.keep) _ _ ho) rfl hco hgen rfl (codeRec_of (X₀.keeps F.keep) hcd) ?_
  refine wp_of_peekA (o := dictOf [] 0) F N (X₀.keeps F.keep) rfl _ g₁ hp fun h' F' N' l => ?_
  rw [hk₁]
  refine wpAny_bind (kp_fill ex { s with heap := h' } [] 0 F' N' (fun p hp => Nat.ne_of_lt (l p hp)) (fun _ he => nomatch he) (fun _ he => nomatch he) hn' fun h'' F'' N'' => wpAny_pure ?_)
  exact frameY (cl := []) (s := { s with heap := h'', toks := s.toks + ex.length }) F'' N'' T.nolimit (hloc _)
    (fun g L' h₁ FG FL NG st lt => h _ _ g L' h₁ _ l (F.notModules (modules_low T.nolimit)) (kp_isDict s.toks (0 + ex.length) hn') hD FG FL NG (X₀.keeps st) (T.keeps st) lt) hcell hk
theorem code_moreCY {ex front : List (Str × Value)} {nm : Str} {DD : List (PyData × PyData)} {g₁ : Addr → Sem (List (Str × Value))} (F : Fr h₀ L s.heap m) (X₀ : K.In h₀) (N : News h₀ L s.heap news) (T : Top p loose mean mg mb h₀)
    (ho : K.lookup f = some ⟨oc, od, .func (fnOf name qual params body scope dV kV doc pm an cdv ct), osl⟩) (hcd : codeIn K cdv qual = true) (hroom : A.depth < recursionLimit)
    (hx : args.kw.filter (fun x => !ownKw params x.1) = ex) (hnm : params.kwarg.map (·.arg) = some nm) (hn : kwDistinct ex = true) (hD : PyProof.V.FlatPairs PyData.str ex DD)
    (_hfr : peek K ⟨prog, w.params⟩ (bindArgs (fnCut (fnOf name qual params body scope dV kV doc pm an cdv ct)) (argsCut params args)) = some front)
    (hp : peekA K ⟨prog, w.params⟩ (bindArgs (fnOf name qual params body scope dV kV doc pm an cdv ct) args) = some (dictOf [] 0, g₁))
    (hk₁ : ∀ D, g₁ D = (forIn ex PUnit.unit (fun x _ => (nsSet D x.1 x.2 >>= fun _ => pure (ForInStep.yield PUnit.unit))) >>= fun _ => pure (front ++ [(nm, Value.ref D)])))
    (hkind : ∀ D, ((front ++ [(nm, Value.ref D)]).all fun y => scope.names.lookup y.1 == some .local || scope.names.lookup y.1 == some .cell) = true) (hnd : ((cellsFrom 0 scope.names []).map (·.1)).Nodup)
    (h : ∀ D o g L' h₁ tk cells, (∀ p ∈ news, p.1 < D) → (D == sysModules) = false → o.IsDictOf (strKind prog w) ex → PyProof.V.FlatPairs PyData.str ex DD → Fr h₀ L g m → Fr g L' h₁ (bindL (envOfC qual scope L' f cdv).kindOf (front ++ [(nm, Value.ref D)]) fun _ => none) → News g L' h₁ (cells ++ ((D, o) :: news)) →
      CellsAre (bindC (envOfC qual scope L' f cdv).kindOf (front ++ [(nm, Value.ref D)]) fun _ => none) (cellsFrom (L' + 1) scope.names []) cells → K.In g → Top p loose mean mg mb g → (∀ p ∈ (D, o) :: news, p.1 < L') →
      wpAny (model prog w) (A.deeper (envOfC qual scope L' f cdv)) (execs body (envOfC qual scope L' f cdv)) (fun fl s' => LeaveK h₀ L m g R (match fl with | .ret v => v | _ => .none) s') (fun _ _ => False) { s with heap := h₁, toks := tk })
    (hco : scope.isCoroutine = false) (hgen : scope.isGenerator = false) (hk : scope.kind = .function) : codeAny (model prog w) A (.call (.ref f) args) R s := by
  have _ := hx
  have _ := hnm
  have hn' := kwDistinct_nodup hn
  refine codeAny_call_function (fd := fnOf name qual params body scope dV kV doc pm an cdv ct) (body := body) hroom ((X₀.keeps F.keep) _ _ ho) rfl hco hgen rfl (codeRec_of (X₀.keeps F.keep) hcd) ?_
  refine wp_of_peekA (o := dictOf [] 0) F N (X₀.keeps F.keep) rfl _ g₁ hp fun h' F' N' l => ?_
  rw [hk₁]
  refine wpAny_bind (kp_fill ex { s with heap := h' } [] 0 F' N' (fun p hp => Nat.ne_of_lt (l p hp)) (fun _ he => nomatch he) (fun _ he => nomatch he) hn' fun h'' F'' N'' => wpAny_pure ?_)
  exact frameCY (s := { s with heap := h'', toks := s.toks + ex.length }) F'' N'' T.nolimit (kindsX (hkind _)) hnd
    (fun g L' h₁ tk cells FG FL NG Y st lt => h _ _ g L' h₁ tk cells l (F.notModules (modules_low T.nolimit)) (kp_isDict s.toks (0 + ex.length) hn') hD FG FL NG Y (X₀.keeps st) (T.keeps st) lt) hk
theorem code_bothY {vs : List Value} {ex front : List (Str × Value)} {nm nr : Str} {DD : List (PyData × PyData)} {g₁ : Addr → Sem (List (Str × Value))} {g₂ : Addr → Addr → Sem (List (Str × Value))} (F : Fr h₀ L s.heap m) (X₀ : K.In h₀) (N : News h₀ L s.heap news) (T : Top p loose mean mg mb h₀)
    (ho : K.lookup f = some ⟨oc, od, .func (fnOf name qual params body scope dV kV doc pm an cdv ct), osl⟩) (hcd : codeIn K cdv qual = true) (hroom : A.depth < recursionLimit)
    (hv : args.pos.drop (params.posonlyargs.length + params.args.length) = vs) (hx : args.kw.filter (fun x => !ownKw params x.1) = ex) (hnr : params.vararg.map (·.arg) = some nr) (hnm : params.kwarg.map (·.arg) = some nm) (hn : kwDistinct ex = true) (hD : PyProof.V.FlatPairs PyData.str ex DD)
    (_hfr : peek K ⟨prog, w.params⟩ (bindArgs (fnCut (fnOf name qual params body scope dV kV doc pm an cdv ct)) (argsCut params args)) = some front)
    (hp : peekA K ⟨prog, w.params⟩ (bindArgs (fnOf name qual params body scope dV kV doc pm an cdv ct) args) = some (({ cls := .type "tuple", data := .seq vs.toArray } : Obj), g₁))
    (hp₂ : ∀ D, peekA K ⟨prog, w.params⟩ (g₁ D) = some (dictOf [] 0, g₂ D))
    (hk₂ : ∀ C D, g₂ C D = (forIn ex PUnit.unit (fun x _ => (nsSet D x.1 x.2 >>= fun _ => pure (ForInStep.yield PUnit.unit))) >>= fun _ => pure (front ++ [(nr, Value.ref C)] ++ [(nm, Value.ref D)])))
    (hloc : ∀ C D, ∀ y ∈ front ++ [(nr, Value.ref C)] ++ [(nm, Value.ref D)], scope.names.lookup y.1 = some .local)
    (h : ∀ C D o g L' h₁ tk, (∀ p ∈ news, p.1 < C) → C < D → (D == sysModules) = false → o.IsDictOf (strKind prog w) ex → PyProof.V.FlatPairs PyData.str ex DD → Fr h₀ L g m → Fr g L' h₁ (fun y => (front ++ [(nr, Value.ref C)] ++ [(nm, Value.ref D)]).reverse.lookup y) →
      News g L' h₁ ((D, o) :: (C, ({ cls := .type "tuple", data := .seq vs.toArray } : Obj)) :: news) → K.In g → Top p loose mean mg mb g → (∀ p ∈ (D, o) :: (C, ({ cls := .type "tuple", data := .seq vs.toArray } : Obj)) :: news, p.1 < L') →
      wpAny (model prog w) (A.deeper (envOf qual scope L' f cdv)) (execs body (envOf qual scope L' f cdv)) (fun fl s' => LeaveK h₀ L m g R (match fl with | .ret v => v | _ => .none) s') (fun _ _ => False) { s with heap := h₁, toks := tk })
    (hco : scope.isCoroutine = false) (hgen : scope.isGenerator = false) (hk : scope.kind = .function) (hcell : ∀ x ∈ scope.names, x.2 ≠ .cell) : codeAny (model prog w) A (.call (.ref f) args) R s := by
  have _ := hv
  have _ := hx
  have _ := hnr
  have _ := hnm
  have hn' := kwDistinct_nodup hn
  refine codeAny_call_function (fd := fnOf name qual params body scope dV kV doc pm an cdv ct) (body := body) hroom ((X₀.keeps F.keep) _ _ ho) rfl hco hgen rfl (codeRec_of (X₀.keeps F.keep) hcd) ?_
  refine wp_of_peekA (o := ({ cls := .type "tuple", data := .seq vs.toArray } : Obj)) F N (X₀.keeps F.keep) rfl _ g₁ hp fun h' F' N' l => ?_
  refine wp_of_peekA (s := { s with heap := h' }) (o := dictOf [] 0) F' N' (X₀.keeps F'.keep) rfl _ (g₂ s.heap.objs.size) (hp₂ _) fun h'' F'' N'' l' => ?_
  rw [hk₂]
  refine wpAny_bind (kp_fill ex { s with heap := h'' } [] 0 F'' N'' (fun p hp => Nat.ne_of_lt (l' p hp)) (fun _ he => nomatch he) (fun _ he => nomatch he) hn' fun h₃ F₃ N₃ => wpAny_pure ?_)
  exact frameY (cl := []) (s := { s with heap := h₃, toks := s.toks + ex.length }) F₃ N₃ T.nolimit (hloc _ _)
    (fun g L' h₁ FG FL NG st lt => h _ _ _ g L' h₁ _ l (l' _ (.head _)) (F'.notModules (modules_low T.nolimit)) (kp_isDict s.toks (0 + ex.length) hn') hD FG FL NG (X₀.keeps st) (T.keeps st) lt) hcell hk
end

end
section
section
variable {M : Model} {A : Around}
theorem of_fits {Γ : PySem.Ctx} {c : Code} {st : List Frame} (h : Γ.Fits st) (hc : Γ.code = c) : PySem.Ctx.of c st = Γ := by
  obtain ⟨a, b, d, e, f⟩ := Γ
  obtain ⟨h1, h2, h3, h4⟩ := h
  simp only at hc h1 h2 h3 h4
  subst hc h1 h2 h3 h4
  rfl
theorem of_ret (c : Code) (k : Result → Sem Fin) (g : Bool) (l : List Value) (cc : Code) (pp : Pos) (kp : List Value) (st : List Frame) :
    PySem.Ctx.of c (.ret k none g l cc pp kp :: st) = (PySem.Ctx.of cc st).enter c none pp := of_fits ((PySem.Ctx.fits_of cc st).enter c k none g l pp kp) rfl
theorem below_ret {c cc : Code} {k : Result → Sem Fin} {g : Bool} {l : List Value} {pp : Pos} {kp : List Value} {st : List Frame} (h : (PySem.Ctx.of cc st).In A) :
    (PySem.Ctx.of c (.ret k none g l cc pp kp :: st)).Below A := by
  rw [of_ret]
  have z := h.enter c none pp (by intro e; cases e)
  exact z
theorem in_ret {c cc : Code} {k : Result → Sem Fin} {g : Bool} {l : List Value} {pp : Pos} {kp : List Value} {st : List Frame} (h : (PySem.Ctx.of cc st).In A) :
    (PySem.Ctx.of c (.ret k none g l cc pp kp :: st)).In (A.under c) := (below_ret (c := c) h).in
theorem woken_gen {c c₁ : Code} {k : GenResult → Sem Fin} {g : Nat} {l : List Value} {p₁ : Pos} {st : List Frame} (h : (PySem.Ctx.of c₁ st).In A) :
    (PySem.Ctx.of c (.gen g k l c₁ p₁ :: st)).Woken A := by
  have e : PySem.Ctx.of c (.gen g k l c₁ p₁ :: st) = (PySem.Ctx.of c₁ st).wake c p₁ := of_fits ((PySem.Ctx.fits_of c₁ st).wake c g k l p₁) rfl
  rw [e]
  exact h.wake c p₁
theorem in_seg {c c₁ : Code} {k : GenResult → Sem Fin} {g : Nat} {l : List Value} {p₁ : Pos} {st fs : List Frame} (h : (PySem.Ctx.of c₁ st).In A) :
    (PySem.Ctx.of c (fs ++ .gen g k l c₁ p₁ :: st)).In (A.over c fs) := by
  rw [PySem.Ctx.of_append]
  exact (woken_gen (c := c) (k := k) (g := g) (l := l) (p₁ := p₁) h).over fs
def codeT (M : Model) (A : Around) (c : Code) (R : Result → Shared → Prop) (s : Shared) : Prop :=
  ∀ (Z : Outcome → Shared → Prop) (p : Pos) (st : List Frame) (k : Result → Sem Fin) (g : Bool) (l : List Value) (cc : Code) (pp : Pos) (kp : List Value), (PySem.Ctx.of cc st).In A →
    (∀ r s', R r s' → To M Z s' ⟨k r, cc, pp, st⟩) → To M Z s ⟨M.den c, c, p, .ret k none g l cc pp kp :: st⟩
variable {c : Code} {R : Result → Shared → Prop} {s : Shared} {E : Value → Shared → Prop}
theorem codeT_of (h : codeAny M A c R s) : codeT M A c R s := fun Z p st k g l cc pp kp hin hR => by
  obtain ⟨r, s', hr, hr'⟩ := h (PySem.Ctx.of c (.ret k none g l cc pp kp :: st)) p rfl (below_ret hin)
  obtain ⟨t', c', p', pre', hc₁, hx⟩ := (runs_reach hr _ (PySem.Ctx.fits_of c _)).comes
  obtain ⟨rfl, rfl⟩ := hx
  exact .comes hc₁ (.go (step_leaf_ret ..) (hR r s' hr'))
theorem codeT_mono {R' : Result → Shared → Prop} (h : codeT M A c R s) (hR : ∀ r s', R r s' → R' r s') : codeT M A c R' s := fun Z p st k g l cc pp kp hin x => h Z p st k g l cc pp kp hin fun r s' y => x r s' (hR r s' y)
theorem codeT_of_tree (h : wpT M (A.under c) (M.den c) (fun fin s' => match fin with | .done f => R (.ok f) s' | .again c' => c'.quiet = true ∧ codeT M A c' R s') (fun e s' => R (.error e) s') s) : codeT M A c R s :=
  fun Z p st k g l cc pp kp hin hR => by
    have z := h Z c p (.ret k none g l cc pp kp :: st) .pure .raise id id (in_ret hin) (fun fin p' s' x => ?_) (fun e p' s' x => ?_)
    · rw [wrap_id] at z; exact z
    · cases fin with
      | done f => exact .go (step_leaf_ret (r := .ok f) ..) (hR _ s' x)
      | again c' => exact .go (step_again _ _ _ _ _ _ x.1) (x.2 Z p' st k g l cc pp kp hin hR)
    · exact .go (step_leaf_ret (r := .error e) ..) (hR _ s' x)
theorem wpT_run {Q : Flow → Shared → Prop} (h : codeT M A c (fun r s' => match r with | .ok f => Q f s' | .error e => E e s') s) : wpT M A (run c) Q E s :=
  fun Z cc p st K H gd lv hin hQ hE => by
    refine .go (step_call ..) (h Z p st _ _ _ cc p [] hin fun r s' x => ?_)
    cases r with
    | ok f => exact hQ f p s' x
    | error e => exact hE e p s' x
theorem wpT_runValue {Q : Value → Shared → Prop} (h : codeT M A c (fun r s' => match r with | .ok (.ret v) => Q v s' | .ok _ => False | .error e => E e s') s) : wpT M A (runValue c) Q E s := by
  refine wpT_bind (wpT_run (codeT_mono h fun r s' x => ?_))
  match r, x with
  | .ok (.ret v), x => exact wpT_pure x
  | .ok .next, x => exact x.elim
  | .ok .cont, x => exact x.elim
  | .ok .brk, x => exact x.elim
  | .error e, x => exact x
theorem wpT_call {f : Value} {pos : List Value} {kw : List (Str × Value)} {Q : Value → Shared → Prop} (h : codeT M A (.call f ⟨pos, kw⟩) (fun r s' => match r with | .ok (.ret v) => Q v s' | .ok _ => False | .error e => E e s') s) :
    wpT M A (call f pos kw) Q E s := wpT_runValue h
theorem in_mono {Γ : PySem.Ctx} {d u d' u' : Nat} (hd : d ≤ d') (hu : u ≤ u') (h : Γ.In (AM d u)) : Γ.In (AM d' u') := ⟨h.1, Nat.le_trans h.2.1 hd, (fun _ e => nomatch e), (fun _ e => nomatch e), Nat.le_trans h.2.2.2.2 hu⟩
theorem wpT_lift {α : Type} {d u : Nat} {t : Sem α} {Q : α → Shared → Prop} (f : Fits A d u) (h : wpT M (AM d u) t Q E s) : wpT M A t Q E s := fun Z c p st K H gd lv hin => h Z c p st K H gd lv (in_lift f hin)
theorem codeT_lift {d u : Nat} (f : Fits A d u) (h : codeT M (AM d u) c R s) : codeT M A c R s := fun Z p st k g l cc pp kp hin => h Z p st k g l cc pp kp (in_lift f hin)
end
def SegT (M : Model) (A : Around) (c : Code) (t : Sem Fin) (fs : List Frame) (s : Shared) (P : End → Shared → Prop) : Prop :=
  ∀ (Z : Outcome → Shared → Prop) (g : Nat) (k : GenResult → Sem Fin) (l : List Value) (c₁ : Code) (p₁ p : Pos) (st : List Frame), (PySem.Ctx.of c₁ st).In A →
    (∀ e s', P e s' → To M Z (s'.setGen g e.genState) ⟨k e.result, c₁, p₁, st⟩) → To M Z s ⟨t, c, p, fs ++ .gen g k l c₁ p₁ :: st⟩
section
variable {M : Model} {A : Around} {c : Code} {t : Sem Fin} {fs : List Frame} {s : Shared} {P : End → Shared → Prop}
theorem SegT.mono {P' : End → Shared → Prop} (h : SegT M A c t fs s P) (hP : ∀ e s', P e s' → P' e s') : SegT M A c t fs s P' := fun Z g k l c₁ p₁ p st hin x => h Z g k l c₁ p₁ p st hin fun e s' y => x e s' (hP e s' y)
theorem SegT.lift {d u : Nat} (f : Fits A d u) (h : SegT M (AM d u) c t fs s P) : SegT M A c t fs s P := fun Z g k l c₁ p₁ p st hin => h Z g k l c₁ p₁ p st (in_lift f hin)
theorem seg_cmd {α : Type} {m : Sem α} {K : α → Sem Fin} {H : Value → Sem Fin} {gd : Bool → Bool} {lv : List Value → List Value}
    (h : wpT M (A.over c fs) m (fun a s' => SegT M A c (K a) fs s' P) (fun e s' => SegT M A c (H e) fs s' P) s) : SegT M A c (m.wrap K H gd lv) fs s P := fun Z g k l c₁ p₁ p st hin hP =>
  h Z c p (fs ++ .gen g k l c₁ p₁ :: st) K H gd lv (in_seg hin) (fun a p' s' x => x Z g k l c₁ p₁ p' st hin hP) (fun e p' s' x => x Z g k l c₁ p₁ p' st hin hP)
theorem seg_bindT {α : Type} {m : Sem α} {K : α → Sem Fin} (h : wpT M (A.over c fs) m (fun a s' => SegT M A c (K a) fs s' P) (fun e s' => SegT M A c (.raise e) fs s' P) s) : SegT M A c (m >>= K) fs s P := by
  rw [Sem.bind_eq_wrap']; exact seg_cmd h
theorem seg_callT {c' : Code} {g : Bool} {l : List Value} {k : Result → Sem Fin} (h : ∀ p, SegT M A c' (M.den c') (.ret k none g l c p [] :: fs) s P) : SegT M A c (.call c' none g l k) fs s P := fun Z g₀ k₀ l₀ c₁ p₁ p st hin hP =>
  .go (step_call ..) (h p Z g₀ k₀ l₀ c₁ p₁ p st hin hP)
theorem seg_retT {k : Result → Sem Fin} {hd : Option Value} {g : Bool} {l : List Value} {c' : Code} {p' : Pos} {kp : List Value} (r : Result) (h : SegT M A c' (k r) fs s P) : SegT M A c (leafOf r) (.ret k hd g l c' p' kp :: fs) s P :=
  fun Z g₀ k₀ l₀ c₁ p₁ p st hin hP => .go (step_leaf_ret ..) (h Z g₀ k₀ l₀ c₁ p₁ p' st hin hP)
theorem seg_againT {c' : Code} (hq : c'.quiet = true) (h : SegT M A c' (M.den c') fs s P) : SegT M A c (.pure (.again c')) fs s P := fun Z g₀ k₀ l₀ c₁ p₁ p st hin hP =>
  .go (step_again _ _ _ _ _ _ hq) (h Z g₀ k₀ l₀ c₁ p₁ p st hin hP)
theorem seg_endT (r : Result) (h : P (.ret r) s) : SegT M A c (leafOf r) [] s P := fun Z g₀ k₀ l₀ c₁ p₁ p st hin hP =>
  .go (step_leaf_gen ..) (hP (.ret r) s h)
theorem split_over {fs st : List Frame} {g : Nat} {k : GenResult → Sem Fin} {l : List Value} {c₁ : Code} {p₁ : Pos} (hfs : splitAtGen fs = none) : splitAtGen (fs ++ .gen g k l c₁ p₁ :: st) = some (fs, (g, k, c₁, p₁), st) := by
  rw [splitAtGen_append_none _ hfs, splitAtGen_gen]; simp
theorem seg_yieldT {v : Value} {l : List Value} {k : Resume → Sem Fin} (hfs : splitAtGen fs = none) (hfg : fs.any Frame.guarded = false) (h : ∀ p, P (.susp v false l k c p fs) s) : SegT M A c (.yield v false l k) fs s P := fun Z g₀ k₀ l₀ c₁ p₁ p st hin hP =>
  .go (step_yield _ _ _ _ _ _ _ _ _ (split_over hfs) (by simp [End.quiet, hfg])) (hP (.susp v false l k c p fs) s (h p))
theorem seg_yield_from {v : Value} {l : List Value} {k : Resume → Sem Fin} {a : Addr} {rest : List Value} {kw : List (Str × Value)} (hfs : splitAtGen fs = none) (hfg : fs.any Frame.guarded = false) (hg : ((s.heap.get? a).bind (·.genNumber?)).isSome = true)
    (h : ∀ p, P (.susp v true l k (.builtin "proto.yield_from" ⟨.ref a :: rest, kw⟩) p fs) s) : SegT M A (.builtin "proto.yield_from" ⟨.ref a :: rest, kw⟩) (.yield v true l k) fs s P := fun Z g₀ k₀ l₀ c₁ p₁ p st hin hP => by
  obtain ⟨o, s', pt, z⟩ := hP (.susp v true l k (.builtin "proto.yield_from" ⟨.ref a :: rest, kw⟩) p fs) s (h p)
  refine ⟨o, s', .step (.inr ⟨⟨v, l, k, a, kw, rest, fs, _, _, rfl, rfl, split_over hfs, hfg, hg⟩, ?_⟩) pt, z⟩
  simp only [PySem.stepK, PySem.step, split_over hfs]
  rfl
variable {α : Type} {Q : α → Shared → Prop} {E : Value → Shared → Prop}
theorem wpT_resume_f {g : Nat} {l : List Value} {k : GenResult → Sem α} {c₀ : Code} (hg : s.gens[g]? = some (.fresh c₀)) (h : SegT M A c₀ (M.den c₀) [] (s.setGen g .running) (fun e s₁ => wpT M A (k e.result) Q E (s₁.setGen g e.genState))) :
    wpT M A (.resume g (.send .none) l k) Q E s := fun Z c p st K H gd lv hin hQ hE =>
  .go (step_resume_fresh _ _ _ _ _ _ _ hg) (h Z g _ _ c p p st hin fun e s' x => x Z c p st K H gd lv hin hQ hE)
theorem wpT_resume_s {g : Nat} {r : Resume} {l : List Value} {k : GenResult → Sem α} {k₀ : Resume → Sem Fin} {l₀ : List Value} {c₀ : Code} {p₀ : Pos} {fs₀ : List Frame} {cl : Bool} (hg : s.gens[g]? = some (.suspended k₀ l₀ c₀ p₀ fs₀ cl))
    (h : SegT M A c₀ (k₀ r) fs₀ (s.setGen g .running) (fun e s₁ => wpT M A (k e.result) Q E (s₁.setGen g e.genState))) : wpT M A (.resume g r l k) Q E s := fun Z c p st K H gd lv hin hQ hE =>
  .go (step_resume_suspended _ _ _ _ _ _ _ _ hg) (h Z g _ _ c p p₀ st hin fun e s' x => x Z c p st K H gd lv hin hQ hE)
end

end
section
structure IsGenS (h : Heap) (a : Addr) (g : Nat) : Prop where
  ex : ∃ o nm qn, h.get? a = some o ∧ o.cls = .type "generator" ∧ o.data = .fields #[.int g 0, nm, qn] ∧ (o.slots = #[] ∨ o.slots = #[some (rawInt 0)])
theorem IsGenS.typeIs {s : Shared} {a : Addr} {g : Nat} (x : IsGenS s.heap a g) : s.TypeIs (.ref a) "generator" := let ⟨o, _, _, ho, hc, _⟩ := x.ex; ⟨o, ho, hc⟩
theorem IsGenS.keeps {h h' : Heap} {a : Addr} {g : Nat} (x : IsGenS h a g) (hk : h'.get? a = h.get? a) : IsGenS h' a g := let ⟨o, nm, qn, ho, r⟩ := x.ex; ⟨o, nm, qn, hk.trans ho, r⟩
section
variable {M : Model} {A : Around} {E : Value → Shared → Prop} {s : Shared} {α : Type}
theorem wpT_holding {vs : List Value} {m : Sem α} {Q : α → Shared → Prop} (h : wpT M A m Q E s) : wpT M A (holding vs m) Q E s := by
  unfold holding
  split
  · exact h
  · exact wpT_keep h
theorem wpT_attempt {m : Sem α} {Q : Except Value α → Shared → Prop} (h : wpT M A m (fun a => Q (.ok a)) (fun e => Q (.error e)) s) : wpT M A m.attempt Q E s := by
  unfold Sem.attempt
  refine wpT_tryCatch ?_
  exact wpT_bind (m := m) (wpT_mono h (fun _ _ x => wpT_pure x) fun _ _ x => wpT_pure x)
theorem wpT_genNumber {a : Addr} {g : Nat} {Q : Nat → Shared → Prop} (hg : IsGenS s.heap a g) (h : Q g s) : wpAny M A (Builtin.Generator.genNumber (.ref a)) Q E s := by
  obtain ⟨o, nm, qn, ho, _, hd, hsl⟩ := hg.ex
  unfold Builtin.Generator.genNumber
  refine wpAny_bind (wpAny_load ho ?_)
  rcases hsl with hsl | hsl
  · rw [hsl, hd]
    show wpAny M A (pure ((g : Int).toNat)) Q E s
    rw [Int.toNat_natCast]; exact wpAny_pure h
  · rw [hsl, hd]
    show wpAny M A (pure ((g : Int).toNat)) Q E s
    rw [Int.toNat_natCast]; exact wpAny_pure h
end
def stopObj (t : Addr) : Obj := { cls := .type "StopIteration", data := .fields #[.ref t, .none, .none, .none, .bool false, .none] }
inductive Wakeable (M : Model) (gs : GenState) (c₀ : Code) (t₀ : Sem Fin) (fs₀ : List Frame) : Prop
  | fresh : gs = .fresh c₀ → t₀ = M.den c₀ → fs₀ = [] → Wakeable M gs c₀ t₀ fs₀
  | susp (k₀ l₀ p₀ cl) : gs = .suspended k₀ l₀ c₀ p₀ fs₀ cl → t₀ = k₀ (.send .none) → Wakeable M gs c₀ t₀ fs₀
section
variable {prog : Program} {w : World} {A : Around} {E : Value → Shared → Prop} {s : Shared}
theorem codeT_call_builtin {R : Result → Shared → Prop} {id : String} {args : Args} {b : Builtin} (hq : plainId id = true) (hb : entryFor table id = some b)
    (h : wpAny (model prog w) A.in1 (checkBuiltinCall id args) (fun _ s₁ => wpT (model prog w) A.in1 (b args)
      (fun fin s' => match fin with | .done f => R (.ok f) s' | .again c' => c'.quiet = true ∧ codeT (model prog w) A c' R s') (fun e s' => R (.error e) s') s₁)
      (fun e s' => R (.error e) s') s) : codeT (model prog w) A (.call (.builtin id) args) R s := by
  refine codeT_of_tree ?_
  show wpT _ A.in1 (do checkBuiltinCall id args; again (.builtin id args)) _ _ s
  refine wpT_then (wpAny_mono h (fun _ s₁ h₁ => wpT_pure (And.intro (plainId_quiet hq args) (codeT_of_tree ?_))) fun _ _ h' => h')
  show wpT _ _ (match entryFor table id with | some b => b args | none => unsupported ((withoutEnding? id "#data").getD id)) _ _ s₁
  rw [hb, Around.under_plainId hq args]; exact h₁
theorem newStop {Q : Value → Shared → Prop}
    (hQ : ∀ ea t h', (∀ b o, s.heap.get? b = some o → h'.get? b = some o) → h'.get? ea = some (stopObj t) → Q (.ref ea) { s with heap := h' }) :
    wpAny (model prog w) A (newExc (.type "StopIteration") []) Q E s := by
  simp only [newExc, newTuple]
  refine wpAny_bind (wpAny_newObj_type ?_ (by size_fits))
  refine wpAny_bind (m := firstArgMember _ _) (wpAny_of_eq (a := Value.none) (by first | rfl | (simp only [firstArgMember]; rfl)) ?_)
  refine wpAny_newObj_type ?_ (by size_fits)
  exact hQ _ s.heap.objs.size _ (fun b o hb => Heap.get?_push_of_some _ (Heap.get?_push_of_some _ hb)) (Heap.get?_push_size _ rfl)
theorem raisePlain {α : Type} {ea : Addr} {Q : α → Shared → Prop} (hh : A.handled = none) (hE : E (.ref ea) s) : wpAny (model prog w) A (raiseNew (.ref ea)) Q E s := by
  simp only [raiseNew]
  refine wpAny_bind (wpAny_handled ?_)
  rw [hh]
  exact wpAny_throw hE
theorem callNextT {a : Addr} {g : Nat} {gs : GenState} {c₀ : Code} {t₀ : Sem Fin} {fs₀ : List Frame} {Q : Option Value → Shared → Prop} (hh : A.handled = none) (hl : s.heap.NoLimit) (hroom : A.depth < recursionLimit)
    (hg : IsGenS s.heap a g) (hgs : s.gens[g]? = some gs) (hw : Wakeable (model prog w) gs c₀ t₀ fs₀)
    (h : SegT (model prog w) A.in1 c₀ t₀ fs₀ (s.setGen g .running) (fun e s₁ => match e with
      | .susp v g₀ l₀ k₀ c₀ p₀ fs₀ => Q (some v) (s₁.setGen g (End.susp v g₀ l₀ k₀ c₀ p₀ fs₀).genState)
      | .ret r => r = .ok (.ret .none) ∧ ∀ ea t h', (∀ b o, s₁.heap.get? b = some o → h'.get? b = some o) → h'.get? ea = some (stopObj t) → E (.ref ea) { s₁.setGen g .finished with heap := h' })) :
    wpT (model prog w) A (callSpecial? (.ref a) "__next__") Q E s := by
  simp only [callSpecial?]
  refine wpT_then (wpAny_specialOf hg.typeIs slot_gen_next.lookup ?_)
  simp only [slot_gen_next.bind]
  refine wpT_holding (wpT_bind (wpT_pure (wpT_bind (wpT_call (codeT_call_builtin slot_gen_next.plain entry_gen_next (slot_gen_next.check _ _ _ _ _ _ _ _ hg.typeIs (args_gen_next _) ?_))))))
  show wpT _ _ (Builtin.Generator.genWake (.ref a) (.send .none)) _ _ s
  unfold Builtin.Generator.genWake
  refine wpT_then (wpAny_holding (wpT_genNumber hg (wpT_then (wpAny_genState hgs ?_))))
  cases hw with
  | fresh e1 e2 e3 =>
    subst e1 e2 e3
    refine wpT_then (wpAny_roomToWake hl hroom ?_)
    refine wpT_resume_f hgs (h.mono fun e s₁ he => ?_)
    cases e with
    | susp v g₀ l₀ k₀ c₀ p₀ fs₀ => exact wpT_pure (wpT_pure he)
    | ret r =>
      obtain ⟨rfl, he⟩ := he
      refine wpT_of ?_
      show wpAny _ _ (newExc (.type "StopIteration") [] >>= _) _ _ _
      exact wpAny_bind (newStop fun ea t h' h1 h2 => wpAny_bind (raisePlain hh (he ea t h' h1 h2)))
  | susp k₀ l₀ p₀ cl e1 e2 =>
    subst e1 e2
    refine wpT_then (wpAny_roomToWake hl hroom ?_)
    refine wpT_resume_s hgs (h.mono fun e s₁ he => ?_)
    cases e with
    | susp v g₀ l₀ k₀ c₀ p₀ fs₀ => exact wpT_pure (wpT_pure he)
    | ret r =>
      obtain ⟨rfl, he⟩ := he
      refine wpT_of ?_
      show wpAny _ _ (newExc (.type "StopIteration") [] >>= _) _ _ _
      exact wpAny_bind (newStop fun ea t h' h1 h2 => wpAny_bind (raisePlain hh (he ea t h' h1 h2)))
end

end
section
theorem entry_yf : entryFor table "proto.yield_from" = some Builtin.«proto.yield_from» := entryFor_of_fast (by kernel_rfl)
theorem gen_close : typeLookup (.type "generator") "close" = pure (some (.builtin "generator.close")) := by rw [typeLookup_type, builtinLookup_eq_fast]; kernel_rfl
def StepT {prog : Program} {w : World} (A : Around) (a : Addr) (s : Shared) (Qv : Value → Shared → Prop) (Qe : Shared → Prop) : Prop :=
  wpT (model prog w) A (callSpecial? (.ref a) "__next__") (fun r s' => ∃ v, r = some v ∧ Qv v s') (fun e s' => ∃ ea t, e = .ref ea ∧ s'.heap.get? ea = some (stopObj t) ∧ Qe s') s
section
variable {prog : Program} {w : World} {A : Around} {E : Value → Shared → Prop} {s : Shared} {a : Addr}
theorem nextT {Q : Option Value → Shared → Prop} (h : StepT (prog := prog) (w := w) A a s (fun v s' => Q (some v) s') (fun s' => Q none s')) : wpT (model prog w) A (pyNext (.ref a)) Q E s := by
  unfold pyNext
  refine wpT_bind (wpT_attempt (wpT_mono h (fun r s' x => ?_) fun e s' x => ?_))
  · obtain ⟨v, rfl, x⟩ := x
    exact wpT_pure x
  · obtain ⟨ea, t, rfl, hx, x⟩ := x
    refine wpT_then (wpAny_isInstance (T := "StopIteration") (b := true) ⟨_, hx, rfl⟩ isSubtype_stop ?_)
    exact wpT_pure x
abbrev yfCode (a : Addr) : Code := .builtin "proto.yield_from" ⟨[.ref a, .bool false, .none], []⟩
def slotsTo (n : Int) (o : Obj) : Obj := { o with slots := #[some (rawInt n)] }
theorem slept {a : Addr} {o : Obj} {vs : Array Value} {more : Bool} {Q : Unit → Shared → Prop} (ho : s.heap.get? a = some o) (hc : o.cls = .type "generator") (hd : o.data = .fields vs) (hs : (o.slots = #[] ∨ o.slots = #[some (rawInt 0)]) ∧ more = true ∨ o.slots = #[some (rawInt 1)] ∧ more = false)
    (h : ∀ h', h'.get? a = some (slotsTo (if more then 1 else 0) o) → Heap.SameBut a s.heap h' → Q () { s with heap := h' }) : wpAny (model prog w) A (Builtin.Generator.sleptOver (.ref a) more) Q E s := by
  unfold Builtin.Generator.sleptOver
  refine wpAny_bind (wpAny_load ho ?_)
  have hc' : (o.cls != .type "generator") = false := by rw [hc]; rfl
  have key : ∀ (f : Obj → Obj), f o = slotsTo (if more then 1 else 0) o → Q () { s with heap := s.heap.update a f } := fun f hf => by
    refine h _ ?_ (Heap.SameBut.update ..)
    rw [← hf]
    refine Heap.get?_update_self f ho ?_
    rw [hf]
    obtain ⟨c, d, dt, sl⟩ := o
    simp only at hd
    subst hd
    rfl
  simp only [hc', Bool.false_eq_true, if_false]
  rcases hs with ⟨hs | hs, rfl⟩ | ⟨hs, rfl⟩
  · rw [hs]
    exact wpAny_updatePart ho (key _ (by simp only [hs]; rfl))
  · rw [hs]
    exact wpAny_updatePart ho (key _ (by simp only [hs]; rfl))
  · rw [hs]
    exact wpAny_updatePart ho (key _ (by simp only [hs]; rfl))
end

end
section
section
variable {prog : Program} {w : World} {A : Around} {E : Value → Shared → Prop} {s : Shared} {a : Addr} {fs : List Frame} {P : End → Shared → Prop}
theorem seg_cmd0 {α : Type} {c : Code} {m : Sem α} {K : α → Sem Fin} {H : Value → Sem Fin} {gd : Bool → Bool} {lv : List Value → List Value}
    (h : wpT (model prog w) (A.over c fs) m (fun a s' => SegT (model prog w) A c (K a) fs s' P) (fun _ _ => False) s) : SegT (model prog w) A c (m.wrap K H gd lv) fs s P :=
  seg_cmd (wpT_mono h (fun _ _ x => x) fun _ _ x => x.elim)
theorem seg_bind0 {α : Type} {c : Code} {m : Sem α} {K : α → Sem Fin}
    (h : wpT (model prog w) (A.over c fs) m (fun a s' => SegT (model prog w) A c (K a) fs s' P) (fun _ _ => False) s) : SegT (model prog w) A c (m >>= K) fs s P :=
  seg_bindT (wpT_mono h (fun _ _ x => x) fun _ _ x => x.elim)
structure GenObj (h : Heap) (a : Addr) (g : Nat) (n : Int) (o : Obj) : Prop where
  get : h.get? a = some o
  cls : o.cls = .type "generator"
  data : ∃ nm qn, o.data = .fields #[.int g 0, nm, qn]
  slots : (n = 0 ∧ o.slots = #[]) ∨ o.slots = #[some (rawInt n)]
theorem GenObj.isGen {h : Heap} {g : Nat} {o : Obj} (x : GenObj h a g 0 o) : IsGenS h a g := by
  obtain ⟨h1, h2, ⟨nm, qn, h3⟩, h4⟩ := x
  refine ⟨o, nm, qn, h1, h2, h3, ?_⟩
  rcases h4 with h4 | h4
  · exact .inl h4.2
  · exact .inr h4
theorem den_builtin {id : String} {args : Args} {b : Builtin} (hb : entryFor table id = some b) : (model prog w).den (.builtin id args) = b args := by
  show (match entryFor table id with | some b => b args | none => unsupported ((withoutEnding? id "#data").getD id)) = _
  rw [hb]
theorem den_yf : (model prog w).den (yfCode a) = Builtin.«proto.yield_from» ⟨[.ref a, .bool false, .none], []⟩ := den_builtin entry_yf
theorem seg_yf {g : Nat} (hfs : splitAtGen fs = none) (hfg : fs.any Frame.guarded = false)
    (h : StepT (prog := prog) (w := w) (A.over (yfCode a) fs) a s
      (fun v s' => ∃ o, GenObj s'.heap a g 0 o ∧ ∀ h', h'.get? a = some (slotsTo 1 o) → Heap.SameBut a s'.heap h' → ∀ p l k,
        (∀ (A' : Around) (s₃ : Shared) (o₃ : Obj) (P' : End → Shared → Prop), GenObj s₃.heap a g 1 o₃ → (∀ h₃, h₃.get? a = some (slotsTo 0 o₃) → Heap.SameBut a s₃.heap h₃ → SegT (model prog w) A' (yfCode a) ((model prog w).den (yfCode a)) fs { s₃ with heap := h₃ } P') →
          SegT (model prog w) A' (yfCode a) (k (.send .none)) fs s₃ P') → P (.susp v true l k (yfCode a) p fs) { s' with heap := h' })
      (fun s' => SegT (model prog w) A (yfCode a) (ret .none) fs s' P)) : SegT (model prog w) A (yfCode a) ((model prog w).den (yfCode a)) fs s P := by
  rw [den_yf]
  unfold Builtin.«proto.yield_from»
  refine seg_bind0 (wpT_pure ?_)
  refine seg_bind0 (wpT_attempt ?_)
  refine wpT_holding ?_
  refine wpT_then (wpAny_rule ?_)
  refine wpT_bind (wpT_mono h (fun r s' x => ?_) fun e s' x => ?_)
  · obtain ⟨v, rfl, o, hg, x⟩ := x
    refine wpT_pure ?_
    obtain ⟨nm, qn, hd⟩ := hg.data
    refine seg_bind0 (m := typeOf (.ref a)) (wpT_of (wpAny_typeOf hg.isGen.typeIs ?_))
    refine seg_bind0 (m := typeLookup (.type "generator") (Str.ofString "close")) (wpT_of (wpAny_of_eq gen_close ?_))
    refine seg_bind0 (wpT_pure ?_)
    refine seg_bind0 (wpT_of (slept hg.get hg.cls hd (.inl ⟨?_, rfl⟩) fun h' h1 h2 => ?_))
    · rcases hg.slots with z | z
      · exact .inl z.2
      · exact .inr z
    refine seg_yield_from (k := _) hfs hfg ?_ fun p => x h' h1 h2 p _ _ fun A' s₃ o₃ P' hg₃ y => ?_
    · rw [h1]
      show (slotsTo 1 o).genNumber?.isSome = true
      simp only [Obj.genNumber?, slotsTo, hg.cls, hd]
      rfl
    · obtain ⟨nm₃, qn₃, hd₃⟩ := hg₃.data
      show SegT _ _ _ (Builtin.Generator.sleptOver (.ref a) false >>= _) _ _ _
      refine seg_bind0 (wpT_of (slept hg₃.get hg₃.cls hd₃ (.inr ⟨?_, rfl⟩) fun h₃ h1 h2 => ?_))
      · rcases hg₃.slots with z | z
        · exact absurd z.1 (by decide)
        · exact z
      · exact seg_againT (Code.quiet_builtin _ (by decide +kernel)) (y h₃ h1 h2)
  · obtain ⟨ea, t, rfl, hx, x⟩ := x
    refine seg_bind0 (m := Builtin.Generator.endsTheTurnAsAValue false (.ref ea)) (wpT_of ?_)
    unfold Builtin.Generator.endsTheTurnAsAValue Builtin.Generator.isStopAndMetaclass
    refine wpAny_bind (wpAny_bind (m := typeOf (.ref ea)) (wpAny_typeOf (T := "StopIteration") ⟨_, hx, rfl⟩ ?_))
    refine wpAny_bind (m := isSubtype (.type "StopIteration") (.type "StopIteration")) (wpAny_of_eq isSubtype_stop ?_)
    refine wpAny_bind (m := typeOf (.type "StopIteration")) (wpAny_of_eq (a := .type "type") rfl ?_)
    refine wpAny_pure (wpAny_pure ?_)
    refine seg_bind0 (wpT_of (wpAny_rule ?_))
    refine seg_bind0 (m := field (.ref ea) 5) (wpT_of (wpAny_field hx rfl (x := .none) rfl ?_))
    exact x
end

end
section
section
variable {prog : Program} {w : World} {A : Around} {E : Value → Shared → Prop} {s : Shared} {c : Code} {fs : List Frame} {P : End → Shared → Prop} {env : Env}
  {K : Flow → Sem Fin} {H : Value → Sem Fin} {gd : Bool → Bool} {lv : List Value → List Value}
theorem seg_nil (h : SegT (model prog w) A c (K .next) fs s P) : SegT (model prog w) A c ((execs [] env).wrap K H gd lv) fs s P := h
theorem seg_cons {st : Stmt} {rest : List Stmt} (h : SegT (model prog w) A c ((exec st env).wrap (fun f => match f with | .next => (execs rest env).wrap K H gd lv | f => K f) H gd lv) fs s P) :
    SegT (model prog w) A c ((execs (st :: rest) env).wrap K H gd lv) fs s P := by rw [execs_cons_wrap]; exact h
theorem seg_any {α : Type} {m : Sem α} {K : α → Sem Fin} {H : Value → Sem Fin} {d u : Nat} (f : Fits (A.over c fs) d u)
    (h : wpAny (model prog w) (AM d u) m (fun a s' => SegT (model prog w) A c (K a) fs s' P) (fun _ _ => False) s) : SegT (model prog w) A c (m.wrap K H gd lv) fs s P :=
  seg_cmd0 (wpT_of (wpAny_lift f h))
theorem seg_atT {p' : Pos} {k : Unit → Sem Fin} (h : SegT (model prog w) A c (k ()) fs s P) : SegT (model prog w) A c (.at p' k) fs s P := fun Z g k₀ l c₁ p₁ p st hin hP => .go (step_at ..) (h Z g k₀ l c₁ p₁ p' st hin hP)
theorem seg_ruleT {t : String} {k : Unit → Sem Fin} (h : SegT (model prog w) A c (k ()) fs s P) : SegT (model prog w) A c (.rule t k) fs s P := fun Z g k₀ l c₁ p₁ p st hin hP => .go (step_rule ..) (h Z g k₀ l c₁ p₁ p st hin hP)
theorem seg_pointT {l : List Value} {k : Unit → Sem Fin} (h : SegT (model prog w) A c (k ()) fs s P) : SegT (model prog w) A c (.point l k) fs s P := fun Z g k₀ l c₁ p₁ p st hin hP => .go (step_point ..) (h Z g k₀ l c₁ p₁ p st hin hP)
theorem seg_If {test : Expr} {body orelse : List Stmt} {pos : Pos} {d u : Nat} (f : Fits (A.over c fs) d u)
    (h : wpAny (model prog w) (AM d u) (isTrue test env (eval test env)) (fun b s' => SegT (model prog w) A c ((if b = true then execs body env else execs orelse env).wrap K H gd lv) fs s' P) (fun _ _ => False) s) :
    SegT (model prog w) A c ((exec (.If test body orelse pos) env).wrap K H gd lv) fs s P := by
  show SegT _ _ _ (.at pos fun _ => (isTrue test env (eval test env) >>= fun b => if b = true then execs body env else execs orelse env).wrap K H gd lv) _ _ _
  refine seg_atT ?_
  rw [Sem.bind_eq_wrap', Sem.wrap_wrap]
  exact seg_any f h
theorem seg_bool {b : Bool} {x y : Sem Flow} (h1 : b = true → SegT (model prog w) A c (x.wrap K H gd lv) fs s P) (h2 : b = false → SegT (model prog w) A c (y.wrap K H gd lv) fs s P) : SegT (model prog w) A c ((if b = true then x else y).wrap K H gd lv) fs s P := by
  cases b with
  | true => exact h1 rfl
  | false => exact h2 rfl
abbrev back (env : Env) (K : Flow → Sem Fin) (H : Value → Sem Fin) (gd : Bool → Bool) (lv : List Value → List Value) : Result → Sem Fin := fun r =>
  ((match r with | .ok f => (.pure f : Sem Flow) | .error e => .raise e).onRaise fun (x : Value) => do
    if (← field x 1) == Value.none then unsupported "frame.own-activation:exception-without-traceback"
    setFlight x env.frame).wrap K H gd lv
theorem back_ok {f : Flow} : back env K H gd lv (.ok f) = K f := rfl
theorem seg_While {test : Expr} {body orelse : List Stmt} {pos : Pos}
    (h : ∀ p, SegT (model prog w) A (.whileLoop test body orelse env) ((model prog w).den (.whileLoop test body orelse env)) (.ret (back env K H gd lv) none (gd false) (lv []) c p [] :: fs) s P) :
    SegT (model prog w) A c ((exec (.While test body orelse pos) env).wrap K H gd lv) fs s P := by
  show SegT _ _ _ (.at pos fun _ => (runOwn (.whileLoop test body orelse env) env).wrap K H gd lv) _ _ _
  refine seg_atT ?_
  exact seg_callT h
theorem seg_For {target iter : Expr} {body orelse : List Stmt} {pos : Pos} {d u : Nat} (f : Fits (A.over c fs) d u)
    (h : wpAny (model prog w) (AM d u) (eval iter env) (fun x s₁ => wpAny (model prog w) (AM d u) (pyIter x) (fun it s₂ => ∀ p,
      SegT (model prog w) A (.forLoop target it body orelse env) ((model prog w).den (.forLoop target it body orelse env)) (.ret (back env K H gd lv) none (gd false) (lv []) c p [] :: fs) s₂ P) (fun _ _ => False) s₁) (fun _ _ => False) s)
    (hs : ∀ x, foldedSetIterable iter env x = pure x := by intro _; rfl) : SegT (model prog w) A c ((exec (.For target iter body orelse pos) env).wrap K H gd lv) fs s P := by
  rw [exec_For]
  show SegT _ _ _ (.at pos fun _ => (eval iter env >>= fun x => foldedSetIterable iter env x >>= fun x => standAt iter.pos >>= fun _ => holding [x] (pyIter x) >>= fun it => runOwn (.forLoop target it body orelse env) env).wrap K H gd lv) _ _ _
  refine seg_atT ?_
  rw [Sem.bind_eq_wrap', Sem.wrap_wrap]
  refine seg_any f (wpAny_mono h (fun x s₁ h₁ => ?_) fun _ _ x => x)
  rw [hs]
  show SegT _ _ _ (.at iter.pos fun _ => (holding [x] (pyIter x) >>= fun it => runOwn (.forLoop target it body orelse env) env).wrap K H gd lv) _ _ _
  refine seg_atT ?_
  rw [Sem.bind_eq_wrap', Sem.wrap_wrap]
  exact seg_any f (wpAny_holding (wpAny_mono h₁ (fun it s₂ h₂ => seg_callT h₂) fun _ _ x => x))
abbrev bad (env : Env) : Value → Sem Fin := fun e => (do noteFrame e env; theTreesLotGoes e : Sem Unit).wrap (fun _ => .raise e) .raise id id
theorem bind_bad (env : Env) (e : Value) : ((do noteFrame e env; theTreesLotGoes e : Sem Unit).bind fun _ => (.raise e : Sem Fin)) = bad env e := Sem.bind_eq_wrap _ _
theorem seg_forTurn {target : Expr} {a : Addr} {body orelse : List Stmt}
    (h : wpT (model prog w) (A.over (.forLoop target (.ref a) body orelse env) fs) (pyNext (.ref a)) (fun r s' => match r with
      | none => SegT (model prog w) A (.block orelse env) ((execs orelse env).wrap (fun f => .pure (.done f)) (bad env) id id) fs s' P
      | some v => wpT (model prog w) (A.over (.forLoop target (.ref a) body orelse env) fs) (letOwnedTupleGo target (.ref a) v) (fun _ s₁ => wpT (model prog w) (A.over (.forLoop target (.ref a) body orelse env) fs) (assign target env v) (fun _ s₂ =>
          SegT (model prog w) A (.forLoop target (.ref a) body orelse env) ((execs body env).wrap (fun f => match f with
            | .next | .cont => .pure (.again (.forLoop target (.ref a) body orelse env))
            | .brk => .pure (.done .next)
            | .ret v => .pure (.done (.ret v))) (bad env) id id) fs s₂ P) (fun _ _ => False) s₁) (fun _ _ => False) s') (fun _ _ => False) s) :
    SegT (model prog w) A (.forLoop target (.ref a) body orelse env) ((model prog w).den (.forLoop target (.ref a) body orelse env)) fs s P := by
  show SegT _ _ _ ((forTurn target (.ref a) body orelse env).onRaise (fun x => do noteFrame x env; theTreesLotGoes x)) _ _ _
  rw [Sem.onRaise_eq_wrap]
  unfold forTurn
  show SegT _ _ _ (.at target.pos fun _ => ((pyNext (.ref a)).onRaise (fun _ => standAt { target.pos with line := 0 }) >>= _).wrap _ _ _ _) _ _ _
  refine seg_atT ?_
  rw [Sem.bind_eq_wrap', Sem.wrap_wrap]
  refine seg_cmd0 (wpT_onRaise (wpT_mono h (fun r s' x => ?_) fun _ _ x => x.elim))
  cases r with
  | none =>
    refine seg_againT rfl ?_
    show SegT _ _ _ ((execs orelse env).onRaise (fun x => do noteFrame x env; theTreesLotGoes x) >>= fun f => pure (.done f)) _ _ _
    rw [Sem.onRaise_eq_wrap, Sem.bind_eq_wrap', Sem.wrap_wrap]
    simp only at x
    refine Eq.mp (congrArg (fun t => SegT (model prog w) A (.block orelse env) t fs s' P) ?_) x
    exact Sem.wrap_congr (execs orelse env) id id (fun f => rfl) (fun e => by rw [Sem.bind_eq_wrap, Sem.wrap_wrap]; rfl)
  | some v =>
    show SegT _ _ _ ((letOwnedTupleGo target (.ref a) v >>= fun _ => assign target env v >>= fun _ => execs body env >>= _).wrap _ _ _ _) _ _ _
    rw [Sem.bind_eq_wrap', Sem.wrap_wrap]
    refine seg_cmd0 (wpT_mono x (fun _ s₁ x => ?_) fun _ _ x => x)
    rw [Sem.bind_eq_wrap', Sem.wrap_wrap]
    refine seg_cmd0 (wpT_mono x (fun _ s₂ x => ?_) fun _ _ x => x)
    rw [Sem.bind_eq_wrap', Sem.wrap_wrap]
    refine Eq.mp (congrArg (fun t => SegT (model prog w) A _ t fs s₂ P) ?_) x
    exact Sem.wrap_congr (execs body env) id id (fun f => by cases f <;> rfl) (fun e => (bind_bad env e).symm)
end

end
section
section
variable {prog : Program} {w : World} {A : Around} {E : Value → Shared → Prop} {s : Shared} {c : Code} {fs : List Frame} {P : End → Shared → Prop} {env : Env}
  {K : Flow → Sem Fin} {H : Value → Sem Fin} {gd : Bool → Bool} {lv : List Value → List Value}
theorem seg_whileTurn {test : Expr} {body orelse : List Stmt} {d u : Nat} (f : Fits (A.over (.whileLoop test body orelse env) fs) d u)
    (h : wpAny (model prog w) (AM d u) (isTrue test env (eval test env)) (fun b s' => b = true ∧
          SegT (model prog w) A (.whileLoop test body orelse env) ((execs body env).wrap (fun f => match f with
            | .next | .cont => .pure (.again (.whileLoop test body orelse env))
            | .brk => .pure (.done .next)
            | .ret v => .pure (.done (.ret v))) (bad env) id id) fs s' P) (fun _ _ => False) s) :
    SegT (model prog w) A (.whileLoop test body orelse env) ((model prog w).den (.whileLoop test body orelse env)) fs s P := by
  show SegT _ _ _ ((whileTurn test body orelse env).onRaise (fun x => do noteFrame x env; theTreesLotGoes x)) _ _ _
  unfold whileTurn
  rw [Sem.onRaise_eq_wrap, Sem.bind_eq_wrap', Sem.wrap_wrap]
  refine seg_any f (wpAny_mono h (fun b s' hb => ?_) fun _ _ x => x)
  obtain ⟨rfl, x⟩ := hb
  show SegT _ _ _ (Sem.wrap _ _ _ _ (if true = true then _ else _)) _ _ _
  rw [if_pos rfl, Sem.bind_eq_wrap', Sem.wrap_wrap]
  refine Eq.mp (congrArg (fun t => SegT (model prog w) A _ t fs s' P) ?_) x
  exact Sem.wrap_congr (execs body env) id id (fun f => by cases f <;> rfl) (fun e => (bind_bad env e).symm)
theorem seg_Yield {e : Expr} {ypos pos : Pos} (hfs : splitAtGen fs = none) (hgd : gd false = false) (hfg : fs.any Frame.guarded = false) {d u : Nat} (f : Fits (A.over c fs) d u)
    (h : wpAny (model prog w) (AM d u) (eval e env) (fun v s' => ∀ p l k, (∀ A' s'' P', SegT (model prog w) A' c (K .next) fs s'' P' → SegT (model prog w) A' c (k (.send .none)) fs s'' P') → P (.susp v false l k c p fs) s') (fun _ _ => False) s)
    (hco : env.scope.isCoroutine = false := by rfl) (hi : interactive env = false := by rfl) :
    SegT (model prog w) A c ((exec (.Expr (.Yield (some e) ypos) pos) env).wrap K H gd lv) fs s P := by
  rw [exec_Expr _ _ _ hi rfl]
  show SegT _ _ _ (.at pos fun _ => ((eval e env >>= fun v => (standAt ypos >>= fun _ => yieldOut env v)) >>= fun x => dropValue (.Yield (some e) ypos) pos x).wrap K H gd lv) _ _ _
  have hy : ∀ v, yieldOut env v = yieldValue v := fun v => by simp only [yieldOut, hco, Bool.false_eq_true, if_false]
  simp only [hy]
  refine seg_atT ?_
  rw [Sem.bind_eq_wrap', Sem.bind_eq_wrap', Sem.wrap_wrap, Sem.wrap_wrap]
  refine seg_any f (wpAny_mono h (fun v s' x => ?_) fun _ _ x => x)
  show SegT _ _ _ (.at ypos fun _ => .yield v (gd false) _ _) _ _ _
  refine seg_atT ?_
  rw [hgd]
  exact seg_yieldT hfs hfg fun p => x p _ _ fun A' s'' P' y => y
theorem seg_YieldFrom {e : Expr} {ypos pos : Pos} {d u : Nat} (f : Fits (A.over c fs) d u)
    (h : wpAny (model prog w) (AM d u) (eval e env) (fun v s' => ∃ a g, v = .ref a ∧ IsGenS s'.heap a g ∧ ∀ p (k : Result → Sem Fin), k (.ok (.ret .none)) = K .next →
      SegT (model prog w) A (yfCode a) ((model prog w).den (yfCode a)) (.ret k none (gd false) (lv []) c p [] :: fs) s' P) (fun _ _ => False) s)
    (hi : interactive env = false := by rfl) :
    SegT (model prog w) A c ((exec (.Expr (.YieldFrom e ypos) pos) env).wrap K H gd lv) fs s P := by
  rw [exec_Expr _ _ _ hi rfl]
  show SegT _ _ _ (.at pos fun _ => ((eval e env >>= fun v => (standAt ypos >>= fun _ => yieldFrom env v)) >>= fun x => dropValue (.YieldFrom e ypos) pos x).wrap K H gd lv) _ _ _
  refine seg_atT ?_
  rw [Sem.bind_eq_wrap', Sem.bind_eq_wrap', Sem.wrap_wrap, Sem.wrap_wrap]
  refine seg_any f (wpAny_mono h (fun v s' x => ?_) fun _ _ x => x)
  obtain ⟨a, g, rfl, hg, x⟩ := x
  show SegT _ _ _ (.at ypos fun _ => (yieldFrom env (.ref a)).wrap _ _ _ _) _ _ _
  refine seg_atT ?_
  unfold yieldFrom
  rw [Sem.bind_eq_wrap', Sem.wrap_wrap]
  refine seg_any f (m := typeOf (.ref a)) (wpAny_typeOf hg.typeIs ?_)
  show SegT _ _ _ (Sem.wrap _ _ _ _ (holding [Value.ref a] (pyIter (.ref a)) >>= fun it => runValue (.builtin "proto.yield_from" ⟨[it, .bool false, .none], []⟩))) _ _ _
  rw [Sem.bind_eq_wrap', Sem.wrap_wrap]
  refine seg_any f (wpAny_holding (wpAny_pyIter_slot hg.typeIs slot_gen_iter (wpAny_call_entry slot_gen_iter hg.typeIs entry_gen_iter ?_ (args_gen_iter _))))
  show wpAny _ _ (ret (.ref a)) _ _ _
  refine wpAny_pure ⟨_, rfl, "generator", _, hg.typeIs, slot_gen_next.lookup, ?_⟩
  refine seg_callT fun p => ?_
  exact x p _ rfl
theorem wpAny_pyIter_genS {a : Addr} {g : Nat} {Q : Value → Shared → Prop} (hg : IsGenS s.heap a g) (h : Q (.ref a) s) : wpAny (model prog w) A (pyIter (.ref a)) Q E s := by
  refine wpAny_pyIter_slot hg.typeIs slot_gen_iter (wpAny_call_entry slot_gen_iter hg.typeIs entry_gen_iter ?_ (args_gen_iter _))
  show wpAny _ _ (ret (.ref a)) _ _ s
  exact wpAny_pure ⟨_, rfl, "generator", _, hg.typeIs, slot_gen_next.lookup, h⟩
abbrev outF : Flow → Sem Fin := fun f => .pure (.done (.ret (match f with | .ret v => v | _ => .none)))
abbrev outE (env : Env) : Value → Sem Fin := fun e => (leaving env e).wrap (fun _ => .raise e) .raise id id
theorem seg_func {body : List Stmt} (h : SegT (model prog w) A (.func body env) ((execs body env).wrap outF (outE env) id id) fs s P) :
    SegT (model prog w) A (.func body env) ((model prog w).den (.func body env)) fs s P := by
  show SegT _ _ _ (.point [] fun _ => ((execs body env).onRaise (leaving env)) >>= _) _ _ _
  refine seg_pointT ?_
  rw [Sem.onRaise_eq_wrap, Sem.bind_eq_wrap', Sem.wrap_wrap]
  refine Eq.mp (congrArg (fun t => SegT (model prog w) A _ t fs s P) ?_) h
  exact Sem.wrap_congr (execs body env) id id (fun f => by cases f <;> rfl) (fun e => by rw [Sem.bind_eq_wrap, Sem.wrap_wrap]; rfl)
end

end
section
def NsOf (o : Obj) (m : Str → Option Value) : Prop := ∃ es ep, o.data = .dict es ep ∧ StrKeys es ∧ ∀ name, nsFind es name = m name
theorem NsOf.ns {o : Obj} {m : Str → Option Value} {h : Heap} {L : Addr} (x : NsOf o m) (hL : h.get? L = some o) : h.Ns L m := let ⟨es, ep, a, b, c⟩ := x; ⟨o, es, ep, hL, a, b, c⟩
theorem NsOf.of {m : Str → Option Value} {h : Heap} {L : Addr} (x : h.Ns L m) : ∃ o, h.get? L = some o ∧ NsOf o m := let ⟨o, es, ep, e, a, b, c⟩ := x; ⟨o, e, es, ep, a, b, c⟩
def genNew (g : Nat) (nm qn : Str) (t1 t2 : Tok) : Obj := { cls := .type "generator", data := .fields #[.int g 0, .str nm t1, .str qn t2] }
theorem genNew_obj {h : Heap} {a : Addr} {g : Nat} {nm qn : Str} {t1 t2 : Tok} (e : h.get? a = some (genNew g nm qn t1 t2)) : GenObj h a g 0 (genNew g nm qn t1 t2) := ⟨e, rfl, ⟨_, _, rfl⟩, .inl ⟨rfl, rfl⟩⟩
section
variable {prog : Program} {w : World} {A : Around} {s : Shared} {h₀ : Heap} {L : Addr} {m : Str → Option Value} {news : List (Addr × Obj)}
  {R : Result → Shared → Prop} {name qual : Str} {params : Arguments} {body : List Stmt} {scope : Scope} {cl : List (Str × Addr)} {dV kV doc pm cdv ct : Value} {an : Option Addr} {fo : Obj} {f : Addr} {args : Args} {binds : List (Str × Value)}
theorem gen_enter (F : Fr h₀ L s.heap m) (N : News h₀ L s.heap news) (hlim : h₀.NoLimit)
    (ho : s.heap.get? f = some fo) (hd : fo.data = .func (fnX name qual params body scope cl dV kV doc pm an cdv ct)) (hcd : s.heap.CodeRec cdv qual) (hroom : A.depth < recursionLimit)
    (hbind : BindsTo s (fnX name qual params body scope cl dV kV doc pm an cdv ct) args binds) (hloc : ∀ y ∈ binds, scope.names.lookup y.1 = some .local)
    (h : ∀ L' I oL t1 t2 h' tk, Fr h₀ L h' m → News h₀ L h' ((I, genNew s.gens.size name qual t1 t2) :: (L', oL) :: news) → (∀ p ∈ news, p.1 < L') → L' < I → NsOf oL (fun y => binds.reverse.lookup y) → h₀.objs.size ≤ L' → L < L' →
      R (.ok (.ret (.ref I))) { s with heap := h', toks := tk, gens := s.gens.push (.fresh (.func body (envX qual scope L' f cdv cl))) })
    (hcell : ∀ x ∈ scope.names, x.2 ≠ .cell) (hco : scope.isCoroutine = false) (hgen : scope.isGenerator = true) (hk : scope.kind = .function) : codeAny (model prog w) A (.call (.ref f) args) R s := by
  refine codeAny_call_generator (fd := fnX name qual params body scope cl dV kV doc pm an cdv ct) (body := body) hroom ho hd hco hgen rfl hcd (hbind _ _ _ _ ?_)
  refine wpAny_newFunctionEnv hcell hloc (fun h₁ hns hsb => ⟨(hlim.keeps F.keep).fresh _ hsb, ?_⟩) hk
  obtain ⟨oL, e1, e2⟩ := NsOf.of hns
  have hk₁ : ∀ b o, s.heap.get? b = some o → h₁.get? b = some o := fun b o e => hsb.extBut b o (Nat.ne_of_lt (Heap.lt_size e)) (Heap.get?_push_of_some _ e)
  have hLl : L < s.heap.objs.size := F.ns.lt
  have hI : s.heap.objs.size < h₁.objs.size := Heap.lt_size e1
  have base : h₀.objs.size ≤ s.heap.objs.size := Nat.le_trans F.above (Nat.le_of_lt hLl)
  refine h s.heap.objs.size h₁.objs.size oL (s.toks + binds.length) (s.toks + binds.length + 1) (h₁.push (genNew s.gens.size name qual (s.toks + binds.length) (s.toks + binds.length + 1))) (s.toks + binds.length + 1 + 1) ⟨(F.ns.keeps hk₁).push _, fun b o e => Heap.get?_push_of_some _ (hk₁ b o (F.keep b o e)), F.above⟩ (fun p hp => ?_) (fun p hp => Heap.lt_size (N p hp).1) hI e2 base hLl
  rcases List.mem_cons.mp hp with rfl | hp
  · exact ⟨Heap.get?_push_size _ rfl, Nat.ne_of_gt (Nat.lt_trans hLl hI), Heap.get?_none_of_le (Nat.le_trans base (Nat.le_of_lt hI))⟩
  · rcases List.mem_cons.mp hp with rfl | hp
    · exact ⟨Heap.get?_push_of_some _ e1, Nat.ne_of_gt hLl, Heap.get?_none_of_le base⟩
    · exact ⟨Heap.get?_push_of_some _ (hk₁ _ _ (N p hp).1), (N p hp).2⟩
end
theorem rest_of (h₀ h : Heap) (ex : List Addr) : ∃ rest : List (Addr × Obj), (∀ p ∈ rest, h.get? p.1 = some p.2 ∧ h₀.get? p.1 = none ∧ p.1 ∉ ex) ∧ ∀ a o, h.get? a = some o → h₀.get? a = none → a ∉ ex → (a, o) ∈ rest := by
  classical
  refine ⟨(List.range h.objs.size).filterMap fun a => if h₀.get? a = none ∧ a ∉ ex then (h.get? a).map fun o => (a, o) else none, fun p hp => ?_, fun a o e1 e2 e3 => ?_⟩
  · obtain ⟨a, _, ha⟩ := List.mem_filterMap.mp hp
    split at ha
    · rename_i hc
      cases hg : h.get? a with
      | none => rw [hg] at ha; cases ha
      | some o => rw [hg] at ha; cases ha; exact ⟨hg, hc⟩
    · cases ha
  · exact List.mem_filterMap.mpr ⟨a, List.mem_range.mpr (Heap.lt_size e1), by rw [if_pos ⟨e2, e3⟩, e1]; rfl⟩
structure Tk where
  idx : Int
  kind : Addr
  text : Str
def tokObj (t : Tk) (k1 k2 : Tok) : Obj := tupO [.int t.idx k1, .ref t.kind, .str t.text k2]
structure Has (h₀ : Heap) (sh fp : List (Addr × Obj)) (gp : List (Nat × GenState)) (s : Shared) : Prop where
  base : ∀ b o, h₀.get? b = some o → s.heap.get? b = some o
  shared : ∀ p ∈ sh, s.heap.get? p.1 = some p.2 ∧ h₀.get? p.1 = none
  own : ∀ p ∈ fp, s.heap.get? p.1 = some p.2 ∧ h₀.get? p.1 = none
  apart : ∀ p ∈ fp, ∀ q ∈ sh, q.1 ≠ p.1
  gens : ∀ p ∈ gp, s.gens[p.1]? = some p.2
structure Moves (h₀ : Heap) (fp fp' : List (Addr × Obj)) (gp gp' : List (Nat × GenState)) (s s' : Shared) : Prop where
  keep : ∀ a o, s.heap.get? a = some o → (∀ p ∈ fp, p.1 ≠ a) → s'.heap.get? a = some o
  gens : ∀ g x, s.gens[g]? = some x → (∀ p ∈ gp, p.1 ≠ g) → s'.gens[g]? = some x
  fresh : ∀ p ∈ fp', (∃ q ∈ fp, q.1 = p.1) ∨ s.heap.get? p.1 = none
  gfresh : ∀ p ∈ gp', (∃ q ∈ gp, q.1 = p.1) ∨ s.gens.size ≤ p.1
  more : s.gens.size ≤ s'.gens.size
  bare : ∀ g x, s'.gens[g]? = some x → (s.gens[g]? = some x ∧ ∀ p ∈ gp, p.1 ≠ g) ∨ x = .finished ∨ ∃ p ∈ gp', p.1 = g
  os : s'.os = s.os
  drawn : s'.drawn = s.drawn
def IsTok (h₀ : Heap) (sh fp fp' : List (Addr × Obj)) (s s' : Shared) (t : Tk) (v : Value) : Prop :=
  ∃ a k1 k2, v = .ref a ∧ s'.heap.get? a = some (tokObj t k1 k2) ∧ h₀.get? a = none ∧ (∀ p ∈ fp', p.1 ≠ a)
def Will (prog : Program) (w : World) (h₀ : Heap) (sh : List (Addr × Obj)) (n : Nat) : List Tk → Nat → List (Addr × Obj) → List (Nat × GenState) → Prop
  | [], g, fp, gp => ∀ (s : Shared) (a : Addr) (Qv : Value → Shared → Prop) (Qe : Shared → Prop), Has h₀ sh fp gp s → IsGenS s.heap a g → (∀ p ∈ fp, p.1 ≠ a) →
      (∀ s', Moves h₀ fp [] gp [] s s' → Qe s') → StepT (prog := prog) (w := w) (AM (400 + n) (400 + 8 * n)) a s Qv Qe
  | t :: ts, g, fp, gp => ∀ (s : Shared) (a : Addr) (Qv : Value → Shared → Prop) (Qe : Shared → Prop), Has h₀ sh fp gp s → IsGenS s.heap a g → (∀ p ∈ fp, p.1 ≠ a) →
      (∀ v s' fp' gp', IsTok h₀ sh fp fp' s s' t v → Moves h₀ fp fp' gp gp' s s' → Has h₀ sh fp' gp' s' → Will prog w h₀ sh n ts g fp' gp' → Qv v s') → StepT (prog := prog) (w := w) (AM (400 + n) (400 + 8 * n)) a s Qv Qe

end
section
def SW (prog : Program) (w : World) (h₀ : Heap) (sh : List (Addr × Obj)) (n : Nat) (gU : Nat) : List Tk → List (Addr × Obj) → List (Nat × GenState) → Code → Sem Fin → List Frame → Prop
  | [], fp, gp, c₀, t₀, fs₀ => ∀ (s : Shared) (P : End → Shared → Prop), Has h₀ sh fp gp s → s.gens[gU]? = some .running → (∀ p ∈ gp, p.1 ≠ gU) →
      (∀ s', Moves h₀ fp [] gp [] s s' → P (.ret (.ok (.ret .none))) s') → SegT (model prog w) (AM (400 + n) (400 + 8 * n)).in1 c₀ t₀ fs₀ s P
  | t :: ts, fp, gp, c₀, t₀, fs₀ => ∀ (s : Shared) (P : End → Shared → Prop), Has h₀ sh fp gp s → s.gens[gU]? = some .running → (∀ p ∈ gp, p.1 ≠ gU) →
      (∀ v b l k c p fs' s' fp' gp', IsTok h₀ sh fp fp' s s' t v → Moves h₀ fp fp' gp gp' s s' → Has h₀ sh fp' gp' s' → SW prog w h₀ sh n gU ts fp' gp' c (k (.send .none)) fs' → P (.susp v b l k c p fs') s') →
      SegT (model prog w) (AM (400 + n) (400 + 8 * n)).in1 c₀ t₀ fs₀ s P
theorem setGen_get {s : Shared} {g g' : Nat} {x : GenState} (h : g' ≠ g) : (s.setGen g x).gens[g']? = s.gens[g']? := by
  simp only [Shared.setGen, Array.getElem?_setIfInBounds]
  rw [if_neg (Ne.symm h)]
theorem setGen_self {s : Shared} {g : Nat} {x : GenState} (h : g < s.gens.size) : (s.setGen g x).gens[g]? = some x := by
  simp only [Shared.setGen, Array.getElem?_setIfInBounds]
  rw [if_pos trivial, if_pos h]
theorem gen_lt {s : Shared} {g : Nat} {x : GenState} (h : s.gens[g]? = some x) : g < s.gens.size := (Array.getElem?_eq_some_iff.mp h).1
theorem will_of_sw {prog : Program} {w : World} {h₀ : Heap} {sh : List (Addr × Obj)} {n : Nat} (hn : n ≤ 50) (hlim : h₀.NoLimit) {gU : Nat} : ∀ {ts : List Tk} {fp : List (Addr × Obj)} {gp : List (Nat × GenState)} {c₀ : Code} {t₀ : Sem Fin} {fs₀ : List Frame} {gs : GenState},
    SW prog w h₀ sh n gU ts fp gp c₀ t₀ fs₀ → Wakeable (model prog w) gs c₀ t₀ fs₀ → (∀ p ∈ gp, p.1 ≠ gU) → Will prog w h₀ sh n ts gU fp ((gU, gs) :: gp) := by
  have limit : recursionLimit = 1000 := rfl
  have start : ∀ {s : Shared} {fp : List (Addr × Obj)} {gp : List (Nat × GenState)} {gs : GenState}, Has h₀ sh fp ((gU, gs) :: gp) s → (∀ p ∈ gp, p.1 ≠ gU) → Has h₀ sh fp gp (s.setGen gU .running) ∧ (s.setGen gU .running).gens[gU]? = some .running := by
    intro s fp gp gs H hne
    exact ⟨⟨H.base, H.shared, H.own, H.apart, fun p hp => (setGen_get (hne p hp)).trans (H.gens p (.tail _ hp))⟩, setGen_self (gen_lt (H.gens _ (.head _)))⟩
  intro ts
  induction ts with
  | nil =>
    intro fp gp c₀ t₀ fs₀ gs h hw hne s a Qv Qe H hg hfa hQ
    obtain ⟨H', hr⟩ := start H hne
    refine callNextT (g := gU) rfl (hlim.keeps H.base) (by show 400 + n < recursionLimit; omega) hg (H.gens _ (.head _)) hw (h _ _ H' hr hne fun s' M => ?_)
    refine ⟨rfl, fun ea t h' h1 h2 => ⟨ea, t, rfl, h2, hQ _ ⟨fun a o e hp => h1 _ _ (M.keep a o e hp), fun g x e hp => ?_, fun p hp => (nomatch hp), fun p hp => (nomatch hp), ?_, fun g x e => ?_, M.os, M.drawn⟩⟩⟩
    · have hgn : g ≠ gU := fun q => hp _ (.head _) q.symm
      exact (setGen_get hgn).trans (M.gens g x ((setGen_get hgn).trans e) fun p hp' => hp p (.tail _ hp'))
    · have z := M.more
      simp only [Shared.setGen, Array.size_setIfInBounds] at z ⊢
      exact z
    · by_cases hgn : g = gU
      · subst hgn
        have z : (s'.setGen g .finished).gens[g]? = some x := e
        rw [setGen_self (Nat.lt_of_lt_of_le (gen_lt hr) M.more)] at z
        exact .inr (.inl (Option.some.inj z).symm)
      · rcases M.bare g x ((setGen_get hgn).symm.trans e) with z | z | z
        · exact .inl ⟨(setGen_get hgn).symm.trans z.1, fun p hp => by rcases List.mem_cons.mp hp with rfl | hp; exact fun q => hgn q.symm; exact z.2 p hp⟩
        · exact .inr (.inl z)
        · exact .inr (.inr z)
  | cons t ts ih =>
    intro fp gp c₀ t₀ fs₀ gs h hw hne s a Qv Qe H hg hfa hQ
    obtain ⟨H', hr⟩ := start H hne
    refine callNextT (g := gU) rfl (hlim.keeps H.base) (by show 400 + n < recursionLimit; omega) hg (H.gens _ (.head _)) hw (h _ _ H' hr hne fun v b l k c p fs' s' fp' gp' ht M H₂ h₂ => ?_)
    have hne' : ∀ p ∈ gp', p.1 ≠ gU := fun p hp q => by
      rcases M.gfresh p hp with ⟨q', h1, h2⟩ | h1
      · exact hne q' h1 (h2.trans q)
      · exact absurd (gen_lt hr) (Nat.not_lt.mpr (q ▸ h1))
    refine ⟨v, rfl, hQ v _ fp' ((gU, .suspended k l c p fs' (b || fs'.any Frame.guarded)) :: gp') ht ⟨M.keep, fun g x e hp => ?_, M.fresh, fun p hp => ?_, ?_, fun g x e => ?_, M.os, M.drawn⟩ ⟨H₂.base, H₂.shared, H₂.own, H₂.apart, fun p hp => ?_⟩ (ih h₂ (.susp _ _ _ _ rfl rfl) hne')⟩
    · have hgn : g ≠ gU := fun q => hp _ (.head _) q.symm
      exact (setGen_get hgn).trans (M.gens g x ((setGen_get hgn).trans e) fun p hp' => hp p (.tail _ hp'))
    · rcases List.mem_cons.mp hp with rfl | hp
      · exact .inl ⟨_, .head _, rfl⟩
      · rcases M.gfresh p hp with ⟨q, h1, h2⟩ | h1
        · exact .inl ⟨q, .tail _ h1, h2⟩
        · exact .inr (by simpa only [Shared.setGen, Array.size_setIfInBounds] using h1)
    · have z := M.more
      simp only [Shared.setGen, Array.size_setIfInBounds] at z ⊢
      exact z
    · by_cases hgn : g = gU
      · exact .inr (.inr ⟨_, .head _, hgn.symm⟩)
      · rcases M.bare g x ((setGen_get hgn).symm.trans e) with z | z | ⟨p, hp, z⟩
        · exact .inl ⟨(setGen_get hgn).symm.trans z.1, fun p hp => by rcases List.mem_cons.mp hp with rfl | hp; exact fun q => hgn q.symm; exact z.2 p hp⟩
        · exact .inr (.inl z)
        · exact .inr (.inr ⟨p, .tail _ hp, z⟩)
    · rcases List.mem_cons.mp hp with rfl | hp
      · exact setGen_self (Nat.lt_of_lt_of_le (gen_lt hr) M.more)
      · exact (setGen_get (hne' p hp)).trans (H₂.gens p hp)

end
section
theorem SW.map {prog : Program} {w : World} {h₀ : Heap} {sh : List (Addr × Obj)} {n gU : Nat} {ts : List Tk} {fp : List (Addr × Obj)} {gp : List (Nat × GenState)} {c₁ c₂ : Code} {t₁ t₂ : Sem Fin} {fs₁ fs₂ : List Frame}
    (h : SW prog w h₀ sh n gU ts fp gp c₁ t₁ fs₁) (k : ∀ A s P, SegT (model prog w) A c₁ t₁ fs₁ s P → SegT (model prog w) A c₂ t₂ fs₂ s P) : SW prog w h₀ sh n gU ts fp gp c₂ t₂ fs₂ := by
  cases ts with
  | nil => exact fun s P a b c d => k _ _ _ (h s P a b c d)
  | cons t ts => exact fun s P a b c d => k _ _ _ (h s P a b c d)
theorem walk_env {h₀ : Heap} {sh fp : List (Addr × Obj)} {gp : List (Nat × GenState)} {s : Shared} {L : Addr} {oL : Obj} {m : Str → Option Value} (H : Has h₀ sh fp gp s) (hL : (L, oL) ∈ fp) (hN : NsOf oL m) (hb : h₀.objs.size ≤ L) :
    Fr h₀ L s.heap m ∧ ∃ rest, News h₀ L s.heap rest ∧ ∀ a o, s.heap.get? a = some o → h₀.get? a = none → a ≠ L → (a, o) ∈ rest := by
  obtain ⟨rest, r1, r2⟩ := rest_of h₀ s.heap [L]
  refine ⟨⟨hN.ns (H.own _ hL).1, H.base, hb⟩, rest, fun p hp => ?_, fun a o e1 e2 e3 => r2 a o e1 e2 (by simpa using e3)⟩
  obtain ⟨a1, a2, a3⟩ := r1 p hp
  exact ⟨a1, by simpa using a3, a2⟩
theorem walk_keep {h₀ h h' : Heap} {L : Addr} {m' : Str → Option Value} {tl rest : List (Addr × Obj)} (F : Fr h₀ L h' m') (N : News h₀ L h' (tl ++ rest)) (hr : ∀ a o, h.get? a = some o → h₀.get? a = none → a ≠ L → (a, o) ∈ rest)
    (hb : ∀ b o, h₀.get? b = some o → h.get? b = some o) : ∀ a o, h.get? a = some o → a ≠ L → h'.get? a = some o := by
  intro a o e1 e2
  cases e3 : h₀.get? a with
  | none => exact (N (a, o) (List.mem_append_right _ (hr a o e1 e3 e2))).1
  | some o' =>
    have z := hb a o' e3
    rw [e1] at z; cases z
    exact F.keep a o e3
theorem walk_new {h₀ h h' : Heap} {L : Addr} {tl rest : List (Addr × Obj)} (N : News h₀ L h' (tl ++ rest)) (ha : Above tl rest) (hr : ∀ a o, h.get? a = some o → h₀.get? a = none → a ≠ L → (a, o) ∈ rest) : ∀ p ∈ tl, h.get? p.1 = none := by
  intro p hp
  cases e : h.get? p.1 with
  | none => rfl
  | some o =>
    obtain ⟨_, n2, n3⟩ := N p (List.mem_append_left _ hp)
    exact absurd (ha p hp _ (hr p.1 o e n3 n2)) (Nat.lt_irrefl _)
theorem letGo_gen {prog : Program} {w : World} {A : Around} {E : Value → Shared → Prop} {s : Shared} {target : Expr} {I : Addr} {g : Nat} {v : Value} {Q : Unit → Shared → Prop} (hg : IsGenS s.heap I g) (h : Q () s) : wpAny (model prog w) A (letOwnedTupleGo target (.ref I) v) Q E s := by
  obtain ⟨o, nm, qn, ho, hc, hd, _⟩ := hg.ex
  unfold letOwnedTupleGo
  have key : wpAny (model prog w) A (do
      let (.ref r, .ref a) := (Value.ref I, v) | return
      let o ← load r
      match o.cls, o.data with
      | .type n, .fields vs =>
        if ["enumerate", "zip", "dict_itemiterator", "dict_reverseitemiterator", "odict_iterator", "itertools.zip_longest", "itertools.pairwise"].contains n && vs[0]? == some (rawInt a) then
          rule "for.unpacks-the-owned-tuple"
          updateField r 0 .none
      | _, _ => pure ()) Q E s := by
    cases v with
    | ref a =>
      refine wpAny_bind (wpAny_load ho ?_)
      rw [hc, hd]
      exact wpAny_pure h
    | _ => exact wpAny_pure h
  split
  · exact key
  · exact key
  · exact wpAny_pure h
theorem Has.step {h₀ : Heap} {sh fp fp' : List (Addr × Obj)} {gp gp' : List (Nat × GenState)} {s s' : Shared} {own : List (Addr × Obj)} (H : Has h₀ sh (own ++ fp) gp s) (M : Moves h₀ fp fp' gp gp' s s') (H' : Has h₀ sh fp' gp' s') (hd : ∀ p ∈ own, ∀ q ∈ fp, q.1 ≠ p.1) :
    Has h₀ sh (own ++ fp') gp' s' ∧ ∀ p ∈ own, ∀ q ∈ fp', q.1 ≠ p.1 := by
  refine ⟨⟨H'.base, H'.shared, fun p hp => ?_, fun p hp => ?_, H'.gens⟩, fun p hp q hq e => ?_⟩
  · rcases List.mem_append.mp hp with hp | hp
    · have z := H.own p (List.mem_append_left _ hp)
      exact ⟨M.keep _ _ z.1 (fun q hq => hd p hp q hq), z.2⟩
    · exact H'.own p hp
  · rcases List.mem_append.mp hp with hp | hp
    · exact H.apart p (List.mem_append_left _ hp)
    · exact H'.apart p hp
  · rcases M.fresh q hq with ⟨q', h1, h2⟩ | h1
    · exact hd p hp q' h1 (h2.trans e)
    · rw [e, (H.own p (List.mem_append_left _ hp)).1] at h1; cases h1

end
section
section
variable {h₀ : Heap} {sh own fp fp' : List (Addr × Obj)} {gp gp' : List (Nat × GenState)} {s s' : Shared} {L : Addr} {oL oL' : Obj} {m' : Str → Option Value} {h' : Heap} {tk : Nat}
theorem moves_walk (M : Moves h₀ fp fp' gp gp' s s') (hk : ∀ a o, s'.heap.get? a = some o → a ≠ L → h'.get? a = some o) :
    Moves h₀ ((L, oL) :: (own ++ fp)) ((L, oL') :: (own ++ fp')) gp gp' s { s' with heap := h', toks := tk } := by
  refine ⟨fun a o e hp => hk a o (M.keep a o e fun p hp' => hp p (.tail _ (List.mem_append_right _ hp'))) fun q => hp _ (.head _) q.symm, M.gens, fun p hp => ?_, M.gfresh, M.more, M.bare, M.os, M.drawn⟩
  rcases List.mem_cons.mp hp with rfl | hp
  · exact .inl ⟨_, .head _, rfl⟩
  · rcases List.mem_append.mp hp with hp | hp
    · exact .inl ⟨p, .tail _ (List.mem_append_left _ hp), rfl⟩
    · rcases M.fresh p hp with ⟨q, h1, h2⟩ | h1
      · exact .inl ⟨q, .tail _ (List.mem_append_right _ h1), h2⟩
      · exact .inr h1
theorem has_walk (H : Has h₀ sh ((L, oL) :: fp) gp s) (hne : ∀ p ∈ fp, p.1 ≠ L) (F : Fr h₀ L h' m') (hk : ∀ a o, s.heap.get? a = some o → a ≠ L → h'.get? a = some o) (hL : h'.get? L = some oL') : Has h₀ sh ((L, oL') :: fp) gp { s with heap := h', toks := tk } := by
  have hn := (H.own _ (.head _)).2
  refine ⟨F.keep, fun p hp => ⟨hk _ _ (H.shared p hp).1 (H.apart _ (.head _) p hp), (H.shared p hp).2⟩, fun p hp => ?_, fun p hp q hq => ?_, H.gens⟩
  · rcases List.mem_cons.mp hp with rfl | hp
    · exact ⟨hL, hn⟩
    · have z := H.own p (.tail _ hp)
      exact ⟨hk _ _ z.1 (hne p hp), z.2⟩
  · rcases List.mem_cons.mp hp with rfl | hp
    · exact H.apart _ (.head _) q hq
    · exact H.apart p (.tail _ hp) q hq
theorem has_end (H : Has h₀ sh (own ++ fp) gp s) (M : Moves h₀ fp [] gp [] s s') (hd : ∀ p ∈ own, ∀ q ∈ fp, q.1 ≠ p.1) : Has h₀ sh own [] s' := by
  refine ⟨fun b o e => M.keep b o (H.base b o e) fun q hq x => ?_, fun p hp => ⟨M.keep _ _ (H.shared p hp).1 fun q hq x => H.apart q (List.mem_append_right _ hq) p hp x.symm, (H.shared p hp).2⟩, fun p hp => ?_, fun p hp => H.apart p (List.mem_append_left _ hp), fun p hp => (nomatch hp)⟩
  · have z := (H.own q (List.mem_append_right _ hq)).2
    rw [x, e] at z; cases z
  · have z := H.own p (List.mem_append_left _ hp)
    exact ⟨M.keep _ _ z.1 (fun q hq => hd p hp q hq), z.2⟩
theorem Moves.refl (h₀ : Heap) (fp : List (Addr × Obj)) (gp : List (Nat × GenState)) (s : Shared) : Moves h₀ fp fp gp gp s s :=
  ⟨fun _ _ e _ => e, fun _ _ e _ => e, fun p hp => .inl ⟨p, hp, rfl⟩, fun p hp => .inl ⟨p, hp, rfl⟩, Nat.le_refl _, fun g x e => by
    by_cases hx : ∃ q ∈ gp, q.1 = g
    · exact .inr (.inr hx)
    · exact .inl ⟨e, fun p hp q => hx ⟨p, hp, q⟩⟩, rfl, rfl⟩
theorem Moves.drop {fp'' : List (Addr × Obj)} (M : Moves h₀ fp fp' gp gp' s s') (hs : ∀ p ∈ fp'', p ∈ fp') : Moves h₀ fp fp'' gp gp' s s' :=
  ⟨M.keep, M.gens, fun p hp => M.fresh p (hs p hp), M.gfresh, M.more, M.bare, M.os, M.drawn⟩
theorem Moves.trans {fp'' : List (Addr × Obj)} {gp'' : List (Nat × GenState)} {s'' : Shared} (M : Moves h₀ fp fp' gp gp' s s') (M' : Moves h₀ fp' fp'' gp' gp'' s' s'') : Moves h₀ fp fp'' gp gp'' s s'' := by
  have hf : ∀ a, (∀ p ∈ fp, p.1 ≠ a) → s.heap.get? a ≠ none → ∀ p ∈ fp', p.1 ≠ a := fun a h1 h2 p hp e => by
    rcases M.fresh p hp with ⟨q, q1, q2⟩ | q
    · exact h1 q q1 (q2.trans e)
    · exact h2 (e ▸ q)
  have hold : ∀ a, s'.heap.get? a = none → (∃ q ∈ fp, q.1 = a) ∨ s.heap.get? a = none := fun a h1 => by
    by_cases hx : ∃ q ∈ fp, q.1 = a
    · exact .inl hx
    · cases e : s.heap.get? a with
      | none => exact .inr rfl
      | some o => rw [M.keep a o e fun p hp q => hx ⟨p, hp, q⟩] at h1; cases h1
  refine ⟨fun a o e hp => M'.keep a o (M.keep a o e hp) (hf a hp (by rw [e]; nofun)), fun g x e hp => M'.gens g x (M.gens g x e hp) fun p hp' q => ?_, fun p hp => ?_, fun p hp => ?_, Nat.le_trans M.more M'.more, fun g x e => ?_, M'.os.trans M.os, M'.drawn.trans M.drawn⟩
  · rcases M.gfresh p hp' with ⟨q', h1, h2⟩ | h1
    · exact hp q' h1 (h2.trans q)
    · exact absurd (gen_lt e) (Nat.not_lt.mpr (q ▸ h1))
  · rcases M'.fresh p hp with ⟨q, h1, h2⟩ | h1
    · rw [← h2]; exact M.fresh q h1
    · exact hold p.1 h1
  · rcases M'.gfresh p hp with ⟨q, h1, h2⟩ | h1
    · rw [← h2]; exact M.gfresh q h1
    · exact .inr (Nat.le_trans M.more h1)
  · rcases M'.bare g x e with z | z | z
    · rcases M.bare g x z.1 with y | y | ⟨p, hp, y⟩
      · exact .inl y
      · exact .inr (.inl y)
      · exact absurd y (z.2 p hp)
    · exact .inr (.inl z)
    · exact .inr (.inr z)
end

theorem assign_yield {prog : Program} {w : World} {A : Around} {s : Shared} {c : Code} {fs : List Frame} {P : End → Shared → Prop} {env : Env} {K : Flow → Sem Fin} {H : Value → Sem Fin} {gd : Bool → Bool} {lv : List Value → List Value}
    {tgt e : Expr} {ypos pos : Pos} {v : Value} (hfs : splitAtGen fs = none) (hgd : gd false = false) (hfg : fs.any Frame.guarded = false) {d u : Nat} (f : Fits (A.over c fs) d u) (hco : env.scope.isCoroutine = false) (hi : interactive env = false)
    (h : wpAny (model prog w) (AM d u) (assign tgt env v) (fun _ s₁ => wpAny (model prog w) (AM d u) (eval e env) (fun v s' => ∀ p l k, (∀ A' s'' P', SegT (model prog w) A' c (K .next) fs s'' P' → SegT (model prog w) A' c (k (.send .none)) fs s'' P') → P (.susp v false l k c p fs) s') (fun _ _ => False) s₁) (fun _ _ => False) s) :
    wpT (model prog w) (A.over c fs) (assign tgt env v) (fun _ s₁ => SegT (model prog w) A c ((execs [.Expr (.Yield (some e) ypos) pos] env).wrap K H gd lv) fs s₁ P) (fun _ _ => False) s := by
  refine wpT_of (wpAny_lift f (wpAny_mono h (fun _ s₁ y => ?_) fun _ _ y => y))
  refine seg_cons (seg_Yield hfs hgd hfg f (wpAny_mono y (fun v s' z p l k hk => z p l k fun A' s'' P' x => hk A' s'' P' (seg_nil x)) fun _ _ y => y) hco hi)

end
section
section
variable {prog : Program} {w : World} {A : Around} {E : Value → Shared → Prop} {s : Shared} {h₀ : Heap} {L : Addr} {m : Str → Option Value} {news : List (Addr × Obj)}
theorem mergeNil {d a : Addr} {od : Obj} {ep : Nat} {Q : Unit → Shared → Prop} (hd : s.heap.get? d = some (dictOf [] 0)) (ha : s.heap.get? a = some od) (hx : od.ExactDict) (hdat : od.data = .dict #[] ep) (hs : (a == sysModules) = false)
    (h : Q () s) : wpAny (model prog w) A (mergeMapping d (.ref a) true) Q E s := by
  have hT : s.TypeIs (.ref a) "dict" := ⟨od, ha, hx.1⟩
  unfold mergeMapping
  refine wpAny_bind (wpAny_isInstance hT isSubtype_dict_dict ?_)
  simp only [if_true]
  refine wpAny_bind (wpAny_specialOf hT F.slot_dict_iter.lookup ?_)
  simp only [beq_self_eq_true, pure_bind]
  rw [if_neg (by rw [hs]; exact Bool.false_ne_true)]
  refine wpAny_bind (wpAny_dictEntries hd rfl ?_)
  simp only [List.isEmpty_toArray, List.isEmpty_nil, if_true]
  refine wpAny_bind (wpAny_dictEntries ha hdat ?_)
  simp only [List.forIn_toArray, List.forIn_nil, pure_bind]
  refine wpAny_bind (wpAny_dictEntries ha hdat ?_)
  refine wpAny_bind (wpAny_dictEpoch ha hdat ?_)
  simp only [List.size_toArray, List.length_nil, List.range_zero, List.forIn_nil, pure_bind]
  exact wpAny_pure h
theorem mergeOne {d a : Addr} {od : Obj} {ep : Nat} {k : Str} {t : Tok} {hsh : Int} {v : Value} {Q : Unit → Shared → Prop} (hd : s.heap.get? d = some (dictOf [] 0)) (ha : s.heap.get? a = some od) (hx : od.ExactDict) (hdat : od.data = .dict #[⟨hsh, .str k t, v⟩] ep) (hs : (a == sysModules) = false) (hda : a ≠ d)
    (h : ∀ h', h'.get? d = some (dictOf [⟨hsh, .str k t, v⟩] 1) → Heap.SameBut d s.heap h' → Q () { s with heap := h' }) : wpAny (model prog w) A (mergeMapping d (.ref a) true) Q E s := by
  have hT : s.TypeIs (.ref a) "dict" := ⟨od, ha, hx.1⟩
  unfold mergeMapping
  refine wpAny_bind (wpAny_isInstance hT isSubtype_dict_dict ?_)
  simp only [if_true]
  refine wpAny_bind (wpAny_specialOf hT F.slot_dict_iter.lookup ?_)
  simp only [beq_self_eq_true, pure_bind]
  rw [if_neg (by rw [hs]; exact Bool.false_ne_true)]
  refine wpAny_bind (wpAny_dictEntries hd rfl ?_)
  simp only [List.isEmpty_toArray, List.isEmpty_nil, if_true]
  refine wpAny_bind (wpAny_dictEntries ha hdat ?_)
  simp only [List.forIn_toArray, List.forIn_cons, List.forIn_nil, pure_bind]
  refine wpAny_bind (wpAny_dictEntries ha hdat ?_)
  refine wpAny_bind (wpAny_dictEpoch ha hdat ?_)
  simp only [List.size_toArray, List.length_cons, List.length_nil, Nat.zero_add]
  show wpAny (model prog w) A (forIn [0] PUnit.unit _ >>= _) Q E s
  simp only [List.forIn_cons, List.forIn_nil]
  refine wpAny_bind (wpAny_bind (wpAny_bind (wpAny_dictEntries ha hdat ?_)))
  simp only [List.getElem?_toArray, List.getElem?_cons_zero]
  refine wpAny_bind (wpAny_holding (wpAny_bind (KTD.kt_dictFind_strs hd rfl (by simp) ?_)))
  rw [show (Array.findIdx? (fun e : DictEntry => e.key.isStr k) #[]).isSome = false by simp, if_neg Bool.false_ne_true]
  unfold dictPut
  refine wpAny_bind (KTD.kt_dictFind_strs hd rfl (by simp) ?_)
  rw [show Array.findIdx? (fun e : DictEntry => e.key.isStr k) #[] = none by simp]
  refine wpAny_updateDictKeys hd rfl ?_ (Nat.zero_le _) (Nat.le_refl _)
  have ha' : (s.heap.update d (Obj.mapDictKeys (·.push ⟨hsh, .str k t, v⟩))).get? a = some od := ((Heap.SameBut.update ..).2 a hda).trans ha
  refine wpAny_bind (wpAny_dictEpoch ha' hdat ?_)
  simp only [bne_self_eq_false, Bool.false_eq_true, if_false]
  refine wpAny_pure (wpAny_pure (wpAny_pure (h _ ?_ (Heap.SameBut.update ..))))
  exact Heap.get?_update_self _ hd rfl
def KwEs (es : List DictEntry) (kw : List (Str × Value)) : Prop := (es = [] ∧ kw = []) ∨ ∃ hsh k t v, es = [⟨hsh, .str k t, v⟩] ∧ kw = [(k, v)]
theorem merged1 {f : Value} {x : Sem Value} {a : Addr} {od : Obj} {ep : Nat} {es : List DictEntry} {kw : List (Str × Value)} {Q : Addr → Shared → Prop} (F : Fr h₀ L s.heap m) (N : News h₀ L s.heap news) (ha : (a, od) ∈ news) (hx : od.ExactDict) (hdat : od.data = .dict es.toArray ep) (hs : (a == sysModules) = false)
    (hes : KwEs es kw) (hv : ∀ s₁, Fr h₀ L s₁.heap m → (∃ d o, News h₀ L s₁.heap ((d, o) :: news)) → wpAny (model prog w) A x (fun v s₂ => v = .ref a ∧ s₂ = s₁) (fun _ _ => False) s₁)
    (h : ∀ d o h', Fr h₀ L h' m → News h₀ L h' ((d, o) :: news) → (∀ p ∈ news, p.1 < d) → o.data = .dict es.toArray es.length → Q d { s with heap := h' }) :
    wpAny (model prog w) A (mergedKeywords f [(none, x)]) Q E s := by
  have F₁ := F.push (dictOf [] 0)
  have N₁ := News.push F N (dictOf [] 0)
  have hlt : ∀ p ∈ news, p.1 < s.heap.objs.size := fun p hp => Heap.lt_size (N p hp).1
  unfold mergedKeywords
  refine wpAny_bind (wpAny_alloc ?_)
  generalize hD : s.heap.objs.size = D at N₁ hlt ⊢
  generalize hH : s.heap.push (dictOf [] 0) = H at F₁ N₁
  have zd := (N₁ (D, dictOf [] 0) (.head _))
  have za := (N₁ (a, od) (.tail _ ha))
  first | refine wpAny_holding ?_ | refine wpAny_bind (wpAny_holding ?_)
  refine wpAny_bind ?_
  rw [List.forIn_cons]
  refine wpAny_bind ?_
  refine wpAny_bind (m := (pure () : Sem Unit)) (wpAny_pure ?_)
  refine wpAny_bind (wpAny_mono (hv _ F₁ ⟨_, _, N₁⟩) (fun v s₂ hv' => ?_) fun _ _ e => e.elim)
  obtain ⟨rfl, rfl⟩ := hv'
  refine wpAny_bind (wpAny_onRaise (wpAny_holding (wpAny_tryCatch (wpAny_onRaise ?_))))
  have fin : ∀ o h', Fr h₀ L h' m → News h₀ L h' ((D, o) :: news) → o.data = .dict es.toArray es.length → Q D { s with heap := h' } := fun o h' F' N' e => h D o h' F' N' hlt e
  rcases hes with ⟨rfl, rfl⟩ | ⟨hsh, k, t, v, rfl, rfl⟩
  · refine mergeNil (s := { s with heap := H }) zd.1 za.1 hx hdat hs ?_
    refine wpAny_pure ?_
    show wpAny _ _ (pure []) _ _ _
    refine wpAny_pure ?_
    show wpAny _ _ (pure ()) _ _ _
    exact wpAny_pure (wpAny_pure (fin _ H F₁ N₁ rfl))
  · refine mergeOne (s := { s with heap := H }) zd.1 za.1 hx hdat hs (Nat.ne_of_lt (hlt _ ha)) (fun h' hd' hb' => ?_)
    refine wpAny_pure ?_
    show wpAny _ _ (pure []) _ _ _
    refine wpAny_pure ?_
    show wpAny _ _ (pure ()) _ _ _
    refine wpAny_pure (wpAny_pure (fin _ h' (Fr.change' F₁ hb'.extBut zd.2.1 zd.2.2) (show News h₀ L h' ((D, dictOf [⟨hsh, .str k t, v⟩] 1) :: news) from ?_) rfl))
    intro q hq
    rcases List.mem_cons.mp hq with rfl | hq
    · exact ⟨hd', zd.2⟩
    · have z := N₁ q (.tail _ hq)
      exact ⟨(hb'.2 _ (Nat.ne_of_lt (hlt q hq))).trans z.1, z.2⟩
theorem kwIn1 {f : Value} {d : Addr} {o : Obj} {n : Nat} {es : List DictEntry} {kw : List (Str × Value)} {Q : List (Str × Value) → Shared → Prop} (hd : s.heap.get? d = some o) (hdat : o.data = .dict es.toArray n) (hes : KwEs es kw) (h : Q kw s) : wpAny (model prog w) A (keywordsIn f d) Q E s := by
  unfold keywordsIn
  refine wpAny_bind (wpAny_dictEntries hd hdat ?_)
  rcases hes with ⟨rfl, rfl⟩ | ⟨hsh, k, t, v, rfl, rfl⟩
  · rw [List.forIn_toArray, List.forIn_nil]
    exact wpAny_bind (wpAny_pure (wpAny_pure h))
  · rw [List.forIn_toArray, List.forIn_cons]
    refine wpAny_bind (wpAny_bind (wpAny_pure ?_))
    show wpAny _ _ (pure [(k, v)]) _ _ _
    exact wpAny_pure (wpAny_pure h)
theorem evalArgs_kw {f : Value} {x y : Sem Value} {rest : List (Bool × Sem Value)} {Q : Args → Shared → Prop}
    (h : wpAny (model prog w) A (spliced ((false, y) :: rest)) (fun ps s₁ => ∃ h₀ L m news a od ep es kw, Fr h₀ L s₁.heap m ∧ News h₀ L s₁.heap news ∧ (a, od) ∈ news ∧ od.ExactDict ∧ od.data = .dict (List.toArray es) ep ∧ (a == sysModules) = false ∧ KwEs es kw ∧
      (∀ s₂, Fr h₀ L s₂.heap m → (∃ d o, News h₀ L s₂.heap ((d, o) :: news)) → wpAny (model prog w) A x (fun v s₃ => v = .ref a ∧ s₃ = s₂) (fun _ _ => False) s₂) ∧
      ∀ d o h', Fr h₀ L h' m → News h₀ L h' ((d, o) :: news) → (∀ p ∈ news, p.1 < d) → Q ⟨ps, kw⟩ { s₁ with heap := h' }) E s) :
    wpAny (model prog w) A (evalArgs f true ((false, y) :: rest) [(none, x)]) Q E s := by
  unfold evalArgs
  show wpAny _ A (spliced ((false, y) :: rest) >>= _) Q E s
  refine wpAny_bind (wpAny_mono h (fun ps s₁ h₁ => ?_) fun _ _ e => e)
  obtain ⟨h₀, L, m, news, a, od, ep, es, kw, F, N, ha, hx, hdat, hs, hes, hv, hQ⟩ := h₁
  refine wpAny_bind (wpAny_pure (wpAny_holding ?_))
  refine wpAny_bind (merged1 F N ha hx hdat hs hes hv fun d o h' F' N' lt ho => ?_)
  refine wpAny_bind (wpAny_pure ?_)
  refine wpAny_bind (wpAny_holding (kwIn1 (N' (d, o) (.head _)).1 ho hes ?_))
  exact wpAny_pure (hQ d o h' F' N' lt)
end
section
variable {prog : Program} {w : World} {A : Around} {E : Value → Shared → Prop} {s : Shared} {env : Env} {pos apos : Pos} {o : Expr} {name : Str} {Q : Value → Shared → Prop}
def KwThen (prog : Program) (w : World) (A : Around) (x : Sem Value) (f : Value) (pre : List Value) (Q E : Value → Shared → Prop) (ps : List Value) (s₁ : Shared) : Prop :=
  ∃ h₀ L m news a od ep es kw, Fr h₀ L s₁.heap m ∧ News h₀ L s₁.heap news ∧ (a, od) ∈ news ∧ od.ExactDict ∧ od.data = .dict (List.toArray es) ep ∧ (a == sysModules) = false ∧ KwEs es kw ∧
    (∀ s₂, Fr h₀ L s₂.heap m → (∃ d o, News h₀ L s₂.heap ((d, o) :: news)) → wpAny (model prog w) A x (fun v s₃ => v = .ref a ∧ s₃ = s₂) (fun _ _ => False) s₂) ∧
    ∀ d o h', Fr h₀ L h' m → News h₀ L h' ((d, o) :: news) → (∀ p ∈ news, p.1 < d) → (∃ k, (k = Keeper.frame ∨ k = Keeper.machine ∨ k = Keeper.boundFrame) ∧ Looks (model prog w) h' (keeperOf f) k) ∧ wpAny (model prog w) A (call f (pre ++ ps) kw) Q E { s₁ with heap := h' }
theorem callWith_kwstar {f : Value} {x y : Sem Value} {rest : List (Bool × Sem Value)} (hpl : rest.any (·.1) = false)
    (h : wpAny (model prog w) A (spliced ((false, y) :: rest)) (KwThen prog w A x f [] Q E) E s) :
    wpAny (model prog w) A (callWith pos f [] ((false, y) :: rest) [(none, x)]) Q E s := by
  unfold callWith
  refine wpAny_bind (wpAny_holding (evalArgs_kw (wpAny_mono h (fun ps s₁ h₁ => ?_) fun _ _ e => e)))
  obtain ⟨h₀, L, m, news, a, od, ep, es, kw, F, N, ha, hx, hdat, hs, hes, hv, hQ⟩ := h₁
  refine ⟨h₀, L, m, news, a, od, ep, es, kw, F, N, ha, hx, hdat, hs, hes, hv, fun d o h' F' N' lt => ?_⟩
  obtain ⟨⟨k, hk', LK⟩, hc⟩ := hQ d o h' F' N' lt
  refine wpAny_bind (wpAny_standAt ?_)
  simp only [List.any_cons, List.any_nil, hpl, Bool.or_false, Bool.false_or, Option.isNone_none, Bool.or_true]
  refine wpAny_bind (LK.here ?_)
  have tail : ∀ {t : Sem Value}, wpAny (model prog w) A t Q E { s₁ with heap := h' } → wpAny (model prog w) A (t >>= fun r => holding [r] point >>= fun _ => pure r) Q E { s₁ with heap := h' } :=
    fun ht => wpAny_bind (wpAny_mono ht (fun r s₂ hr => wpAny_bind (wpAny_holding (wpAny_point (wpAny_pure hr)))) fun _ _ x => x)
  have marked (mk : Value) : wpAny (model prog w) A (callMarked mk f ([] ++ ps) kw) Q E { s₁ with heap := h' } := by unfold callMarked; exact Calls.wpAny_keep hc
  rcases hk' with rfl | rfl | rfl <;> dsimp only <;> first | exact tail (marked _) | exact tail (wpAny_operating hc)
theorem callAttr_kwstar {e1 kx : Expr} {args : List Expr} {kp : Pos} (hst : (backTo pos (starEach (e1 :: args) env)) = (false, eval e1 env) :: backTo pos (starEach args env)) (hpl : (backTo pos (starEach args env)).any (·.1) = false)
    (hb : attributeBase o name env (eval o env) = eval o env)
    (h : wpAny (model prog w) A (eval o env) (fun ov s₁ => wpAny (model prog w) A (getAttr ov name true) (fun f s₂ => wpAny (model prog w) A (spliced (backTo pos (starEach (e1 :: args) env))) (KwThen prog w A (do let v ← eval kx env; standAt pos; pure v) f [] Q E) E s₂) E s₁) E s) :
    wpAny (model prog w) A (eval (.Call (.Attribute o name apos) (e1 :: args) [⟨none, kx, kp⟩] pos) env) Q E s := by
  show wpAny (model prog w) A (attributeBase o name env (eval o env) >>= fun ov => standAt apos.atName >>= fun _ => methodCall o name apos pos env ov _ (backTo pos (starEach (e1 :: args) env)) [(none, do let v ← eval kx env; standAt pos; pure v)]) Q E s
  rw [hb]
  refine wpAny_bind (wpAny_mono h (fun ov s₁ h₁ => wpAny_bind (wpAny_standAt ?_)) fun _ _ e => e)
  have hform : methodCallForm ((e1 :: args).length + [(⟨none, kx, kp⟩ : Keyword)].length) (backTo pos (starEach (e1 :: args) env)) [(none, do let v ← eval kx env; standAt pos; pure v)] = false := by
    unfold methodCallForm
    simp
  unfold methodCall
  rw [hform]
  refine wpAny_bind (wpAny_holding ?_)
  show wpAny (model prog w) A (getAttr ov name true >>= fun f => pure (f, [])) _ _ _
  refine wpAny_bind (wpAny_mono h₁ (fun f s₂ h₂ => wpAny_pure ?_) fun _ _ e => e)
  refine wpAny_bind ?_
  show wpAny (model prog w) A (pure pos) _ _ _
  refine wpAny_pure ?_
  rw [hst] at h₂ ⊢
  exact callWith_kwstar hpl h₂
end
theorem kwEs_of {prog : Program} {w : World} {o : Obj} {kvs : List (Str × Value)} (h : o.IsDictOf (strKind prog w) kvs) (hl : kvs.length ≤ 1) : ∃ es ep, o.ExactDict ∧ o.data = .dict (List.toArray es) ep ∧ KwEs es kvs := by
  obtain ⟨es, ep, hx, hd, hk, hp, _⟩ := h
  obtain ⟨l⟩ := es
  refine ⟨l, ep, hx, hd, ?_⟩
  dsimp only at hp
  cases hp with
  | nil => exact .inl ⟨rfl, rfl⟩
  | @cons e kv es' kvs' h1 h2 h3 =>
    obtain ⟨k, v⟩ := kv
    cases h3 with
    | nil =>
      obtain ⟨hsh, key, val⟩ := e
      dsimp only at h1 h2
      obtain ⟨t, rfl⟩ := Value.isStrOf_shape h1
      subst h2
      exact .inr ⟨hsh, k, t, _, rfl, rfl⟩
    | cons _ _ _ => simp only [List.length_cons] at hl; omega
theorem KwThen.intro {prog : Program} {w : World} {A : Around} {Q E : Value → Shared → Prop} {x : Sem Value} {f : Value} {ps : List Value} {s₁ : Shared} {h₀ : Heap} {L a : Addr} {m : Str → Option Value} {news : List (Addr × Obj)} {od : Obj} {kvs : List (Str × Value)}
    (F : Fr h₀ L s₁.heap m) (N : News h₀ L s₁.heap news) (ha : (a, od) ∈ news) (hs : (a == sysModules) = false) (hd : od.IsDictOf (strKind prog w) kvs) (hl : kvs.length ≤ 1)
    (hv : ∀ s₂, Fr h₀ L s₂.heap m → (∃ d o, News h₀ L s₂.heap ((d, o) :: news)) → wpAny (model prog w) A x (fun v s₃ => v = .ref a ∧ s₃ = s₂) (fun _ _ => False) s₂)
    (h : ∀ d o h', Fr h₀ L h' m → News h₀ L h' ((d, o) :: news) → (∀ p ∈ news, p.1 < d) → (∃ k, (k = Keeper.frame ∨ k = Keeper.machine ∨ k = Keeper.boundFrame) ∧ Looks (model prog w) h' (keeperOf f) k) ∧ wpAny (model prog w) A (call f ([] ++ ps) kvs) Q E { s₁ with heap := h' }) :
    KwThen prog w A x f [] Q E ps s₁ := by
  obtain ⟨es, ep, hx, hdat, hes⟩ := kwEs_of hd hl
  exact ⟨h₀, L, m, news, a, od, ep, es, kvs, F, N, ha, hx, hdat, hs, hes, hv, h⟩
theorem KwThen.loc {prog : Program} {w : World} {A : Around} {Q E : Value → Shared → Prop} {y fn : Str} {scope : Scope} {fa : Addr} {cd : Value} {p1 p2 : Pos} {f : Value} {ps : List Value} {s₁ : Shared} {h₀ : Heap} {L a : Addr} {m : Str → Option Value} {news : List (Addr × Obj)} {od : Obj} {kvs : List (Str × Value)}
    (F : Fr h₀ L s₁.heap m) (N : News h₀ L s₁.heap news) (hy : m y = some (.ref a)) (hk : scope.kind = .function) (hlo : (envOf fn scope L fa cd).kindOf y = some .local) (hb : (y == ("__debug__" : Str)) = false)
    (ha : (a, od) ∈ news) (hs : (a == sysModules) = false) (hd : od.IsDictOf (strKind prog w) kvs) (hl : kvs.length ≤ 1)
    (h : ∀ d o h', Fr h₀ L h' m → News h₀ L h' ((d, o) :: news) → (∀ p ∈ news, p.1 < d) → (∃ k, (k = Keeper.frame ∨ k = Keeper.machine ∨ k = Keeper.boundFrame) ∧ Looks (model prog w) h' (keeperOf f) k) ∧ wpAny (model prog w) A (call f ([] ++ ps) kvs) Q E { s₁ with heap := h' }) :
    KwThen prog w A (do let v ← eval (.Name y p1) (envOf fn scope L fa cd); standAt p2; pure v) f [] Q E ps s₁ :=
  KwThen.intro F N ha hs hd hl (fun s₂ F₂ _ => wpAny_bind (ld F₂ hy (wpAny_bind (wpAny_standAt (wpAny_pure ⟨rfl, rfl⟩))) hk hlo hb)) h
abbrev ltA (a b : Nat) : Prop := a < b
theorem line_le {n : Nat} (h : n ≤ 1000) : n ≤ sizeLine := by rw [sizeLine_eq]; omega

end
section
section
variable {prog : Program} {w : World} {A : Around} {s : Shared} {K : Frag} {h₀ : Heap} {L : Addr} {m mg mb : Str → Option Value} {news : List (Addr × Obj)} {p : Program} {loose : List Str} {mean : ExcName → Option Value}
  {R : Result → Shared → Prop} {name qual : Str} {params : Arguments} {body : List Stmt} {scope : Scope} {cl : List (Str × Addr)} {dV kV doc pm cdv ct oc : Value} {an od : Option Addr} {osl : Array (Option Value)} {f : Addr} {args : Args} {binds : List (Str × Value)}
theorem code_genK (F : Fr h₀ L s.heap m) (X₀ : K.In h₀) (N : News h₀ L s.heap news) (T : Top p loose mean mg mb h₀)
    (ho : K.lookup f = some ⟨oc, od, .func (fnOf name qual params body scope dV kV doc pm an cdv ct), osl⟩) (hcd : codeIn K cdv qual = true) (hroom : A.depth < recursionLimit)
    (hbind : BindsTo s (fnOf name qual params body scope dV kV doc pm an cdv ct) args binds) (hloc : ∀ y ∈ binds, scope.names.lookup y.1 = some .local)
    (h : ∀ L' I oL t1 t2 h' tk, Fr h₀ L h' m → News h₀ L h' ((I, genNew s.gens.size name qual t1 t2) :: (L', oL) :: news) → (∀ p ∈ news, p.1 < L') → L' < I → NsOf oL (fun y => binds.reverse.lookup y) → h₀.objs.size ≤ L' → L < L' →
      R (.ok (.ret (.ref I))) { s with heap := h', toks := tk, gens := s.gens.push (.fresh (.func body (envOf qual scope L' f cdv))) })
    (hco : scope.isCoroutine = false) (hgen : scope.isGenerator = true) (hk : scope.kind = .function)
    (hcell : ∀ x ∈ scope.names, x.2 ≠ .cell) : codeAny (model prog w) A (.call (.ref f) args) R s :=
  gen_enter (cl := []) F N T.nolimit ((X₀.keeps F.keep) _ _ ho) rfl (codeRec_of (X₀.keeps F.keep) hcd) hroom hbind hloc h hcell hco hgen hk
theorem code_genC {c' : Addr} {ctv : Value} (F : Fr h₀ L s.heap m) (N : News h₀ L s.heap news) (T : Top p loose mean mg mb h₀)
    (ho : (f, kdv_obj name qual params (.stmts body) scope cl dV doc pm c' ctv) ∈ news) (hcd : s.heap.CodeRec (.ref c') qual) (hroom : A.depth < recursionLimit)
    (hbind : BindsTo s (kdv_fn name qual params (.stmts body) scope cl dV doc pm (.ref c') ctv) args binds) (hloc : ∀ y ∈ binds, scope.names.lookup y.1 = some .local)
    (h : ∀ L' I oL t1 t2 h' tk, Fr h₀ L h' m → News h₀ L h' ((I, genNew s.gens.size name qual t1 t2) :: (L', oL) :: news) → (∀ p ∈ news, p.1 < L') → L' < I → NsOf oL (fun y => binds.reverse.lookup y) → h₀.objs.size ≤ L' → L < L' →
      R (.ok (.ret (.ref I))) { s with heap := h', toks := tk, gens := s.gens.push (.fresh (.func body (envX qual scope L' f (.ref c') cl))) })
    (hco : scope.isCoroutine = false) (hgen : scope.isGenerator = true) (hk : scope.kind = .function)
    (hcell : ∀ x ∈ scope.names, x.2 ≠ .cell) : codeAny (model prog w) A (.call (.ref f) args) R s :=
  gen_enter (cl := cl) F N T.nolimit (N _ ho).1 rfl hcd hroom hbind hloc h hcell hco hgen hk
end
theorem KwThen.free {prog : Program} {w : World} {A : Around} {Q E : Value → Shared → Prop} {y fn : Str} {scope : Scope} {fa : Addr} {cd : Value} {cl : List (Str × Addr)} {p1 p2 : Pos} {f : Value} {ps : List Value} {s₁ : Shared} {h₀ : Heap} {L a c : Addr} {m : Str → Option Value} {news : List (Addr × Obj)} {od oc : Obj} {kvs : List (Str × Value)}
    (F : Fr h₀ L s₁.heap m) (N : News h₀ L s₁.heap news) (hc : cl.lookup y = some c) (hm : (c, oc) ∈ news) (hcd : oc.data = .cell (some (.ref a))) (hk : scope.kind = .function) (hx : (envX fn scope L fa cd cl).kindOf y = some .free) (hb : (y == ("__debug__" : Str)) = false) (hcl : (y == ("__classdict__" : Str)) = false)
    (ha : (a, od) ∈ news) (hs : (a == sysModules) = false) (hd : od.IsDictOf (strKind prog w) kvs) (hl : kvs.length ≤ 1)
    (h : ∀ d o h', Fr h₀ L h' m → News h₀ L h' ((d, o) :: news) → (∀ p ∈ news, p.1 < d) → (∃ k, (k = Keeper.frame ∨ k = Keeper.machine ∨ k = Keeper.boundFrame) ∧ Looks (model prog w) h' (keeperOf f) k) ∧ wpAny (model prog w) A (call f ([] ++ ps) kvs) Q E { s₁ with heap := h' }) :
    KwThen prog w A (do let v ← eval (.Name y p1) (envX fn scope L fa cd cl); standAt p2; pure v) f [] Q E ps s₁ :=
  KwThen.intro F N ha hs hd hl (fun s₂ F₂ ⟨d, o, N₂⟩ => wpAny_bind (wpAny_Name (loadX_F N₂ hc (.tail _ hm) hcd (wpAny_bind (wpAny_standAt (wpAny_pure ⟨rfl, rfl⟩))) hk hx hcl) hb)) h

end
section
section
variable {prog : Program} {w : World} {A : Around} {s : Shared} {h₀ : Heap} {m : Str → Option Value} {news : List (Addr × Obj)} {env : Env} {E : Value → Shared → Prop} {K : Type} [DecidableEq K] {knd : KeyKind prog w K}
abbrev itemIt (d : Addr) (i n ep : Nat) (ok ov : Value) : Obj := { cls := .type "dict_itemiterator", dict := none, data := .fields #[.none, .bool false, .ref d, .int i 0, .int n 0, .int ep 0, ok, ov], slots := #[] }
def NxtI (h₀ : Heap) (L : Addr) (s : Shared) (base : List (Addr × Obj)) (J : (Str → Option Value) → List (Addr × Obj) → Prop) (s₃ : Shared) : Prop :=
  ∃ h' tk' m₂ tl', s₃ = { s with heap := h', toks := tk' } ∧ Fr h₀ L h' m₂ ∧ News h₀ L h' (tl' ++ base) ∧ Above tl' base ∧ J m₂ tl'
theorem NxtI.intro {h₀ : Heap} {L : Addr} {s : Shared} {base : List (Addr × Obj)} {J : (Str → Option Value) → List (Addr × Obj) → Prop} {h' : Heap} {tk' : Nat} {m₂ : Str → Option Value} (tl' : List (Addr × Obj))
    (F : Fr h₀ L h' m₂) (N : News h₀ L h' (tl' ++ base)) (hn : Above tl' base) (hJ : J m₂ tl') : NxtI h₀ L s base J { s with heap := h', toks := tk' } :=
  ⟨h', tk', m₂, tl', rfl, F, N, hn, hJ⟩
theorem loop_itemsM {R : Result → Shared → Prop} {elts : List Expr} {x1} {pos : Pos} {body : List Stmt} {v d : Addr} {vo od : Obj} {kvs : List (K × Value)} (F : Fr h₀ env.locals s.heap m) (N : News h₀ env.locals s.heap news) (hv : (v, vo) ∈ news) (hvc : vo.cls = .type "dict_items") (hvd : vo.data = .fields #[.ref d])
    (hd : (d, od) ∈ news) (hdo : od.IsDictOf knd kvs) (hh : A.handled = none) (J : Nat → (Str → Option Value) → List (Addr × Obj) → Prop) (hj : J 0 m [])
    (turn : ∀ I T i k val key o₁ m₁ tl h tk, kvs[i]? = some (k, val) → knd.is k key = true → J i m₁ tl → Fr h₀ env.locals h m₁ → News h₀ env.locals h ((T, tupO [key, val]) :: (I, o₁) :: (tl ++ news)) → (∀ p ∈ (I, o₁) :: (tl ++ news), p.1 < T) → (∀ p ∈ news, p.1 < I) →
      wpAny (model prog w) A (assign (.Tuple elts x1 pos) env (.ref T)) (fun _ s₂ => wpAny (model prog w) A (execs body env) (fun f s₃ => match f with
        | .next | .cont => NxtI h₀ env.locals s ((T, tupO [key, val]) :: (I, o₁) :: (tl ++ news)) (fun m₂ tl' => J (i + 1) m₂ (tl' ++ (T, tupO [key, val]) :: tl)) s₃
        | .brk => R (.ok .next) s₃
        | .ret v => R (.ok (.ret v)) s₃) (fun _ _ => False) s₂) (fun _ _ => False) { s with heap := h, toks := tk })
    (done : ∀ m₁ tl h tk, J kvs.length m₁ tl → Fr h₀ env.locals h m₁ → News h₀ env.locals h (tl ++ news) → Above tl news → R (.ok .next) { s with heap := h, toks := tk }) :
    wpAny (model prog w) A (pyIter (.ref v)) (fun it s₂ => codeAny (model prog w) A (.forLoop (.Tuple elts x1 pos) it body [] env) R s₂) E s := by
  obtain ⟨es, ep, hx, hdat, hk, hp, hn⟩ := hdo
  have dat : ∀ h : Heap, h.get? d = some od → h.DictAt knd d kvs ep := fun h e => ⟨od, es, e, hx, hdat, hk, hp, hn⟩
  refine wpAny_pyIter_items ⟨vo, (N _ hv).1, hvc, hvd⟩ (dat _ (N _ hd).1) ?_
  have F₁ := F.push (itemIt d 0 kvs.length ep .none .none)
  have N₁ := News.push F N (itemIt d 0 kvs.length ep .none .none)
  have hltI : ∀ p ∈ news, p.1 < s.heap.objs.size := fun p hp => Heap.lt_size (N p hp).1
  generalize hI : s.heap.objs.size = I at N₁ hltI ⊢
  refine codeAny_forLoop_any (fun k s' => ∃ h tk m₁ tl i ok ov, s' = { s with heap := h, toks := tk } ∧ Fr h₀ env.locals h m₁ ∧ News h₀ env.locals h ((I, itemIt d i kvs.length ep ok ov) :: (tl ++ news)) ∧ Above tl ((I, itemIt d 0 0 0 .none .none) :: news) ∧ J i m₁ tl ∧ i ≤ kvs.length ∧ k = kvs.length + 1 - i) ?_ (kvs.length + 1)
    ⟨_, s.toks, m, [], 0, .none, .none, rfl, F₁, N₁, Above.nil, hj, Nat.zero_le _, rfl⟩
  rintro k s' ⟨h, tk, m₁, tl, i, ok, ov, rfl, F₂, N₂, ha, hJ, hi, rfl⟩
  have zI := N₂ (I, _) (.head _)
  have zd := N₂ (d, od) (.tail _ (List.mem_append_right _ hd))
  have neI : ∀ p ∈ tl ++ news, p.1 ≠ I := fun p hp => by
    rcases List.mem_append.mp hp with hp | hp
    · exact Nat.ne_of_gt (ha p hp (I, _) (.head _))
    · exact Nat.ne_of_lt (hltI p hp)
  by_cases hlt : i < kvs.length
  · obtain ⟨kk, val, hget⟩ : ∃ kk val, kvs[i]? = some (kk, val) := ⟨_, _, List.getElem?_eq_getElem hlt⟩
    refine wpAny_pyNext_items_item (s := { s with heap := h, toks := tk }) zI.1 (dat _ zd.1) hget (fun key h₁ hkey hout hT hsz hk₁ => ?_)
    refine wpAny_letOwnedTupleGo_items hout (fun h₂ hit hb => ?_)
    dsimp only at hT hk₁ hb hit
    generalize hTe : h.objs.size = T at hT hb ⊢
    have ltT : ∀ p ∈ (I, itemIt d i kvs.length ep ok ov) :: (tl ++ news), p.1 < T := fun p hp => hTe ▸ Heap.lt_size (N₂ p hp).1
    have up : ∀ b o, b ≠ I → h.get? b = some o → h₂.get? b = some o := fun b o hb' e => hb.extBut b o hb' (hk₁ b o hb' e)
    have F₃ : Fr h₀ env.locals h₂ m₁ := Fr.change' F₂ (fun b o h1 e => up b o h1 e) zI.2.1 zI.2.2
    have N₃ : News h₀ env.locals h₂ ((T, tupO [key, val]) :: (I, itemIt d (i + 1) kvs.length ep key val) :: (tl ++ news)) := by
      intro p hp
      rcases List.mem_cons.mp hp with rfl | hp
      · refine ⟨hb.extBut _ _ (Nat.ne_of_gt (ltT _ (.head _))) hT, Nat.ne_of_gt (hTe ▸ F₂.ns.lt), ?_⟩
        cases q : h₀.get? T with
        | none => rfl
        | some o' => exact absurd (Heap.lt_size (F₂.keep _ _ q)) (by rw [hTe]; exact Nat.lt_irrefl _)
      · rcases List.mem_cons.mp hp with rfl | hp
        · exact ⟨hit, zI.2⟩
        · have z := N₂ p (.tail _ hp)
          exact ⟨up _ _ (neI p hp) z.1, z.2⟩
    refine wpAny_mono (turn I T i kk val key _ m₁ tl h₂ tk hget hkey hJ F₃ N₃ (fun p hp => by
      rcases List.mem_cons.mp hp with rfl | hp
      · exact ltT (I, itemIt d i kvs.length ep ok ov) (.head _)
      · exact ltT p (.tail _ hp)) hltI) (fun _ s₂ h₂ => wpAny_mono h₂ (fun f s₃ h₃ => ?_) fun _ _ e => e.elim) fun _ _ e => e.elim
    have key' : NxtI h₀ env.locals s ((T, tupO [key, val]) :: (I, itemIt d (i + 1) kvs.length ep key val) :: (tl ++ news)) (fun m₂ tl' => J (i + 1) m₂ (tl' ++ (T, tupO [key, val]) :: tl)) s₃ →
        ∃ k', k' < kvs.length + 1 - i ∧ ∃ h tk m₁ tl i ok ov, s₃ = { s with heap := h, toks := tk } ∧ Fr h₀ env.locals h m₁ ∧ News h₀ env.locals h ((I, itemIt d i kvs.length ep ok ov) :: (tl ++ news)) ∧ Above tl ((I, itemIt d 0 0 0 .none .none) :: news) ∧ J i m₁ tl ∧ i ≤ kvs.length ∧ k' = kvs.length + 1 - i := by
      rintro ⟨h', tk', m₂, tl', rfl, F₄, N₄, ha', hJ'⟩
      refine ⟨kvs.length + 1 - (i + 1), by omega, h', tk', m₂, tl' ++ (T, tupO [key, val]) :: tl, i + 1, key, val, rfl, F₄, News.sub N₄ (fun p hp => ?_), ?_, hJ', hlt, rfl⟩
      · simp only [List.mem_append, List.mem_cons] at hp ⊢
        rcases hp with hp | (hp | hp | hp) | hp
        · exact .inr (.inr (.inl hp))
        · exact .inl hp
        · exact .inr (.inl hp)
        · exact .inr (.inr (.inr (.inl hp)))
        · exact .inr (.inr (.inr (.inr hp)))
      · intro p hp q hq
        have hqI : q = (I, itemIt d 0 0 0 .none .none) ∨ q ∈ news := List.mem_cons.mp hq
        rcases List.mem_append.mp hp with hp | hp
        · rcases hqI with rfl | hq
          · show I < p.1; exact ha' p hp (I, itemIt d (i + 1) kvs.length ep key val) (.tail _ (.head _))
          · exact ha' p hp q (.tail _ (.tail _ (List.mem_append_right _ hq)))
        · rcases List.mem_cons.mp hp with rfl | hp
          · rcases hqI with rfl | hq
            · exact ltT (I, itemIt d i kvs.length ep ok ov) (.head _)
            · exact ltT q (.tail _ (List.mem_append_right _ hq))
          · exact ha p hp q hq
    cases f with
    | next => exact key' h₃
    | cont => exact key' h₃
    | brk => exact h₃
    | ret v => exact h₃
  · have e : i = kvs.length := by omega
    subst e
    refine wpAny_pyNext_items_end (s := { s with heap := h, toks := tk }) hh zI.1 (dat _ zd.1) (by simp) (fun h' hb => wpAny_execs_nil (done m₁ tl h' tk hJ (Fr.change' F₂ hb zI.2.1 zI.2.2) (fun p hp => ?_) (fun p hp q hq => ha p hp q (.tail _ hq))))
    have z := N₂ p (.tail _ hp)
    exact ⟨hb p.1 p.2 (neI p hp) z.1, z.2⟩
def NxtR (h₀ : Heap) (L : Addr) (s : Shared) (I : Addr) (o₁ : Obj) (J : (Str → Option Value) → List (Addr × Obj) → Prop) (s₃ : Shared) : Prop :=
  ∃ h' tk' m₂ rest, s₃ = { s with heap := h', toks := tk' } ∧ Fr h₀ L h' m₂ ∧ News h₀ L h' ((I, o₁) :: rest) ∧ (∀ p ∈ rest, p.1 ≠ I) ∧ J m₂ rest
theorem NxtR.intro {h₀ : Heap} {L : Addr} {s : Shared} {I : Addr} {o₁ : Obj} {J : (Str → Option Value) → List (Addr × Obj) → Prop} {h' : Heap} {tk' : Nat} {m₂ : Str → Option Value} {full : List (Addr × Obj)} (rest : List (Addr × Obj))
    (F : Fr h₀ L h' m₂) (N : News h₀ L h' full) (hs : ∀ p ∈ (I, o₁) :: rest, p ∈ full) (hn : ∀ p ∈ rest, p.1 ≠ I) (hJ : J m₂ rest) : NxtR h₀ L s I o₁ J { s with heap := h', toks := tk' } :=
  ⟨h', tk', m₂, rest, rfl, F, News.sub N hs, hn, hJ⟩
theorem loop_itemsR {R : Result → Shared → Prop} {elts : List Expr} {x1} {pos : Pos} {body : List Stmt} {v d : Addr} {vo od : Obj} {kvs : List (K × Value)} (F : Fr h₀ env.locals s.heap m) (N : News h₀ env.locals s.heap news) (hv : (v, vo) ∈ news) (hvc : vo.cls = .type "dict_items") (hvd : vo.data = .fields #[.ref d])
    (hd : (d, od) ∈ news) (hdo : od.IsDictOf knd kvs) (hh : A.handled = none) (J : Nat → (Str → Option Value) → List (Addr × Obj) → Prop) (hj : J 0 m news) (hsrc : ∀ i m₁ rest, J i m₁ rest → (d, od) ∈ rest)
    (turn : ∀ I T i k val key o₁ m₁ rest h tk, kvs[i]? = some (k, val) → knd.is k key = true → J i m₁ rest → Fr h₀ env.locals h m₁ → News h₀ env.locals h ((T, tupO [key, val]) :: (I, o₁) :: rest) → (∀ p ∈ (I, o₁) :: rest, p.1 < T) → (∀ p ∈ rest, p.1 ≠ I) → (∀ p ∈ news, p.1 < I) →
      wpAny (model prog w) A (assign (.Tuple elts x1 pos) env (.ref T)) (fun _ s₂ => wpAny (model prog w) A (execs body env) (fun f s₃ => match f with
        | .next | .cont => NxtR h₀ env.locals s I o₁ (J (i + 1)) s₃
        | .brk => R (.ok .next) s₃
        | .ret v => R (.ok (.ret v)) s₃) (fun _ _ => False) s₂) (fun _ _ => False) { s with heap := h, toks := tk })
    (done : ∀ m₁ rest h tk, J kvs.length m₁ rest → Fr h₀ env.locals h m₁ → News h₀ env.locals h rest → R (.ok .next) { s with heap := h, toks := tk }) :
    wpAny (model prog w) A (pyIter (.ref v)) (fun it s₂ => codeAny (model prog w) A (.forLoop (.Tuple elts x1 pos) it body [] env) R s₂) E s := by
  obtain ⟨es, ep, hx, hdat, hk, hp, hn⟩ := hdo
  have dat : ∀ h : Heap, h.get? d = some od → h.DictAt knd d kvs ep := fun h e => ⟨od, es, e, hx, hdat, hk, hp, hn⟩
  refine wpAny_pyIter_items ⟨vo, (N _ hv).1, hvc, hvd⟩ (dat _ (N _ hd).1) ?_
  have F₁ := F.push (itemIt d 0 kvs.length ep .none .none)
  have N₁ := News.push F N (itemIt d 0 kvs.length ep .none .none)
  have hltI : ∀ p ∈ news, p.1 < s.heap.objs.size := fun p hp => Heap.lt_size (N p hp).1
  generalize hI : s.heap.objs.size = I at N₁ hltI ⊢
  refine codeAny_forLoop_any (fun k s' => ∃ h tk m₁ rest i ok ov, s' = { s with heap := h, toks := tk } ∧ Fr h₀ env.locals h m₁ ∧ News h₀ env.locals h ((I, itemIt d i kvs.length ep ok ov) :: rest) ∧ (∀ p ∈ rest, p.1 ≠ I) ∧ J i m₁ rest ∧ i ≤ kvs.length ∧ k = kvs.length + 1 - i) ?_ (kvs.length + 1)
    ⟨_, s.toks, m, news, 0, .none, .none, rfl, F₁, N₁, fun p hp => Nat.ne_of_lt (hltI p hp), hj, Nat.zero_le _, rfl⟩
  rintro k s' ⟨h, tk, m₁, rest, i, ok, ov, rfl, F₂, N₂, neI, hJ, hi, rfl⟩
  have zI := N₂ (I, _) (.head _)
  have zd := N₂ (d, od) (.tail _ (hsrc _ _ _ hJ))
  by_cases hlt : i < kvs.length
  · obtain ⟨kk, val, hget⟩ : ∃ kk val, kvs[i]? = some (kk, val) := ⟨_, _, List.getElem?_eq_getElem hlt⟩
    refine wpAny_pyNext_items_item (s := { s with heap := h, toks := tk }) zI.1 (dat _ zd.1) hget (fun key h₁ hkey hout hT hsz hk₁ => ?_)
    refine wpAny_letOwnedTupleGo_items hout (fun h₂ hit hb => ?_)
    dsimp only at hT hk₁ hb hit
    generalize hTe : h.objs.size = T at hT hb ⊢
    have ltT : ∀ p ∈ (I, itemIt d i kvs.length ep ok ov) :: rest, p.1 < T := fun p hp => hTe ▸ Heap.lt_size (N₂ p hp).1
    have up : ∀ b o, b ≠ I → h.get? b = some o → h₂.get? b = some o := fun b o hb' e => hb.extBut b o hb' (hk₁ b o hb' e)
    have F₃ : Fr h₀ env.locals h₂ m₁ := Fr.change' F₂ (fun b o h1 e => up b o h1 e) zI.2.1 zI.2.2
    have N₃ : News h₀ env.locals h₂ ((T, tupO [key, val]) :: (I, itemIt d (i + 1) kvs.length ep key val) :: rest) := by
      intro p hp
      rcases List.mem_cons.mp hp with rfl | hp
      · refine ⟨hb.extBut _ _ (Nat.ne_of_gt (ltT _ (.head _))) hT, Nat.ne_of_gt (hTe ▸ F₂.ns.lt), ?_⟩
        cases q : h₀.get? T with
        | none => rfl
        | some o' => exact absurd (Heap.lt_size (F₂.keep _ _ q)) (by rw [hTe]; exact Nat.lt_irrefl _)
      · rcases List.mem_cons.mp hp with rfl | hp
        · exact ⟨hit, zI.2⟩
        · have z := N₂ p (.tail _ hp)
          exact ⟨up _ _ (neI p hp) z.1, z.2⟩
    refine wpAny_mono (turn I T i kk val key _ m₁ rest h₂ tk hget hkey hJ F₃ N₃ (fun p hp => by
      rcases List.mem_cons.mp hp with rfl | hp
      · exact ltT (I, itemIt d i kvs.length ep ok ov) (.head _)
      · exact ltT p (.tail _ hp)) neI hltI) (fun _ s₂ h₂ => wpAny_mono h₂ (fun f s₃ h₃ => ?_) fun _ _ e => e.elim) fun _ _ e => e.elim
    have key' : NxtR h₀ env.locals s I (itemIt d (i + 1) kvs.length ep key val) (J (i + 1)) s₃ →
        ∃ k', k' < kvs.length + 1 - i ∧ ∃ h tk m₁ rest i ok ov, s₃ = { s with heap := h, toks := tk } ∧ Fr h₀ env.locals h m₁ ∧ News h₀ env.locals h ((I, itemIt d i kvs.length ep ok ov) :: rest) ∧ (∀ p ∈ rest, p.1 ≠ I) ∧ J i m₁ rest ∧ i ≤ kvs.length ∧ k' = kvs.length + 1 - i := by
      rintro ⟨h', tk', m₂, rest₂, rfl, F₄, N₄, ha', hJ'⟩
      exact ⟨kvs.length + 1 - (i + 1), by omega, h', tk', m₂, rest₂, i + 1, key, val, rfl, F₄, N₄, ha', hJ', hlt, rfl⟩
    cases f with
    | next => exact key' h₃
    | cont => exact key' h₃
    | brk => exact h₃
    | ret v => exact h₃
  · have e : i = kvs.length := by omega
    subst e
    refine wpAny_pyNext_items_end (s := { s with heap := h, toks := tk }) hh zI.1 (dat _ zd.1) (by simp) (fun h' hb => wpAny_execs_nil (done m₁ rest h' tk hJ (Fr.change' F₂ hb zI.2.1 zI.2.2) (fun p hp => ?_)))
    have z := N₂ p (.tail _ hp)
    exact ⟨hb p.1 p.2 (neI p hp) z.1, z.2⟩
end
section
variable {prog : Program} {w : World} {A : Around} {E : Value → Shared → Prop} {s : Shared} {h₀ : Heap} {L d : Addr} {m : Str → Option Value} {news : List (Addr × Obj)} {o : Obj} {kvs : List (Str × Value)}
theorem itemsMeth {pl : Sem Bool} {Q : Value × List Value → Shared → Prop} (N : News h₀ L s.heap news) (hp : (d, o) ∈ news) (hd : o.IsDictOf (strKind prog w) kvs) (h : Q (.builtin "dict.items", [.ref d]) s) : wpAny (model prog w) A (getMethod (.ref d) (Str.ofString "items") pl) Q E s :=
  have hD := kda_dict N hp hd
  getMethod_builtin hD.typeIs PySem.F.plainAttrs_dict PySem.F.slot_dict_items PySem.F.type_dict_items hD.mapOf.noDict h
theorem itemsCall {Q : Value → Shared → Prop} (F : Fr h₀ L s.heap m) (N : News h₀ L s.heap news) (hp : (d, o) ∈ news) (hd : o.IsDictOf (strKind prog w) kvs) (lo : (d == sysModules) = false)
    (h : ∀ v h', Fr h₀ L h' m → News h₀ L h' ((v, ({ cls := .type "dict_items", data := .fields #[.ref d] } : Obj)) :: news) → (∀ p ∈ news, p.1 < v) → Q (.ref v) { s with heap := h' }) :
    wpAny (model prog w) A (call (.builtin "dict.items") [.ref d]) Q E s :=
  have hD := kda_dict N hp hd
  call_meetsIn PySem.F.slot_dict_items hD.typeIs PySem.F.entry_dict_items (PySem.F.args_dict_items_1 _) (meets_dict_items (strKind prog w) d lo) ⟨⟨kvs, hD⟩, h _ _ (F.push _) (News.push F N _) (fun p hp => Heap.lt_size (N p hp).1)⟩
end
section
variable {prog : Program} {w : World} {A : Around} {s : Shared} {h₀ : Heap} {m : Str → Option Value} {news : List (Addr × Obj)} {env : Env} {E : Value → Shared → Prop}
theorem loop_tupleR {R : Result → Shared → Prop} {target : Expr} {body : List Stmt} {l : Addr} {lo : Obj} {vs : List Value} {ep : Nat} (F : Fr h₀ env.locals s.heap m) (N : News h₀ env.locals s.heap news) (hm : (l, lo) ∈ news) (hc : lo.cls = .type "tuple") (hd : lo.data = .seq vs.toArray ep)
    (hh : A.handled = none) (J : Nat → (Str → Option Value) → List (Addr × Obj) → Prop) (hj : J 0 m news) (hsrc : ∀ i m₁ rest, J i m₁ rest → (l, lo) ∈ rest)
    (turn : ∀ I i v o₁ m₁ rest h tk, vs[i]? = some v → J i m₁ rest → Fr h₀ env.locals h m₁ → News h₀ env.locals h ((I, o₁) :: rest) → (∀ p ∈ rest, p.1 ≠ I) → (∀ p ∈ news, p.1 < I) →
      wpAny (model prog w) A (assign target env v) (fun _ s₂ => wpAny (model prog w) A (execs body env) (fun f s₃ => match f with
        | .next | .cont => NxtR h₀ env.locals s I o₁ (J (i + 1)) s₃
        | .brk => R (.ok .next) s₃
        | .ret v => R (.ok (.ret v)) s₃) (fun _ _ => False) s₂) (fun _ _ => False) { s with heap := h, toks := tk })
    (done : ∀ m₁ rest h tk, J vs.length m₁ rest → Fr h₀ env.locals h m₁ → News h₀ env.locals h rest → R (.ok .next) { s with heap := h, toks := tk }) :
    wpAny (model prog w) A (pyIter (.ref l)) (fun it s₂ => codeAny (model prog w) A (.forLoop target it body [] env) R s₂) E s :=
  pyIter_tupleY F N hm hc hd (fun I o h' F' N' hlt hI => loop_iter (s := { s with heap := h' }) (iterTuple (l := l) hc hd) hh J (fun i m₁ rest hJ p hp => by rcases List.mem_singleton.mp hp with rfl; exact hsrc i m₁ rest hJ) F' N' (fun p hp => Nat.ne_of_lt (hlt p hp)) hI hj
    (fun i v o₁ m₁ rest h tk _ hP hJ F₁ N₁ hne => turn I i v o₁ m₁ rest h tk hP hJ F₁ N₁ hne hlt) done)
theorem loop_listR {R : Result → Shared → Prop} {target : Expr} {body : List Stmt} {l : Addr} {lo : Obj} {vs : List Value} {ep : Nat} (F : Fr h₀ env.locals s.heap m) (N : News h₀ env.locals s.heap news) (hm : (l, lo) ∈ news) (hc : lo.cls = .type "list") (hd : lo.data = .seq vs.toArray ep)
    (hh : A.handled = none) (J : Nat → (Str → Option Value) → List (Addr × Obj) → Prop) (hj : J 0 m news) (hsrc : ∀ i m₁ rest, J i m₁ rest → (l, lo) ∈ rest)
    (turn : ∀ I i v o₁ m₁ rest h tk, vs[i]? = some v → J i m₁ rest → Fr h₀ env.locals h m₁ → News h₀ env.locals h ((I, o₁) :: rest) → (∀ p ∈ rest, p.1 ≠ I) → (∀ p ∈ news, p.1 < I) →
      wpAny (model prog w) A (assign target env v) (fun _ s₂ => wpAny (model prog w) A (execs body env) (fun f s₃ => match f with
        | .next | .cont => NxtR h₀ env.locals s I o₁ (J (i + 1)) s₃
        | .brk => R (.ok .next) s₃
        | .ret v => R (.ok (.ret v)) s₃) (fun _ _ => False) s₂) (fun _ _ => False) { s with heap := h, toks := tk })
    (done : ∀ m₁ rest h tk, J vs.length m₁ rest → Fr h₀ env.locals h m₁ → News h₀ env.locals h rest → R (.ok .next) { s with heap := h, toks := tk }) :
    wpAny (model prog w) A (pyIter (.ref l)) (fun it s₂ => codeAny (model prog w) A (.forLoop target it body [] env) R s₂) E s :=
  pyIter_listY F N hm hc hd (fun I o h' F' N' hlt hI => loop_iter (s := { s with heap := h' }) (iterList (l := l) hc hd) hh J (fun i m₁ rest hJ p hp => by rcases List.mem_singleton.mp hp with rfl; exact hsrc i m₁ rest hJ) F' N' (fun p hp => Nat.ne_of_lt (hlt p hp)) hI hj
    (fun i v o₁ m₁ rest h tk _ hP hJ F₁ N₁ hne => turn I i v o₁ m₁ rest h tk hP hJ F₁ N₁ hne hlt) done)
end

end
section
section
variable {prog : Program} {w : World} {A : Around} {s : Shared} {h₀ : Heap} {m : Str → Option Value} {news : List (Addr × Obj)} {env : Env} {E : Value → Shared → Prop}
abbrev enumO (it : Addr) (i : Int) (old : Value) : Obj := { cls := .type "enumerate", dict := none, data := .fields #[.none, .bool false, .ref it, rawInt i, .none, old], slots := #[] }
abbrev listIt (l : Addr) (i : Nat) : Obj := { cls := .type "list_iterator", data := .fields #[.ref l, .int i 0] }
theorem enumListY {L l : Addr} {lo : Obj} {vs : List Value} {ep : Nat} {Q : Value → Shared → Prop} (F : Fr h₀ L s.heap m) (N : News h₀ L s.heap news) (hm : (l, lo) ∈ news) (hc : lo.cls = .type "list") (hd : lo.data = .seq vs.toArray ep)
    (h : ∀ e I io h', Fr h₀ L h' m → News h₀ L h' ((e, enumO I 0 .none) :: (I, io) :: news) → io.cls = .type "list_iterator" → io.data = .fields #[.ref l, .int 0 0] → (∀ p ∈ news, p.1 < I) → ltA I e → Q (.ref e) { s with heap := h' }) :
    wpAny (model prog w) A (call (.type "enumerate") [.ref l]) Q E s := by
  refine call_enumerate_list ⟨lo, (N _ hm).1, hc, ep, hd⟩ (fun h' he hit hsz hk => ?_)
  obtain ⟨io, hio, hic, hid⟩ := hit
  have fresh : ∀ b, s.heap.objs.size ≤ b → b ≠ L ∧ h₀.get? b = none := fun b hb => ⟨Nat.ne_of_gt (Nat.lt_of_lt_of_le F.ns.lt hb), by
    cases q : h₀.get? b with
    | none => rfl
    | some o' => exact absurd (Heap.lt_size (F.keep _ _ q)) (Nat.not_lt.mpr hb)⟩
  refine h _ _ io h' ⟨F.ns.keeps hk, fun b o e => hk b o (F.keep b o e), F.above⟩ (fun p hp => ?_) hic hid (fun p hp => Heap.lt_size (N p hp).1) (Nat.lt_succ_self _)
  rcases List.mem_cons.mp hp with rfl | hp
  · exact ⟨he, fresh _ (Nat.le_succ _)⟩
  · rcases List.mem_cons.mp hp with rfl | hp
    · exact ⟨hio, fresh _ (Nat.le_refl _)⟩
    · exact ⟨hk _ _ (N p hp).1, (N p hp).2⟩
theorem loop_enumM {R : Result → Shared → Prop} {elts : List Expr} {x1} {pos : Pos} {body : List Stmt} {e I l : Addr} {io lo : Obj} {vs : List Value} {ep : Nat} (F : Fr h₀ env.locals s.heap m) (N : News h₀ env.locals s.heap ((e, enumO I 0 .none) :: (I, io) :: news)) (hic : io.cls = .type "list_iterator") (hid : io.data = .fields #[.ref l, .int 0 0])
    (hltI : ∀ p ∈ news, p.1 < I) (hIe : ltA I e) (hl : (l, lo) ∈ news) (hlc : lo.cls = .type "list") (hld : lo.data = .seq vs.toArray ep) (hh : A.handled = none)
    (J : Nat → (Str → Option Value) → List (Addr × Obj) → Prop) (hj : J 0 m [])
    (turn : ∀ T i v t eo₁ io₁ m₁ tl h tk, vs[i]? = some v → J i m₁ tl → Fr h₀ env.locals h m₁ → News h₀ env.locals h ((T, tupO [.int i t, v]) :: (e, eo₁) :: (I, io₁) :: (tl ++ news)) → (∀ p ∈ (e, eo₁) :: (I, io₁) :: (tl ++ news), p.1 < T) →
      wpAny (model prog w) A (assign (.Tuple elts x1 pos) env (.ref T)) (fun _ s₂ => wpAny (model prog w) A (execs body env) (fun f s₃ => match f with
        | .next | .cont => NxtI h₀ env.locals s ((T, tupO [.int i t, v]) :: (e, eo₁) :: (I, io₁) :: (tl ++ news)) (fun m₂ tl' => J (i + 1) m₂ (tl' ++ (T, tupO [.int i t, v]) :: tl)) s₃
        | .brk => R (.ok .next) s₃
        | .ret v => R (.ok (.ret v)) s₃) (fun _ _ => False) s₂) (fun _ _ => False) { s with heap := h, toks := tk })
    (done : ∀ m₁ tl h tk, J vs.length m₁ tl → Fr h₀ env.locals h m₁ → News h₀ env.locals h (tl ++ news) → Above tl news → R (.ok .next) { s with heap := h, toks := tk }) :
    wpAny (model prog w) A (pyIter (.ref e)) (fun it s₂ => codeAny (model prog w) A (.forLoop (.Tuple elts x1 pos) it body [] env) R s₂) E s := by
  refine wpAny_pyIter_enum (N (e, _) (.head _)).1 ?_
  have neeI : e ≠ I := Nat.ne_of_gt hIe
  refine codeAny_forLoop_any (fun k s' => ∃ h tk m₁ tl i old io₁, s' = { s with heap := h, toks := tk } ∧ Fr h₀ env.locals h m₁ ∧ News h₀ env.locals h ((e, enumO I (i : Nat) old) :: (I, io₁) :: (tl ++ news)) ∧ io₁.cls = .type "list_iterator" ∧ io₁.data = .fields #[.ref l, .int i 0] ∧ Above tl ((e, io) :: (I, io) :: news) ∧ J i m₁ tl ∧ i ≤ vs.length ∧ k = vs.length + 1 - i) ?_ (vs.length + 1)
    ⟨_, s.toks, m, [], 0, .none, io, rfl, F, N, hic, hid, Above.nil, hj, Nat.zero_le _, rfl⟩
  rintro k s' ⟨h, tk, m₁, tl, i, old, io₁, rfl, F₂, N₂, hic₁, hid₁, ha, hJ, hi, rfl⟩
  have ze := N₂ (e, _) (.head _)
  have zI := N₂ (I, io₁) (.tail _ (.head _))
  have zl := N₂ (l, lo) (.tail _ (.tail _ (List.mem_append_right _ hl)))
  have neI : ∀ p ∈ tl ++ news, p.1 ≠ I ∧ p.1 ≠ e := fun p hp => by
    rcases List.mem_append.mp hp with hp | hp
    · exact ⟨Nat.ne_of_gt (ha p hp (I, io) (.tail _ (.head _))), Nat.ne_of_gt (ha p hp (e, io) (.head _))⟩
    · exact ⟨Nat.ne_of_lt (hltI p hp), Nat.ne_of_lt (Nat.lt_trans (hltI p hp) hIe)⟩
  by_cases hlt : i < vs.length
  · obtain ⟨v, hget⟩ : ∃ v, vs[i]? = some v := ⟨_, List.getElem?_eq_getElem hlt⟩
    refine wpAny_pyNext_enum_item (s := { s with heap := h, toks := tk }) (items := vs.toArray) (x := v) ze.1 ⟨io₁, zI.1, hic₁, hid₁⟩ ⟨lo, zl.1, hlc, ep, hld⟩ (by simpa using hget) neeI (fun h₁ hout hit hT hsz hk₁ => ?_)
    refine wpAny_letOwnedTupleGo_enum hout (fun h₂ he hb => ?_)
    dsimp only at hT hk₁ hb he hit
    obtain ⟨io₂, hio₂, hic₂, hid₂⟩ := hit
    generalize hTe : h.objs.size = T at hT hb ⊢
    have ltT : ∀ p ∈ (e, enumO I (i : Nat) old) :: (I, io₁) :: (tl ++ news), p.1 < T := fun p hp => hTe ▸ Heap.lt_size (N₂ p hp).1
    have up : ∀ b o, b ≠ e → b ≠ I → h.get? b = some o → h₂.get? b = some o := fun b o h1 h2 x => hb.extBut b o h1 (hk₁ b o h1 h2 x)
    have F₃ : Fr h₀ env.locals h₂ m₁ := by
      obtain ⟨oL, a1, a2, hL, a3⟩ := F₂.ns
      refine ⟨⟨oL, a1, a2, up _ _ (Ne.symm ze.2.1) (Ne.symm zI.2.1) hL, a3⟩, fun b o x => up b o (fun q => by rw [q, ze.2.2] at x; cases x) (fun q => by rw [q, zI.2.2] at x; cases x) (F₂.keep b o x), F₂.above⟩
    have ecast : ((i : Nat) : Int) + 1 = ((i + 1 : Nat) : Int) := by push_cast; rfl
    have N₃ : News h₀ env.locals h₂ ((T, tupO [.int i tk, v]) :: (e, enumO I ((i + 1 : Nat) : Int) v) :: (I, io₂) :: (tl ++ news)) := by
      intro p hp
      rcases List.mem_cons.mp hp with rfl | hp
      · refine ⟨hb.extBut _ _ (Nat.ne_of_gt (ltT _ (.head _))) hT, Nat.ne_of_gt (hTe ▸ F₂.ns.lt), ?_⟩
        cases q : h₀.get? T with
        | none => rfl
        | some o' => exact absurd (Heap.lt_size (F₂.keep _ _ q)) (by rw [hTe]; exact Nat.lt_irrefl _)
      · rcases List.mem_cons.mp hp with rfl | hp
        · exact ⟨by rw [← ecast]; exact he, ze.2⟩
        · rcases List.mem_cons.mp hp with rfl | hp
          · exact ⟨hb.extBut _ _ (Ne.symm neeI) hio₂, zI.2⟩
          · have z := N₂ p (.tail _ (.tail _ hp))
            exact ⟨up _ _ (neI p hp).2 (neI p hp).1 z.1, z.2⟩
    refine wpAny_mono (turn T i v tk _ io₂ m₁ tl h₂ (tk + 1) hget hJ F₃ N₃ (fun p hp => by
      rcases List.mem_cons.mp hp with rfl | hp
      · exact ltT (e, enumO I (i : Nat) old) (.head _)
      · rcases List.mem_cons.mp hp with rfl | hp
        · exact ltT (I, io₁) (.tail _ (.head _))
        · exact ltT p (.tail _ (.tail _ hp)))) (fun _ s₂ h₂ => wpAny_mono h₂ (fun f s₃ h₃ => ?_) fun _ _ e => e.elim) fun _ _ e => e.elim
    have key' : NxtI h₀ env.locals s ((T, tupO [.int i tk, v]) :: (e, enumO I ((i + 1 : Nat) : Int) v) :: (I, io₂) :: (tl ++ news)) (fun m₂ tl' => J (i + 1) m₂ (tl' ++ (T, tupO [.int i tk, v]) :: tl)) s₃ →
        ∃ k', k' < vs.length + 1 - i ∧ ∃ h tk m₁ tl i old io₁, s₃ = { s with heap := h, toks := tk } ∧ Fr h₀ env.locals h m₁ ∧ News h₀ env.locals h ((e, enumO I (i : Nat) old) :: (I, io₁) :: (tl ++ news)) ∧ io₁.cls = .type "list_iterator" ∧ io₁.data = .fields #[.ref l, .int i 0] ∧ Above tl ((e, io) :: (I, io) :: news) ∧ J i m₁ tl ∧ i ≤ vs.length ∧ k' = vs.length + 1 - i := by
      rintro ⟨h', tk', m₂, tl', rfl, F₄, N₄, ha', hJ'⟩
      refine ⟨vs.length + 1 - (i + 1), by omega, h', tk', m₂, tl' ++ (T, tupO [.int i tk, v]) :: tl, i + 1, v, io₂, rfl, F₄, News.sub N₄ (fun p hp => ?_), hic₂, hid₂, ?_, hJ', hlt, rfl⟩
      · simp only [List.mem_append, List.mem_cons] at hp ⊢
        rcases hp with hp | hp | (hp | hp | hp) | hp
        · exact .inr (.inr (.inl hp))
        · exact .inr (.inr (.inr (.inl hp)))
        · exact .inl hp
        · exact .inr (.inl hp)
        · exact .inr (.inr (.inr (.inr (.inl hp))))
        · exact .inr (.inr (.inr (.inr (.inr hp))))
      · intro p hp q hq
        rcases List.mem_append.mp hp with hp | hp
        · rcases List.mem_cons.mp hq with rfl | hq
          · show e < p.1; exact ha' p hp (e, enumO I ((i + 1 : Nat) : Int) v) (.tail _ (.head _))
          · rcases List.mem_cons.mp hq with rfl | hq
            · show I < p.1; exact ha' p hp (I, io₂) (.tail _ (.tail _ (.head _)))
            · exact ha' p hp q (.tail _ (.tail _ (.tail _ (List.mem_append_right _ hq))))
        · rcases List.mem_cons.mp hp with rfl | hp
          · rcases List.mem_cons.mp hq with rfl | hq
            · show e < T; exact ltT (e, enumO I (i : Nat) old) (.head _)
            · rcases List.mem_cons.mp hq with rfl | hq
              · show I < T; exact ltT (I, io₁) (.tail _ (.head _))
              · exact ltT q (.tail _ (.tail _ (List.mem_append_right _ hq)))
          · exact ha p hp q hq
    cases f with
    | next => exact key' h₃
    | cont => exact key' h₃
    | brk => exact h₃
    | ret v => exact h₃
  · have ei : i = vs.length := by omega
    subst ei
    refine wpAny_pyNext_enum_end (s := { s with heap := h, toks := tk }) (items := vs.toArray) hh ze.1 ⟨io₁, zI.1, hic₁, hid₁⟩ ⟨lo, zl.1, hlc, ep, hld⟩ (by simp) (fun h' hb => wpAny_execs_nil (done m₁ tl h' tk hJ (Fr.change' F₂ hb zI.2.1 zI.2.2) (fun p hp => ?_) (fun p hp q hq => ha p hp q (.tail _ (.tail _ hq)))))
    have z := N₂ p (.tail _ (.tail _ hp))
    exact ⟨hb p.1 p.2 (neI p hp).1 z.1, z.2⟩
end

end
section
open Sem (wp) in
theorem meets_enumT (l : Addr) (items : Array Value) (n : Nat) (dct : Option Addr) (sl : Array (Option Value)) :
    Meets (Builtin.«enumerate.__new__» ⟨[.type "enumerate", .ref l], []⟩) (fun _ R s => s.heap.get? l = some { cls := .type "tuple", dict := dct, data := .seq items n, slots := sl } ∧
      R (.ok (.ret (.ref (s.heap.push { cls := .type "tuple_iterator", data := .fields #[.ref l, .int 0 0] }).objs.size)))
        { s with heap := (s.heap.push { cls := .type "tuple_iterator", data := .fields #[.ref l, .int 0 0] }).push { cls := .type "enumerate", data := .fields #[.none, .bool false, .ref s.heap.objs.size, rawInt 0, .none, .none] } }) :=
  .of_wp fun prog w A R s h => by
    obtain ⟨hp, g, d, tk, os⟩ := s; obtain ⟨hl, h⟩ := h
    have hsub := sub_enumerate
    have hL : Heap.IsTuple (Shared.heap ⟨hp, g, d, tk, os⟩) l items := ⟨_, hl, rfl, n, rfl⟩
    wp_walk using AutoSeq1.wpAny_loadPart' hl
    refine wpAny_stack_any fun st => wpAny_pure ?_
    split
    · rename_i c _ _ _ _ _
      cases (c == Value.type "enumerate")
      · wp_walk using AutoSeq1.wpAny_loadPart' hl, wpAny_pyIter_tuple hL
        exact ⟨_, rfl, h⟩
      · wp_walk using AutoSeq1.wpAny_loadPart' hl, wpAny_pyIter_tuple hL
        exact ⟨_, rfl, h⟩
    · wp_walk using AutoSeq1.wpAny_loadPart' hl, wpAny_pyIter_tuple hL
      exact ⟨_, rfl, h⟩
section
variable {prog : Program} {w : World} {A : Around} {s : Shared} {h₀ : Heap} {m : Str → Option Value} {news : List (Addr × Obj)} {E : Value → Shared → Prop}
abbrev tupIt (t : Addr) (i : Nat) : Obj := { cls := .type "tuple_iterator", data := .fields #[.ref t, .int i 0] }
theorem enumTupY {L l : Addr} {vs : List Value} {Q : Value → Shared → Prop} (FF : Fr h₀ L s.heap m) (N : News h₀ L s.heap news) (hm : (l, tupO vs) ∈ news)
    (h : ∀ e I h', Fr h₀ L h' m → News h₀ L h' ((e, enumO I 0 .none) :: (I, tupIt l 0) :: news) → (∀ p ∈ news, p.1 < I) → ltA I e → Q (.ref e) { s with heap := h' }) :
    wpAny (model prog w) A (call (.type "enumerate") [.ref l]) Q E s := by
  have hl := (N _ hm).1
  have F₁ := FF.push (tupIt l 0)
  have N₁ := News.push FF N (tupIt l 0)
  have F₂ := F₁.push (enumO s.heap.objs.size 0 .none)
  have N₂ := News.push F₁ N₁ (enumO s.heap.objs.size 0 .none)
  have hz : (s.heap.push (tupIt l 0)).objs.size = s.heap.objs.size + 1 := Heap.size_push ..
  refine callType_new F.called_enumerate (by decide) (F.typeCall_enumerate_1 _) (F.newCall_enumerate_1 _) (fun obj => F.args_object_init_2 obj _) F.entry_enumerate_new
    (meets_enumT l vs.toArray _ _ _) ⟨hl, ?_⟩
  show _ ∧ _
  refine ⟨⟨_, (N₂ _ (.head _)).1, rfl⟩, h _ _ _ F₂ N₂ (fun p hp => Heap.lt_size (N p hp).1) ?_⟩
  show s.heap.objs.size < (s.heap.push (tupIt l 0)).objs.size
  rw [hz]; exact Nat.lt_succ_self _
theorem nextOf_tuple_item {it t : Addr} {i : Nat} {items : Array Value} {x : Value} {Q : Value → Shared → Prop} (hit : s.heap.IsTupleIter it t i) (ht : s.heap.IsTuple t items) (hx : items[i]? = some x)
    (hQ : ∀ h', h'.IsTupleIter it t (i + 1) → Heap.SameBut it s.heap h' → Q x { s with heap := h' }) : wpAny (model prog w) A (Builtin.SmallTypes.nextOf (.ref it)) Q E s := by
  obtain ⟨o, ho, hc, hd⟩ := id hit
  obtain ⟨ol, hol, _, nl, hdl⟩ := ht
  unfold Builtin.SmallTypes.nextOf
  refine wpAny_bind (wpAny_callSpecial?_slot (name := Str.ofString "__next__") hit.typeIs F.slot_tuple_iterator_next
    (wpAny_call_entry F.slot_tuple_iterator_next hit.typeIs F.entry_tuple_iterator_next ?_ (F.args_tuple_iterator_next_1 _)))
  show wpAny _ _ (field (.ref it) 0 >>= _) _ _ s
  refine wpAny_bind (wpAny_field ho hd (x := .ref t) rfl ?_)
  show wpAny _ _ (if (Value.ref t == Value.none) = true then _ else _) _ _ s
  rw [if_neg (show ¬ ((Value.ref t == Value.none) = true) from Bool.false_ne_true)]
  show wpAny _ _ (field (.ref it) 1 >>= _) _ _ s
  refine wpAny_bind (wpAny_field ho hd (x := .int i 0) rfl ?_)
  show wpAny _ _ (seqItems? (.ref t) >>= _) _ _ s
  refine wpAny_bind (wpAny_seqItems hol hdl ?_)
  simp only [Int.toNat_natCast, hx]
  refine wpAny_bind (wpAny_setField ho hd (by simp) (wpAny_pure ⟨x, rfl, wpAny_pure (hQ _ ?_ (Heap.SameBut.update ..))⟩))
  exact ⟨_, Heap.get?_update_self _ ho (Obj.isFreed_of_fields (Obj.data_mapFields hd _)), (Obj.cls_mapFields ..).trans hc, by
    rw [Obj.data_mapFields hd]; simp [rawInt]⟩
theorem nextOf_tuple_end {it t : Addr} {i : Nat} {items : Array Value} {Q : Value → Shared → Prop} (hh : A.handled = none)
    (hit : s.heap.IsTupleIter it t i) (ht : s.heap.IsTuple t items) (hx : items[i]? = none)
    (hE : ∀ h' e, Heap.ExtBut it s.heap h' → (∃ o, h'.get? e = some o ∧ o.cls = .type "StopIteration") → E (.ref e) { s with heap := h' }) :
    wpAny (model prog w) A (Builtin.SmallTypes.nextOf (.ref it)) Q E s := by
  obtain ⟨o, ho, hc, hd⟩ := id hit
  obtain ⟨ol, hol, _, nl, hdl⟩ := ht
  unfold Builtin.SmallTypes.nextOf
  refine wpAny_bind (wpAny_callSpecial?_slot (name := Str.ofString "__next__") hit.typeIs F.slot_tuple_iterator_next
    (wpAny_call_entry F.slot_tuple_iterator_next hit.typeIs F.entry_tuple_iterator_next ?_ (F.args_tuple_iterator_next_1 _)))
  show wpAny _ _ (field (.ref it) 0 >>= _) _ _ s
  refine wpAny_bind (wpAny_field ho hd (x := .ref t) rfl ?_)
  show wpAny _ _ (if (Value.ref t == Value.none) = true then _ else _) _ _ s
  rw [if_neg (show ¬ ((Value.ref t == Value.none) = true) from Bool.false_ne_true)]
  show wpAny _ _ (field (.ref it) 1 >>= _) _ _ s
  refine wpAny_bind (wpAny_field ho hd (x := .int i 0) rfl ?_)
  show wpAny _ _ (seqItems? (.ref t) >>= _) _ _ s
  refine wpAny_bind (wpAny_seqItems hol hdl ?_)
  simp only [Int.toNat_natCast, hx]
  refine wpAny_bind (wpAny_rule (wpAny_bind (wpAny_setField ho hd (by simp) ?_)))
  show wpAny _ _ (newExc (.type "StopIteration") [] >>= _) _ _ _
  refine wpAny_bind ?_
  simp only [newExc, newTuple]
  refine wpAny_bind (wpAny_newObj_type ?_ (by size_fits))
  refine wpAny_bind (m := firstArgMember _ _) (wpAny_of_eq (a := Value.none) (by first | rfl | (simp only [firstArgMember]; rfl)) ?_)
  refine wpAny_newObj_type ?_ (by size_fits)
  simp only [raiseNew]
  refine wpAny_bind (wpAny_handled ?_)
  first | rw [show A.in1.handled = none from hh] | rw [hh]
  refine wpAny_bind (wpAny_pure (wpAny_throw ?_))
  exact hE _ _ (((Heap.SameBut.update ..).extBut.push _).push _) ⟨_, Heap.get?_push_size _ rfl, rfl⟩
theorem draws_tuple {it t : Addr} {items : Array Value} (hh : A.handled = none) (hne : t ≠ it) : Draws prog w A it [it, t] items.size (fun i x => items[i]? = some x) (fun i h => h.IsTupleIter it t i ∧ h.IsTuple t items) where
  live := fun i h x => let ⟨o, ho, _⟩ := x.1; ⟨o, ho⟩
  frame := fun i h h' x k => by
    obtain ⟨⟨o, ho, r⟩, o', ho', r'⟩ := x
    exact ⟨⟨o, k _ (.head _) _ ho, r⟩, o', k _ (.tail _ (.head _)) _ ho', r'⟩
  item := fun i s Q E hi x hQ => by
    obtain ⟨v, hv⟩ : ∃ v, items[i]? = some v := ⟨_, Array.getElem?_eq_getElem hi⟩
    refine nextOf_tuple_item x.1 x.2 hv fun h' h1 h2 => hQ v h' s.toks hv ⟨h1, x.2.extBut h2.extBut hne⟩ h2
  done := fun s Q E x hE => nextOf_tuple_end hh x.1 x.2 (Array.getElem?_eq_none (Nat.le_refl _)) hE
theorem enum_turn {L e I t : Addr} {io : Obj} {vs : List Value} {i : Nat} {v old : Value} {elts : List Expr} {x1 : Nat} {pos : Pos} {Q : Addr → Shared → Prop} (hh : A.handled = none) (FF : Fr h₀ L s.heap m) (N : News h₀ L s.heap ((e, enumO I (i : Nat) old) :: (I, io) :: news)) (hic : io.cls = .type "tuple_iterator") (hid : io.data = .fields #[.ref t, .int i 0])
    (hIe : I ≠ e) (hne : ∀ p ∈ news, p.1 ≠ I ∧ p.1 ≠ e) (ht : (t, tupO vs) ∈ news) (hv : vs[i]? = some v)
    (h : ∀ T io' tk1 tk h', Fr h₀ L h' m → News h₀ L h' ((T, tupO [.int i tk1, v]) :: (e, enumO I ((i + 1 : Nat) : Int) v) :: (I, io') :: news) → io'.cls = .type "tuple_iterator" → io'.data = .fields #[.ref t, .int (i + 1 : Nat) 0] →
      (∀ p ∈ (e, enumO I (i : Nat) old) :: (I, io) :: news, p.1 < T) → Q T { s with heap := h', toks := tk }) :
    wpAny (model prog w) A (pyNext (.ref e)) (fun r s' => ∃ T, r = some (.ref T) ∧ wpAny (model prog w) A (letOwnedTupleGo (.Tuple elts x1 pos) (.ref e) (.ref T)) (fun _ s'' => Q T s'') (fun _ _ => False) s') E s := by
  have ze := N (e, _) (.head _)
  have zI := N (I, io) (.tail _ (.head _))
  have zt := N (t, _) (.tail _ (.tail _ ht))
  have ltT : ∀ p ∈ (e, enumO I (i : Nat) old) :: (I, io) :: news, p.1 < s.heap.objs.size := fun p hp => Heap.lt_size (N p hp).1
  refine wpAny_pyNext_enum_itemD (draws_tuple hh (hne _ ht).1 (items := vs.toArray)) ze.1 ⟨⟨_, zI.1, hic, hid⟩, _, zt.1, rfl, _, rfl⟩ (by simpa using (List.getElem?_eq_some_iff.mp hv).1) hIe.symm (by simp [hIe.symm, (hne _ ht).2.symm]) fun x h₁ tk hP hout hst hT hsz hk => ?_
  obtain rfl : v = x := by
    have z : vs[i]? = some x := by simpa using hP
    rw [hv] at z; exact Option.some.inj z
  refine ⟨_, rfl, wpAny_letOwnedTupleGo_enum hout fun h₂ he₂ hs₂ => ?_⟩
  obtain ⟨⟨io', hio, hic', hid'⟩, _⟩ := hst
  dsimp only at hs₂
  have up : ∀ b o, b ≠ e → b ≠ I → s.heap.get? b = some o → h₂.get? b = some o := fun b o h1 h2 x => (hs₂.2 b h1).trans (hk b o h1 h2 x)
  have neT : s.heap.objs.size ≠ e := Nat.ne_of_gt (ltT _ (.head _))
  have newT : s.heap.objs.size ≠ L ∧ h₀.get? s.heap.objs.size = none := ⟨Nat.ne_of_gt FF.ns.lt, Heap.get?_none_of_le (Nat.le_trans FF.above (Nat.le_of_lt FF.ns.lt))⟩
  refine h _ io' tk (tk + 1) h₂ ?_ (fun p hp => ?_) hic' hid' ltT
  · obtain ⟨oL, a1, a2, hL, a3⟩ := FF.ns
    exact ⟨⟨oL, a1, a2, up _ _ (Ne.symm ze.2.1) (Ne.symm zI.2.1) hL, a3⟩, fun b o x => up b o (fun q => by rw [q, ze.2.2] at x; cases x) (fun q => by rw [q, zI.2.2] at x; cases x) (FF.keep b o x), FF.above⟩
  · rcases List.mem_cons.mp hp with rfl | hp
    · exact ⟨(hs₂.2 _ neT).trans hT, newT⟩
    · rcases List.mem_cons.mp hp with rfl | hp
      · exact ⟨he₂, ze.2⟩
      · rcases List.mem_cons.mp hp with rfl | hp
        · exact ⟨(hs₂.2 _ hIe).trans hio, zI.2⟩
        · have z := N p (.tail _ (.tail _ hp))
          exact ⟨up _ _ (hne p hp).2 (hne p hp).1 z.1, z.2⟩
theorem enum_end {L e I t : Addr} {io : Obj} {vs : List Value} {old : Value} {Q : Option Value → Shared → Prop} (hh : A.handled = none) (FF : Fr h₀ L s.heap m) (N : News h₀ L s.heap ((e, enumO I (vs.length : Nat) old) :: (I, io) :: news)) (hic : io.cls = .type "tuple_iterator") (hid : io.data = .fields #[.ref t, .int vs.length 0])
    (hne : ∀ p ∈ news, p.1 ≠ I ∧ p.1 ≠ e) (hIe : I ≠ e) (ht : (t, tupO vs) ∈ news) (h : ∀ h', Fr h₀ L h' m → News h₀ L h' ((e, enumO I (vs.length : Nat) old) :: news) → Q none { s with heap := h' }) :
    wpAny (model prog w) A (pyNext (.ref e)) Q E s := by
  have ze := N (e, _) (.head _)
  have zI := N (I, io) (.tail _ (.head _))
  have zt := N (t, _) (.tail _ (.tail _ ht))
  have hsz : vs.toArray.size = vs.length := by simp
  refine wpAny_pyNext_enum_endD (draws_tuple hh (hne _ ht).1 (items := vs.toArray)) ze.1 ⟨⟨_, zI.1, hic, by rw [hid, hsz]⟩, _, zt.1, rfl, _, rfl⟩ fun h' hx => ?_
  refine h h' ?_ fun p hp => ?_
  · obtain ⟨oL, a1, a2, hL, a3⟩ := FF.ns
    exact ⟨⟨oL, a1, a2, hx _ _ (Ne.symm zI.2.1) hL, a3⟩, fun b o x => hx b o (fun q => by rw [q, zI.2.2] at x; cases x) (FF.keep b o x), FF.above⟩
  · rcases List.mem_cons.mp hp with rfl | hp
    · exact ⟨hx _ _ hIe.symm ze.1, ze.2⟩
    · have z := N p (.tail _ (.tail _ hp))
      exact ⟨hx _ _ (hne p hp).1 z.1, z.2⟩
end

end
section
theorem SW.before {prog : Program} {w : World} {h₀ : Heap} {sh : List (Addr × Obj)} {n gU : Nat} {ts : List Tk} {fp : List (Addr × Obj)} {gp : List (Nat × GenState)} {c₀ : Code} {t₀ : Sem Fin} {fs₀ : List Frame}
    (h : ∀ (s : Shared) (P : End → Shared → Prop), Has h₀ sh fp gp s → s.gens[gU]? = some .running → (∀ p ∈ gp, p.1 ≠ gU) →
      (∀ s₁ fp₁ gp₁ c₁ t₁ fs₁, Moves h₀ fp fp₁ gp gp₁ s s₁ → Has h₀ sh fp₁ gp₁ s₁ → SW prog w h₀ sh n gU ts fp₁ gp₁ c₁ t₁ fs₁ → SegT (model prog w) (AM (400 + n) (400 + 8 * n)).in1 c₁ t₁ fs₁ s₁ P) →
      SegT (model prog w) (AM (400 + n) (400 + 8 * n)).in1 c₀ t₀ fs₀ s P) : SW prog w h₀ sh n gU ts fp gp c₀ t₀ fs₀ := by
  have next : ∀ {s s₁ : Shared} {fp₁ : List (Addr × Obj)} {gp₁ : List (Nat × GenState)}, s.gens[gU]? = some .running → (∀ p ∈ gp, p.1 ≠ gU) → Moves h₀ fp fp₁ gp gp₁ s s₁ → s₁.gens[gU]? = some .running ∧ ∀ p ∈ gp₁, p.1 ≠ gU := by
    intro s s₁ fp₁ gp₁ hr hne M
    refine ⟨M.gens _ _ hr hne, fun p hp q => ?_⟩
    rcases M.gfresh p hp with ⟨q', h1, h2⟩ | h1
    · exact hne q' h1 (h2.trans q)
    · exact absurd (gen_lt hr) (Nat.not_lt.mpr (q ▸ h1))
  cases ts with
  | nil =>
    intro s P H hr hne hP
    refine h s P H hr hne fun s₁ fp₁ gp₁ c₁ t₁ fs₁ M H₁ hS => ?_
    obtain ⟨hr₁, hne₁⟩ := next hr hne M
    exact hS s₁ P H₁ hr₁ hne₁ fun s' M' => hP s' (M.trans M')
  | cons t ts =>
    intro s P H hr hne hP
    refine h s P H hr hne fun s₁ fp₁ gp₁ c₁ t₁ fs₁ M H₁ hS => ?_
    obtain ⟨hr₁, hne₁⟩ := next hr hne M
    exact hS s₁ P H₁ hr₁ hne₁ fun v b l k c p fs' s' fp' gp' ht M' H' hS' => hP v b l k c p fs' s' fp' gp' ht (M.trans M') H' hS'
theorem seg_prep {prog : Program} {w : World} {A : Around} {s : Shared} {c : Code} {fs : List Frame} {P : End → Shared → Prop} {env : Env} {K : Flow → Sem Fin} {H : Value → Sem Fin} {gd : Bool → Bool} {lv : List Value → List Value}
    {s1 s2 : Stmt} {target iter : Expr} {body orelse rest : List Stmt} {pos : Pos} {d u : Nat} (f : Fits (A.over c fs) d u)
    (h : wpAny (model prog w) (AM d u) (exec s1 env) (fun f1 s' => f1 = .next ∧ wpAny (model prog w) (AM d u) (exec s2 env) (fun f2 s'' => f2 = .next ∧ wpAny (model prog w) (AM d u) (eval iter env) (fun x s₁ => wpAny (model prog w) (AM d u) (pyIter x) (fun it s₂ => ∀ p,
      SegT (model prog w) A (.forLoop target it body orelse env) ((model prog w).den (.forLoop target it body orelse env)) (.ret (back env (fun f => match f with | .next => (execs rest env).wrap K H gd lv | f => K f) H gd lv) none (gd false) (lv []) c p [] :: fs) s₂ P) (fun _ _ => False) s₁) (fun _ _ => False) s'') (fun _ _ => False) s') (fun _ _ => False) s)
    (hs : ∀ x, foldedSetIterable iter env x = pure x) :
    SegT (model prog w) A c ((execs (s1 :: s2 :: .For target iter body orelse pos :: rest) env).wrap K H gd lv) fs s P := by
  refine seg_cons (seg_any f (wpAny_mono h (fun f1 s' x => ?_) fun _ _ e => e))
  obtain ⟨rfl, x⟩ := x
  refine seg_cons (seg_any f (wpAny_mono x (fun f2 s'' y => ?_) fun _ _ e => e))
  obtain ⟨rfl, y⟩ := y
  exact seg_cons (seg_For f y hs)

end
section
section
variable {h₀ : Heap} {sh fp fp' : List (Addr × Obj)} {gp gp' : List (Nat × GenState)} {s : Shared} {h' : Heap} {tk : Nat} {gens' : Array GenState}
theorem has_new (H : Has h₀ sh fp gp s) (hbase : ∀ b o, h₀.get? b = some o → h'.get? b = some o) (hsh : ∀ p ∈ sh, h'.get? p.1 = some p.2) (hown : ∀ p ∈ fp', h'.get? p.1 = some p.2 ∧ h₀.get? p.1 = none)
    (hf : ∀ p ∈ fp', (∃ q ∈ fp, q.1 = p.1) ∨ s.heap.get? p.1 = none) (hg : ∀ p ∈ gp', gens'[p.1]? = some p.2) : Has h₀ sh fp' gp' { s with heap := h', toks := tk, gens := gens' } := by
  refine ⟨hbase, fun p hp => ⟨hsh p hp, (H.shared p hp).2⟩, hown, fun p hp q hq e => ?_, hg⟩
  rcases hf p hp with ⟨r, h1, h2⟩ | h1
  · exact H.apart r h1 q hq (e.trans h2.symm)
  · rw [← e, (H.shared q hq).1] at h1; cases h1
theorem moves_new (hk : ∀ a o, s.heap.get? a = some o → (∀ p ∈ fp, p.1 ≠ a) → h'.get? a = some o) (hf : ∀ p ∈ fp', (∃ q ∈ fp, q.1 = p.1) ∨ s.heap.get? p.1 = none) : Moves h₀ fp fp' gp gp s { s with heap := h', toks := tk } :=
  ⟨hk, fun _ _ e _ => e, hf, fun p hp => .inl ⟨p, hp, rfl⟩, Nat.le_refl _, fun g x e => by
    by_cases hx : ∃ q ∈ gp, q.1 = g
    · exact .inr (.inr hx)
    · exact .inl ⟨e, fun p hp q => hx ⟨p, hp, q⟩⟩, rfl, rfl⟩
theorem pushed_old {α : Type} {a : Array α} {x y : α} {i : Nat} (h : a[i]? = some x) : (a.push y)[i]? = some x := by
  obtain ⟨h1, h2⟩ := Array.getElem?_eq_some_iff.mp h
  rw [Array.getElem?_push_lt h1, h2]
theorem pushed_inv {α : Type} {a : Array α} {x y : α} {i : Nat} (h : (a.push y)[i]? = some x) : a[i]? = some x ∨ i = a.size := by
  rw [Array.getElem?_push] at h
  split at h
  · rename_i e; exact .inr e
  · exact .inl h
theorem moves_push {x : GenState} (hk : ∀ a o, s.heap.get? a = some o → (∀ p ∈ fp, p.1 ≠ a) → h'.get? a = some o) (hf : ∀ p ∈ fp', (∃ q ∈ fp, q.1 = p.1) ∨ s.heap.get? p.1 = none) : Moves h₀ fp fp' [] [(s.gens.size, x)] s { s with heap := h', toks := tk, gens := s.gens.push x } :=
  ⟨hk, fun _ _ e _ => pushed_old e, hf, fun p hp => by rcases List.mem_singleton.mp hp with rfl; exact .inr (Nat.le_refl _), by
    show s.gens.size ≤ (s.gens.push x).size
    rw [Array.size_push]; exact Nat.le_succ _, fun g y e => by
    rcases pushed_inv e with e | e
    · exact .inl ⟨e, fun p hp => (nomatch hp)⟩
    · exact .inr (.inr ⟨_, .head _, e.symm⟩), rfl, rfl⟩
end
section
variable {prog : Program} {w : World} {A : Around} {s : Shared} {c : Code} {fs : List Frame} {P : End → Shared → Prop} {env : Env} {K : Flow → Sem Fin} {H : Value → Sem Fin} {gd : Bool → Bool} {lv : List Value → List Value}
abbrev YieldP (prog : Program) (w : World) (c : Code) (fs : List Frame) (P : End → Shared → Prop) (K : Flow → Sem Fin) : Value → Shared → Prop :=
  fun v s' => ∀ p l k, (∀ A' s'' P', SegT (model prog w) A' c (K .next) fs s'' P' → SegT (model prog w) A' c (k (.send .none)) fs s'' P') → P (.susp v false l k c p fs) s'
theorem seg_if_yield {t e : Expr} {y1 y2 p : Pos} (hfs : splitAtGen fs = none) (hgd : gd false = false) (hfg : fs.any Frame.guarded = false) {d u : Nat} (f : Fits (A.over c fs) d u) (hco : env.scope.isCoroutine = false) (hi : interactive env = false)
    (h : wpAny (model prog w) (AM d u) (isTrue t env (eval t env)) (fun b s₂ => b = true ∧ wpAny (model prog w) (AM d u) (eval e env) (YieldP prog w c fs P K) (fun _ _ => False) s₂) (fun _ _ => False) s) :
    SegT (model prog w) A c ((execs [.If t [.Expr (.Yield (some e) y1) y2] [] p] env).wrap K H gd lv) fs s P := by
  refine seg_cons (seg_If f (wpAny_mono h (fun b s' x => ?_) fun _ _ x => x))
  obtain ⟨rfl, x⟩ := x
  rw [if_pos rfl]
  exact seg_cons (seg_Yield hfs hgd hfg f (wpAny_mono x (fun v s' z p l k hk => z p l k fun A' s'' P' y => hk A' s'' P' (seg_nil (seg_nil y))) fun _ _ x => x) hco hi)
theorem seg_kind {t1 t2 t3 e1 : Expr} {b1 b3 : List Stmt} {a1 : Stmt} {y1 y2 p1 p2 p3 : Pos} (hfs : splitAtGen fs = none) (hgd : gd false = false) (hfg : fs.any Frame.guarded = false) {d u : Nat} (f : Fits (A.over c fs) d u) (hco : env.scope.isCoroutine = false) (hi : interactive env = false)
    (h : wpAny (model prog w) (AM d u) (isTrue t1 env (eval t1 env)) (fun b s₂ => b = false ∧ wpAny (model prog w) (AM d u) (isTrue t2 env (eval t2 env)) (fun b s₃ => b = true ∧ wpAny (model prog w) (AM d u) (exec a1 env) (fun f1 s₄ => f1 = .next ∧
      wpAny (model prog w) (AM d u) (isTrue t3 env (eval t3 env)) (fun b s₅ => b = true ∧ wpAny (model prog w) (AM d u) (eval e1 env) (YieldP prog w c fs P K) (fun _ _ => False) s₅) (fun _ _ => False) s₄) (fun _ _ => False) s₃) (fun _ _ => False) s₂) (fun _ _ => False) s) :
    SegT (model prog w) A c ((execs [.If t1 b1 [.If t2 [a1, .If t3 [.Expr (.Yield (some e1) y1) y2] [] p3] b3 p2] p1] env).wrap K H gd lv) fs s P := by
  refine seg_cons (seg_If f (wpAny_mono h (fun b s' x => ?_) fun _ _ x => x))
  obtain ⟨rfl, x⟩ := x
  rw [if_neg Bool.false_ne_true]
  refine seg_cons (seg_If f (wpAny_mono x (fun b s' x => ?_) fun _ _ x => x))
  obtain ⟨rfl, x⟩ := x
  rw [if_pos rfl]
  refine seg_cons (seg_any f (wpAny_mono x (fun b s' x => ?_) fun _ _ x => x))
  obtain ⟨rfl, x⟩ := x
  refine seg_if_yield hfs hgd hfg f hco hi (wpAny_mono x (fun b s' x => ⟨x.1, wpAny_mono x.2 (fun v s' z p l k hk => z p l k fun A' s'' P' y => hk A' s'' P' (seg_nil (seg_nil y))) fun _ _ x => x⟩) fun _ _ x => x)
theorem seg_use {t1 t2 t4 iter2 tgt2 : Expr} {b1 b2 body2 : List Stmt} {a2 st5 : Stmt} {p1 p2 p4 p7 : Pos} {d u : Nat} (f : Fits (A.over c fs) d u) (hs : ∀ x, foldedSetIterable iter2 env x = pure x)
    (h : wpAny (model prog w) (AM d u) (isTrue t1 env (eval t1 env)) (fun b s₂ => b = false ∧ wpAny (model prog w) (AM d u) (isTrue t2 env (eval t2 env)) (fun b s₃ => b = false ∧ wpAny (model prog w) (AM d u) (exec a2 env) (fun f1 s₄ => f1 = .next ∧
      wpAny (model prog w) (AM d u) (isTrue t4 env (eval t4 env)) (fun b s₅ => b = true ∧ wpAny (model prog w) (AM d u) (exec st5 env) (fun f2 s₆ => f2 = .next ∧ wpAny (model prog w) (AM d u) (eval iter2 env) (fun x s₇ => wpAny (model prog w) (AM d u) (pyIter x) (fun it s₈ => ∀ p (K' : Flow → Sem Fin),
        (∀ A' s'' P', SegT (model prog w) A' c (K .next) fs s'' P' → SegT (model prog w) A' c (K' .next) fs s'' P') →
        SegT (model prog w) A (.forLoop tgt2 it body2 [] env) ((model prog w).den (.forLoop tgt2 it body2 [] env)) (.ret (back env K' H gd lv) none (gd false) (lv []) c p [] :: fs) s₈ P) (fun _ _ => False) s₇) (fun _ _ => False) s₆) (fun _ _ => False) s₅) (fun _ _ => False) s₄) (fun _ _ => False) s₃) (fun _ _ => False) s₂) (fun _ _ => False) s) :
    SegT (model prog w) A c ((execs [.If t1 b1 [.If t2 b2 [a2, .If t4 [st5, .For tgt2 iter2 body2 [] p7] [] p4] p2] p1] env).wrap K H gd lv) fs s P := by
  refine seg_cons (seg_If f (wpAny_mono h (fun b s' x => ?_) fun _ _ x => x))
  obtain ⟨rfl, x⟩ := x
  rw [if_neg Bool.false_ne_true]
  refine seg_cons (seg_If f (wpAny_mono x (fun b s' x => ?_) fun _ _ x => x))
  obtain ⟨rfl, x⟩ := x
  rw [if_neg Bool.false_ne_true]
  refine seg_cons (seg_any f (wpAny_mono x (fun b s' x => ?_) fun _ _ x => x))
  obtain ⟨rfl, x⟩ := x
  refine seg_cons (seg_If f (wpAny_mono x (fun b s' x => ?_) fun _ _ x => x))
  obtain ⟨rfl, x⟩ := x
  rw [if_pos rfl]
  refine seg_cons (seg_any f (wpAny_mono x (fun b s' x => ?_) fun _ _ x => x))
  obtain ⟨rfl, x⟩ := x
  refine seg_cons (seg_For f (wpAny_mono x (fun x s' y => wpAny_mono y (fun it s'' z p => z p _ fun A' s3 P' q => ?_) fun _ _ x => x) fun _ _ x => x) hs)
  exact seg_nil (seg_nil (seg_nil (seg_nil q)))
variable {tgt : Expr} {v : Value}
theorem assign_if_yield {t e : Expr} {y1 y2 p : Pos} (hfs : splitAtGen fs = none) (hgd : gd false = false) (hfg : fs.any Frame.guarded = false) {d u : Nat} (f : Fits (A.over c fs) d u) (hco : env.scope.isCoroutine = false) (hi : interactive env = false)
    (h : wpAny (model prog w) (AM d u) (assign tgt env v) (fun _ s₁ => wpAny (model prog w) (AM d u) (isTrue t env (eval t env)) (fun b s₂ => b = true ∧ wpAny (model prog w) (AM d u) (eval e env) (YieldP prog w c fs P K) (fun _ _ => False) s₂) (fun _ _ => False) s₁) (fun _ _ => False) s) :
    wpT (model prog w) (A.over c fs) (assign tgt env v) (fun _ s₁ => SegT (model prog w) A c ((execs [.If t [.Expr (.Yield (some e) y1) y2] [] p] env).wrap K H gd lv) fs s₁ P) (fun _ _ => False) s :=
  wpT_of (wpAny_lift f (wpAny_mono h (fun _ s₁ y => seg_if_yield hfs hgd hfg f hco hi y) fun _ _ y => y))
theorem assign_kind {t1 t2 t3 e1 : Expr} {b1 b3 : List Stmt} {a1 : Stmt} {y1 y2 p1 p2 p3 : Pos} (hfs : splitAtGen fs = none) (hgd : gd false = false) (hfg : fs.any Frame.guarded = false) {d u : Nat} (f : Fits (A.over c fs) d u) (hco : env.scope.isCoroutine = false) (hi : interactive env = false)
    (h : wpAny (model prog w) (AM d u) (assign tgt env v) (fun _ s₁ => wpAny (model prog w) (AM d u) (isTrue t1 env (eval t1 env)) (fun b s₂ => b = false ∧ wpAny (model prog w) (AM d u) (isTrue t2 env (eval t2 env)) (fun b s₃ => b = true ∧ wpAny (model prog w) (AM d u) (exec a1 env) (fun f1 s₄ => f1 = .next ∧
      wpAny (model prog w) (AM d u) (isTrue t3 env (eval t3 env)) (fun b s₅ => b = true ∧ wpAny (model prog w) (AM d u) (eval e1 env) (YieldP prog w c fs P K) (fun _ _ => False) s₅) (fun _ _ => False) s₄) (fun _ _ => False) s₃) (fun _ _ => False) s₂) (fun _ _ => False) s₁) (fun _ _ => False) s) :
    wpT (model prog w) (A.over c fs) (assign tgt env v) (fun _ s₁ => SegT (model prog w) A c ((execs [.If t1 b1 [.If t2 [a1, .If t3 [.Expr (.Yield (some e1) y1) y2] [] p3] b3 p2] p1] env).wrap K H gd lv) fs s₁ P) (fun _ _ => False) s :=
  wpT_of (wpAny_lift f (wpAny_mono h (fun _ s₁ y => seg_kind hfs hgd hfg f hco hi y) fun _ _ y => y))
theorem assign_use {t1 t2 t4 iter2 tgt2 : Expr} {b1 b2 body2 : List Stmt} {a2 st5 : Stmt} {p1 p2 p4 p7 : Pos} {d u : Nat} (f : Fits (A.over c fs) d u) (hs : ∀ x, foldedSetIterable iter2 env x = pure x)
    (h : wpAny (model prog w) (AM d u) (assign tgt env v) (fun _ s₁ => wpAny (model prog w) (AM d u) (isTrue t1 env (eval t1 env)) (fun b s₂ => b = false ∧ wpAny (model prog w) (AM d u) (isTrue t2 env (eval t2 env)) (fun b s₃ => b = false ∧ wpAny (model prog w) (AM d u) (exec a2 env) (fun f1 s₄ => f1 = .next ∧
      wpAny (model prog w) (AM d u) (isTrue t4 env (eval t4 env)) (fun b s₅ => b = true ∧ wpAny (model prog w) (AM d u) (exec st5 env) (fun f2 s₆ => f2 = .next ∧ wpAny (model prog w) (AM d u) (eval iter2 env) (fun x s₇ => wpAny (model prog w) (AM d u) (pyIter x) (fun it s₈ => ∀ p (K' : Flow → Sem Fin),
        (∀ A' s'' P', SegT (model prog w) A' c (K .next) fs s'' P' → SegT (model prog w) A' c (K' .next) fs s'' P') →
        SegT (model prog w) A (.forLoop tgt2 it body2 [] env) ((model prog w).den (.forLoop tgt2 it body2 [] env)) (.ret (back env K' H gd lv) none (gd false) (lv []) c p [] :: fs) s₈ P) (fun _ _ => False) s₇) (fun _ _ => False) s₆) (fun _ _ => False) s₅) (fun _ _ => False) s₄) (fun _ _ => False) s₃) (fun _ _ => False) s₂) (fun _ _ => False) s₁) (fun _ _ => False) s) :
    wpT (model prog w) (A.over c fs) (assign tgt env v) (fun _ s₁ => SegT (model prog w) A c ((execs [.If t1 b1 [.If t2 b2 [a2, .If t4 [st5, .For tgt2 iter2 body2 [] p7] [] p4] p2] p1] env).wrap K H gd lv) fs s₁ P) (fun _ _ => False) s :=
  wpT_of (wpAny_lift f (wpAny_mono h (fun _ s₁ y => seg_use f hs y) fun _ _ y => y))
theorem assign_cmd {st : Stmt} {d u : Nat} (f : Fits (A.over c fs) d u)
    (h : wpAny (model prog w) (AM d u) (assign tgt env v) (fun _ s₁ => wpAny (model prog w) (AM d u) (exec st env) (fun fl s₂ => SegT (model prog w) A c (K fl) fs s₂ P) (fun _ _ => False) s₁) (fun _ _ => False) s) :
    wpT (model prog w) (A.over c fs) (assign tgt env v) (fun _ s₁ => SegT (model prog w) A c ((execs [st] env).wrap K H gd lv) fs s₁ P) (fun _ _ => False) s :=
  wpT_of (wpAny_lift f (wpAny_mono h (fun _ s₁ y => seg_cons (seg_any f (wpAny_mono y (fun fl s₂ z => by cases fl <;> exact z) fun _ _ y => y))) fun _ _ y => y))
end
theorem Moves.wide {h₀ : Heap} {fp fp' fp2 fp2' : List (Addr × Obj)} {gp gp' : List (Nat × GenState)} {s s' : Shared} (M : Moves h₀ fp fp' gp gp' s s') (h : ∀ p ∈ fp2', (∃ q ∈ fp2, q.1 = p.1) ∨ p ∈ fp') (h2 : ∀ q ∈ fp, q ∈ fp2) : Moves h₀ fp2 fp2' gp gp' s s' :=
  ⟨fun a o e hp => M.keep a o e fun p hp' => hp p (h2 p hp'), M.gens, fun p hp => by
    rcases h p hp with z | z
    · exact .inl z
    · rcases M.fresh p z with ⟨q, a, b⟩ | z
      · exact .inl ⟨q, h2 q a, b⟩
      · exact .inr z, M.gfresh, M.more, M.bare, M.os, M.drawn⟩

end
section
def par (P : List Nat) (j : Nat) : Nat := P.getD j 0
structure Tree (P : List Nat) : Prop where
  lo : 3 ≤ P.length
  hi : P.length ≤ 11
  lt : ∀ j, 1 ≤ j → j < P.length → par P j < j
  p2 : par P 2 = 0
def kids (P : List Nat) (j : Nat) : List Nat := (List.range P.length).filter fun c => decide (j < c) && par P c == j
theorem mem_kids {P : List Nat} {j c : Nat} : c ∈ kids P j ↔ c < P.length ∧ j < c ∧ par P c = j := by
  simp [kids]
theorem kids_sorted (P : List Nat) (j : Nat) : (kids P j).Pairwise (· < ·) := List.Pairwise.filter _ List.pairwise_lt_range
def leafText (j : Nat) : Str := ⟨(List.replicate (1 + j % 3) (97 + j % 2)).toArray⟩
def text (P : List Nat) (j : Nat) : Str :=
  if kids P j = [] then leafText j else Txt.join (Str.ofString "") ((kids P j).attach.map fun c => text P c.1)
termination_by P.length - j
decreasing_by
  have := mem_kids.mp c.2
  omega
theorem text_leaf {P : List Nat} {j : Nat} (h : kids P j = []) : text P j = leafText j := by
  rw [text, if_pos h]
theorem text_node {P : List Nat} {j : Nat} (h : kids P j ≠ []) : text P j = Txt.join (Str.ofString "") ((kids P j).map (text P)) := by
  rw [text, if_neg h]
  rw [List.attach_map_val]
def len (P : List Nat) (j : Nat) : Nat := (text P j).length
def place (P : List Nat) (j : Nat) : Nat :=
  if h : par P j < j then place P (par P j) + (((kids P (par P j)).filter (· < j)).map (len P)).sum else 0
termination_by j
theorem place_zero {P : List Nat} : place P 0 = 0 := by rw [place, dif_neg (Nat.not_lt_zero _)]
theorem place_kid {P : List Nat} {j c : Nat} (h : c ∈ kids P j) : place P c = place P j + (((kids P j).filter (· < c)).map (len P)).sum := by
  have := mem_kids.mp h
  rw [place, dif_pos (by omega), this.2.2]
theorem filter_lt_sorted : ∀ {l : List Nat} {i c : Nat}, l.Pairwise (· < ·) → l[i]? = some c → l.filter (· < c) = l.take i
  | [], i, c, _, h => by simp at h
  | a :: l, 0, c, hp, h => by
    simp only [List.getElem?_cons_zero, Option.some.injEq] at h
    subst h
    have := (List.pairwise_cons.mp hp).1
    simp only [List.take_zero, List.filter_eq_nil_iff]
    intro x hx
    rcases List.mem_cons.mp hx with rfl | hx
    · simp
    · have := this x hx
      simp only [decide_eq_true_eq]; omega
  | a :: l, i + 1, c, hp, h => by
    simp only [List.getElem?_cons_succ] at h
    have hc : c ∈ l := List.mem_of_getElem? h
    have ha := (List.pairwise_cons.mp hp).1 c hc
    rw [List.filter_cons, if_pos (by simpa using ha), List.take_succ_cons, filter_lt_sorted (List.pairwise_cons.mp hp).2 h]
theorem place_at {P : List Nat} {j i c : Nat} (h : (kids P j)[i]? = some c) : place P c = place P j + (((kids P j).take i).map (len P)).sum := by
  rw [place_kid (List.mem_of_getElem? h), filter_lt_sorted (kids_sorted P j) h]
theorem str_nil_append (x : Str) : Str.ofString "" ++ x = x := by
  obtain ⟨a⟩ := x
  show (⟨(Str.ofString "").cps ++ a⟩ : Str) = ⟨a⟩
  rw [show (Str.ofString "").cps = #[] from rfl, Array.empty_append]
theorem str_append_nil (x : Str) : x ++ Str.ofString "" = x := by
  obtain ⟨a⟩ := x
  show (⟨a ++ (Str.ofString "").cps⟩ : Str) = ⟨a⟩
  rw [show (Str.ofString "").cps = #[] from rfl, Array.append_empty]
theorem txt_join (l : List Str) : Txt.join (Str.ofString "") l = Str.join (Str.ofString "") l := StrLaws.glued_eq_join ..
theorem txt_join_cons (x : Str) (l : List Str) : Txt.join (Str.ofString "") (x :: l) = x ++ Txt.join (Str.ofString "") l := by
  rw [txt_join, txt_join]
  cases l with
  | nil => exact (str_append_nil x).symm
  | cons y l =>
    show x ++ Str.ofString "" ++ Str.join (Str.ofString "") (y :: l) = _
    rw [str_append_nil]
theorem txt_join_nil (l : List Str) : Txt.join (Str.ofString "") (Str.ofString "" :: l) = Txt.join (Str.ofString "") l := by rw [txt_join_cons, str_nil_append]
theorem join_length : ∀ (l : List Str), (Txt.join (Str.ofString "") l).length = (l.map (·.length)).sum
  | [] => rfl
  | x :: l => by rw [txt_join_cons, Str.length_append, join_length l]; rfl
theorem leafText_length (j : Nat) : (leafText j).length = 1 + j % 3 := by simp [leafText, Str.length]
theorem len_leaf {P : List Nat} {j : Nat} (h : kids P j = []) : len P j = 1 + j % 3 := by rw [len, text_leaf h, leafText_length]
theorem len_node {P : List Nat} {j : Nat} (h : kids P j ≠ []) : len P j = ((kids P j).map (len P)).sum := by
  rw [len, text_node h, join_length, List.map_map]; rfl
theorem mem_sum_le {l : List Nat} {a : Nat} (h : a ∈ l) : a ≤ l.sum := by
  induction l with
  | nil => cases h
  | cons b l ih =>
    rw [List.sum_cons]
    rcases List.mem_cons.mp h with rfl | h
    · omega
    · have := ih h; omega
theorem down_ind {P : List Nat} {C : Nat → Prop} (h : ∀ j, (∀ c ∈ kids P j, C c) → C j) : ∀ j, C j := by
  suffices ∀ n j, P.length - j ≤ n → C j from fun j => this _ j (Nat.le_refl _)
  intro n
  induction n with
  | zero => exact fun j hj => h j fun c hc => by have := mem_kids.mp hc; omega
  | succ n ih => exact fun j hj => h j fun c hc => ih c (by have := mem_kids.mp hc; omega)
theorem len_pos {P : List Nat} : ∀ j, 1 ≤ len P j := by
  refine down_ind (P := P) fun j ih => ?_
  by_cases h : kids P j = []
  · rw [len_leaf h]; omega
  · rw [len_node h]
    obtain ⟨c, l, e⟩ := List.exists_cons_of_ne_nil h
    have := ih c (by rw [e]; exact .head _)
    exact Nat.le_trans this (mem_sum_le (by rw [e]; exact .head _))
def all (P : List Nat) (j : Nat) : List Nat :=
  if kids P j = [] then [j] else (kids P j).attach.flatMap fun c => all P c.1
termination_by P.length - j
decreasing_by
  have := mem_kids.mp c.2
  omega
theorem attach_flatMap {α β : Type} (l : List α) (f : α → List β) : (l.attach.flatMap fun c => f c.1) = l.flatMap f := by
  rw [List.flatMap_def, List.flatMap_def, List.attach_map_val]
theorem all_leaf {P : List Nat} {j : Nat} (h : kids P j = []) : all P j = [j] := by rw [all, if_pos h]
theorem all_node {P : List Nat} {j : Nat} (h : kids P j ≠ []) : all P j = (kids P j).flatMap (all P) := by
  rw [all, if_neg h]
  exact attach_flatMap _ _
theorem sum_take_le (l : List Nat) (i : Nat) : (l.take i).sum ≤ l.sum := by
  induction l generalizing i with
  | nil => simp
  | cons a l ih =>
    cases i with
    | zero => simp
    | succ i => rw [List.take_succ_cons, List.sum_cons, List.sum_cons]; have := ih i; omega
theorem take_succ_sum {l : List Nat} {i c : Nat} (h : l[i]? = some c) : (l.take (i + 1)).sum = (l.take i).sum + c := by
  induction l generalizing i with
  | nil => simp at h
  | cons a l ih =>
    cases i with
    | zero => simp at h; simp [h]
    | succ i => simp only [List.getElem?_cons_succ] at h; rw [List.take_succ_cons, List.take_succ_cons, List.sum_cons, List.sum_cons, ih h]; omega
theorem sum_take_mono (l : List Nat) {i k : Nat} (h : i ≤ k) : (l.take i).sum ≤ (l.take k).sum := by
  rw [show l.take i = (l.take k).take i by rw [List.take_take, Nat.min_eq_left h]]
  exact sum_take_le _ _
theorem kid_in {P : List Nat} {j i c : Nat} (h : (kids P j)[i]? = some c) : place P j ≤ place P c ∧ place P c + len P c ≤ place P j + len P j := by
  have hne : kids P j ≠ [] := fun e => by rw [e] at h; cases h
  have h2 : ((kids P j).map (len P))[i]? = some (len P c) := by rw [List.getElem?_map, h]; rfl
  have h3 := take_succ_sum h2
  have h4 := sum_take_le ((kids P j).map (len P)) (i + 1)
  rw [place_at h, len_node hne, List.map_take]
  omega
theorem kid_apart {P : List Nat} {j i k c d : Nat} (h : (kids P j)[i]? = some c) (g : (kids P j)[k]? = some d) (hik : i < k) : place P c + len P c ≤ place P d := by
  have h2 : ((kids P j).map (len P))[i]? = some (len P c) := by rw [List.getElem?_map, h]; rfl
  have h3 := take_succ_sum h2
  have h4 := sum_take_mono ((kids P j).map (len P)) (show i + 1 ≤ k from hik)
  rw [place_at h, place_at g, List.map_take, List.map_take]
  omega
theorem mem_get {α : Type} {l : List α} {a : α} (h : a ∈ l) : ∃ i : Nat, l[i]? = some a := List.mem_iff_getElem?.mp h
theorem all_in {P : List Nat} : ∀ j, ∀ l ∈ all P j, place P j ≤ place P l ∧ place P l + len P l ≤ place P j + len P j := by
  refine down_ind (P := P) fun j ih => ?_
  intro l hl
  by_cases h : kids P j = []
  · rw [all_leaf h] at hl
    cases List.mem_singleton.mp hl
    exact ⟨Nat.le_refl _, Nat.le_refl _⟩
  · rw [all_node h] at hl
    obtain ⟨c, hc, hl⟩ := List.mem_flatMap.mp hl
    have a := ih c hc l hl
    obtain ⟨i, hi⟩ := mem_get hc
    have b := kid_in hi
    omega
theorem pairwise_flatMap_get {α β : Type} {R : β → β → Prop} {f : α → List β} : ∀ {l : List α}, (∀ a ∈ l, (f a).Pairwise R) → (∀ (i k : Nat) a b, i < k → l[i]? = some a → l[k]? = some b → ∀ x ∈ f a, ∀ y ∈ f b, R x y) → (l.flatMap f).Pairwise R
  | [], _, _ => by simp
  | a :: l, h1, h2 => by
    rw [List.flatMap_cons, List.pairwise_append]
    refine ⟨h1 a (.head _), pairwise_flatMap_get (fun b hb => h1 b (.tail _ hb)) (fun i k x y hik hx hy => h2 (i + 1) (k + 1) x y (by omega) (by simpa using hx) (by simpa using hy)), fun x hx y hy => ?_⟩
    obtain ⟨b, hb, hy⟩ := List.mem_flatMap.mp hy
    obtain ⟨k, hk⟩ := mem_get hb
    exact h2 0 (k + 1) a b (by omega) rfl (by simpa using hk) x hx y hy
theorem all_sorted {P : List Nat} : ∀ j, (all P j).Pairwise fun a b => place P a < place P b := by
  refine down_ind (P := P) fun j ih => ?_
  by_cases h : kids P j = []
  · rw [all_leaf h]; simp
  · rw [all_node h]
    refine pairwise_flatMap_get ih fun i k a b hik ha hb x hx y hy => ?_
    have a1 := all_in a x hx
    have a2 := all_in b y hy
    have a3 := kid_apart ha hb hik
    have a4 := len_pos (P := P) x
    omega
theorem all_lt {P : List Nat} : ∀ j, j < P.length → ∀ l ∈ all P j, l < P.length ∧ kids P l = [] := by
  refine down_ind (P := P) fun j ih => ?_
  intro hj l hl
  by_cases h : kids P j = []
  · rw [all_leaf h] at hl
    cases List.mem_singleton.mp hl
    exact ⟨hj, h⟩
  · rw [all_node h] at hl
    obtain ⟨c, hc, hl⟩ := List.mem_flatMap.mp hl
    exact ih c hc (mem_kids.mp hc).1 l hl
inductive Anc (P : List Nat) (a : Nat) : Nat → Prop
  | refl : Anc P a a
  | up {l : Nat} : par P l < l → Anc P a (par P l) → Anc P a l
theorem all_sub {P : List Nat} {v u : Nat} (h : Anc P v u) (hu : u < P.length) : ∀ l ∈ all P u, l ∈ all P v := by
  induction h with
  | refl => exact fun _ h => h
  | @up u hp _ ih =>
    intro l hl
    refine ih (by omega) l ?_
    have hk : u ∈ kids P (par P u) := mem_kids.mpr ⟨hu, hp, rfl⟩
    rw [all_node (fun e => by rw [e] at hk; cases hk)]
    exact List.mem_flatMap.mpr ⟨u, hk, hl⟩
theorem anc_root {P : List Nat} (T : Tree P) : ∀ l, l < P.length → Anc P 0 l := by
  intro l
  induction l using Nat.strongRecOn with
  | ind l ih =>
    intro hl
    by_cases h0 : l = 0
    · subst h0; exact .refl
    · have := T.lt l (by omega) hl
      exact .up this (ih _ this (by omega))
theorem mem_all {P : List Nat} (T : Tree P) {l : Nat} : l ∈ all P 0 ↔ l < P.length ∧ kids P l = [] := by
  refine ⟨fun h => all_lt 0 (by have := T.lo; omega) l h, fun h => all_sub (anc_root T l h.1) h.1 l ?_⟩
  rw [all_leaf h.2]; exact .head _
theorem anc_in {P : List Nat} {a l : Nat} (h : Anc P a l) (hl : l < P.length) : place P a ≤ place P l ∧ place P l + len P l ≤ place P a + len P a := by
  induction h with
  | refl => exact ⟨Nat.le_refl _, Nat.le_refl _⟩
  | @up u hp _ ih =>
    have hk : u ∈ kids P (par P u) := mem_kids.mpr ⟨hl, hp, rfl⟩
    obtain ⟨i, hi⟩ := mem_get hk
    have := kid_in hi
    have := ih (by omega)
    omega
theorem anc_le {P : List Nat} {a l : Nat} (h : Anc P a l) : a ≤ l := by
  induction h with
  | refl => exact Nat.le_refl _
  | up hp _ ih => omega
theorem anc_trans {P : List Nat} {a b l : Nat} (h : Anc P a b) (g : Anc P b l) : Anc P a l := by
  induction g with
  | refl => exact h
  | up hp _ ih => exact .up hp ih
theorem anc_kid {P : List Nat} {a l : Nat} (h : Anc P a l) (hl : l < P.length) : a = l ∨ ∃ c ∈ kids P a, Anc P c l := by
  induction h with
  | refl => exact .inl rfl
  | @up u hp h ih =>
    rcases ih (by omega) with rfl | ⟨c, hc, k⟩
    · exact .inr ⟨u, mem_kids.mpr ⟨hl, hp, rfl⟩, .refl⟩
    · exact .inr ⟨c, hc, .up hp k⟩
theorem apart {P : List Nat} (T : Tree P) {l : Nat} (hl : l < P.length) : ∀ a, a < P.length → ¬ Anc P a l → ¬ Anc P l a → place P a + len P a ≤ place P l ∨ place P l + len P l ≤ place P a := by
  intro a
  induction a using Nat.strongRecOn with
  | ind a ih =>
    intro ha h1 h2
    have a0 : 1 ≤ a := by
      rcases Nat.eq_zero_or_pos a with rfl | h
      · exact absurd (anc_root T l hl) h1
      · exact h
    have hp := T.lt a a0 ha
    have hk : a ∈ kids P (par P a) := mem_kids.mpr ⟨ha, hp, rfl⟩
    obtain ⟨i, hi⟩ := mem_get hk
    have hin := kid_in hi
    by_cases hq : Anc P (par P a) l
    · rcases anc_kid hq hl with e | ⟨c, hc, hcl⟩
      · exact absurd (.up hp (e ▸ .refl)) h2
      · obtain ⟨k, hk'⟩ := mem_get hc
        have hcin := anc_in hcl hl
        rcases Nat.lt_trichotomy i k with q | q | q
        · have := kid_apart hi hk' q; omega
        · subst q
          rw [hi] at hk'; cases hk'
          exact absurd hcl h1
        · have := kid_apart hk' hi q; omega
    · have := ih _ hp (by omega) hq (fun h => h2 (.up hp h))
      omega
theorem anc_iff {P : List Nat} (T : Tree P) {a l : Nat} (ha : a < P.length) (hl : l < P.length) (hk : kids P l = []) : Anc P a l ↔ place P a ≤ place P l ∧ place P l < place P a + len P a := by
  constructor
  · intro h
    have := anc_in h hl
    have := len_pos (P := P) l
    omega
  · intro h
    apply Classical.byContradiction
    intro hn
    by_cases q : Anc P l a
    · rcases anc_kid q ha with rfl | ⟨c, hc, _⟩
      · exact hn .refl
      · rw [hk] at hc; cases hc
    · have := apart T hl a ha hn q
      have := len_pos (P := P) l
      omega
theorem all_nodup {P : List Nat} (j : Nat) : (all P j).Nodup := (all_sorted j).imp fun h e => by subst e; omega
theorem all_length {P : List Nat} {j : Nat} (hj : j < P.length) : (all P j).length ≤ P.length := by
  have h : ∀ n (l : List Nat), l.Nodup → (∀ x ∈ l, x < n) → l.length ≤ n := by
    intro n l hn hl
    have := List.Nodup.length_le_of_subset hn (l₂ := List.range n) fun x hx => List.mem_range.mpr (hl x hx)
    rwa [List.length_range] at this
  exact h _ _ (all_nodup j) fun x hx => (all_lt j hj x hx).1
theorem len_all {P : List Nat} : ∀ j, len P j = ((all P j).map (len P)).sum := by
  refine down_ind (P := P) fun j ih => ?_
  by_cases h : kids P j = []
  · rw [all_leaf h]; simp
  · rw [all_node h, len_node h, List.map_flatMap]
    have : ∀ l : List Nat, (∀ c ∈ l, len P c = ((all P c).map (len P)).sum) → (l.map (len P)).sum = (l.flatMap fun a => (all P a).map (len P)).sum := by
      intro l
      induction l with
      | nil => intro _; rfl
      | cons c l ih' =>
        intro hc
        rw [List.map_cons, List.sum_cons, List.flatMap_cons, List.sum_append, ← hc c (.head _), ih' fun d hd => hc d (.tail _ hd)]
    exact this _ ih
theorem sum_le_times {α : Type} (f : α → Nat) (k : Nat) : ∀ l : List α, (∀ x ∈ l, f x ≤ k) → (l.map f).sum ≤ k * l.length
  | [], _ => by simp
  | a :: l, h => by
    have := sum_le_times f k l fun x hx => h x (.tail _ hx)
    have := h a (.head _)
    rw [List.map_cons, List.sum_cons, List.length_cons, Nat.mul_succ]
    omega
theorem len_le {P : List Nat} (T : Tree P) {j : Nat} (hj : j < P.length) : len P j ≤ 33 := by
  rw [len_all]
  have h1 := sum_le_times (len P) 3 (all P j) fun x hx => by
    rw [len_leaf (all_lt j hj x hx).2]; omega
  have h2 := all_length hj
  have := T.hi
  omega
theorem kids_root {P : List Nat} (T : Tree P) : kids P 0 ≠ [] := by
  have h : 1 ∈ kids P 0 := mem_kids.mpr ⟨by have := T.lo; omega, by omega, by have := T.lt 1 (by omega) (by have := T.lo; omega); omega⟩
  exact fun e => by rw [e] at h; cases h
theorem kids_length {P : List Nat} (j : Nat) : (kids P j).length ≤ P.length := Nat.le_trans (List.length_filter_le _ _) (Nat.le_of_eq List.length_range)

end
section
def decOf (j : Nat) : Str := Str.ofString (toString (j : Int))
def nodeName (j : Nat) : Str := Str.ofString "N" ++ decOf j
def rest (P : List Nat) (j : Nat) : List Str := if par P j < j then rest P (par P j) ++ [nodeName j] else []
termination_by j
abbrev topS : Str := Str.ofString "Top"
abbrev dotS : Str := Str.ofString "."
def names (P : List Nat) (j : Nat) : List Str := topS :: rest P j
def path (P : List Nat) (j : Nat) : Str := Txt.join dotS (names P j)
theorem rest_up {P : List Nat} {j : Nat} (h : par P j < j) : rest P j = rest P (par P j) ++ [nodeName j] := by rw [rest, if_pos h]
theorem rest_zero {P : List Nat} : rest P 0 = [] := by rw [rest, if_neg (Nat.not_lt_zero _)]
theorem join_snoc (sep : Str) : ∀ (x : Str) (l : List Str) (y : Str), Str.join sep (x :: l ++ [y]) = Str.join sep (x :: l) ++ sep ++ y
  | x, [], y => rfl
  | x, z :: l, y => by
    show x ++ sep ++ Str.join sep (z :: l ++ [y]) = x ++ sep ++ Str.join sep (z :: l) ++ sep ++ y
    rw [join_snoc sep z l y]
    apply Str.ext'
    simp only [Str.cps_append, Array.append_assoc]
theorem join_any (sep : Str) (l : List Str) : Txt.join sep l = Str.join sep l := StrLaws.glued_eq_join ..
theorem path_zero {P : List Nat} : path P 0 = topS := by
  unfold path names
  rw [rest_zero]; rfl
theorem dotN : Str.ofString ".N" = dotS ++ Str.ofString "N" := by decide +kernel
theorem str_append_assoc (x y z : Str) : x ++ y ++ z = x ++ (y ++ z) := by
  apply Str.ext'
  simp only [Str.cps_append, Array.append_assoc]
theorem path_up {P : List Nat} {j : Nat} (h : par P j < j) : path P j = path P (par P j) ++ Str.ofString ".N" ++ decOf j := by
  unfold path names
  rw [rest_up h]
  rw [join_any, join_any, ← List.cons_append, join_snoc, dotN]
  unfold nodeName
  simp only [str_append_assoc]
theorem dec_facts : ∀ j : Fin 11, (decOf j).length ≤ 2 ∧ 46 ∉ (nodeName j).cps.toList ∧ (nodeName j).length ≠ 0 ∧ (nodeName j).length ≤ 10 ∧ Txt.isupper (Txt.item (nodeName j) 0) = true := by decide +kernel
theorem name_inj : ∀ i j : Fin 11, nodeName i = nodeName j → i = j := by decide +kernel
theorem path_length {P : List Nat} (T : Tree P) : ∀ j, j < P.length → (path P j).length ≤ 3 + 4 * j := by
  intro j
  induction j using Nat.strongRecOn with
  | ind j ih =>
    intro hj
    by_cases h0 : j = 0
    · subst h0; rw [path_zero]; decide +kernel
    · have hp := T.lt j (by omega) hj
      have h1 := ih _ hp (by omega)
      have h2 := (dec_facts ⟨j, by have := T.hi; omega⟩).1
      have h3 : (Str.ofString ".N").length = 2 := by decide +kernel
      rw [path_up hp, Str.length_append, Str.length_append]
      simp only at h2
      omega
theorem path_pos {P : List Nat} (j : Nat) : (path P j).length ≠ 0 := by
  have : ∀ (l : List Str), (Str.join dotS (topS :: l)).length ≠ 0 := by
    intro l
    have h3 : topS.length = 3 := by decide +kernel
    cases l with
    | nil => show topS.length ≠ 0; omega
    | cons y l => show (topS ++ dotS ++ _).length ≠ 0; rw [Str.length_append, Str.length_append]; omega
  unfold path names
  rw [join_any]
  exact this _
theorem rest_names {P : List Nat} (T : Tree P) : ∀ j, j < P.length → (rest P j).length ≤ j ∧ ∀ x ∈ rest P j, ∃ i : Fin 11, x = nodeName i := by
  intro j
  induction j using Nat.strongRecOn with
  | ind j ih =>
    intro hj
    by_cases h0 : j = 0
    · subst h0; rw [rest_zero]; simp
    · have hp := T.lt j (by omega) hj
      have h1 := ih _ hp (by omega)
      rw [rest_up hp]
      refine ⟨by rw [List.length_append]; simp only [List.length_cons, List.length_nil]; omega, fun x hx => ?_⟩
      rcases List.mem_append.mp hx with hx | hx
      · exact h1.2 x hx
      · exact ⟨⟨j, by have := T.hi; omega⟩, List.mem_singleton.mp hx⟩
theorem names_free {P : List Nat} (T : Tree P) {j : Nat} (hj : j < P.length) : ∀ x ∈ names P j, 46 ∉ x.cps.toList := by
  intro x hx
  rcases List.mem_cons.mp hx with rfl | hx
  · decide +kernel
  · obtain ⟨i, rfl⟩ := (rest_names T j hj).2 x hx
    exact (dec_facts i).2.1
theorem free_inj {c : Nat} : ∀ {a b x y : List Nat}, c ∉ a → c ∉ b → a ++ c :: x = b ++ c :: y → a = b ∧ x = y
  | [], [], _, _, _, _, h => ⟨rfl, (List.cons.inj h).2⟩
  | [], d :: b, _, _, _, hb, h => absurd (List.cons.inj h).1 fun e => hb (e ▸ .head _)
  | d :: a, [], _, _, ha, _, h => absurd (List.cons.inj h).1 fun e => ha (e ▸ .head _)
  | d :: a, e :: b, _, _, ha, hb, h => by
    obtain ⟨h1, h2⟩ := List.cons.inj h
    obtain ⟨h3, h4⟩ := free_inj (fun q => ha (.tail _ q)) (fun q => hb (.tail _ q)) h2
    exact ⟨by rw [h1, h3], h4⟩
theorem join_inj {c : Nat} : ∀ {l l' : List Str}, l ≠ [] → l' ≠ [] → (∀ x ∈ l, c ∉ x.cps.toList) → (∀ x ∈ l', c ∉ x.cps.toList) → (Str.join ⟨#[c]⟩ l).cps.toList = (Str.join ⟨#[c]⟩ l').cps.toList → l = l'
  | [], _, h, _, _, _, _ => absurd rfl h
  | _, [], _, h, _, _, _ => absurd rfl h
  | [x], [y], _, _, _, _, h => by
    have e : x = y := Str.ext' (Array.toList_inj.mp h)
    rw [e]
  | [x], y :: z :: l', _, _, h1, _, h => by
    exfalso
    refine h1 x (.head _) ?_
    have e : x.cps.toList = y.cps.toList ++ [c] ++ (Str.join ⟨#[c]⟩ (z :: l')).cps.toList := h.trans (by show (y ++ ⟨#[c]⟩ ++ Str.join _ (z :: l')).cps.toList = _; simp [Str.cps_append])
    rw [e]; simp
  | x :: z :: l, [y], _, _, _, h2, h => by
    exfalso
    refine h2 y (.head _) ?_
    have e : y.cps.toList = x.cps.toList ++ [c] ++ (Str.join ⟨#[c]⟩ (z :: l)).cps.toList := h.symm.trans (by show (x ++ ⟨#[c]⟩ ++ Str.join _ (z :: l)).cps.toList = _; simp [Str.cps_append])
    rw [e]; simp
  | x :: z :: l, y :: u :: l', _, _, h1, h2, h => by
    have e : x.cps.toList ++ c :: (Str.join ⟨#[c]⟩ (z :: l)).cps.toList = y.cps.toList ++ c :: (Str.join ⟨#[c]⟩ (u :: l')).cps.toList := by
      have a : (x ++ ⟨#[c]⟩ ++ Str.join ⟨#[c]⟩ (z :: l)).cps.toList = (y ++ ⟨#[c]⟩ ++ Str.join ⟨#[c]⟩ (u :: l')).cps.toList := h
      simpa [Str.cps_append] using a
    obtain ⟨e1, e2⟩ := free_inj (h1 x (.head _)) (h2 y (.head _)) e
    rw [Str.ext' (Array.toList_inj.mp e1), join_inj (by simp) (by simp) (fun w hw => h1 w (.tail _ hw)) (fun w hw => h2 w (.tail _ hw)) e2]
theorem split_ne (x y : Str) : Txt.split x y ≠ [] := by
  unfold Txt.split
  split
  · simp
  · split
    · simp
    · rw [StrLaws.partsBetween_eq]
      obtain ⟨p, r, e⟩ := StrLaws.partsFrom_ne x y.length 0 (Builtin.Str.occurrences x y 0 x.length (x.length + 1))
      rw [e]; simp
theorem dot_is : dotS = ⟨#[46]⟩ := by decide +kernel
theorem split_path {P : List Nat} (T : Tree P) {j : Nat} (hj : j < P.length) : Txt.split (path P j) dotS = names P j := by
  have h := StrLaws.join_split (path P j) dotS
  rw [dot_is] at h ⊢
  refine join_inj (split_ne _ _) (by simp [names]) (StrLaws.split_free _ _) (names_free T hj) ?_
  rw [h]
  unfold path
  rw [join_any, dot_is]
theorem pre_iff {P : List Nat} (T : Tree P) {a l : Nat} (ha : a < P.length) : l < P.length → (names P a <+: names P l ↔ Anc P a l) := by
  unfold names
  rw [List.cons_prefix_cons]
  simp only [true_and]
  induction l using Nat.strongRecOn with
  | ind l ih =>
    intro hl
    by_cases h0 : l = 0
    · subst h0
      rw [rest_zero, List.prefix_nil]
      constructor
      · intro h
        by_cases a0 : a = 0
        · subst a0; exact .refl
        · rw [rest_up (T.lt a (by omega) ha)] at h; simp at h
      · intro h
        have := anc_le h
        rw [show a = 0 by omega, rest_zero]
    · have hp := T.lt l (by omega) hl
      rw [rest_up hp, List.prefix_concat_iff, ih _ hp (by omega)]
      constructor
      · rintro (h | h)
        · by_cases a0 : a = 0
          · subst a0; rw [rest_zero] at h; simp at h
          · rw [rest_up (T.lt a (by omega) ha)] at h
            have e := (List.append_inj' h rfl).2
            have hh := T.hi
            have := name_inj ⟨a, by omega⟩ ⟨l, by omega⟩ (List.cons.inj e).1
            cases this; exact .refl
        · exact .up hp h
      · intro h
        cases h with
        | refl => exact .inl (by rw [rest_up hp])
        | up _ h => exact .inr h
def dfs (P : List Nat) (j : Nat) : List Nat := (all P j).filter (· != 3)
def leafs (P : List Nat) : List Nat := (List.range P.length).filter fun j => decide (kids P j = []) && j != 3
theorem mem_dfs {P : List Nat} (T : Tree P) {l : Nat} : l ∈ dfs P 0 ↔ l ∈ leafs P := by
  unfold dfs leafs
  rw [List.mem_filter, List.mem_filter, mem_all T, List.mem_range]
  simp only [Bool.and_eq_true, decide_eq_true_eq]
  exact ⟨fun h => ⟨h.1.1, h.1.2, h.2⟩, fun h => ⟨⟨h.1, h.2.1⟩, h.2.2⟩⟩
theorem dfs_sorted {P : List Nat} (j : Nat) : (dfs P j).Pairwise fun a b => place P a < place P b := List.Pairwise.filter _ (all_sorted j)
theorem dfs_perm {P : List Nat} (T : Tree P) : (dfs P 0).Perm (leafs P) :=
  (List.perm_ext_iff_of_nodup (List.Pairwise.filter _ (all_nodup 0)) (List.Pairwise.filter _ List.nodup_range)).mpr fun _ => mem_dfs T
theorem sorted_is {P : List Nat} (T : Tree P) {l : List Nat} (h : l.Perm (leafs P)) (hs : l.Pairwise fun a b => place P a ≤ place P b) : l = dfs P 0 := by
  have hd := dfs_sorted (P := P) 0
  have hp := h.trans (dfs_perm T).symm
  have inj : ∀ a b, a ∈ dfs P 0 → b ∈ dfs P 0 → place P a = place P b → a = b := by
    intro a b ha hb e
    obtain ⟨i, hi⟩ := mem_get ha
    obtain ⟨k, hk⟩ := mem_get hb
    have hi' := List.getElem?_eq_some_iff.mp hi
    have hk' := List.getElem?_eq_some_iff.mp hk
    obtain ⟨hi1, hi2⟩ := hi'
    obtain ⟨hk1, hk2⟩ := hk'
    rw [List.pairwise_iff_getElem] at hd
    rcases Nat.lt_trichotomy i k with q | q | q
    · have := hd i k hi1 hk1 q; rw [hi2, hk2] at this; omega
    · subst q; rw [← hi2, ← hk2]
    · have := hd k i hk1 hi1 q; rw [hi2, hk2] at this; omega
  refine hp.eq_of_pairwise (le := fun a b => place P a ≤ place P b) (fun a b ha hb h1 h2 => inj a b (hp.mem_iff.mp ha) hb (by omega)) hs (hd.imp fun h => Nat.le_of_lt h)
theorem dfs_mem {P : List Nat} (T : Tree P) {l : Nat} (h : l ∈ dfs P 0) : l < P.length ∧ kids P l = [] ∧ l ≠ 3 := by
  have := (mem_dfs T).mp h
  unfold leafs at this
  rw [List.mem_filter, List.mem_range] at this
  simp only [Bool.and_eq_true, decide_eq_true_eq, bne_iff_ne] at this
  exact ⟨this.1, this.2.1, this.2.2⟩
theorem dfs_length {P : List Nat} (T : Tree P) : (dfs P 0).length ≤ 11 := by
  have h := all_length (P := P) (j := 0) (by have := T.lo; omega)
  exact Nat.le_trans (List.length_filter_le _ _) (Nat.le_trans h T.hi)
theorem dfs_node {P : List Nat} {j : Nat} (h : kids P j ≠ []) : dfs P j = (kids P j).flatMap (dfs P) := by
  unfold dfs
  rw [all_node h, List.filter_flatMap]
theorem dfs_leaf {P : List Nat} {j : Nat} (h : kids P j = []) : dfs P j = if j = 3 then [] else [j] := by
  unfold dfs
  rw [all_leaf h]
  by_cases e : j = 3
  · subst e; rfl
  · rw [if_neg e]; simp [e]
theorem agree {P : List Nat} (T : Tree P) {a l : Nat} (ha : a < P.length) (hl : l ∈ dfs P 0) :
    (names P l).take (names P a).length = names P a ↔ place P a ≤ place P l ∧ place P l < place P a + len P a := by
  obtain ⟨h1, h2, _⟩ := dfs_mem T hl
  rw [← anc_iff T ha h1 h2, ← pre_iff T ha h1, List.prefix_iff_eq_take, eq_comm]
theorem place_inj {P : List Nat} (T : Tree P) {a b : Nat} (ha : a ∈ leafs P) (hb : b ∈ leafs P) (e : place P a = place P b) : a = b := by
  have hd := dfs_sorted (P := P) 0
  obtain ⟨i, hi⟩ := mem_get ((mem_dfs T).mpr ha)
  obtain ⟨k, hk⟩ := mem_get ((mem_dfs T).mpr hb)
  obtain ⟨hi1, hi2⟩ := List.getElem?_eq_some_iff.mp hi
  obtain ⟨hk1, hk2⟩ := List.getElem?_eq_some_iff.mp hk
  rw [List.pairwise_iff_getElem] at hd
  rcases Nat.lt_trichotomy i k with q | q | q
  · have := hd i k hi1 hk1 q; rw [hi2, hk2] at this; omega
  · subst q; rw [← hi2, ← hk2]
  · have := hd k i hk1 hi1 q; rw [hi2, hk2] at this; omega
theorem leafs_mem {P : List Nat} {j : Nat} (h1 : j < P.length) (h2 : kids P j = []) (h3 : j ≠ 3) : j ∈ leafs P :=
  List.mem_filter.mpr ⟨List.mem_range.mpr h1, by simp [h2, h3]⟩
theorem kids_none {P : List Nat} {j : Nat} (h : ∀ c, j < c → c < P.length → par P c ≠ j) : kids P j = [] := by
  rw [List.eq_nil_iff_forall_not_mem]
  intro c hc
  have := mem_kids.mp hc
  exact h c this.2.1 this.1 this.2.2
theorem leafs_pos {P : List Nat} (T : Tree P) : 1 ≤ (leafs P).length := by
  have key : ∃ j, j ∈ leafs P := by
    have hlo := T.lo
    by_cases e : P.length = 4
    · by_cases q : par P 3 = 1
      · refine ⟨2, leafs_mem (by omega) (kids_none fun c h1 h2 h3 => ?_) (by omega)⟩
        have : c = 3 := by omega
        subst this; omega
      · refine ⟨1, leafs_mem (by omega) (kids_none fun c h1 h2 h3 => ?_) (by omega)⟩
        have : c = 2 ∨ c = 3 := by omega
        rcases this with rfl | rfl
        · rw [T.p2] at h3; omega
        · exact q h3
    · exact ⟨P.length - 1, leafs_mem (by omega) (kids_none fun c h1 h2 h3 => by omega) (by omega)⟩
  obtain ⟨j, hj⟩ := key
  exact List.length_pos_iff.mpr fun e => by rw [e] at hj; cases hj
theorem leafs_length {P : List Nat} (T : Tree P) : (leafs P).length ≤ 11 := by rw [← (dfs_perm T).length_eq]; exact dfs_length T
theorem leafs_nodup {P : List Nat} : (leafs P).Nodup := List.Pairwise.filter _ List.nodup_range
theorem names_length {P : List Nat} (T : Tree P) {j : Nat} (hj : j < P.length) : (names P j).length ≤ 11 := by
  have := (rest_names T j hj).1
  have := T.hi
  unfold names
  rw [List.length_cons]; omega
theorem names_short {P : List Nat} (T : Tree P) {j : Nat} (hj : j < P.length) : ∀ x ∈ names P j, x.length ≤ 10 := by
  intro x hx
  rcases List.mem_cons.mp hx with rfl | hx
  · decide +kernel
  · obtain ⟨i, rfl⟩ := (rest_names T j hj).2 x hx
    exact (dec_facts i).2.2.2.1
theorem names_sum {P : List Nat} (T : Tree P) {j : Nat} (hj : j < P.length) : ((names P j).map (·.length)).sum + (names P j).length ≤ 1048576 := by
  have h1 := sum_le_times (fun x : Str => x.length) 10 (names P j) (names_short T hj)
  have h2 := names_length T hj
  omega
theorem strOk_short : ∀ j : Fin 11, PyData.strOk (nodeName j) = true := by decide +kernel
theorem names_ok {P : List Nat} (T : Tree P) {j : Nat} (hj : j < P.length) : ∀ x ∈ names P j, PyData.strOk x = true := by
  intro x hx
  rcases List.mem_cons.mp hx with rfl | hx
  · decide +kernel
  · obtain ⟨i, rfl⟩ := (rest_names T j hj).2 x hx
    exact strOk_short i
theorem strOk_append {x y : Str} (hx : PyData.strOk x = true) (hy : PyData.strOk y = true) : PyData.strOk (x ++ y) = true := by
  unfold PyData.strOk at *
  rw [Str.cps_append, Array.all_append, hx, hy]; rfl
theorem strOk_join {sep : Str} (hs : PyData.strOk sep = true) : ∀ l : List Str, (∀ x ∈ l, PyData.strOk x = true) → PyData.strOk (Str.join sep l) = true
  | [], _ => by
    show PyData.strOk (Str.ofString "") = true
    decide +kernel
  | [x], h => h x (.head _)
  | x :: y :: l, h => by
    show PyData.strOk (x ++ sep ++ Str.join sep (y :: l)) = true
    exact strOk_append (strOk_append (h x (.head _)) hs) (strOk_join hs (y :: l) fun z hz => h z (.tail _ hz))
theorem strOk_path {P : List Nat} (T : Tree P) {j : Nat} (hj : j < P.length) : PyData.strOk (path P j) = true := by
  unfold path
  rw [join_any]
  exact strOk_join (by decide +kernel) _ (names_ok T hj)
theorem strOk_leaf (j : Nat) : PyData.strOk (leafText j) = true := by
  unfold leafText PyData.strOk
  rw [List.all_toArray, List.all_eq_true]
  intro x hx
  obtain rfl := List.eq_of_mem_replicate hx
  rw [decide_eq_true_iff]
  omega
theorem strOk_text {P : List Nat} : ∀ j, PyData.strOk (text P j) = true := by
  refine down_ind (P := P) fun j ih => ?_
  by_cases h : kids P j = []
  · rw [text_leaf h]; exact strOk_leaf j
  · rw [text_node h, txt_join]
    refine strOk_join (by decide +kernel) _ fun x hx => ?_
    obtain ⟨c, hc, rfl⟩ := List.mem_map.mp hx
    exact ih c hc
def kidsTo (P : List Nat) (j k : Nat) : List Nat := (List.range k).filter fun c => decide (j < c) && par P c == j
theorem kidsTo_all (P : List Nat) (j : Nat) : kidsTo P j P.length = kids P j := rfl
theorem kidsTo_step (P : List Nat) (j k : Nat) : kidsTo P j (k + 1) = kidsTo P j k ++ (if (decide (j < k) && par P k == j) = true then [k] else []) := by
  unfold kidsTo
  rw [List.range_succ, List.filter_append, List.filter_cons, List.filter_nil]
theorem kidsTo_one (P : List Nat) (j : Nat) : kidsTo P j 1 = [] := by
  rw [kidsTo_step, if_neg (by simp)]; rfl
theorem kidsTo_length (P : List Nat) (j k : Nat) : (kidsTo P j k).length ≤ k := Nat.le_trans (List.length_filter_le _ _) (Nat.le_of_eq List.length_range)

end
section
open PySem.Calls
theorem entry_callable : entryFor table "callable" = some Builtin.«callable» := entryFor_of_fast (by kernel_rfl)
theorem plain_callable : plainId "callable" = true := by kernel_rfl
theorem args_callable1 (a : Value) : argsOk "callable" ⟨[a], []⟩ := by unfold argsOk; kernel_rfl
theorem fn_call : typeLookup (.type "function") (Str.ofString "__call__") = pure (some (.builtin "function.__call__")) := by kernel_rfl
theorem kind_callable : builtinKind "callable" = none := by decide +kernel
theorem callableFn {prog : Program} {w : World} {A : Around} {E : Value → Shared → Prop} {Q : Value → Shared → Prop} {s : Shared} {L a : Addr} {o : Obj} {h₀ : Heap} {news : List (Addr × Obj)} (N : News h₀ L s.heap news) (m : (a, o) ∈ news) (hc : o.cls = .type "function") (hq : Q (.bool true) s) :
    wpAny (model prog w) A (call (.builtin "callable") [.ref a]) Q E s := by
  have hT : s.TypeIs (.ref a) "function" := ⟨o, (N _ m).1, hc⟩
  refine Calls.call_function_entry kind_callable plain_callable entry_callable (args_callable1 _) ?_
  unfold Builtin.«callable»
  refine wpAny_bind (wpAny_of_eq (a := Value.ref a) rfl (wpAny_bind (wpAny_specialOf hT fn_call ?_)))
  exact wpAny_pure ⟨_, rfl, hq⟩

end
section
section
variable {prog : Program} {w : World} {A : Around} {s : Shared} {h₀ : Heap} {m : Str → Option Value} {news : List (Addr × Obj)} {env : Env} {E : Value → Shared → Prop}
theorem loop_rangeR {R : Result → Shared → Prop} {target : Expr} {body : List Stmt} {r : Addr} {a b c : Int} {t u v : Tok} (n : Nat) (F : Fr h₀ env.locals s.heap m) (N : News h₀ env.locals s.heap news) (hr : IsRange s.heap r a b c t u v) (hsmall : Builtin.Range.small a b c = true) (hn : Builtin.Range.rangeSize a b c = (n : Int))
    (hh : A.handled = none) (J : Nat → (Str → Option Value) → List (Addr × Obj) → Prop) (hj : J 0 m news)
    (turn : ∀ I i t o₁ m₁ rest h tk, i < n → J i m₁ rest → Fr h₀ env.locals h m₁ → News h₀ env.locals h ((I, o₁) :: rest) → (∀ p ∈ rest, p.1 ≠ I) → (∀ p ∈ news, p.1 < I) →
      wpAny (model prog w) A (assign target env (.int (a + (i : Nat) * c) t)) (fun _ s₂ => wpAny (model prog w) A (execs body env) (fun f s₃ => match f with
        | .next | .cont => NxtR h₀ env.locals s I o₁ (J (i + 1)) s₃
        | .brk => R (.ok .next) s₃
        | .ret v => R (.ok (.ret v)) s₃) (fun _ _ => False) s₂) (fun _ _ => False) { s with heap := h, toks := tk })
    (done : ∀ m₁ rest h tk, J n m₁ rest → Fr h₀ env.locals h m₁ → News h₀ env.locals h rest → R (.ok .next) { s with heap := h, toks := tk }) :
    wpAny (model prog w) A (pyIter (.ref r)) (fun it s₂ => codeAny (model prog w) A (.forLoop target it body [] env) R s₂) E s :=
  pyIter_rangeY F N hr hsmall (fun I o h' F' N' hlt hI => loop_iter (s := { s with heap := h' }) (iterRange a c n) hh J (fun i m₁ rest hJ p hp => nomatch hp) F' N' (fun p hp => Nat.ne_of_lt (hlt p hp)) (by rw [hI, hn]; simp) hj
    (fun i v o₁ m₁ rest h tk hi hP hJ F₁ N₁ hne => by
      obtain ⟨t, rfl⟩ := hP
      exact turn I i t o₁ m₁ rest h tk hi hJ F₁ N₁ hne hlt) done)
end
section
variable {prog : Program} {w : World} {A : Around} {E : Value → Shared → Prop} {s : Shared} {env : Env} {h₀ : Heap} {L : Addr} {m : Str → Option Value} {news : List (Addr × Obj)}
  {elt target c : Expr} {ifs : List Expr} {scope : Scope} {cl : List (Str × Addr)} {Q : Value → Shared → Prop} {r : Addr} {a b d : Int} {t u v : Tok}
theorem comp_range1 (n : Nat) (F : Fr h₀ L s.heap m) (N : News h₀ L s.heap news) (hr : IsRange s.heap r a b d t u v) (hsmall : Builtin.Range.small a b d = true) (hn' : Builtin.Range.rangeSize a b d = (n : Int)) (hn : n ≤ 1000)
    (J : Nat → List Value → List (Addr × Obj) → Prop) (hj : J 0 [] [])
    (turn : ∀ g C I D i t o₁ lo₁ ys tl h tk m₁, i < n → J i ys tl → h₀.StaysIn g → Fr g C h m₁ → News g C h ((I, o₁) :: (D, lo₁) :: (tl ++ news)) →
      wpAny (model prog w) A (assign target (compEnvC scope cl C env) (.int (a + (i : Nat) * d) t)) (fun _ s₂ => wpAny (model prog w) A (isTrue c (compEnvC scope cl C env) (eval c (compEnvC scope cl C env))) (fun ok s₃ =>
        if ok = true then wpAny (model prog w) A (eval elt (compEnvC scope cl C env)) (fun y s₄ => NxtC g C s I o₁ D lo₁ tl news (J (i + 1) (ys ++ [y])) s₄) (fun _ _ => False) s₃
        else NxtC g C s I o₁ D lo₁ tl news (J (i + 1) ys) s₃) (fun _ _ => False) s₂) (fun _ _ => False) { s with heap := h, toks := tk })
    (done : ∀ D e ys tl h tk, J n ys tl → Fr h₀ L h m → News h₀ L h ((D, ({ cls := .type "list", data := .seq ys.toArray e } : Obj)) :: (tl ++ news)) → Above tl news → (∀ p ∈ news, p.1 < D) → (∀ p ∈ tl, D < p.1) → Q (.ref D) { s with heap := h, toks := tk }) :
    wpAny (model prog w) A (pyIter (.ref r)) (fun it s₂ => ∃ I, it = .ref I ∧ Nonempty (CompRun prog w A env elt target [c] scope cl Q I s₂)) E s :=
  pyIter_rangeY F N hr hsmall (fun I o h' F' N' hlt hI => ⟨I, rfl, ⟨⟨h₀, L, m, o, [], n, _, _, news, J, iterRange a d n, (fun p hp => nomatch hp), F', N', hlt, by rw [hI, hn']; simp, hj, hn,
    (fun g C D i v o₁ lo₁ ys tl h tk m₁ hi hv hJ st F₁ N₁ => by
      obtain ⟨t, rfl⟩ := hv
      exact wpAny_mono (turn g C I D i t o₁ lo₁ ys tl h tk m₁ hi hJ st F₁ N₁) (fun _ s₂ h₂ => wpAny_tests_one h₂) fun _ _ e => e), done⟩⟩⟩)
end
theorem range_up {n : Nat} (a : Nat) (h : a ≤ n) : Builtin.Range.rangeSize (a : Nat) (n : Nat) 1 = ((n - a : Nat) : Int) := by
  unfold Builtin.Range.rangeSize
  rw [if_pos (by decide)]
  split
  · rw [Int.ediv_one]; omega
  · omega
theorem range_down {n : Nat} (h : 1 ≤ n) : Builtin.Range.rangeSize ((n : Int) - 1) (-1) (-1) = (n : Int) := by
  unfold Builtin.Range.rangeSize
  rw [if_neg (by decide)]
  rw [if_pos (by omega)]
  simp only [Int.neg_neg, Int.ediv_one]
  omega
theorem fitsL {x : Int} (h1 : -5 ≤ x) (h2 : x ≤ 2000) : Builtin.Range.rangeFitsLong x = true := by
  unfold Builtin.Range.rangeFitsLong
  simp
  omega
theorem small_up {a n : Nat} (h : n ≤ 1000) (ha : a ≤ n) : Builtin.Range.small (a : Nat) (n : Nat) 1 = true := by
  unfold Builtin.Range.small
  rw [range_up a ha, fitsL (by omega) (by omega), fitsL (by omega) (by omega), fitsL (by omega) (by omega), fitsL (by omega) (by omega), if_pos (by decide), fitsL (by omega) (by omega)]
  simp
theorem small_down {n : Nat} (h : n ≤ 1000) (ha : 1 ≤ n) : Builtin.Range.small ((n : Int) - 1) (-1) (-1) = true := by
  unfold Builtin.Range.small
  rw [range_down ha, fitsL (by omega) (by omega), fitsL (by omega) (by omega), fitsL (by omega) (by omega), if_neg (by decide), fitsL (by omega) (by omega)]
  simp

end
section
section
variable {prog : Program} {w : World} {A : Around} {s : Shared} {c : Code} {fs : List Frame} {P : End → Shared → Prop} {env : Env} {K : Flow → Sem Fin} {H : Value → Sem Fin} {gd : Bool → Bool} {lv : List Value → List Value}
theorem seg_prep4 {q1 q2 q3 q4 : Stmt} {rest : List Stmt} {d u : Nat} (f : Fits (A.over c fs) d u)
    (h : wpAny (model prog w) (AM d u) (exec q1 env) (fun f1 s₁ => f1 = .next ∧ wpAny (model prog w) (AM d u) (exec q2 env) (fun f2 s₂ => f2 = .next ∧ wpAny (model prog w) (AM d u) (exec q3 env) (fun f3 s₃ => f3 = .next ∧ wpAny (model prog w) (AM d u) (exec q4 env) (fun f4 s₄ =>
      SegT (model prog w) A c (match f4 with | .next => (execs rest env).wrap K H gd lv | f => K f) fs s₄ P) (fun _ _ => False) s₃) (fun _ _ => False) s₂) (fun _ _ => False) s₁) (fun _ _ => False) s) :
    SegT (model prog w) A c ((execs (q1 :: q2 :: q3 :: q4 :: rest) env).wrap K H gd lv) fs s P := by
  refine seg_cons (seg_any f (wpAny_mono h (fun f1 s₁ x => ?_) fun _ _ x => x))
  obtain ⟨rfl, x⟩ := x
  refine seg_cons (seg_any f (wpAny_mono x (fun f1 s₁ x => ?_) fun _ _ x => x))
  obtain ⟨rfl, x⟩ := x
  refine seg_cons (seg_any f (wpAny_mono x (fun f1 s₁ x => ?_) fun _ _ x => x))
  obtain ⟨rfl, x⟩ := x
  exact seg_cons (seg_any f (wpAny_mono x (fun f1 s₁ x => x) fun _ _ x => x))
theorem seg_three {g2 g3 g4 : Stmt} {d u : Nat} (f : Fits (A.over c fs) d u)
    (h : wpAny (model prog w) (AM d u) (exec g2 env) (fun f1 s₁ => f1 = .next ∧ wpAny (model prog w) (AM d u) (exec g3 env) (fun f2 s₂ => f2 = .next ∧ wpAny (model prog w) (AM d u) (exec g4 env) (fun f4 s₄ =>
      SegT (model prog w) A c (match f4 with | .next => (execs [] env).wrap K H gd lv | f => K f) fs s₄ P) (fun _ _ => False) s₂) (fun _ _ => False) s₁) (fun _ _ => False) s) :
    SegT (model prog w) A c ((execs [g2, g3, g4] env).wrap K H gd lv) fs s P := by
  refine seg_cons (seg_any f (wpAny_mono h (fun f1 s₁ x => ?_) fun _ _ x => x))
  obtain ⟨rfl, x⟩ := x
  refine seg_cons (seg_any f (wpAny_mono x (fun f1 s₁ x => ?_) fun _ _ x => x))
  obtain ⟨rfl, x⟩ := x
  exact seg_cons (seg_any f (wpAny_mono x (fun f1 s₁ x => x) fun _ _ x => x))
variable {tgt : Expr} {v : Value}
theorem assign_first {g1 : Stmt} {c1 c2 c3 ey : Expr} {b3 tail : List Stmt} {yp yq p1 p2 p5 : Pos} {d u : Nat} (f : Fits (A.over c fs) d u) (hi : interactive env = false)
    (h : wpAny (model prog w) (AM d u) (assign tgt env v) (fun _ s₁ => wpAny (model prog w) (AM d u) (exec g1 env) (fun f1 s₂ => f1 = .next ∧ wpAny (model prog w) (AM d u) (isTrue c1 env (eval c1 env)) (fun b1 s₃ => b1 = true ∧
      wpAny (model prog w) (AM d u) (isTrue c2 env (eval c2 env)) (fun b2 s₄ => b2 = true ∧ wpAny (model prog w) (AM d u) (isTrue c3 env (eval c3 env)) (fun b3 s₅ => b3 = false ∧ wpAny (model prog w) (AM d u) (eval ey env) (fun v s' => ∃ a g, v = .ref a ∧ IsGenS s'.heap a g ∧ ∀ p (k : Result → Sem Fin),
        (∀ A' s'' P', SegT (model prog w) A' c ((execs tail env).wrap (fun f => match f with | .next => (execs [] env).wrap K H gd lv | f => K f) H gd lv) fs s'' P' → SegT (model prog w) A' c (k (.ok (.ret .none))) fs s'' P') →
        SegT (model prog w) A (yfCode a) ((model prog w).den (yfCode a)) (.ret k none (gd false) (lv []) c p [] :: fs) s' P) (fun _ _ => False) s₅) (fun _ _ => False) s₄) (fun _ _ => False) s₃) (fun _ _ => False) s₂) (fun _ _ => False) s₁) (fun _ _ => False) s) :
    wpT (model prog w) (A.over c fs) (assign tgt env v) (fun _ s₁ => SegT (model prog w) A c ((execs [g1, .If c1 (.If c2 [.If c3 b3 [.Expr (.YieldFrom ey yp) yq] p1] [] p2 :: tail) [] p5] env).wrap K H gd lv) fs s₁ P) (fun _ _ => False) s := by
  refine wpT_of (wpAny_lift f (wpAny_mono h (fun _ s₁ x => ?_) fun _ _ y => y))
  refine seg_cons (seg_any f (wpAny_mono x (fun f1 s₁ x => ?_) fun _ _ x => x))
  obtain ⟨rfl, x⟩ := x
  refine seg_cons (seg_If f (wpAny_mono x (fun b s' x => ?_) fun _ _ x => x))
  obtain ⟨rfl, x⟩ := x
  rw [if_pos rfl]
  refine seg_cons (seg_If f (wpAny_mono x (fun b s' x => ?_) fun _ _ x => x))
  obtain ⟨rfl, x⟩ := x
  rw [if_pos rfl]
  refine seg_cons (seg_If f (wpAny_mono x (fun b s' x => ?_) fun _ _ x => x))
  obtain ⟨rfl, x⟩ := x
  rw [if_neg Bool.false_ne_true]
  refine seg_cons (seg_YieldFrom f (wpAny_mono x (fun v s' y => ?_) fun _ _ x => x) hi)
  obtain ⟨a, g, e1, e2, y⟩ := y
  refine ⟨a, g, e1, e2, fun p k hk => y p k fun A' s'' P' z => ?_⟩
  rw [hk]
  exact seg_nil (seg_nil z)
theorem assign_second {g1 : Stmt} {c1 : Expr} {bT : List Stmt} {p5 : Pos} {d u : Nat} (f : Fits (A.over c fs) d u)
    (h : wpAny (model prog w) (AM d u) (assign tgt env v) (fun _ s₁ => wpAny (model prog w) (AM d u) (exec g1 env) (fun f1 s₂ => f1 = .next ∧ wpAny (model prog w) (AM d u) (isTrue c1 env (eval c1 env)) (fun b s₃ => b = false ∧ SegT (model prog w) A c (K .next) fs s₃ P) (fun _ _ => False) s₂) (fun _ _ => False) s₁) (fun _ _ => False) s) :
    wpT (model prog w) (A.over c fs) (assign tgt env v) (fun _ s₁ => SegT (model prog w) A c ((execs [g1, .If c1 bT [] p5] env).wrap K H gd lv) fs s₁ P) (fun _ _ => False) s := by
  refine wpT_of (wpAny_lift f (wpAny_mono h (fun _ s₁ x => ?_) fun _ _ y => y))
  refine seg_cons (seg_any f (wpAny_mono x (fun f1 s₁ x => ?_) fun _ _ x => x))
  obtain ⟨rfl, x⟩ := x
  refine seg_cons (seg_If f (wpAny_mono x (fun b s' x => ?_) fun _ _ x => x))
  obtain ⟨rfl, x⟩ := x
  rw [if_neg Bool.false_ne_true]
  exact seg_nil (seg_nil x)
end
section
variable {h₀ h h' : Heap} {L I : Addr} {o o' : Obj} {m : Str → Option Value} {news : List (Addr × Obj)}
theorem it_step (F : Fr h₀ L h m) (N : News h₀ L h ((I, o) :: news)) (hne : ∀ p ∈ news, p.1 ≠ I) (ho : h'.get? I = some o') (hb : Heap.SameBut I h h') : Fr h₀ L h' m ∧ News h₀ L h' ((I, o') :: news) := by
  have z := N _ (.head _)
  refine ⟨Fr.change' F hb.extBut z.2.1 z.2.2, fun p hp => ?_⟩
  rcases List.mem_cons.mp hp with rfl | hp
  · exact ⟨ho, z.2⟩
  · have y := N p (.tail _ hp)
    exact ⟨(hb.2 _ (hne p hp)).trans y.1, y.2⟩
theorem it_fin (F : Fr h₀ L h m) (N : News h₀ L h ((I, o) :: news)) (hne : ∀ p ∈ news, p.1 ≠ I) (hb : Heap.ExtBut I h h') : Fr h₀ L h' m ∧ News h₀ L h' news := by
  have z := N _ (.head _)
  refine ⟨Fr.change' F hb z.2.1 z.2.2, fun p hp => ?_⟩
  have y := N p (.tail _ hp)
  exact ⟨hb _ _ (hne p hp) y.1, y.2⟩
end

end
section
section
variable {prog : Program} {w : World} {A : Around} {E : Value → Shared → Prop} {s : Shared}
theorem callTypeT {T newId initId : String} {args : List Value} {Q : Value → Shared → Prop} (ft : TypeCalled T newId initId) (hct : checkTypeCall T ⟨args, []⟩ = pure ())
    (hnew : wpAny (model prog w) A.in1 (call (.builtin newId) (.type T :: args)) (fun obj s₁ => s₁.TypeIs obj T ∧
      wpT (model prog w) A.in1 (call (.builtin initId) (obj :: args)) (fun r s₂ => r = .none ∧ Q obj s₂) E s₁) E s) :
    wpT (model prog w) A (call (.type T) args) Q E s := by
  obtain ⟨c, tl, hmro⟩ := ft.mro
  have hmade := ft.made
  have hsub := ft.sub
  have h1 := ft.notType
  have h2 := ft.canCreate
  refine wpT_call (codeT_of_tree ?_)
  show wpT _ _ (callAny (.type T) _) _ _ _
  refine wpT_pure ⟨Code.quiet_builtin _ (by decide +kernel), codeT_of_tree ?_⟩
  rw [den_builtin F.entry_type_call, Around.under_plain (weight_type_call_type T args []) rfl]
  unfold Builtin.«type.__call__»
  simp only [h1, h2, hct, hmro, hmade, Bool.false_eq_true, if_false, pure_bind, List.isEmpty_cons]
  refine wpT_then (wpAny_holding (wpAny_mono hnew (fun obj s₁ x => ?_) fun _ _ e => e))
  obtain ⟨hT, x⟩ := x
  refine wpT_then (wpAny_isInstance hT hsub ?_)
  simp only [Bool.not_true, Bool.false_eq_true, if_false]
  refine wpT_bind (wpT_holding ?_)
  simp only [callSpecial?]
  refine wpT_then (wpAny_specialOf hT ft.init.lookup ?_)
  simp only [ft.init.bind]
  refine wpT_holding (wpT_bind (wpT_pure (wpT_bind (wpT_mono x (fun r s₂ y => ?_) fun _ _ e => e))))
  obtain ⟨rfl, y⟩ := y
  exact wpT_pure (wpT_pure y)
inductive Got (h₀ h : Heap) (S : Addr) : List Value → List Tk → Prop
  | nil : Got h₀ h S [] []
  | cons {v t vs ts} : (∃ a k1 k2, v = .ref a ∧ h.get? a = some (tokObj t k1 k2) ∧ h₀.get? a = none ∧ a ≠ S) → Got h₀ h S vs ts → Got h₀ h S (v :: vs) (t :: ts)
theorem Got.keep {h₀ h h' : Heap} {S : Addr} {vs : List Value} {ts : List Tk} (g : Got h₀ h S vs ts) (k : ∀ a o, h.get? a = some o → a ≠ S → h'.get? a = some o) : Got h₀ h' S vs ts := by
  induction g with
  | nil => exact .nil
  | cons x _ ih =>
    obtain ⟨a, k1, k2, e1, e2, e3, e4⟩ := x
    exact .cons ⟨a, k1, k2, e1, k a _ e2 e4, e3, e4⟩ ih
theorem Got.snoc {h₀ h : Heap} {S : Addr} {vs us : List Value} {ts rs : List Tk} (g : Got h₀ h S vs ts) (g' : Got h₀ h S us rs) : Got h₀ h S (vs ++ us) (ts ++ rs) := by
  induction g with
  | nil => exact g'
  | cons x _ ih => exact .cons x ih
structure Ended (S : Addr) (fp : List (Addr × Obj)) (gp : List (Nat × GenState)) (s s' : Shared) : Prop where
  keep : ∀ a o, s.heap.get? a = some o → (∀ p ∈ fp, p.1 ≠ a) → a ≠ S → s'.heap.get? a = some o
  bare : ∀ g x, s'.gens[g]? = some x → (s.gens[g]? = some x ∧ ∀ p ∈ gp, p.1 ≠ g) ∨ x = .finished
  os : s'.os = s.os
  drawn : s'.drawn = s.drawn
theorem Ended.before {S : Addr} {fp fp' : List (Addr × Obj)} {gp gp' : List (Nat × GenState)} {h₀ : Heap} {s s₁ s' : Shared} {h : Heap} (M : Moves h₀ fp fp' gp gp' s s₁) (x : Ended S fp' gp' { s₁ with heap := h } s') (hh : ∀ a o, s₁.heap.get? a = some o → a ≠ S → h.get? a = some o) : Ended S fp gp s s' := by
  refine ⟨fun a o e hf hS => x.keep a o (hh a o (M.keep a o e hf) hS) (fun p hp q => ?_) hS, fun g y e => ?_, x.os.trans M.os, x.drawn.trans M.drawn⟩
  · rcases M.fresh p hp with ⟨r, h1, h2⟩ | h1
    · exact hf r h1 (h2.trans q)
    · rw [q, e] at h1; cases h1
  · rcases x.bare g y e with ⟨h1, h2⟩ | h1
    · rcases M.bare g y h1 with z | z | ⟨p, hp, z⟩
      · exact .inl z
      · exact .inr z
      · exact absurd z (h2 p hp)
    · exact .inr h1
theorem extend_will {h₀ : Heap} {sh : List (Addr × Obj)} {n g : Nat} {S I : Addr} {res : Value} {R : Result → Shared → Prop} (hf : Fits A.in1 (400 + n) (400 + 8 * n)) (hS0 : h₀.get? S = none) (hSI : S ≠ I) (hSs : ∀ p ∈ sh, p.1 ≠ S) :
    ∀ (ts : List Tk) (fp : List (Addr × Obj)) (gp : List (Nat × GenState)) (acc : List Value) (c : Nat) (done : List Tk) (s : Shared), Will prog w h₀ sh n ts g fp gp → Has h₀ sh fp gp s → IsGenS s.heap I g → (∀ p ∈ fp, p.1 ≠ I) → (∀ p ∈ fp, p.1 ≠ S) →
      s.heap.get? S = some (listOf acc.toArray c) → Got h₀ s.heap S acc done → (∀ v ∈ acc, ∀ a, v = .ref a → ∀ p ∈ fp, p.1 ≠ a) → acc.length + ts.length ≤ 1000 →
      (∀ s' acc' c', Ended S fp gp s s' → s'.heap.get? S = some (listOf acc'.toArray c') → Got h₀ s'.heap S acc' (done ++ ts) → R (.ok (.ret res)) s') →
      codeT (model prog w) A (.builtin "list.extend.loop" ⟨[.ref S, .ref I, res], []⟩) R s := by
  intro ts
  induction ts with
  | nil =>
    intro fp gp acc c done s hW H hg hfI hfS hS hG hac hlen hR
    refine codeT_of_tree ?_
    rw [den_builtin F.entry_extend_loop, Around.under_plainId F.plain_extend_loop _]
    show wpT _ A.in1 (pyNext (.ref I) >>= _) _ _ s
    refine wpT_bind (nextT (wpT_lift hf (hW s I _ _ H hg hfI fun s' M => ?_)))
    have kk : ∀ a o, s.heap.get? a = some o → (∀ p ∈ fp, p.1 ≠ a) → s'.heap.get? a = some o := M.keep
    refine wpT_pure (hR s' acc c ⟨fun a o e h1 _ => kk a o e h1, fun g x e => ?_, M.os, M.drawn⟩ (kk S _ hS hfS) ?_)
    · rcases M.bare g x e with z | z | ⟨p, hp, _⟩
      · exact .inl z
      · exact .inr z
      · cases hp
    · rw [List.append_nil]
      clear hR hlen hS
      induction hG with
      | nil => exact .nil
      | cons x _ ih =>
        obtain ⟨a, k1, k2, e1, e2, e3, e4⟩ := x
        exact .cons ⟨a, k1, k2, e1, kk a _ e2 (hac _ (.head _) a e1), e3, e4⟩ (ih fun v hv => hac v (.tail _ hv))
  | cons t ts ih =>
    intro fp gp acc c done s hW H hg hfI hfS hS hG hac hlen hR
    have limit : sizeLine = 16777216 := sizeLine_eq
    refine codeT_of_tree ?_
    rw [den_builtin F.entry_extend_loop, Around.under_plainId F.plain_extend_loop _]
    show wpT _ A.in1 (pyNext (.ref I) >>= _) _ _ s
    refine wpT_bind (nextT (wpT_lift hf (hW s I _ _ H hg hfI fun v s' fp' gp' hv M H' hW' => ?_)))
    have nfp : ∀ a o, s.heap.get? a = some o → (∀ p ∈ fp, p.1 ≠ a) → ∀ p ∈ fp', p.1 ≠ a := fun a o e h1 p hp q => by
      rcases M.fresh p hp with ⟨r, h2, h3⟩ | h2
      · exact h1 r h2 (h3.trans q)
      · rw [q, e] at h2; cases h2
    have hS' := M.keep S _ hS hfS
    obtain ⟨oI, n1, n2, hI, hI2⟩ := hg.ex
    have hI' := M.keep I _ hI hfI
    show wpT _ A.in1 (updateSeq S (·.push v) >>= _) _ _ _
    refine wpT_then (wpAny_updateSeq hS' rfl (wpT_pure ?_) ?_ ?_)
    · have oth : ∀ b o, b ≠ S → s'.heap.get? b = some o → (s'.heap.update S (Obj.mapSeq (·.push v))).get? b = some o := fun b o hb e => (Heap.get?_update_other _ _ (Ne.symm hb)).trans e
      obtain ⟨a, k1, k2, rfl, ea, ea0, eaf⟩ := hv
      have haS : a ≠ S := fun q => by
        rw [q, hS'] at ea
        exact absurd (congrArg Obj.cls (Option.some.inj ea)) (by simp [tokObj, tupO, W.listOf])
      have hGs : Got h₀ (s'.heap.update S (Obj.mapSeq (·.push (.ref a)))) S acc done := by
        clear hR hlen hS ih hS'
        induction hG with
        | nil => exact .nil
        | cons x _ ih =>
          obtain ⟨a', k1', k2', e1, e2, e3, e4⟩ := x
          exact .cons ⟨a', k1', k2', e1, oth _ _ e4 (M.keep a' _ e2 (hac _ (.head _) a' e1)), e3, e4⟩ (ih fun v hv => hac v (.tail _ hv))
      refine ⟨plainId_quiet F.plain_extend_loop _, ih fp' gp' (acc ++ [.ref a]) (c + 1) (done ++ [t]) _ hW' ⟨fun b o e => oth b o (fun q => ?_) (H'.base b o e), fun p hp => ⟨oth _ _ (hSs p hp) (H'.shared p hp).1, (H'.shared p hp).2⟩, fun p hp => ⟨oth _ _ (fun q => nfp S _ hS hfS p hp q) (H'.own p hp).1, (H'.own p hp).2⟩, H'.apart, H'.gens⟩
        ⟨oI, n1, n2, oth _ _ (Ne.symm hSI) hI', hI2⟩ (nfp I _ hI hfI) (nfp S _ hS hfS) ?_ (hGs.snoc (.cons ⟨a, k1, k2, rfl, oth _ _ haS ea, ea0, haS⟩ .nil)) (fun u hu a' e' => ?_) ?_ fun s'' acc' c' hE hS'' hG' => ?_⟩
      · rw [q, hS0] at e; cases e
      · rw [Heap.get?_update_self _ hS' rfl]
        simp [Obj.mapSeq, W.listOf]
      · rcases List.mem_append.mp hu with hu | hu
        · have : ∀ vs ds, Got h₀ s.heap S vs ds → (∀ v ∈ vs, ∀ a, v = .ref a → ∀ p ∈ fp, p.1 ≠ a) → u ∈ vs → ∀ p ∈ fp', p.1 ≠ a' := by
            intro vs ds hh
            induction hh with
            | nil => intro _ h; cases h
            | cons x _ ih' =>
              intro hq hm
              obtain ⟨b, k1', k2', e1, e2, e3, e4⟩ := x
              rcases List.mem_cons.mp hm with rfl | hm
              · obtain rfl : a' = b := by rw [e'] at e1; cases e1; rfl
                exact nfp a' _ e2 (hq _ (.head _) a' e')
              · exact ih' (fun v hv => hq v (.tail _ hv)) hm
          exact this acc done hG hac hu
        · obtain rfl : u = .ref a := by simpa using hu
          obtain rfl : a = a' := by cases e'; rfl
          exact eaf
      · simp only [List.length_append, List.length_cons, List.length_nil] at hlen ⊢; omega
      · exact hR s'' acc' c' (Ended.before M hE fun a o e hne => oth a o hne e) hS'' (by rw [List.append_assoc] at hG'; exact hG')
    · simp only [List.length_cons] at hlen; simp; omega
    · simp only [List.length_cons] at hlen; simp; omega
end

end
section
section
variable {prog : Program} {w : World} {A : Around} {E : Value → Shared → Prop} {s : Shared}
theorem Has.heap {h₀ : Heap} {sh fp : List (Addr × Obj)} {gp : List (Nat × GenState)} {h' : Heap} {S : Addr} (H : Has h₀ sh fp gp s) (hS0 : h₀.get? S = none) (hSs : ∀ p ∈ sh, p.1 ≠ S) (hSf : ∀ p ∈ fp, p.1 ≠ S) (k : ∀ a o, a ≠ S → s.heap.get? a = some o → h'.get? a = some o) : Has h₀ sh fp gp { s with heap := h' } :=
  ⟨fun b o e => k b o (fun q => by rw [q, hS0] at e; cases e) (H.base b o e), fun p hp => ⟨k _ _ (hSs p hp) (H.shared p hp).1, (H.shared p hp).2⟩, fun p hp => ⟨k _ _ (hSf p hp) (H.own p hp).1, (H.own p hp).2⟩, H.apart, H.gens⟩
theorem Ended.first {S : Addr} {fp : List (Addr × Obj)} {gp : List (Nat × GenState)} {s s' : Shared} {h : Heap} (x : Ended S fp gp { s with heap := h } s') (k : ∀ a o, a ≠ S → s.heap.get? a = some o → h.get? a = some o) : Ended S fp gp s s' := ⟨fun a o e h1 h2 => x.keep a o (k a o h2 e) h1 h2, x.bare, x.os, x.drawn⟩
theorem extend_gen_will {h₀ : Heap} {sh : List (Addr × Obj)} {n g : Nat} {S I : Addr} {res : Value} {R : Result → Shared → Prop} {ts : List Tk} {fp : List (Addr × Obj)} {gp : List (Nat × GenState)} {c : Nat} (hf : Fits A.in1 (400 + n) (400 + 8 * n)) (hS0 : h₀.get? S = none) (hSI : S ≠ I) (hSs : ∀ p ∈ sh, p.1 ≠ S)
    (hW : Will prog w h₀ sh n ts g fp gp) (H : Has h₀ sh fp gp s) (hg : IsGenS s.heap I g) (hfI : ∀ p ∈ fp, p.1 ≠ I) (hfS : ∀ p ∈ fp, p.1 ≠ S)
    (hS : s.heap.get? S = some (W.listOf #[] c)) (hlen : ts.length ≤ 1000)
    (hR : ∀ s' acc' c', Ended S fp gp s s' → s'.heap.get? S = some (W.listOf acc'.toArray c') → Got h₀ s'.heap S acc' ts → R (.ok (.ret res)) s') :
    wpT (model prog w) A.in1 (Builtin.List.listExtendWith (.ref S) (.ref I) res)
      (fun fin s' => match fin with | .done f => R (.ok f) s' | .again c' => c'.quiet = true ∧ codeT (model prog w) A c' R s') (fun e s' => R (.error e) s') s := by
  have h1 : Builtin.List.listSameRef (.ref S) (.ref I) = false := by simp [Builtin.List.listSameRef, hSI]
  have h2 : (Value.type "generator" == Value.type "list") = false := by decide
  have h3 : (Value.type "generator" == Value.type "tuple") = false := by decide
  unfold Builtin.List.listExtendWith
  refine wpT_then (wpAny_typeOf hg.typeIs ?_)
  simp only [h1, h2, h3, Bool.or_false, Bool.false_eq_true, if_false]
  refine wpT_then (wpAny_pyIter_genS hg ?_)
  refine wpT_bind (wpT_holding ?_)
  unfold Builtin.List.listLengthHint
  refine wpT_then (wpAny_specialOf hg.typeIs F.gen_no_len ?_)
  show wpT _ A.in1 (specialOf (Value.ref I) (Str.ofString "__length_hint__") >>= _) _ _ _
  refine wpT_then (wpAny_specialOf hg.typeIs F.gen_no_hint ?_)
  refine wpT_pure ?_
  show wpT _ A.in1 (rule "list.extend.makes-room" >>= fun _ => Builtin.List.listTouch (.ref S) >>= fun _ =>
    again (.builtin "list.extend.loop" ⟨[.ref S, .ref I, res], []⟩)) _ _ _
  refine wpT_then (wpAny_rule ?_)
  have hS₂ := Heap.get?_update_self (Obj.mapSeq (·.push Value.none)) hS rfl
  have hS₃ := Heap.get?_update_self (Obj.mapSeq (·.pop)) hS₂ rfl
  have oth : ∀ b o, b ≠ S → s.heap.get? b = some o → ((s.heap.update S (Obj.mapSeq (·.push Value.none))).update S (Obj.mapSeq (·.pop))).get? b = some o :=
    fun b o hb e => (Heap.get?_update_other _ _ (Ne.symm hb)).trans ((Heap.get?_update_other _ _ (Ne.symm hb)).trans e)
  refine wpT_then ?_
  show wpAny _ A.in1 (updateSeq S (·.push .none) >>= fun _ => updateSeq S (·.pop)) _ _ _
  refine wpAny_bind (wpAny_updateSeq hS rfl ?_)
  refine wpAny_updateSeq (hz := by seq_fits) hS₂ rfl ?_
  obtain ⟨oI, n1, n2, hI, hI2⟩ := hg.ex
  refine wpT_pure ⟨plainId_quiet F.plain_extend_loop _, extend_will hf hS0 hSI hSs ts fp gp [] (c + 1 + 1) [] _ hW (H.heap hS0 hSs hfS fun a o h e => oth a o h e) ⟨oI, n1, n2, oth _ _ (Ne.symm hSI) hI, hI2⟩ hfI hfS ?_ .nil (fun v hv => nomatch hv) (by simpa using hlen) fun s' acc' c' hE hS' hG => hR s' acc' c' ⟨fun a o e h1 h2 => hE.keep a o (oth a o h2 e) h1 h2, hE.bare, hE.os, hE.drawn⟩ hS' hG⟩
  rw [hS₃]
  simp [Obj.mapSeq, W.listOf]
theorem list_will {h₀ : Heap} {sh : List (Addr × Obj)} {n g : Nat} {I : Addr} {Q : Value → Shared → Prop} {ts : List Tk} {fp : List (Addr × Obj)} {gp : List (Nat × GenState)} (hf : Fits A.in1.in1 (400 + n) (400 + 8 * n))
    (hW : Will prog w h₀ sh n ts g fp gp) (H : Has h₀ sh fp gp s) (hg : IsGenS s.heap I g) (hfI : ∀ p ∈ fp, p.1 ≠ I) (hlen : ts.length ≤ 1000)
    (hQ : ∀ S s' acc' c', Ended S fp gp s s' → s.heap.get? S = none → h₀.get? S = none → s.heap.objs.size ≤ S → s'.heap.get? S = some (W.listOf acc'.toArray c') → Got h₀ s'.heap S acc' ts → Q (.ref S) s') :
    wpT (model prog w) A (call (.type "list") [.ref I]) Q E s := by
  have hS : (s.heap.push { cls := .type "list", data := .seq #[] }).get? s.heap.objs.size = some { cls := .type "list", data := .seq #[] } := Heap.get?_push_size _ rfl
  have fresh : ∀ a o, s.heap.get? a = some o → a ≠ s.heap.objs.size := fun a o e => Nat.ne_of_lt (Heap.lt_size e)
  have hS0 : h₀.get? s.heap.objs.size = none := by
    cases q : h₀.get? s.heap.objs.size with
    | none => rfl
    | some o => exact absurd rfl (fresh _ o (H.base _ _ q))
  have hSs : ∀ p ∈ sh, p.1 ≠ s.heap.objs.size := fun p hp => fresh _ _ (H.shared p hp).1
  have hSf : ∀ p ∈ fp, p.1 ≠ s.heap.objs.size := fun p hp => fresh _ _ (H.own p hp).1
  obtain ⟨oI, n1, n2, hI, hI2⟩ := hg.ex
  have hSI : s.heap.objs.size ≠ I := Ne.symm (fresh _ _ hI)
  have hSn : s.heap.get? s.heap.objs.size = none := Heap.get?_none_of_le (Nat.le_refl _)
  have push : ∀ a o, a ≠ s.heap.objs.size → s.heap.get? a = some o → (s.heap.push { cls := .type "list", data := .seq #[] }).get? a = some o := fun a o _ e => Heap.get?_push_of_some _ e
  refine callTypeT F.called_list (F.typeCall_list_1 _) (wpAny_call (codeAny_mono (code_list_new (E := E) (Q₁ := fun obj s₁ => obj = .ref s.heap.objs.size ∧ s₁ = { s with heap := s.heap.push { cls := .type "list", data := .seq #[] } }) _ ⟨rfl, rfl⟩) fun r s₁ x => ?_))
  match r, x with
  | .error e, x => exact x
  | .ok .next, x => exact x.elim
  | .ok .cont, x => exact x.elim
  | .ok .brk, x => exact x.elim
  | .ok (.ret v), x =>
    obtain ⟨rfl, rfl⟩ := x
    refine ⟨⟨_, hS, rfl⟩, wpT_call (codeT_call_builtin (by decide +kernel) F.entry_list_init (F.called_list.init.check _ _ _ _ _ _ _ _ ⟨_, hS, rfl⟩ (F.args_list_init_2 _ _) ?_))⟩
    show wpT _ _ (do let old ← Builtin.List.listItems (.ref _); Builtin.List.listUpdate (.ref _) (fun _ => #[]); letGo old.toList.reverse; Builtin.List.listExtendWith (.ref _) (.ref I) .none) _ _ _
    refine wpT_then ?_
    unfold Builtin.List.listItems
    refine wpAny_bind (wpAny_seqItems hS rfl (wpAny_pure ?_))
    show wpT _ _ (updateSeq s.heap.objs.size (fun _ => #[]) >>= fun _ => letGo (#[] : Array Value).toList.reverse >>= fun _ => Builtin.List.listExtendWith (.ref s.heap.objs.size) (.ref I) .none) _ _ _
    refine wpT_then (wpAny_updateSeq hS rfl ?_)
    have hS₂ := Heap.get?_update_self (Obj.mapSeq (fun _ => (#[] : Array Value))) hS rfl
    have oth : ∀ b o, b ≠ s.heap.objs.size → s.heap.get? b = some o → ((s.heap.push { cls := .type "list", data := .seq #[] }).update s.heap.objs.size (Obj.mapSeq (fun _ => (#[] : Array Value)))).get? b = some o :=
      fun b o hb e => (Heap.get?_update_other _ _ (Ne.symm hb)).trans (push b o hb e)
    refine wpT_then (wpAny_letGo ?_)
    refine extend_gen_will (c := 0) (R := fun r s' => match r with | .ok (.ret v) => v = .none ∧ Q (.ref s.heap.objs.size) s' | .ok _ => False | .error e => E e s') hf hS0 hSI hSs hW (H.heap hS0 hSs hSf oth) ⟨oI, n1, n2, oth _ _ (Ne.symm hSI) hI, hI2⟩ hfI hSf (by rw [hS₂]; simp [Obj.mapSeq, W.listOf]) hlen fun s' acc' c' hE hS' hG => ?_
    exact ⟨rfl, hQ _ s' acc' c' ⟨fun a o e h1 h2 => hE.keep a o (oth a o h2 e) h1 h2, hE.bare, hE.os, hE.drawn⟩ hSn hS0 (Nat.le_refl _) hS' hG⟩
end

end
section
section
variable {n : Nat} {key : Nat → Nat} {cmp : Nat → Nat → (Bool → Shared → Prop) → Shared → Prop} {s : Shared}
def Answers (n : Nat) (key : Nat → Nat) (cmp : Nat → Nat → (Bool → Shared → Prop) → Shared → Prop) (s : Shared) : Prop :=
  ∀ i j (C : Bool → Shared → Prop), i < n → j < n → C (decide (key i < key j)) s → cmp i j C s
def at' (p : Array Nat) (i : Nat) : Nat := p.getD i 0
structure PermOk (n : Nat) (p : Array Nat) : Prop where
  size : p.size = n
  perm : p.toList.Perm (List.range n)
theorem at_get (p : Array Nat) (i : Nat) : at' p i = (p[i]?).getD 0 := by
  unfold at'; rw [Array.getD_eq_getD_getElem?]
theorem PermOk.lt {p : Array Nat} (h : PermOk n p) {i : Nat} (hi : i < n) : at' p i < n := by
  have hi' : i < p.size := by rw [h.size]; exact hi
  have : p[i] ∈ List.range n := h.perm.mem_iff.mp (by simp)
  rw [at_get, Array.getElem?_eq_getElem hi']
  exact List.mem_range.mp this
theorem PermOk.inj {p : Array Nat} (h : PermOk n p) {i j : Nat} (hi : i < n) (hj : j < n) (e : at' p i = at' p j) : i = j := by
  have hi' : i < p.toList.length := by rw [Array.length_toList, h.size]; exact hi
  have hj' : j < p.toList.length := by rw [Array.length_toList, h.size]; exact hj
  have hn : p.toList.Nodup := h.perm.nodup_iff.mpr List.nodup_range
  rw [at_get, at_get, ← Array.getElem?_toList, ← Array.getElem?_toList, List.getElem?_eq_getElem hi', List.getElem?_eq_getElem hj'] at e
  exact (List.getElem_inj hn).mp e
def KInj (n : Nat) (key : Nat → Nat) : Prop := ∀ i j, i < n → j < n → key i = key j → i = j
theorem PermOk.kne {p : Array Nat} (h : PermOk n p) (hk : KInj n key) {i j : Nat} (hi : i < n) (hj : j < n) (hij : i ≠ j) : key (at' p i) ≠ key (at' p j) :=
  fun e => hij (h.inj hi hj (hk _ _ (h.lt hi) (h.lt hj) e))
def Asc (key : Nat → Nat) (p : Array Nat) (m : Nat) : Prop := ∀ i j, i < j → j < m → key (at' p i) < key (at' p j)
def Desc (key : Nat → Nat) (p : Array Nat) (m : Nat) : Prop := ∀ i j, i < j → j < m → key (at' p j) < key (at' p i)
theorem Asc.snoc {p : Array Nat} {m : Nat} (h : Asc key p m) (h1 : 1 ≤ m) (hl : key (at' p (m - 1)) < key (at' p m)) : Asc key p (m + 1) := by
  intro i j hij hj
  by_cases hjm : j = m
  · subst hjm
    by_cases hi : i = j - 1
    · subst hi; exact hl
    · exact Nat.lt_trans (h i (j - 1) (by omega) (by omega)) hl
  · exact h i j hij (by omega)
theorem Desc.snoc {p : Array Nat} {m : Nat} (h : Desc key p m) (h1 : 1 ≤ m) (hl : key (at' p m) < key (at' p (m - 1))) : Desc key p (m + 1) := by
  intro i j hij hj
  by_cases hjm : j = m
  · subst hjm
    by_cases hi : i = j - 1
    · subst hi; exact hl
    · exact Nat.lt_trans hl (h i (j - 1) (by omega) (by omega))
  · exact h i j hij (by omega)
theorem asc_wp {p : Array Nat} (A : Answers n key cmp s) (hp : PermOk n p) (hk : KInj n key) : ∀ (f m : Nat) (Q : Nat → Shared → Prop), 1 ≤ m → m + f ≤ n → Asc key p m →
    (∀ r, m ≤ r → r ≤ m + f → Asc key p r → (r < m + f → key (at' p r) < key (at' p (r - 1))) → Q r s) → (kas_asc p f m).kasWp cmp Q s
  | 0, m, Q, h1, h2, ha, h => h m (Nat.le_refl _) (Nat.le_refl _) ha fun q => absurd q (by omega)
  | f + 1, m, Q, h1, h2, ha, h => by
    refine A _ _ _ (hp.lt (by omega)) (hp.lt (by omega)) ?_
    show KasT.kasWp cmp (if decide (key (at' p m) < key (at' p (m - 1))) = true then KasT.ret m else kas_asc p f (m + 1)) Q s
    by_cases hc : key (at' p m) < key (at' p (m - 1))
    · rw [if_pos (by simpa using hc)]
      exact h m (Nat.le_refl _) (by omega) ha fun _ => hc
    · rw [if_neg (by simpa using hc)]
      have hne := hp.kne hk (show m < n by omega) (show m - 1 < n by omega) (by omega)
      exact asc_wp A hp hk f (m + 1) Q (by omega) (by omega) (ha.snoc h1 (by omega)) fun r a b c d => h r (by omega) (by omega) c fun q => d (by omega)
theorem desc_wp {p : Array Nat} (A : Answers n key cmp s) (hp : PermOk n p) (hk : KInj n key) : ∀ (f m : Nat) (Q : Array Nat × Nat × Nat → Shared → Prop), 1 ≤ m → m + f ≤ n → Desc key p m →
    (∀ r, m ≤ r → r ≤ m + f → Desc key p r → Q (p, r, 0) s) → (kas_desc f p m 0).kasWp cmp Q s
  | 0, m, Q, h1, h2, ha, h => h m (Nat.le_refl _) (Nat.le_refl _) ha
  | f + 1, m, Q, h1, h2, ha, h => by
    have hne := hp.kne hk (show m < n by omega) (show m - 1 < n by omega) (by omega)
    refine A _ _ _ (hp.lt (by omega)) (hp.lt (by omega)) ?_
    show KasT.kasWp cmp (if decide (key (at' p m) < key (at' p (m - 1))) = true then (if 0 > 0 then kas_desc f (kas_rev p (m - (0 + 1)) m) (m + 1) 0 else kas_desc f p (m + 1) 0)
      else .ask (at' p (m - 1)) (at' p m) fun d => if d = true then .ret (p, m, 0) else kas_desc f p (m + 1) (0 + 1)) Q s
    by_cases hc : key (at' p m) < key (at' p (m - 1))
    · rw [if_pos (by simpa using hc), if_neg (by omega)]
      exact desc_wp A hp hk f (m + 1) Q (by omega) (by omega) (ha.snoc h1 hc) fun r a b c => h r (by omega) (by omega) c
    · rw [if_neg (by simpa using hc)]
      refine A _ _ _ (hp.lt (by omega)) (hp.lt (by omega)) ?_
      show KasT.kasWp cmp (if decide (key (at' p (m - 1)) < key (at' p m)) = true then .ret (p, m, 0) else kas_desc f p (m + 1) (0 + 1)) Q s
      rw [if_pos (by simp only [decide_eq_true_eq]; omega)]
      exact h m (Nat.le_refl _) (by omega) ha
theorem PermOk.of_perm {p q : Array Nat} (h : PermOk n p) (e : q.Perm p) : PermOk n q :=
  ⟨e.size_eq.trans h.size, (Array.perm_iff_toList_perm.mp e).trans h.perm⟩
theorem rev_asc {p : Array Nat} {m : Nat} (hp : PermOk n p) (hm : m ≤ n) (h : Desc key p m) : PermOk n (kas_rev p 0 m) ∧ Asc key (kas_rev p 0 m) m := by
  refine ⟨hp.of_perm (mirror_perm ..), fun i j hij hj => ?_⟩
  have e : ∀ k, k < m → at' (kas_rev p 0 m) k = at' p (m - 1 - k) := fun k hk => by
    rw [at_get, at_get]
    unfold kas_rev
    rw [getElem?_mirror_all (by rw [hp.size]; exact hm), if_pos ⟨Nat.zero_le _, hk⟩, Nat.zero_add]
  rw [e i (by omega), e j hj]
  exact h (m - 1 - j) (m - 1 - i) (by omega) (by omega)
theorem count_wp {p : Array Nat} (A : Answers n key cmp s) (hp : PermOk n p) (hk : KInj n key) (h2 : 2 ≤ n) {Q : Nat × Array Nat → Shared → Prop}
    (h : ∀ r q, 1 ≤ r → r ≤ n → PermOk n q → Asc key q r → Q (r, q) s) : (kas_count n p).kasWp cmp Q s := by
  unfold kas_count
  rw [KasT.kasWp_bind]
  refine asc_wp A hp hk (n - 1) 1 _ (Nat.le_refl _) (by omega) (fun i j a b => by omega) fun r h1 h3 ha hb => ?_
  by_cases e : r = n
  · rw [if_pos (by simpa using e)]
    exact h r p h1 (by omega) hp ha
  · rw [if_neg (by simpa using e)]
    by_cases hr : r > 1
    · rw [if_pos hr]
      refine A _ _ _ (hp.lt (by omega)) (hp.lt (by omega)) ?_
      show KasT.kasWp cmp (if decide (key (at' p 0) < key (at' p (r - 1))) = true then .ret (r, p) else _) Q s
      rw [if_pos (by simp only [decide_eq_true_eq]; exact ha 0 (r - 1) (by omega) (by omega))]
      exact h r p h1 (by omega) hp ha
    · rw [if_neg hr]
      have hr1 : r = 1 := by omega
      subst hr1
      have hd := hb (by omega)
      unfold kas_descPart
      rw [KasT.kasWp_bind]
      refine desc_wp A hp hk (n - (1 + 1)) (1 + 1) _ (by omega) (by omega) (Desc.snoc (fun i j a b => by omega) (Nat.le_refl _) hd) fun m hm1 hm2 hm => ?_
      show KasT.kasWp cmp (if (0 : Nat) > 0 then _ else kas_tail3 m n p) Q s
      rw [if_neg (by omega)]
      unfold kas_tail3
      rw [KasT.kasWp_bind]
      obtain ⟨hq, hqa⟩ := rev_asc hp (show m ≤ n by omega) hm
      exact asc_wp A hq hk (n - m) m _ (by omega) (by omega) hqa fun r' a b c _ => h r' _ (by omega) (by omega) hq c
theorem place_wp {p : Array Nat} {k : Nat} (A : Answers n key cmp s) (hp : PermOk n p) (hk : KInj n key) (hkn : k < n) (ha : Asc key p k) : ∀ (f l r : Nat) (Q : Nat → Shared → Prop), r - l ≤ f → l ≤ r → r ≤ k →
    (∀ i, i < l → key (at' p i) < key (at' p k)) → (∀ i, r ≤ i → i < k → key (at' p k) < key (at' p i)) →
    (∀ m, m ≤ k → (∀ i, i < m → key (at' p i) < key (at' p k)) → (∀ i, m ≤ i → i < k → key (at' p k) < key (at' p i)) → Q m s) → (kas_place p k f l r).kasWp cmp Q s
  | 0, l, r, Q, h1, h2, h3, hl, hr, h => h l (by omega) hl fun i a b => hr i (by omega) b
  | f + 1, l, r, Q, h1, h2, h3, hl, hr, h => by
    unfold kas_place
    by_cases e : l ≥ r
    · rw [if_pos e]
      exact h l (by omega) hl fun i a b => hr i (by omega) b
    · rw [if_neg e]
      refine A _ _ _ (hp.lt hkn) (hp.lt (by omega)) ?_
      show KasT.kasWp cmp (if decide (key (at' p k) < key (at' p ((l + r) / 2))) = true then kas_place p k f l ((l + r) / 2) else kas_place p k f ((l + r) / 2 + 1) r) Q s
      have hne := hp.kne hk hkn (show (l + r) / 2 < n by omega) (by omega)
      by_cases hc : key (at' p k) < key (at' p ((l + r) / 2))
      · rw [if_pos (by simpa using hc)]
        refine place_wp A hp hk hkn ha f l ((l + r) / 2) Q (by omega) (by omega) (by omega) hl (fun i a b => ?_) h
        by_cases q : i = (l + r) / 2
        · rw [q]; exact hc
        · exact Nat.lt_trans hc (ha _ _ (by omega) b)
      · rw [if_neg (by simpa using hc)]
        refine place_wp A hp hk hkn ha f ((l + r) / 2 + 1) r Q (by omega) (by omega) h3 (fun i a => ?_) hr h
        by_cases q : i = (l + r) / 2
        · rw [q]; omega
        · have := ha i ((l + r) / 2) (by omega) (by omega)
          omega
theorem bin_wp (A : Answers n key cmp s) (hk : KInj n key) : ∀ (f : Nat) (p : Array Nat) (k : Nat) (Q : Array Nat → Shared → Prop), k + f = n → PermOk n p → Asc key p k →
    (∀ q, PermOk n q → Asc key q n → Q q s) → (kas_bin f p k).kasWp cmp Q s
  | 0, p, k, Q, h1, hp, ha, h => h p hp (by rw [← h1]; exact ha)
  | f + 1, p, k, Q, h1, hp, ha, h => by
    unfold kas_bin
    rw [KasT.kasWp_bind]
    refine place_wp A hp hk (by omega) ha k 0 k _ (by omega) (Nat.zero_le _) (Nat.le_refl _) (fun i a => by omega) (fun i a b => by omega) fun m hm h2 h3 => ?_
    have hq : PermOk n (bubble p k (k - m)) := hp.of_perm (bubble_perm ..)
    have e : ∀ i, at' (bubble p k (k - m)) i = if i = m then at' p k else if m < i ∧ i ≤ k then at' p (i - 1) else at' p i := fun i => by
      rw [at_get, getElem?_bubble (by rw [hp.size]; omega) (k - m) (by omega) i, show k - (k - m) = m by omega]
      split
      · rw [at_get]
      · split
        · rw [at_get]
        · rw [at_get]
    refine bin_wp A hk f _ (k + 1) Q (by omega) hq (fun i j hij hj => ?_) h
    rw [e i, e j]
    by_cases i1 : i = m
    · rw [if_pos i1, if_neg (by omega), if_pos ⟨by omega, by omega⟩]
      exact h3 (j - 1) (by omega) (by omega)
    · rw [if_neg i1]
      by_cases j1 : j = m
      · rw [if_pos j1, if_neg (by omega)]
        exact h2 i (by omega)
      · rw [if_neg j1]
        by_cases i2 : m < i ∧ i ≤ k
        · rw [if_pos i2, if_pos ⟨by omega, by omega⟩]
          exact ha _ _ (by omega) (by omega)
        · rw [if_neg i2]
          by_cases j2 : m < j ∧ j ≤ k
          · rw [if_pos j2]
            by_cases q : i = j - 1
            · omega
            · exact ha _ _ (by omega) (by omega)
          · rw [if_neg j2]
            exact ha _ _ hij (by omega)
theorem range_perm (n : Nat) : PermOk n (List.toArray (List.range n)) := ⟨by simp, by simp⟩
theorem sort_wp (A : Answers n key cmp s) (hk : KInj n key) (h2 : 2 ≤ n) {Q : Array Nat → Shared → Prop} (h : ∀ q, PermOk n q → Asc key q n → Q q s) : (kas_sort n).kasWp cmp Q s := by
  unfold kas_sort
  rw [KasT.kasWp_bind]
  refine count_wp A (range_perm n) hk h2 fun r q h1 h3 hq ha => ?_
  show KasT.kasWp cmp (if r < n then kas_bin (n - max r 1) q (max r 1) else .ret q) Q s
  rw [Nat.max_eq_left h1]
  by_cases e : r < n
  · rw [if_pos e]
    exact bin_wp A hk (n - r) q r Q (by omega) hq ha h
  · rw [if_neg e]
    have : r = n := by omega
    exact h q hq (this ▸ ha)
end

end
section
section
variable {prog : Program} {w : World} {A : Around} {E : Value → Shared → Prop} {s : Shared}
theorem list_sort_one {a : Addr} {v : Value} {n : Nat} {P : PySem.Fin → Shared → Prop} (ho : s.heap.get? a = some (seqObj "list" [v].toArray n))
    (h : P (.done (.ret .none)) { s with heap := sortedHeap s.heap a [v] #[v] }) : wpAny (model prog w) A (Builtin.«list.sort» ⟨[.ref a], []⟩) P E s := by
  rw [list_sort_plain]
  have ha : a < s.heap.objs.size := Heap.lt_size ho
  refine wpAny_bind (listItems_at ho rfl ?_)
  refine wpAny_bind (listUpdate_at ho rfl ?_ (hsz := by rw [sizeLine_eq]; exact Nat.le_of_ble_eq_true rfl) (hsz2 := by rw [sizeLine_eq]; exact Nat.le_of_ble_eq_true rfl))
  obtain ⟨e1, ho1⟩ : ∃ e1, (s.heap.update a (Obj.mapSeq fun _ => #[])).get? a = some (seqObj "list" #[] e1) := ⟨_, get?_update_seq ho (fun _ => #[])⟩
  refine wpAny_bind (seqEpoch_at ho1 rfl ?_)
  refine wpAny_bind (wpAny_newTuple ?_ (by show 1 ≤ _; rw [sizeLine_eq]; exact Nat.le_of_ble_eq_true rfl))
  refine wpAny_bind (wpAny_newList ?_ (Nat.zero_le _))
  refine wpAny_holding ?_
  have ho6 : (((s.heap.update a (Obj.mapSeq fun _ => #[])).push (seqObj "tuple" [v].toArray 0)).push (seqObj "list" #[] 0)).get? a = some (seqObj "list" #[] e1) := by
    rw [Heap.get?_push_ne _ _ _ (by rw [size_push', Heap.size_update]; exact Nat.ne_of_lt (Nat.lt_succ_of_lt ha)), Heap.get?_push_ne _ _ _ (by rw [Heap.size_update]; exact Nat.ne_of_lt ha)]
    exact ho1
  show wpAny (model prog w) A _ P E { s with heap := ((s.heap.update a (Obj.mapSeq fun _ => #[])).push (seqObj "tuple" [v].toArray 0)).push (seqObj "list" #[] 0) }
  dsimp only
  have h2 : [v].toArray.size < 2 := by simp
  rw [if_pos h2, if_pos h2]
  refine wpAny_bind (wpAny_pure ?_)
  rw [StateT.run_pure]
  refine wpAny_bind (wpAny_pure ?_)
  dsimp only
  refine wpAny_bind (seqEpoch_at ho6 rfl ?_)
  refine wpAny_bind (listUpdate_at ho6 rfl ?_ (hsz := Nat.zero_le _) (hsz2 := by
    show (([v].toArray.zip [v].toArray).map (·.2)).size ≤ _
    rw [Array.size_map, sizeLine_eq]
    simp))
  simp only [bne_self_eq_false, Bool.false_eq_true, if_false]
  have e : ([v].toArray.zip [v].toArray).map (·.2) = #[v] := by simp
  refine wpAny_pure ?_
  rw [← e] at h
  exact h
theorem sorted_one {l : Addr} {v : Value} {Q : Value → Shared → Prop} (hl : s.heap.IsList l [v].toArray)
    (h : Q (.ref (s.heap.objs.size + 1)) { s with heap := sortedAll s.heap [v] #[v] }) : wpAny (model prog w) A (call (.builtin "sorted") [.ref l]) Q E s := by
  refine Calls.call_function_entry kind_sorted plain_sorted entry_sorted (args_sorted1 _) ?_
  unfold Builtin.«sorted»
  refine wpAny_bind (m := checkCount "sorted" 1 1 _) (wpAny_pure ?_)
  refine wpAny_bind (collect_list hl ?_ (by rw [sizeLine_eq]; exact Nat.le_of_ble_eq_true rfl))
  refine wpAny_bind (wpAny_newList ?_ (by rw [sizeLine_eq]; exact Nat.le_of_ble_eq_true rfl))
  have hsz : ((s.heap.push (seqObj "list" #[] 0)).update s.heap.objs.size (Obj.mapSeq (· ++ [v].toArray))).objs.size = s.heap.objs.size + 1 := by
    rw [Heap.size_update, size_push']
  have hoL : (((s.heap.push (seqObj "list" #[] 0)).update s.heap.objs.size (Obj.mapSeq (· ++ [v].toArray))).push (seqObj "list" [v].toArray 0)).get? (s.heap.objs.size + 1) = some (seqObj "list" [v].toArray 0) := by
    rw [← hsz]; exact Heap.get?_push_size _ rfl
  show wpAny _ _ _ _ _ { s with heap := ((s.heap.push (seqObj "list" #[] 0)).update s.heap.objs.size (Obj.mapSeq (· ++ [v].toArray))).push (seqObj "list" [v].toArray 0) }
  rw [hsz]
  refine wpAny_bind (wpAny_holding (wpAny_call_entry slot_list_sort ⟨_, hoL, rfl⟩ entry_list_sort (list_sort_one hoL ⟨_, rfl, ?_⟩) (args_list_sort _)))
  exact wpAny_pure ⟨_, rfl, h⟩
def PairsIn (news : List (Addr × Obj)) (vs : List Value) (kx ky : Nat → Nat) : Prop := ∀ (i : Nat) (v : Value), vs[i]? = some v → ∃ a t1 t2, v = .ref a ∧ (a, tupO [.int (kx i : Nat) t1, .int (ky i : Nat) t2]) ∈ news
theorem getD_of {vs : List Value} {i : Nat} (h : i < vs.length) : vs[i]? = some (vs.getD i .none) := by
  rw [List.getD_eq_getElem?_getD, List.getElem?_eq_getElem h]; rfl
theorem pairs_tups {h₀ h : Heap} {L : Addr} {news : List (Addr × Obj)} (N : News h₀ L h news) : ∀ (vs : List Value) (kx ky : Nat → Nat), PairsIn news vs kx ky → ∃ fs, KatTups h vs fs ∧ fs.length = vs.length ∧ ∀ v ∈ fs, ∃ (n : Int) (t : Tok), v = .int n t
  | [], _, _, _ => ⟨[], .nil, rfl, fun _ h => nomatch h⟩
  | v :: vs, kx, ky, hp => by
    obtain ⟨a, t1, t2, rfl, hm⟩ := hp 0 v rfl
    obtain ⟨fs, h1, h2, h3⟩ := pairs_tups N vs (fun i => kx (i + 1)) (fun i => ky (i + 1)) fun i v hv => hp (i + 1) v (by simpa using hv)
    refine ⟨.int (kx 0 : Nat) t1 :: fs, KatTups.cons (N _ hm).1 rfl rfl rfl h1, by simp [h2], fun u hu => ?_⟩
    rcases List.mem_cons.mp hu with rfl | hu
    · exact ⟨_, _, rfl⟩
    · exact h3 u hu
theorem pairs_answers {h₀ : Heap} {L : Addr} {news : List (Addr × Obj)} (N : News h₀ L s.heap news) {vs : List Value} {kx ky : Nat → Nat} (hp : PairsIn news vs kx ky) (hk : KInj vs.length kx) : Answers vs.length kx (kas_ask prog w A (tuples' true) vs) s := by
  intro i j C hi hj hC
  obtain ⟨a, t1, t2, ea, ha⟩ := hp i _ (getD_of hi)
  obtain ⟨b, u1, u2, eb, hb⟩ := hp j _ (getD_of hj)
  unfold kas_ask
  rw [ea, eb]
  refine kat_lt (N _ ha).1 rfl (N _ hb).1 rfl ?_
  refine kat_cons (wpAny_eqBool_int (kat_go (fun e => kat_yes ?_) (fun e => kat_no ?_)))
  · have e0 : ((kx i : Nat) : Int) = ((kx j : Nat) : Int) := by simpa using e
    have e' : kx i = kx j := by omega
    have hij := hk i j hi hj e'
    subst hij
    refine kat_cons (wpAny_eqBool_int ?_)
    rw [show (((ky i : Nat) : Int) == ((ky i : Nat) : Int)) = true by simp]
    refine kat_yes (kat_nil ?_)
    rw [show decide (kx i < kx i) = false by simp] at hC
    exact hC
  · show wpAny _ _ (oneLt' true _ _) _ _ _
    refine oneLt_int ?_
    rw [show decide (((kx i : Nat) : Int) < ((kx j : Nat) : Int)) = decide (kx i < kx j) by simp]
    exact hC
theorem sorted_pairs {h₀ : Heap} {L l : Addr} {m : Str → Option Value} {news : List (Addr × Obj)} {vs : List Value} {kx ky : Nat → Nat} {c : Nat} {Q : Value → Shared → Prop} (F : Fr h₀ L s.heap m) (N : News h₀ L s.heap news) (hl : (l, listOf vs.toArray c) ∈ news)
    (hp : PairsIn news vs kx ky) (hk : KInj vs.length kx) (h1 : 1 ≤ vs.length) (h64 : vs.length < 64)
    (h : ∀ D e h' (p : List Nat), Fr h₀ L h' m → News h₀ L h' ((D, listOf (List.toArray (p.map fun i => vs.getD i .none)) e) :: news) → (∀ q ∈ news, q.1 < D) → p.Perm (List.range vs.length) → p.Pairwise (fun i j => kx i < kx j) → Q (.ref D) { s with heap := h' }) :
    wpAny (model prog w) A (call (.builtin "sorted") [.ref l]) Q E s := by
  by_cases h2 : 2 ≤ vs.length
  · refine kat_sorted F N (N.isList hl) h2 h64 fun D e1 h' F' N' hD => ?_
    obtain ⟨fs, a1, a2, a3⟩ := pairs_tups (h := h') (fun p hp => N' p (.tail _ hp)) vs kx ky hp
    refine kat_kind (T := .type "int") a1 (by omega) (fun v hv => ?_) (by decide +kernel) ?_
    · obtain ⟨n, t, rfl⟩ := a3 v hv
      exact .now
    · refine sort_wp (pairs_answers (s := { s with heap := h' }) (fun p hp => N' p (.tail _ hp)) hp hk) hk h2 fun q hq ha => ?_
      refine KasFin.intro F' N' (UpdF.head fun p hp => Nat.ne_of_lt (hD p hp)) fun h'' c' F'' N'' => ?_
      refine h D c' h'' q.toList F'' N'' hD hq.perm ?_
      rw [List.pairwise_iff_getElem]
      intro i j hi hj hij
      have hz : q.toList.length = vs.length := by rw [Array.length_toList, hq.size]
      have := ha i j hij (by omega)
      rw [at_get, at_get, ← Array.getElem?_toList, ← Array.getElem?_toList, List.getElem?_eq_getElem hi, List.getElem?_eq_getElem hj] at this
      exact this
  · obtain ⟨v, rfl⟩ : ∃ v, vs = [v] := by
      match vs, h1, h2 with
      | [v], _, _ => exact ⟨v, rfl⟩
      | v :: u :: r, _, h2 => simp at h2
    refine sorted_one (N.isList hl) ?_
    obtain ⟨e, he⟩ := sortedAll_at s.heap [v] #[v]
    refine h _ e _ [0] (F.kept fun _ _ => sortedAll_old) (N.kept_cons F (fun _ _ => sortedAll_old) (Nat.le_succ _) he) (fun q hq => Nat.lt_succ_of_lt (Heap.lt_size (N q hq).1)) (List.Perm.refl _) (by simp)
end

end
local macro_rules | `(tactic| k_enter) => `(tactic| first
  | (refine' code_defY ?k2 ?k3 ?k4 ?k5 ?k6 ?k7 ?k8 ?k9 ?kB ?_ ?c2 ?c3 ?c4 ?c5; (case k2 => k_asm); (case k3 => k_asm); (case k4 => k_asm); (case k5 => k_asm); (case k6 => k_is); (case k7 => k_is); (case k8 => k_room); (case k9 => first | exact BindsTo.of_eq rfl | exact binds_K (by k_in) rfl (by k_is) rfl rfl rfl | fail "k_enter: no rule for these arguments"); (case c5 => decide); (case kB => exact locs rfl); (case c2 => exact rfl); (case c3 => exact rfl); (case c4 => exact rfl); k_whole; intro g' L' h' FG' F' N' X' T' l1; (try k_lt l1); (repeat (cases ‹_ ∧ _›)); (try dsimp only); (try k_fold))
  | (refine' code_defCY ?k2 ?k3 ?k4 ?k5 ?k6 ?k7 ?k8 ?k9 ?kB ?kD ?_ ?c2 ?c3 ?c4; (case k2 => k_asm); (case k3 => k_asm); (case k4 => k_asm); (case k5 => k_asm); (case k6 => k_is); (case k7 => k_is); (case k8 => k_room); (case k9 => first | exact BindsTo.of_eq rfl | exact binds_K (by k_in) rfl (by k_is) rfl rfl rfl | fail "k_enter: no rule for these arguments"); (case kB => exact rfl); (case kD => decide +kernel); (case c2 => exact rfl); (case c3 => exact rfl); (case c4 => exact rfl); k_whole; intro g' L' h' tk' cells' FG' F' N' Y' X' T' l1; (try k_lt l1); (repeat (cases ‹_ ∧ _›)); k_cells Y'; (try simp only [List.cons_append, List.nil_append] at N'); (try dsimp only); (try k_fold)))
local macro_rules | `(tactic| walk_at "truthy ref") => `(tactic| (k_here; (with_reducible show wpAny _ _ (truthy (Value.ref _)) _ _ _); k_dflt (refine' ktl_truthyK ?N ?m ?z ?_; (case N => k_asm); (case m => k_mem); (case z => first | exact Nat.le_of_ble_eq_true rfl | ((simp only [List.length_cons, List.length_append, List.length_nil] at *); omega)); k_whole); (try simp only [List.isEmpty_cons, List.isEmpty_nil, Bool.not_false, Bool.not_true])))
local macro_rules | `(tactic| walk_at "callWith ref") => `(tactic| (k_here; (with_reducible show wpAny _ _ (callWith _ (Value.ref _) _ (backTo _ (starEach (Expr.Starred _ _ :: _ :: _) _)) []) _ _ _); k_dflt (refine' callWith_S3 ?k1 ?k2 ?_; (case k1 => k_asm); (case k2 => k_is); k_whole)))
local macro_rules | `(tactic| walk_at "StarOf ref") => `(tactic| (k_here; k_dflt (refine' star_seq ?k1 ?k2 ?m ?c ?d ?T ?e ?z ?_; (case k1 => k_asm); (case k2 => k_asm); (case m => k_mem); (case c => exact rfl); (case d => exact rfl); (case T => first | exact .inl rfl | exact .inr rfl); (case e => exact rfl); (case z => first | exact Nat.le_of_ble_eq_true rfl | ((simp only [List.size_toArray, List.length_cons, List.length_append, List.length_nil, sizeLine_eq] at *); omega)); k_whole); intro h' F' N'; (try k_sweep); try dsimp only [List.nil_append, List.cons_append]))
local macro_rules | `(tactic| k_enter) => `(tactic| (kp_kind "rest"; (refine' code_restY ?k2 ?k3 ?k4 ?k5 ?k6 ?k7 ?k8 ?k9 ?kz ?kB ?_ ?c2 ?c3 ?c4 ?c5; (case k2 => k_asm); (case k3 => k_asm); (case k4 => k_asm); (case k5 => k_asm); (case k6 => k_is); (case k7 => k_is); (case k8 => k_room); (case k9 => exact rfl); (case kz => first | exact Nat.le_of_ble_eq_true rfl | ((simp only [fnOf, List.map_cons, List.map_nil, List.nil_append, Nat.zero_add, List.drop_one, List.drop_zero, List.tail_cons, List.length_cons, List.length_append, List.length_nil, sizeLine_eq] at *); omega)); (case c5 => decide); (case kB => exact fun _ => locs rfl); (case c2 => exact rfl); (case c3 => exact rfl); (case c4 => exact rfl); k_whole; intro D' g' L' h' l1 FG' F' N' X' T' l2; (try k_lt l1); (try k_lt l2); (repeat (cases ‹_ ∧ _›)); (try dsimp only); (try simp only [fnOf, List.map_cons, List.map_nil, List.nil_append, List.cons_append, List.length_cons, List.length_nil, Nat.zero_add, List.drop_one, List.drop_zero, List.tail_cons] at N'); (try k_fold))))
local macro_rules | `(tactic| k_all) => `(tactic| first | exact allNe (by assumption) | exact allNe' (by assumption) | assumption)
local macro_rules | `(tactic| walk_at "exec For Name Call cons nil") => `(tactic| (k_dflt (refine wpAny_For ?_)))
local macro_rules | `(tactic| walk_at "exec For Name Name cons nil") => `(tactic| (k_dflt (refine wpAny_For ?_)))
local macro_rules | `(tactic| walk_at "truthy ref") => `(tactic| (k_here; (with_reducible show wpAny _ _ (truthy (Value.ref _)) _ _ _); k_dflt (refine' truthyKF ?F ?X ?e ?z ?_; (case F => k_asm); (case X => k_asm); (case e => k_is); (case z => decide); k_whole); (try simp only [List.isEmpty_toArray, List.isEmpty_cons, List.isEmpty_nil, Bool.not_false, Bool.not_true])))
local macro_rules | `(tactic| walk_at "StarOf ref") => `(tactic| (k_here; k_dflt (refine' star_seqK ?k1 ?k2 ?m ?c ?T ?e ?z ?_; (case k1 => k_asm); (case k2 => k_asm); (case m => k_asm); (case c => k_is); (case T => first | exact .inl rfl | exact .inr rfl); (case e => exact rfl); (case z => decide); k_whole); intro h' F' N'; (try k_sweep); try dsimp only [List.nil_append, List.cons_append]))
local macro_rules | `(tactic| walk_at "my sub") => `(tactic| (intro p hp; simp only [List.mem_append, List.mem_cons] at hp ⊢; first | exact hp | exact .inl hp | exact .inr hp | exact .inr (.inl hp) | exact .inr (.inr hp) | (rcases hp with hp | hp <;> simp_all)))
local macro_rules | `(tactic| walk_at "my kind") => `(tactic| first | assumption | exact KindIn.mono (by assumption) (by walk_at "my sub"))
local macro_rules | `(tactic| walk_at "eval ListComp") => `(tactic| ((with_reducible apply listComp_M); (case hclos => with_unfolding_all rfl); (case hh => with_unfolding_all rfl); (case hcell => decide); (case hkind => with_unfolding_all rfl); (case hnames => decide); (case hs => intro _; with_unfolding_all rfl)))
local macro_rules | `(tactic| walk_at "eval Name") => `(tactic| (k_here; (with_reducible show wpAny _ _ (eval (Expr.Name _ _) (compEnvC _ _ _ _)) _ _ _); k_dflt (refine' nameL ?F ?v ?_ ?a ?b ?c ?d; (case F => k_asm); (case v => exact rfl); (case a => exact rfl); (case b => exact rfl); (case c => exact rfl); (case d => decide); k_whole)))
local macro_rules | `(tactic| walk_at "eval Name") => `(tactic| (k_here; (with_reducible show wpAny _ _ (eval (Expr.Name _ _) (compEnvC _ _ _ _)) _ _ _); k_dflt (refine' nameC ?N ?c ?m ?d ?_ ?b ?k ?g; (case N => k_asm); (case c => exact rfl); (case m => k_mem); (case d => first | exact rfl | k_asm); (case b => exact rfl); (case k => exact rfl); (case g => decide); k_whole)))
local macro_rules | `(tactic| walk_at "eval Name") => `(tactic| (k_here; (with_reducible show wpAny _ _ (eval (Expr.Name _ _) (compEnvC _ _ _ _)) _ _ _); k_dflt (refine' nameF ?N ?c ?m ?d ?_ ?b ?k ?g ?f; (case N => k_asm); (case c => exact rfl); (case m => k_mem); (case d => first | exact rfl | k_asm); (case b => exact rfl); (case k => exact rfl); (case g => decide); (case f => decide); k_whole)))
local macro_rules | `(tactic| walk_at "storeName") => `(tactic| (k_here; (with_reducible show wpAny _ _ (storeName (compEnvC _ _ _ _) _ _) _ _ _); k_dflt (refine' storeL ?F ?N ?a ?b ?c ?_; (case F => k_asm); (case N => k_asm); (case a => exact rfl); (case b => exact rfl); (case c => exact rfl)); intro h' F' N'; (try dsimp only); (try k_sweep)))
local macro_rules | `(tactic| walk_at "call builtin:str.join") => `(tactic| (k_here; (with_reducible show wpAny _ _ (call (Value.builtin "str.join") [Value.str _ _, Value.ref _]) _ _ _); k_dflt (refine joinY (by k_asm) (by k_mem) rfl rfl (by decide +kernel) (by assumption) ?_); intro t' k'))
local macro_rules | `(tactic| walk_at "subscriptTail") => `(tactic| (k_here; (with_reducible show wpAny _ _ (subscriptTail _ _ (Value.ref _) (Value.int _ _)) _ _ _); k_dflt (refine' itemY ?N ?m ?c ?d ?x ?k ?z ?_; (case N => k_asm); (case m => k_mem); (case c => exact rfl); (case d => exact rfl); (case x => assumption); (case k => omega); (case z => exact size_le' (by assumption)); k_whole)))
local macro_rules | `(tactic| walk_at "subscriptTail Name Slice ref ref") => `(tactic| (k_here; (with_reducible show wpAny _ _ (subscriptTail _ (PySem.Expr.Slice _ _ none _) (Value.ref _) (Value.ref _)) _ _ _); k_dflt (refine' kms_slice_lit ?F ?N ?l ?p ?q ?e ?_ ?s ?t ?z; (case F => k_asm); (case N => k_asm); (case l => exact isListN (by k_asm) (by k_mem) rfl rfl); (case p => kmk_part); (case q => kmk_part); (case e => exact rfl); (case s => with_unfolding_all rfl); (case t => kmk_pure); (case z => exact size_le (by assumption))); intro D' h' F' N' l1; (try k_lt l1); (try k_sweep)))
local macro_rules | `(tactic| walk_at "exec For Name Attribute cons nil") => `(tactic| (k_dflt (refine wpAny_For ?_)))
local macro_rules | `(tactic| walk_at "exec For Name Subscript cons nil") => `(tactic| (k_dflt (refine wpAny_For ?_)))
local macro_rules | `(tactic| walk_at "exec For Tuple Call cons nil") => `(tactic| (k_dflt (refine wpAny_For ?_)))
local macro_rules | `(tactic| walk_at "exec For Tuple Name cons nil") => `(tactic| (k_dflt (refine wpAny_For ?_)))
local macro_rules | `(tactic| walk_at "eval Name") => `(tactic| (k_here; k_dflt (refine' ld ?k1 ?k2 ?_; (case k1 => k_asm); (case k2 => assumption); k_whole)))
local macro_rules | `(tactic| kn_code) => `(tactic| first | with_reducible assumption | exact CodeHd.keeps (by assumption) (Fr.keep (by assumption)))
local macro_rules | `(tactic| k_enter) => `(tactic| (kp_kind "more"; first
  | (refine' code_moreY ?k2 ?k3 ?k4 ?k5 ?k6 ?k7 ?k8 ?kX ?kM ?kN ?kD ?kR ?kP ?kT ?kB ?_ ?c2 ?c3 ?c4 ?c5; (case k2 => k_asm); (case k3 => k_asm); (case k4 => k_asm); (case k5 => k_asm); (case k6 => k_is); (case k7 => k_is); (case k8 => k_room); (case kX => kp_lit); (case kM => exact rfl); (case kN => exact rfl); (case kD => kp_flats); (case kR => exact rfl); (case kP => exact rfl); (case kT => exact fun _ => rfl); (case kB => exact fun _ => locs rfl); (case c5 => decide); (case c2 => exact rfl); (case c3 => exact rfl); (case c4 => exact rfl); k_whole; intro D' o' g' L' h' tk' l1 lo' hs' fs' FG' F' N' X' T' l2; (try k_lt l1); (try k_lt l2); (repeat (cases ‹_ ∧ _›)); (try dsimp only); (try k_fold))
  | (refine' code_moreCY ?k2 ?k3 ?k4 ?k5 ?k6 ?k7 ?k8 ?kX ?kM ?kN ?kD ?kR ?kP ?kT ?kB ?kZ ?_ ?c2 ?c3 ?c4; (case k2 => k_asm); (case k3 => k_asm); (case k4 => k_asm); (case k5 => k_asm); (case k6 => k_is); (case k7 => k_is); (case k8 => k_room); (case kX => kp_lit); (case kM => exact rfl); (case kN => exact rfl); (case kD => kp_flats); (case kR => exact rfl); (case kP => exact rfl); (case kT => exact fun _ => rfl); (case kB => exact fun _ => rfl); (case kZ => decide +kernel); (case c2 => exact rfl); (case c3 => exact rfl); (case c4 => exact rfl); k_whole; intro D' o' g' L' h' tk' cells' l1 lo' hs' fs' FG' F' N' Y' X' T' l2; (try k_lt l1); (try k_lt l2); (repeat (cases ‹_ ∧ _›)); k_cells Y'; (try simp only [List.cons_append, List.nil_append] at N'); (try dsimp only); (try k_fold))))
local macro_rules | `(tactic| k_enter) => `(tactic| (kp_kind "both"; (refine' code_bothY ?k2 ?k3 ?k4 ?k5 ?k6 ?k7 ?k8 ?kV ?kX ?kQ ?kM ?kN ?kD ?kR ?kP ?kS ?kT ?kB ?_ ?c2 ?c3 ?c4 ?c5; (case k2 => k_asm); (case k3 => k_asm); (case k4 => k_asm); (case k5 => k_asm); (case k6 => k_is); (case k7 => k_is); (case k8 => k_room); (case kV => kp_lit); (case kX => kp_lit); (case kQ => exact rfl); (case kM => exact rfl); (case kN => exact rfl); (case kD => kp_flats); (case kR => exact rfl); (case kP => exact rfl); (case kS => exact fun _ => rfl); (case kT => exact fun _ _ => rfl); (case kB => exact fun _ _ => locs rfl); (case c5 => decide); (case c2 => exact rfl); (case c3 => exact rfl); (case c4 => exact rfl); k_whole; intro C' D' o' g' L' h' tk' l1 l2 lo' hs' fs' FG' F' N' X' T' l3; (try k_lt l1); (try k_lt2 l2); (try k_lt l3); (repeat (cases ‹_ ∧ _›)); (try dsimp only); (try k_fold))))
local macro_rules | `(tactic| k_enter) => `(tactic| (kp_kind "rest"; (refine' code_restCY ?k2 ?k3 ?k4 ?k5 ?k6 ?k7 ?k8 ?k9 ?kz ?kB ?kZ ?_ ?c2 ?c3 ?c4; (case k2 => k_asm); (case k3 => k_asm); (case k4 => k_asm); (case k5 => k_asm); (case k6 => k_is); (case k7 => k_is); (case k8 => k_room); (case k9 => exact rfl); (case kz => first | exact Nat.le_of_ble_eq_true rfl | exact size_le0 (by assumption) | ((simp only [fnOf, List.map_cons, List.map_nil, List.nil_append, Nat.zero_add, List.drop_one, List.drop_zero, List.tail_cons, List.length_cons, List.length_append, List.length_nil, sizeLine_eq] at *); omega)); (case kB => exact fun _ => rfl); (case kZ => decide +kernel); (case c2 => exact rfl); (case c3 => exact rfl); (case c4 => exact rfl); k_whole; intro D' g' L' h' tk' cells' l1 FG' F' N' Y' X' T' l2; (try k_lt l1); (try k_lt l2); (repeat (cases ‹_ ∧ _›)); (try dsimp only); (try simp only [fnOf, List.map_cons, List.map_nil, List.nil_append, List.cons_append, List.length_cons, List.length_nil, Nat.zero_add, List.drop_one, List.drop_zero, List.tail_cons] at N'); k_cells Y'; (try simp only [List.cons_append, List.nil_append] at N'); (try k_fold))))
local macro_rules | `(tactic| k_all) => `(tactic| first | exact allNe (by assumption) | exact allNe' (by assumption) | assumption | (refine' allNeP8 ?h; (case h => walk_at "my below")) | (refine' allNeP7 ?h; (case h => walk_at "my below")) | (refine' allNeP6 ?h; (case h => walk_at "my below")) | (refine' allNeP5 ?h; (case h => walk_at "my below")) | (refine' allNeP4 ?h; (case h => walk_at "my below")) | (refine' allNeP3 ?h; (case h => walk_at "my below")) | (refine' allNeP2 ?h; (case h => walk_at "my below")) | (refine' allNeP1 ?h; (case h => walk_at "my below")))
local macro_rules | `(tactic| walk_at "my below") => `(tactic| ((repeat' (refine below_cons ?_ ?_)); (all_goals first | assumption | exact allLt_all (by assumption) | exact below_tail (by assumption) | exact below_s1 (by assumption) | exact below_s1 (allLt_all (by assumption)) | exact below_s2 (by assumption) | exact below_s2 (allLt_all (by assumption)) | (refine ltN ?_; (try dsimp only); omega) | (refine' lt_trans' ?h2 ?h1; (case h2 => assumption); (case h1 => first | assumption | exact allLt_all (by assumption))))))
local macro_rules | `(tactic| walk_at "my above") => `(tactic| ((repeat (cases ‹_ ∧ _›)); (repeat' (first | exact Above.nil | (refine Above.cons ?_ ?_))); (all_goals walk_at "my below")))
local macro_rules | `(tactic| walk_at "KwThen") => `(tactic| (k_dflt (refine' KwThen.loc ?F ?N ?y ?k ?lo ?b ?a ?s ?d ?l ?_; (case F => k_asm); (case N => k_asm); (case y => exact rfl); (case k => exact rfl); (case lo => exact rfl); (case b => decide); (case a => k_mem); (case s => assumption); (case d => assumption); (case l => decide)); intro d' o' h' F' N' l1; (try k_lt l1); (k_dflt (refine' ⟨keeps_K ?k _ (Frag.In.keeps ?x (Fr.keep ?fr)), ?_⟩; (case fr => k_asm); (case x => k_asm); (case k => k_is)))))
local macro_rules | `(tactic| walk_at "eval Call Attribute") => `(tactic| (k_here; (with_reducible show wpAny _ _ (eval (Expr.Call (Expr.Attribute _ _ _) (_ :: _) [⟨none, _, _⟩] _) _) _ _ _); k_dflt (refine callAttr_kwstar rfl rfl rfl ?_)))
local macro_rules | `(tactic| walk_at "call builtin:dict.get") => `(tactic| (k_here; k_dflt (first
  | refine kdg_get2 (knd := PySem.strKind _ _) (by k_asm) (by k_mem) (by assumption) (by assumption) (strKind_is _ _ _ _) (some _) (by first | assumption | rfl) ?_
  | refine kdg_get2 (knd := PySem.strKind _ _) (by k_asm) (by k_mem) (by assumption) (by assumption) (strKind_is _ _ _ _) none (by first | assumption | rfl) ?_
  | refine kdg_get1 (knd := PySem.strKind _ _) (by k_asm) (by k_mem) (by assumption) (by assumption) (strKind_is _ _ _ _) (some _) (by first | assumption | rfl) ?_
  | refine kdg_get1 (knd := PySem.strKind _ _) (by k_asm) (by k_mem) (by assumption) (by assumption) (strKind_is _ _ _ _) none (by first | assumption | rfl) ?_); (try dsimp only [Option.getD])))
local macro_rules | `(tactic| walk_at "getMethod ref") => `(tactic| (k_here; (with_reducible show wpAny _ _ (getMethod (Value.ref _) (Str.ofString "get") _) _ _ _); k_dflt (refine kdg_method (knd := PySem.strKind _ _) (by k_asm) (by k_mem) (by assumption) ?_)))
local macro_rules | `(tactic| walk_at "subscriptTail") => `(tactic| (k_here; (with_reducible show wpAny _ _ (subscriptTail _ _ (Value.ref _) (Value.str _ _)) _ _ _); k_dflt (refine kda_item (knd := PySem.strKind _ _) (by k_asm) (by k_mem) (by assumption) (strKind_is _ _ _ _) (by first | assumption | rfl) ?_)))
local macro_rules | `(tactic| walk_at "compareOp In str ref") => `(tactic| (k_here; k_dflt (first
  | refine kda_in (knd := PySem.strKind _ _) (by k_asm) (by k_mem) (by assumption) (by assumption) (strKind_is _ _ _ _) true (by first | assumption | rfl) ?_
  | refine kda_in (knd := PySem.strKind _ _) (by k_asm) (by k_mem) (by assumption) (by assumption) (strKind_is _ _ _ _) false (by first | assumption | rfl) ?_)))
local macro_rules | `(tactic| walk_at "call type:enumerate") => `(tactic| (k_here; k_dflt (refine enumListY (by k_asm) (by k_asm) (by k_mem) rfl rfl ?_); intro e' I' io' h' F' N' c1' c2' l1' l2'; (try dsimp only)))
local macro_rules | `(tactic| k_mem) => `(tactic| first | assumption | (refine List.mem_append_right _ ?_; k_mem) | (refine List.mem_append_left _ ?_; k_mem))
local macro_rules | `(tactic| walk_at "call builtin:isinstance") => `(tactic| (k_here; (with_reducible show wpAny _ _ (call _ [Value.ref _, Value.ref _]) _ _ _); k_dflt (refine' kia_one kitx_tuple ?X ?c ?ee ?nb ?_; (case c => exact kitAt_N (by k_asm) (by k_mem) rfl); (case X => k_in); (case ee => kit_is); (case nb => kit_nb); k_whole; intro _)))
local macro_rules | `(tactic| walk_at "getMethod ref") => `(tactic| (k_here; (with_reducible show wpAny _ _ (getMethod (Value.ref _) (Str.ofString "items") _) _ _ _); k_dflt (refine itemsMeth (by k_asm) (by k_mem) (by assumption) ?_)))
local macro_rules | `(tactic| walk_at "call builtin:dict.items") => `(tactic| (k_here; k_dflt (refine itemsCall (by k_asm) (by k_asm) (by k_mem) (by assumption) (by assumption) ?_); intro v' h' F' N' l1'; (try dsimp only); (try k_lt l1')))
local macro_rules | `(tactic| walk_at "setItem ref str") => `(tactic| (k_here; k_dflt (refine' kda_set (knd := PySem.strKind _ _) ?F ?N ?U ?d (strKind_is _ _ _ _) ?z ?_; (case F => k_asm); (case N => k_asm); (case U => k_updF); (case d => assumption); (case z => exact line_le (by assumption)); k_whole); intro h' o' F' N' hd'; (try dsimp only at N'); (try k_sweep)))

section
def DefAt (K : Frag) (a : Addr) (pick : List Stmt → Option Stmt) (n2 : Str) (p2 : Arguments) (b2 : List Stmt) (s2 : Scope) : Prop :=
  ∃ oc od name qual params body scope dV kV doc pm an cdv ct osl x1 x2 x3 x4 x5 x6, K.lookup a = some ⟨oc, od, .func (fnOf name qual params body scope dV kV doc pm an cdv ct), osl⟩ ∧ pick body = some (.FunctionDef n2 p2 b2 x1 x2 x3 s2 x4 x5 x6)
def bgPick (b : List Stmt) : Option Stmt := b.head?
def usPick (b : List Stmt) : Option Stmt := match b with | _ :: _ :: .If _ (d :: _) _ _ :: _ => some d | _ => none
abbrev bgQual : Str := Str.ofString "bygroups.<locals>.callback"
abbrev usQual : Str := Str.ofString "using.<locals>.callback"
def CodeOf (news : List (Addr × Obj)) (qual : Str) (c' : Addr) : Prop := ∃ oc vs t, (c', oc) ∈ news ∧ oc.data = .fields vs ∧ vs[1]? = some (.str qual t)
theorem CodeOf.mono {news news' : List (Addr × Obj)} {qual : Str} {c' : Addr} (h : CodeOf news qual c') (hs : ∀ p ∈ news, p ∈ news') : CodeOf news' qual c' := by
  obtain ⟨oc, vs, t, h1, h2⟩ := h
  exact ⟨oc, vs, t, hs _ h1, h2⟩
def TabOk (news : List (Addr × Obj)) (qual : Str) (line col : Int) (ps : Array Value) : Prop := ps = #[] ∨ ∃ c', ps = #[rawInt line, rawInt col, .ref c'] ∧ CodeOf news qual c'
theorem TabOk.mono {news news' : List (Addr × Obj)} {qual : Str} {line col : Int} {ps : Array Value} (h : TabOk news qual line col ps) (hs : ∀ p ∈ news, p ∈ news') : TabOk news' qual line col ps := by
  rcases h with rfl | ⟨c', rfl, h⟩
  · exact .inl rfl
  · exact .inr ⟨c', rfl, h.mono hs⟩
def BgIn (K : Frag) (tl full : List (Addr × Obj)) (f : Addr) (vs : List Value) : Prop :=
  ∃ c D dT c' oc doc pm ctv name params body scope, (f, kdv_obj name bgQual params (.stmts body) scope [(Str.ofString "args", c)] (.ref dT) doc pm c' ctv) ∈ tl ∧ DefAt K 412 bgPick name params body scope ∧
    (dT, tupO [.none]) ∈ tl ∧ (c, oc) ∈ tl ∧ oc.data = .cell (some (.ref D)) ∧ (D, tupO vs) ∈ tl ∧ CodeOf full bgQual c'
theorem c_bygroups {w : World} {p : Program} {loose : List Str} {mean : ExcName → Option Value} {mg mb : Str → Option Value} {h₀ : Heap} {L : Addr} {m : Str → Option Value} {s : Shared} {Q E : Value → Shared → Prop} {news : List (Addr × Obj)}
  {v : Value} {vs : List Value} {ps : Array Value} {src : List (Addr × Obj)} (F : Fr h₀ L s.heap m) (X : (hd.heap_39 w.params).In h₀) (N : News h₀ L s.heap news) (T : Top p loose mean mg mb h₀)
  (C : CodeHd h₀ 411 407) (hne : ∀ p ∈ news, p.1 ≠ 407) (hvs : (v :: vs).length ≤ 1000) (hsrc : ∀ p ∈ src, p ∈ news) (hps : TabOk src bgQual 240 4 ps)
  (N1 : News h₀ L s.heap ((407, tabObj ps) :: news))
  (hret : ∀ r tl h' tk' ps', Fr h₀ L h' m → News h₀ L h' (tl ++ (407, tabObj ps') :: news) → Above tl ((407, tabObj ps) :: news) → TabOk (tl ++ src) bgQual 240 4 ps' → BgIn (hd.heap_39 w.params) tl (tl ++ src) r (v :: vs) → Q (.ref r) { s with heap := h', toks := tk' }) :
  wpAny (model PySem.Challenge.rw_ez0274_01.prog w) (AM 900 1000) (call (.ref 412) (v :: vs)) Q E s := by
  clear N
  rcases hps with rfl | ⟨c', rfl, oc, vs', t, hc1, hc2, hc3⟩
  · (revert X; k_fill; intro X; refine wpAny_call ?_; k_dflt k_enter; k_steps)
    exact hret _ [_, _, _, _, _] _ _ _ (by assumption) (by assumption) (by walk_at "my above") (.inr ⟨_, rfl, _, _, _, .tail _ (.head _), by assumption, by assumption⟩)
      ⟨_, _, _, _, _, _, _, _, _, _, _, _, .head _, ⟨_, _, _, _, _, _, _, _, _, _, _, _, _, _, _, _, _, _, _, _, _, by k_is, rfl⟩, .tail _ (.tail _ (.head _)), .tail _ (.tail _ (.tail _ (.head _))), by assumption, .tail _ (.tail _ (.tail _ (.tail _ (.head _)))), _, _, _, .tail _ (.head _), by assumption, by assumption⟩
  · have hc1' := hsrc _ hc1
    (revert X; k_fill; intro X; refine wpAny_call ?_; k_dflt k_enter; k_steps)
    exact hret _ [_, _, _, _] _ _ _ (by assumption) (by assumption) (by walk_at "my above") (.inr ⟨_, rfl, _, _, _, sub_app _ _ _ hc1, hc2, hc3⟩)
      ⟨_, _, _, _, _, _, _, _, _, _, _, _, .head _, ⟨_, _, _, _, _, _, _, _, _, _, _, _, _, _, _, _, _, _, _, _, _, by k_is, rfl⟩, .tail _ (.head _), .tail _ (.tail _ (.head _)), by assumption, .tail _ (.tail _ (.tail _ (.head _))), _, _, _, sub_app _ _ _ hc1, hc2, hc3⟩

end
section
def UsIn (prog : Program) (w : World) (K : Frag) (tl full : List (Addr × Obj)) (f : Addr) (st : Str) : Prop :=
  ∃ c gk stk dT c' oc ogk doc pm ctv t1 t2 name params body scope, (f, kdv_obj name usQual params (.stmts body) scope [(Str.ofString "gt_kwargs", c)] (.ref dT) doc pm c' ctv) ∈ tl ∧ DefAt K 435 usPick name params body scope ∧
    (dT, tupO [.none]) ∈ tl ∧ (c, oc) ∈ tl ∧ oc.data = .cell (some (.ref gk)) ∧ (gk, ogk) ∈ tl ∧ ogk.IsDictOf (strKind prog w) [(Str.ofString "stack", .ref stk)] ∧ (stk, tupO [.str (Str.ofString "root") t1, .str st t2]) ∈ tl ∧ CodeOf full usQual c'
theorem c_using {w : World} {p : Program} {loose : List Str} {mean : ExcName → Option Value} {mg mb : Str → Option Value} {h₀ : Heap} {L : Addr} {m : Str → Option Value} {s : Shared} {Q E : Value → Shared → Prop} {news : List (Addr × Obj)}
  {st : Str} {ts : Tok} {ps : Array Value} {src : List (Addr × Obj)} (F : Fr h₀ L s.heap m) (X : (hd.heap_39 w.params).In h₀) (N : News h₀ L s.heap news) (T : Top p loose mean mg mb h₀)
  (C : CodeHd h₀ 434 430) (hne : ∀ p ∈ news, p.1 ≠ 430) (hsrc : ∀ p ∈ src, p ∈ news) (hps : TabOk src usQual 272 8 ps)
  (N1 : News h₀ L s.heap ((430, tabObj ps) :: news))
  (hret : ∀ r tl h' tk' ps', Fr h₀ L h' m → News h₀ L h' (tl ++ (430, tabObj ps') :: news) → Above tl ((430, tabObj ps) :: news) → TabOk (tl ++ src) usQual 272 8 ps' → UsIn PySem.Challenge.rw_ez0274_01.prog w (hd.heap_39 w.params) tl (tl ++ src) r st → Q (.ref r) { s with heap := h', toks := tk' }) :
  codeAny (model PySem.Challenge.rw_ez0274_01.prog w) (AM 900 1000) (.call (.ref 435) ⟨[.ref 428], [(Str.ofString "state", .str st ts)]⟩) (fun r s' => match r with | .ok (.ret v) => Q v s' | .ok _ => False | .error e => E e s') s := by
  clear N
  have key : (Spec.lookup (PyData.str (Str.ofString "state")) [(PyData.str (Str.ofString "state"), PyData.str st)]).isSome = true := rfl
  rcases hps with rfl | ⟨c', rfl, oc, vs', t, hc1, hc2, hc3⟩
  · revert X; k_fill; intro X
    k_dflt k_enter
    k_steps
    exact hret _ [_, _, _, _, _, _, _, _, _] _ _ _ (by assumption) (by assumption) (by walk_at "my above") (.inr ⟨_, rfl, _, _, _, .tail _ (.head _), by assumption, by assumption⟩)
      ⟨_, _, _, _, _, _, _, _, _, _, _, _, _, _, _, _, .head _, ⟨_, _, _, _, _, _, _, _, _, _, _, _, _, _, _, _, _, _, _, _, _, by k_is, rfl⟩, .tail _ (.tail _ (.head _)), .tail _ (.tail _ (.tail _ (.tail _ (.tail _ (.tail _ (.head _)))))), by assumption,
        .tail _ (.tail _ (.tail _ (.tail _ (.tail _ (.head _))))), by assumption, .tail _ (.tail _ (.tail _ (.head _))), _, _, _, .tail _ (.head _), by assumption, by assumption⟩
  · have hc1' := hsrc _ hc1
    revert X; k_fill; intro X
    k_dflt k_enter
    k_steps
    exact hret _ [_, _, _, _, _, _, _, _] _ _ _ (by assumption) (by assumption) (by walk_at "my above") (.inr ⟨_, rfl, _, _, _, sub_app _ _ _ hc1, hc2, hc3⟩)
      ⟨_, _, _, _, _, _, _, _, _, _, _, _, _, _, _, _, .head _, ⟨_, _, _, _, _, _, _, _, _, _, _, _, _, _, _, _, _, _, _, _, _, by k_is, rfl⟩, .tail _ (.head _), .tail _ (.tail _ (.tail _ (.tail _ (.tail _ (.head _))))), by assumption,
        .tail _ (.tail _ (.tail _ (.tail _ (.head _)))), by assumption, .tail _ (.tail _ (.head _)), _, _, _, sub_app _ _ _ hc1, hc2, hc3⟩

end
section
theorem key_of {a : Option Obj} {o o' : Obj} {G : Prop} (h1 : a = some o) (h2 : a = some o') (k : o = o' → G) : G := k (Option.some.inj (h1.symm.trans h2))
abbrev usEnv (scope : Scope) (L f c' c : Addr) : Env := envX usQual scope L f (.ref c') [(Str.ofString "gt_kwargs", c)]
theorem u_turn {w : World} {p : Program} {loose : List Str} {mean : ExcName → Option Value} {mg mb : Str → Option Value} {h₀ : Heap} {L : Addr} {m : Str → Option Value} {s : Shared} {Q E : Value → Shared → Prop} {news : List (Addr × Obj)}
  {f c' c a : Addr} {t : Tk} {k1 k2 ts : Tok} {off : Int} {name : Str} {params : Arguments} {scope : Scope} {e tgt iter : Expr} {s1 s2 st4 : Stmt} {yp ep fp : Pos} (F : Fr h₀ L s.heap m) (X : (hd.heap_39 w.params).In h₀) (N : News h₀ L s.heap news) (T : Top p loose mean mg mb h₀)
  (hDef : DefAt (hd.heap_39 w.params) 435 usPick name params [s1, s2, .For tgt iter [.Expr (.Yield (some e) yp) ep] [] fp, st4] scope)
  (ht : (a, tokObj t k1 k2) ∈ news) (hs : m (Str.ofString "s") = some (.int off ts))
  (hret : ∀ b k1' k2' m' h' tk', Fr h₀ L h' m' → News h₀ L h' ((b, tokObj ⟨t.idx + off, t.kind, t.text⟩ k1' k2') :: news) → (∀ p ∈ news, p.1 < b) → m' (Str.ofString "s") = m (Str.ofString "s") → m' (Str.ofString "ctx") = m (Str.ofString "ctx") → Q (.ref b) { s with heap := h', toks := tk' }) :
  wpAny (model PySem.Challenge.rw_ez0274_01.prog w) (AM 850 900) (assign tgt (usEnv scope L f c' c) (.ref a)) (fun _ s₂ => wpAny (model PySem.Challenge.rw_ez0274_01.prog w) (AM 850 900) (eval e (usEnv scope L f c' c)) Q E s₂) E s := by
  revert X; k_fill; intro X
  obtain ⟨oc, od, nm, ql, ps, bd, sc, dV, kV, doc', pm', an, cdv, ct, osl, x1, x2, x3, x4, x5, x6, hK, hp⟩ := hDef
  refine key_of (by k_is) hK (fun e => ?_)
  cases e
  cases hp
  k_steps
  all_goals (try k_data)
  exact hret _ _ _ _ _ _ (by assumption) (by assumption) (by first | assumption | walk_at "my below") (by rfl) (by rfl)
theorem u_last {w : World} {p : Program} {loose : List Str} {mean : ExcName → Option Value} {mg mb : Str → Option Value} {h₀ : Heap} {L : Addr} {m : Str → Option Value} {s : Shared} {news : List (Addr × Obj)}
  {f c' c : Addr} {name : Str} {params : Arguments} {scope : Scope} {e tgt iter : Expr} {s1 s2 st4 : Stmt} {yp ep fp : Pos} (F : Fr h₀ L s.heap m) (X : (hd.heap_39 w.params).In h₀) (N : News h₀ L s.heap news) (T : Top p loose mean mg mb h₀)
  (hDef : DefAt (hd.heap_39 w.params) 435 usPick name params [s1, s2, .For tgt iter [.Expr (.Yield (some e) yp) ep] [] fp, st4] scope)
  (hs : m (Str.ofString "ctx") = some .none) {Q : Flow → Shared → Prop}
  (hret : ∀ h' tk', Fr h₀ L h' m → News h₀ L h' news → Q .next { s with heap := h', toks := tk' }) :
  wpAny (model PySem.Challenge.rw_ez0274_01.prog w) (AM 850 900) (exec st4 (usEnv scope L f c' c)) Q (fun _ _ => False) s := by
  revert X; k_fill; intro X
  obtain ⟨oc, od, nm, ql, ps, bd, sc, dV, kV, doc', pm', an, cdv, ct, osl, x1, x2, x3, x4, x5, x6, hK, hp⟩ := hDef
  refine key_of (by k_is) hK (fun e => ?_)
  cases e
  cases hp
  k_steps
  all_goals (try k_data)
  exact hret _ _ (by assumption) (by assumption)

structure GenScope (_ : Program) (scope : Scope) : Prop where
  co : scope.isCoroutine = false
  gen : scope.isGenerator = true
  kind : scope.kind = .function
  cells : ∀ x ∈ scope.names, x.2 ≠ .cell
theorem us_scope {w : World} {h₀ : Heap} {name : Str} {params : Arguments} {body : List Stmt} {scope : Scope} (X : (hd.heap_39 w.params).In h₀) (hDef : DefAt (hd.heap_39 w.params) 435 usPick name params body scope) : GenScope PySem.Challenge.rw_ez0274_01.prog scope := by
  revert X; k_fill; intro X
  obtain ⟨oc, od, nm, ql, ps, bd, sc, dV, kV, doc', pm', an, cdv, ct, osl, x1, x2, x3, x4, x5, x6, hK, hp⟩ := hDef
  refine key_of (by k_is) hK (fun e => ?_)
  cases e
  cases hp
  exact ⟨rfl, rfl, rfl, by decide⟩
theorem GenScope.quiet {q : Program} {scope : Scope} (h : GenScope q scope) {qual : Str} {L f : Addr} {cd : Value} {cl : List (Str × Addr)} : interactive (envX qual scope L f cd cl) = false := by
  show (scope.kind == .module && _) = false
  rw [h.kind]; rfl

end
section
theorem genLike {h : Heap} {I : Addr} {g : Nat} {nm qn : Str} {t1 t2 : Tok} (e : h.get? I = some (genNew g nm qn t1 t2)) : IsGenS h I g := (genNew_obj e).isGen
def usNext (env : Env) (st4 : Stmt) : Flow → Sem Fin := fun f => match f with | .next => (execs [st4] env).wrap outF (outE env) id id | f => outF f
abbrev usFrame (env : Env) (st4 : Stmt) (c : Code) (p : Pos) : Frame := .ret (back env (usNext env st4) (outE env) id id) none false [] c p []
def shift (off : Int) (t : Tk) : Tk := ⟨t.idx + off, t.kind, t.text⟩
theorem u_sw {w : World} {p : Program} {loose : List Str} {mean : ExcName → Option Value} {mg mb : Str → Option Value} {h₀ : Heap} {sh : List (Addr × Obj)} {n gU gG : Nat} (hn : n ≤ 45)
    {L I f c' c : Addr} {nm qn : Str} {t1 t2 tks : Tok} {off : Int} {name : Str} {params : Arguments} {scope : Scope} {e tgt iter : Expr} {s1 s2 st4 : Stmt} {yp ep fp pp : Pos} {cf : List Stmt}
    (X : (hd.heap_39 w.params).In h₀) (T : Top p loose mean mg mb h₀) (hL : h₀.objs.size ≤ L) (hLI : I ≠ L)
    (hDef : DefAt (hd.heap_39 w.params) 435 usPick name params [s1, s2, .For tgt iter [.Expr (.Yield (some e) yp) ep] [] fp, st4] scope) :
    ∀ (ts : List Tk) (fpG : List (Addr × Obj)) (gpG : List (Nat × GenState)) (m : Str → Option Value) (oL : Obj), Will PySem.Challenge.rw_ez0274_01.prog w h₀ sh (n + 1) ts gG fpG gpG → NsOf oL m → m (Str.ofString "s") = some (.int off tks) → m (Str.ofString "ctx") = some .none →
      (∀ p ∈ fpG, p.1 ≠ L ∧ p.1 ≠ I) →
      SW PySem.Challenge.rw_ez0274_01.prog w h₀ sh n gU (ts.map (shift off)) ((L, oL) :: ([(I, genNew gG nm qn t1 t2)] ++ fpG)) gpG (.forLoop tgt (.ref I) [.Expr (.Yield (some e) yp) ep] [] (usEnv scope L f c' c))
        ((model PySem.Challenge.rw_ez0274_01.prog w).den (.forLoop tgt (.ref I) [.Expr (.Yield (some e) yp) ep] [] (usEnv scope L f c' c))) [usFrame (usEnv scope L f c' c) st4 (.func cf (usEnv scope L f c' c)) pp] := by
  intro ts
  induction ts with
  | nil =>
    intro fpG gpG m oL hW hNs hs hctx hdj s P H hrun hgU hP
    have hI := H.own _ (.tail _ (.head _))
    refine seg_forTurn (nextT (wpT_lift ⟨rfl, ?_, ?_⟩ (hW s I _ _ ⟨H.base, H.shared, fun q hq => H.own q (.tail _ (.tail _ hq)), fun q hq => H.apart q (.tail _ (.tail _ hq)), H.gens⟩ (genLike hI.1) (fun q hq => (hdj q hq).2) fun s' M => ?_)))
    · show 400 + n + 1 + 0 ≤ 400 + (n + 1)
      omega
    · show 400 + 8 * n + 1 + 3 + 0 ≤ 400 + 8 * (n + 1)
      omega
    · refine seg_nil (seg_retT (r := .ok .next) ?_)
      show SegT _ _ _ (usNext _ _ .next) _ _ _
      unfold usNext
      simp only
      refine seg_cons (seg_any (d := 850) (u := 900) ⟨rfl, ?_, ?_⟩ ?_)
      · show 400 + n + 0 + 1 ≤ 850
        omega
      · show 400 + 8 * n + 1 + 0 + 3 ≤ 900
        omega
      have H' := has_end (own := [(L, oL), (I, genNew gG nm qn t1 t2)]) H M (fun q hq r hr => by
        rcases List.mem_cons.mp hq with rfl | hq
        · exact (hdj r hr).1
        · rcases List.mem_singleton.mp hq with rfl
          exact (hdj r hr).2)
      obtain ⟨F, rest, N, hr⟩ := walk_env H' (.head _) hNs hL
      refine u_last F X N T hDef hctx fun h' tk' F' N' => ?_
      refine seg_nil (seg_endT (.ok (.ret .none)) (hP _ ?_))
      exact (moves_walk (tk := tk') (oL := oL) (oL' := oL) (own := [(I, genNew gG nm qn t1 t2)]) M (walk_keep (tl := []) F' N' hr H'.base)).drop fun q hq => (nomatch hq)
  | cons t ts ih =>
    intro fpG gpG m oL hW hNs hs hctx hdj s P H hrun hgU hP
    have hI := H.own _ (.tail _ (.head _))
    have hd : ∀ p ∈ [(L, oL), (I, genNew gG nm qn t1 t2)], ∀ q ∈ fpG, q.1 ≠ p.1 := fun q hq r hr => by
        rcases List.mem_cons.mp hq with rfl | hq
        · exact (hdj r hr).1
        · rcases List.mem_singleton.mp hq with rfl
          exact (hdj r hr).2
    refine seg_forTurn (nextT (wpT_lift ⟨rfl, ?_, ?_⟩ (hW s I _ _ ⟨H.base, H.shared, fun q hq => H.own q (.tail _ (.tail _ hq)), fun q hq => H.apart q (.tail _ (.tail _ hq)), H.gens⟩ (genLike hI.1) (fun q hq => (hdj q hq).2) fun v s' fpG' gpG' hv M H' hW' => ?_)))
    · show 400 + n + 1 + 0 ≤ 400 + (n + 1)
      omega
    · show 400 + 8 * n + 1 + 3 + 0 ≤ 400 + 8 * (n + 1)
      omega
    obtain ⟨a, k1, k2, rfl, htok, ha0, hafp⟩ := hv
    obtain ⟨H₂, hd'⟩ := Has.step (own := [(L, oL), (I, genNew gG nm qn t1 t2)]) H M H' hd
    have hI' := H₂.own _ (.tail _ (.head _))
    refine wpT_of (letGo_gen (genLike hI'.1) ?_)
    obtain ⟨F, rest, N, hr⟩ := walk_env H₂ (.head _) hNs hL
    have haL : a ≠ L := fun q => by
      obtain ⟨es, ep', hd1, _⟩ := hNs
      have z := (H₂.own _ (.head _)).1
      rw [← q, htok] at z
      cases z
      cases hd1
    have ht : (a, tokObj t k1 k2) ∈ rest := hr a _ htok ha0 haL
    refine assign_yield (d := 850) (u := 900) rfl rfl rfl ⟨rfl, ?_, ?_⟩ (us_scope X hDef).co (us_scope X hDef).quiet (u_turn (E := fun _ _ => False) F X N T hDef ht hs ?_)
    · show 400 + n + 1 + 0 ≤ 850
      omega
    · show 400 + 8 * n + 1 + 3 + 0 ≤ 900
      omega
    · intro b k1' k2' m' h' tk' F' N' ha hs' hc' pp' l k hk
      obtain ⟨oL', hoL, hNs'⟩ := NsOf.of F'.ns
      have hkeep := walk_keep (tl := [_]) F' N' hr H₂.base
      have hnew := walk_new (tl := [_]) N' (Above.cons ha Above.nil) hr _ (.head _)
      have hneL : ∀ q ∈ [(I, genNew gG nm qn t1 t2)] ++ fpG', q.1 ≠ L := fun q hq => by
        rcases List.mem_append.mp hq with hq | hq
        · rcases List.mem_singleton.mp hq with rfl
          exact hLI
        · exact hd' (L, oL) (.head _) q hq
      have H₃ := has_walk (tk := tk') H₂ hneL F' hkeep hoL
      have hb := (N' _ (.head _))
      refine hP _ false l k _ pp' _ _ ((L, oL') :: ([(I, genNew gG nm qn t1 t2)] ++ fpG')) gpG' ⟨b, k1', k2', rfl, hb.1, hb.2.2, fun q hq e => ?_⟩ (moves_walk (oL := oL) M hkeep) H₃ ?_
      · have z := H₂.own
        rcases List.mem_cons.mp hq with rfl | hq
        · exact hb.2.1 e.symm
        · have z := (H₂.own q (.tail _ hq)).1
          rw [e, hnew] at z; cases z
      · refine (ih fpG' gpG' m' oL' hW' hNs' (hs'.trans hs) (hc'.trans hctx) fun q hq => ⟨hd' _ (.head _) q hq, hd' _ (.tail _ (.head _)) q hq⟩).map fun A' s₃ P' x => hk A' s₃ P' ?_
        exact seg_againT rfl x

end
section
def piece (p : Option (Str × Tok)) : Value := match p with | none => .none | some q => .str q.1 q.2
def told (p : Option (Str × Tok)) : Str := match p with | none => Str.ofString "" | some q => q.1
def piecesOf (l : List (Option (Str × Tok))) : List Value := l.map piece
theorem sum_le_mul {l : List Nat} {B : Nat} (h : ∀ a ∈ l, a ≤ B) : l.sum ≤ l.length * B := by
  induction l with
  | nil => simp
  | cons a r ih =>
    have h1 := h a (.head _)
    have h2 := ih fun b hb => h b (.tail _ hb)
    simp only [List.sum_cons, List.length_cons, Nat.add_mul, Nat.one_mul]
    omega
theorem c_group0 {w : World} {p : Program} {loose : List Str} {mean : ExcName → Option Value} {mg mb : Str → Option Value} {h₀ : Heap} {L : Addr} {m : Str → Option Value} {s : Shared} {Q E : Value → Shared → Prop} {news : List (Addr × Obj)}
  {self d l : Addr} {h1 h2 : Int} {t1 t2 : Tok} {place : Int} {tp : Tok} {ps : List (Option (Str × Tok))} {e : Nat} (F : Fr h₀ L s.heap m) (X : (hd.heap_39 w.params).In h₀) (N : News h₀ L s.heap news) (T : Top p loose mean mg mb h₀)
  (m1 : (self, instObj 630 d) ∈ news) (m2 : (d, dictOf [⟨h1, .str "place" t1, .int place tp⟩, ⟨h2, .str "pieces" t2, .ref l⟩] 2) ∈ news) (m3 : (l, listOf (piecesOf ps).toArray e) ∈ news)
  (hn : ps.length < 100) (hl : ∀ q ∈ ps, (told q).length ≤ 1000)
  (hret : ∀ tl h' tk' t, Fr h₀ L h' m → News h₀ L h' (tl ++ news) → Above tl news → Q (.str (Txt.join (Str.ofString "") (ps.map told)) t) { s with heap := h', toks := tk' }) :
  wpAny (model PySem.Challenge.rw_ez0274_01.prog w) (AM 900 1000) (call (.ref 627) [.ref self]) Q E s := by
  (revert X; k_fill; intro X; refine wpAny_call ?_; k_dflt k_enter; k_steps)
  refine comp_list0 (by k_asm) (by k_asm) m3 rfl rfl (by unfold piecesOf; rw [List.length_map]; omega) (fun i ys tl => tl = [] ∧ ∃ r, ys = strValues r ∧ r.map Prod.fst = (ps.take i).map told) ⟨rfl, [], rfl, rfl⟩ ?_ ?_
  · rintro g C I D i v o₁ lo₁ ys tl h tk m₁ hv ⟨rfl, r, rfl, hr⟩ st F₁ N₁
    unfold piecesOf at hv
    rw [List.getElem?_map] at hv
    cases hq : ps[i]? with
    | none => rw [hq] at hv; cases hv
    | some q =>
      rw [hq] at hv
      cases hv
      cases q with
      | none =>
        simp only [piece]
        k_steps
        exact NxtC.intro (m₂ := _) [] (by assumption) (by assumption) Above.nil ⟨rfl, r ++ [(Str.ofString "", _)], by unfold strValues; rw [List.map_append]; rfl, by rw [take_succ_get hq, List.map_append, List.map_append, hr]; rfl⟩
      | some q =>
        obtain ⟨x, t⟩ := q
        have hlx : x.length ≤ 1000 := hl _ (List.mem_of_getElem? hq)
        simp only [piece]
        k_steps
        · exact NxtC.intro (m₂ := _) [] (by assumption) (by assumption) Above.nil ⟨rfl, r ++ [(x, t)], by unfold strValues; rw [List.map_append]; rfl, by rw [take_succ_get hq, List.map_append, List.map_append, hr]; rfl⟩
        · have hx0 : x = Str.ofString "" := by
            have hx : x.length = 0 := by omega
            obtain ⟨c⟩ := x
            have : c = #[] := Array.eq_empty_of_size_eq_zero hx
            rw [this]; rfl
          subst hx0
          exact NxtC.intro (m₂ := _) [] (by assumption) (by assumption) Above.nil ⟨rfl, r ++ [(Str.ofString "", _)], by unfold strValues; rw [List.map_append]; rfl, by rw [take_succ_get hq, List.map_append, List.map_append, hr]; rfl⟩
  · rintro D e' ys tl h tk ⟨rfl, r, rfl, hr⟩ F₁ N₁ ha hlt htl
    rw [show (piecesOf ps).length = ps.length from List.length_map _, List.take_length] at hr
    have hw : ((r.map Prod.fst).map (·.length)).sum + (r.map Prod.fst).length ≤ 1048576 := by
      rw [hr]
      have h1 := sum_le_mul (l := (ps.map told).map (·.length)) (B := 1000) (fun a ha => by
        obtain ⟨b, hb, rfl⟩ := List.mem_map.mp ha
        obtain ⟨q, hq, rfl⟩ := List.mem_map.mp hb
        exact hl q hq)
      simp only [List.length_map] at h1 ⊢
      omega
    k_steps
    rw [hr]
    exact hret [_] _ _ _ (by assumption) (by assumption) (Above.cons hlt Above.nil)

end
section
theorem pick_upto (l : List Value) (k : Int) (h : 0 ≤ k) : kms_pick l none (some k) = l.take k.toNat := by
  have h' : ¬ k < 0 := by omega
  unfold kms_pick kms_lo kms_hi
  simp only [if_neg h', List.drop_zero, Nat.sub_zero]
  rw [Nat.min_def]
  split
  · rfl
  · rw [List.take_length, List.take_of_length_le (by omega)]
theorem c_start {w : World} {p : Program} {loose : List Str} {mean : ExcName → Option Value} {mg mb : Str → Option Value} {h₀ : Heap} {L : Addr} {m : Str → Option Value} {s : Shared} {Q E : Value → Shared → Prop} {news : List (Addr × Obj)}
  {self d l : Addr} {h1 h2 : Int} {t1 t2 : Tok} {place : Int} {tp ti : Tok} {ps : List (Option (Str × Tok))} {e i : Nat} {q : Str × Tok} (F : Fr h₀ L s.heap m) (X : (hd.heap_39 w.params).In h₀) (N : News h₀ L s.heap news) (T : Top p loose mean mg mb h₀)
  (m1 : (self, instObj 630 d) ∈ news) (m2 : (d, dictOf [⟨h1, .str "place" t1, .int place tp⟩, ⟨h2, .str "pieces" t2, .ref l⟩] 2) ∈ news) (m3 : (l, listOf (piecesOf ps).toArray e) ∈ news)
  (hn : (piecesOf ps).length ≤ 1000) (hi : (piecesOf ps)[i]? = some (piece (some q))) (hl : ∀ q ∈ ps, (told q).length ≤ 1000)
  (hret : ∀ tl h' tk' t, Fr h₀ L h' m → News h₀ L h' (tl ++ news) → Above tl news → Q (.int (place + ((((ps.take i).map told).map (·.length)).sum : Nat)) t) { s with heap := h', toks := tk' }) :
  wpAny (model PySem.Challenge.rw_ez0274_01.prog w) (AM 900 1000) (call (.ref 613) [.ref self, .int ((i : Int) + 1) ti]) Q E s := by
  (revert X; k_fill; intro X; refine wpAny_call ?_; k_dflt k_enter; k_steps)
  · simp only [piece]
    k_steps
    · rename_i h₃ F₃ N₃ l₃
      have hpick : kms_pick (piecesOf ps).toArray.toList none (some (if (i : Int) + 1 - 1 > 0 then (i : Int) + 1 - 1 else 0)) = piecesOf (ps.take i) := by
        rw [pick_upto _ _ (by split <;> omega)]
        have : (if (i : Int) + 1 - 1 > 0 then (i : Int) + 1 - 1 else 0).toNat = i := by split <;> omega
        rw [this]
        unfold piecesOf
        rw [List.toList_toArray, List.map_take]
      rw [hpick] at N₃
      refine loop_listM F₃ N₃ (.head _) rfl rfl rfl (fun j m₁ tl => tl = [] ∧ ∃ (k : Int) (t : Tok) (m₀ : Str → Option Value), m₁ = (fun y => if y = Str.ofString "found" then some (.int k t) else m₀ y) ∧ k = place + (((((ps.take i).take j).map told).map (·.length)).sum : Nat)) ⟨rfl, _, _, _, rfl, by simp⟩ ?_ ?_
      · rintro I j v o₁ m₁ tl h tk hv ⟨rfl, k, t, m₀, rfl, hk⟩ F₁ N₁ hI1 hI2
        have hv' := hv
        unfold piecesOf at hv
        rw [List.getElem?_map] at hv
        cases hq : (ps.take i)[j]? with
        | none => rw [hq] at hv; cases hv
        | some q =>
          rw [hq] at hv
          cases hv
          have hq2 : ps[j]? = some q := by
            rw [List.getElem?_take] at hq
            split at hq
            · exact hq
            · cases hq
          have hq2' := hq
          have e0 : (Str.ofString "").length = 0 := rfl
          have hlx := hl _ (List.mem_of_getElem? hq2)
          cases q with
          | none =>
            simp only [piece]
            k_steps
            exact Nxt.intro (m₂ := _) [] (by assumption) (by assumption) Above.nil ⟨rfl, _, _, _, rfl, by rw [take_succ_get hq2', List.map_append, List.map_append, List.sum_append]; simp [told, hk]; try omega⟩
          | some q =>
            obtain ⟨x, t⟩ := q
            simp only [told] at hlx
            simp only [piece]
            k_steps
            · exact Nxt.intro (m₂ := _) [] (by assumption) (by assumption) Above.nil ⟨rfl, _, _, _, rfl, by rw [take_succ_get hq2', List.map_append, List.map_append, List.sum_append]; simp [told, hk]; try omega⟩
            · exact Nxt.intro (m₂ := _) [] (by assumption) (by assumption) Above.nil ⟨rfl, _, _, _, rfl, by rw [take_succ_get hq2', List.map_append, List.map_append, List.sum_append]; simp [told, hk]; try omega⟩
      · rintro m₁ tl h tk ⟨rfl, k, t, m₀, rfl, hk⟩ F₁ N₁ ha
        k_steps
        rw [show (piecesOf (ps.take i)).length = (ps.take i).length from List.length_map _, List.take_length] at hk
        subst hk
        exact hret [_] _ _ _ (by assumption) (by assumption) (Above.cons l₃ Above.nil)
  · exfalso; omega

end
section
theorem piecesOf_get {ps : List (Option (Str × Tok))} {i : Nat} {q : Option (Str × Tok)} (h : ps[i]? = some q) : (piecesOf ps)[i]? = some (piece q) := by
  unfold piecesOf; rw [List.getElem?_map, h]; rfl
theorem c_groupi {w : World} {p : Program} {loose : List Str} {mean : ExcName → Option Value} {mg mb : Str → Option Value} {h₀ : Heap} {L : Addr} {m : Str → Option Value} {s : Shared} {Q E : Value → Shared → Prop} {news : List (Addr × Obj)}
  {self d l : Addr} {h1 h2 : Int} {t1 t2 : Tok} {place : Int} {tp ti : Tok} {ps : List (Option (Str × Tok))} {e i : Nat} {q : Option (Str × Tok)} (F : Fr h₀ L s.heap m) (X : (hd.heap_39 w.params).In h₀) (N : News h₀ L s.heap news) (T : Top p loose mean mg mb h₀)
  (m1 : (self, instObj 630 d) ∈ news) (m2 : (d, dictOf [⟨h1, .str "place" t1, .int place tp⟩, ⟨h2, .str "pieces" t2, .ref l⟩] 2) ∈ news) (m3 : (l, listOf (piecesOf ps).toArray e) ∈ news)
  (hn : (piecesOf ps).length ≤ 1000) (hi : ps[i]? = some q)
  (hret : ∀ h' tk', Fr h₀ L h' m → News h₀ L h' news → Q (piece q) { s with heap := h', toks := tk' }) :
  wpAny (model PySem.Challenge.rw_ez0274_01.prog w) (AM 900 1000) (call (.ref 627) [.ref self, .int ((i : Int) + 1) ti]) Q E s := by
  have hx := piecesOf_get hi
  (revert X; k_fill; intro X; refine wpAny_call ?_; k_dflt k_enter; k_steps)
  · exact hret _ _ (by assumption) (by assumption)
  · exfalso; omega
local macro_rules | `(tactic| walk_at "call ref") => `(tactic| (k_here; k_dflt (show wpAny _ _ (call (Value.ref 627) [Value.ref _]) _ _ _); k_dflt (refine wpAny_lift ⟨rfl, Nat.le_of_ble_eq_true rfl, Nat.le_of_ble_eq_true rfl⟩ (c_group0 (by k_asm) (by k_asm) (by k_asm) (by k_asm) (by assumption) (by assumption) (by assumption) (by assumption) (by assumption) ?_)); intro tl' h' tk' t' F' N' A'; (try dsimp only)))
theorem c_end {w : World} {p : Program} {loose : List Str} {mean : ExcName → Option Value} {mg mb : Str → Option Value} {h₀ : Heap} {L : Addr} {m : Str → Option Value} {s : Shared} {Q E : Value → Shared → Prop} {news : List (Addr × Obj)}
  {self d l : Addr} {h1 h2 : Int} {t1 t2 : Tok} {place : Int} {tp : Tok} {ps : List (Option (Str × Tok))} {e : Nat} (F : Fr h₀ L s.heap m) (X : (hd.heap_39 w.params).In h₀) (N : News h₀ L s.heap news) (T : Top p loose mean mg mb h₀)
  (m1 : (self, instObj 630 d) ∈ news) (m2 : (d, dictOf [⟨h1, .str "place" t1, .int place tp⟩, ⟨h2, .str "pieces" t2, .ref l⟩] 2) ∈ news) (m3 : (l, listOf (piecesOf ps).toArray e) ∈ news)
  (hn : ps.length < 100) (hl : ∀ q ∈ ps, (told q).length ≤ 1000) (hj : (Txt.join (Str.ofString "") (ps.map told)).length ≤ 1000)
  (hret : ∀ tl h' tk' t, Fr h₀ L h' m → News h₀ L h' (tl ++ news) → Above tl news → Q (.int (place + (Txt.join (Str.ofString "") (ps.map told)).length) t) { s with heap := h', toks := tk' }) :
  wpAny (model PySem.Challenge.rw_ez0274_01.prog w) (AM 850 900) (call (.ref 621) [.ref self]) Q E s := by
  (revert X; k_fill; intro X; refine wpAny_call ?_; k_dflt k_enter; k_steps)
  exact hret _ _ _ _ (by assumption) (by assumption) (by assumption)

end
section
def MatchIn (news : List (Addr × Obj)) (a : Addr) (place : Int) (l : Addr) : Prop :=
  ∃ d h1 h2 t1 t2 tp, (a, instObj 630 d) ∈ news ∧ (d, dictOf [⟨h1, .str "place" t1, .int place tp⟩, ⟨h2, .str "pieces" t2, .ref l⟩] 2) ∈ news
theorem MatchIn.mono {news news' : List (Addr × Obj)} {a l : Addr} {place : Int} (h : MatchIn news a place l) (hs : ∀ p ∈ news, p ∈ news') : MatchIn news' a place l := by
  obtain ⟨d, h1, h2, t1, t2, tp, m1, m2⟩ := h
  exact ⟨d, h1, h2, t1, t2, tp, hs _ m1, hs _ m2⟩
theorem c_matchC {w : World} {p : Program} {loose : List Str} {mean : ExcName → Option Value} {mg mb : Str → Option Value} {h₀ : Heap} {L : Addr} {m : Str → Option Value} {s : Shared} {Q E : Value → Shared → Prop} {news : List (Addr × Obj)}
  {self d r l : Addr} {h1 : Int} {t1 : Tok} {pos : Int} {tp tx : Tok} {x : Str} {ps : List (Option (Str × Tok))} {e e' : Nat} (F : Fr h₀ L s.heap m) (X : (hd.heap_39 w.params).In h₀) (N : News h₀ L s.heap news) (T : Top p loose mean mg mb h₀)
  (m1 : (self, instObj 657 d) ∈ news) (m2 : (d, dictOf [⟨h1, .str "rows" t1, .ref r⟩] 1) ∈ news) (m4 : (r, listOf #[.ref l] e') ∈ news) (m3 : (l, listOf (piecesOf ps).toArray e) ∈ news)
  (hn : ps.length < 100) (hl : ∀ q ∈ ps, (told q).length ≤ 1000) (hx : x.length ≤ 1000) (hj : (Txt.join (Str.ofString "") (ps.map told)).length ≤ 1000)
  (hretT : (Txt.slice x (some pos) (some (pos + (Txt.join (Str.ofString "") (ps.map told)).length)) == Txt.join (Str.ofString "") (ps.map told)) = true → ∀ r tl h' tk', Fr h₀ L h' m → News h₀ L h' (tl ++ news) → Above tl news → MatchIn tl r pos l → Q (.ref r) { s with heap := h', toks := tk' })
  (hretF : (Txt.slice x (some pos) (some (pos + (Txt.join (Str.ofString "") (ps.map told)).length)) == Txt.join (Str.ofString "") (ps.map told)) = false → ∀ tl h' tk', Fr h₀ L h' m → News h₀ L h' (tl ++ news) → Above tl news → Q .none { s with heap := h', toks := tk' }) :
  codeAny (model PySem.Challenge.rw_ez0274_01.prog w) (AM 850 900) (.call (.ref 654) ⟨[.ref self, .str x tx, .int pos tp], []⟩) (fun r s' => match r with | .ok (.ret v) => Q v s' | .ok _ => False | .error e => E e s') s := by
  revert X; k_fill; intro X
  k_dflt k_enter
  k_steps
  refine loop_listM (by k_asm) (by k_asm) m4 (vs := [.ref l]) rfl rfl rfl (fun i m₁ tl => (i = 0 → tl = []) ∧ (0 < i → (Txt.slice x (some pos) (some (pos + (Txt.join (Str.ofString "") (ps.map told)).length)) == Txt.join (Str.ofString "") (ps.map told)) = false) ∧ ∃ m₀ : Str → Option Value, m₁ = m₀ ∧ m₀ (Str.ofString "pos") = some (.int pos tp) ∧ m₀ (Str.ofString "text") = some (.str x tx) ∧ m₀ (Str.ofString "endpos") = some .none) ⟨fun _ => rfl, fun h => absurd h (Nat.lt_irrefl _), _, rfl, rfl, rfl, rfl⟩ ?_ ?_
  · rintro I i v o₁ m₁ tl h tk hv ⟨htl0, -, m₀, rfl, g1, g2, g3⟩ F₁ N₁ hI1 hI2
    obtain ⟨rfl, rfl⟩ : i = 0 ∧ v = .ref l := by
      cases i with
      | zero => simp at hv; exact ⟨rfl, hv.symm⟩
      | succ i => simp at hv
    obtain rfl := htl0 rfl
    k_steps
    refine comp_list0 (vs := piecesOf ps) (by k_asm) (by k_asm) (.tail _ m3) rfl rfl (by unfold piecesOf; rw [List.length_map]; omega) (fun i ys tl => tl = [] ∧ ∃ r, ys = strValues r ∧ r.map Prod.fst = (ps.take i).map told) ⟨rfl, [], rfl, rfl⟩ ?_ ?_
    · rintro g C I D i v o₁ lo₁ ys tl h tk m₁ hv ⟨rfl, r, rfl, hr⟩ st F₁ N₁
      unfold piecesOf at hv
      rw [List.getElem?_map] at hv
      cases hq : ps[i]? with
      | none => rw [hq] at hv; cases hv
      | some q =>
        rw [hq] at hv
        cases hv
        cases q with
        | none =>
          simp only [piece]
          k_steps
          exact NxtC.intro (m₂ := _) [] (by assumption) (by assumption) Above.nil ⟨rfl, r ++ [(Str.ofString "", _)], by unfold strValues; rw [List.map_append]; rfl, by rw [take_succ_get hq, List.map_append, List.map_append, hr]; rfl⟩
        | some q =>
          obtain ⟨x, t⟩ := q
          have hlx : x.length ≤ 1000 := hl _ (List.mem_of_getElem? hq)
          simp only [piece]
          k_steps
          · exact NxtC.intro (m₂ := _) [] (by assumption) (by assumption) Above.nil ⟨rfl, r ++ [(x, t)], by unfold strValues; rw [List.map_append]; rfl, by rw [take_succ_get hq, List.map_append, List.map_append, hr]; rfl⟩
          · have hx0 : x = Str.ofString "" := by
              have hx : x.length = 0 := by omega
              obtain ⟨c⟩ := x
              have : c = #[] := Array.eq_empty_of_size_eq_zero hx
              rw [this]; rfl
            subst hx0
            exact NxtC.intro (m₂ := _) [] (by assumption) (by assumption) Above.nil ⟨rfl, r ++ [(Str.ofString "", _)], by unfold strValues; rw [List.map_append]; rfl, by rw [take_succ_get hq, List.map_append, List.map_append, hr]; rfl⟩
    · rintro D e' ys tl h tk ⟨rfl, r, rfl, hr⟩ F₁ N₁ ha hlt htl
      rw [show (piecesOf ps).length = ps.length from List.length_map _, List.take_length] at hr
      have hw : ((r.map Prod.fst).map (·.length)).sum + (r.map Prod.fst).length ≤ 1048576 := by
        rw [hr]
        have h1 := sum_le_mul (l := (ps.map told).map (·.length)) (B := 1000) (fun a ha => by
          obtain ⟨b, hb, rfl⟩ := List.mem_map.mp ha
          obtain ⟨q, hq, rfl⟩ := List.mem_map.mp hb
          exact hl q hq)
        simp only [List.length_map] at h1 ⊢
        omega
      rw [← hr] at hj
      k_steps
      · exact hretT (by rw [← hr]; assumption) _ [_, _, _, _] _ _ (by assumption) (by assumption) (by walk_at "my above") ⟨_, _, _, _, _, _, .head _, .tail _ (.head _)⟩
      · exact Nxt.intro (m₂ := _) [_] (by assumption) (by assumption) (Above.cons (by assumption) Above.nil) ⟨(fun q => nomatch q), fun _ => by rw [← hr]; assumption, _, rfl, by exact g1, by exact g2, by exact g3⟩
  · rintro m₁ tl h tk ⟨-, hf, m₀, rfl, g1, g2, g3⟩ F₁ N₁ ha
    k_steps
    exact hretF (hf (Nat.succ_pos _)) _ _ _ (by assumption) (by assumption) ha
theorem c_match {w : World} {p : Program} {loose : List Str} {mean : ExcName → Option Value} {mg mb : Str → Option Value} {h₀ : Heap} {L : Addr} {m : Str → Option Value} {s : Shared} {Q E : Value → Shared → Prop} {news : List (Addr × Obj)}
  {self d r l : Addr} {h1 : Int} {t1 : Tok} {pos : Int} {tp tx : Tok} {x : Str} {ps : List (Option (Str × Tok))} {e e' : Nat} (F : Fr h₀ L s.heap m) (X : (hd.heap_39 w.params).In h₀) (N : News h₀ L s.heap news) (T : Top p loose mean mg mb h₀)
  (m1 : (self, instObj 657 d) ∈ news) (m2 : (d, dictOf [⟨h1, .str "rows" t1, .ref r⟩] 1) ∈ news) (m4 : (r, listOf #[.ref l] e') ∈ news) (m3 : (l, listOf (piecesOf ps).toArray e) ∈ news)
  (hn : ps.length < 100) (hl : ∀ q ∈ ps, (told q).length ≤ 1000) (hx : x.length ≤ 1000) (hj : (Txt.join (Str.ofString "") (ps.map told)).length ≤ 1000)
  (hretT : (Txt.slice x (some pos) (some (pos + (Txt.join (Str.ofString "") (ps.map told)).length)) == Txt.join (Str.ofString "") (ps.map told)) = true → ∀ r tl h' tk', Fr h₀ L h' m → News h₀ L h' (tl ++ news) → Above tl news → MatchIn tl r pos l → Q (.ref r) { s with heap := h', toks := tk' })
  (hretF : (Txt.slice x (some pos) (some (pos + (Txt.join (Str.ofString "") (ps.map told)).length)) == Txt.join (Str.ofString "") (ps.map told)) = false → ∀ tl h' tk', Fr h₀ L h' m → News h₀ L h' (tl ++ news) → Above tl news → Q .none { s with heap := h', toks := tk' }) :
  wpAny (model PySem.Challenge.rw_ez0274_01.prog w) (AM 850 900) (call (.ref 654) [.ref self, .str x tx, .int pos tp]) Q E s := wpAny_call (c_matchC F X N T m1 m2 m4 m3 hn hl hx hj hretT hretF)

end
section
section
variable {prog : Program} {w : World} {A : Around} {s : Shared} {h₀ : Heap} {m : Str → Option Value} {news : List (Addr × Obj)} {env : Env} {E : Value → Shared → Prop}
theorem loop_list1R {R : Result → Shared → Prop} {target : Expr} {body : List Stmt} {l : Addr} {lo : Obj} {v : Value} {ep : Nat} (F : Fr h₀ env.locals s.heap m) (N : News h₀ env.locals s.heap news) (hm : (l, lo) ∈ news) (hc : lo.cls = .type "list") (hd : lo.data = .seq [v].toArray ep)
    (hh : A.handled = none) (J : (Str → Option Value) → List (Addr × Obj) → Prop)
    (turn : ∀ I o₁ h tk, Fr h₀ env.locals h m → News h₀ env.locals h ((I, o₁) :: news) → (∀ p ∈ news, p.1 < I) →
      wpAny (model prog w) A (assign target env v) (fun _ s₂ => wpAny (model prog w) A (execs body env) (fun f s₃ => match f with
        | .next | .cont => NxtR h₀ env.locals s I o₁ (fun m₂ rest => (l, lo) ∈ rest ∧ J m₂ rest) s₃
        | .brk => R (.ok .next) s₃
        | .ret v => R (.ok (.ret v)) s₃) (fun _ _ => False) s₂) (fun _ _ => False) { s with heap := h, toks := tk })
    (done : ∀ m₁ rest h tk, J m₁ rest → Fr h₀ env.locals h m₁ → News h₀ env.locals h rest → R (.ok .next) { s with heap := h, toks := tk }) :
    wpAny (model prog w) A (pyIter (.ref l)) (fun it s₂ => codeAny (model prog w) A (.forLoop target it body [] env) R s₂) E s :=
  loop_listR (vs := [v]) F N hm hc hd hh (fun i m₁ rest => (l, lo) ∈ rest ∧ (i = 0 → m₁ = m ∧ rest = news) ∧ (0 < i → J m₁ rest)) ⟨hm, fun _ => ⟨rfl, rfl⟩, fun h => absurd h (Nat.lt_irrefl _)⟩ (fun _ _ _ h => h.1)
    (fun I i u o₁ m₁ rest h tk hv hJ F₁ N₁ _ hI => by
      obtain ⟨rfl, rfl⟩ : i = 0 ∧ u = v := by
        cases i with
        | zero => simp at hv; exact ⟨rfl, hv.symm⟩
        | succ i => simp at hv
      obtain ⟨rfl, rfl⟩ := hJ.2.1 rfl
      have e : (fun m₂ rest => (l, lo) ∈ rest ∧ (0 + 1 = 0 → m₂ = m₁ ∧ rest = rest) ∧ (0 < 0 + 1 → J m₂ rest)) = (fun m₂ rest => (l, lo) ∈ rest ∧ J m₂ rest) := by
        funext m₂ r
        simp
      simp only [Nat.succ_ne_zero, false_implies, true_and, Nat.zero_lt_succ, true_implies]
      exact turn I o₁ h tk F₁ N₁ hI)
    (fun m₁ rest h tk hJ F₁ N₁ => done m₁ rest h tk (hJ.2.2 (Nat.succ_pos _)) F₁ N₁)
end
theorem typeFnL {prog : Program} {w : World} {A : Around} {E : Value → Shared → Prop} {Q : Value → Shared → Prop} {s : Shared} {L a : Addr} {o : Obj} {h₀ : Heap} {news : List (Addr × Obj)} (N : News h₀ L s.heap news) (m : (a, o) ∈ news) (hc : o.cls = .type "function") (hq : Q (.type "function") s) :
    wpAny (model prog w) A (call (.type "type") [.ref a]) Q E s := kto_cont ⟨o, (N _ m).1, hc⟩ (by decide +kernel) hq
theorem appendPrep {h₀ h : Heap} {L I0 lx pd : Addr} {io o oo : Obj} {news : List (Addr × Obj)} (N : News h₀ L h ((I0, io) :: (lx, oo) :: (pd, o) :: news)) (hI : ∀ p ∈ (lx, oo) :: (pd, o) :: news, p.1 < I0) (hl : pd < lx ∧ AllLt lx news) :
    News h₀ L h ((lx, oo) :: (I0, io) :: (pd, o) :: news) ∧ ∀ p ∈ (I0, io) :: (pd, o) :: news, p.1 ≠ lx := by
  refine ⟨News.sub N (fun p hp => by simp only [List.mem_cons] at hp ⊢; rcases hp with hp | hp | hp | hp <;> simp only [hp, true_or, or_true]), fun p hp => ?_⟩
  simp only [List.mem_cons] at hp
  rcases hp with rfl | rfl | hp
  · exact Nat.ne_of_gt (hI (lx, oo) (.head _))
  · exact Nat.ne_of_lt hl.1
  · exact Nat.ne_of_lt (allLt_all hl.2 p hp)
def PJ (lx pd a b : Addr) (oo : Obj) (news : List (Addr × Obj)) (m₁ : Str → Option Value) (rest : List (Addr × Obj)) : Prop :=
  m₁ (Str.ofString "tokens") = some (.ref lx) ∧ ∃ D q, rest = (D, tupO [.ref q, .ref b, .none]) :: (q, methodObj (.ref 654) (.ref a)) :: (lx, listOf #[.ref D] 1) :: (pd, oo) :: news ∧ (∀ p ∈ (lx, listOf #[.ref D] 1) :: (pd, oo) :: news, p.1 < q) ∧ q < D
theorem pst_close {h₀ h' : Heap} {L : Addr} {s : Shared} {I lx pd a b D q l : Addr} {io oo lo : Obj} {m₂ : Str → Option Value} {tk' : Nat} {news : List (Addr × Obj)} (F : Fr h₀ L h' m₂) (N : News h₀ L h' ((D, tupO [.ref q, .ref b, .none]) :: (q, methodObj (.ref 654) (.ref a)) :: (lx, listOf (#[].push (.ref D)) (0 + 1)) :: (I, io) :: (pd, oo) :: news))
    (hI : ∀ p ∈ (lx, listOf #[] 0) :: (pd, oo) :: news, p.1 < I) (hq : lx < q ∧ I < q ∧ pd < q ∧ AllLt q news) (hD : q < D) (hm : (l, lo) ∈ news) (ht : m₂ (Str.ofString "tokens") = some (.ref lx)) :
    NxtR h₀ L s I io (fun m₂ rest => (l, lo) ∈ rest ∧ PJ lx pd a b oo news m₂ rest) { s with heap := h', toks := tk' } := by
  refine NxtR.intro ((D, tupO [.ref q, .ref b, .none]) :: (q, methodObj (.ref 654) (.ref a)) :: (lx, listOf #[.ref D] 1) :: (pd, oo) :: news) F N (fun p hp => ?_) (fun p hp => ?_) ⟨.tail _ (.tail _ (.tail _ (.tail _ hm))), ht, D, q, rfl, fun p hp => ?_, hD⟩
  · simp only [List.mem_cons] at hp ⊢
    rcases hp with h | h | h | h | h | h
    · exact .inr (.inr (.inr (.inl h)))
    · exact .inl h
    · exact .inr (.inl h)
    · exact .inr (.inr (.inl h))
    · exact .inr (.inr (.inr (.inr (.inl h))))
    · exact .inr (.inr (.inr (.inr (.inr h))))
  · simp only [List.mem_cons] at hp
    rcases hp with rfl | rfl | rfl | rfl | h
    · exact Nat.ne_of_gt (Nat.lt_trans hq.2.1 hD)
    · exact Nat.ne_of_gt hq.2.1
    · exact Nat.ne_of_lt (hI (lx, listOf #[] 0) (.head _))
    · exact Nat.ne_of_lt (hI (pd, oo) (.tail _ (.head _)))
    · exact Nat.ne_of_lt (hI p (.tail _ (.tail _ h)))
  · simp only [List.mem_cons] at hp
    rcases hp with rfl | rfl | h
    · exact hq.1
    · exact hq.2.2.1
    · exact allLt_all hq.2.2.2 p h
section
variable {prog : Program} {w : World} {A : Around} {s : Shared} {h₀ : Heap} {m : Str → Option Value} {news : List (Addr × Obj)} {env : Env} {E : Value → Shared → Prop}
theorem loop_pst {R : Result → Shared → Prop} {target : Expr} {body : List Stmt} {l lx pd a b : Addr} {lo oo : Obj} {v : Value} {ep : Nat} (F : Fr h₀ env.locals s.heap m) (N : News h₀ env.locals s.heap ((lx, listOf #[] 0) :: (pd, oo) :: news)) (hl : pd < lx ∧ AllLt lx news)
    (hm : (l, lo) ∈ (lx, listOf #[] 0) :: (pd, oo) :: news) (hc : lo.cls = .type "list") (hd : lo.data = .seq [v].toArray ep)
    (hh : A.handled = none)
    (turn : ∀ I o₁ h tk, Fr h₀ env.locals h m → News h₀ env.locals h ((I, o₁) :: (lx, listOf #[] 0) :: (pd, oo) :: news) → (∀ p ∈ (lx, listOf #[] 0) :: (pd, oo) :: news, p.1 < I) → (pd < lx ∧ AllLt lx news) →
      wpAny (model prog w) A (assign target env v) (fun _ s₂ => wpAny (model prog w) A (execs body env) (fun f s₃ => match f with
        | .next | .cont => NxtR h₀ env.locals s I o₁ (fun m₂ rest => (l, lo) ∈ rest ∧ PJ lx pd a b oo news m₂ rest) s₃
        | .brk => R (.ok .next) s₃
        | .ret v => R (.ok (.ret v)) s₃) (fun _ _ => False) s₂) (fun _ _ => False) { s with heap := h, toks := tk })
    (done : ∀ m₁ rest h tk, PJ lx pd a b oo news m₁ rest → Fr h₀ env.locals h m₁ → News h₀ env.locals h rest → R (.ok .next) { s with heap := h, toks := tk }) :
    wpAny (model prog w) A (pyIter (.ref l)) (fun it s₂ => codeAny (model prog w) A (.forLoop target it body [] env) R s₂) E s :=
  loop_list1R F N hm hc hd hh (PJ lx pd a b oo news) (fun I o₁ h tk F₁ N₁ h₁ => turn I o₁ h tk F₁ N₁ h₁ hl) done
end
local macro_rules | `(tactic| walk_at "call type:type") => `(tactic| (k_here; (with_reducible show wpAny _ _ (call (Value.type "type") [Value.ref _]) _ _ _); k_dflt (refine' typeFnL ?N ?m ?c ?_; (case N => k_asm); (case m => k_mem); (case c => exact rfl)); (try dsimp only)))
local macro_rules | `(tactic| walk_at "call builtin:callable") => `(tactic| (k_here; (with_reducible show wpAny _ _ (call (Value.builtin "callable") [Value.ref _]) _ _ _); k_dflt (refine' callableFn ?N ?m ?c ?_; (case N => k_asm); (case m => k_mem); (case c => exact rfl)); (try dsimp only)))
local macro_rules | `(tactic| walk_at "subscriptTail") => `(tactic| (k_here; (with_reducible show wpAny _ _ (subscriptTail _ _ (Value.str _ _) (Value.int 0 _)) _ _ _); k_dflt (refine KXi.item (n := Str.length _) rfl (by omega) (by omega) (by omega) (fun _ => ?_)); (try dsimp only)))
theorem c_pstate {w : World} {p : Program} {loose : List Str} {mean : ExcName → Option Value} {mg mb : Str → Option Value} {h₀ : Heap} {L : Addr} {m : Str → Option Value} {s : Shared} {Q E : Value → Shared → Prop} {news : List (Addr × Obj)}
  {da rA : Addr} {hA : Int} {tA : Tok} {bn bq bp bb bs bc bd bdoc bpm bcc bct}
  {self d td pd l t a b : Addr} {tk : Nat} {k : Str} {od o oA oB : Obj} {kvs kvs' : List (Str × Value)} {el : Nat} {h1 h2 h3 h4 h5 h6 h7 h8 : Int} {t1 t2 t3 t4 t5 t6 t7 t8 : Tok} {v1 v2 v3 v4 v5 v6 v7 v8 : Value} (F : Fr h₀ L s.heap m) (X : (hd.heap_39 w.params).In h₀) (N : News h₀ L s.heap news) (T : Top p loose mean mg mb h₀)
  (m1 : (td, od) ∈ news) (hd : od.IsDictOf (strKind PySem.Challenge.rw_ez0274_01.prog w) kvs) (hds : (td == sysModules) = false)
  (m2 : (self, instObj 678 d) ∈ news)
  (m5 : (d, dictOf [⟨h1, .str (Str.ofString "options") t1, v1⟩, ⟨h2, .str (Str.ofString "stripnl") t2, v2⟩, ⟨h3, .str (Str.ofString "stripall") t3, v3⟩, ⟨h4, .str (Str.ofString "ensurenl") t4, v4⟩, ⟨h5, .str (Str.ofString "filters") t5, v5⟩, ⟨h6, .str (Str.ofString "tables") t6, v6⟩, ⟨h7, .str (Str.ofString "_all_tokens") t7, v7⟩, ⟨h8, .str (Str.ofString "_tmpname") t8, v8⟩] 8) ∈ news)
  (N1 : News h₀ L s.heap ((pd, o) :: news)) (ho : o.IsDictOf (strKind PySem.Challenge.rw_ez0274_01.prog w) kvs') (hos : (pd == sysModules) = false) (hnp : ∀ p ∈ news, p.1 ≠ pd) (hl : kvs.length ≤ 100) (hl' : kvs'.length ≤ 1000)
  (hv : valueAt kvs k = some (.ref l)) (hn : valueAt kvs' k = none) (m3 : (l, listOf #[.ref t] el) ∈ news) (m4 : (t, tupO [.ref a, .ref b]) ∈ news)
  (m6 : (a, instObj 657 da) ∈ news) (m7 : (da, dictOf [⟨hA, .str (Str.ofString "rows") tA, .ref rA⟩] 1) ∈ news) (m8 : (b, kdv_obj bn bq bp (.stmts bb) bs bc bd bdoc bpm bcc bct) ∈ news)
  (hk0 : 1 ≤ k.length) (hk1 : k.length ≤ 1000) (hk : (Txt.item k 0 != Str.ofString "#") = true) (hni : (valueAt kvs' k).isSome = false)
  (hret : ∀ lx D q o2 h' tk', Fr h₀ L h' m → News h₀ L h' ((D, tupO [.ref q, .ref b, .none]) :: (q, methodObj (.ref 654) (.ref a)) :: (lx, listOf #[.ref D] 1) :: (pd, o2) :: news) → o2.IsDictOf (strKind PySem.Challenge.rw_ez0274_01.prog w) (stored kvs' k (.ref lx)) →
    (pd < lx ∧ AllLt lx news) → (∀ p ∈ (lx, listOf #[.ref D] 1) :: (pd, o2) :: news, p.1 < q) → q < D → Q (.ref lx) { s with heap := h', toks := tk' }) :
  wpAny (model PySem.Challenge.rw_ez0274_01.prog w) (AM 850 900) (call (.ref 542) [.ref self, .ref td, .ref pd, .str k tk] []) Q E s := by
  clear N
  (revert X; k_fill; intro X; refine wpAny_call ?_; k_dflt k_enter; k_steps)
  rename Obj.IsDictOf _ _ (stored _ _ _) => hd'
  rename News _ _ _ _ => NN
  rename Fr _ _ _ _ => FF
  refine loop_pst (a := a) (b := b) FF NN (by assumption) (by k_mem) rfl rfl rfl ?_ ?_
  · intro I0 io h tk F₁ N₁ hI0 hlx
    obtain ⟨N₂, hneT⟩ := appendPrep N₁ hI0 hlx
    clear N₁ NN
    k_steps
    any_goals try k_data
    any_goals (with_reducible try exact trivial)
    all_goals exact pst_close (by assumption) (by assumption) hI0 ⟨by assumption, by assumption, by assumption, by assumption⟩ (by first | assumption | exact And.left (by assumption) | omega) (by assumption) (by rfl)
  · intro m₁ rest h tk hJ F₁ N₁
    obtain ⟨ht, D, q, rfl, hq, hD⟩ := hJ
    k_steps
    any_goals try k_data
    all_goals exact hret _ _ _ _ _ _ (by assumption) (by assumption) hd' (by assumption) hq hD

end
section
theorem c_child {w : World} {p : Program} {loose : List Str} {mean : ExcName → Option Value} {mg mb : Str → Option Value}
  {h₀ : Heap} {L : Addr} {m : Str → Option Value} {s : Shared} {Q E : Value → Shared → Prop}
  {news : List (Addr × Obj)} {self : Addr} {n0 : Value} {names : List Value} {val : Str} {vt : Tok}
  (F : Fr h₀ L s.heap m) (X : (hd.heap_39 w.params).In h₀) (N : News h₀ L s.heap news) (T : Top p loose mean mg mb h₀)
  (K : KindIn news self (n0 :: names))
  (hn : names.length < 100) (hv0 : val.length ≠ 0) (hv1 : val.length ≤ 10) (hv2 : Txt.isupper (Txt.item val 0) = true)
  (hret : ∀ r tl h' tk', Fr h₀ L h' m → News h₀ L h' (tl ++ news) → Above tl news → KindIn tl r (n0 :: names ++ [.str val vt]) → Q (.ref r) { s with heap := h', toks := tk' }) :
  wpAny (model PySem.Challenge.rw_ez0274_01.prog w) (AM 900 1000) (call (.ref 56) [.ref self, .str val vt]) Q E s := by
  obtain ⟨dx, t, hs, tk0, m1, m2, m3⟩ := K
  revert X; k_fill; intro X
  refine wpAny_call ?_
  k_dflt k_enter
  k_steps
  · exact hret _ [_, _, _] _ _ (by assumption) (by assumption) (by walk_at "my above") ⟨_, _, _, _, .tail _ (.head _), .tail _ (.tail _ (.head _)), .head _⟩
  · exfalso; omega
theorem c_child0 {w : World} {p : Program} {loose : List Str} {mean : ExcName → Option Value} {mg mb : Str → Option Value}
  {h₀ : Heap} {L : Addr} {m : Str → Option Value} {s : Shared} {Q E : Value → Shared → Prop}
  {news : List (Addr × Obj)} {vt : Tok}
  (F : Fr h₀ L s.heap m) (X : (hd.heap_39 w.params).In h₀) (N : News h₀ L s.heap news) (T : Top p loose mean mg mb h₀)
  (hret : ∀ r tl h' tk', Fr h₀ L h' m → News h₀ L h' (tl ++ news) → Above tl news → KindIn tl r [.str (Str.ofString "Top") vt] → Q (.ref r) { s with heap := h', toks := tk' }) :
  wpAny (model PySem.Challenge.rw_ez0274_01.prog w) (AM 900 1000) (call (.ref 56) [.ref 72, .str (Str.ofString "Top") vt]) Q E s := by
  revert X; k_fill; intro X
  refine wpAny_call ?_
  k_dflt k_enter
  k_steps
  exact hret _ [_, _, _] _ _ (by assumption) (by assumption) (by walk_at "my above") ⟨_, _, _, _, .tail _ (.head _), .tail _ (.tail _ (.head _)), .head _⟩

end
section
local macro_rules | `(tactic| walk_at "call ref") => `(tactic| (k_here; (with_reducible show wpAny _ _ (call (Value.ref 56) [Value.ref _, Value.str _ _]) _ _ _); k_dflt (refine wpAny_lift ⟨rfl, Nat.le_of_ble_eq_true rfl, Nat.le_of_ble_eq_true rfl⟩ (c_child (by k_asm) (by k_asm) (by k_asm) (by k_asm) (by walk_at "my kind") (by assumption) (by assumption) (by assumption) (by assumption) ?_)); intro r' tl' h' tk' F' N' A' K'; (try dsimp only)))
local macro_rules | `(tactic| walk_at "call ref") => `(tactic| (k_here; (with_reducible show wpAny _ _ (call (Value.ref 56) [Value.ref 72, Value.str _ _]) _ _ _); k_dflt (refine wpAny_lift ⟨rfl, Nat.le_of_ble_eq_true rfl, Nat.le_of_ble_eq_true rfl⟩ (c_child0 (by k_asm) (by k_asm) (by k_asm) (by k_asm) ?_)); intro r' tl' h' tk' F' N' A' K'; (try dsimp only)))
theorem strValues_get {l : List (Str × Tok)} {i : Nat} {v : Value} (h : (strValues l)[i]? = some v) : ∃ a t, l[i]? = some (a, t) ∧ v = .str a t := by
  unfold strValues at h
  rw [List.getElem?_map] at h
  cases e : l[i]? with
  | none => rw [e] at h; cases h
  | some q => obtain ⟨a, t⟩ := q; rw [e] at h; cases h; exact ⟨a, t, rfl, rfl⟩
theorem KindIn.full {g h : Heap} {L I : Addr} {o₁ : Obj} {tl news : List (Addr × Obj)} {r : Addr} {vs : List Value} (K : KindIn tl r vs) (_ : News g L h ((I, o₁) :: (tl ++ news))) : KindIn ((I, o₁) :: (tl ++ news)) r vs :=
  K.mono fun _ hp => .tail _ (List.mem_append_left _ hp)
theorem c_stt {w : World} {p : Program} {loose : List Str} {mean : ExcName → Option Value} {mg mb : Str → Option Value}
  {h₀ : Heap} {L : Addr} {m : Str → Option Value} {s : Shared} {Q E : Value → Shared → Prop}
  {news : List (Addr × Obj)} {x : Str} {vt : Tok} {items : List Str}
  (F : Fr h₀ L s.heap m) (X : (hd.heap_39 w.params).In h₀) (N : News h₀ L s.heap news) (T : Top p loose mean mg mb h₀)
  (hv0 : x.length ≠ 0) (hv1 : x.length ≤ 100) (hsp : Txt.split x (Str.ofString ".") = Str.ofString "Top" :: items) (hlen : items.length < 90)
  (hit : ∀ a ∈ items, a.length ≠ 0 ∧ a.length ≤ 10 ∧ Txt.isupper (Txt.item a 0) = true)
  (hret : ∀ r tl h' tk' l, Fr h₀ L h' m → News h₀ L h' (tl ++ news) → Above tl news → List.map Prod.fst l = Txt.split x (Str.ofString ".") → KindIn tl r (strValues l) → Q (.ref r) { s with heap := h', toks := tk' }) :
  wpAny (model PySem.Challenge.rw_ez0274_01.prog w) (AM 850 900) (call (.ref 105) [.str x vt]) Q E s := by
  revert X; k_fill; intro X
  refine wpAny_call ?_
  k_dflt k_enter
  k_steps
  · rename_i NL l h1 kk hl1 a2 a3 a4 FF NN
    have hlen' : l.length = items.length + 1 := by have := congrArg List.length (hl1.trans hsp); simpa using this
    have hlv : (strValues l).length = items.length + 1 := by unfold strValues; rw [List.length_map]; exact hlen'
    refine loop_listM FF NN (.head _) rfl rfl rfl (fun i m₁ tl => ∃ (nv : Value) (m₀ : Str → Option Value), m₁ = (fun y => if y = Str.ofString "node" then some nv else m₀ y) ∧ (i = 0 ∧ nv = .ref 72 ∨ ∃ r, nv = .ref r ∧ 0 < i ∧ KindIn tl r ((strValues l).take i)))
      ⟨_, _, rfl, .inl ⟨rfl, rfl⟩⟩ ?_ ?_
    · rintro I i v o₁ m₁ tl h tk hv ⟨nv, m₀, rfl, hnv⟩ F₁ N₁ hI1 hI2
      obtain ⟨a, t, ha, rfl⟩ := strValues_get hv
      have hall : (l.map Prod.fst)[i]? = some a := by rw [List.getElem?_map, ha]; rfl
      rw [hl1, hsp] at hall
      have hlt : i < items.length + 1 := by have := (List.getElem?_eq_some_iff.mp hv).1; omega
      have htake := take_succ_get hv
      rcases hnv with ⟨rfl, rfl⟩ | ⟨r, rfl, hi, K⟩
      · obtain rfl : Str.ofString "Top" = a := by simpa using hall
        k_steps
        exact Nxt.intro _ (by assumption) (by assumption) (by assumption) ⟨_, _, rfl, .inr ⟨_, rfl, Nat.succ_pos _, by rw [htake]; exact KindIn.mono (by assumption) (by walk_at "my sub")⟩⟩
      · obtain ⟨j, rfl⟩ : ∃ j, i = j + 1 := ⟨i - 1, by omega⟩
        have hmem : a ∈ items := by rw [List.getElem?_cons_succ] at hall; exact List.mem_of_getElem? hall
        obtain ⟨b1, b2, b3⟩ := hit a hmem
        obtain ⟨n0, ns, hl⟩ : ∃ n0 ns, strValues l = n0 :: ns := by
          cases hl : strValues l with
          | nil => rw [hl] at hv; cases hv
          | cons n0 ns => exact ⟨n0, ns, rfl⟩
        rw [hl] at K htake
        rw [List.take_succ_cons] at K
        have b4 : (ns.take j).length < 100 := by rw [List.length_take]; have := congrArg List.length hl; simp only [List.length_cons] at this; omega
        have K2 := KindIn.full K N₁
        obtain ⟨d, t2, hs2, tk2, k1, k2, k3⟩ := K2
        k_steps
        exact Nxt.intro _ (by assumption) (by assumption) (by assumption) ⟨_, _, rfl, .inr ⟨_, rfl, Nat.succ_pos _, by rw [hl, htake]; exact KindIn.mono (by assumption) (by walk_at "my sub")⟩⟩
    · rintro m₁ tl h tk ⟨nv, m₀, rfl, hnv⟩ F₁ N₁ ha
      rcases hnv with ⟨h0, rfl⟩ | ⟨r, rfl, hi, K⟩
      · exfalso; omega
      · k_steps
        exact hret _ (tl ++ [_]) _ _ _ (by assumption) (by simpa using by assumption) (Above.app ha (Above.cons (fun q hq => Heap.lt_size (NL q hq).1) Above.nil)) hl1 (KindIn.mono (by rw [List.take_length] at K; exact K) (sub_app' _ _))
  · exfalso; omega

end
section
theorem c_inherit {w : World} {p : Program} {loose : List Str} {mean : ExcName → Option Value} {mg mb : Str → Option Value} {h₀ : Heap} {L : Addr} {m : Str → Option Value} {s : Shared} {Q E : Value → Shared → Prop} {news : List (Addr × Obj)}
  {l : Addr} {e : Nat} {t a b : Addr} (F : Fr h₀ L s.heap m) (X : (hd.heap_39 w.params).In h₀) (N : News h₀ L s.heap news) (T : Top p loose mean mg mb h₀)
  (m1 : (l, listOf #[.ref t] e) ∈ news) (m2 : (t, tupO [.ref a, .ref b]) ∈ news)
  (hret : ∀ tl h' tk', Fr h₀ L h' m → News h₀ L h' (tl ++ news) → Above tl news → Q .none { s with heap := h', toks := tk' }) :
  wpAny (model PySem.Challenge.rw_ez0274_01.prog w) (AM 900 1000) (call (.ref 500) [.ref l]) Q E s := by
  (revert X; k_fill; intro X; refine wpAny_call ?_; k_dflt k_enter; k_steps)
  rename_i e1 I1 io1 h1 F1 N1 c1 c2 l1 l2
  refine loop_enumM (vs := [.ref t]) F1 N1 c1 c2 l1 l2 m1 rfl rfl rfl (fun i m₁ tl => True) trivial ?_ ?_
  · rintro T i v t1 eo₁ io₁ m₁ tl h tk hv - F₂ N₂ lT
    obtain ⟨rfl, rfl⟩ : i = 0 ∧ v = .ref t := by
      cases i with
      | zero => simp at hv; exact ⟨rfl, hv.symm⟩
      | succ i => simp at hv
    k_steps
    exact NxtI.intro (m₂ := _) [] (by assumption) (by assumption) Above.nil trivial
  · rintro m₁ tl h tk - F₂ N₂ ha
    k_steps
    exact hret tl _ _ (by assumption) (by assumption) ha

end
section
local macro_rules | `(tactic| walk_at "call ref") => `(tactic| (k_here; k_dflt (show wpAny _ _ (call (Value.ref 500) [Value.ref _]) _ _ _); k_dflt (refine wpAny_lift ⟨rfl, Nat.le_of_ble_eq_true rfl, Nat.le_of_ble_eq_true rfl⟩ (c_inherit (by k_asm) (by k_asm) (by k_asm) (by k_asm) (by k_mem) (by k_mem) ?_)); intro tl' h' tk' F' N' A'; (try dsimp only)))
def Merged (kvs : List (Str × Value)) (news : List (Addr × Obj)) (i : Nat) (kvs' : List (Str × Value)) (tl : List (Addr × Obj)) : Prop :=
  kvs'.map (·.1) = (kvs.take i).map (·.1) ∧ ∀ (j : Nat) (k : Str) (v' : Value), kvs'[j]? = some (k, v') → ∃ l l' e e' t, kvs[j]? = some (k, Value.ref l) ∧ v' = Value.ref l' ∧ (l, listOf #[.ref t] e) ∈ news ∧ (l', listOf #[.ref t] e') ∈ tl
theorem NxtR.perm {h₀ : Heap} {L : Addr} {s : Shared} {I1 : Addr} {o₁ : Obj} {J : (Str → Option Value) → List (Addr × Obj) → Prop} {h' : Heap} {tk' : Nat} {m₂ : Str → Option Value} {tl2 tl X : List (Addr × Obj)} {Dn Tt : Addr × Obj} {dT : Addr} {o o' : Obj}
    (F : Fr h₀ L h' m₂) (N : News h₀ L h' (tl2 ++ Dn :: (dT, o') :: Tt :: (I1, o₁) :: (tl ++ X))) (ha : Above tl2 (Dn :: (dT, o') :: Tt :: (I1, o₁) :: (tl ++ X))) (h1 : I1 < Dn.1) (h2 : I1 < Tt.1) (h3 : ∀ p ∈ tl ++ (dT, o) :: X, p.1 ≠ I1)
    (hJ : J m₂ ((tl2 ++ Dn :: Tt :: tl) ++ (dT, o') :: X)) : NxtR h₀ L s I1 o₁ J { s with heap := h', toks := tk' } := by
  refine NxtR.intro _ F N (fun p hp => ?_) (fun p hp => ?_) hJ
  · simp only [List.mem_cons, List.mem_append] at hp ⊢
    rcases hp with hp | (hp | hp | hp | hp) | hp | hp <;> simp only [hp, true_or, or_true]
  · simp only [List.mem_cons, List.mem_append] at hp
    rcases hp with (hp | rfl | rfl | hp) | rfl | hp
    · exact Nat.ne_of_gt (ha p hp (I1, o₁) (.tail _ (.tail _ (.tail _ (.head _)))))
    · exact Nat.ne_of_gt h1
    · exact Nat.ne_of_gt h2
    · exact h3 p (List.mem_append_left _ hp)
    · exact h3 (dT, o) (List.mem_append_right _ (.head _))
    · exact h3 p (List.mem_append_right _ (.tail _ hp))
theorem not_mem_take {α : Type} {l : List α} {i : Nat} {a : α} (hn : l.Nodup) (h : l[i]? = some a) : a ∉ l.take i := by
  intro hm
  obtain ⟨j, hj, e⟩ := List.mem_iff_getElem.mp hm
  rw [List.length_take] at hj
  rw [List.getElem_take] at e
  obtain ⟨hi, e2⟩ := List.getElem?_eq_some_iff.mp h
  exact List.pairwise_iff_getElem.mp hn j i (by omega) hi (by omega) (e.trans e2.symm)
theorem Merged.step {kvs kvs' : List (Str × Value)} {news tl tl' : List (Addr × Obj)} {i : Nat} {k : Str} {l D t : Addr} {e e' : Nat} (h : Merged kvs news i kvs' tl) (hk : kvs[i]? = some (k, .ref l)) (hl : (l, listOf #[.ref t] e) ∈ news) (hD : (D, listOf #[.ref t] e') ∈ tl') (hs : ∀ p ∈ tl, p ∈ tl')
    (hnone : valueAt kvs' k = none) (hkey : k ∉ kvs'.map (·.1)) : Merged kvs news (i + 1) (stored kvs' k (.ref D)) tl' := by
  have hst : stored kvs' k (.ref D) = kvs' ++ [(k, .ref D)] := by
    unfold stored
    rw [if_neg]
    intro hx
    obtain ⟨x, hx1, hx2⟩ := List.any_eq_true.mp hx
    exact hkey (List.mem_map.mpr ⟨x, hx1, by simpa using hx2⟩)
  have hlen : kvs'.length = i := by
    have := congrArg List.length h.1
    simp only [List.length_map, List.length_take] at this
    have := (List.getElem?_eq_some_iff.mp hk).1
    omega
  rw [hst]
  refine ⟨by rw [List.map_append, h.1, take_succ_get hk, List.map_append]; rfl, fun j k2 v' hj => ?_⟩
  rcases Nat.lt_trichotomy j kvs'.length with hlt | rfl | hgt
  · rw [List.getElem?_append_left hlt] at hj
    obtain ⟨l2, l3, e2, e3, t2, h1, h2, h3, h4⟩ := h.2 j k2 v' hj
    exact ⟨l2, l3, e2, e3, t2, h1, h2, h3, hs _ h4⟩
  · rw [List.getElem?_append_right (Nat.le_refl _), Nat.sub_self] at hj
    cases hj
    rw [hlen]
    exact ⟨l, D, e, e', t, hk, rfl, hl, hD⟩
  · rw [List.getElem?_eq_none (by rw [List.length_append, List.length_singleton]; omega)] at hj
    cases hj
theorem Merged.mono {kvs kvs' : List (Str × Value)} {news tl tl' : List (Addr × Obj)} {i : Nat} (h : Merged kvs news i kvs' tl) (hs : ∀ p ∈ tl, p ∈ tl') : Merged kvs news i kvs' tl' :=
  ⟨h.1, fun j k v' hj => by obtain ⟨l2, l3, e2, e3, t2, h1, h2, h3, h4⟩ := h.2 j k v' hj; exact ⟨l2, l3, e2, e3, t2, h1, h2, h3, hs _ h4⟩⟩
theorem valueAt_none {kvs : List (Str × Value)} {k : Str} (h : k ∉ kvs.map (·.1)) : valueAt kvs k = none := by
  unfold valueAt
  rw [List.find?_eq_none.mpr]
  · rfl
  · intro x hx hk
    exact h (List.mem_map.mpr ⟨x, hx, by simpa using hk⟩)
theorem c_merged {w : World} {p : Program} {loose : List Str} {mean : ExcName → Option Value} {mg mb : Str → Option Value} {h₀ : Heap} {L : Addr} {m : Str → Option Value} {s : Shared} {Q E : Value → Shared → Prop} {news : List (Addr × Obj)}
  {tt td : Addr} {od : Obj} {kvs : List (Str × Value)} (F : Fr h₀ L s.heap m) (X : (hd.heap_39 w.params).In h₀) (N : News h₀ L s.heap news) (T : Top p loose mean mg mb h₀)
  (m1 : (td, od) ∈ news) (hd : od.IsDictOf (strKind PySem.Challenge.rw_ez0274_01.prog w) kvs) (hds : (td == sysModules) = false) (m2 : (tt, tupO [.ref td]) ∈ news)
  (hrows : ∀ k v, (k, v) ∈ kvs → ∃ l e t a b, v = .ref l ∧ (l, listOf #[.ref t] e) ∈ news ∧ (t, tupO [.ref a, .ref b]) ∈ news) (hlen : kvs.length ≤ 100)
  (hret : ∀ r tl h' tk' o kvs', Fr h₀ L h' m → News h₀ L h' (tl ++ news) → Above tl news → (r, o) ∈ tl → (r == sysModules) = false → o.IsDictOf (strKind PySem.Challenge.rw_ez0274_01.prog w) kvs' → Merged kvs news kvs.length kvs' tl → Q (.ref r) { s with heap := h', toks := tk' }) :
  wpAny (model PySem.Challenge.rw_ez0274_01.prog w) (AM 850 900) (call (.ref 507) [.ref tt]) Q E s := by
  (revert X; k_fill; intro X; refine wpAny_call ?_; k_dflt k_enter; k_steps)
  rename_i dT h1 oT lT loT hsT fT iT fiT h2 dI h3 oI loI hsI fI iI fiI lI h4 FF NN
  have hnd : (kvs.map (·.1)).Nodup := by obtain ⟨es, ep, _, _, _, _, hn⟩ := hd; exact hn
  refine loop_tupleR (vs := [.ref td]) FF NN (by k_mem) rfl rfl rfl (fun i m₁ rest => (tt, tupO [.ref td]) ∈ rest ∧ (i = 0 → rest = (dI, oI) :: (dT, oT) :: news ∧ ∃ m₀ : Str → Option Value, m₁ = (fun y => if y = Str.ofString "inheritable" then some (.ref dI) else if y = Str.ofString "tokens" then some (.ref dT) else m₀ y)) ∧
    (0 < i → m₁ (Str.ofString "tokens") = some (.ref dT) ∧ ∃ o tl kvs', rest = tl ++ (dT, o) :: (dI, oI) :: news ∧ Above tl ((dT, oT) :: (dI, oI) :: news) ∧ o.IsDictOf (strKind PySem.Challenge.rw_ez0274_01.prog w) kvs' ∧ Merged kvs news kvs.length kvs' tl))
    ⟨by k_mem, fun _ => ⟨rfl, _, rfl⟩, fun h => absurd h (Nat.lt_irrefl _)⟩ (fun _ _ _ h => h.1) ?_ ?_
  · rintro I0 i v io m₁ rest h tk hv ⟨-, hJ, -⟩ F₁ N₁ hI0 hI0'
    obtain ⟨rfl, rfl⟩ : i = 0 ∧ v = .ref td := by
      cases i with
      | zero => simp at hv; exact ⟨rfl, hv.symm⟩
      | succ i => simp at hv
    obtain ⟨rfl, m₀, rfl⟩ := hJ rfl
    k_steps
    rename_i V h5 F5 N5 lV
    have hlt1 : dT < dI := lI.1
    have hlt2 : dI < I0 := hI0' (dI, oI) (.head _)
    have hlt3 : I0 < V := by (repeat (cases ‹_ ∧ _›)); assumption
    have hlt4 : ∀ p ∈ news, p.1 < dT := lT
    have N5' := News.sub (l' := (dT, oT) :: (V, ({ cls := .type "dict_items", data := .fields #[.ref td] } : Obj)) :: (I0, io) :: (dI, oI) :: news) N5 (fun p hp => by simp only [List.mem_cons] at hp ⊢; rcases hp with hp | hp | hp | hp | hp <;> simp only [hp, true_or, or_true])
    refine loop_itemsR F5 N5' (by k_mem) rfl rfl (by k_mem) hd rfl (fun i m₁ rest => m₁ (Str.ofString "tokens") = some (.ref dT) ∧ ∃ o tl kvs', rest = tl ++ (dT, o) :: (V, ({ cls := .type "dict_items", data := .fields #[.ref td] } : Obj)) :: (I0, io) :: (dI, oI) :: news ∧ Above tl ((dT, oT) :: (V, oT) :: (I0, io) :: (dI, oI) :: news) ∧ o.IsDictOf (strKind PySem.Challenge.rw_ez0274_01.prog w) kvs' ∧ Merged kvs news i kvs' tl)
      ⟨rfl, oT, [], [], rfl, Above.nil, hsT, rfl, fun j k v' hj => by simp at hj⟩ (fun i m₁ rest hJ => by obtain ⟨_, o, tl, kvs', rfl, _⟩ := hJ; exact List.mem_append_right _ (.tail _ (.tail _ (.tail _ (.tail _ m1))))) ?_ ?_
    · rintro I1 T i k val key o₁ m₁ rest h tk hkv hkey ⟨hm1, o, tl, kvs', rfl, ha, hdo, hmg⟩ F₆ N₆ lT6 hne6 hI6
      obtain ⟨l, e, t, a, b, rfl, hl1, hl2⟩ := hrows _ _ (List.mem_of_getElem? hkv)
      obtain ⟨tk0, rfl⟩ := Value.isStrOf_shape hkey
      have hkeyn : k ∉ kvs'.map (·.1) := by
        rw [hmg.1, List.map_take]
        exact not_mem_take hnd (by rw [List.getElem?_map, hkv]; rfl)
      have hnone : valueAt kvs' k = none := valueAt_none hkeyn
      have N₇ := News.sub (l' := ((dT, o) :: ((T, tupO [.str k tk0, .ref l]) :: (I1, o₁) :: (tl ++ (V, ({ cls := .type "dict_items", data := .fields #[.ref td] } : Obj)) :: (I0, io) :: (dI, oI) :: news)))) N₆ (fun p hp => by simp only [List.mem_cons, List.mem_append] at hp ⊢; rcases hp with hp | hp | hp | hp | hp <;> simp only [hp, true_or, or_true])
      have hneT : ∀ p ∈ ((T, tupO [.str k tk0, .ref l]) :: (I1, o₁) :: (tl ++ (V, ({ cls := .type "dict_items", data := .fields #[.ref td] } : Obj)) :: (I0, io) :: (dI, oI) :: news)), p.1 ≠ dT := fun p hp => by
        simp only [List.mem_cons, List.mem_append] at hp
        rcases hp with rfl | rfl | hp | rfl | rfl | rfl | hp
        · exact Nat.ne_of_gt (lT6 (dT, o) (.tail _ (List.mem_append_right _ (.head _))))
        · exact Nat.ne_of_gt (hI6 (dT, oT) (.head _))
        · exact Nat.ne_of_gt (ha p hp (dT, oT) (.head _))
        · exact Nat.ne_of_gt (Nat.lt_trans hlt1 (Nat.lt_trans hlt2 hlt3))
        · exact Nat.ne_of_gt (Nat.lt_trans hlt1 hlt2)
        · exact Nat.ne_of_gt hlt1
        · exact Nat.ne_of_lt (hlt4 p hp)
      clear N₆
      have hl' : kvs'.length ≤ 1000 := by have := congrArg List.length hmg.1; simp only [List.length_map, List.length_take] at this; omega
      k_steps
      rename News _ _ _ _ => NN9
      rename Fr _ _ _ _ => FF9
      rename Above _ _ => aa9
      rename Obj.IsDictOf _ _ _ => hd9
      rename _ < _ ∧ _ < _ ∧ _ < _ ∧ AllLt _ _ => lc
      obtain ⟨c1, c2, c3, c4⟩ := lc
      have c5 := allLt_all c4
      refine NxtR.perm FF9 NN9 aa9 c3 (lT6 _ (.head _)) hne6 ⟨hm1, _, _, _, rfl, ?_, hd9, ?_⟩
      · refine Above.app (Above.via aa9 (fun q hq => ?_)) (Above.cons (fun q hq => ?_) (Above.cons (fun q hq => ?_) ha))
        · simp only [List.mem_cons, List.mem_append] at hq
          rcases hq with (rfl | rfl | hq) | rfl | rfl | rfl | rfl | hq
          · exact ⟨_, .head _, rfl⟩
          · exact ⟨_, .tail _ (.tail _ (.head _)), rfl⟩
          · exact ⟨_, .tail _ (.tail _ (.tail _ (.tail _ (List.mem_append_left _ hq)))), rfl⟩
          · exact ⟨_, .tail _ (.head _), rfl⟩
          · exact ⟨_, .tail _ (.tail _ (.tail _ (.tail _ (List.mem_append_right _ (.head _))))), rfl⟩
          · exact ⟨_, .tail _ (.tail _ (.tail _ (.tail _ (List.mem_append_right _ (.tail _ (.head _)))))), rfl⟩
          · exact ⟨_, .tail _ (.tail _ (.tail _ (.tail _ (List.mem_append_right _ (.tail _ (.tail _ (.head _))))))), rfl⟩
          · exact ⟨_, .tail _ (.tail _ (.tail _ (.tail _ (List.mem_append_right _ (.tail _ (.tail _ (.tail _ hq))))))), rfl⟩
        · simp only [List.mem_cons] at hq
          rcases hq with rfl | rfl | rfl | rfl | hq
          · exact c1
          · exact c5 (V, ({ cls := .type "dict_items", data := .fields #[.ref td] } : Obj)) (List.mem_append_right _ (.head _))
          · exact c5 _ (List.mem_append_right _ (.tail _ (.head _)))
          · exact c5 _ (List.mem_append_right _ (.tail _ (.tail _ (.head _))))
          · exact c5 _ (List.mem_append_right _ (.tail _ (.tail _ (.tail _ hq))))
        · simp only [List.mem_cons] at hq
          rcases hq with rfl | rfl | rfl | rfl | hq
          · exact lT6 (dT, o) (.tail _ (List.mem_append_right _ (.head _)))
          · exact lT6 (V, ({ cls := .type "dict_items", data := .fields #[.ref td] } : Obj)) (.tail _ (List.mem_append_right _ (.tail _ (.head _))))
          · exact lT6 _ (.tail _ (List.mem_append_right _ (.tail _ (.tail _ (.head _)))))
          · exact lT6 _ (.tail _ (List.mem_append_right _ (.tail _ (.tail _ (.tail _ (.head _))))))
          · exact lT6 _ (.tail _ (List.mem_append_right _ (.tail _ (.tail _ (.tail _ (.tail _ hq))))))
      · exact Merged.step hmg hkv hl1 (by k_mem) (fun p hp => List.mem_append_right _ (.tail _ (.tail _ hp))) hnone hkeyn
    · rintro m₁ rest h tk ⟨hm1, o, tl, kvs', rfl, ha, hdo, hmg⟩ F₆ N₆
      k_steps
      refine NxtR.intro (m₂ := _) ((tl ++ [(V, ({ cls := .type "dict_items", data := .fields #[.ref td] } : Obj))]) ++ (dT, o) :: (dI, oI) :: news) F₆ N₆ (fun p hp => ?_) (fun p hp => ?_) ⟨List.mem_append_right _ (.tail _ (.tail _ m2)), fun q => by simp at q, fun _ => ⟨hm1, _, _, _, rfl, ?_, hdo, hmg.mono (fun p hp => List.mem_append_left _ hp)⟩⟩
      · simp only [List.mem_cons, List.mem_append, List.not_mem_nil, or_false] at hp ⊢
        rcases hp with hp | (hp | hp) | hp | hp | hp <;> simp only [hp, true_or, or_true]
      · simp only [List.mem_cons, List.mem_append, List.not_mem_nil, or_false] at hp
        rcases hp with (hp | rfl) | rfl | rfl | hp
        · exact Nat.ne_of_gt (ha p hp (I0, io) (.tail _ (.tail _ (.head _))))
        · exact Nat.ne_of_gt hlt3
        · exact Nat.ne_of_lt (Nat.lt_trans hlt1 hlt2)
        · exact Nat.ne_of_lt hlt2
        · exact Nat.ne_of_lt (Nat.lt_trans (hlt4 p hp) (Nat.lt_trans hlt1 hlt2))
      · refine Above.app (Above.via ha (fun q hq => ?_)) (Above.cons (fun q hq => ?_) Above.nil)
        · simp only [List.mem_cons, List.mem_append, List.not_mem_nil, or_false] at hq
          rcases hq with rfl | rfl | rfl | hq
          · exact ⟨_, .tail _ (.head _), rfl⟩
          · exact ⟨_, .head _, rfl⟩
          · exact ⟨_, .tail _ (.tail _ (.tail _ (.head _))), rfl⟩
          · exact ⟨_, .tail _ (.tail _ (.tail _ (.tail _ hq))), rfl⟩
        · simp only [List.mem_cons] at hq
          rcases hq with rfl | rfl | hq
          · exact Nat.lt_trans hlt1 (Nat.lt_trans hlt2 hlt3)
          · exact Nat.lt_trans hlt2 hlt3
          · exact Nat.lt_trans (hlt4 q hq) (Nat.lt_trans hlt1 (Nat.lt_trans hlt2 hlt3))
  · rintro m₁ rest h tk ⟨-, -, hJ⟩ F₆ N₆
    obtain ⟨hm1, o, tl, kvs', rfl, ha, hdo, hmg⟩ := hJ (Nat.succ_pos _)
    k_steps
    refine hret dT (tl ++ [(dT, o), (dI, oI)]) _ _ o kvs' (by assumption) (by simpa using by assumption) (Above.app (Above.via ha (fun q hq => ?_)) (Above.cons lT (Above.cons (fun q hq => Nat.lt_trans (lT q hq) lI.1) Above.nil))) (List.mem_append_right _ (.head _)) loT hdo ⟨hmg.1, fun j k v' hj => ?_⟩
    · simp only [List.mem_cons, List.mem_append, List.not_mem_nil, or_false] at hq
      rcases hq with (rfl | rfl) | hq
      · exact ⟨_, .head _, rfl⟩
      · exact ⟨_, .tail _ (.head _), rfl⟩
      · exact ⟨_, .tail _ (.tail _ hq), rfl⟩
    · obtain ⟨l2, l3, e2, e3, t2, h1, h2, h3, h4⟩ := hmg.2 j k v' hj
      exact ⟨l2, l3, e2, e3, t2, h1, h2, h3, List.mem_append_left _ h4⟩

end
section
def Stop (P : Prop) : Prop := P
theorem stop_of {P : Prop} (h : Stop P) : P := h
section
variable {prog : Program} {w : World} {A : Around} {s : Shared} {h₀ : Heap} {m : Str → Option Value} {news : List (Addr × Obj)} {L d : Addr} {E Q : Value → Shared → Prop}
theorem listDictY {o : Obj} {kvs : List (Str × Value)} (hh : A.handled = none) (F : Fr h₀ L s.heap m) (N : News h₀ L s.heap news) (hp : (d, o) ∈ news) (hd : o.IsDictOf (strKind prog w) kvs) (lo : (d == sysModules) = false) (hn : kvs.length ≤ 1000)
    (h : ∀ (B : Addr) c h' tk (vs : List Value), Fr h₀ L h' m → News h₀ L h' ((B, listOf vs.toArray c) :: news) → (∀ q ∈ news, q.1 < B) → (vs.length = kvs.length ∧ ∀ (j : Nat) (v : Value), vs[j]? = some v → ∃ k x t, kvs[j]? = some (k, x) ∧ v = Value.str k t) → Q (.ref B) { s with heap := h', toks := tk }) :
    wpAny (model prog w) A (call (.type "list") [.ref d]) Q E s := by
  obtain ⟨ep, hat⟩ := (kda_dict N hp hd).dictAt
  refine kdl_N (kdl_dict (knd := strKind prog w) (kvs := kvs) (ep := ep) lo) hh F N hat (kdl_size (Nat.le_trans hn (by decide))) fun B c h' tk vs F' N' l1 hl hv => ?_
  refine h B c h' tk vs F' N' l1 ⟨hl, fun j u hu => ?_⟩
  obtain ⟨k, x, hx, hk⟩ := hv j u hu
  obtain ⟨t, rfl⟩ := Value.isStrOf_shape hk
  exact ⟨k, x, t, hx, rfl⟩
theorem truthyDictY {Q : Bool → Shared → Prop} {o : Obj} {kvs : List (Str × Value)} (N : News h₀ L s.heap news) (hp : (d, o) ∈ news) (hd : o.IsDictOf (strKind prog w) kvs) (lo : (d == sysModules) = false) (hn : kvs.length ≤ 1000) (hk : 1 ≤ kvs.length) (h : ∀ tk, Q true { s with toks := tk }) :
    wpAny (model prog w) A (truthy (.ref d)) Q E s := by
  refine wpAny_truthy_dict lo (kda_dict N hp hd) (by omega) ?_
  cases kvs with
  | nil => exact absurd hk (by simp)
  | cons x xs => exact h _
end
local macro_rules | `(tactic| walk_at "truthy ref") => `(tactic| (k_here; (with_reducible show wpAny _ _ (truthy (Value.ref _)) _ _ _); k_dflt (refine' truthyDictY ?N ?m ?d ?l ?a ?b ?_; (case N => k_asm); (case m => k_mem); (case d => assumption); (case l => assumption); (case a => omega); (case b => assumption)); intro tk'; (try dsimp only)))
local macro_rules | `(tactic| walk_at "call ref") => `(tactic| (k_here; k_dflt (show wpAny _ _ (call (Value.ref 542) _ _) _ _ _); refine stop_of ?_))
local macro_rules | `(tactic| walk_at "call type:list") => `(tactic| (k_here; (with_reducible show wpAny _ _ (call (Value.type "list") [Value.ref _]) _ _ _); k_dflt (refine listDictY rfl (by k_asm) (by k_asm) (by k_mem) (by assumption) (by assumption) (by omega) ?_); intro B' c' h' tk' vs' F' N' l1' l2'; (try dsimp only)))
def Proc (kvs : List (Str × Value)) (news : List (Addr × Obj)) (i : Nat) (kvs' : List (Str × Value)) (tl : List (Addr × Obj)) : Prop :=
  kvs'.map (·.1) = (kvs.take i).map (·.1) ∧ ∀ (j : Nat) (k : Str) (v' : Value), kvs'[j]? = some (k, v') → ∃ lx D q a b l e t, v' = .ref lx ∧ (lx, listOf #[.ref D] 1) ∈ tl ∧ (D, tupO [.ref q, .ref b, .none]) ∈ tl ∧ (q, methodObj (.ref 654) (.ref a)) ∈ tl ∧ kvs[j]? = some (k, .ref l) ∧ (l, listOf #[.ref t] e) ∈ news ∧ (t, tupO [.ref a, .ref b]) ∈ news
def RowsOk (kvs : List (Str × Value)) (news : List (Addr × Obj)) : Prop :=
  ∀ k v, (k, v) ∈ kvs → (1 ≤ k.length ∧ k.length ≤ 1000 ∧ (Txt.item k 0 != Str.ofString "#") = true) ∧ ∃ l el t a b da hA tA rA bn bq bp bb bs bc bd bdoc bpm bcc bct, v = .ref l ∧ (l, listOf #[.ref t] el) ∈ news ∧ (t, tupO [.ref a, .ref b]) ∈ news ∧ (a, instObj 657 da) ∈ news ∧ (da, dictOf [⟨hA, .str (Str.ofString "rows") tA, .ref rA⟩] 1) ∈ news ∧ (b, kdv_obj bn bq bp (.stmts bb) bs bc bd bdoc bpm bcc bct) ∈ news
theorem Proc.step {kvs kvs' : List (Str × Value)} {news tl tl' : List (Addr × Obj)} {i : Nat} {k : Str} {lx D q a b l t : Addr} {e : Nat} (h : Proc kvs news i kvs' tl) (hk : kvs[i]? = some (k, .ref l)) (h1 : (lx, listOf #[.ref D] 1) ∈ tl') (h2 : (D, tupO [.ref q, .ref b, .none]) ∈ tl') (h3 : (q, methodObj (.ref 654) (.ref a)) ∈ tl')
    (h4 : (l, listOf #[.ref t] e) ∈ news) (h5 : (t, tupO [.ref a, .ref b]) ∈ news) (hs : ∀ p ∈ tl, p ∈ tl') (hkey : k ∉ kvs'.map (·.1)) : Proc kvs news (i + 1) (stored kvs' k (.ref lx)) tl' := by
  have hst : stored kvs' k (.ref lx) = kvs' ++ [(k, .ref lx)] := by
    unfold stored
    rw [if_neg]
    intro hx
    obtain ⟨x, hx1, hx2⟩ := List.any_eq_true.mp hx
    exact hkey (List.mem_map.mpr ⟨x, hx1, by simpa using hx2⟩)
  have hlen : kvs'.length = i := by
    have := congrArg List.length h.1
    simp only [List.length_map, List.length_take] at this
    have := (List.getElem?_eq_some_iff.mp hk).1
    omega
  rw [hst]
  refine ⟨by rw [List.map_append, h.1, take_succ_get hk, List.map_append]; rfl, fun j k2 v' hj => ?_⟩
  rcases Nat.lt_trichotomy j kvs'.length with hlt | rfl | hgt
  · rw [List.getElem?_append_left hlt] at hj
    obtain ⟨lx2, D2, q2, a2, b2, l2, e2, t2, x1, x2, x3, x4, x5, x6, x7⟩ := h.2 j k2 v' hj
    exact ⟨lx2, D2, q2, a2, b2, l2, e2, t2, x1, hs _ x2, hs _ x3, hs _ x4, x5, x6, x7⟩
  · rw [List.getElem?_append_right (Nat.le_refl _), Nat.sub_self] at hj
    cases hj
    rw [hlen]
    exact ⟨lx, D, q, a, b, l, e, t, rfl, h1, h2, h3, hk, h4, h5⟩
  · rw [List.getElem?_eq_none (by rw [List.length_append, List.length_singleton]; omega)] at hj
    cases hj
theorem valueAt_get {kvs : List (Str × Value)} {k : Str} {v : Value} {i : Nat} (hn : (kvs.map (·.1)).Nodup) (h : kvs[i]? = some (k, v)) : valueAt kvs k = some v := by
  unfold valueAt
  induction kvs generalizing i with
  | nil => simp at h
  | cons x xs ih =>
    simp only [List.map_cons, List.nodup_cons] at hn
    cases i with
    | zero =>
      simp only [List.getElem?_cons_zero, Option.some.injEq] at h
      subst h
      simp
    | succ i =>
      simp only [List.getElem?_cons_succ] at h
      have hk : x.1 ≠ k := fun e => hn.1 (e ▸ List.mem_map.mpr ⟨_, List.mem_of_getElem? h, rfl⟩)
      rw [List.find?_cons_of_neg (by simpa using hk)]
      exact ih hn.2 h
theorem c_ptd {w : World} {p : Program} {loose : List Str} {mean : ExcName → Option Value} {mg mb : Str → Option Value} {h₀ : Heap} {L : Addr} {m : Str → Option Value} {s : Shared} {Q E : Value → Shared → Prop} {news : List (Addr × Obj)}
  {self d at' td : Addr} {tk : Nat} {od oat0 : Obj} {kvs : List (Str × Value)} {h1 h2 h3 h4 h5 h6 h7 h8 : Int} {t1 t2 t3 t4 t5 t6 t7 t8 : Tok} {v1 v2 v3 v4 v5 v6 v8 : Value} (F : Fr h₀ L s.heap m) (X : (hd.heap_39 w.params).In h₀) (N : News h₀ L s.heap news) (T : Top p loose mean mg mb h₀)
  (N1 : News h₀ L s.heap ((at', oat0) :: news)) (hat : oat0.IsDictOf (strKind PySem.Challenge.rw_ez0274_01.prog w) ([] : List (Str × Value))) (hna : ∀ p ∈ news, p.1 ≠ at') (hds' : (at' == sysModules) = false)
  (m1 : (td, od) ∈ news) (hd : od.IsDictOf (strKind PySem.Challenge.rw_ez0274_01.prog w) kvs) (hds : (td == sysModules) = false)
  (m2 : (self, instObj 678 d) ∈ news)
  (m5 : (d, dictOf [⟨h1, .str (Str.ofString "options") t1, v1⟩, ⟨h2, .str (Str.ofString "stripnl") t2, v2⟩, ⟨h3, .str (Str.ofString "stripall") t3, v3⟩, ⟨h4, .str (Str.ofString "ensurenl") t4, v4⟩, ⟨h5, .str (Str.ofString "filters") t5, v5⟩, ⟨h6, .str (Str.ofString "tables") t6, v6⟩, ⟨h7, .str (Str.ofString "_all_tokens") t7, .ref at'⟩, ⟨h8, .str (Str.ofString "_tmpname") t8, v8⟩] 8) ∈ news)
  (hrows : RowsOk kvs news) (hl : kvs.length ≤ 100) (hk0 : 1 ≤ kvs.length)
  (hret : ∀ r h' tk' o2 oat tl kvs', Fr h₀ L h' m → News h₀ L h' (tl ++ (at', oat) :: news) → Above tl ((at', oat) :: news) → (r, o2) ∈ tl → (r == sysModules) = false → o2.IsDictOf (strKind PySem.Challenge.rw_ez0274_01.prog w) kvs' → Proc kvs news kvs.length kvs' tl → Q (.ref r) { s with heap := h', toks := tk' }) :
  wpAny (model PySem.Challenge.rw_ez0274_01.prog w) (AM 800 800) (call (.ref 550) [.ref self, .str (Str.ofString "") tk, .ref td] []) Q E s := by
  clear N
  (revert X; k_fill; intro X; refine wpAny_call ?_; k_dflt k_enter; k_steps)
  rename_i g' L' _ FG' X' T' lat lnews pd _ opd lo' hs' fs' hi' fi' lpd _ _ oat hd' _ _ F0 N0 B c0 _ _ vs FF NN lB hvs
  have hnd : (kvs.map (·.1)).Nodup := by obtain ⟨es, ep, _, _, _, _, hn⟩ := hd; exact hn
  have hB1 : pd < B := lB (pd, opd) (.head _)
  have hB2 : at' < B := lB (at', oat) (.tail _ (.head _))
  have hB3 : ∀ p ∈ news, p.1 < B := fun p hp => lB p (.tail _ (.tail _ hp))
  have hP1 : at' < pd := lpd.1
  have hP2 : ∀ p ∈ news, p.1 < pd := allLt_all lpd.2
  have NN2 := News.sub (l' := (pd, opd) :: (B, W.listOf vs.toArray c0) :: (at', oat) :: news) NN (fun p hp => by simp only [List.mem_cons] at hp ⊢; rcases hp with hp | hp | hp | hp <;> simp only [hp, true_or, or_true])
  refine loop_listR FF NN2 (by k_mem) rfl rfl rfl (fun i m₁ rest => (m₁ (Str.ofString "cls") = some (.ref self) ∧ m₁ (Str.ofString "tokendefs") = some (.ref td) ∧ m₁ (Str.ofString "processed") = some (.ref pd)) ∧ ∃ o tl kvs', rest = tl ++ (pd, o) :: (B, W.listOf vs.toArray c0) :: (at', oat) :: news ∧ Above tl ((pd, opd) :: (B, opd) :: (at', oat) :: news) ∧ o.IsDictOf (strKind PySem.Challenge.rw_ez0274_01.prog w) kvs' ∧ Proc kvs news i kvs' tl)
    ⟨⟨rfl, rfl, rfl⟩, opd, [], [], rfl, Above.nil, hs', rfl, fun j k v' hj => by simp at hj⟩ (fun i m₁ rest hJ => by obtain ⟨_, o, tl, kvs', rfl, _⟩ := hJ; exact List.mem_append_right _ (.tail _ (.head _))) ?_ ?_
  · rintro I0 i v o₁ m₁ rest h tk hv ⟨⟨hm1, hm2, hm3⟩, o, tl, kvs', rfl, ha, hdo, hmg⟩ F₆ N₆ hne6 hI6
    obtain ⟨k, x, tkk, hkv, rfl⟩ := hvs.2 i v hv
    obtain ⟨⟨hk1, hk2, hk3⟩, l, el, t, a, b, da, hA, tA, rA, bn, bq, bp, bb, bs, bc, bd, bdoc, bpm, bcc, bct, rfl, r1, r2, r3, r4, r5⟩ := hrows _ _ (List.mem_of_getElem? hkv)
    have hkeyn : k ∉ kvs'.map (·.1) := by
      rw [hmg.1, List.map_take]
      exact not_mem_take hnd (by rw [List.getElem?_map, hkv]; rfl)
    have hnone : valueAt kvs' k = none := valueAt_none hkeyn
    have hl' : kvs'.length ≤ 1000 := by have := congrArg List.length hmg.1; simp only [List.length_map, List.length_take] at this; omega
    k_steps
    unfold Stop
    rename Fr _ _ _ _ => F7
    rename News _ _ _ _ => N7
    have up : ∀ p ∈ news, p ∈ (I0, o₁) :: (tl ++ (B, W.listOf vs.toArray c0) :: (at', oat) :: news) := fun p hp => .tail _ (List.mem_append_right _ (.tail _ (.tail _ hp)))
    have ltl : ∀ p ∈ tl, p.1 ≠ pd := fun p hp => Nat.ne_of_gt (ha p hp (pd, opd) (.head _))
    have hIpd : I0 ≠ pd := (hne6 (pd, o) (List.mem_append_right _ (.head _))).symm
    refine wpAny_lift ⟨rfl, Nat.le_of_ble_eq_true rfl, Nat.le_of_ble_eq_true rfl⟩ (c_pstate (oA := o) (oB := o) (news := (I0, o₁) :: (tl ++ (B, W.listOf vs.toArray c0) :: (at', oat) :: news)) F7 X' (News.sub N7 (fun p hp => ?_)) T' (up _ m1) hd hds (up _ m2) (up _ m5) (News.sub (l' := (pd, o) :: (I0, o₁) :: (tl ++ (B, W.listOf vs.toArray c0) :: (at', oat) :: news)) N7 (fun p hp => ?_)) hdo lo' (fun p hp => ?_) hl hl' (valueAt_get hnd hkv) hnone (up _ r1) (up _ r2) (up _ r3) (up _ r4) (up _ r5) hk1 hk2 hk3 (by rw [hnone]; rfl) ?_)
    · simp only [List.mem_cons, List.mem_append] at hp ⊢
      rcases hp with hp | hp | hp | hp | hp <;> simp only [hp, true_or, or_true]
    · simp only [List.mem_cons, List.mem_append] at hp ⊢
      rcases hp with hp | hp | hp | hp | hp | hp <;> simp only [hp, true_or, or_true]
    · simp only [List.mem_cons, List.mem_append] at hp
      rcases hp with rfl | hp | rfl | rfl | hp
      · exact hIpd
      · exact ltl p hp
      · exact Nat.ne_of_gt hB1
      · exact Nat.ne_of_lt hP1
      · exact Nat.ne_of_lt (hP2 p hp)
    intro lx D q o2 h9 tk9 F9 N9 hd9 hlx hq hD
    have hq1 : lx < q := hq _ (.head _)
    have hq2 : ∀ p ∈ (pd, o2) :: (I0, o₁) :: (tl ++ (B, W.listOf vs.toArray c0) :: (at', oat) :: news), p.1 < q := fun p hp => hq p (.tail _ hp)
    have hlx2 := allLt_all hlx.2
    k_steps
    have g1 : I0 < lx := hlx2 _ (.head _)
    have g2 : B < lx := hlx2 (B, W.listOf vs.toArray c0) (.tail _ (List.mem_append_right _ (.head _)))
    have g3 : at' < lx := hlx2 (at', oat) (.tail _ (List.mem_append_right _ (.tail _ (.head _))))
    have g4 : ∀ p ∈ news, p.1 < lx := fun p hp => hlx2 p (up p hp)
    have hb : ∀ p ∈ (pd, opd) :: (B, opd) :: (at', oat) :: news, p.1 < lx := fun p hp => by
      simp only [List.mem_cons] at hp
      rcases hp with rfl | rfl | rfl | hp
      · exact hlx.1
      · exact g2
      · exact g3
      · exact g4 p hp
    refine NxtR.intro (m₂ := _) (((D, tupO [.ref q, .ref b, .none]) :: (q, methodObj (.ref 654) (.ref a)) :: (lx, W.listOf #[.ref D] 1) :: tl) ++ (pd, o2) :: (B, W.listOf vs.toArray c0) :: (at', oat) :: news) F9 N9 (fun p hp => ?_) (fun p hp => ?_) ⟨⟨hm1, hm2, hm3⟩, o2, _, _, rfl, ?_, hd9, ?_⟩
    · simp only [List.mem_cons, List.mem_append, List.cons_append] at hp ⊢
      rcases hp with hp | hp | hp | hp | hp | hp | hp | hp | hp <;> simp only [hp, true_or, or_true]
    · simp only [List.mem_cons, List.mem_append, List.cons_append] at hp
      rcases hp with rfl | rfl | rfl | hp | rfl | rfl | rfl | hp
      · exact Nat.ne_of_gt (Nat.lt_trans g1 (Nat.lt_trans hq1 hD))
      · exact Nat.ne_of_gt (Nat.lt_trans g1 hq1)
      · exact Nat.ne_of_gt g1
      · exact hne6 p (List.mem_append_left _ hp)
      · exact hIpd.symm
      · exact hne6 (B, W.listOf vs.toArray c0) (List.mem_append_right _ (.tail _ (.head _)))
      · exact hne6 (at', oat) (List.mem_append_right _ (.tail _ (.tail _ (.head _))))
      · exact hne6 p (List.mem_append_right _ (.tail _ (.tail _ (.tail _ hp))))
    · exact Above.cons (fun p hp => Nat.lt_trans (hb p hp) (Nat.lt_trans hq1 hD)) (Above.cons (fun p hp => Nat.lt_trans (hb p hp) hq1) (Above.cons hb ha))
    · exact Proc.step hmg hkv (.tail _ (.tail _ (.head _))) (.head _) (.tail _ (.head _)) r1 r2 (fun p hp => .tail _ (.tail _ (.tail _ hp))) hkeyn
  · rintro m₁ rest h tk ⟨⟨hm1, hm2, hm3⟩, o, tl, kvs', rfl, ha, hdo, hmg⟩ F₆ N₆
    k_steps
    refine hret pd _ _ o oat (tl ++ [(pd, o), (B, W.listOf vs.toArray c0)]) kvs' (by assumption) (by simpa using by assumption) (Above.app (Above.via ha (fun q hq => ?_)) (Above.cons (fun q hq => ?_) (Above.cons (fun q hq => ?_) Above.nil))) (List.mem_append_right _ (.head _)) lo' hdo ⟨by rw [hmg.1, List.take_of_length_le (Nat.le_of_eq hvs.1.symm), List.take_length], fun j k v' hj => ?_⟩
    · simp only [List.mem_cons, List.mem_append, List.not_mem_nil, or_false, List.cons_append, List.nil_append] at hq
      rcases hq with rfl | rfl | rfl | hq
      · exact ⟨_, .head _, rfl⟩
      · exact ⟨_, .tail _ (.head _), rfl⟩
      · exact ⟨_, .tail _ (.tail _ (.head _)), rfl⟩
      · exact ⟨_, .tail _ (.tail _ (.tail _ hq)), rfl⟩
    · rcases List.mem_cons.mp hq with rfl | hq
      · exact hP1
      · exact hP2 q hq
    · rcases List.mem_cons.mp hq with rfl | hq
      · exact hB2
      · exact hB3 q hq
    · obtain ⟨lx2, D2, q2, a2, b2, l2, e2, t2, x1, x2, x3, x4, x5, x6, x7⟩ := hmg.2 j k v' hj
      exact ⟨lx2, D2, q2, a2, b2, l2, e2, t2, x1, List.mem_append_left _ x2, List.mem_append_left _ x3, List.mem_append_left _ x4, x5, x6, x7⟩

end
section
theorem c_linit {w : World} {p : Program} {loose : List Str} {mean : ExcName → Option Value} {mg mb : Str → Option Value} {h₀ : Heap} {L : Addr} {m : Str → Option Value} {s : Shared} {Q E : Value → Shared → Prop} {news : List (Addr × Obj)}
  {self d : Addr} (F : Fr h₀ L s.heap m) (X : (hd.heap_39 w.params).In h₀) (N : News h₀ L s.heap news) (T : Top p loose mean mg mb h₀)
  (N1 : News h₀ L s.heap ((self, instObj 678 d) :: (d, dictOf [] 0) :: news)) (hne : ∀ p ∈ news, p.1 ≠ d) (hsd : ltA d self)
  (hret : ∀ tl h' tk' h1 h2 h3 h4 h5 t1 t2 t3 t4 t5 v1 v2 v3 v4 v5, Fr h₀ L h' m →
    News h₀ L h' (tl ++ (self, instObj 678 d) :: (d, dictOf [⟨h1, .str (Str.ofString "options") t1, v1⟩, ⟨h2, .str (Str.ofString "stripnl") t2, v2⟩, ⟨h3, .str (Str.ofString "stripall") t3, v3⟩, ⟨h4, .str (Str.ofString "ensurenl") t4, v4⟩, ⟨h5, .str (Str.ofString "filters") t5, v5⟩] 5) :: news) →
    Above tl ((self, instObj 678 d) :: (d, dictOf [] 0) :: news) → Q .none { s with heap := h', toks := tk' }) :
  wpAny (model PySem.Challenge.rw_ez0274_01.prog w) (AM 900 1000) (call (.ref 254) [.ref self] []) Q E s := by
  clear N
  (revert X; k_fill; intro X; refine wpAny_call ?_; k_dflt k_enter; k_steps)
  refine loop_tupleM (by k_asm) (by k_asm) (.head _) (vs := []) rfl rfl rfl (fun i m₁ tl => i = 0 ∧ tl = []) ⟨rfl, rfl⟩ ?_ ?_
  · rintro I i v o₁ m₁ tl h tk hv - - - - -
    simp at hv
  · rintro m₁ tl h tk ⟨-, rfl⟩ F₁ N₁ ha
    k_steps
    exact hret [_, _, _] _ _ _ _ _ _ _ _ _ _ _ _ _ _ _ _ _ (by assumption) (by assumption) (by walk_at "my above")

end
section
local macro_rules | `(tactic| walk_at "call ref") => `(tactic| (k_here; k_dflt (show wpAny _ _ (call (Value.ref 254) _ _) _ _ _); refine stop_of ?_))
local macro_rules | `(tactic| walk_at "call ref") => `(tactic| (k_here; k_dflt (show wpAny _ _ (call (Value.ref 507) _ _) _ _ _); refine stop_of ?_))
local macro_rules | `(tactic| walk_at "call ref") => `(tactic| (k_here; k_dflt (show wpAny _ _ (call (Value.ref 550) _ _) _ _ _); refine stop_of ?_))
def LexOf (news : List (Addr × Obj)) (self td : Addr) : Prop :=
  ∃ d h1 h2 h3 h4 h5 h6 h7 h8 h9 t1 t2 t3 t4 t5 t6 t7 t8 t9 v1 v2 v3 v4 v5 v6 v7 v8, (self, instObj 678 d) ∈ news ∧
    (d, dictOf [⟨h1, .str (Str.ofString "options") t1, v1⟩, ⟨h2, .str (Str.ofString "stripnl") t2, v2⟩, ⟨h3, .str (Str.ofString "stripall") t3, v3⟩, ⟨h4, .str (Str.ofString "ensurenl") t4, v4⟩, ⟨h5, .str (Str.ofString "filters") t5, v5⟩, ⟨h6, .str (Str.ofString "tables") t6, v6⟩, ⟨h7, .str (Str.ofString "_all_tokens") t7, v7⟩, ⟨h8, .str (Str.ofString "_tmpname") t8, v8⟩, ⟨h9, .str (Str.ofString "_tokens") t9, .ref td⟩] 9) ∈ news
theorem newsSame {h₀ h : Heap} {L a : Addr} {o o' : Obj} {news : List (Addr × Obj)} (N : News h₀ L h news) (h1 : (a, o) ∈ news) (h2 : (a, o') ∈ news) : o = o' := Option.some.inj ((N _ h1).1.symm.trans (N _ h2).1)
theorem listOf_inj {t t' : Addr} {e e' : Nat} (h : W.listOf #[.ref t] e = W.listOf #[.ref t'] e') : t = t' := by
  have := congrArg Obj.data h
  simp only [W.listOf, Data.seq.injEq] at this
  simpa using this.1
theorem tupO_inj {a b a' b' : Addr} (h : tupO [.ref a, .ref b] = tupO [.ref a', .ref b']) : a = a' ∧ b = b' := by
  have := congrArg Obj.data h
  simp only [tupO, Data.seq.injEq] at this
  simpa using this.1
theorem rows_merged {h₀ h : Heap} {L : Addr} {kvs kvs' : List (Str × Value)} {news led tl : List (Addr × Obj)} (N : News h₀ L h led) (hup : ∀ p ∈ news, p ∈ led) (hr : RowsOk kvs news) (hm : Merged kvs led kvs.length kvs' tl) {full : List (Addr × Obj)} (h1 : ∀ p ∈ tl, p ∈ full) (h2 : ∀ p ∈ news, p ∈ full) : RowsOk kvs' full := by
  intro k v hkv
  obtain ⟨j, hj⟩ := List.mem_iff_getElem?.mp hkv
  obtain ⟨l, l', e, e', t, g1, rfl, g2, g3⟩ := hm.2 j k v hj
  obtain ⟨hk, l2, el, t2, a, b, da, hA, tA, rA, bn, bq, bp, bb, bs, bc, bd, bdoc, bpm, bcc, bct, e1, r1, r2, r3, r4, r5⟩ := hr _ _ (List.mem_of_getElem? g1)
  cases e1
  obtain rfl := listOf_inj (newsSame N g2 (hup _ r1))
  exact ⟨hk, l', e', t, a, b, da, hA, tA, rA, bn, bq, bp, bb, bs, bc, bd, bdoc, bpm, bcc, bct, rfl, h1 _ g3, h2 _ r2, h2 _ r3, h2 _ r4, h2 _ r5⟩
def Stated (kvs : List (Str × Value)) (news : List (Addr × Obj)) (kvs' : List (Str × Value)) (full : List (Addr × Obj)) : Prop :=
  kvs'.map (·.1) = kvs.map (·.1) ∧ ∀ (j : Nat) (k : Str) (v' : Value), kvs'[j]? = some (k, v') → ∃ lx D q a b l e t, v' = .ref lx ∧ (lx, listOf #[.ref D] 1) ∈ full ∧ (D, tupO [.ref q, .ref b, .none]) ∈ full ∧ (q, methodObj (.ref 654) (.ref a)) ∈ full ∧ kvs[j]? = some (k, .ref l) ∧ (l, listOf #[.ref t] e) ∈ news ∧ (t, tupO [.ref a, .ref b]) ∈ news
theorem stated_of {h₀ h h5 g5 : Heap} {L L5 : Addr} {kvs kvs' kvs7 : List (Str × Value)} {news led tl led6 tl7 full : List (Addr × Obj)} (N : News g5 L5 h5 led) (N6 : News h₀ L h led6) (hup : ∀ p ∈ news, p ∈ led) (hup6 : ∀ p ∈ news, p ∈ led6) (htl : ∀ p ∈ tl, p ∈ led6) (hr : RowsOk kvs news) (hm : Merged kvs led kvs.length kvs' tl)
    (hp : Proc kvs' led6 kvs'.length kvs7 tl7) (h7 : ∀ p ∈ tl7, p ∈ full) : Stated kvs news kvs7 full := by
  refine ⟨by rw [hp.1, List.take_length, hm.1, List.take_length], fun j k v' hj => ?_⟩
  obtain ⟨lx, D, q, a, b, l', e', t, rfl, x2, x3, x4, x5, x6, x7⟩ := hp.2 j k v' hj
  obtain ⟨l, l2, e, e2, t2, g1, g2, g3, g4⟩ := hm.2 j k _ x5
  cases g2
  obtain ⟨_, l3, el, t3, a3, b3, da, hA, tA, rA, bn, bq, bp, bb, bs, bc, bd, bdoc, bpm, bcc, bct, e1, r1, r2, r3, r4, r5⟩ := hr _ _ (List.mem_of_getElem? g1)
  cases e1
  obtain rfl := listOf_inj (newsSame N g3 (hup _ r1))
  obtain rfl := listOf_inj (newsSame N6 x6 (htl _ g4))
  obtain ⟨rfl, rfl⟩ := tupO_inj (newsSame N6 x7 (hup6 _ r2))
  exact ⟨lx, D, q, a, b, l, el, t, rfl, h7 _ x2, h7 _ x3, h7 _ x4, g1, r1, r2⟩
theorem reorder3 {h₀ h : Heap} {L : Addr} {a b c : Addr × Obj} {tl rest : List (Addr × Obj)} (N : News h₀ L h (tl ++ a :: b :: c :: rest)) : News h₀ L h (a :: (tl ++ b :: c :: rest)) := News.sub N fun p hp => by
  simp only [List.mem_cons, List.mem_append] at hp ⊢
  rcases hp with hp | hp | hp | hp | hp <;> simp only [hp, true_or, or_true]
theorem reorder8 {h₀ h : Heap} {L : Addr} {a b c : Addr × Obj} {tl tl' rest : List (Addr × Obj)} (N : News h₀ L h (tl' ++ a :: (tl ++ b :: c :: rest))) : News h₀ L h (b :: (tl' ++ a :: (tl ++ c :: rest))) := News.sub N fun p hp => by
  simp only [List.mem_cons, List.mem_append] at hp ⊢
  rcases hp with hp | hp | hp | hp | hp | hp <;> simp only [hp, true_or, or_true]
theorem Stated.mono {kvs kvs' : List (Str × Value)} {news full full' : List (Addr × Obj)} (h : Stated kvs news kvs' full) (hs : ∀ p ∈ full, p ∈ full') : Stated kvs news kvs' full' :=
  ⟨h.1, fun j k v' hj => by
    obtain ⟨lx, D, q, a, b, l, e, t, x1, x2, x3, x4, x5, x6, x7⟩ := h.2 j k v' hj
    exact ⟨lx, D, q, a, b, l, e, t, x1, hs _ x2, hs _ x3, hs _ x4, x5, x6, x7⟩⟩
theorem c_rinit {w : World} {p : Program} {loose : List Str} {mean : ExcName → Option Value} {mg mb : Str → Option Value} {h₀ : Heap} {L : Addr} {m : Str → Option Value} {s : Shared} {Q E : Value → Shared → Prop} {news : List (Addr × Obj)}
  {self d td : Addr} {od : Obj} {kvs : List (Str × Value)} (F : Fr h₀ L s.heap m) (X : (hd.heap_39 w.params).In h₀) (N : News h₀ L s.heap news) (T : Top p loose mean mg mb h₀)
  (N1 : News h₀ L s.heap ((self, instObj 678 d) :: (d, dictOf [] 0) :: news)) (hne : ∀ p ∈ news, p.1 < d) (hsd : ltA d self)
  (m1 : (td, od) ∈ news) (hd : od.IsDictOf (strKind PySem.Challenge.rw_ez0274_01.prog w) kvs) (hds : (td == sysModules) = false)
  (hrows : RowsOk kvs news) (hl : kvs.length ≤ 100) (hk0 : 1 ≤ kvs.length)
  (hret : ∀ r full h' tk' o2 kvs', Fr h₀ L h' m → News h₀ L h' full → (∀ p ∈ news, p ∈ full) → LexOf full self r → (r, o2) ∈ full → (r == sysModules) = false → o2.IsDictOf (strKind PySem.Challenge.rw_ez0274_01.prog w) kvs' →
    Stated kvs news kvs' full → Q .none { s with heap := h', toks := tk' }) :
  codeAny (model PySem.Challenge.rw_ez0274_01.prog w) (AM 750 700) (.call (.ref 577) ⟨[.ref self, .ref td], []⟩) (fun r s' => match r with | .ok (.ret v) => Q v s' | .ok _ => False | .error e => E e s') s := by
  clear N
  revert X; k_fill; intro X
  k_dflt k_enter
  k_steps
  rename_i C1 D1 o1 g' L' _ _ _ _ _ FG' F1 N1' X' T' l2 a1 a2 a3 a4 a5 b1 b2 b3 d2 o2 h2 FF NN lc
  unfold Stop
  clear F1 N1'
  refine wpAny_lift ⟨rfl, Nat.le_of_ble_eq_true rfl, Nat.le_of_ble_eq_true rfl⟩ (c_linit (news := (d2, o2) :: (D1, o1) :: (C1, tupO [.ref td]) :: news) FF X' (News.sub NN (fun p hp => ?_)) T' (News.sub NN (fun p hp => ?_)) (fun p hp => ?_) hsd ?_)
  · simp only [List.mem_cons] at hp ⊢
    rcases hp with hp | hp | hp | hp <;> simp only [hp, tupO, true_or, or_true]
  · simp only [List.mem_cons] at hp ⊢
    rcases hp with hp | hp | hp | hp | hp | hp <;> simp only [hp, tupO, true_or, or_true]
  · simp only [List.mem_cons] at hp
    rcases hp with rfl | rfl | rfl | hp
    · exact Nat.ne_of_gt lc.2.2.2.1
    · exact Nat.ne_of_gt (Nat.lt_trans b2 l2)
    · exact Nat.ne_of_gt b2
    · exact Nat.ne_of_lt (hne p hp)
  intro tl h3 tk3 u1 u2 u3 u4 u5 w1 w2 w3 w4 w5 x1 x2 x3 x4 x5 F3 N3 A3
  obtain ⟨rest, N4, hR, hup, hC⟩ : ∃ rest, News g' L' h3 ((d, dictOf [⟨u1, .str (Str.ofString "options") w1, x1⟩, ⟨u2, .str (Str.ofString "stripnl") w2, x2⟩, ⟨u3, .str (Str.ofString "stripall") w3, x3⟩, ⟨u4, .str (Str.ofString "ensurenl") w4, x4⟩, ⟨u5, .str (Str.ofString "filters") w5, x5⟩] 5) :: (self, instObj 678 d) :: rest) ∧ (∀ p ∈ rest, p.1 ≠ d) ∧ (∀ p ∈ news, p ∈ rest) ∧ (C1, tupO [.ref td]) ∈ rest := by
    refine ⟨tl ++ (d2, o2) :: (D1, o1) :: (C1, tupO [.ref td]) :: news, News.sub N3 (fun p hp => ?_), fun p hp => ?_, fun p hp => List.mem_append_right _ (.tail _ (.tail _ (.tail _ hp))), List.mem_append_right _ (.tail _ (.tail _ (.head _)))⟩
    · simp only [List.mem_cons, List.mem_append] at hp ⊢
      rcases hp with hp | hp | hp | hp | hp | hp | hp <;> simp only [hp, true_or, or_true]
    · simp only [List.mem_cons, List.mem_append] at hp
      rcases hp with hp | rfl | rfl | rfl | hp
      · exact Nat.ne_of_gt (A3 p hp (d, dictOf [] 0) (.tail _ (.head _)))
      · exact Nat.ne_of_gt lc.2.2.2.1
      · exact Nat.ne_of_gt (Nat.lt_trans b2 l2)
      · exact Nat.ne_of_gt b2
      · exact Nat.ne_of_lt (hne p hp)
  clear N3 A3 NN FF
  have hsd' : self ≠ d := Nat.ne_of_gt hsd
  k_steps
  unfold Stop
  rename_i at' _ oat loA hsA fsA hiA fiA _ _ F4' N4' g5 L5 h5 FG5 F5 N5 X5 T5 z1 z2 z3 z4 z5 z6 z7 _ _ _ _ _
  have up5 : ∀ x y p, p ∈ rest → p ∈ (at', oat) :: x :: y :: rest := fun _ _ p hp => .tail _ (.tail _ (.tail _ hp))
  refine wpAny_lift ⟨rfl, Nat.le_of_ble_eq_true rfl, Nat.le_of_ble_eq_true rfl⟩ (c_merged (tt := C1) (td := td) F5 X5 N5 T5 (up5 _ _ _ (hup _ m1)) hd hds (up5 _ _ _ hC) (fun k v hkv => ?_) hl ?_)
  · obtain ⟨hk, l, el, t, a, b, da, hA, tA, rA, bn, bq, bp, bb, bs, bc, bd, bdoc, bpm, bcc, bct, e1, r1, r2, r3, r4, r5⟩ := hrows k v hkv
    exact ⟨l, el, t, a, b, e1, up5 _ _ _ (hup _ r1), up5 _ _ _ (hup _ r2)⟩
  intro r tl5 h6 tk6 om kvs' F6 N6 A6 hr6 hrs6 hom6 hmg6
  have hl6 : kvs'.length = kvs.length := by
    have := congrArg List.length hmg6.1
    simpa [List.length_map, List.length_take] using this
  k_steps
  unfold Stop
  rename News _ _ _ _ => NN6
  rename Fr _ _ _ _ => FF6
  rename Top _ _ _ _ _ _ => TT6
  have N6b := reorder3 NN6
  refine wpAny_lift ⟨rfl, Nat.le_of_ble_eq_true rfl, Nat.le_of_ble_eq_true rfl⟩ (c_ptd (self := self) (d := d) (td := r) (oat0 := oat) FF6 (by k_asm) (News.sub N6b fun p hp => .tail _ hp) TT6 N6b hsA (fun p hp => ?_) loA (List.mem_append_left _ hr6) hom6 hrs6 (List.mem_append_right _ (.tail _ (.head _))) (List.mem_append_right _ (.head _))
    (rows_merged N5 (fun p hp => up5 _ _ _ (hup p hp)) hrows hmg6 (fun p hp => List.mem_append_left _ hp) (fun p hp => List.mem_append_right _ (.tail _ (.tail _ (hup p hp))))) (by omega) (by omega) ?_)
  · rcases List.mem_append.mp hp with hp | hp
    · exact Nat.ne_of_gt (A6 p hp (at', oat) (.head _))
    · rcases List.mem_cons.mp hp with rfl | hp
      · exact Nat.ne_of_lt z5
      · rcases List.mem_cons.mp hp with rfl | hp
        · exact Nat.ne_of_lt z6
        · exact Nat.ne_of_lt (allLt_all z7 p hp)
  intro r7 h7 tk7 o7 oat7 tl7 kvs7 F7 N7 A7 hr7 hrs7 ho7 hpr7
  have N8 := reorder8 N7
  have hd8 : ∀ p ∈ tl7 ++ (at', oat7) :: (tl5 ++ (self, instObj 678 d) :: rest), p.1 ≠ d := fun p hp => by
    simp only [List.mem_append, List.mem_cons] at hp
    rcases hp with hp | rfl | hp | rfl | hp
    · exact Nat.ne_of_gt (A7 p hp (d, _) (.tail _ (List.mem_append_right _ (.head _))))
    · exact Nat.ne_of_gt z5
    · exact Nat.ne_of_gt (A6 p hp (d, _) (.tail _ (.head _)))
    · exact hsd'
    · exact hR p hp
  have hst : Stated kvs news kvs7 (tl7 ++ (at', oat7) :: (tl5 ++ (self, instObj 678 d) :: rest)) :=
    stated_of N5 (News.sub N6b fun p hp => .tail _ hp) (fun p hp => up5 _ _ _ (hup p hp)) (fun p hp => List.mem_append_right _ (.tail _ (.tail _ (hup p hp)))) (fun p hp => List.mem_append_left _ hp) hrows hmg6 hpr7 (fun p hp => List.mem_append_left _ hp)
  have hnews : ∀ p ∈ news, p ∈ tl7 ++ (at', oat7) :: (tl5 ++ (self, instObj 678 d) :: rest) := fun p hp => List.mem_append_right _ (.tail _ (List.mem_append_right _ (.tail _ (hup p hp))))
  have hself : (self, instObj 678 d) ∈ tl7 ++ (at', oat7) :: (tl5 ++ (self, instObj 678 d) :: rest) := List.mem_append_right _ (.tail _ (List.mem_append_right _ (.head _)))
  have hr8 : (r7, o7) ∈ tl7 ++ (at', oat7) :: (tl5 ++ (self, instObj 678 d) :: rest) := List.mem_append_left _ hr7
  generalize tl7 ++ (at', oat7) :: (tl5 ++ (self, instObj 678 d) :: rest) = full8 at N8 hd8 hst hnews hself hr8
  clear N7 A7 N6 A6 NN6 N6b N5 F5 FF6 F6
  k_steps
  exact hret r7 _ _ _ o7 kvs7 (by assumption) (by assumption) (fun p hp => .tail _ (hnews p hp)) ⟨d, _, _, _, _, _, _, _, _, _, _, _, _, _, _, _, _, _, _, _, _, _, _, _, _, _, _, .tail _ hself, .head _⟩ (.tail _ hr8) hrs7 ho7 (hst.mono fun p hp => .tail _ hp)

end
section
theorem codeAny_lift {M : Model} {A : Around} {d u : Nat} {c : Code} {R : Result → Shared → Prop} {s : Shared} (f : Fits A d u) (h : codeAny M (AM d u) c R s) : codeAny M A c R s :=
  fun Γ p hc g => h Γ p hc ⟨g.1.trans f.handled, Nat.le_trans g.2.1 f.depth, (fun _ e => nomatch e), (fun _ e => nomatch e), Nat.le_trans g.2.2.2.2 f.units⟩
theorem c_plexer {w : World} {p : Program} {loose : List Str} {mean : ExcName → Option Value} {mg mb : Str → Option Value} {h₀ : Heap} {L : Addr} {m : Str → Option Value} {s : Shared} {Q E : Value → Shared → Prop} {news : List (Addr × Obj)}
  {td : Addr} {od : Obj} {kvs : List (Str × Value)} (F : Fr h₀ L s.heap m) (X : (hd.heap_39 w.params).In h₀) (N : News h₀ L s.heap news) (T : Top p loose mean mg mb h₀)
  (m1 : (td, od) ∈ news) (hd : od.IsDictOf (strKind PySem.Challenge.rw_ez0274_01.prog w) kvs) (hds : (td == sysModules) = false)
  (hrows : RowsOk kvs news) (hl : kvs.length ≤ 100) (hk0 : 1 ≤ kvs.length)
  (hret : ∀ self r full h' tk' o2 kvs', Fr h₀ L h' m → News h₀ L h' full → (∀ p ∈ news, p ∈ full) → LexOf full self r → (r, o2) ∈ full → (r == sysModules) = false → o2.IsDictOf (strKind PySem.Challenge.rw_ez0274_01.prog w) kvs' →
    Stated kvs news kvs' full → Q (.ref self) { s with heap := h', toks := tk' }) :
  wpAny (model PySem.Challenge.rw_ez0274_01.prog w) (AM 700 600) (call (.ref 678) [.ref td] []) Q E s := by
  revert X; k_fill; intro X
  refine call_cls (fI := 577) F X N (by k_is) (by k_is) (by k_is) fun x dx h' F' N' hlt hx => ?_
  refine codeAny_mono (codeAny_lift ⟨rfl, Nat.le_of_ble_eq_true rfl, Nat.le_of_ble_eq_true rfl⟩ (c_rinit (Q := fun v s' => v = .none ∧ Q (.ref x) s') (E := E) F' X (News.sub N' fun p hp => .tail _ (.tail _ hp)) T N' hlt hx m1 hd hds hrows hl hk0 fun r full h'' tk' o2 kvs' F2 N2 hup hL hr hrs ho hst => ⟨rfl, hret x r full h'' tk' o2 kvs' F2 N2 hup hL hr hrs ho hst⟩)) fun r s' z => ?_
  match r, z with
  | .error e, z => exact z
  | .ok .next, z => exact z.elim
  | .ok .cont, z => exact z.elim
  | .ok .brk, z => exact z.elim
  | .ok (.ret v), z => exact z

end
section
local macro_rules | `(tactic| k_enter) => `(tactic| (refine' code_genK ?k2 ?k3 ?k4 ?k5 ?k6 ?k7 ?k8 ?k9 ?kB ?_ ?c2 ?c3 ?c4 ?c5; (case k2 => k_asm); (case k3 => k_asm); (case k4 => k_asm); (case k5 => k_asm); (case k6 => k_is); (case k7 => k_is); (case k8 => k_room); (case k9 => first | exact BindsTo.of_eq rfl | exact binds_K (by k_in) rfl (by k_is) rfl rfl rfl | fail "k_enter: no rule for these arguments"); (case c5 => decide); (case kB => exact locs rfl); (case c2 => exact rfl); (case c3 => exact rfl); (case c4 => exact rfl); k_whole; intro L' I' oL' t1' t2' h' tk' F' N' l1 l2' nsL hb1 hb2; (try k_lt l1); (try dsimp only)))
local macro_rules | `(tactic| walk_at "KwThen") => `(tactic| (k_dflt (refine' KwThen.free ?F ?N ?c ?mc ?dc ?k ?x ?b ?cl ?a ?s ?d ?l ?_; (case F => k_asm); (case N => k_asm); (case c => exact rfl); (case mc => k_mem); (case dc => k_asm); (case k => exact rfl); (case x => exact rfl); (case b => decide); (case cl => decide); (case a => k_mem); (case s => assumption); (case d => assumption); (case l => exact Nat.le_refl _)); intro d' o' h' F' N' l1; (try k_lt l1); (k_dflt (refine' ⟨keeps_M ?k _ (methP ?n ?q (Frag.In.keeps ?x (Fr.keep ?fr))), ?_⟩; (case fr => k_asm); (case x => k_asm); (case n => k_asm); (case q => k_mem); (case k => k_is)))))

section
def FnAt (K : Frag) (a : Addr) (name qual : Str) (params : Arguments) (body : List Stmt) (scope : Scope) (cdv : Value) : Prop :=
  ∃ oc od dV kV doc pm an ct osl, K.lookup a = some ⟨oc, od, .func (fnOf name qual params body scope dV kV doc pm an cdv ct), osl⟩
def LexIn (news : List (Addr × Obj)) (self td : Addr) : Prop :=
  ∃ d h1 h2 h3 h4 h5 h6 h7 h8 h9 t1 t2 t3 t4 t5 t6 t7 t8 t9 v1 v2 v3 v4 v5 v6 v7 v8, (self, instObj 678 d) ∈ news ∧
    (d, dictOf [⟨h1, .str (Str.ofString "options") t1, v1⟩, ⟨h2, .str (Str.ofString "stripnl") t2, v2⟩, ⟨h3, .str (Str.ofString "stripall") t3, v3⟩, ⟨h4, .str (Str.ofString "ensurenl") t4, v4⟩, ⟨h5, .str (Str.ofString "filters") t5, v5⟩, ⟨h6, .str (Str.ofString "tables") t6, v6⟩, ⟨h7, .str (Str.ofString "_all_tokens") t7, v7⟩, ⟨h8, .str (Str.ofString "_tmpname") t8, v8⟩, ⟨h9, .str (Str.ofString "_tokens") t9, .ref td⟩] 9) ∈ news
theorem LexIn.mono {news news' : List (Addr × Obj)} {self td : Addr} (h : LexIn news self td) (hs : ∀ p ∈ news, p ∈ news') : LexIn news' self td := by
  obtain ⟨d, h1, h2, h3, h4, h5, h6, h7, h8, h9, t1, t2, t3, t4, t5, t6, t7, t8, t9, v1, v2, v3, v4, v5, v6, v7, v8, a, b⟩ := h
  exact ⟨d, h1, h2, h3, h4, h5, h6, h7, h8, h9, t1, t2, t3, t4, t5, t6, t7, t8, t9, v1, v2, v3, v4, v5, v6, v7, v8, hs _ a, hs _ b⟩
def PseIn (news : List (Addr × Obj)) (mm : Addr) (txt : Str) (st : Int) : Prop :=
  ∃ d h1 h2 t1 t2 k1 k2, (mm, instObj 401 d) ∈ news ∧ (d, dictOf [⟨h1, .str (Str.ofString "_text") t1, .str txt k1⟩, ⟨h2, .str (Str.ofString "_start") t2, .int st k2⟩] 2) ∈ news
theorem u_prep {w : World} {p : Program} {loose : List Str} {mean : ExcName → Option Value} {mg mb : Str → Option Value} {h₀ : Heap} {L : Addr} {m : Str → Option Value} {s : Shared} {Q E : Value → Shared → Prop} {news : List (Addr × Obj)}
  {f c' c self td mm gk stk : Addr} {txt : Str} {st : Int} {oc ogk : Obj} {name : Str} {params : Arguments} {scope : Scope} {e tgt iter : Expr} {s1 s2 st4 : Stmt} {yp ep fp : Pos} (F : Fr h₀ L s.heap m) (X : (hd.heap_39 w.params).In h₀) (N : News h₀ L s.heap news) (T : Top p loose mean mg mb h₀)
  (hDef : DefAt (hd.heap_39 w.params) 435 usPick name params [s1, s2, .For tgt iter [.Expr (.Yield (some e) yp) ep] [] fp, st4] scope)
  (hl : LexIn news self td) (hp : PseIn news mm txt st) (hc : (c, oc) ∈ news) (hcd : oc.data = .cell (some (.ref gk))) (hgk : (gk, ogk) ∈ news) (hdk : ogk.IsDictOf (strKind PySem.Challenge.rw_ez0274_01.prog w) [(Str.ofString "stack", .ref stk)]) (hgs : (gk == sysModules) = false)
  (h1 : m (Str.ofString "lexer") = some (.ref self)) (h2 : m (Str.ofString "match") = some (.ref mm)) (h3 : m (Str.ofString "ctx") = some .none)
  (hret : ∀ L' I oL nmG qlG psG bdG scG cdG t1 t2 tk1 h' tk' m' mG tl, FnAt (hd.heap_39 w.params) 586 nmG qlG psG bdG scG cdG → Fr h₀ L h' m' → News h₀ L h' ((I, genNew s.gens.size nmG qlG t1 t2) :: (L', oL) :: (tl ++ news)) → Above ((I, genNew s.gens.size nmG qlG t1 t2) :: (L', oL) :: tl) news → L' < I →
    NsOf oL mG → mG (Str.ofString "self") = some (.ref self) → (∃ k, mG (Str.ofString "text") = some (.str txt k)) → mG (Str.ofString "stack") = some (.ref stk) → h₀.objs.size ≤ L' →
    m' (Str.ofString "s") = some (.int st tk1) → m' (Str.ofString "ctx") = some .none → Q (.ref I) { s with heap := h', toks := tk', gens := s.gens.push (.fresh (.func bdG (envOf qlG scG L' 586 cdG))) }) :
  wpAny (model PySem.Challenge.rw_ez0274_01.prog w) (AM 850 900) (exec s1 (usEnv scope L f c' c)) (fun f1 s' => f1 = .next ∧ wpAny (model PySem.Challenge.rw_ez0274_01.prog w) (AM 850 900) (exec s2 (usEnv scope L f c' c)) (fun f2 s'' => f2 = .next ∧ wpAny (model PySem.Challenge.rw_ez0274_01.prog w) (AM 850 900) (eval iter (usEnv scope L f c' c)) Q (fun _ _ => False) s'') (fun _ _ => False) s') (fun _ _ => False) s := by
  revert X; k_fill; intro X
  obtain ⟨d, h1', h2', h3', h4', h5', h6', h7', h8', h9', t1, t2, t3, t4, t5, t6, t7, t8, t9, v1, v2, v3, v4, v5, v6, v7, v8, hm1, hm2⟩ := hl
  obtain ⟨dp, hp1, hp2, tp1, tp2, kp1, kp2, hm3, hm4⟩ := hp
  obtain ⟨oc', od, nm, ql, ps, bd, sc, dV, kV, doc', pm', an, cdv, ct, osl, x1, x2, x3, x4, x5, x6, hK, hpk⟩ := hDef
  refine key_of (by k_is) hK (fun e => ?_)
  cases e
  cases hpk
  k_steps
  any_goals k_data
  exact hret _ _ _ _ _ _ _ _ _ _ _ _ _ _ _ _ [_, _] ⟨_, _, _, _, _, _, _, _, _, by k_is⟩ (by assumption) (by assumption) (by walk_at "my above") (by assumption) (by assumption) (by rfl) ⟨_, by rfl⟩ (by rfl) (by assumption) (by rfl) (by first | rfl | assumption)

end
section
abbrev bgEnv (scope : Scope) (L f c' c : Addr) : Env := envX bgQual scope L f (.ref c') [(Str.ofString "args", c)]
abbrev bgBody (tgt iter t1 t2 t3 t4 t6 e1 e2 tgt2 iter2 : Expr) (b1 : List Stmt) (a1 a2 st5 stL : Stmt) (y1 y2 y3 y4 p1 p2 p3 p4 p6 p7 fp : Pos) : List Stmt :=
  [.For tgt iter [.If t1 b1 [.If t2 [a1, .If t3 [.Expr (.Yield (some e1) y1) y2] [] p3] [a2, .If t4 [st5, .For tgt2 iter2 [.If t6 [.Expr (.Yield (some e2) y3) y4] [] p6] [] p7] [] p4] p2] p1] [] fp, stL]
theorem typeFn {prog : Program} {w : World} {A : Around} {E : Value → Shared → Prop} {Q : Value → Shared → Prop} {s : Shared} {L a : Addr} {o : Obj} {h₀ : Heap} {news : List (Addr × Obj)} (N : News h₀ L s.heap news) (m : (a, o) ∈ news) (hc : o.cls = .type "function") (hq : Q (.type "function") s) :
    wpAny (model prog w) A (call (.type "type") [.ref a]) Q E s := kto_cont ⟨o, (N _ m).1, hc⟩ (by decide +kernel) hq
def MatIn (news : List (Addr × Obj)) (mt l : Addr) : Prop :=
  ∃ d h1 h2 t1 t2 tp, (mt, instObj 630 d) ∈ news ∧ (d, dictOf [⟨h1, .str "place" t1, .int 0 tp⟩, ⟨h2, .str "pieces" t2, .ref l⟩] 2) ∈ news
theorem MatIn.mono {news news' : List (Addr × Obj)} {mt l : Addr} (h : MatIn news mt l) (hs : ∀ q ∈ news, q ∈ news') : MatIn news' mt l := by
  obtain ⟨d, h1, h2, t1, t2, tp, a, b⟩ := h
  exact ⟨d, h1, h2, t1, t2, tp, hs _ a, hs _ b⟩

end
section
def GWill (w : World) (h₀ : Heap) (sh : List (Addr × Obj)) (n : Nat) (self stk : Addr) (txt : Str) (ts : List Tk) : Prop :=
  ∀ gG L' oL' nmG qlG psG bdG scG cdG mG, FnAt (hd.heap_39 w.params) 586 nmG qlG psG bdG scG cdG → NsOf oL' mG → mG (Str.ofString "self") = some (.ref self) → (∃ k, mG (Str.ofString "text") = some (.str txt k)) → mG (Str.ofString "stack") = some (.ref stk) → h₀.objs.size ≤ L' →
    Will PySem.Challenge.rw_ez0274_01.prog w h₀ sh n ts gG [(L', oL')] [(gG, .fresh (.func bdG (envOf qlG scG L' 586 cdG)))]
structure Folds (_ : Program) (iter : Expr) (env : Env) : Prop where
  pure : ∀ x, foldedSetIterable iter env x = (Pure.pure x : Sem Value)
theorem us_fold {w : World} {h₀ : Heap} {name : Str} {params : Arguments} {scope : Scope} {s1 s2 st4 : Stmt} {tgt iter : Expr} {b : List Stmt} {fp : Pos} (X : (hd.heap_39 w.params).In h₀) (hDef : DefAt (hd.heap_39 w.params) 435 usPick name params [s1, s2, .For tgt iter b [] fp, st4] scope) (env : Env) :
    Folds PySem.Challenge.rw_ez0274_01.prog iter env := by
  revert X; k_fill; intro X
  obtain ⟨oc, od, nm, ql, ps, bd, sc, dV, kV, doc', pm', an, cdv, ct, osl, x1, x2, x3, x4, x5, x6, hK, hp⟩ := hDef
  refine key_of (by k_is) hK (fun e => ?_)
  cases e
  cases hp
  exact ⟨fun _ => rfl⟩
theorem push_old {α : Type} {a : Array α} {x y : α} {i : Nat} (h : a[i]? = some x) : (a.push y)[i]? = some x := by
  obtain ⟨h1, h2⟩ := Array.getElem?_eq_some_iff.mp h
  rw [Array.getElem?_push_lt h1, h2]
theorem push_inv {α : Type} {a : Array α} {x y : α} {i : Nat} (h : (a.push y)[i]? = some x) : a[i]? = some x ∨ i = a.size := by
  rw [Array.getElem?_push] at h
  split at h
  · rename_i e; exact .inr e
  · exact .inl h
theorem u_fresh {w : World} {p : Program} {loose : List Str} {mean : ExcName → Option Value} {mg mb : Str → Option Value} {h₀ : Heap} {sh : List (Addr × Obj)} {n gU : Nat} (hn : n ≤ 45)
    {L f c' c self td mm gk stk : Addr} {txt : Str} {st : Int} {oc ogk : Obj} {name : Str} {params : Arguments} {scope : Scope} {e tgt iter : Expr} {s1 s2 st4 : Stmt} {yp ep fp : Pos} {m : Str → Option Value} {oL : Obj} {own : List (Addr × Obj)} {ts : List Tk}
    (X : (hd.heap_39 w.params).In h₀) (T : Top p loose mean mg mb h₀) (hL : h₀.objs.size ≤ L)
    (hDef : DefAt (hd.heap_39 w.params) 435 usPick name params [s1, s2, .For tgt iter [.Expr (.Yield (some e) yp) ep] [] fp, st4] scope)
    (hl : LexIn sh self td) (hp : PseIn own mm txt st) (hc : (c, oc) ∈ sh) (hcd : oc.data = .cell (some (.ref gk))) (hgk : (gk, ogk) ∈ sh) (hdk : ogk.IsDictOf (strKind PySem.Challenge.rw_ez0274_01.prog w) [(Str.ofString "stack", .ref stk)]) (hgs : (gk == sysModules) = false)
    (h1 : m (Str.ofString "lexer") = some (.ref self)) (h2 : m (Str.ofString "match") = some (.ref mm)) (h3 : m (Str.ofString "ctx") = some .none) (hNs : NsOf oL m) (hown : ∀ q ∈ own, q.1 ≠ L) (hshL : ∀ q ∈ sh, q.1 ≠ L)
    (hG : GWill w h₀ sh (n + 1) self stk txt ts) :
    SW PySem.Challenge.rw_ez0274_01.prog w h₀ sh n gU (ts.map (shift st)) ((L, oL) :: own) [] (.func [s1, s2, .For tgt iter [.Expr (.Yield (some e) yp) ep] [] fp, st4] (usEnv scope L f c' c))
      ((model PySem.Challenge.rw_ez0274_01.prog w).den (.func [s1, s2, .For tgt iter [.Expr (.Yield (some e) yp) ep] [] fp, st4] (usEnv scope L f c' c))) [] := by
  refine SW.before fun s P H hr _ cont => ?_
  obtain ⟨F, rest, N, hrest⟩ := walk_env H (.head _) hNs hL
  have hsh : ∀ q ∈ sh, q ∈ rest := fun q hq => hrest _ _ (H.shared q hq).1 (H.shared q hq).2 (hshL q hq)
  have hin : ∀ q ∈ own, q ∈ rest := fun q hq => hrest _ _ (H.own q (.tail _ hq)).1 (H.own q (.tail _ hq)).2 (hown q hq)
  have hp' : PseIn rest mm txt st := by
    obtain ⟨d, a1, a2, a3, a4, a5, a6, b1, b2⟩ := hp
    exact ⟨d, a1, a2, a3, a4, a5, a6, hin _ b1, hin _ b2⟩
  refine seg_func (seg_prep (d := 850) (u := 900) ⟨rfl, ?_, ?_⟩ (u_prep (E := fun _ _ => False) F X N T hDef (hl.mono hsh) hp' (hsh _ hc) hcd (hsh _ hgk) hdk hgs h1 h2 h3 ?_) (us_fold X hDef _).pure)
  · show 400 + n + 0 + 1 ≤ 850
    omega
  · show 400 + 8 * n + 1 + 0 + 3 ≤ 900
    omega
  intro L' I oL' nmG qlG psG bdG scG cdG t1 t2 tk1 h' tk' m' mG tl hFn F' N' hab hlt hNsG g1 g2 g3 hL' m1 m2
  have nI := N' _ (.head _)
  have nL := N' _ (.tail _ (.head _))
  refine wpAny_pyIter_genS (g := s.gens.size) (genLike nI.1) fun pp => ?_
  obtain ⟨oL2, hoL, hNs'⟩ := NsOf.of F'.ns
  have N'' : News h₀ L h' (((I, genNew s.gens.size nmG qlG t1 t2) :: (L', oL') :: tl) ++ rest) := N'
  have hkeep := walk_keep F' N'' hrest H.base
  have hnew := walk_new N'' hab hrest
  have hIL : I ≠ L' := Nat.ne_of_gt hlt
  refine cont _ ((L, oL2) :: ([(I, genNew s.gens.size nmG qlG t1 t2)] ++ [(L', oL')])) [(s.gens.size, .fresh (.func bdG (envOf qlG scG L' 586 cdG)))] _ _ _ ⟨fun a o e hp => hkeep a o e fun q => hp _ (.head _) q.symm, fun g x e _ => ?_, fun q hq => ?_, fun q hq => ?_, ?_, fun g x e => ?_, rfl, rfl⟩ ⟨F'.keep, fun q hq => ⟨hkeep _ _ (H.shared q hq).1 (hshL q hq), (H.shared q hq).2⟩, fun q hq => ?_, fun q hq r hr => ?_, fun q hq => ?_⟩
    (u_sw hn X T hL nI.2.1 hDef ts _ _ m' oL2 (hG _ _ _ _ _ _ _ _ _ _ hFn hNsG g1 g2 g3 hL') hNs' m1 m2 fun q hq => ?_)
  · exact push_old e
  · rcases List.mem_cons.mp hq with rfl | hq
    · exact .inl ⟨_, .head _, rfl⟩
    · rcases List.mem_cons.mp hq with rfl | hq
      · exact .inr (hnew _ (.head _))
      · rcases List.mem_singleton.mp hq with rfl
        exact .inr (hnew _ (.tail _ (.head _)))
  · rcases List.mem_singleton.mp hq with rfl
    exact .inr (Nat.le_refl _)
  · show s.gens.size ≤ (s.gens.push _).size
    rw [Array.size_push]; exact Nat.le_succ _
  · rcases push_inv e with e | e
    · exact .inl ⟨e, fun q hq => (nomatch hq)⟩
    · exact .inr (.inr ⟨_, .head _, e.symm⟩)
  · rcases List.mem_cons.mp hq with rfl | hq
    · exact ⟨hoL, (H.own _ (.head _)).2⟩
    · rcases List.mem_cons.mp hq with rfl | hq
      · exact ⟨nI.1, nI.2.2⟩
      · rcases List.mem_singleton.mp hq with rfl
        exact ⟨nL.1, nL.2.2⟩
  · rcases List.mem_cons.mp hq with rfl | hq
    · exact hshL r hr
    · intro e
      have z : s.heap.get? q.1 = none := by
        rcases List.mem_cons.mp hq with rfl | hq
        · exact hnew _ (.head _)
        · rcases List.mem_singleton.mp hq with rfl
          exact hnew _ (.tail _ (.head _))
      rw [← e, (H.shared r hr).1] at z; cases z
  · rcases List.mem_singleton.mp hq with rfl
    exact Array.getElem?_push_size
  · rcases List.mem_singleton.mp hq with rfl
    exact ⟨nL.2.1, hIL.symm⟩

end
local macro_rules | `(tactic| walk_at "call type:type") => `(tactic| (k_here; (with_reducible show wpAny _ _ (call (Value.type "type") [Value.ref _]) _ _ _); k_dflt (refine' typeFn ?N ?m ?c ?_; (case N => k_asm); (case m => k_mem); (case c => exact rfl)); (try dsimp only)))
local macro_rules | `(tactic| walk_at "call ref") => `(tactic| (k_here; k_dflt (show wpAny _ _ (call (Value.ref 627) [Value.ref _, Value.int _ _]) _ _ _); k_dflt (refine wpAny_lift ⟨rfl, Nat.le_of_ble_eq_true rfl, Nat.le_of_ble_eq_true rfl⟩ (c_groupi (by k_asm) (by k_asm) (by k_asm) (by k_asm) (by k_mem) (by k_mem) (by k_mem) (by assumption) (by assumption) ?_)); intro h' tk' F' N'; (try dsimp only [piece])))
local macro_rules | `(tactic| walk_at "call ref") => `(tactic| (k_here; k_dflt (show wpAny _ _ (call (Value.ref 613) [Value.ref _, Value.int _ _]) _ _ _); k_dflt (refine wpAny_lift ⟨rfl, Nat.le_of_ble_eq_true rfl, Nat.le_of_ble_eq_true rfl⟩ (c_start (by k_asm) (by k_asm) (by k_asm) (by k_asm) (by k_mem) (by k_mem) (by k_mem) (by assumption) (by assumption) (by assumption) ?_)); intro tl' h' tk' t' F' N' A'; (try dsimp only)))
local macro_rules | `(tactic| walk_at "truthy str") => `(tactic| (k_here; (with_reducible show wpAny _ _ (PySem.truthy (Value.str _ _)) _ _ _); (refine KXt.truthy_pos (by assumption) (by assumption) (K := 1000) (by decide) ?_); intro _))

section
theorem b_item {w : World} {p : Program} {loose : List Str} {mean : ExcName → Option Value} {mg mb : Str → Option Value} {h₀ : Heap} {L : Addr} {m : Str → Option Value} {s : Shared} {Q E : Value → Shared → Prop} {news : List (Addr × Obj)}
  {f c' c a : Addr} {t : Tk} {k1 k2 : Tok} {name : Str} {params : Arguments} {scope : Scope} {tgt iter t1 t2 t3 t4 t6 e1 e2 tgt2 iter2 : Expr} {b1 : List Stmt} {a1 a2 st5 stL : Stmt} {y1 y2 y3 y4 p1 p2 p3 p4 p6 p7 fp : Pos} (F : Fr h₀ L s.heap m) (X : (hd.heap_39 w.params).In h₀) (N : News h₀ L s.heap news) (T : Top p loose mean mg mb h₀)
  (hDef : DefAt (hd.heap_39 w.params) 412 bgPick name params (bgBody tgt iter t1 t2 t3 t4 t6 e1 e2 tgt2 iter2 b1 a1 a2 st5 stL y1 y2 y3 y4 p1 p2 p3 p4 p6 p7 fp) scope)
  (ht : (a, tokObj t k1 k2) ∈ news)
  (hret : ∀ m' h' tk', Fr h₀ L h' m' → News h₀ L h' news → m' (Str.ofString "lexer") = m (Str.ofString "lexer") → m' (Str.ofString "match") = m (Str.ofString "match") → m' (Str.ofString "ctx") = m (Str.ofString "ctx") → Q (.ref a) { s with heap := h', toks := tk' }) :
  wpAny (model PySem.Challenge.rw_ez0274_01.prog w) (AM 850 900) (assign tgt2 (bgEnv scope L f c' c) (.ref a)) (fun _ s₁ => wpAny (model PySem.Challenge.rw_ez0274_01.prog w) (AM 850 900) (isTrue t6 (bgEnv scope L f c' c) (eval t6 (bgEnv scope L f c' c))) (fun b s₂ => b = true ∧ wpAny (model PySem.Challenge.rw_ez0274_01.prog w) (AM 850 900) (eval e2 (bgEnv scope L f c' c)) Q (fun _ _ => False) s₂) (fun _ _ => False) s₁) (fun _ _ => False) s := by
  revert X; k_fill; intro X
  obtain ⟨oc, od, nm, ql, pms, bd, sc, dV, kV, doc', pm', an, cdv, ct, osl, x1, x2, x3, x4, x5, x6, hK, hpk⟩ := hDef
  refine key_of (by k_is) hK (fun e => ?_)
  cases e
  cases hpk
  have ht' : (a, (⟨.type "tuple", none, .seq #[.int t.idx k1, .ref t.kind, .str t.text k2] 0, #[]⟩ : Obj)) ∈ news := ht
  k_steps
  any_goals try k_data
  any_goals (with_reducible try exact trivial)
  all_goals exact hret _ _ _ (by assumption) (by assumption) (by rfl) (by rfl) (by rfl)
theorem bg_scope {w : World} {h₀ : Heap} {name : Str} {params : Arguments} {body : List Stmt} {scope : Scope} (X : (hd.heap_39 w.params).In h₀) (hDef : DefAt (hd.heap_39 w.params) 412 bgPick name params body scope) : GenScope PySem.Challenge.rw_ez0274_01.prog scope := by
  revert X; k_fill; intro X
  obtain ⟨oc, od, nm, ql, ps, bd, sc, dV, kV, doc', pm', an, cdv, ct, osl, x1, x2, x3, x4, x5, x6, hK, hp⟩ := hDef
  refine key_of (by k_is) hK (fun e => ?_)
  cases e
  cases hp
  exact ⟨rfl, rfl, rfl, by decide⟩
theorem bg_fold {w : World} {h₀ : Heap} {name : Str} {params : Arguments} {scope : Scope} {tgt iter t1 t2 t3 t4 t6 e1 e2 tgt2 iter2 : Expr} {b1 : List Stmt} {a1 a2 st5 stL : Stmt} {y1 y2 y3 y4 p1 p2 p3 p4 p6 p7 fp : Pos} (X : (hd.heap_39 w.params).In h₀)
    (hDef : DefAt (hd.heap_39 w.params) 412 bgPick name params (bgBody tgt iter t1 t2 t3 t4 t6 e1 e2 tgt2 iter2 b1 a1 a2 st5 stL y1 y2 y3 y4 p1 p2 p3 p4 p6 p7 fp) scope) (env : Env) : Folds PySem.Challenge.rw_ez0274_01.prog iter env ∧ Folds PySem.Challenge.rw_ez0274_01.prog iter2 env ∧ ∃ elts x1 pos, tgt = .Tuple elts x1 pos := by
  revert X; k_fill; intro X
  obtain ⟨oc, od, nm, ql, ps, bd, sc, dV, kV, doc', pm', an, cdv, ct, osl, x1, x2, x3, x4, x5, x6, hK, hp⟩ := hDef
  refine key_of (by k_is) hK (fun e => ?_)
  cases e
  cases hp
  exact ⟨⟨fun _ => rfl⟩, ⟨fun _ => rfl⟩, _, _, _, rfl⟩
theorem bg_shape {w : World} {h₀ : Heap} {name : Str} {params : Arguments} {body : List Stmt} {scope : Scope} (X : (hd.heap_39 w.params).In h₀) (hDef : DefAt (hd.heap_39 w.params) 412 bgPick name params body scope) :
    PySem.Challenge.rw_ez0274_01.prog = PySem.Challenge.rw_ez0274_01.prog ∧ ∃ tgt iter t1 t2 t3 t4 t6 e1 e2 tgt2 iter2 b1 a1 a2 st5 stL y1 y2 y3 y4 p1 p2 p3 p4 p6 p7 fp, body = bgBody tgt iter t1 t2 t3 t4 t6 e1 e2 tgt2 iter2 b1 a1 a2 st5 stL y1 y2 y3 y4 p1 p2 p3 p4 p6 p7 fp := by
  revert X; k_fill; intro X
  obtain ⟨oc, od, nm, ql, ps, bd, sc, dV, kV, doc', pm', an, cdv, ct, osl, x1, x2, x3, x4, x5, x6, hK, hp⟩ := hDef
  refine key_of (by k_is) hK (fun e => ?_)
  cases e
  cases hp
  exact ⟨rfl, _, _, _, _, _, _, _, _, _, _, _, _, _, _, _, _, _, _, _, _, _, _, _, _, _, _, _, rfl⟩
theorem us_shape {w : World} {h₀ : Heap} {name : Str} {params : Arguments} {body : List Stmt} {scope : Scope} (X : (hd.heap_39 w.params).In h₀) (hDef : DefAt (hd.heap_39 w.params) 435 usPick name params body scope) :
    PySem.Challenge.rw_ez0274_01.prog = PySem.Challenge.rw_ez0274_01.prog ∧ ∃ s1 s2 tgt iter e yp ep fp st4, body = [s1, s2, .For tgt iter [.Expr (.Yield (some e) yp) ep] [] fp, st4] := by
  revert X; k_fill; intro X
  obtain ⟨oc, od, nm, ql, ps, bd, sc, dV, kV, doc', pm', an, cdv, ct, osl, x1, x2, x3, x4, x5, x6, hK, hp⟩ := hDef
  refine key_of (by k_is) hK (fun e => ?_)
  cases e
  cases hp
  exact ⟨rfl, _, _, _, _, _, _, _, _, _, rfl⟩

end
section
def GWillA (w : World) (h₀ : Heap) (sh : List (Addr × Obj)) (n : Nat) (self stk : Addr) (txt : Str) (ts : List Tk) : Prop := ∀ sh', (∀ q ∈ sh, q ∈ sh') → GWill w h₀ sh' n self stk txt ts
inductive ActOk (w : World) (h₀ : Heap) (sh : List (Addr × Obj)) (n : Nat) (self : Addr) (ps : List (Option (Str × Tok))) (i : Nat) : Value → List Tk → Prop
  | none : ActOk w h₀ sh n self ps i .none []
  | silent {a da hsA tkA vA} : (a, instObj 66 da) ∈ sh → (da, dictOf [⟨hsA, .str (Str.ofString "names") tkA, vA⟩] 1) ∈ sh → ps[i]? = some Option.none → ActOk w h₀ sh n self ps i (.ref a) []
  | kind {a da hsA tkA vA x tx} : (a, instObj 66 da) ∈ sh → (da, dictOf [⟨hsA, .str (Str.ofString "names") tkA, vA⟩] 1) ∈ sh → ps[i]? = some (some (x, tx)) → 1 ≤ x.length → x.length ≤ 1000 →
      ActOk w h₀ sh n self ps i (.ref a) [⟨(0 : Int) + ((((ps.take i).map told).map (·.length)).sum : Nat), a, x⟩]
  | use {g gc gc' gdT nameU paramsU bodyU scopeU docU pmU ctvU ocU vsU tU oc gk ogk stk x tx ts} : DefAt (hd.heap_39 w.params) 435 usPick nameU paramsU bodyU scopeU → (g, kdv_obj nameU usQual paramsU (.stmts bodyU) scopeU [(Str.ofString "gt_kwargs", gc)] (.ref gdT) docU pmU gc' ctvU) ∈ sh → (gdT, tupO [.none]) ∈ sh →
      (gc', ocU) ∈ sh → ocU.data = .fields vsU → vsU[1]? = some (.str usQual tU) → (gc, oc) ∈ sh → oc.data = .cell (some (.ref gk)) → (gk, ogk) ∈ sh → ogk.IsDictOf (strKind PySem.Challenge.rw_ez0274_01.prog w) [(Str.ofString "stack", .ref stk)] → (gk == sysModules) = false →
      ps[i]? = some (some (x, tx)) → 1 ≤ x.length → x.length ≤ 1000 → GWillA w h₀ sh (n + 2) self stk x ts → ActOk w h₀ sh n self ps i (.ref g) (ts.map (shift ((0 : Int) + ((((ps.take i).map told).map (·.length)).sum : Nat))))
theorem ActOk.mono {w : World} {h₀ : Heap} {sh sh' : List (Addr × Obj)} {n : Nat} {self : Addr} {ps : List (Option (Str × Tok))} {i : Nat} {v : Value} {ts : List Tk} (h : ActOk w h₀ sh n self ps i v ts) (hs : ∀ q ∈ sh, q ∈ sh') : ActOk w h₀ sh' n self ps i v ts := by
  cases h with
  | none => exact .none
  | silent a b c => exact .silent (hs _ a) (hs _ b) c
  | kind a b c d e => exact .kind (hs _ a) (hs _ b) c d e
  | use a b c d e f g h i j k l m n o => exact .use a (hs _ b) (hs _ c) (hs _ d) e f (hs _ g) h (hs _ i) j k l m n fun sh'' hss => o sh'' fun q hq => hss q (hs q hq)
section
variable {w : World} {p : Program} {loose : List Str} {mean : ExcName → Option Value} {mg mb : Str → Option Value} {h₀ : Heap} {sh const : List (Addr × Obj)} {n gB : Nat} {L f c' c mt l self : Addr} {ps : List (Option (Str × Tok))} {ep0 : Nat}
  {name : Str} {params : Arguments} {scope : Scope} {tgt iter t1 t2 t3 t4 t6 e1 e2 tgt2 iter2 : Expr} {b1 : List Stmt} {a1 a2 st5 stL : Stmt} {y1 y2 y3 y4 p1 p2 p3 p4 p6 p7 fp : Pos}
def BgM (m : Str → Option Value) (self mt : Addr) : Prop := m (Str.ofString "lexer") = some (.ref self) ∧ m (Str.ofString "match") = some (.ref mt) ∧ m (Str.ofString "ctx") = some .none
theorem BgM.of {m m' : Str → Option Value} (h : BgM m self mt) (a : m' (Str.ofString "lexer") = m (Str.ofString "lexer")) (b : m' (Str.ofString "match") = m (Str.ofString "match")) (d : m' (Str.ofString "ctx") = m (Str.ofString "ctx")) : BgM m' self mt := ⟨a.trans h.1, b.trans h.2.1, d.trans h.2.2⟩
abbrev bgFor (tgt t1 t2 t3 t4 t6 e1 e2 tgt2 iter2 : Expr) (b1 : List Stmt) (a1 a2 st5 : Stmt) (y1 y2 y3 y4 p1 p2 p3 p4 p6 p7 : Pos) (e : Addr) (env : Env) : Code :=
  .forLoop tgt (.ref e) [.If t1 b1 [.If t2 [a1, .If t3 [.Expr (.Yield (some e1) y1) y2] [] p3] [a2, .If t4 [st5, .For tgt2 iter2 [.If t6 [.Expr (.Yield (some e2) y3) y4] [] p6] [] p7] [] p4] p2] p1] [] env
theorem b_in (hn : n ≤ 44) (X : (hd.heap_39 w.params).In h₀) (T : Top p loose mean mg mb h₀) (hL : h₀.objs.size ≤ L)
    (hDef : DefAt (hd.heap_39 w.params) 412 bgPick name params (bgBody tgt iter t1 t2 t3 t4 t6 e1 e2 tgt2 iter2 b1 a1 a2 st5 stL y1 y2 y3 y4 p1 p2 p3 p4 p6 p7 fp) scope)
    {e : Addr} {gU IU : Nat} {nm qn : Str} {x1 x2 : Tok} {own : List (Addr × Obj)} {tail : List Tk} {K' : Flow → Sem Fin} {pp pO : Pos} {kO : Result → Sem Fin} {cf : List Stmt} {tO : Sem Fin}
    (hK : ∀ A s P, SegT (model PySem.Challenge.rw_ez0274_01.prog w) A (bgFor tgt t1 t2 t3 t4 t6 e1 e2 tgt2 iter2 b1 a1 a2 st5 y1 y2 y3 y4 p1 p2 p3 p4 p6 p7 e (bgEnv scope L f c' c)) tO [.ret kO none false [] (.func cf (bgEnv scope L f c' c)) pO []] s P →
      SegT (model PySem.Challenge.rw_ez0274_01.prog w) A (bgFor tgt t1 t2 t3 t4 t6 e1 e2 tgt2 iter2 b1 a1 a2 st5 y1 y2 y3 y4 p1 p2 p3 p4 p6 p7 e (bgEnv scope L f c' c)) (K' .next) [.ret kO none false [] (.func cf (bgEnv scope L f c' c)) pO []] s P)
    (hcont : ∀ m oL, NsOf oL m → BgM m self mt → SW PySem.Challenge.rw_ez0274_01.prog w h₀ sh n gB tail ((L, oL) :: own) [] (bgFor tgt t1 t2 t3 t4 t6 e1 e2 tgt2 iter2 b1 a1 a2 st5 y1 y2 y3 y4 p1 p2 p3 p4 p6 p7 e (bgEnv scope L f c' c)) tO [.ret kO none false [] (.func cf (bgEnv scope L f c' c)) pO []])
    (hIL : IU ≠ L) (hoL : ∀ q ∈ own, q.1 ≠ L) (hot : ∀ q ∈ own, q.2.cls ≠ .type "tuple") :
    ∀ (tsU : List Tk) (fpU : List (Addr × Obj)) (gpU : List (Nat × GenState)) (m : Str → Option Value) (oL : Obj), Will PySem.Challenge.rw_ez0274_01.prog w h₀ sh (n + 1) tsU gU fpU gpU → NsOf oL m → BgM m self mt →
      (∀ q ∈ fpU, ∀ r ∈ (L, oL) :: (IU, genNew gU nm qn x1 x2) :: own, q.1 ≠ r.1) →
      SW PySem.Challenge.rw_ez0274_01.prog w h₀ sh n gB (tsU ++ tail) ((L, oL) :: ((IU, genNew gU nm qn x1 x2) :: own ++ fpU)) gpU (.forLoop tgt2 (.ref IU) [.If t6 [.Expr (.Yield (some e2) y3) y4] [] p6] [] (bgEnv scope L f c' c))
        ((model PySem.Challenge.rw_ez0274_01.prog w).den (.forLoop tgt2 (.ref IU) [.If t6 [.Expr (.Yield (some e2) y3) y4] [] p6] [] (bgEnv scope L f c' c)))
        [.ret (back (bgEnv scope L f c' c) K' (bad (bgEnv scope L f c' c)) id id) none false [] (bgFor tgt t1 t2 t3 t4 t6 e1 e2 tgt2 iter2 b1 a1 a2 st5 y1 y2 y3 y4 p1 p2 p3 p4 p6 p7 e (bgEnv scope L f c' c)) pp [], .ret kO none false [] (.func cf (bgEnv scope L f c' c)) pO []] := by
  intro tsU
  induction tsU with
  | nil =>
    intro fpU gpU m oL hW hNs hm hdj
    refine SW.before fun s P H hrun hgU cont => ?_
    have hI := H.own _ (.tail _ (.head _))
    refine seg_forTurn (nextT (wpT_lift ⟨rfl, ?_, ?_⟩ (hW s IU _ _ ⟨H.base, H.shared, fun q hq => H.own q (.tail _ (.tail _ (List.mem_append_right _ hq))), fun q hq => H.apart q (.tail _ (.tail _ (List.mem_append_right _ hq))), H.gens⟩ (genLike hI.1) (fun q hq => hdj q hq _ (.tail _ (.head _))) fun s' M => ?_)))
    · show 400 + n + 1 + 0 ≤ 400 + (n + 1)
      omega
    · show 400 + 8 * n + 1 + 3 + 0 ≤ 400 + 8 * (n + 1)
      omega
    refine seg_nil (seg_retT (r := .ok .next) ?_)
    show SegT _ _ _ (K' .next) _ _ _
    have H' := has_end (own := (L, oL) :: (IU, genNew gU nm qn x1 x2) :: own) H M (fun q hq r hr => hdj r hr q hq)
    refine hK _ _ _ (cont s' ((L, oL) :: own) [] _ _ _ (M.wide (fun q hq => .inl ?_) fun q hq => .tail _ (.tail _ (List.mem_append_right _ hq))) ⟨H'.base, H'.shared, fun q hq => H'.own q ?_, fun q hq => H'.apart q ?_, H'.gens⟩ (hcont m oL hNs hm))
    · rcases List.mem_cons.mp hq with rfl | hq
      · exact ⟨_, .head _, rfl⟩
      · exact ⟨q, .tail _ (.tail _ (List.mem_append_left _ hq)), rfl⟩
    · rcases List.mem_cons.mp hq with rfl | hq
      · exact .head _
      · exact .tail _ (.tail _ hq)
    · rcases List.mem_cons.mp hq with rfl | hq
      · exact .head _
      · exact .tail _ (.tail _ hq)
  | cons t ts ih =>
    intro fpU gpU m oL hW hNs hm hdj s P H hrun hgU hP
    have hI := H.own _ (.tail _ (.head _))
    refine seg_forTurn (nextT (wpT_lift ⟨rfl, ?_, ?_⟩ (hW s IU _ _ ⟨H.base, H.shared, fun q hq => H.own q (.tail _ (.tail _ (List.mem_append_right _ hq))), fun q hq => H.apart q (.tail _ (.tail _ (List.mem_append_right _ hq))), H.gens⟩ (genLike hI.1) (fun q hq => hdj q hq _ (.tail _ (.head _))) fun v s' fpU' gpU' hv M H' hW' => ?_)))
    · show 400 + n + 1 + 0 ≤ 400 + (n + 1)
      omega
    · show 400 + 8 * n + 1 + 3 + 0 ≤ 400 + 8 * (n + 1)
      omega
    obtain ⟨a, k1, k2, rfl, htok, ha0, hafp⟩ := hv
    obtain ⟨H₂, hd'⟩ := Has.step (own := (L, oL) :: (IU, genNew gU nm qn x1 x2) :: own) H M H' (fun q hq r hr => hdj r hr q hq)
    have hI' := H₂.own _ (.tail _ (.head _))
    refine wpT_of (letGo_gen (genLike hI'.1) ?_)
    obtain ⟨F, rest, N, hr⟩ := walk_env H₂ (.head _) hNs hL
    have haL : a ≠ L := fun q => by
      obtain ⟨es, ep', hd1, _⟩ := hNs
      have z := (H₂.own _ (.head _)).1
      rw [← q, htok] at z
      cases z
      cases hd1
    have ht : (a, tokObj t k1 k2) ∈ rest := hr a _ htok ha0 haL
    refine assign_if_yield (d := 850) (u := 900) rfl rfl rfl ⟨rfl, ?_, ?_⟩ (bg_scope X hDef).co (bg_scope X hDef).quiet (b_item (E := fun _ _ => False) F X N T hDef ht ?_)
    · show 400 + n + 1 + 0 ≤ 850
      omega
    · show 400 + 8 * n + 1 + 3 + 0 ≤ 900
      omega
    intro m' h' tk' F' N' ma mb' mc pp' l k hk
    obtain ⟨oL', hoL', hNs'⟩ := NsOf.of F'.ns
    have hkeep := walk_keep (tl := []) F' N' hr H₂.base
    have hneL : ∀ q ∈ (IU, genNew gU nm qn x1 x2) :: own ++ fpU', q.1 ≠ L := fun q hq => by
      rcases List.mem_append.mp hq with hq | hq
      · rcases List.mem_cons.mp hq with rfl | hq
        · exact hIL
        · exact hoL q hq
      · exact hd' (L, oL) (.head _) q hq
    have H₃ := has_walk (tk := tk') H₂ hneL F' hkeep hoL'
    have hmv : Moves h₀ ((L, oL) :: ((IU, genNew gU nm qn x1 x2) :: own ++ fpU)) ((L, oL') :: ((IU, genNew gU nm qn x1 x2) :: own ++ fpU')) gpU gpU' s { s' with heap := h', toks := tk' } := moves_walk (oL := oL) (own := (IU, genNew gU nm qn x1 x2) :: own) M hkeep
    refine hP _ false l k _ pp' _ _ ((L, oL') :: ((IU, genNew gU nm qn x1 x2) :: own ++ fpU')) gpU' ⟨a, k1, k2, rfl, hkeep a _ htok haL, ha0, fun q hq e => ?_⟩ hmv H₃ ?_
    · rcases List.mem_cons.mp hq with rfl | hq
      · exact haL e.symm
      · rcases List.mem_append.mp hq with hq | hq
        · have z := (H₂.own q (.tail _ (List.mem_append_left _ hq))).1
          rw [e, htok] at z
          have z := (Option.some.inj z).symm
          rcases List.mem_cons.mp hq with rfl | hq
          · have z : Value.type "generator" = Value.type "tuple" := congrArg Obj.cls z
            exact absurd (Value.type.inj z) (by decide)
          · exact hot q hq (by rw [z]; rfl)
        · exact hafp q hq e
    · refine (ih fpU' gpU' m' oL' hW' hNs' (hm.of ma mb' mc) fun q hq r hr => ?_).map fun A' s₃ P' x => hk A' s₃ P' (seg_againT rfl x)
      rcases List.mem_cons.mp hr with rfl | hr
      · exact hd' (L, oL) (.head _) q hq
      · exact hd' r (.tail _ hr) q hq
end

end
section
theorem b_kind {w : World} {p : Program} {loose : List Str} {mean : ExcName → Option Value} {mg mb : Str → Option Value} {h₀ : Heap} {L : Addr} {m : Str → Option Value} {s : Shared} {Q E : Value → Shared → Prop} {news : List (Addr × Obj)}
  {f c' c a da mt l Ta : Addr} {e i : Nat} {ps : List (Option (Str × Tok))} {x : Str} {tx tk1 : Tok} {name : Str} {params : Arguments} {scope : Scope} {tgt iter t1 t2 t3 t4 t6 e1 e2 tgt2 iter2 : Expr} {b1 : List Stmt} {a1 a2 st5 stL : Stmt} {y1 y2 y3 y4 p1 p2 p3 p4 p6 p7 fp : Pos} (F : Fr h₀ L s.heap m) (X : (hd.heap_39 w.params).In h₀) (N : News h₀ L s.heap news) (T : Top p loose mean mg mb h₀)
  (hDef : DefAt (hd.heap_39 w.params) 412 bgPick name params (bgBody tgt iter t1 t2 t3 t4 t6 e1 e2 tgt2 iter2 b1 a1 a2 st5 stL y1 y2 y3 y4 p1 p2 p3 p4 p6 p7 fp) scope)
  (hT : (Ta, tupO [.int i tk1, .ref a]) ∈ news) {hsA : Int} {tkA : Tok} {vA : Value} (ha : (a, instObj 66 da) ∈ news) (hda : (da, dictOf [⟨hsA, .str (Str.ofString "names") tkA, vA⟩] 1) ∈ news) (hm : MatIn news mt l) (hl : (l, listOf (piecesOf ps).toArray e) ∈ news) (hn : (piecesOf ps).length ≤ 1000) (hi : ps[i]? = some (some (x, tx))) (hx : 1 ≤ x.length) (hxl : x.length ≤ 1000) (hle : ∀ q ∈ ps, (told q).length ≤ 1000)
  (h2 : m (Str.ofString "match") = some (.ref mt)) (h3 : m (Str.ofString "ctx") = some .none)
  (hret : ∀ b k1' k2' m' h' tk' tl, Fr h₀ L h' m' → News h₀ L h' ((b, tokObj ⟨(0 : Int) + ((((ps.take i).map told).map (·.length)).sum : Nat), a, x⟩ k1' k2') :: (tl ++ news)) → Above ((b, tokObj ⟨(0 : Int) + ((((ps.take i).map told).map (·.length)).sum : Nat), a, x⟩ k1' k2') :: tl) news → m' (Str.ofString "lexer") = m (Str.ofString "lexer") → m' (Str.ofString "match") = m (Str.ofString "match") → m' (Str.ofString "ctx") = m (Str.ofString "ctx") → Q (.ref b) { s with heap := h', toks := tk' }) :
  wpAny (model PySem.Challenge.rw_ez0274_01.prog w) (AM 850 900) (assign tgt (bgEnv scope L f c' c) (.ref Ta)) (fun _ s₁ => wpAny (model PySem.Challenge.rw_ez0274_01.prog w) (AM 850 900) (isTrue t1 (bgEnv scope L f c' c) (eval t1 (bgEnv scope L f c' c))) (fun b1 s₂ => b1 = false ∧
    wpAny (model PySem.Challenge.rw_ez0274_01.prog w) (AM 850 900) (isTrue t2 (bgEnv scope L f c' c) (eval t2 (bgEnv scope L f c' c))) (fun b2 s₃ => b2 = true ∧ wpAny (model PySem.Challenge.rw_ez0274_01.prog w) (AM 850 900) (exec a1 (bgEnv scope L f c' c)) (fun f1 s₄ => f1 = .next ∧
      wpAny (model PySem.Challenge.rw_ez0274_01.prog w) (AM 850 900) (isTrue t3 (bgEnv scope L f c' c) (eval t3 (bgEnv scope L f c' c))) (fun b3 s₅ => b3 = true ∧ wpAny (model PySem.Challenge.rw_ez0274_01.prog w) (AM 850 900) (eval e1 (bgEnv scope L f c' c)) Q (fun _ _ => False) s₅) (fun _ _ => False) s₄) (fun _ _ => False) s₃) (fun _ _ => False) s₂) (fun _ _ => False) s₁) (fun _ _ => False) s := by
  revert X; k_fill; intro X
  obtain ⟨d, hh1, hh2, tt1, tt2, tp, hm1, hm2⟩ := hm
  have hst : (piecesOf ps)[i]? = some (piece (some (x, tx))) := piecesOf_get hi
  obtain ⟨oc, od, nm, ql, ps, bd, sc, dV, kV, doc', pm', an, cdv, ct, osl, x1, x2, x3, x4, x5, x6, hK, hpk⟩ := hDef
  refine key_of (by k_is) hK (fun e => ?_)
  cases e
  cases hpk
  k_steps
  any_goals try k_data
  any_goals (with_reducible try exact trivial)
  exact hret _ _ _ _ _ _ _ (by assumption) (by assumption) (Above.cons (below_app (by assumption)) (by assumption)) (by rfl) (by rfl) (by rfl)

end
section
abbrev bgIf (t1 t2 t3 t4 t6 e1 e2 tgt2 iter2 : Expr) (b1 : List Stmt) (a1 a2 st5 : Stmt) (y1 y2 y3 y4 p1 p2 p3 p4 p6 p7 : Pos) : Stmt :=
  .If t1 b1 [.If t2 [a1, .If t3 [.Expr (.Yield (some e1) y1) y2] [] p3] [a2, .If t4 [st5, .For tgt2 iter2 [.If t6 [.Expr (.Yield (some e2) y3) y4] [] p6] [] p7] [] p4] p2] p1
theorem b_none {w : World} {p : Program} {loose : List Str} {mean : ExcName → Option Value} {mg mb : Str → Option Value} {h₀ : Heap} {L : Addr} {m : Str → Option Value} {s : Shared} {news : List (Addr × Obj)}
  {f c' c mt l Ta : Addr} {i : Nat} {tk1 : Tok} {name : Str} {params : Arguments} {scope : Scope} {tgt iter t1 t2 t3 t4 t6 e1 e2 tgt2 iter2 : Expr} {b1 : List Stmt} {a1 a2 st5 stL : Stmt} {y1 y2 y3 y4 p1 p2 p3 p4 p6 p7 fp : Pos} (F : Fr h₀ L s.heap m) (X : (hd.heap_39 w.params).In h₀) (N : News h₀ L s.heap news) (T : Top p loose mean mg mb h₀)
  (hDef : DefAt (hd.heap_39 w.params) 412 bgPick name params (bgBody tgt iter t1 t2 t3 t4 t6 e1 e2 tgt2 iter2 b1 a1 a2 st5 stL y1 y2 y3 y4 p1 p2 p3 p4 p6 p7 fp) scope)
  (hT : (Ta, tupO [.int i tk1, .none]) ∈ news) {Q : Flow → Shared → Prop}
  (hret : ∀ m' h' tk', Fr h₀ L h' m' → News h₀ L h' news → m' (Str.ofString "lexer") = m (Str.ofString "lexer") → m' (Str.ofString "match") = m (Str.ofString "match") → m' (Str.ofString "ctx") = m (Str.ofString "ctx") → Q .cont { s with heap := h', toks := tk' }) :
  wpAny (model PySem.Challenge.rw_ez0274_01.prog w) (AM 850 900) (assign tgt (bgEnv scope L f c' c) (.ref Ta)) (fun _ s₁ => wpAny (model PySem.Challenge.rw_ez0274_01.prog w) (AM 850 900) (exec (bgIf t1 t2 t3 t4 t6 e1 e2 tgt2 iter2 b1 a1 a2 st5 y1 y2 y3 y4 p1 p2 p3 p4 p6 p7) (bgEnv scope L f c' c)) Q (fun _ _ => False) s₁) (fun _ _ => False) s := by
  revert X; k_fill; intro X
  obtain ⟨oc, od, nm, ql, pms, bd, sc, dV, kV, doc', pm', an, cdv, ct, osl, x1, x2, x3, x4, x5, x6, hK, hpk⟩ := hDef
  refine key_of (by k_is) hK (fun e => ?_)
  cases e
  cases hpk
  k_steps
  any_goals try k_data
  exact hret _ _ _ (by assumption) (by assumption) (by rfl) (by rfl) (by rfl)
theorem b_kind0 {w : World} {p : Program} {loose : List Str} {mean : ExcName → Option Value} {mg mb : Str → Option Value} {h₀ : Heap} {L : Addr} {m : Str → Option Value} {s : Shared} {news : List (Addr × Obj)}
  {f c' c a da mt l Ta : Addr} {e i : Nat} {ps : List (Option (Str × Tok))} {hsA : Int} {tkA : Tok} {vA : Value} {tk1 : Tok} {name : Str} {params : Arguments} {scope : Scope} {tgt iter t1 t2 t3 t4 t6 e1 e2 tgt2 iter2 : Expr} {b1 : List Stmt} {a1 a2 st5 stL : Stmt} {y1 y2 y3 y4 p1 p2 p3 p4 p6 p7 fp : Pos} (F : Fr h₀ L s.heap m) (X : (hd.heap_39 w.params).In h₀) (N : News h₀ L s.heap news) (T : Top p loose mean mg mb h₀)
  (hDef : DefAt (hd.heap_39 w.params) 412 bgPick name params (bgBody tgt iter t1 t2 t3 t4 t6 e1 e2 tgt2 iter2 b1 a1 a2 st5 stL y1 y2 y3 y4 p1 p2 p3 p4 p6 p7 fp) scope)
  (hT : (Ta, tupO [.int i tk1, .ref a]) ∈ news) (ha : (a, instObj 66 da) ∈ news) (hda : (da, dictOf [⟨hsA, .str (Str.ofString "names") tkA, vA⟩] 1) ∈ news) (hm : MatIn news mt l) (hl : (l, listOf (piecesOf ps).toArray e) ∈ news) (hn : (piecesOf ps).length ≤ 1000) (hi : ps[i]? = some none)
  (h2 : m (Str.ofString "match") = some (.ref mt)) {Q : Flow → Shared → Prop}
  (hret : ∀ m' h' tk', Fr h₀ L h' m' → News h₀ L h' news → m' (Str.ofString "lexer") = m (Str.ofString "lexer") → m' (Str.ofString "match") = m (Str.ofString "match") → m' (Str.ofString "ctx") = m (Str.ofString "ctx") → Q .next { s with heap := h', toks := tk' }) :
  wpAny (model PySem.Challenge.rw_ez0274_01.prog w) (AM 850 900) (assign tgt (bgEnv scope L f c' c) (.ref Ta)) (fun _ s₁ => wpAny (model PySem.Challenge.rw_ez0274_01.prog w) (AM 850 900) (exec (bgIf t1 t2 t3 t4 t6 e1 e2 tgt2 iter2 b1 a1 a2 st5 y1 y2 y3 y4 p1 p2 p3 p4 p6 p7) (bgEnv scope L f c' c)) Q (fun _ _ => False) s₁) (fun _ _ => False) s := by
  obtain ⟨d, hh1, hh2, tt1, tt2, tp, hm1, hm2⟩ := hm
  revert X; k_fill; intro X
  obtain ⟨oc, od, nm, ql, pms, bd, sc, dV, kV, doc', pm', an, cdv, ct, osl, x1, x2, x3, x4, x5, x6, hK, hpk⟩ := hDef
  refine key_of (by k_is) hK (fun e => ?_)
  cases e
  cases hpk
  k_steps
  any_goals try k_data
  exact hret _ _ _ (by assumption) (by assumption) (by rfl) (by rfl) (by rfl)
theorem b_last {w : World} {p : Program} {loose : List Str} {mean : ExcName → Option Value} {mg mb : Str → Option Value} {h₀ : Heap} {L : Addr} {m : Str → Option Value} {s : Shared} {news : List (Addr × Obj)}
  {f c' c : Addr} {name : Str} {params : Arguments} {scope : Scope} {tgt iter t1 t2 t3 t4 t6 e1 e2 tgt2 iter2 : Expr} {b1 : List Stmt} {a1 a2 st5 stL : Stmt} {y1 y2 y3 y4 p1 p2 p3 p4 p6 p7 fp : Pos} (F : Fr h₀ L s.heap m) (X : (hd.heap_39 w.params).In h₀) (N : News h₀ L s.heap news) (T : Top p loose mean mg mb h₀)
  (hDef : DefAt (hd.heap_39 w.params) 412 bgPick name params (bgBody tgt iter t1 t2 t3 t4 t6 e1 e2 tgt2 iter2 b1 a1 a2 st5 stL y1 y2 y3 y4 p1 p2 p3 p4 p6 p7 fp) scope)
  (h3 : m (Str.ofString "ctx") = some .none) {Q : Flow → Shared → Prop}
  (hret : ∀ h' tk', Fr h₀ L h' m → News h₀ L h' news → Q .next { s with heap := h', toks := tk' }) :
  wpAny (model PySem.Challenge.rw_ez0274_01.prog w) (AM 850 900) (exec stL (bgEnv scope L f c' c)) Q (fun _ _ => False) s := by
  revert X; k_fill; intro X
  obtain ⟨oc, od, nm, ql, pms, bd, sc, dV, kV, doc', pm', an, cdv, ct, osl, x1, x2, x3, x4, x5, x6, hK, hpk⟩ := hDef
  refine key_of (by k_is) hK (fun e => ?_)
  cases e
  cases hpk
  k_steps
  any_goals try k_data
  exact hret _ _ (by assumption) (by assumption)

end
section
local macro_rules | `(tactic| k_enter) => `(tactic| (refine' code_genC ?k2 ?k4 ?k5 ?k6 ?k7 ?k8 ?k9 ?kB ?_ ?c2 ?c3 ?c4 ?c5; (case k2 => k_asm); (case k4 => k_asm); (case k5 => k_asm); (case k6 => k_mem); (case k7 => exact codeRec_news (by k_asm) (by k_mem) (by assumption) (by assumption)); (case k8 => k_room); (case k9 => first | exact BindsTo.of_eq rfl | (refine' kdv_binds ?N ?m ?d ?h1 ?h2; (case d => exact rfl); (case N => k_asm); (case m => k_mem); (case h1 => exact rfl); (case h2 => exact rfl))); (case c5 => decide); (case kB => exact locs rfl); (case c2 => exact rfl); (case c3 => exact rfl); (case c4 => exact rfl); k_whole; intro L' I' oL' t1' t2' h' tk' F' N' l1 l2' nsL hb1 hb2; (try k_lt l1); (try dsimp only)))
local macro_rules | `(tactic| walk_at "callWith ref") => `(tactic| (k_here; (with_reducible show wpAny _ _ (callWith _ (Value.ref _) _ _ _) _ _ _); k_dflt (refine' callWith_F ?X ?_; (case X => exact FnAt.of (by k_asm) (by k_mem)); k_whole)))
local macro_rules | `(tactic| walk_at "And") => `(tactic| (k_dflt (refine ⟨FnAt.of (by k_asm) (by k_mem), ?_⟩)))
theorem b_use {w : World} {p : Program} {loose : List Str} {mean : ExcName → Option Value} {mg mb : Str → Option Value} {h₀ : Heap} {L : Addr} {m : Str → Option Value} {s : Shared} {Q E : Value → Shared → Prop} {news : List (Addr × Obj)}
  {f c' c mt l Ta g gc gc' gdT self : Addr} {e i : Nat} {ps : List (Option (Str × Tok))} {x : Str} {tx tk1 : Tok} {name nameU : Str} {params paramsU : Arguments} {scope scopeU : Scope} {bodyU : List Stmt} {docU pmU ctvU : Value} {ocU : Obj} {vsU : Array Value} {tU : Tok} {tgt iter t1 t2 t3 t4 t6 e1 e2 tgt2 iter2 : Expr} {b1 : List Stmt} {a1 a2 st5 stL : Stmt} {y1 y2 y3 y4 p1 p2 p3 p4 p6 p7 fp : Pos} (F : Fr h₀ L s.heap m) (X : (hd.heap_39 w.params).In h₀) (N : News h₀ L s.heap news) (T : Top p loose mean mg mb h₀)
  (hDef : DefAt (hd.heap_39 w.params) 412 bgPick name params (bgBody tgt iter t1 t2 t3 t4 t6 e1 e2 tgt2 iter2 b1 a1 a2 st5 stL y1 y2 y3 y4 p1 p2 p3 p4 p6 p7 fp) scope)
  (hDefU : DefAt (hd.heap_39 w.params) 435 usPick nameU paramsU bodyU scopeU)
  (hT : (Ta, tupO [.int i tk1, .ref g]) ∈ news) (hg : (g, kdv_obj nameU usQual paramsU (.stmts bodyU) scopeU [(Str.ofString "gt_kwargs", gc)] (.ref gdT) docU pmU gc' ctvU) ∈ news) (hdT : (gdT, tupO [.none]) ∈ news)
  (hcU1 : (gc', ocU) ∈ news) (hcU2 : ocU.data = .fields vsU) (hcU3 : vsU[1]? = some (.str usQual tU))
  (hm : MatIn news mt l) (hl : (l, listOf (piecesOf ps).toArray e) ∈ news) (hn : (piecesOf ps).length ≤ 1000) (hi : ps[i]? = some (some (x, tx))) (hx : 1 ≤ x.length) (hxl : x.length ≤ 1000) (hle : ∀ q ∈ ps, (told q).length ≤ 1000)
  (h1 : m (Str.ofString "lexer") = some (.ref self)) (h2 : m (Str.ofString "match") = some (.ref mt)) (h3 : m (Str.ofString "ctx") = some .none)
  (hret : ∀ L' I oL mm dm h1' h2' t1' t2' k1' t3' t4' h' tk' m' mU tl, Fr h₀ L h' m' → News h₀ L h' ((I, genNew s.gens.size nameU usQual t1' t2') :: (L', oL) :: (mm, instObj 401 dm) :: (dm, dictOf [⟨h1', .str (Str.ofString "_text") t3', .str x tx⟩, ⟨h2', .str (Str.ofString "_start") t4', .int ((0 : Int) + ((((ps.take i).map told).map (·.length)).sum : Nat)) k1'⟩] 2) :: (tl ++ news)) →
    Above ((I, genNew s.gens.size nameU usQual t1' t2') :: (L', oL) :: (mm, instObj 401 dm) :: (dm, dictOf [⟨h1', .str (Str.ofString "_text") t3', .str x tx⟩, ⟨h2', .str (Str.ofString "_start") t4', .int ((0 : Int) + ((((ps.take i).map told).map (·.length)).sum : Nat)) k1'⟩] 2) :: tl) news → L' < I →
    NsOf oL mU → mU (Str.ofString "lexer") = some (.ref self) → mU (Str.ofString "match") = some (.ref mm) → mU (Str.ofString "ctx") = some .none → h₀.objs.size ≤ L' → mm < L' → dm < L' →
    m' (Str.ofString "lexer") = m (Str.ofString "lexer") → m' (Str.ofString "match") = m (Str.ofString "match") → m' (Str.ofString "ctx") = m (Str.ofString "ctx") →
    Q (.ref I) { s with heap := h', toks := tk', gens := s.gens.push (.fresh (.func bodyU (usEnv scopeU L' g gc' gc))) }) :
  wpAny (model PySem.Challenge.rw_ez0274_01.prog w) (AM 850 900) (assign tgt (bgEnv scope L f c' c) (.ref Ta)) (fun _ s₁ => wpAny (model PySem.Challenge.rw_ez0274_01.prog w) (AM 850 900) (isTrue t1 (bgEnv scope L f c' c) (eval t1 (bgEnv scope L f c' c))) (fun b1 s₂ => b1 = false ∧
    wpAny (model PySem.Challenge.rw_ez0274_01.prog w) (AM 850 900) (isTrue t2 (bgEnv scope L f c' c) (eval t2 (bgEnv scope L f c' c))) (fun b2 s₃ => b2 = false ∧ wpAny (model PySem.Challenge.rw_ez0274_01.prog w) (AM 850 900) (exec a2 (bgEnv scope L f c' c)) (fun f1 s₄ => f1 = .next ∧
      wpAny (model PySem.Challenge.rw_ez0274_01.prog w) (AM 850 900) (isTrue t4 (bgEnv scope L f c' c) (eval t4 (bgEnv scope L f c' c))) (fun b3 s₅ => b3 = true ∧ wpAny (model PySem.Challenge.rw_ez0274_01.prog w) (AM 850 900) (exec st5 (bgEnv scope L f c' c)) (fun f2 s₆ => f2 = .next ∧ wpAny (model PySem.Challenge.rw_ez0274_01.prog w) (AM 850 900) (eval iter2 (bgEnv scope L f c' c)) Q (fun _ _ => False) s₆) (fun _ _ => False) s₅) (fun _ _ => False) s₄) (fun _ _ => False) s₃) (fun _ _ => False) s₂) (fun _ _ => False) s₁) (fun _ _ => False) s := by
  revert X; k_fill; intro X
  obtain ⟨d, hh1, hh2, tt1, tt2, tp, hm1, hm2⟩ := hm
  have hst : (piecesOf ps)[i]? = some (piece (some (x, tx))) := piecesOf_get hi
  obtain ⟨ocX, odX, nmX, qlX, psX, bdX, scX, dVX, kVX, docX, pmX, anX, cdvX, ctX, oslX, xX1, xX2, xX3, xX4, xX5, xX6, hKX, hpX⟩ := hDefU
  refine key_of (by k_is) hKX (fun e => ?_)
  cases e
  cases hpX
  obtain ⟨oc, od, nm, ql, pms, bd, sc, dV, kV, doc', pm', an, cdv, ct, osl, x1, x2, x3, x4, x5, x6, hK, hpk⟩ := hDef
  refine key_of (by k_is) hK (fun e => ?_)
  cases e
  cases hpk
  k_steps
  any_goals try k_data
  any_goals (with_reducible try exact trivial)
  rename (∀ p, p ∈ _ ++ _ → _ < _) => ld
  rename (_ ∧ _) => lz
  have a1 := below_app (allLt_all lz.2.2)
  refine hret _ _ _ _ _ _ _ _ _ _ _ _ _ _ _ _ _ (by assumption) (by assumption) ?_ (by assumption) (by assumption) (by rfl) (by rfl) (by rfl) (by assumption) lz.1 lz.2.1 (by rfl) (by rfl) (by rfl)
  exact Above.cons (fun q hq => Nat.lt_trans (a1 q hq) (by assumption)) (Above.cons a1 (Above.cons (fun q hq => Nat.lt_trans (below_app ld q hq) (by assumption)) (Above.cons (below_app ld) (by assumption))))

end
section
theorem enum_env {h₀ : Heap} {sh const : List (Addr × Obj)} {gp : List (Nat × GenState)} {s : Shared} {L e I : Addr} {oL eo io : Obj} {m : Str → Option Value} (H : Has h₀ sh ((L, oL) :: (e, eo) :: (I, io) :: const) gp s) (hN : NsOf oL m) (hb : h₀.objs.size ≤ L) (he : e ≠ L) (hi : I ≠ L) :
    Fr h₀ L s.heap m ∧ ∃ rest, News h₀ L s.heap ((e, eo) :: (I, io) :: rest) ∧ (∀ p ∈ rest, p.1 ≠ I ∧ p.1 ≠ e) ∧ ∀ a o, s.heap.get? a = some o → h₀.get? a = none → a ≠ L → a ≠ e → a ≠ I → (a, o) ∈ rest := by
  obtain ⟨rest, r1, r2⟩ := rest_of h₀ s.heap [L, e, I]
  have ze := H.own _ (.tail _ (.head _))
  have zI := H.own _ (.tail _ (.tail _ (.head _)))
  refine ⟨⟨hN.ns (H.own _ (.head _)).1, H.base, hb⟩, rest, fun p hp => ?_, fun p hp => ?_, fun a o e1 e2 e3 e4 e5 => r2 a o e1 e2 (by simp [e3, e4, e5])⟩
  · rcases List.mem_cons.mp hp with rfl | hp
    · exact ⟨ze.1, he, ze.2⟩
    · rcases List.mem_cons.mp hp with rfl | hp
      · exact ⟨zI.1, hi, zI.2⟩
      · obtain ⟨a1, a2, a3⟩ := r1 p hp
        simp only [List.mem_cons, List.mem_nil_iff, or_false, not_or] at a3
        exact ⟨a1, a3.1, a2⟩
  · obtain ⟨a1, a2, a3⟩ := r1 p hp
    simp only [List.mem_cons, List.mem_nil_iff, or_false, not_or] at a3
    exact ⟨a3.2.2, a3.2.1⟩
section
variable {w : World} {p : Program} {loose : List Str} {mean : ExcName → Option Value} {mg mb : Str → Option Value} {h₀ : Heap} {sh const : List (Addr × Obj)} {n gB : Nat} {L f c' c mt l self D e IE : Addr} {ps : List (Option (Str × Tok))} {ep0 : Nat} {vs : List Value}
  {name : Str} {params : Arguments} {scope : Scope} {tgt iter t1 t2 t3 t4 t6 e1 e2 tgt2 iter2 : Expr} {b1 : List Stmt} {a1 a2 st5 stL : Stmt} {y1 y2 y3 y4 p1 p2 p3 p4 p6 p7 fp : Pos}
abbrev bgRoom (n : Nat) : Around := (AM (400 + n) (400 + 8 * n)).in1
theorem bg_turn (hn : n ≤ 44) (X : (hd.heap_39 w.params).In h₀) {A : Around} (hA : A.handled = none) {i : Nat} {v old : Value} {io : Obj} {rest : List (Addr × Obj)} {m : Str → Option Value} {s : Shared} {P : End → Shared → Prop} {fs : List Frame} {body : List Stmt} {env : Env} {elts : List Expr} {x1 : Nat} {pos : Pos}
    (hAo : (A.over (.forLoop (.Tuple elts x1 pos) (.ref e) body [] env) fs).handled = none) (F : Fr h₀ L s.heap m) (N : News h₀ L s.heap ((e, enumO IE (i : Nat) old) :: (IE, io) :: rest)) (hic : io.cls = .type "tuple_iterator") (hid : io.data = .fields #[.ref D, .int i 0]) (hIe : IE ≠ e) (hne : ∀ p ∈ rest, p.1 ≠ IE ∧ p.1 ≠ e) (hD : (D, tupO vs) ∈ rest) (hv : vs[i]? = some v)
    (h : ∀ Ta io' tk1 tk h', Fr h₀ L h' m → News h₀ L h' ((Ta, tupO [.int i tk1, v]) :: (e, enumO IE ((i + 1 : Nat) : Int) v) :: (IE, io') :: rest) → io'.cls = .type "tuple_iterator" → io'.data = .fields #[.ref D, .int (i + 1 : Nat) 0] → (∀ q ∈ (e, enumO IE (i : Nat) old) :: (IE, io) :: rest, q.1 < Ta) →
      wpT (model PySem.Challenge.rw_ez0274_01.prog w) (A.over (.forLoop (.Tuple elts x1 pos) (.ref e) body [] env) fs) (assign (.Tuple elts x1 pos) env (.ref Ta)) (fun _ s₂ => SegT (model PySem.Challenge.rw_ez0274_01.prog w) A (.forLoop (.Tuple elts x1 pos) (.ref e) body [] env) ((execs body env).wrap (fun f => match f with
            | .next | .cont => .pure (.again (.forLoop (.Tuple elts x1 pos) (.ref e) body [] env))
            | .brk => .pure (.done .next)
            | .ret v => .pure (.done (.ret v))) (bad env) id id) fs s₂ P) (fun _ _ => False) { s with heap := h', toks := tk }) :
    SegT (model PySem.Challenge.rw_ez0274_01.prog w) A (.forLoop (.Tuple elts x1 pos) (.ref e) body [] env) ((model PySem.Challenge.rw_ez0274_01.prog w).den (.forLoop (.Tuple elts x1 pos) (.ref e) body [] env)) fs s P := by
  refine seg_forTurn (wpT_of (wpAny_mono (enum_turn (E := fun _ _ => False) (elts := elts) (x1 := x1) (pos := pos) (Q := fun Ta s' => wpT (model PySem.Challenge.rw_ez0274_01.prog w) (A.over (.forLoop (.Tuple elts x1 pos) (.ref e) body [] env) fs) (assign (.Tuple elts x1 pos) env (.ref Ta)) (fun _ s₂ => SegT (model PySem.Challenge.rw_ez0274_01.prog w) A (.forLoop (.Tuple elts x1 pos) (.ref e) body [] env) ((execs body env).wrap (fun f => match f with
            | .next | .cont => .pure (.again (.forLoop (.Tuple elts x1 pos) (.ref e) body [] env))
            | .brk => .pure (.done .next)
            | .ret v => .pure (.done (.ret v))) (bad env) id id) fs s₂ P) (fun _ _ => False) s') hAo F N hic hid hIe hne hD hv (fun Ta io' tk1 tk h' a1 a2 a3 a4 a5 => h Ta io' tk1 tk h' a1 a2 a3 a4 a5)) (fun r s' x => ?_) fun _ _ x => x))
  obtain ⟨Ta, rfl, x⟩ := x
  exact wpT_of x
end

end
section
theorem enum_next {h₀ : Heap} {sh const : List (Addr × Obj)} {gp : List (Nat × GenState)} {s : Shared} {L e I : Addr} {oL eo io eo' io' : Obj} {m' : Str → Option Value} {h' : Heap} {tk : Nat} {tl rest : List (Addr × Obj)} {tt : Addr × Obj} (H : Has h₀ sh ((L, oL) :: (e, eo) :: (I, io) :: const) gp s)
    (F' : Fr h₀ L h' m') (N' : News h₀ L h' (tl ++ tt :: (e, eo') :: (I, io') :: rest)) (hr : ∀ a o, s.heap.get? a = some o → h₀.get? a = none → a ≠ L → a ≠ e → a ≠ I → (a, o) ∈ rest) (hcon : ∀ q ∈ const, q ∈ rest) (hsh : ∀ q ∈ sh, q ∈ rest) :
    ∃ oL', NsOf oL' m' ∧ h'.get? L = some oL' ∧ (∀ a o, s.heap.get? a = some o → (∀ p ∈ (L, oL) :: (e, eo) :: (I, io) :: const, p.1 ≠ a) → h'.get? a = some o) ∧ (∀ p ∈ (L, oL') :: (e, eo') :: (I, io') :: const, ∃ q ∈ (L, oL) :: (e, eo) :: (I, io) :: const, q.1 = p.1) ∧
      (∀ p ∈ (L, oL') :: (e, eo') :: (I, io') :: const, h'.get? p.1 = some p.2 ∧ h₀.get? p.1 = none) ∧ (∀ q ∈ sh, h'.get? q.1 = some q.2) ∧
      Moves h₀ ((L, oL) :: (e, eo) :: (I, io) :: const) ((L, oL') :: (e, eo') :: (I, io') :: const) gp gp s { s with heap := h', toks := tk } ∧ Has h₀ sh ((L, oL') :: (e, eo') :: (I, io') :: const) gp { s with heap := h', toks := tk } := by
  obtain ⟨oL', e1, e2⟩ := NsOf.of F'.ns
  have inr : ∀ q ∈ rest, h'.get? q.1 = some q.2 ∧ h₀.get? q.1 = none := fun q hq => by
    have z := N' q (List.mem_append_right _ (.tail _ (.tail _ (.tail _ hq))))
    exact ⟨z.1, z.2.2⟩
  have hk : ∀ a o, s.heap.get? a = some o → (∀ p ∈ (L, oL) :: (e, eo) :: (I, io) :: const, p.1 ≠ a) → h'.get? a = some o := fun a o h1 h2 => by
    cases h3 : h₀.get? a with
    | none => exact (inr _ (hr a o h1 h3 (h2 _ (.head _)).symm (h2 _ (.tail _ (.head _))).symm (h2 _ (.tail _ (.tail _ (.head _)))).symm)).1
    | some o' =>
      have z := H.base a o' h3
      rw [h1] at z; cases z
      exact F'.keep a o h3
  have hf : ∀ p ∈ (L, oL') :: (e, eo') :: (I, io') :: const, ∃ q ∈ (L, oL) :: (e, eo) :: (I, io) :: const, q.1 = p.1 := fun p hp => by
    rcases List.mem_cons.mp hp with rfl | hp
    · exact ⟨_, .head _, rfl⟩
    · rcases List.mem_cons.mp hp with rfl | hp
      · exact ⟨_, .tail _ (.head _), rfl⟩
      · rcases List.mem_cons.mp hp with rfl | hp
        · exact ⟨_, .tail _ (.tail _ (.head _)), rfl⟩
        · exact ⟨p, .tail _ (.tail _ (.tail _ hp)), rfl⟩
  have hown : ∀ p ∈ (L, oL') :: (e, eo') :: (I, io') :: const, h'.get? p.1 = some p.2 ∧ h₀.get? p.1 = none := fun p hp => by
    rcases List.mem_cons.mp hp with rfl | hp
    · exact ⟨e1, (H.own _ (.head _)).2⟩
    · rcases List.mem_cons.mp hp with rfl | hp
      · have z := N' _ (List.mem_append_right _ (.tail _ (.head _)))
        exact ⟨z.1, z.2.2⟩
      · rcases List.mem_cons.mp hp with rfl | hp
        · have z := N' _ (List.mem_append_right _ (.tail _ (.tail _ (.head _))))
          exact ⟨z.1, z.2.2⟩
        · exact inr p (hcon p hp)
  have hsh' : ∀ q ∈ sh, h'.get? q.1 = some q.2 := fun q hq => (inr q (hsh q hq)).1
  exact ⟨oL', e2, e1, hk, hf, hown, hsh', moves_new hk fun p hp => .inl (hf p hp), has_new H F'.keep hsh' hown (fun p hp => .inl (hf p hp)) H.gens⟩
section
variable {w : World} {p : Program} {loose : List Str} {mean : ExcName → Option Value} {mg mb : Str → Option Value} {h₀ : Heap} {sh const : List (Addr × Obj)} {n gB : Nat} {L f c' c mt l self D e IE : Addr} {ps : List (Option (Str × Tok))} {ep0 : Nat} {vs : List Value}
  {name : Str} {params : Arguments} {scope : Scope} {iter t1 t2 t3 t4 t6 e1 e2 tgt2 iter2 : Expr} {elts : List Expr} {tx1 : Nat} {tpos : Pos} {b1 : List Stmt} {a1 a2 st5 stL : Stmt} {y1 y2 y3 y4 p1 p2 p3 p4 p6 p7 fp : Pos}
theorem b_sw (hn : n ≤ 43) (X : (hd.heap_39 w.params).In h₀) (T : Top p loose mean mg mb h₀) (hL : h₀.objs.size ≤ L)
    (hDef : DefAt (hd.heap_39 w.params) 412 bgPick name params (bgBody (.Tuple elts tx1 tpos) iter t1 t2 t3 t4 t6 e1 e2 tgt2 iter2 b1 a1 a2 st5 stL y1 y2 y3 y4 p1 p2 p3 p4 p6 p7 fp) scope)
    (hD : (D, tupO vs) ∈ sh) (hm : MatIn sh mt l) (hl : (l, listOf (piecesOf ps).toArray ep0) ∈ sh) (hlen : (piecesOf ps).length ≤ 1000) (hle : ∀ q ∈ ps, (told q).length ≤ 1000) (hself : ∃ td, LexIn sh self td)
    (heL : e ≠ L) (hIL : IE ≠ L) (hIe : IE ≠ e) (hcd : ∀ q ∈ const, q.1 ≠ L ∧ q.1 ≠ e ∧ q.1 ≠ IE) (hot : ∀ q ∈ const, q.2.cls ≠ .type "tuple") {cf : List Stmt} {pO : Pos} :
    ∀ (rem : List (Value × List Tk)) (i : Nat) (old : Value) (io oL : Obj) (m : Str → Option Value), i ≤ vs.length → vs.drop i = rem.map Prod.fst → (∀ j x, rem[j]? = some x → ActOk w h₀ sh n self ps (i + j) x.1 x.2) → NsOf oL m → BgM m self mt → io.cls = .type "tuple_iterator" → io.data = .fields #[.ref D, .int i 0] →
      SW PySem.Challenge.rw_ez0274_01.prog w h₀ sh n gB (rem.flatMap Prod.snd) ((L, oL) :: (e, enumO IE (i : Nat) old) :: (IE, io) :: const) [] (bgFor (.Tuple elts tx1 tpos) t1 t2 t3 t4 t6 e1 e2 tgt2 iter2 b1 a1 a2 st5 y1 y2 y3 y4 p1 p2 p3 p4 p6 p7 e (bgEnv scope L f c' c))
        ((model PySem.Challenge.rw_ez0274_01.prog w).den (bgFor (.Tuple elts tx1 tpos) t1 t2 t3 t4 t6 e1 e2 tgt2 iter2 b1 a1 a2 st5 y1 y2 y3 y4 p1 p2 p3 p4 p6 p7 e (bgEnv scope L f c' c))) [usFrame (bgEnv scope L f c' c) stL (.func cf (bgEnv scope L f c' c)) pO] := by
  intro rem
  have fit1 : ∀ {b : List Stmt}, Fits ((bgRoom n).over (.forLoop (.Tuple elts tx1 tpos) (.ref e) b [] (bgEnv scope L f c' c)) [usFrame (bgEnv scope L f c' c) stL (.func cf (bgEnv scope L f c' c)) pO]) 850 900 := by
    intro b
    refine ⟨rfl, ?_, ?_⟩
    · show 400 + n + 1 + 0 ≤ 850
      omega
    · show 400 + 8 * n + 1 + 3 + 0 ≤ 900
      omega
  induction rem with
  | nil =>
    intro i old io oL m hi hdr hact hNs hbm hic hid s P H hrun hgU hP
    obtain ⟨F, rest, N, hne, hr⟩ := enum_env H hNs hL heL hIL
    have hsh : ∀ q ∈ sh, q ∈ rest := fun q hq => hr _ _ (H.shared q hq).1 (H.shared q hq).2 (H.apart _ (.head _) q hq) (H.apart _ (.tail _ (.head _)) q hq) (H.apart _ (.tail _ (.tail _ (.head _))) q hq)
    obtain rfl : i = vs.length := by
      have z := congrArg List.length hdr
      simp only [List.length_drop, List.map_nil, List.length_nil] at z
      omega
    refine seg_forTurn (wpT_of (enum_end (t := D) rfl F N hic hid hne hIe (hsh _ hD) fun h1 F1 N1 => ?_))
    refine seg_nil (seg_retT (r := .ok .next) ?_)
    show SegT _ _ _ (usNext _ _ .next) _ _ _
    unfold usNext
    simp only
    refine seg_cons (seg_any (d := 850) (u := 900) ⟨rfl, ?_, ?_⟩ ?_)
    · show 400 + n + 0 + 1 ≤ 850
      omega
    · show 400 + 8 * n + 1 + 0 + 3 ≤ 900
      omega
    refine b_last F1 X N1 T hDef hbm.2.2 fun h' tk' F' N' => ?_
    refine seg_nil (seg_endT (.ok (.ret .none)) (hP _ (moves_new (fp' := []) (fun a o g1 g2 => ?_) fun q hq => (nomatch hq))))
    cases h3 : h₀.get? a with
    | none => exact (N' _ (.tail _ (hr a o g1 h3 (g2 _ (.head _)).symm (g2 _ (.tail _ (.head _))).symm (g2 _ (.tail _ (.tail _ (.head _)))).symm))).1
    | some o' =>
      have z := H.base a o' h3
      rw [g1] at z; cases z
      exact F'.keep a o h3
  | cons va rem ih =>
    obtain ⟨v, toks⟩ := va
    intro i old io oL m hi hdr hact hNs hbm hic hid
    have hv : vs[i]? = some v := by
      have z : (vs.drop i)[0]? = some v := by rw [hdr]; rfl
      simpa using z
    have hi' : i + 1 ≤ vs.length := (List.getElem?_eq_some_iff.mp hv).1
    have hdr' : vs.drop (i + 1) = rem.map Prod.fst := by
      have z := congrArg List.tail hdr
      simpa [List.tail_drop] using z
    have hact' : ∀ j x, rem[j]? = some x → ActOk w h₀ sh n self ps (i + 1 + j) x.1 x.2 := fun j x hx => by
      have z := hact (j + 1) x (by simpa using hx)
      rwa [show i + (j + 1) = i + 1 + j by omega] at z
    have ih' := fun old io oL m hNs hbm hic hid => ih (i + 1) old io oL m hi' hdr' hact' hNs hbm hic hid
    have hA := hact 0 (v, toks) rfl
    simp only [Nat.add_zero] at hA
    have start : ∀ {s : Shared} {P : End → Shared → Prop}, Has h₀ sh ((L, oL) :: (e, enumO IE (i : Nat) old) :: (IE, io) :: const) [] s →
        (∀ Ta io' tk1 tk h' rest, Fr h₀ L h' m → News h₀ L h' ((Ta, tupO [.int i tk1, v]) :: (e, enumO IE ((i + 1 : Nat) : Int) v) :: (IE, io') :: rest) → io'.cls = .type "tuple_iterator" → io'.data = .fields #[.ref D, .int (i + 1 : Nat) 0] → (∀ a o, s.heap.get? a = some o → h₀.get? a = none → a ≠ L → a ≠ e → a ≠ IE → (a, o) ∈ rest) → (∀ q ∈ sh, q ∈ rest) → (∀ q ∈ const, q ∈ rest) →
          wpT (model PySem.Challenge.rw_ez0274_01.prog w) ((bgRoom n).over (bgFor (.Tuple elts tx1 tpos) t1 t2 t3 t4 t6 e1 e2 tgt2 iter2 b1 a1 a2 st5 y1 y2 y3 y4 p1 p2 p3 p4 p6 p7 e (bgEnv scope L f c' c)) [usFrame (bgEnv scope L f c' c) stL (.func cf (bgEnv scope L f c' c)) pO]) (assign (.Tuple elts tx1 tpos) (bgEnv scope L f c' c) (.ref Ta)) (fun _ s₂ => SegT (model PySem.Challenge.rw_ez0274_01.prog w) (bgRoom n) (bgFor (.Tuple elts tx1 tpos) t1 t2 t3 t4 t6 e1 e2 tgt2 iter2 b1 a1 a2 st5 y1 y2 y3 y4 p1 p2 p3 p4 p6 p7 e (bgEnv scope L f c' c))
            ((execs [bgIf t1 t2 t3 t4 t6 e1 e2 tgt2 iter2 b1 a1 a2 st5 y1 y2 y3 y4 p1 p2 p3 p4 p6 p7] (bgEnv scope L f c' c)).wrap (fun f_1 => match f_1 with
              | .next | .cont => .pure (.again (bgFor (.Tuple elts tx1 tpos) t1 t2 t3 t4 t6 e1 e2 tgt2 iter2 b1 a1 a2 st5 y1 y2 y3 y4 p1 p2 p3 p4 p6 p7 e (bgEnv scope L f c' c)))
              | .brk => .pure (.done .next)
              | .ret v => .pure (.done (.ret v))) (bad (bgEnv scope L f c' c)) id id) [usFrame (bgEnv scope L f c' c) stL (.func cf (bgEnv scope L f c' c)) pO] s₂ P) (fun _ _ => False) { s with heap := h', toks := tk }) →
        SegT (model PySem.Challenge.rw_ez0274_01.prog w) (bgRoom n) (bgFor (.Tuple elts tx1 tpos) t1 t2 t3 t4 t6 e1 e2 tgt2 iter2 b1 a1 a2 st5 y1 y2 y3 y4 p1 p2 p3 p4 p6 p7 e (bgEnv scope L f c' c)) ((model PySem.Challenge.rw_ez0274_01.prog w).den (bgFor (.Tuple elts tx1 tpos) t1 t2 t3 t4 t6 e1 e2 tgt2 iter2 b1 a1 a2 st5 y1 y2 y3 y4 p1 p2 p3 p4 p6 p7 e (bgEnv scope L f c' c))) [usFrame (bgEnv scope L f c' c) stL (.func cf (bgEnv scope L f c' c)) pO] s P := by
      intro s P H hgo
      obtain ⟨F, rest, N, hne, hr⟩ := enum_env H hNs hL heL hIL
      have hsh : ∀ q ∈ sh, q ∈ rest := fun q hq => hr _ _ (H.shared q hq).1 (H.shared q hq).2 (H.apart _ (.head _) q hq) (H.apart _ (.tail _ (.head _)) q hq) (H.apart _ (.tail _ (.tail _ (.head _))) q hq)
      have hcn : ∀ q ∈ const, q ∈ rest := fun q hq => by
        have z := H.own q (.tail _ (.tail _ (.tail _ hq)))
        exact hr _ _ z.1 z.2 (hcd q hq).1 (hcd q hq).2.1 (hcd q hq).2.2
      exact bg_turn (n := n) (by omega) X rfl rfl F N hic hid hIe hne (hsh _ hD) hv fun Ta io' tk1 tk h' F1 N1 hic' hid' _ => hgo Ta io' tk1 tk h' rest F1 N1 hic' hid' hr hsh hcn
    cases hA with
    | none =>
      refine SW.before fun s P H hrun hgU cont => start H fun Ta io' tk1 tk h1 rest F1 N1 hic' hid' hr hsh hcn => ?_
      refine assign_cmd fit1 (b_none (mt := 0) (l := 0) F1 X N1 T hDef (.head _) fun m' h' tk' F' N' ma mb' mc => ?_)
      obtain ⟨oL', hNs', _, _, _, _, _, hM, hH⟩ := enum_next (tl := []) (tk := tk') H F' N' hr hcn hsh
      exact seg_againT rfl (cont _ _ _ _ _ _ hM hH (ih' _ _ _ _ hNs' (hbm.of ma mb' mc) hic' hid'))
    | silent ha hda hi0 =>
      refine SW.before fun s P H hrun hgU cont => start H fun Ta io' tk1 tk h1 rest F1 N1 hic' hid' hr hsh hcn => ?_
      have up : ∀ {x y z : Addr × Obj}, ∀ q ∈ rest, q ∈ x :: y :: z :: rest := fun q hq => .tail _ (.tail _ (.tail _ hq))
      refine assign_cmd fit1 (b_kind0 F1 X N1 T hDef (.head _) (up _ (hsh _ ha)) (up _ (hsh _ hda)) (hm.mono fun q hq => up q (hsh q hq)) (up _ (hsh _ hl)) hlen hi0 hbm.2.1 fun m' h' tk' F' N' ma mb' mc => ?_)
      obtain ⟨oL', hNs', _, _, _, _, _, hM, hH⟩ := enum_next (tl := []) (tk := tk') H F' N' hr hcn hsh
      exact seg_againT rfl (cont _ _ _ _ _ _ hM hH (ih' _ _ _ _ hNs' (hbm.of ma mb' mc) hic' hid'))
    | kind ha hda hi0 hx hxl =>
      intro s P H hrun hgU hP
      refine start H fun Ta io' tk1 tk h1 rest F1 N1 hic' hid' hr hsh hcn => ?_
      have up : ∀ {x y z : Addr × Obj}, ∀ q ∈ rest, q ∈ x :: y :: z :: rest := fun q hq => .tail _ (.tail _ (.tail _ hq))
      refine assign_kind rfl rfl rfl fit1 (bg_scope X hDef).co (bg_scope X hDef).quiet (b_kind (E := fun _ _ => False) F1 X N1 T hDef (.head _) (up _ (hsh _ ha)) (up _ (hsh _ hda)) (hm.mono fun q hq => up q (hsh q hq)) (up _ (hsh _ hl)) hlen hi0 hx hxl hle hbm.2.1 hbm.2.2 fun b k1' k2' m' h' tk' tl F' N' hab ma mb' mc pp' ll k hk => ?_)
      obtain ⟨oL', hNs', _, _, _, hown, _, hM, hH⟩ := enum_next (tl := _ :: tl) (tk := tk') H F' N' hr hcn hsh
      have hb := N' _ (.head _)
      refine hP _ false ll k _ pp' _ _ _ [] ⟨b, k1', k2', rfl, hb.1, hb.2.2, fun q hq eq => ?_⟩ hM hH ((ih' _ _ _ _ hNs' (hbm.of ma mb' mc) hic' hid').map fun A' s₃ P' x => hk A' s₃ P' (seg_againT rfl x))
      rcases List.mem_cons.mp hq with rfl | hq
      · exact hb.2.1 eq.symm
      · have big := hab _ (.head _)
        rcases List.mem_cons.mp hq with rfl | hq
        · exact Nat.ne_of_lt (big _ (.tail _ (.head _))) eq
        · rcases List.mem_cons.mp hq with rfl | hq
          · exact Nat.ne_of_lt (big _ (.tail _ (.tail _ (.head _)))) eq
          · exact Nat.ne_of_lt (big q (up _ (hcn q hq))) eq
    | @use g gc gc' gdT nameU paramsU bodyU scopeU docU pmU ctvU ocU vsU tU oc gk ogk stk x tx ts hDU hg hgd hc1 hc2 hc3 hgc hgcd hgk hgkd hgs hi0 hx hxl hW =>
      obtain ⟨_, s1, s2, tgtU, iterU, eU, ypU, epU, fpU, st4, rfl⟩ := us_shape X hDU
      obtain ⟨td, hself⟩ := hself
      refine SW.before fun s P H hrun hgU cont => start H fun Ta io' tk1 tk h1 rest F1 N1 hic' hid' hr hsh hcn => ?_
      have up : ∀ {x y z : Addr × Obj}, ∀ q ∈ rest, q ∈ x :: y :: z :: rest := fun q hq => .tail _ (.tail _ (.tail _ hq))
      refine assign_use fit1 (bg_fold X hDef _).2.1.pure (b_use (E := fun _ _ => False) F1 X N1 T hDef hDU (.head _) (up _ (hsh _ hg)) (up _ (hsh _ hgd)) (up _ (hsh _ hc1)) hc2 hc3 (hm.mono fun q hq => up q (hsh q hq)) (up _ (hsh _ hl)) hlen hi0 hx hxl hle hbm.1 hbm.2.1 hbm.2.2
        fun L' I oLU mm dm h1' h2' t1' t2' k1' t3' t4' h' tk' m' mU tl F' N' hab hlt hNsU u1 u2 u3 hL' hmm hdm ma mb' mc => ?_)
      have nI := N' _ (.head _)
      have nL := N' _ (.tail _ (.head _))
      have nM := N' _ (.tail _ (.tail _ (.head _)))
      have nD := N' _ (.tail _ (.tail _ (.tail _ (.head _))))
      refine wpAny_pyIter_genS (g := s.gens.size) (genLike nI.1) fun pp K' hK' => ?_
      obtain ⟨oL', hNs', hoL', hk, hf, hown, hsh', _, _⟩ := enum_next (tl := _ :: _ :: _ :: _ :: tl) (tk := tk') H F' N' hr hcn hsh
      have aI := hab _ (.head _)
      have aL := hab _ (.tail _ (.head _))
      have aM := hab _ (.tail _ (.tail _ (.head _)))
      have aD := hab _ (.tail _ (.tail _ (.tail _ (.head _))))
      have big : ∀ r ∈ (e, enumO IE ((i + 1 : Nat) : Int) (.ref g)) :: (IE, io') :: const, r.1 < L' ∧ r.1 < mm ∧ r.1 < dm ∧ r.1 < I := fun r hr' => by
        have z : r ∈ (Ta, tupO [.int i tk1, .ref g]) :: (e, enumO IE ((i + 1 : Nat) : Int) (.ref g)) :: (IE, io') :: rest := by
          rcases List.mem_cons.mp hr' with rfl | hr'
          · exact .tail _ (.head _)
          · rcases List.mem_cons.mp hr' with rfl | hr'
            · exact .tail _ (.tail _ (.head _))
            · exact up r (hcn r hr')
        exact ⟨aL r z, aM r z, aD r z, aI r z⟩
      have live : ∀ q, s.heap.get? q ≠ none → q ≠ I ∧ q ≠ L' ∧ q ≠ mm ∧ q ≠ dm := fun q hq => by
        obtain ⟨o, ho⟩ : ∃ o, s.heap.get? q = some o := by cases z : s.heap.get? q with | none => exact absurd z hq | some o => exact ⟨o, rfl⟩
        have key : ∀ y oy, (y, oy) ∈ (I, genNew s.gens.size nameU usQual t1' t2') :: (L', oLU) :: (mm, instObj 401 dm) :: (dm, dictOf [⟨h1', .str (Str.ofString "_text") t3', .str x tx⟩, ⟨h2', .str (Str.ofString "_start") t4', .int ((0 : Int) + ((((ps.take i).map told).map (·.length)).sum : Nat)) k1'⟩] 2) :: tl → q ≠ y := fun y oy hy e0 => by
          subst e0
          have n2 := (N' (q, oy) (List.mem_append_left (bs := (Ta, tupO [.int i tk1, .ref g]) :: (e, enumO IE ((i + 1 : Nat) : Int) (.ref g)) :: (IE, io') :: rest) hy))
          by_cases q1 : q = e
          · subst q1
            have z := hab _ hy (q, enumO IE ((i + 1 : Nat) : Int) (.ref g)) (.tail _ (.head _))
            exact Nat.lt_irrefl _ z
          · by_cases q2 : q = IE
            · subst q2
              have z := hab _ hy (q, io') (.tail _ (.tail _ (.head _)))
              exact Nat.lt_irrefl _ z
            · have z := hab _ hy _ (up _ (hr q o ho n2.2.2 n2.2.1 q1 q2))
              exact Nat.lt_irrefl _ z
        exact ⟨key _ _ (.head _), key _ _ (.tail _ (.head _)), key _ _ (.tail _ (.tail _ (.head _))), key _ _ (.tail _ (.tail _ (.tail _ (.head _))))⟩
      have none : ∀ q, q = I ∨ q = L' ∨ q = mm ∨ q = dm → s.heap.get? q = Option.none := fun q hq => by
        cases z : s.heap.get? q with
        | none => rfl
        | some o =>
          have y := live q (by rw [z]; nofun)
          rcases hq with rfl | rfl | rfl | rfl
          · exact absurd rfl y.1
          · exact absurd rfl y.2.1
          · exact absurd rfl y.2.2.1
          · exact absurd rfl y.2.2.2
      have hin := b_in (hn := by omega) X T hL hDef (gB := gB) (gU := s.gens.size) (IU := I) (nm := nameU) (qn := usQual) (x1 := t1') (x2 := t2') (own := (e, enumO IE ((i + 1 : Nat) : Int) (.ref g)) :: (IE, io') :: const) (tail := rem.flatMap Prod.snd) (K' := K') (pp := pp) (sh := sh) (mt := mt) (self := self)
        (tO := (model PySem.Challenge.rw_ez0274_01.prog w).den (bgFor (.Tuple elts tx1 tpos) t1 t2 t3 t4 t6 e1 e2 tgt2 iter2 b1 a1 a2 st5 y1 y2 y3 y4 p1 p2 p3 p4 p6 p7 e (bgEnv scope L f c' c))) (fun A s P y => hK' A s P (seg_againT rfl y)) (fun m oL hNs hbm => ih' _ _ _ _ hNs hbm hic' hid') nI.2.1 (fun q hq => ?_) (fun q hq => ?_) (ts.map (shift ((0 : Int) + ((((ps.take i).map told).map (·.length)).sum : Nat)))) ((L', oLU) :: [(mm, instObj 401 dm), (dm, dictOf [⟨h1', .str (Str.ofString "_text") t3', .str x tx⟩, ⟨h2', .str (Str.ofString "_start") t4', .int ((0 : Int) + ((((ps.take i).map told).map (·.length)).sum : Nat)) k1'⟩] 2)]) [(s.gens.size, .fresh (.func [s1, s2, .For tgtU iterU [.Expr (.Yield (some eU) ypU) epU] [] fpU, st4] (usEnv scopeU L' g gc' gc)))] m' oL'
        (will_of_sw (n := n + 1) (by omega) T.nolimit (u_fresh (n := n + 1) (by omega) X T hL' hDU hself ⟨dm, h1', h2', t3', t4', tx, k1', .head _, .tail _ (.head _)⟩ hgc hgcd hgk hgkd hgs u1 u2 u3 hNsU (fun q hq => ?_) (fun q hq => ?_) (hW sh fun _ h => h)) (.fresh rfl rfl rfl) (fun q hq => (nomatch hq))) hNs' (hbm.of ma mb' mc) (fun q hq r hr' => ?_)
      · have hfr : ∀ q ∈ (L, oL') :: ((I, genNew s.gens.size nameU usQual t1' t2') :: ((e, enumO IE ((i + 1 : Nat) : Int) (.ref g)) :: (IE, io') :: const) ++ ((L', oLU) :: [(mm, instObj 401 dm), (dm, dictOf [⟨h1', .str (Str.ofString "_text") t3', .str x tx⟩, ⟨h2', .str (Str.ofString "_start") t4', .int ((0 : Int) + ((((ps.take i).map told).map (·.length)).sum : Nat)) k1'⟩] 2)])), (∃ r ∈ (L, oL) :: (e, enumO IE (i : Nat) old) :: (IE, io) :: const, r.1 = q.1) ∨ s.heap.get? q.1 = Option.none := by
          intro q hq
          rcases List.mem_cons.mp hq with rfl | hq
          · exact .inl ⟨_, .head _, rfl⟩
          · rcases List.mem_append.mp hq with hq | hq
            · rcases List.mem_cons.mp hq with rfl | hq
              · exact .inr (none _ (.inl rfl))
              · exact .inl (hf q (.tail _ hq))
            · rcases List.mem_cons.mp hq with rfl | hq
              · exact .inr (none _ (.inr (.inl rfl)))
              · rcases List.mem_cons.mp hq with rfl | hq
                · exact .inr (none _ (.inr (.inr (.inl rfl))))
                · rcases List.mem_singleton.mp hq with rfl
                  exact .inr (none _ (.inr (.inr (.inr rfl))))
        refine cont _ _ _ _ _ _ (moves_push (s := s) (tk := tk') (h' := h') (fun a o g1 g2 => hk a o g1 g2) hfr) (has_new (s := s) (tk := tk') (h' := h') H F'.keep hsh' (fun q hq => ?_) hfr (fun q hq => ?_)) hin
        · rcases List.mem_cons.mp hq with rfl | hq
          · exact hown _ (.head _)
          · rcases List.mem_append.mp hq with hq | hq
            · rcases List.mem_cons.mp hq with rfl | hq
              · exact ⟨nI.1, nI.2.2⟩
              · exact hown q (.tail _ hq)
            · rcases List.mem_cons.mp hq with rfl | hq
              · exact ⟨nL.1, nL.2.2⟩
              · rcases List.mem_cons.mp hq with rfl | hq
                · exact ⟨nM.1, nM.2.2⟩
                · rcases List.mem_singleton.mp hq with rfl
                  exact ⟨nD.1, nD.2.2⟩
        · rcases List.mem_singleton.mp hq with rfl
          exact Array.getElem?_push_size
      · rcases List.mem_cons.mp hq with rfl | hq
        · exact heL
        · rcases List.mem_cons.mp hq with rfl | hq
          · exact hIL
          · exact (hcd q hq).1
      · rcases List.mem_cons.mp hq with rfl | hq
        · exact fun z => absurd (Value.type.inj z) (by decide)
        · rcases List.mem_cons.mp hq with rfl | hq
          · rw [hic']
            exact fun z => absurd (Value.type.inj z) (by decide)
          · exact hot q hq
      · rcases List.mem_cons.mp hq with rfl | hq
        · exact Nat.ne_of_lt hmm
        · rcases List.mem_singleton.mp hq with rfl
          exact Nat.ne_of_lt hdm
      · exact (live q.1 (by rw [(H.shared q hq).1]; nofun)).2.1
      · have hqI : q.1 < I := by
          rcases List.mem_cons.mp hq with rfl | hq
          · exact hlt
          · rcases List.mem_cons.mp hq with rfl | hq
            · exact Nat.lt_trans hmm hlt
            · rcases List.mem_singleton.mp hq with rfl
              exact Nat.lt_trans hdm hlt
        rcases List.mem_cons.mp hr' with rfl | hr'
        · rcases List.mem_cons.mp hq with rfl | hq
          · exact nL.2.1
          · rcases List.mem_cons.mp hq with rfl | hq
            · exact nM.2.1
            · rcases List.mem_singleton.mp hq with rfl
              exact nD.2.1
        · rcases List.mem_cons.mp hr' with rfl | hr'
          · exact Nat.ne_of_lt hqI
          · have z := big r hr'
            rcases List.mem_cons.mp hq with rfl | hq
            · exact Nat.ne_of_gt z.1
            · rcases List.mem_cons.mp hq with rfl | hq
              · exact Nat.ne_of_gt z.2.1
              · rcases List.mem_singleton.mp hq with rfl
                exact Nat.ne_of_gt z.2.2.1
end

end
section
local macro_rules | `(tactic| walk_at "call type:enumerate") => `(tactic| (k_here; k_dflt (refine enumTupY (by k_asm) (by k_asm) (by k_mem) ?_); intro e' I' h' F' N' l1' l2'; (try dsimp only)))
theorem b_prep {w : World} {p : Program} {loose : List Str} {mean : ExcName → Option Value} {mg mb : Str → Option Value} {h₀ : Heap} {L : Addr} {m : Str → Option Value} {s : Shared} {Q E : Value → Shared → Prop} {news : List (Addr × Obj)}
  {f c' c D : Addr} {oc : Obj} {vs : List Value} {name : Str} {params : Arguments} {scope : Scope} {tgt iter t1 t2 t3 t4 t6 e1 e2 tgt2 iter2 : Expr} {b1 : List Stmt} {a1 a2 st5 stL : Stmt} {y1 y2 y3 y4 p1 p2 p3 p4 p6 p7 fp : Pos} (F : Fr h₀ L s.heap m) (X : (hd.heap_39 w.params).In h₀) (N : News h₀ L s.heap news) (T : Top p loose mean mg mb h₀)
  (hDef : DefAt (hd.heap_39 w.params) 412 bgPick name params (bgBody tgt iter t1 t2 t3 t4 t6 e1 e2 tgt2 iter2 b1 a1 a2 st5 stL y1 y2 y3 y4 p1 p2 p3 p4 p6 p7 fp) scope)
  (hc : (c, oc) ∈ news) (hcd : oc.data = .cell (some (.ref D))) (hD : (D, tupO vs) ∈ news)
  (hret : ∀ e I h' tk', Fr h₀ L h' m → News h₀ L h' ((e, enumO I 0 .none) :: (I, tupIt D 0) :: news) → (∀ q ∈ news, q.1 < I) → ltA I e → Q (.ref e) { s with heap := h', toks := tk' }) :
  wpAny (model PySem.Challenge.rw_ez0274_01.prog w) (AM 850 900) (eval iter (bgEnv scope L f c' c)) Q (fun _ _ => False) s := by
  revert X; k_fill; intro X
  obtain ⟨ocX, od, nm, ql, pms, bd, sc, dV, kV, doc', pm', an, cdv, ct, osl, x1, x2, x3, x4, x5, x6, hK, hpk⟩ := hDef
  refine key_of (by k_is) hK (fun e => ?_)
  cases e
  cases hpk
  iterate 4 walk1
  refine' wpAny_Name ?a ?b
  case b => decide
  refine' loadX_F ?N ?c ?m ?d ?q ?k ?x ?n
  case k => exact rfl
  case x => exact rfl
  case n => decide
  case N => assumption
  case c => exact rfl
  case m => exact hc
  case d => exact hcd
  k_steps
  any_goals try k_data
  all_goals exact hret _ _ _ _ (by assumption) (by assumption) (by assumption) (by assumption)
theorem b_fresh {w : World} {p : Program} {loose : List Str} {mean : ExcName → Option Value} {mg mb : Str → Option Value} {h₀ : Heap} {sh const : List (Addr × Obj)} {n gB : Nat} (hn : n ≤ 43)
    {L f c' c D mt l self : Addr} {oc oL : Obj} {vs : List Value} {ps : List (Option (Str × Tok))} {ep0 : Nat} {m : Str → Option Value} {name : Str} {params : Arguments} {scope : Scope} {body : List Stmt} {acts : List (Value × List Tk)}
    (X : (hd.heap_39 w.params).In h₀) (T : Top p loose mean mg mb h₀) (hL : h₀.objs.size ≤ L) (hDef : DefAt (hd.heap_39 w.params) 412 bgPick name params body scope)
    (hc : (c, oc) ∈ sh) (hcd : oc.data = .cell (some (.ref D))) (hD : (D, tupO vs) ∈ sh) (hm : MatIn sh mt l) (hl : (l, listOf (piecesOf ps).toArray ep0) ∈ sh) (hlen : (piecesOf ps).length ≤ 1000) (hle : ∀ q ∈ ps, (told q).length ≤ 1000) (hself : ∃ td, LexIn sh self td)
    (hcn : ∀ q ∈ const, q.1 ≠ L) (hot : ∀ q ∈ const, q.2.cls ≠ .type "tuple") (hshL : ∀ q ∈ sh, q.1 ≠ L) (hvs : vs = acts.map Prod.fst) (hact : ∀ j x, acts[j]? = some x → ActOk w h₀ sh n self ps j x.1 x.2) (hNs : NsOf oL m) (hbm : BgM m self mt) :
    SW PySem.Challenge.rw_ez0274_01.prog w h₀ sh n gB (acts.flatMap Prod.snd) ((L, oL) :: const) [] (.func body (bgEnv scope L f c' c)) ((model PySem.Challenge.rw_ez0274_01.prog w).den (.func body (bgEnv scope L f c' c))) [] := by
  obtain ⟨_, tgt, iter, t1, t2, t3, t4, t6, e1, e2, tgt2, iter2, b1, a1, a2, st5, stL, y1, y2, y3, y4, p1, p2, p3, p4, p6, p7, fp, rfl⟩ := bg_shape X hDef
  obtain ⟨hf1, _, elts, tx1, tpos, rfl⟩ := bg_fold X hDef (bgEnv scope L f c' c)
  refine SW.before fun s P H hrun hgU cont => ?_
  obtain ⟨F, rest, N, hr⟩ := walk_env H (.head _) hNs hL
  have hsh : ∀ q ∈ sh, q ∈ rest := fun q hq => hr _ _ (H.shared q hq).1 (H.shared q hq).2 (hshL q hq)
  have hcon : ∀ q ∈ const, q ∈ rest := fun q hq => hr _ _ (H.own q (.tail _ hq)).1 (H.own q (.tail _ hq)).2 (hcn q hq)
  refine seg_func (seg_cons (seg_For (d := 850) (u := 900) ⟨rfl, ?_, ?_⟩ (b_prep (E := fun _ _ => False) F X N T hDef (hsh _ hc) hcd (hsh _ hD) fun e I h' tk' F' N' hI hIe => ?_) hf1.pure))
  · show 400 + n + 0 + 1 ≤ 850
    omega
  · show 400 + 8 * n + 1 + 0 + 3 ≤ 900
    omega
  have ne := N' _ (.head _)
  have nI := N' _ (.tail _ (.head _))
  refine wpAny_pyIter_enum ne.1 fun pp => ?_
  obtain ⟨oL', e1', e2'⟩ := NsOf.of F'.ns
  have N2 : News h₀ L h' ([(e, enumO I 0 .none), (I, tupIt D 0)] ++ rest) := N'
  have hkeep := walk_keep F' N2 hr H.base
  have hab : Above [(e, enumO I 0 .none), (I, tupIt D 0)] rest := Above.cons (fun q hq => Nat.lt_trans (hI q hq) hIe) (Above.cons hI Above.nil)
  have hnew := walk_new N2 hab hr
  refine cont _ ((L, oL') :: (e, enumO I ((0 : Nat) : Int) .none) :: (I, tupIt D 0) :: const) [] _ _ _ (moves_new (s := s) (tk := tk') (h' := h') (fun a o g1 g2 => hkeep a o g1 fun q => g2 _ (.head _) q.symm) ?hfr) (has_new (s := s) (tk := tk') (h' := h') H F'.keep (fun q hq => hkeep _ _ (H.shared q hq).1 (hshL q hq)) (fun q hq => ?_) ?hfr fun q hq => (nomatch hq))
    (b_sw hn X T hL hDef hD hm hl hlen hle hself ne.2.1 nI.2.1 (Nat.ne_of_lt hIe) (fun q hq => ⟨hcn q hq, Nat.ne_of_lt (Nat.lt_trans (hI q (hcon q hq)) hIe), Nat.ne_of_lt (hI q (hcon q hq))⟩) hot acts 0 .none (tupIt D 0) oL' m (Nat.zero_le _) (by simpa using hvs) (fun j x hx => by rw [Nat.zero_add]; exact hact j x hx) e2' hbm rfl rfl)
  case hfr =>
    intro q hq
    rcases List.mem_cons.mp hq with rfl | hq
    · exact .inl ⟨_, .head _, rfl⟩
    · rcases List.mem_cons.mp hq with rfl | hq
      · exact .inr (hnew _ (.head _))
      · rcases List.mem_cons.mp hq with rfl | hq
        · exact .inr (hnew _ (.tail _ (.head _)))
        · exact .inl ⟨q, .tail _ hq, rfl⟩
  · rcases List.mem_cons.mp hq with rfl | hq
    · exact ⟨e1', (H.own _ (.head _)).2⟩
    · rcases List.mem_cons.mp hq with rfl | hq
      · exact ⟨ne.1, ne.2.2⟩
      · rcases List.mem_cons.mp hq with rfl | hq
        · exact ⟨nI.1, nI.2.2⟩
        · have z := N' _ (.tail _ (.tail _ (hcon q hq)))
          exact ⟨z.1, z.2.2⟩

end
section
abbrev gtBody (q1 q2 q3 q4 : Stmt) (tw tgt iter : Expr) (g1 : Stmt) (c1 c2 c3 : Expr) (b3 : List Stmt) (ey : Expr) (yp yq p1 p2 : Pos) (g2 g3 g4 : Stmt) (p5 : Pos) (orelse : List Stmt) (fp wp : Pos) : List Stmt :=
  [q1, q2, q3, q4, .While tw [.For tgt iter [g1, .If c1 [.If c2 [.If c3 b3 [.Expr (.YieldFrom ey yp) yq] p1] [] p2, g2, g3, g4] [] p5] orelse fp] [] wp]
abbrev gtEnv (ql : Str) (sc : Scope) (L : Addr) (cd : Value) : Env := envOf ql sc L 586 cd
def RowIn (news : List (Addr × Obj)) (row b a l : Addr) (ps : List (Option (Str × Tok))) : Prop :=
  ∃ q d r h1 t1 e e', (row, tupO [.ref q, .ref b, .none]) ∈ news ∧ (q, methodObj (.ref 654) (.ref a)) ∈ news ∧ (a, instObj 657 d) ∈ news ∧ (d, dictOf [⟨h1, .str (Str.ofString "rows") t1, .ref r⟩] 1) ∈ news ∧ (r, listOf #[.ref l] e') ∈ news ∧ (l, listOf (piecesOf ps).toArray e) ∈ news
def StateIn (prog : Program) (w : World) (news : List (Addr × Obj)) (td : Addr) (st : Str) (Tl row : Addr) : Prop :=
  ∃ otd kvs e, (td, otd) ∈ news ∧ otd.IsDictOf (strKind prog w) kvs ∧ (td == sysModules) = false ∧ valueAt kvs st = some (.ref Tl) ∧ (Tl, listOf #[.ref row] e) ∈ news
theorem ffOf {b : Bool} {P : Prop} (h' : b = false) (h : b = true) : P := absurd (h'.symm.trans h) Bool.false_ne_true

end
section
abbrev LawK (w : World) (nm ql : Str) (ps : Arguments) (sc : Scope) (cd : Value) (q1 q2 q3 q4 q5 q6 q7 q8 q9 q10 q11 q12 q13 q14 q15 q16 q17 q18 : Stmt) : Prop :=
  FnAt (hd.heap_39 w.params) 685 nm ql ps [q1, q2, q3, q4, q5, q6, q7, q8, q9, q10, q11, q12, q13, q14, q15, q16, q17, q18] sc cd
def NatsAre (vs : List Value) (P : List Nat) : Prop := vs.length = P.length ∧ ∀ (i : Nat) (v : Value), vs[i]? = some v → ∃ t, v = .int (P.getD i 0 : Nat) t
theorem NatsAre.nil : NatsAre [] [] := ⟨rfl, fun i v h => by simp at h⟩
theorem NatsAre.snoc {vs : List Value} {P : List Nat} (h : NatsAre vs P) (n : Nat) (t : Tok) : NatsAre (vs ++ [.int n t]) (P ++ [n]) := by
  refine ⟨by simp [h.1], fun i v hv => ?_⟩
  by_cases hi : i < vs.length
  · rw [List.getElem?_append_left hi] at hv
    obtain ⟨t', e⟩ := h.2 i v hv
    refine ⟨t', ?_⟩
    rw [e, List.getD_eq_getElem?_getD, List.getD_eq_getElem?_getD, List.getElem?_append_left (by rw [← h.1]; exact hi)]
  · have hi' : i = vs.length := by
      have := (List.getElem?_eq_some_iff.mp hv).1
      rw [List.length_append, List.length_singleton] at this; omega
    subst hi'
    rw [List.getElem?_append_right (Nat.le_refl _), Nat.sub_self] at hv
    simp only [List.getElem?_cons_zero, Option.some.injEq] at hv
    refine ⟨t, ?_⟩
    rw [← hv, List.getD_eq_getElem?_getD, h.1, List.getElem?_append_right (Nat.le_refl _), Nat.sub_self]; rfl
theorem NatsAre.get {vs : List Value} {P : List Nat} (h : NatsAre vs P) {i : Nat} (hi : i < P.length) : ∃ t, vs[i]? = some (.int (P.getD i 0 : Nat) t) := by
  have hi' : i < vs.length := by rw [h.1]; exact hi
  obtain ⟨t, e⟩ := h.2 i vs[i] (List.getElem?_eq_getElem hi')
  exact ⟨t, by rw [List.getElem?_eq_getElem hi', e]⟩
theorem pull {h₀ h : Heap} {L a : Addr} {o : Obj} {full : List (Addr × Obj)} (N : News h₀ L h full) (hm : (a, o) ∈ full) :
    ∃ rest, News h₀ L h ((a, o) :: rest) ∧ (∀ q ∈ full, q.1 ≠ a → q ∈ rest) ∧ (∀ q ∈ rest, q ∈ full ∧ q.1 ≠ a) := by
  classical
  refine ⟨full.filter fun q => decide (q.1 ≠ a), ?_, fun q hq h => List.mem_filter.mpr ⟨hq, by simpa using h⟩, fun q hq => ?_⟩
  · intro p hp
    rcases List.mem_cons.mp hp with rfl | hp
    · exact N _ hm
    · exact N _ (List.mem_filter.mp hp).1
  · have := List.mem_filter.mp hq
    exact ⟨this.1, by simpa using this.2⟩
theorem par_snoc_lt {P : List Nat} {x j : Nat} (h : j < P.length) : par (P ++ [x]) j = par P j := by
  unfold par; rw [List.getD_eq_getElem?_getD, List.getD_eq_getElem?_getD, List.getElem?_append_left h]
theorem par_snoc_eq {P : List Nat} {x : Nat} : par (P ++ [x]) P.length = x := by
  unfold par; rw [List.getD_eq_getElem?_getD, List.getElem?_append_right (Nat.le_refl _), Nat.sub_self]; rfl
structure Seed (P : List Nat) (i : Nat) : Prop where
  len : P.length = 3 + i
  lt : ∀ j, 1 ≤ j → j < P.length → par P j < j
  p2 : par P 2 = 0
theorem Seed.start : Seed [0, 0, 0] 0 := ⟨rfl, fun j h1 h2 => by
  have : j = 1 ∨ j = 2 := by simp at h2; omega
  rcases this with rfl | rfl <;> decide, rfl⟩
theorem Seed.grow {P : List Nat} {i x : Nat} (h : Seed P i) (hx : x < P.length) : Seed (P ++ [x]) (i + 1) := by
  refine ⟨by simp [h.len]; omega, fun j h1 h2 => ?_, ?_⟩
  · rw [List.length_append, List.length_singleton] at h2
    by_cases hj : j < P.length
    · rw [par_snoc_lt hj]; exact h.lt j h1 hj
    · have : j = P.length := by omega
      subst this; rw [par_snoc_eq]; exact hx
  · rw [par_snoc_lt (by have := h.len; omega)]; exact h.p2
theorem Seed.tree {P : List Nat} {i : Nat} (h : Seed P i) (hi : i ≤ 8) : Tree P := ⟨by have := h.len; omega, by have := h.len; omega, h.lt, h.p2⟩
theorem pick8 (l : List Value) : kms_pick l none (some 8) = l.take 8 := by
  unfold kms_pick kms_lo kms_hi
  simp only [List.drop_zero, Nat.sub_zero]
  rw [if_neg (by decide), Nat.min_def]
  split
  · rfl
  · rw [List.take_of_length_le (Nat.le_refl _), List.take_of_length_le]
    have : (8 : Int).toNat = 8 := rfl
    omega
theorem natMod {c : Int} {n : Nat} (h : 0 < n) : ∃ x, x < n ∧ c % (n : Int) = (x : Int) := by
  have h1 := Int.emod_nonneg c (show (n : Int) ≠ 0 by omega)
  have h2 := Int.emod_lt_of_pos c (show (0 : Int) < (n : Int) by omega)
  exact ⟨(c % (n : Int)).toNat, by omega, by omega⟩
theorem lenY {prog : Program} {w : World} {A : Around} {E Q : Value → Shared → Prop} {s : Shared} {h₀ : Heap} {L l : Addr} {news : List (Addr × Obj)} {vs : List Value} {c : Nat} (N : News h₀ L s.heap news) (hm : (l, listOf vs.toArray c) ∈ news) (hz : vs.length ≤ 1000)
    (h : Q (.int ((vs.length : Nat) : Int) (s.toks + 1)) { s with toks := s.toks + 1 + 1 }) : wpAny (model prog w) A (call (.builtin "len") [.ref l]) Q E s := by
  refine len_list (N.isList hm) (by simp only [List.size_toArray]; omega) ?_
  simpa using h
def TextsAre (vs : List Value) (xs : List Str) : Prop := vs.length = xs.length ∧ ∀ (i : Nat) (v : Value), vs[i]? = some v → ∃ x t, xs[i]? = some x ∧ v = .str x t
theorem TextsAre.nil : TextsAre [] [] := ⟨rfl, fun i v h => by simp at h⟩
theorem TextsAre.snoc {vs : List Value} {xs : List Str} (h : TextsAre vs xs) (x : Str) (t : Tok) : TextsAre (vs ++ [.str x t]) (xs ++ [x]) := by
  refine ⟨by simp [h.1], fun i v hv => ?_⟩
  by_cases hi : i < vs.length
  · rw [List.getElem?_append_left hi] at hv
    obtain ⟨y, t', e1, e2⟩ := h.2 i v hv
    exact ⟨y, t', by rw [List.getElem?_append_left (by rw [← h.1]; exact hi), e1], e2⟩
  · have hi' : i = vs.length := by
      have := (List.getElem?_eq_some_iff.mp hv).1
      rw [List.length_append, List.length_singleton] at this; omega
    subst hi'
    rw [List.getElem?_append_right (Nat.le_refl _), Nat.sub_self] at hv
    simp only [List.getElem?_cons_zero, Option.some.injEq] at hv
    refine ⟨x, t, ?_, hv.symm⟩
    rw [h.1, List.getElem?_append_right (Nat.le_refl _), Nat.sub_self]; rfl
theorem TextsAre.get {vs : List Value} {xs : List Str} (h : TextsAre vs xs) {i : Nat} {x : Str} (hi : xs[i]? = some x) : ∃ t, vs[i]? = some (.str x t) := by
  have h1 := (List.getElem?_eq_some_iff.mp hi).1
  have hi' : i < vs.length := by rw [h.1]; exact h1
  obtain ⟨y, t, e1, e2⟩ := h.2 i vs[i] (List.getElem?_eq_getElem hi')
  rw [hi] at e1; cases e1
  exact ⟨t, by rw [List.getElem?_eq_getElem hi', e2]⟩
abbrev emptyAt (bs : List Addr) : List (Addr × Obj) := (bs.map fun b => (b, listOf #[] 0)).reverse
def FreshJ (i : Nat) (ys : List Value) (tl : List (Addr × Obj)) : Prop := ∃ bs : List Addr, ys = bs.map Value.ref ∧ bs.length = i ∧ tl = emptyAt bs ∧ bs.Pairwise fun a b => a < b
theorem FreshJ.snoc {i : Nat} {ys : List Value} {tl : List (Addr × Obj)} (h : FreshJ i ys tl) {b : Addr} (hb : ∀ p ∈ tl, p.1 < b) : FreshJ (i + 1) (ys ++ [.ref b]) ([(b, listOf #[] 0)] ++ tl) := by
  obtain ⟨bs, rfl, h2, rfl, h4⟩ := h
  refine ⟨bs ++ [b], by simp, by simp [h2], by simp [emptyAt], List.pairwise_append.mpr ⟨h4, by simp, fun x hx y hy => ?_⟩⟩
  cases List.mem_singleton.mp hy
  exact hb (x, listOf #[] 0) (by simp [emptyAt, hx])
section
variable {prog : Program} {w : World} {A : Around} {E : Value → Shared → Prop} {s : Shared} {h₀ : Heap} {L D : Addr} {m : Str → Option Value} {news news' : List (Addr × Obj)}
theorem setY {vs : List Value} {n k : Nat} {t : Tok} {v : Value} {Q : Unit → Shared → Prop} (F : Fr h₀ L s.heap m) (N : News h₀ L s.heap news) (U : Upd D (listOf vs.toArray n) (listOf (vs.set k v).toArray n) news news') (hk : k < vs.length) (hz : vs.length ≤ 1000)
    (h : ∀ h', Fr h₀ L h' m → News h₀ L h' news' → Q () { s with heap := h' }) : wpAny (model prog w) A (setItem (.ref D) (.int ((k : Nat) : Int) t) v) Q E s := by
  obtain ⟨pre, post, rfl, rfl, a, b⟩ := U.split
  have z := N (D, listOf vs.toArray n) (List.mem_append.mpr (.inr (.head _)))
  refine ki_setAt z.1 (by omega) (by omega) (by simp; omega) (h _ (F.change (Heap.SameBut.update ..) z.2.1 z.2.2) (ki_turn _ N a b ?_ ?_))
  · rw [Int.toNat_natCast]; simp
  · rw [if_pos (by simp)]
end
section
variable {prog : Program} {w : World} {A : Around} {E : Value → Shared → Prop} {s : Shared} {h₀ : Heap} {L D : Addr} {m : Str → Option Value} {news : List (Addr × Obj)}
theorem truthyLY {vs : List Value} {n : Nat} {Q : Bool → Shared → Prop} (N : News h₀ L s.heap news) (hm : (D, listOf vs.toArray n) ∈ news) (hz : vs.length ≤ 1000) (h : ∀ tk, Q (!vs.isEmpty) { s with toks := tk }) : wpAny (model prog w) A (truthy (.ref D)) Q E s := by
  refine wpAny_truthy_list (N.isList hm) (by simp only [List.size_toArray]; omega) ?_
  have : (!vs.toArray.isEmpty) = !vs.isEmpty := by simp
  first | exact this ▸ h _ | (simpa using h _)
theorem truthyLT {vs : List Value} {n : Nat} {Q : Bool → Shared → Prop} (N : News h₀ L s.heap news) (hm : (D, listOf vs.toArray n) ∈ news) (hz : vs.length ≤ 1000) (hne : vs ≠ []) (h : ∀ tk, Q true { s with toks := tk }) : wpAny (model prog w) A (truthy (.ref D)) Q E s :=
  truthyLY N hm hz fun tk => by
    have : (!vs.isEmpty) = true := by cases vs with | nil => exact absurd rfl hne | cons a l => rfl
    rw [this]; exact h tk
theorem truthyLF {n : Nat} {Q : Bool → Shared → Prop} (N : News h₀ L s.heap news) (hm : (D, listOf #[] n) ∈ news) (h : ∀ tk, Q false { s with toks := tk }) : wpAny (model prog w) A (truthy (.ref D)) Q E s :=
  truthyLY (vs := []) N hm (Nat.zero_le _) h
end
theorem loadL {M : Model} {A : Around} {E Q : Value → Shared → Prop} {s : Shared} {env : Env} {h₀ : Heap} {L : Addr} {m : Str → Option Value} {x : Str} {v : Value} (F : Fr h₀ L s.heap m) (hv : m x = some v) (h : Q v s) (hL : env.locals = L) (hk : env.scope.kind = .function) (hl : env.kindOf x = some .local) :
    wpAny M A (loadName env x) Q E s := wpAny_loadName_local hk hl (hL ▸ F.ns) hv h
theorem truthyS1 {prog : Program} {w : World} {A : Around} {E : Value → Shared → Prop} {s : Shared} {x : Str} {t : Tok} {Q : Bool → Shared → Prop} (hp : 1 ≤ x.length) (hl : x.length ≤ 10000) (h : ∀ k, Q true { s with toks := k }) : wpAny (model prog w) A (PySem.truthy (.str x t)) Q E s :=
  KXt.truthy_pos hp hl (by decide) h
theorem truthyS0 {prog : Program} {w : World} {A : Around} {E : Value → Shared → Prop} {s : Shared} {x : Str} {t : Tok} {Q : Bool → Shared → Prop} (hp : x.length = 0) (h : ∀ k, Q false { s with toks := k }) : wpAny (model prog w) A (PySem.truthy (.str x t)) Q E s :=
  KXt.truthy (by rw [hp]; rfl) (by omega) h
theorem CodeOf.drop {tl news : List (Addr × Obj)} {qual : Str} {c' a : Addr} {xs : Array Value} {n : Nat} (h : CodeOf (tl ++ (a, listOf xs n) :: news) qual c') : CodeOf (tl ++ news) qual c' := by
  obtain ⟨oc, vs, t, h1, h2, h3⟩ := h
  refine ⟨oc, vs, t, ?_, h2, h3⟩
  rcases List.mem_append.mp h1 with h1 | h1
  · exact List.mem_append_left _ h1
  · rcases List.mem_cons.mp h1 with h1 | h1
    · exfalso
      have : oc = listOf xs n := congrArg Prod.snd h1
      rw [this] at h2; cases h2
    · exact List.mem_append_right _ h1
theorem TabOk.drop {tl news : List (Addr × Obj)} {qual : Str} {line col : Int} {ps xs : Array Value} {a : Addr} {n : Nat} (h : TabOk (tl ++ (a, listOf xs n) :: news) qual line col ps) : TabOk (tl ++ news) qual line col ps := by
  rcases h with rfl | ⟨c', rfl, h⟩
  · exact .inl rfl
  · exact .inr ⟨c', rfl, h.drop⟩
theorem UsIn.drop {prog : Program} {w : World} {K : Frag} {tl news : List (Addr × Obj)} {f a : Addr} {st : Str} {xs : Array Value} {n : Nat} (h : UsIn prog w K tl (tl ++ (a, listOf xs n) :: news) f st) : UsIn prog w K tl (tl ++ news) f st := by
  obtain ⟨c, gk, stk, dT, c', oc, ogk, doc, pm, ctv, t1, t2, name, params, body, scope, a1, a2, a3, a4, a5, a6, a7, a8, a9⟩ := h
  exact ⟨c, gk, stk, dT, c', oc, ogk, doc, pm, ctv, t1, t2, name, params, body, scope, a1, a2, a3, a4, a5, a6, a7, a8, a9.drop⟩
def KidsIn (news : List (Addr × Obj)) (bv : List Value) (P : List Nat) : Prop := bv.length = P.length ∧ ∀ i, i < P.length → ∃ bk ks e, bv[i]? = some (.ref bk) ∧ (bk, listOf (List.toArray ks) e) ∈ news ∧ NatsAre ks (kids P i)
theorem KidsIn.mono {news news' : List (Addr × Obj)} {bv : List Value} {P : List Nat} (h : KidsIn news bv P) (hs : ∀ p ∈ news, p ∈ news') : KidsIn news' bv P :=
  ⟨h.1, fun i hi => by obtain ⟨bk, ks, e, a, b, c⟩ := h.2 i hi; exact ⟨bk, ks, e, a, hs _ b, c⟩⟩
def leafT (P : List Nat) (j : Nat) : Bool := decide (kids P j = []) && j != 3
def LeafsJ (P : List Nat) (i : Nat) (ys : List Value) (tl : List (Addr × Obj)) : Prop :=
  ys.length = ((List.range i).filter (leafT P)).length ∧ ∀ (k : Nat) (v : Value), ys[k]? = some v → ∃ a t1 t2, v = .ref a ∧ (a, tupO [.int (place P (((List.range i).filter (leafT P)).getD k 0) : Nat) t1, .int ((((List.range i).filter (leafT P)).getD k 0 : Nat) : Int) t2]) ∈ tl
theorem LeafsJ.skip {P : List Nat} {i : Nat} {ys : List Value} {tl : List (Addr × Obj)} (h : LeafsJ P i ys tl) (hi : leafT P i = false) : LeafsJ P (i + 1) ys tl := by
  unfold LeafsJ at h ⊢
  rw [List.range_succ, List.filter_append, List.filter_cons, if_neg (by rw [hi]; simp), List.filter_nil, List.append_nil]
  exact h
theorem LeafsJ.take {P : List Nat} {i : Nat} {ys : List Value} {tl : List (Addr × Obj)} {a : Addr} {t1 t2 : Tok} (h : LeafsJ P i ys tl) (hi : leafT P i = true) : LeafsJ P (i + 1) (ys ++ [.ref a]) ([(a, tupO [.int (place P i : Nat) t1, .int ((i : Nat) : Int) t2])] ++ tl) := by
  unfold LeafsJ at h ⊢
  rw [List.range_succ, List.filter_append, List.filter_cons, if_pos hi, List.filter_nil]
  generalize (List.range i).filter (leafT P) = ls at h
  refine ⟨by simp [h.1], fun k v hv => ?_⟩
  by_cases hk : k < ys.length
  · rw [List.getElem?_append_left hk] at hv
    obtain ⟨b, u1, u2, rfl, hm⟩ := h.2 k v hv
    refine ⟨b, u1, u2, rfl, List.mem_append_right _ ?_⟩
    rw [List.getD_eq_getElem?_getD, List.getElem?_append_left (by omega), ← List.getD_eq_getElem?_getD]
    exact hm
  · have hk' : k = ys.length := by
      have := (List.getElem?_eq_some_iff.mp hv).1
      rw [List.length_append, List.length_singleton] at this; omega
    subst hk'
    rw [List.getElem?_append_right (Nat.le_refl _), Nat.sub_self] at hv
    simp only [List.getElem?_cons_zero, Option.some.injEq] at hv
    refine ⟨a, t1, t2, hv.symm, ?_⟩
    rw [List.getD_eq_getElem?_getD, h.1, List.getElem?_append_right (Nat.le_refl _), Nat.sub_self]
    exact .head _
def LeavesIn (full : List (Addr × Obj)) (lv : List Value) (P : List Nat) : Prop := lv.length = (dfs P 0).length ∧ ∀ (k l : Nat), (dfs P 0)[k]? = some l → ∃ a t1 t2, lv[k]? = some (.ref a) ∧ (a, tupO [.int (place P l : Nat) t1, .int ((l : Nat) : Int) t2]) ∈ full
theorem LeavesIn.mono {news news' : List (Addr × Obj)} {bv : List Value} {P : List Nat} (h : LeavesIn news bv P) (hs : ∀ p ∈ news, p ∈ news') : LeavesIn news' bv P :=
  ⟨h.1, fun i l hi => by obtain ⟨bk, ks, e, a, b⟩ := h.2 i l hi; exact ⟨bk, ks, e, a, hs _ b⟩⟩
theorem leaves_sorted {P : List Nat} (T : Tree P) {vs : List Value} {tl : List (Addr × Obj)} (h : LeafsJ P P.length vs tl) {p : List Nat} (hp : p.Perm (List.range vs.length)) (hs : p.Pairwise fun i j => place P ((leafs P).getD i 0) < place P ((leafs P).getD j 0)) :
    LeavesIn tl (p.map fun i => vs.getD i .none) P := by
  have hl : (List.range P.length).filter (leafT P) = leafs P := rfl
  unfold LeafsJ at h
  rw [hl] at h
  have hlen : p.length = (leafs P).length := by rw [hp.length_eq, List.length_range, h.1]
  have e : p.map (fun i => (leafs P).getD i 0) = dfs P 0 := by
    refine sorted_is T ?_ ?_
    · have := hp.map (fun i => (leafs P).getD i 0)
      rw [h.1] at this
      refine this.trans (List.Perm.of_eq ?_)
      refine List.ext_getElem? fun i => ?_
      rw [List.getElem?_map]
      by_cases hi : i < (leafs P).length
      · rw [List.getElem?_range hi, List.getElem?_eq_getElem hi]
        show some ((leafs P).getD i 0) = _
        rw [List.getD_eq_getElem?_getD, List.getElem?_eq_getElem hi]; rfl
      · rw [List.getElem?_eq_none (by simpa using hi), List.getElem?_eq_none (by simpa using hi)]; rfl
    · rw [List.pairwise_map]
      exact hs.imp fun h => Nat.le_of_lt h
  refine ⟨by rw [← e, List.length_map, List.length_map], fun k l hk => ?_⟩
  rw [← e, List.getElem?_map] at hk
  cases hpk : p[k]? with
  | none => rw [hpk] at hk; cases hk
  | some i =>
    rw [hpk] at hk
    simp only [Option.map_some, Option.some.injEq] at hk
    have hi : i < vs.length := List.mem_range.mp (hp.mem_iff.mp (List.mem_of_getElem? hpk))
    have hv : vs[i]? = some (vs.getD i .none) := by rw [List.getD_eq_getElem?_getD, List.getElem?_eq_getElem hi]; rfl
    obtain ⟨a, t1, t2, e1, hm⟩ := h.2 i _ hv
    rw [hk] at hm
    exact ⟨a, t1, t2, by rw [List.getElem?_map, hpk]; show some (vs.getD i .none) = _; rw [e1], hm⟩
theorem leafs_kinj {P : List Nat} (T : Tree P) {n : Nat} (hn : n = (leafs P).length) : ∀ i j, i < n → j < n → place P ((leafs P).getD i 0) = place P ((leafs P).getD j 0) → i = j := by
  intro i j hi hj e
  have hi' : i < (leafs P).length := by omega
  have hj' : j < (leafs P).length := by omega
  rw [List.getD_eq_getElem?_getD, List.getD_eq_getElem?_getD, List.getElem?_eq_getElem hi', List.getElem?_eq_getElem hj'] at e
  exact (List.getElem_inj leafs_nodup).mp (place_inj T (by simp) (by simp) e)
theorem DatAll.snoc {news : List (Addr × Obj)} : ∀ {vs : List Value} {ds : List Dat} {v : Value} {d : Dat}, DatAll news vs ds → DatIn news v d → DatAll news (vs ++ [v]) (ds ++ [d])
  | _, _, _, _, .nil, h => .cons h .nil
  | _, _, _, _, .cons a r, h => .cons a (DatAll.snoc r h)
theorem DatAll.len {news : List (Addr × Obj)} : ∀ {vs : List Value} {ds : List Dat}, DatAll news vs ds → vs.length = ds.length
  | _, _, .nil => rfl
  | _, _, .cons _ r => by rw [List.length_cons, List.length_cons, DatAll.len r]
def KindsAre (news : List (Addr × Obj)) (Kd : Nat → Addr) (P : List Nat) : Prop := ∀ i, i < P.length → ∃ l, KindIn news (Kd i) (strValues l) ∧ l.map Prod.fst = names P i
theorem KindsAre.mono {news news' : List (Addr × Obj)} {Kd : Nat → Addr} {P : List Nat} (h : KindsAre news Kd P) (hs : ∀ p ∈ news, p ∈ news') : KindsAre news' Kd P :=
  fun i hi => by obtain ⟨l, a, b⟩ := h i hi; exact ⟨l, a.mono hs, b⟩
def ToldIn (news : List (Addr × Obj)) (tv : List Value) (P : List Nat) (Kd : Nat → Addr) : Prop := tv.length = (dfs P 0).length ∧ ∀ (k l : Nat), (dfs P 0)[k]? = some l → ∃ a k1 k2, tv[k]? = some (.ref a) ∧ (a, tupO [.int (place P l : Nat) k1, .ref (Kd l), .str (text P l) k2]) ∈ news
theorem ToldIn.mono {news news' : List (Addr × Obj)} {tv : List Value} {Kd : Nat → Addr} {P : List Nat} (h : ToldIn news tv P Kd) (hs : ∀ p ∈ news, p ∈ news') : ToldIn news' tv P Kd :=
  ⟨h.1, fun k l hk => by obtain ⟨a, k1, k2, e, hm⟩ := h.2 k l hk; exact ⟨a, k1, k2, e, hs _ hm⟩⟩
def rowDat (P : List Nat) (l : Nat) : Dat := .tuple [.int (place P l : Nat), .str (path P l), .str (text P l)]
theorem pulls {h₀ h : Heap} {L : Addr} {ps full : List (Addr × Obj)} (N : News h₀ L h full) (hm : ∀ p ∈ ps, p ∈ full) :
    ∃ rest, News h₀ L h (ps ++ rest) ∧ (∀ q ∈ full, (∀ p ∈ ps, q.1 ≠ p.1) → q ∈ rest) ∧ (∀ q ∈ rest, q ∈ full ∧ ∀ p ∈ ps, q.1 ≠ p.1) := by
  classical
  refine ⟨full.filter fun q => decide (∀ p ∈ ps, q.1 ≠ p.1), fun p hp => ?_, fun q hq h => List.mem_filter.mpr ⟨hq, decide_eq_true h⟩, fun q hq => ?_⟩
  · rcases List.mem_append.mp hp with hp | hp
    · exact N p (hm p hp)
    · exact N p (List.mem_filter.mp hp).1
  · have := List.mem_filter.mp hq
    exact ⟨this.1, of_decide_eq_true this.2⟩
theorem NxtR.full {h₀ : Heap} {L : Addr} {s : Shared} {I : Addr} {o₁ : Obj} {J : (Str → Option Value) → List (Addr × Obj) → Prop} {h' : Heap} {tk' : Nat} {m₂ : Str → Option Value} {full : List (Addr × Obj)}
    (F : Fr h₀ L h' m₂) (N : News h₀ L h' full) (hI : (I, o₁) ∈ full) (hJ : ∀ rest, (∀ q ∈ full, q.1 ≠ I → q ∈ rest) → (∀ q ∈ rest, q ∈ full) → J m₂ rest) : NxtR h₀ L s I o₁ J { s with heap := h', toks := tk' } := by
  refine NxtR.intro (full.filter fun q => decide (q.1 ≠ I)) F N (fun p hp => ?_) (fun p hp => ?_) (hJ _ (fun q hq h => List.mem_filter.mpr ⟨hq, decide_eq_true h⟩) fun q hq => (List.mem_filter.mp hq).1)
  · rcases List.mem_cons.mp hp with rfl | hp
    · exact hI
    · exact (List.mem_filter.mp hp).1
  · exact of_decide_eq_true (List.mem_filter.mp hp).2
theorem push_list (vs : List Value) (v : Value) : vs.toArray.push v = (vs ++ [v]).toArray := by simp
section
variable {M : Model} {A : Around} {s : Shared} {env : Env} {α : Type}
theorem then_exec {a : Sem α} {b : Stmt} {rest : List Stmt} {Q : Flow → Shared → Prop} {E E' : Value → Shared → Prop}
    (h : wpAny M A a (fun _ s₁ => wpAny M A (exec b env) (fun f s₂ => f = .next ∧ wpAny M A (execs rest env) Q E s₂) (fun _ _ => False) s₁) (fun _ _ => False) s) :
    wpAny M A a (fun _ s₁ => wpAny M A (execs (b :: rest) env) Q E s₁) E' s :=
  wpAny_mono h (fun _ s₁ h₁ => wpAny_execs_cons (wpAny_mono h₁ (fun f s₂ h₂ => by obtain ⟨rfl, h₂⟩ := h₂; exact h₂) fun _ _ x => x.elim)) fun _ _ x => x.elim
theorem execs_two {b : Stmt} {rest : List Stmt} {Q : Flow → Shared → Prop} {E : Value → Shared → Prop}
    (h : wpAny M A (exec b env) (fun f s₂ => f = .next ∧ wpAny M A (execs rest env) Q E s₂) (fun _ _ => False) s) : wpAny M A (execs (b :: rest) env) Q E s :=
  wpAny_execs_cons (wpAny_mono h (fun f s₂ h₂ => by obtain ⟨rfl, h₂⟩ := h₂; exact h₂) fun _ _ x => x.elim)
end

end
section
theorem g_prep {w : World} {p : Program} {loose : List Str} {mean : ExcName → Option Value} {mg mb : Str → Option Value} {h₀ : Heap} {L : Addr} {m : Str → Option Value} {s : Shared} {Q E : Value → Shared → Prop} {news : List (Addr × Obj)}
  {self td stk Tl row : Addr} {txt st rt : Str} {kt t1 t2 : Tok} {nm ql : Str} {psG : Arguments} {sc : Scope} {cd : Value} {q1 q2 q3 q4 : Stmt} {tw tgt iter : Expr} {g1 : Stmt} {c1 c2 c3 : Expr} {b3 : List Stmt} {ey : Expr} {yp yq p1 p2 : Pos} {g2 g3 g4 : Stmt} {p5 : Pos} {orelse : List Stmt} {fp wp : Pos} (F : Fr h₀ L s.heap m) (X : (hd.heap_39 w.params).In h₀) (N : News h₀ L s.heap news) (T : Top p loose mean mg mb h₀)
  (hFn : FnAt (hd.heap_39 w.params) 586 nm ql psG (gtBody q1 q2 q3 q4 tw tgt iter g1 c1 c2 c3 b3 ey yp yq p1 p2 g2 g3 g4 p5 orelse fp wp) sc cd)
  (hl : LexIn news self td) (hS : StateIn PySem.Challenge.rw_ez0274_01.prog w news td st Tl row) (hstk : (stk, tupO [.str rt t1, .str st t2]) ∈ news)
  (h1 : m (Str.ofString "self") = some (.ref self)) (h2 : m (Str.ofString "text") = some (.str txt kt)) (h3 : m (Str.ofString "stack") = some (.ref stk)) {Q : Flow → Shared → Prop}
  (hret : ∀ m' h' tk' tl tp, Fr h₀ L h' m' → News h₀ L h' (tl ++ news) → Above tl news → m' (Str.ofString "self") = some (.ref self) → m' (Str.ofString "text") = some (.str txt kt) → m' (Str.ofString "pos") = some (.int 0 tp) → m' (Str.ofString "statetokens") = some (.ref Tl) → Q .next { s with heap := h', toks := tk' }) :
  wpAny (model PySem.Challenge.rw_ez0274_01.prog w) (AM 850 900) (exec q1 (gtEnv ql sc L cd)) (fun f1 s₁ => f1 = .next ∧ wpAny (model PySem.Challenge.rw_ez0274_01.prog w) (AM 850 900) (exec q2 (gtEnv ql sc L cd)) (fun f2 s₂ => f2 = .next ∧ wpAny (model PySem.Challenge.rw_ez0274_01.prog w) (AM 850 900) (exec q3 (gtEnv ql sc L cd)) (fun f3 s₃ => f3 = .next ∧ wpAny (model PySem.Challenge.rw_ez0274_01.prog w) (AM 850 900) (exec q4 (gtEnv ql sc L cd)) Q (fun _ _ => False) s₃) (fun _ _ => False) s₂) (fun _ _ => False) s₁) (fun _ _ => False) s := by
  revert X; k_fill; intro X
  obtain ⟨d, h1', h2', h3', h4', h5', h6', h7', h8', h9', tt1, tt2, tt3, tt4, tt5, tt6, tt7, tt8, tt9, v1, v2, v3, v4, v5, v6, v7, v8, hm1, hm2⟩ := hl
  obtain ⟨otd, kvs, ee, hm3, hm4, hm5, hm6, hm7⟩ := hS
  obtain ⟨oc, od, dV, kV, doc, pm, an, ct, osl, hK⟩ := hFn
  refine key_of (by k_is) hK (fun e => ?_)
  cases e
  k_steps
  any_goals try k_data
  any_goals (with_reducible try exact trivial)
  exact hret _ _ _ [_] _ (by assumption) (by assumption) (by walk_at "my above") (by assumption) (by assumption) (by rfl) (by rfl)

end
section
local macro_rules | `(tactic| walk_at "call ref") => `(tactic| (k_here; k_dflt (show wpAny _ _ (call (Value.ref _) [Value.str _ _, Value.int _ _]) _ _ _); k_dflt (refine wpAny_call (method_call (f := .ref 654) (News.get (by k_asm) (by k_mem)) (c_matchC (by k_asm) (by k_asm) (by k_asm) (by k_asm) (by k_mem) (by k_mem) (by k_mem) (by k_mem) (by assumption) (by assumption) (by assumption) (by assumption) ?_ (fun hF => ffOf hF (by assumption))))); intro _ r' tl' h' tk' F' N' A' M'; (k_dflt (obtain ⟨dM, hM1, hM2, tM1, tM2, tpM, mM1, mM2⟩ := M')); (try dsimp only)))
local macro_rules | `(tactic| k_enter) => `(tactic| (refine' code_genC ?k2 ?k4 ?k5 ?k6 ?k7 ?k8 ?k9 ?kB ?_ ?c2 ?c3 ?c4 ?c5; (case k2 => k_asm); (case k4 => k_asm); (case k5 => k_asm); (case k6 => k_mem); (case k7 => exact codeRec_news (by k_asm) (by k_mem) (by assumption) (by assumption)); (case k8 => k_room); (case k9 => first | exact BindsTo.of_eq rfl | (refine' kdv_binds ?N ?m ?d ?h1 ?h2; (case d => exact rfl); (case N => k_asm); (case m => k_mem); (case h1 => exact rfl); (case h2 => exact rfl))); (case c5 => decide); (case kB => exact locs rfl); (case c2 => exact rfl); (case c3 => exact rfl); (case c4 => exact rfl); k_whole; intro L' I' oL' t1' t2' h' tk' F' N' l1 l2' nsL hb1 hb2; (try k_lt l1); (try dsimp only)))
local macro_rules | `(tactic| walk_at "callWith ref") => `(tactic| (k_here; (with_reducible show wpAny _ _ (callWith _ (Value.ref _) _ _ _) _ _ _); k_dflt (refine' callWith_F ?X ?_; (case X => exact FnAt.of (by k_asm) (by k_mem)); k_whole)))
local macro_rules | `(tactic| walk_at "And") => `(tactic| (k_dflt (refine ⟨FnAt.of (by k_asm) (by k_mem), ?_⟩)))
theorem g_turn1 {w : World} {p : Program} {loose : List Str} {mean : ExcName → Option Value} {mg mb : Str → Option Value} {h₀ : Heap} {L : Addr} {m : Str → Option Value} {s : Shared} {Q E : Value → Shared → Prop} {news : List (Addr × Obj)}
  {self row b a l bc gdT gc' Tl : Addr} {txt : Str} {kt tp : Tok} {nameB : Str} {paramsB : Arguments} {bodyB : List Stmt} {scopeB : Scope} {docB pmB ctvB : Value} {ocB : Obj} {vsB : Array Value} {tB : Tok} {ps : List (Option (Str × Tok))} 
  {nm ql : Str} {psG : Arguments} {sc : Scope} {cd : Value} {q1 q2 q3 q4 : Stmt} {tw tgt iter : Expr} {g1 : Stmt} {c1 c2 c3 : Expr} {b3 : List Stmt} {ey : Expr} {yp yq p1 p2 : Pos} {g2 g3 g4 : Stmt} {p5 : Pos} {orelse : List Stmt} {fp wp : Pos} (F : Fr h₀ L s.heap m) (X : (hd.heap_39 w.params).In h₀) (N : News h₀ L s.heap news) (T : Top p loose mean mg mb h₀)
  (hFn : FnAt (hd.heap_39 w.params) 586 nm ql psG (gtBody q1 q2 q3 q4 tw tgt iter g1 c1 c2 c3 b3 ey yp yq p1 p2 g2 g3 g4 p5 orelse fp wp) sc cd)
  (hR : RowIn news row b a l ps) (hb : (b, kdv_obj nameB bgQual paramsB (.stmts bodyB) scopeB [(Str.ofString "args", bc)] (.ref gdT) docB pmB gc' ctvB) ∈ news) (hDefB : DefAt (hd.heap_39 w.params) 412 bgPick nameB paramsB bodyB scopeB) (hdT : (gdT, tupO [.none]) ∈ news)
  (hcB1 : (gc', ocB) ∈ news) (hcB2 : ocB.data = .fields vsB) (hcB3 : vsB[1]? = some (.str bgQual tB))
  (hn : ps.length < 100) (hle : ∀ q ∈ ps, (told q).length ≤ 1000) (hx : txt.length ≤ 1000) (hj : (Txt.join (Str.ofString "") (ps.map told)).length ≤ 1000) (hs : (Txt.slice txt (some 0) (some (0 + (Txt.join (Str.ofString "") (ps.map told)).length)) == Txt.join (Str.ofString "") (ps.map told)) = true)
  (h1 : m (Str.ofString "self") = some (.ref self)) (h2 : m (Str.ofString "text") = some (.str txt kt)) (h3 : m (Str.ofString "pos") = some (.int 0 tp)) (h4 : m (Str.ofString "statetokens") = some (.ref Tl))
  (hret : ∀ L' I oL mm dm h1' h2' t1' t2' k1' t3' t4' h' tk' m' mB tl, Fr h₀ L h' m' → News h₀ L h' ((I, genNew s.gens.size nameB bgQual t1' t2') :: (L', oL) :: (tl ++ news)) → Above ((I, genNew s.gens.size nameB bgQual t1' t2') :: (L', oL) :: tl) news → L' < I → (∀ q ∈ tl, q.1 < L') →
    (mm, instObj 630 dm) ∈ tl → (dm, dictOf [⟨h1', .str "place" t3', .int 0 k1'⟩, ⟨h2', .str "pieces" t4', .ref l⟩] 2) ∈ tl →
    NsOf oL mB → mB (Str.ofString "lexer") = some (.ref self) → mB (Str.ofString "match") = some (.ref mm) → mB (Str.ofString "ctx") = some .none → h₀.objs.size ≤ L' →
    m' (Str.ofString "m") = some (.ref mm) → m' (Str.ofString "new_state") = some .none → m' (Str.ofString "text") = some (.str txt kt) → m' (Str.ofString "statetokens") = some (.ref Tl) →
    Q (.ref I) { s with heap := h', toks := tk', gens := s.gens.push (.fresh (.func bodyB (bgEnv scopeB L' b gc' bc))) }) :
  wpAny (model PySem.Challenge.rw_ez0274_01.prog w) (AM 850 900) (assign tgt (gtEnv ql sc L cd) (.ref row)) (fun _ s₁ => wpAny (model PySem.Challenge.rw_ez0274_01.prog w) (AM 850 900) (exec g1 (gtEnv ql sc L cd)) (fun f1 s₂ => f1 = .next ∧ wpAny (model PySem.Challenge.rw_ez0274_01.prog w) (AM 850 900) (isTrue c1 (gtEnv ql sc L cd) (eval c1 (gtEnv ql sc L cd))) (fun b1 s₃ => b1 = true ∧
    wpAny (model PySem.Challenge.rw_ez0274_01.prog w) (AM 850 900) (isTrue c2 (gtEnv ql sc L cd) (eval c2 (gtEnv ql sc L cd))) (fun b2 s₄ => b2 = true ∧ wpAny (model PySem.Challenge.rw_ez0274_01.prog w) (AM 850 900) (isTrue c3 (gtEnv ql sc L cd) (eval c3 (gtEnv ql sc L cd))) (fun b3 s₅ => b3 = false ∧ wpAny (model PySem.Challenge.rw_ez0274_01.prog w) (AM 850 900) (eval ey (gtEnv ql sc L cd)) Q (fun _ _ => False) s₅) (fun _ _ => False) s₄) (fun _ _ => False) s₃) (fun _ _ => False) s₂) (fun _ _ => False) s₁) (fun _ _ => False) s := by
  revert X; k_fill; intro X
  obtain ⟨q, d, r, hR1, tR1, eR, eR', r1, r2, r3, r4, r5, r6⟩ := hR
  obtain ⟨ocX, odX, nmX, qlX, psX, bdX, scX, dVX, kVX, docX, pmX, anX, cdvX, ctX, oslX, xX1, xX2, xX3, xX4, xX5, xX6, hKX, hpX⟩ := hDefB
  refine key_of (by k_is) hKX (fun e => ?_)
  cases e
  cases hpX
  obtain ⟨oc, od, dV, kV, doc, pm, an, ct, osl, hK⟩ := hFn
  refine key_of (by k_is) hK (fun e => ?_)
  cases e
  k_steps
  any_goals try k_data
  any_goals (with_reducible try exact trivial)
  rename (∀ p, p ∈ _ ++ _ → _ < _) => lz
  exact hret _ _ _ _ _ _ _ _ _ _ _ _ _ _ _ _ _ (by assumption) (by assumption) (Above.cons (fun q hq => Nat.lt_trans (below_app lz q hq) (by assumption)) (Above.cons (below_app lz) (by assumption))) (by assumption) (fun q hq => lz q (List.mem_append_left _ hq)) (by assumption) (by assumption) (by assumption) (by rfl) (by rfl) (by rfl) (by assumption) (by rfl) (by rfl) (by assumption) (by assumption)

end
section
local macro_rules | `(tactic| walk_at "call ref") => `(tactic| (k_here; k_dflt (show wpAny _ _ (call (Value.ref 621) [Value.ref _]) _ _ _); k_dflt (refine c_end (by k_asm) (by k_asm) (by k_asm) (by k_asm) (by k_mem) (by k_mem) (by k_mem) (by assumption) (by assumption) (by assumption) ?_); intro tl' h' tk' t' F' N' A'; (try dsimp only)))
local macro_rules | `(tactic| walk_at "call ref") => `(tactic| (k_here; k_dflt (show wpAny _ _ (call (Value.ref _) [Value.str _ _, Value.int _ _]) _ _ _); k_dflt (refine wpAny_call (method_call (f := .ref 654) (News.get (by k_asm) (by k_mem)) (c_matchC (by k_asm) (by k_asm) (by k_asm) (by k_asm) (by k_mem) (by k_mem) (by k_mem) (by k_mem) (by assumption) (by assumption) (by assumption) (by assumption) (fun hF => ffOf (by assumption) hF) ?_))); intro _ tl' h' tk' F' N' A'; (try dsimp only)))
local macro_rules | `(tactic| walk_at "callWith ref") => `(tactic| (k_here; (with_reducible show wpAny _ _ (callWith _ (Value.ref _) _ _ _) _ _ _); k_dflt (refine' callWith_F ?X ?_; (case X => exact FnAt.of (by k_asm) (by k_mem)); k_whole)))
theorem g_after {w : World} {p : Program} {loose : List Str} {mean : ExcName → Option Value} {mg mb : Str → Option Value} {h₀ : Heap} {L : Addr} {m : Str → Option Value} {s : Shared} {news : List (Addr × Obj)}
  {mm dm l : Addr} {txt : Str} {kt k1 t3 t4 : Tok} {h1 h2 : Int} {e : Nat} {ps : List (Option (Str × Tok))} {vT : Value}
  {nm ql : Str} {psG : Arguments} {sc : Scope} {cd : Value} {q1 q2 q3 q4 : Stmt} {tw tgt iter : Expr} {g1 : Stmt} {c1 c2 c3 : Expr} {b3 : List Stmt} {ey : Expr} {yp yq p1 p2 : Pos} {g2 g3 g4 : Stmt} {p5 : Pos} {orelse : List Stmt} {fp wp : Pos} (F : Fr h₀ L s.heap m) (X : (hd.heap_39 w.params).In h₀) (N : News h₀ L s.heap news) (T : Top p loose mean mg mb h₀)
  (hFn : FnAt (hd.heap_39 w.params) 586 nm ql psG (gtBody q1 q2 q3 q4 tw tgt iter g1 c1 c2 c3 b3 ey yp yq p1 p2 g2 g3 g4 p5 orelse fp wp) sc cd)
  (hm1 : (mm, instObj 630 dm) ∈ news) (hm2 : (dm, dictOf [⟨h1, .str "place" t3, .int 0 k1⟩, ⟨h2, .str "pieces" t4, .ref l⟩] 2) ∈ news) (hl : (l, listOf (piecesOf ps).toArray e) ∈ news)
  (hn : ps.length < 100) (hle : ∀ q ∈ ps, (told q).length ≤ 1000)  (hj : (Txt.join (Str.ofString "") (ps.map told)).length ≤ 1000)
  (g1' : m (Str.ofString "m") = some (.ref mm)) (g2' : m (Str.ofString "new_state") = some .none) (g3' : m (Str.ofString "text") = some (.str txt kt)) (g4' : m (Str.ofString "statetokens") = some vT) {Q : Flow → Shared → Prop}
  (hret : ∀ m' h' tk' tl tp, Fr h₀ L h' m' → News h₀ L h' (tl ++ news) → Above tl news → m' (Str.ofString "pos") = some (.int (0 + ((Txt.join (Str.ofString "") (ps.map told)).length : Int)) tp) → m' (Str.ofString "text") = some (.str txt kt) → m' (Str.ofString "statetokens") = some vT → Q .brk { s with heap := h', toks := tk' }) :
  wpAny (model PySem.Challenge.rw_ez0274_01.prog w) (AM 850 900) (exec g2 (gtEnv ql sc L cd)) (fun f1 s₁ => f1 = .next ∧ wpAny (model PySem.Challenge.rw_ez0274_01.prog w) (AM 850 900) (exec g3 (gtEnv ql sc L cd)) (fun f2 s₂ => f2 = .next ∧ wpAny (model PySem.Challenge.rw_ez0274_01.prog w) (AM 850 900) (exec g4 (gtEnv ql sc L cd)) Q (fun _ _ => False) s₂) (fun _ _ => False) s₁) (fun _ _ => False) s := by
  revert X; k_fill; intro X
  obtain ⟨oc, od, dV, kV, doc, pm, an, ct, osl, hK⟩ := hFn
  refine key_of (by k_is) hK (fun e => ?_)
  cases e
  k_steps
  any_goals try k_data
  any_goals (with_reducible try exact trivial)
  exact hret _ _ _ _ _ (by assumption) (by assumption) (by assumption) (by rfl) (by assumption) (by assumption)
theorem g_turn2 {w : World} {p : Program} {loose : List Str} {mean : ExcName → Option Value} {mg mb : Str → Option Value} {h₀ : Heap} {L : Addr} {m : Str → Option Value} {s : Shared} {news : List (Addr × Obj)}
  {row b a l : Addr} {txt : Str} {kt tp : Tok} {pos : Int} {ps : List (Option (Str × Tok))}
  {nm ql : Str} {psG : Arguments} {sc : Scope} {cd : Value} {q1 q2 q3 q4 : Stmt} {tw tgt iter : Expr} {g1 : Stmt} {c1 c2 c3 : Expr} {b3 : List Stmt} {ey : Expr} {yp yq p1 p2 : Pos} {g2 g3 g4 : Stmt} {p5 : Pos} {orelse : List Stmt} {fp wp : Pos} (F : Fr h₀ L s.heap m) (X : (hd.heap_39 w.params).In h₀) (N : News h₀ L s.heap news) (T : Top p loose mean mg mb h₀)
  (hFn : FnAt (hd.heap_39 w.params) 586 nm ql psG (gtBody q1 q2 q3 q4 tw tgt iter g1 c1 c2 c3 b3 ey yp yq p1 p2 g2 g3 g4 p5 orelse fp wp) sc cd)
  (hR : RowIn news row b a l ps) (hn : ps.length < 100) (hle : ∀ q ∈ ps, (told q).length ≤ 1000)  (hx : txt.length ≤ 1000) (hj : (Txt.join (Str.ofString "") (ps.map told)).length ≤ 1000) (hs : (Txt.slice txt (some pos) (some (pos + ((Txt.join (Str.ofString "") (ps.map told)).length : Int))) == (Txt.join (Str.ofString "") (ps.map told))) = false)
  (g3' : m (Str.ofString "text") = some (.str txt kt)) (g4' : m (Str.ofString "pos") = some (.int pos tp)) {Q : Bool → Shared → Prop}
  (hret : ∀ m' h' tk' tl, Fr h₀ L h' m' → News h₀ L h' (tl ++ news) → Above tl news → m' (Str.ofString "pos") = some (.int pos tp) → m' (Str.ofString "text") = some (.str txt kt) → Q false { s with heap := h', toks := tk' }) :
  wpAny (model PySem.Challenge.rw_ez0274_01.prog w) (AM 850 900) (assign tgt (gtEnv ql sc L cd) (.ref row)) (fun _ s₁ => wpAny (model PySem.Challenge.rw_ez0274_01.prog w) (AM 850 900) (exec g1 (gtEnv ql sc L cd)) (fun f1 s₂ => f1 = .next ∧ wpAny (model PySem.Challenge.rw_ez0274_01.prog w) (AM 850 900) (isTrue c1 (gtEnv ql sc L cd) (eval c1 (gtEnv ql sc L cd))) Q (fun _ _ => False) s₂) (fun _ _ => False) s₁) (fun _ _ => False) s := by
  obtain ⟨q, d, r, hR1, tR1, eR, eR', r1, r2, r3, r4, r5, r6⟩ := hR
  revert X; k_fill; intro X
  obtain ⟨oc, od, dV, kV, doc, pm, an, ct, osl, hK⟩ := hFn
  refine key_of (by k_is) hK (fun e => ?_)
  cases e
  k_steps
  any_goals try k_data
  any_goals (with_reducible try exact trivial)
  exact hret _ _ _ _ (by assumption) (by assumption) (by assumption) (by assumption) (by assumption)
theorem g_else {w : World} {p : Program} {loose : List Str} {mean : ExcName → Option Value} {mg mb : Str → Option Value} {h₀ : Heap} {L : Addr} {m : Str → Option Value} {s : Shared} {news : List (Addr × Obj)}
  {txt : Str} {kt tp : Tok} {pos : Int}
  {nm ql : Str} {psG : Arguments} {sc : Scope} {cd : Value} {q1 q2 q3 q4 : Stmt} {tw tgt iter : Expr} {g1 : Stmt} {c1 c2 c3 : Expr} {b3 : List Stmt} {ey : Expr} {yp yq p1 p2 : Pos} {g2 g3 g4 : Stmt} {p5 : Pos} {orelse : List Stmt} {fp wp : Pos} (F : Fr h₀ L s.heap m) (X : (hd.heap_39 w.params).In h₀) (N : News h₀ L s.heap news) (T : Top p loose mean mg mb h₀)
  (hFn : FnAt (hd.heap_39 w.params) 586 nm ql psG (gtBody q1 q2 q3 q4 tw tgt iter g1 c1 c2 c3 b3 ey yp yq p1 p2 g2 g3 g4 p5 orelse fp wp) sc cd)
  (hx : txt.length ≤ 1000) (hp : (txt.length : Int) ≤ pos)
  (g3' : m (Str.ofString "text") = some (.str txt kt)) (g4' : m (Str.ofString "pos") = some (.int pos tp)) {Q : Flow → Shared → Prop}
  (hret : ∀ h' tk', Fr h₀ L h' m → News h₀ L h' news → Q .brk { s with heap := h', toks := tk' }) :
  wpAny (model PySem.Challenge.rw_ez0274_01.prog w) (AM 850 900) (execs orelse (gtEnv ql sc L cd)) Q (fun _ _ => False) s := by
  revert X; k_fill; intro X
  obtain ⟨oc, od, dV, kV, doc, pm, an, ct, osl, hK⟩ := hFn
  refine key_of (by k_is) hK (fun e => ?_)
  cases e
  k_steps
  any_goals try k_data
  any_goals (with_reducible try exact trivial)
  all_goals first | exact hret _ _ (by assumption) (by assumption) | (exfalso; omega)
theorem gt_scope {w : World} {h₀ : Heap} {nm ql : Str} {psG : Arguments} {bd : List Stmt} {sc : Scope} {cd : Value} (X : (hd.heap_39 w.params).In h₀) (hFn : FnAt (hd.heap_39 w.params) 586 nm ql psG bd sc cd) : GenScope PySem.Challenge.rw_ez0274_01.prog sc := by
  revert X; k_fill; intro X
  obtain ⟨oc, od, dV, kV, doc, pm, an, ct, osl, hK⟩ := hFn
  refine key_of (by k_is) hK (fun e => ?_)
  cases e
  exact ⟨rfl, rfl, rfl, by decide⟩
theorem gt_shape {w : World} {h₀ : Heap} {nm ql : Str} {psG : Arguments} {bd : List Stmt} {sc : Scope} {cd : Value} (X : (hd.heap_39 w.params).In h₀) (hFn : FnAt (hd.heap_39 w.params) 586 nm ql psG bd sc cd) : PySem.Challenge.rw_ez0274_01.prog = PySem.Challenge.rw_ez0274_01.prog ∧
    ∃ q1 q2 q3 q4 tw elts x1 tpos iter g1 c1 c2 c3 b3 ey yp yq p1 p2 g2 g3 g4 p5 orelse fp wp, bd = gtBody q1 q2 q3 q4 tw (.Tuple elts x1 tpos) iter g1 c1 c2 c3 b3 ey yp yq p1 p2 g2 g3 g4 p5 orelse fp wp ∧ (∀ x env, foldedSetIterable iter env x = (pure x : Sem Value)) := by
  revert X; k_fill; intro X
  obtain ⟨oc, od, dV, kV, doc, pm, an, ct, osl, hK⟩ := hFn
  refine key_of (by k_is) hK (fun e => ?_)
  cases e
  exact ⟨rfl, _, _, _, _, _, _, _, _, _, _, _, _, _, _, _, _, _, _, _, _, _, _, _, _, _, _, rfl, fun _ _ => rfl⟩

end
section
theorem g_test {w : World} {p : Program} {loose : List Str} {mean : ExcName → Option Value} {mg mb : Str → Option Value} {h₀ : Heap} {L : Addr} {m : Str → Option Value} {s : Shared} {news : List (Addr × Obj)}
  {nm ql : Str} {psG : Arguments} {sc : Scope} {cd : Value} {q1 q2 q3 q4 : Stmt} {tw tgt iter : Expr} {g1 : Stmt} {c1 c2 c3 : Expr} {b3 : List Stmt} {ey : Expr} {yp yq p1 p2 : Pos} {g2 g3 g4 : Stmt} {p5 : Pos} {orelse : List Stmt} {fp wp : Pos} (F : Fr h₀ L s.heap m) (X : (hd.heap_39 w.params).In h₀) (N : News h₀ L s.heap news) (T : Top p loose mean mg mb h₀)
  (hFn : FnAt (hd.heap_39 w.params) 586 nm ql psG (gtBody q1 q2 q3 q4 tw tgt iter g1 c1 c2 c3 b3 ey yp yq p1 p2 g2 g3 g4 p5 orelse fp wp) sc cd) {Q : Bool → Shared → Prop}
  (hret : ∀ h' tk', Fr h₀ L h' m → News h₀ L h' news → Q true { s with heap := h', toks := tk' }) :
  wpAny (model PySem.Challenge.rw_ez0274_01.prog w) (AM 850 900) (isTrue tw (gtEnv ql sc L cd) (eval tw (gtEnv ql sc L cd))) Q (fun _ _ => False) s := by
  revert X; k_fill; intro X
  obtain ⟨oc, od, dV, kV, doc, pm, an, ct, osl, hK⟩ := hFn
  refine key_of (by k_is) hK (fun e => ?_)
  cases e
  k_steps
  any_goals try k_data
  any_goals (with_reducible try exact trivial)
  exact hret _ _ (by assumption) (by assumption)
theorem g_iter {w : World} {p : Program} {loose : List Str} {mean : ExcName → Option Value} {mg mb : Str → Option Value} {h₀ : Heap} {L : Addr} {m : Str → Option Value} {s : Shared} {news : List (Addr × Obj)}
  {vT : Value} {nm ql : Str} {psG : Arguments} {sc : Scope} {cd : Value} {q1 q2 q3 q4 : Stmt} {tw tgt iter : Expr} {g1 : Stmt} {c1 c2 c3 : Expr} {b3 : List Stmt} {ey : Expr} {yp yq p1 p2 : Pos} {g2 g3 g4 : Stmt} {p5 : Pos} {orelse : List Stmt} {fp wp : Pos} (F : Fr h₀ L s.heap m) (X : (hd.heap_39 w.params).In h₀) (N : News h₀ L s.heap news) (T : Top p loose mean mg mb h₀)
  (hFn : FnAt (hd.heap_39 w.params) 586 nm ql psG (gtBody q1 q2 q3 q4 tw tgt iter g1 c1 c2 c3 b3 ey yp yq p1 p2 g2 g3 g4 p5 orelse fp wp) sc cd) (h4 : m (Str.ofString "statetokens") = some vT) {Q : Value → Shared → Prop}
  (hret : ∀ h' tk', Fr h₀ L h' m → News h₀ L h' news → Q vT { s with heap := h', toks := tk' }) :
  wpAny (model PySem.Challenge.rw_ez0274_01.prog w) (AM 850 900) (eval iter (gtEnv ql sc L cd)) Q (fun _ _ => False) s := by
  revert X; k_fill; intro X
  obtain ⟨oc, od, dV, kV, doc, pm, an, ct, osl, hK⟩ := hFn
  refine key_of (by k_is) hK (fun e => ?_)
  cases e
  k_steps
  any_goals try k_data
  any_goals (with_reducible try exact trivial)
  exact hret _ _ (by assumption) (by assumption)

end
section
theorem RowIn.mono {news news' : List (Addr × Obj)} {row b a l : Addr} {ps : List (Option (Str × Tok))} (h : RowIn news row b a l ps) (hs : ∀ q ∈ news, q ∈ news') : RowIn news' row b a l ps := by
  obtain ⟨q, d, r, hR1, tR1, eR, eR', r1, r2, r3, r4, r5, r6⟩ := h
  exact ⟨q, d, r, hR1, tR1, eR, eR', hs _ r1, hs _ r2, hs _ r3, hs _ r4, hs _ r5, hs _ r6⟩
section
variable {w : World} {p : Program} {loose : List Str} {mean : ExcName → Option Value} {mg mb : Str → Option Value} {h₀ : Heap} {sh own : List (Addr × Obj)} {n gG : Nat} {L self td stk Tl row b a l : Addr} {ps : List (Option (Str × Tok))} {txt : Str} {kt : Tok} {eT : Nat}
  {nm ql : Str} {psG : Arguments} {sc : Scope} {cd : Value} {q1 q2 q3 q4 : Stmt} {tw : Expr} {elts : List Expr} {tx1 : Nat} {tpos : Pos} {iter : Expr} {g1 : Stmt} {c1 c2 c3 : Expr} {b3 : List Stmt} {ey : Expr} {yp yq p1 p2 : Pos} {g2 g3 g4 : Stmt} {p5 : Pos} {orelse : List Stmt} {fp wp : Pos} {bd : List Stmt}
abbrev gtTurn (g1 : Stmt) (c1 c2 c3 : Expr) (b3 : List Stmt) (ey : Expr) (yp yq p1 p2 : Pos) (g2 g3 g4 : Stmt) (p5 : Pos) : List Stmt := [g1, .If c1 [.If c2 [.If c3 b3 [.Expr (.YieldFrom ey yp) yq] p1] [] p2, g2, g3, g4] [] p5]
abbrev gtFor (tgt iter : Expr) (g1 : Stmt) (c1 c2 c3 : Expr) (b3 : List Stmt) (ey : Expr) (yp yq p1 p2 : Pos) (g2 g3 g4 : Stmt) (p5 : Pos) (orelse : List Stmt) (fp : Pos) : List Stmt := [.For tgt iter (gtTurn g1 c1 c2 c3 b3 ey yp yq p1 p2 g2 g3 g4 p5) orelse fp]
abbrev gtWhile (tw tgt iter : Expr) (g1 : Stmt) (c1 c2 c3 : Expr) (b3 : List Stmt) (ey : Expr) (yp yq p1 p2 : Pos) (g2 g3 g4 : Stmt) (p5 : Pos) (orelse : List Stmt) (fp : Pos) (env : Env) : Code := .whileLoop tw (gtFor tgt iter g1 c1 c2 c3 b3 ey yp yq p1 p2 g2 g3 g4 p5 orelse fp) [] env
def wNext (env : Env) : Flow → Sem Fin := fun f => match f with | .next => (execs [] env).wrap outF (outE env) id id | f => outF f
abbrev wFrame (env : Env) (bd : List Stmt) (pp : Pos) : Frame := .ret (back env (wNext env) (outE env) id id) none false [] (.func bd env) pp []
def gKW (code : Code) : Flow → Sem Fin := fun f => match f with
            | .next | .cont => .pure (.again code)
            | .brk => .pure (.done .next)
            | .ret v => .pure (.done (.ret v))
theorem gt_end (hn : n ≤ 40) (X : (hd.heap_39 w.params).In h₀) (T : Top p loose mean mg mb h₀) (hL : h₀.objs.size ≤ L)
    (hFn : FnAt (hd.heap_39 w.params) 586 nm ql psG (gtBody q1 q2 q3 q4 tw (.Tuple elts tx1 tpos) iter g1 c1 c2 c3 b3 ey yp yq p1 p2 g2 g3 g4 p5 orelse fp wp) sc cd) (hfold : ∀ x env, foldedSetIterable iter env x = (pure x : Sem Value))
    (hT : (Tl, listOf #[.ref row] eT) ∈ sh) (hR : RowIn sh row b a l ps) (hnp : ps.length < 100) (hle : ∀ q ∈ ps, (told q).length ≤ 1000) (hx : txt.length ≤ 1000) (hj : (Txt.join (Str.ofString "") (ps.map told)).length ≤ 1000)
    {pos : Int} {tp : Tok} (hpos : (txt.length : Int) ≤ pos) (hs : (Txt.slice txt (some pos) (some (pos + ((Txt.join (Str.ofString "") (ps.map told)).length : Int))) == Txt.join (Str.ofString "") (ps.map told)) = false) (hshL : ∀ q ∈ sh, q.1 ≠ L) {pp : Pos}
    {m : Str → Option Value} {oL : Obj} (hNs : NsOf oL m) (m1 : m (Str.ofString "pos") = some (.int pos tp)) (m2 : m (Str.ofString "text") = some (.str txt kt)) (m3 : m (Str.ofString "statetokens") = some (.ref Tl)) :
    SW PySem.Challenge.rw_ez0274_01.prog w h₀ sh n gG [] ((L, oL) :: own) [] (gtWhile tw (.Tuple elts tx1 tpos) iter g1 c1 c2 c3 b3 ey yp yq p1 p2 g2 g3 g4 p5 orelse fp (gtEnv ql sc L cd))
      ((model PySem.Challenge.rw_ez0274_01.prog w).den (gtWhile tw (.Tuple elts tx1 tpos) iter g1 c1 c2 c3 b3 ey yp yq p1 p2 g2 g3 g4 p5 orelse fp (gtEnv ql sc L cd))) [wFrame (gtEnv ql sc L cd) bd pp] := by
  intro s P H hrun hgU hP
  obtain ⟨F, rest, N, hr⟩ := walk_env H (.head _) hNs hL
  have hsh : ∀ q ∈ sh, q ∈ rest := fun q hq => hr _ _ (H.shared q hq).1 (H.shared q hq).2 (hshL q hq)
  have fin : ∀ h' tk' m', Fr h₀ L h' m' → (∀ q ∈ rest, h'.get? q.1 = some q.2) → P (.ret (.ok (.ret .none))) { s with heap := h', toks := tk' } := fun h' tk' m' F' k => by
    refine hP _ (moves_new (fp' := []) (fun a o g1 g2 => ?_) fun q hq => (nomatch hq))
    cases h3 : h₀.get? a with
    | none => exact k _ (hr a o g1 h3 (g2 _ (.head _)).symm)
    | some o' =>
      have z := H.base a o' h3
      rw [g1] at z; cases z
      exact F'.keep a o h3
  refine seg_whileTurn (d := 850) (u := 900) ⟨rfl, ?_, ?_⟩ (g_test F X N T hFn fun h1 tk1 F1 N1 => ⟨rfl, ?_⟩)
  · show 400 + n + 1 + 0 ≤ 850
    omega
  · show 400 + 8 * n + 1 + 3 + 0 ≤ 900
    omega
  refine seg_cons (seg_For (d := 850) (u := 900) ⟨rfl, ?_, ?_⟩ (g_iter F1 X N1 T hFn m3 fun h2 tk2 F2 N2 => pyIter_listY F2 N2 (hsh _ hT) rfl rfl fun I o h3 F3 N3 hI hIt pf => ?_) (fun x => hfold x _))
  · show 400 + n + 1 + 0 ≤ 850
    omega
  · show 400 + 8 * n + 1 + 3 + 0 ≤ 900
    omega
  have neI : ∀ q ∈ rest, q.1 ≠ I := fun q hq => Nat.ne_of_lt (hI q hq)
  have W := iterList (prog := PySem.Challenge.rw_ez0274_01.prog) (w := w) (l := Tl) (lo := listOf #[.ref row] eT) (vs := [.ref row]) (ep := eT) rfl rfl
  refine seg_forTurn (wpT_of (W.item _ _ I o 0 _ _ rfl Nat.one_pos hIt (N3 _ (.head _)).1 (fun q hq => by rcases List.mem_singleton.mp hq with rfl; exact (N3 _ (.tail _ (hsh _ hT))).1) fun v h4 o4 tk4 hv ho4 hIt4 hb4 => ?_))
  obtain rfl : v = .ref row := (Option.some.inj hv).symm
  obtain ⟨F4, N4⟩ := it_step F3 N3 neI ho4 hb4
  refine wpT_of (W.go _ _ _ I o4 1 _ _ _ hIt4 ho4 ?_)
  refine assign_second (d := 850) (u := 900) ⟨rfl, ?_, ?_⟩ (g_turn2 F4 X N4 T hFn (hR.mono fun q hq => .tail _ (hsh q hq)) hnp hle hx hj hs m2 m1 fun m' h5 tk5 tl F5 N5 ha5 p5' t5' => ⟨rfl, ?_⟩)
  · show 400 + n + 1 + 0 ≤ 850
    omega
  · show 400 + 8 * n + 1 + 3 + 0 ≤ 900
    omega
  have N5' : News h₀ L h5 ((I, o4) :: (tl ++ rest)) := News.sub N5 fun q hq => by
    rcases List.mem_cons.mp hq with rfl | hq
    · exact List.mem_append_right _ (.head _)
    · rcases List.mem_append.mp hq with hq | hq
      · exact List.mem_append_left _ hq
      · exact List.mem_append_right _ (.tail _ hq)
  have ne5 : ∀ q ∈ tl ++ rest, q.1 ≠ I := fun q hq => by
    rcases List.mem_append.mp hq with hq | hq
    · exact Nat.ne_of_gt (ha5 q hq _ (.head _))
    · exact neI q hq
  refine seg_againT rfl (seg_forTurn (wpT_of (W.fin _ _ I o4 _ _ rfl hIt4 (N5' _ (.head _)).1 (fun q hq => by rcases List.mem_singleton.mp hq with rfl; exact (N5' _ (.tail _ (List.mem_append_right _ (hsh _ hT)))).1) fun h6 tk6 hb6 => ?_)))
  obtain ⟨F6, N6⟩ := it_fin F5 N5' ne5 hb6
  refine seg_any (d := 850) (u := 900) ⟨rfl, ?_, ?_⟩ (g_else F6 X N6 T hFn hx hpos t5' p5' fun h7 tk7 F7 N7 => ?_)
  · show 400 + n + 1 + 0 ≤ 850
    omega
  · show 400 + 8 * n + 1 + 3 + 0 ≤ 900
    omega
  refine seg_retT (r := .ok .brk) ?_
  refine seg_retT (r := .ok .next) ?_
  show SegT _ _ _ (wNext _ .next) _ _ _
  unfold wNext
  refine seg_nil (seg_endT (.ok (.ret .none)) (fin h7 tk7 _ F7 fun q hq => (N7 _ (List.mem_append_right _ hq)).1))
end

end
section
structure GenLike (o : Obj) (g : Nat) (n : Int) : Prop where
  cls : o.cls = .type "generator"
  data : ∃ nm qn, o.data = .fields #[.int g 0, nm, qn]
  slots : (n = 0 ∧ o.slots = #[]) ∨ o.slots = #[some (rawInt n)]
theorem GenLike.at {o : Obj} {g : Nat} {n : Int} {h : Heap} {a : Addr} (x : GenLike o g n) (e : h.get? a = some o) : GenObj h a g n o := ⟨e, x.cls, x.data, x.slots⟩
theorem GenLike.to {o : Obj} {g : Nat} {n : Int} (x : GenLike o g n) (k : Int) : GenLike (slotsTo k o) g k := ⟨x.cls, x.data, .inr rfl⟩
theorem genNew_like {g : Nat} {nm qn : Str} {t1 t2 : Tok} : GenLike (genNew g nm qn t1 t2) g 0 := ⟨rfl, ⟨_, _, rfl⟩, .inl ⟨rfl, rfl⟩⟩
theorem g_yf {prog : Program} {w : World} {h₀ : Heap} {sh base ex : List (Addr × Obj)} {n gG gB : Nat} {IB : Addr} {code : Code} {fsO : List Frame} {kY : Result → Sem Fin} {pY : Pos}
    (hsp : splitAtGen fsO = none) (hgd : fsO.any Frame.guarded = false) (hroom : Fits ((AM (400 + n) (400 + 8 * n)).in1.over (yfCode IB) (.ret kY none false [] code pY [] :: fsO)) (400 + (n + 1)) (400 + 8 * (n + 1)))
    (hcont : SW prog w h₀ sh n gG [] base [] code (kY (.ok (.ret .none))) fsO) (hbI : ∀ q ∈ base, q.1 ≠ IB) (hot : ∀ q ∈ base, ∀ t k1 k2, q.2 ≠ tokObj t k1 k2) (hex : ∀ q ∈ ex, q ∈ base) :
    ∀ (ts : List Tk) (fpB : List (Addr × Obj)) (gpB : List (Nat × GenState)) (oIB : Obj), Will prog w h₀ (ex ++ sh) (n + 1) ts gB fpB gpB → GenLike oIB gB 0 → (∀ q ∈ fpB, q.1 ≠ IB ∧ ∀ r ∈ base, q.1 ≠ r.1) →
      SW prog w h₀ sh n gG ts ((IB, oIB) :: (base ++ fpB)) gpB (yfCode IB) ((model prog w).den (yfCode IB)) (.ret kY none false [] code pY [] :: fsO) := by
  have hfs : splitAtGen (.ret kY none false [] code pY [] :: fsO) = none := by
    rw [splitAtGen_ret, hsp]; rfl
  have hfg : (Frame.ret kY none false [] code pY [] :: fsO).any Frame.guarded = false := by
    rw [List.any_cons, hgd]; rfl
  have wider : ∀ {s : Shared} {fpB : List (Addr × Obj)} {gpB : List (Nat × GenState)} {oIB : Obj}, Has h₀ sh ((IB, oIB) :: (base ++ fpB)) gpB s → (∀ q ∈ fpB, q.1 ≠ IB ∧ ∀ r ∈ base, q.1 ≠ r.1) → Has h₀ (ex ++ sh) fpB gpB s := by
    intro s fpB gpB oIB H hdj
    refine ⟨H.base, fun q hq => ?_, fun q hq => H.own q (.tail _ (List.mem_append_right _ hq)), fun q hq r hr => ?_, H.gens⟩
    · rcases List.mem_append.mp hq with hq | hq
      · exact H.own q (.tail _ (List.mem_append_left _ (hex q hq)))
      · exact H.shared q hq
    · rcases List.mem_append.mp hr with hr | hr
      · exact ((hdj q hq).2 r (hex r hr)).symm
      · exact H.apart q (.tail _ (List.mem_append_right _ hq)) r hr
  intro ts
  induction ts with
  | nil =>
    intro fpB gpB oIB hW hg hdj
    refine SW.before fun s P H hrun hgU cont => ?_
    have hI := H.own _ (.head _)
    refine seg_yf (g := gB) hfs hfg (wpT_lift hroom (hW s IB _ _ (wider H hdj) (hg.at hI.1).isGen (fun q hq => (hdj q hq).1) fun s' M => ?_))
    refine seg_retT (r := .ok (.ret .none)) ?_
    have H' := has_end (own := (IB, oIB) :: base) H M (fun q hq r hr => by
      rcases List.mem_cons.mp hq with rfl | hq
      · exact (hdj r hr).1
      · exact (hdj r hr).2 q hq)
    exact cont s' base [] _ _ _ (M.wide (fun q hq => .inl ⟨q, .tail _ (List.mem_append_left _ hq), rfl⟩) fun q hq => .tail _ (List.mem_append_right _ hq)) ⟨H'.base, H'.shared, fun q hq => H'.own q (.tail _ hq), fun q hq => H'.apart q (.tail _ hq), H'.gens⟩ hcont
  | cons t ts ih =>
    intro fpB gpB oIB hW hg hdj s P H hrun hgU hP
    have hI := H.own _ (.head _)
    refine seg_yf (g := gB) hfs hfg (wpT_lift hroom (hW s IB _ _ (wider H hdj) (hg.at hI.1).isGen (fun q hq => (hdj q hq).1) fun v s' fpB' gpB' hv M H' hW' => ?_))
    have hdo : ∀ q ∈ (IB, oIB) :: base, ∀ r ∈ fpB, r.1 ≠ q.1 := fun q hq r hr => by
      rcases List.mem_cons.mp hq with rfl | hq
      · exact (hdj r hr).1
      · exact (hdj r hr).2 q hq
    obtain ⟨H₂, hd'⟩ := Has.step (own := (IB, oIB) :: base) H M (⟨H'.base, fun q hq => H'.shared q (List.mem_append_right _ hq), H'.own, fun q hq r hr => H'.apart q hq r (List.mem_append_right _ hr), H'.gens⟩ : Has h₀ sh fpB' gpB' s') hdo
    have hI' := H₂.own _ (.head _)
    obtain ⟨a, k1, k2, rfl, htok, ha0, hafp⟩ := hv
    have haI : a ≠ IB := fun q => by
      rw [q, hI'.1] at htok
      have z := congrArg Obj.cls (Option.some.inj htok)
      rw [hg.cls] at z
      exact absurd (Value.type.inj z) (by decide)
    have hab : ∀ q ∈ base, q.1 ≠ a := fun q hq e => by
      have z := (H₂.own q (.tail _ (List.mem_append_left _ hq))).1
      rw [e, htok] at z
      exact hot q hq _ _ _ (Option.some.inj z).symm
    refine ⟨oIB, hg.at hI'.1, fun h' h1 h2 pp l k hk => ?_⟩
    have kp : ∀ x ox, s'.heap.get? x = some ox → x ≠ IB → h'.get? x = some ox := fun x ox e1 e2 => (h2.2 x e2).trans e1
    have hne : ∀ q ∈ base ++ fpB', q.1 ≠ IB := fun q hq => by
      rcases List.mem_append.mp hq with hq | hq
      · exact hbI q hq
      · exact hd' (IB, oIB) (.head _) q hq
    have M₁ : Moves h₀ ((IB, oIB) :: (base ++ fpB)) ((IB, oIB) :: (base ++ fpB')) gpB gpB' s s' := M.wide (fun q hq => by
      rcases List.mem_cons.mp hq with rfl | hq
      · exact .inl ⟨_, .head _, rfl⟩
      · rcases List.mem_append.mp hq with hq | hq
        · exact .inl ⟨q, .tail _ (List.mem_append_left _ hq), rfl⟩
        · exact .inr hq) fun q hq => .tail _ (List.mem_append_right _ hq)
    have same : ∀ (o : Obj), ∀ q ∈ (IB, o) :: (base ++ fpB'), ∃ r ∈ (IB, oIB) :: (base ++ fpB'), r.1 = q.1 := fun o q hq => by
      rcases List.mem_cons.mp hq with rfl | hq
      · exact ⟨_, .head _, rfl⟩
      · exact ⟨q, .tail _ hq, rfl⟩
    have M₂ : Moves h₀ ((IB, oIB) :: (base ++ fpB')) ((IB, slotsTo 1 oIB) :: (base ++ fpB')) gpB' gpB' s' { s' with heap := h' } := moves_new (s := s') (tk := s'.toks) (fun x ox e1 e2 => kp x ox e1 fun q => e2 _ (.head _) q.symm) fun q hq => .inl (same _ q hq)
    have H₃ : Has h₀ sh ((IB, slotsTo 1 oIB) :: (base ++ fpB')) gpB' { s' with heap := h' } := has_new (s := s') (tk := s'.toks) (gens' := s'.gens) H₂ (fun b o e => kp b o (H₂.base b o e) fun q => by
        have z := hI'.2
        rw [q] at e; rw [e] at z; cases z) (fun q hq => kp _ _ (H₂.shared q hq).1 (H₂.apart _ (.head _) q hq)) (fun q hq => by
        rcases List.mem_cons.mp hq with rfl | hq
        · exact ⟨h1, hI'.2⟩
        · have z := H₂.own q (.tail _ hq)
          exact ⟨kp _ _ z.1 (hne q hq), z.2⟩) (fun q hq => .inl (same _ q hq)) H₂.gens
    refine hP _ true l k _ pp _ _ _ gpB' ⟨a, k1, k2, rfl, kp a _ htok haI, ha0, fun q hq e => ?_⟩ (M₁.trans M₂) H₃ ?_
    · rcases List.mem_cons.mp hq with rfl | hq
      · exact haI e.symm
      · rcases List.mem_append.mp hq with hq | hq
        · exact hab q hq e
        · exact hafp q hq e
    · refine SW.before fun s₃ P₃ K₃ run₃ _ cont₃ => hk _ s₃ (slotsTo 1 oIB) P₃ ((hg.to 1).at (K₃.own _ (.head _)).1) fun h₃ g1 g2 => ?_
      have kp₃ : ∀ x ox, s₃.heap.get? x = some ox → x ≠ IB → h₃.get? x = some ox := fun x ox e1 e2 => (g2.2 x e2).trans e1
      have same₃ : ∀ q ∈ (IB, slotsTo 0 (slotsTo 1 oIB)) :: (base ++ fpB'), ∃ r ∈ (IB, slotsTo 1 oIB) :: (base ++ fpB'), r.1 = q.1 := fun q hq => by
        rcases List.mem_cons.mp hq with rfl | hq
        · exact ⟨_, .head _, rfl⟩
        · exact ⟨q, .tail _ hq, rfl⟩
      refine cont₃ { s₃ with heap := h₃ } _ gpB' _ _ _ (moves_new (s := s₃) (tk := s₃.toks) (fun x ox e1 e2 => kp₃ x ox e1 fun q => e2 _ (.head _) q.symm) fun q hq => .inl (same₃ q hq)) (has_new (s := s₃) (tk := s₃.toks) (gens' := s₃.gens) K₃ (fun b o e => kp₃ b o (K₃.base b o e) fun q => by
        have z := (K₃.own _ (.head _)).2
        rw [q] at e; rw [e] at z; cases z) (fun q hq => kp₃ _ _ (K₃.shared q hq).1 (K₃.apart _ (.head _) q hq)) (fun q hq => by
        rcases List.mem_cons.mp hq with rfl | hq
        · exact ⟨g1, (K₃.own _ (.head _)).2⟩
        · have z := K₃.own q (.tail _ hq)
          exact ⟨kp₃ _ _ z.1 (hne q hq), z.2⟩) (fun q hq => .inl (same₃ q hq)) K₃.gens) (ih fpB' gpB' _ hW' ((hg.to 1).to 0) fun q hq => ⟨hd' (IB, oIB) (.head _) q hq, fun r hr => hd' r (.tail _ hr) q hq⟩)

end
section

theorem listKT {prog : Program} {w : World} {A : Around} {E Q : Value → Shared → Prop} {s : Shared} {h₀ : Heap} {L t : Addr} {m : Str → Option Value} {news : List (Addr × Obj)} {K : Frag} {its : Array Value} {zs : List Value} {n : Nat} (F : Fr h₀ L s.heap m) (N : News h₀ L s.heap news) (X : K.In h₀) (e : K.lookup t = some { cls := .type "tuple", data := .seq its n })
    (ez : its.toList = zs) (hz : its.size ≤ 1000) (h : ∀ D c h', Fr h₀ L h' m → News h₀ L h' ((D, listOf zs.toArray c) :: news) → (∀ q ∈ news, q.1 < D) → Q (.ref D) { s with heap := h' }) : wpAny (model prog w) A (call (.type "list") [.ref t]) Q E s :=
  list_copyKT F N ⟨_, (X.keeps F.keep) _ _ e, rfl, _, rfl⟩ (fun D c h' F' N' l1 => h D c h' F' (by rw [← ez, Array.toArray_toList]; exact N') l1) (by rw [sizeLine_eq]; omega)
local macro_rules | `(tactic| walk_at "call type:list") => `(tactic| (k_here; (with_reducible show wpAny _ _ (call (Value.type _) [Value.ref _]) _ _ _); k_dflt (refine' listKT ?F ?N ?X ?e ?y ?z ?_; (case F => k_asm); (case N => k_asm); (case X => k_asm); (case e => k_is); (case y => exact rfl); (case z => decide)); intro D' c' h' F' N' l1; (try k_lt l1); (try k_sweep)))
theorem g_prepK {w : World} {p : Program} {loose : List Str} {mean : ExcName → Option Value} {mg mb : Str → Option Value} {h₀ : Heap} {L : Addr} {m : Str → Option Value} {s : Shared} {Q E : Value → Shared → Prop} {news : List (Addr × Obj)}
  {self td Tl row : Addr} {txt : Str} {kt : Tok} {nm ql : Str} {psG : Arguments} {sc : Scope} {cd : Value} {q1 q2 q3 q4 : Stmt} {tw tgt iter : Expr} {g1 : Stmt} {c1 c2 c3 : Expr} {b3 : List Stmt} {ey : Expr} {yp yq p1 p2 : Pos} {g2 g3 g4 : Stmt} {p5 : Pos} {orelse : List Stmt} {fp wp : Pos} (F : Fr h₀ L s.heap m) (X : (hd.heap_39 w.params).In h₀) (N : News h₀ L s.heap news) (T : Top p loose mean mg mb h₀)
  (hFn : FnAt (hd.heap_39 w.params) 586 nm ql psG (gtBody q1 q2 q3 q4 tw tgt iter g1 c1 c2 c3 b3 ey yp yq p1 p2 g2 g3 g4 p5 orelse fp wp) sc cd)
  (hl : LexIn news self td) (hS : StateIn PySem.Challenge.rw_ez0274_01.prog w news td (Str.ofString "root") Tl row)
  (h1 : m (Str.ofString "self") = some (.ref self)) (h2 : m (Str.ofString "text") = some (.str txt kt)) (h3 : m (Str.ofString "stack") = some (.ref 578)) {Q : Flow → Shared → Prop}
  (hret : ∀ m' h' tk' tl tp, Fr h₀ L h' m' → News h₀ L h' (tl ++ news) → Above tl news → m' (Str.ofString "self") = some (.ref self) → m' (Str.ofString "text") = some (.str txt kt) → m' (Str.ofString "pos") = some (.int 0 tp) → m' (Str.ofString "statetokens") = some (.ref Tl) → Q .next { s with heap := h', toks := tk' }) :
  wpAny (model PySem.Challenge.rw_ez0274_01.prog w) (AM 850 900) (exec q1 (gtEnv ql sc L cd)) (fun f1 s₁ => f1 = .next ∧ wpAny (model PySem.Challenge.rw_ez0274_01.prog w) (AM 850 900) (exec q2 (gtEnv ql sc L cd)) (fun f2 s₂ => f2 = .next ∧ wpAny (model PySem.Challenge.rw_ez0274_01.prog w) (AM 850 900) (exec q3 (gtEnv ql sc L cd)) (fun f3 s₃ => f3 = .next ∧ wpAny (model PySem.Challenge.rw_ez0274_01.prog w) (AM 850 900) (exec q4 (gtEnv ql sc L cd)) Q (fun _ _ => False) s₃) (fun _ _ => False) s₂) (fun _ _ => False) s₁) (fun _ _ => False) s := by
  revert X; k_fill; intro X
  obtain ⟨d, h1', h2', h3', h4', h5', h6', h7', h8', h9', tt1, tt2, tt3, tt4, tt5, tt6, tt7, tt8, tt9, v1, v2, v3, v4, v5, v6, v7, v8, hm1, hm2⟩ := hl
  obtain ⟨otd, kvs, ee, hm3, hm4, hm5, hm6, hm7⟩ := hS
  obtain ⟨oc, od, dV, kV, doc, pm, an, ct, osl, hK⟩ := hFn
  refine key_of (by k_is) hK (fun e => ?_)
  cases e
  k_steps
  any_goals try k_data
  any_goals (with_reducible try exact trivial)

  exact hret _ _ _ [_] _ (by assumption) (by assumption) (by walk_at "my above") (by assumption) (by assumption) (by rfl) (by rfl)

end
section
section
variable {w : World} {p : Program} {loose : List Str} {mean : ExcName → Option Value} {mg mb : Str → Option Value} {h₀ : Heap} {sh : List (Addr × Obj)} {n gG : Nat} {L self td stk Tl row b a l bc gdT gc' D : Addr} {ps : List (Option (Str × Tok))} {txt st : Str} {kt : Tok}
  {nm ql : Str} {psG : Arguments} {sc : Scope} {cd : Value} {bd : List Stmt} {nameB : Str} {paramsB : Arguments} {bodyB : List Stmt} {scopeB : Scope} {docB pmB ctvB : Value} {ocB oc : Obj} {vsB : Array Value} {tB : Tok} {vs : List Value} {acts : List (Value × List Tk)}
theorem gt_fresh (hn : n ≤ 40) (X : (hd.heap_39 w.params).In h₀) (T : Top p loose mean mg mb h₀) (hL : h₀.objs.size ≤ L) (hFn : FnAt (hd.heap_39 w.params) 586 nm ql psG bd sc cd)
    (hl : LexIn sh self td) (hS : StateIn PySem.Challenge.rw_ez0274_01.prog w sh td st Tl row) (hstk : (∃ rt t1 t2, (stk, tupO [.str rt t1, .str st t2]) ∈ sh) ∨ (stk = 578 ∧ st = Str.ofString "root"))
    (hR : RowIn sh row b a l ps) (hb : (b, kdv_obj nameB bgQual paramsB (.stmts bodyB) scopeB [(Str.ofString "args", bc)] (.ref gdT) docB pmB gc' ctvB) ∈ sh) (hDefB : DefAt (hd.heap_39 w.params) 412 bgPick nameB paramsB bodyB scopeB) (hdT : (gdT, tupO [.none]) ∈ sh)
    (hcB1 : (gc', ocB) ∈ sh) (hcB2 : ocB.data = .fields vsB) (hcB3 : vsB[1]? = some (.str bgQual tB)) (hbc : (bc, oc) ∈ sh) (hbcd : oc.data = .cell (some (.ref D))) (hD : (D, tupO vs) ∈ sh)
    (hnp : ps.length < 100) (hle : ∀ q ∈ ps, (told q).length ≤ 1000) (hx : txt.length ≤ 1000) (hj : (Txt.join (Str.ofString "") (ps.map told)).length ≤ 1000)
    (hs : (Txt.slice txt (some 0) (some (0 + ((Txt.join (Str.ofString "") (ps.map told)).length : Int))) == Txt.join (Str.ofString "") (ps.map told)) = true)
    (hpos : (txt.length : Int) ≤ 0 + ((Txt.join (Str.ofString "") (ps.map told)).length : Int)) (hs2 : (Txt.slice txt (some (0 + ((Txt.join (Str.ofString "") (ps.map told)).length : Int))) (some (0 + ((Txt.join (Str.ofString "") (ps.map told)).length : Int) + ((Txt.join (Str.ofString "") (ps.map told)).length : Int))) == Txt.join (Str.ofString "") (ps.map told)) = false)
    (hshL : ∀ q ∈ sh, q.1 ≠ L) (hvs : vs = acts.map Prod.fst) (hact : ∀ j x, acts[j]? = some x → ActOk w h₀ sh (n + 1) self ps j x.1 x.2)
    {m : Str → Option Value} {oL : Obj} (hNs : NsOf oL m) (m1 : m (Str.ofString "self") = some (.ref self)) (m2 : m (Str.ofString "text") = some (.str txt kt)) (m3 : m (Str.ofString "stack") = some (.ref stk)) :
    SW PySem.Challenge.rw_ez0274_01.prog w h₀ sh n gG (acts.flatMap Prod.snd) [(L, oL)] [] (.func bd (gtEnv ql sc L cd)) ((model PySem.Challenge.rw_ez0274_01.prog w).den (.func bd (gtEnv ql sc L cd))) [] := by
  obtain ⟨_, q1, q2, q3, q4, tw, elts, tx1, tpos, iter, g1, c1, c2, c3, b3, ey, yp, yq, p1, p2, g2, g3, g4, p5, orelse, fp, wp, rfl, hfold⟩ := gt_shape X hFn
  refine SW.before fun s P H hrun hgU cont => ?_
  obtain ⟨F, rest, N, hr⟩ := walk_env H (.head _) hNs hL
  have hsh : ∀ q ∈ sh, q ∈ rest := fun q hq => hr _ _ (H.shared q hq).1 (H.shared q hq).2 (hshL q hq)
  have fitF : Fits ((AM (400 + n) (400 + 8 * n)).in1.over (.func (gtBody q1 q2 q3 q4 tw (.Tuple elts tx1 tpos) iter g1 c1 c2 c3 b3 ey yp yq p1 p2 g2 g3 g4 p5 orelse fp wp) (gtEnv ql sc L cd)) []) 850 900 := by
    refine ⟨rfl, ?_, ?_⟩
    · show 400 + n + 0 + 1 ≤ 850
      omega
    · show 400 + 8 * n + 1 + 0 + 3 ≤ 900
      omega
  have go : ∀ m1 h1 tk1 tl1 tp, Fr h₀ L h1 m1 → News h₀ L h1 (tl1 ++ rest) → Above tl1 rest → m1 (Str.ofString "self") = some (.ref self) → m1 (Str.ofString "text") = some (.str txt kt) → m1 (Str.ofString "pos") = some (.int 0 tp) → m1 (Str.ofString "statetokens") = some (.ref Tl) →
      SegT (model PySem.Challenge.rw_ez0274_01.prog w) (AM (400 + n) (400 + 8 * n)).in1 (.func (gtBody q1 q2 q3 q4 tw (.Tuple elts tx1 tpos) iter g1 c1 c2 c3 b3 ey yp yq p1 p2 g2 g3 g4 p5 orelse fp wp) (gtEnv ql sc L cd)) ((execs [.While tw (gtFor (.Tuple elts tx1 tpos) iter g1 c1 c2 c3 b3 ey yp yq p1 p2 g2 g3 g4 p5 orelse fp) [] wp] (gtEnv ql sc L cd)).wrap outF (outE (gtEnv ql sc L cd)) id id) [] { s with heap := h1, toks := tk1 } P := by
    intro mA h1 tk1 tl1 tp F1 N1 ab1 e1 e2 e3 e4
    have up1 : ∀ q ∈ sh, q ∈ tl1 ++ rest := fun q hq => List.mem_append_right _ (hsh q hq)
    refine seg_cons (seg_While fun pp => seg_whileTurn (d := 850) (u := 900) ⟨rfl, ?_, ?_⟩ (g_test F1 X N1 T hFn fun h2 tk2 F2 N2 => ⟨rfl, ?_⟩))
    · show 400 + n + 1 + 0 ≤ 850
      omega
    · show 400 + 8 * n + 1 + 3 + 0 ≤ 900
      omega
    refine seg_cons (seg_For (d := 850) (u := 900) ⟨rfl, ?_, ?_⟩ (g_iter F2 X N2 T hFn e4 fun h3 tk3 F3 N3 => ?_) (fun x => hfold x _))
    · show 400 + n + 1 + 0 ≤ 850
      omega
    · show 400 + 8 * n + 1 + 3 + 0 ≤ 900
      omega
    obtain ⟨otd, kvs, eT, hS1, hS2, hS3, hS4, hS5⟩ := hS
    refine pyIter_listY F3 N3 (up1 _ hS5) rfl rfl fun I o h4 F4 N4 hI hIt pf => ?_
    have neI : ∀ q ∈ tl1 ++ rest, q.1 ≠ I := fun q hq => Nat.ne_of_lt (hI q hq)
    have W := iterList (prog := PySem.Challenge.rw_ez0274_01.prog) (w := w) (l := Tl) (lo := listOf #[.ref row] eT) (vs := [.ref row]) (ep := eT) rfl rfl
    refine seg_forTurn (wpT_of (W.item _ _ I o 0 _ _ rfl Nat.one_pos hIt (N4 _ (.head _)).1 (fun q hq => by rcases List.mem_singleton.mp hq with rfl; exact (N4 _ (.tail _ (up1 _ hS5))).1) fun v h5 o5 tk5 hv ho5 hIt5 hb5 => ?_))
    obtain rfl : v = .ref row := (Option.some.inj hv).symm
    obtain ⟨F5, N5⟩ := it_step F4 N4 neI ho5 hb5
    refine wpT_of (W.go _ _ _ I o5 1 _ _ _ hIt5 ho5 ?_)
    have up5 : ∀ q ∈ sh, q ∈ (I, o5) :: (tl1 ++ rest) := fun q hq => .tail _ (up1 q hq)
    refine assign_first (d := 850) (u := 900) ⟨rfl, ?_, ?_⟩ (gt_scope X hFn).quiet (g_turn1 (E := fun _ _ => False) F5 X N5 T hFn (hR.mono up5) (up5 _ hb) hDefB (up5 _ hdT) (up5 _ hcB1) hcB2 hcB3 hnp hle hx hj hs e1 e2 e3 e4
      fun L' IB oLB mm dm h1' h2' t1' t2' k1' t3' t4' h6 tk6 m6 mB tl6 F6 N6 ab6 hlt hlL hmm hdm hNsB u1 u2 u3 hL' a1 a2 a3 a4 => ⟨IB, s.gens.size, rfl, ?_, fun pY kY hkY => ?_⟩)
    · show 400 + n + 1 + 0 ≤ 850
      omega
    · show 400 + 8 * n + 1 + 3 + 0 ≤ 900
      omega
    · exact genLike (N6 _ (.head _)).1
    obtain ⟨q, dR, rR, hR1, tR1, eR, eR', r1, r2, r3, r4, r5, r6⟩ := id hR
    have inr : ∀ x ∈ rest, x ∈ (I, o5) :: (tl1 ++ rest) := fun x hx => .tail _ (List.mem_append_right _ hx)
    have N6' : News h₀ L h6 (((IB, genNew s.gens.size nameB bgQual t1' t2') :: (L', oLB) :: (tl6 ++ (I, o5) :: tl1)) ++ rest) := News.sub N6 fun x hx => by
      simp only [List.mem_append, List.mem_cons] at hx ⊢
      rcases hx with (h | h | h | h | h) | h
      · exact .inl h
      · exact .inr (.inl h)
      · exact .inr (.inr (.inl h))
      · exact .inr (.inr (.inr (.inl h)))
      · exact .inr (.inr (.inr (.inr (.inl h))))
      · exact .inr (.inr (.inr (.inr (.inr h))))
    have hkeep := walk_keep F6 N6' hr H.base
    have nIB := N6 _ (.head _)
    have nL' := N6 _ (.tail _ (.head _))
    have nmm := N6 _ (.tail _ (.tail _ (List.mem_append_left _ hmm)))
    have ndm := N6 _ (.tail _ (.tail _ (List.mem_append_left _ hdm)))
    have fresh : ∀ x ∈ (IB, genNew s.gens.size nameB bgQual t1' t2') :: (L', oLB) :: tl6, s.heap.get? x.1 = none := fun x hx => by
      cases e : s.heap.get? x.1 with
      | none => rfl
      | some o =>
        have nx := N6 x (by
          rcases List.mem_cons.mp hx with rfl | hx
          · exact .head _
          · rcases List.mem_cons.mp hx with rfl | hx
            · exact .tail _ (.head _)
            · exact .tail _ (.tail _ (List.mem_append_left _ hx)))
        exact absurd (ab6 x hx _ (inr _ (hr x.1 o e nx.2.2 nx.2.1))) (Nat.lt_irrefl _)
    have zIB := fresh _ (.head _)
    have zL' := fresh _ (.tail _ (.head _))
    have zmm := fresh _ (.tail _ (.tail _ hmm))
    have zdm := fresh _ (.tail _ (.tail _ hdm))
    obtain ⟨oL6, hoL6, hNs6⟩ := NsOf.of F6.ns
    have live : ∀ q ∈ sh, q.1 ≠ IB ∧ q.1 ≠ L' ∧ q.1 ≠ mm ∧ q.1 ≠ dm := fun q hq => by
      have z := (H.shared q hq).1
      refine ⟨fun e => ?_, fun e => ?_, fun e => ?_, fun e => ?_⟩
      · rw [e, zIB] at z; cases z
      · rw [e, zL'] at z; cases z
      · rw [e, zmm] at z; cases z
      · rw [e, zdm] at z; cases z
    have mmL' : mm < L' := hlL _ hmm
    have dmL' : dm < L' := hlL _ hdm
    have hlen : (piecesOf ps).length ≤ 1000 := by
      unfold piecesOf
      rw [List.length_map]; omega
    have hB := b_fresh (n := n + 1) (gB := s.gens.size) (sh := [(mm, instObj 630 dm), (dm, dictOf [⟨h1', .str "place" t3', .int 0 k1'⟩, ⟨h2', .str "pieces" t4', .ref l⟩] 2)] ++ sh) (const := []) (by omega) X T hL' hDefB (f := b) (c' := gc') (c := bc) (List.mem_append_right _ hbc) hbcd (List.mem_append_right _ hD) (mt := mm) ⟨dm, h1', h2', t3', t4', k1', .head _, .tail _ (.head _)⟩ (List.mem_append_right _ r6) hlen hle ⟨td, hl.mono fun q hq => List.mem_append_right _ hq⟩
      (fun q hq => (nomatch hq)) (fun q hq => (nomatch hq)) (fun q hq => ?hB1) hvs (fun j x hx => (hact j x hx).mono fun q hq => List.mem_append_right _ hq) hNsB ⟨u1, u2, u3⟩
    case hB1 =>
      rcases List.mem_append.mp hq with hq | hq
      · rcases List.mem_cons.mp hq with rfl | hq
        · exact Nat.ne_of_lt mmL'
        · rcases List.mem_singleton.mp hq with rfl
          exact Nat.ne_of_lt dmL'
      · exact (live q hq).2.1
    have hfr : ∀ q ∈ (IB, genNew s.gens.size nameB bgQual t1' t2') :: ([(L, oL6), (mm, instObj 630 dm), (dm, dictOf [⟨h1', .str "place" t3', .int 0 k1'⟩, ⟨h2', .str "pieces" t4', .ref l⟩] 2)] ++ [(L', oLB)]), (∃ r ∈ [(L, oL)], r.1 = q.1) ∨ s.heap.get? q.1 = none := fun q hq => by
      simp only [List.cons_append, List.nil_append, List.mem_cons, List.mem_nil_iff, or_false] at hq
      rcases hq with rfl | rfl | rfl | rfl | rfl
      · exact .inr zIB
      · exact .inl ⟨_, .head _, rfl⟩
      · exact .inr zmm
      · exact .inr zdm
      · exact .inr zL'
    refine cont _ _ _ _ _ _ (moves_push (s := s) (tk := tk6) (h' := h6) (fun a o e1 e2 => hkeep a o e1 fun q => e2 _ (.head _) q.symm) hfr) (has_new (s := s) (tk := tk6) (h' := h6) H F6.keep (fun q hq => hkeep _ _ (H.shared q hq).1 (hshL q hq)) (fun q hq => ?_) hfr (fun q hq => ?_))
      (g_yf (base := [(L, oL6), (mm, instObj 630 dm), (dm, dictOf [⟨h1', .str "place" t3', .int 0 k1'⟩, ⟨h2', .str "pieces" t4', .ref l⟩] 2)]) (ex := [(mm, instObj 630 dm), (dm, dictOf [⟨h1', .str "place" t3', .int 0 k1'⟩, ⟨h2', .str "pieces" t4', .ref l⟩] 2)]) rfl rfl ⟨rfl, ?_, ?_⟩ (SW.map (SW.before fun s₇ P₇ H₇ run₇ _ cont₇ => ?_) hkY) (fun q hq => ?_) (fun q hq => ?_) (fun q hq => .tail _ hq) (acts.flatMap Prod.snd) [(L', oLB)] _ _ (will_of_sw (n := n + 1) (by omega) T.nolimit hB (.fresh rfl rfl rfl) (fun q hq => (nomatch hq))) genNew_like (fun q hq => ?_))
    · simp only [List.cons_append, List.nil_append, List.mem_cons, List.mem_nil_iff, or_false] at hq
      rcases hq with rfl | rfl | rfl | rfl | rfl
      · exact ⟨nIB.1, nIB.2.2⟩
      · exact ⟨hoL6, (H.own _ (.head _)).2⟩
      · exact ⟨nmm.1, nmm.2.2⟩
      · exact ⟨ndm.1, ndm.2.2⟩
      · exact ⟨nL'.1, nL'.2.2⟩
    · rcases List.mem_singleton.mp hq with rfl
      exact Array.getElem?_push_size
    · show 400 + n + 1 + 0 ≤ 400 + (n + 1)
      omega
    · show 400 + 8 * n + 1 + 3 + 1 ≤ 400 + 8 * (n + 1)
      omega
    · obtain ⟨F7, rest7, N7, hr7⟩ := walk_env H₇ (.head _) hNs6 hL
      have nn : ∀ q ∈ [(mm, instObj 630 dm), (dm, dictOf [⟨h1', .str "place" t3', .int 0 k1'⟩, ⟨h2', .str "pieces" t4', .ref l⟩] 2)], q ∈ rest7 := fun q hq => by
        have z := H₇.own q (.tail _ hq)
        refine hr7 _ _ z.1 z.2 ?_
        rcases List.mem_cons.mp hq with rfl | hq
        · exact nmm.2.1
        · rcases List.mem_singleton.mp hq with rfl
          exact ndm.2.1
      have sh7 : ∀ q ∈ sh, q ∈ rest7 := fun q hq => hr7 _ _ (H₇.shared q hq).1 (H₇.shared q hq).2 (hshL q hq)
      refine seg_three (d := 850) (u := 900) ⟨rfl, ?_, ?_⟩ (g_after F7 X N7 T hFn (nn _ (.head _)) (nn _ (.tail _ (.head _))) (sh7 _ r6) hnp hle hj a1 a2 a3 a4 fun m8 h8 tk8 tl8 tp8 F8 N8 ab8 f1 f2 f3 => ?_)
      · show 400 + n + 1 + 0 ≤ 850
        omega
      · show 400 + 8 * n + 1 + 3 + 0 ≤ 900
        omega
      obtain ⟨oL8, hoL8, hNs8⟩ := NsOf.of F8.ns
      have hk8 := walk_keep F8 N8 hr7 H₇.base
      refine seg_retT (r := .ok .next) ((seg_againT rfl (cont₇ _ ((L, oL8) :: [(mm, instObj 630 dm), (dm, dictOf [⟨h1', .str "place" t3', .int 0 k1'⟩, ⟨h2', .str "pieces" t4', .ref l⟩] 2)]) [] _ _ _ (moves_new (s := s₇) (tk := tk8) (h' := h8) (fun a o e1 e2 => hk8 a o e1 fun q => e2 _ (.head _) q.symm) fun q hq => .inl ?_) (has_walk (tk := tk8) H₇ (fun q hq => ?_) F8 hk8 hoL8)
        (gt_end hn X T hL hFn hfold hS5 hR hnp hle hx hj hpos hs2 hshL hNs8 f1 f2 f3))))
      · rcases List.mem_cons.mp hq with rfl | hq
        · exact ⟨_, .head _, rfl⟩
        · exact ⟨q, .tail _ hq, rfl⟩
      · rcases List.mem_cons.mp hq with rfl | hq
        · exact nmm.2.1
        · rcases List.mem_singleton.mp hq with rfl
          exact ndm.2.1
    · rcases List.mem_cons.mp hq with rfl | hq
      · exact nIB.2.1.symm
      · rcases List.mem_cons.mp hq with rfl | hq
        · exact Nat.ne_of_lt (Nat.lt_trans mmL' hlt)
        · rcases List.mem_singleton.mp hq with rfl
          exact Nat.ne_of_lt (Nat.lt_trans dmL' hlt)
    · rcases List.mem_cons.mp hq with rfl | hq
      · intro t k1 k2 z
        obtain ⟨es, ep', hd1, _⟩ := hNs6
        have z : oL6 = tokObj t k1 k2 := z
        rw [z] at hd1; cases hd1
      · rcases List.mem_cons.mp hq with rfl | hq
        · intro t k1 k2 z
          exact absurd (congrArg Obj.cls z) (by nofun)
        · rcases List.mem_singleton.mp hq with rfl
          intro t k1 k2 z
          exact absurd (Value.type.inj (congrArg Obj.cls z)) (by decide)
    · rcases List.mem_singleton.mp hq with rfl
      refine ⟨Nat.ne_of_lt hlt, fun r hr' => ?_⟩
      rcases List.mem_cons.mp hr' with rfl | hr'
      · exact nL'.2.1
      · rcases List.mem_cons.mp hr' with rfl | hr'
        · exact (Nat.ne_of_lt mmL').symm
        · rcases List.mem_singleton.mp hr' with rfl
          exact (Nat.ne_of_lt dmL').symm
  refine seg_func (seg_prep4 fitF ?_)
  rcases hstk with ⟨rt, t1, t2, hstk⟩ | ⟨rfl, rfl⟩
  · obtain ⟨otd, kvs, eT, hS1, hS2, hS3, hS4, hS5⟩ := hS
    exact g_prep (Q := fun (_ : Value) _ => True) (E := fun _ _ => True) F X N T hFn (hl.mono hsh) ⟨otd, kvs, eT, hsh _ hS1, hS2, hS3, hS4, hsh _ hS5⟩ (hsh _ hstk) m1 m2 m3 fun m' h' tk' tl tp F' N' ab e1 e2 e3 e4 => go m' h' tk' tl tp F' N' ab e1 e2 e3 e4
  · obtain ⟨otd, kvs, eT, hS1, hS2, hS3, hS4, hS5⟩ := hS
    exact g_prepK (Q := fun (_ : Value) _ => True) (E := fun _ _ => True) F X N T hFn (hl.mono hsh) ⟨otd, kvs, eT, hsh _ hS1, hS2, hS3, hS4, hsh _ hS5⟩ m1 m2 m3 fun m' h' tk' tl tp F' N' ab e1 e2 e3 e4 => go m' h' tk' tl tp F' N' ab e1 e2 e3 e4
end

end
section
open Builtin.Str
theorem slice_whole (x : Str) : Txt.slice x (some 0) (some (0 + (x.length : Int))) = x := by
  unfold Txt.slice
  rw [if_pos]
  have : (strSliceIndices (some 0) (some (0 + (x.length : Int))) 1 x.length).length = x.length := by
    unfold strSliceIndices sliceRange
    simp only [show (1 : Int) > 0 by decide, if_true, List.length_map, List.length_range]
    split <;> (try split) <;> (try split) <;> (try simp only [Int.ediv_one]) <;> omega
  simp only [Int.zero_add] at this ⊢
  simp [this]
theorem slice_past (x : Str) (h : 1 ≤ x.length) : (Txt.slice x (some (0 + (x.length : Int))) (some (0 + (x.length : Int) + (x.length : Int))) == x) = false := by
  have e : (strSliceIndices (some (0 + (x.length : Int))) (some (0 + (x.length : Int) + (x.length : Int))) 1 x.length).length = 0 := by
    unfold strSliceIndices sliceRange
    simp only [show (1 : Int) > 0 by decide, if_true, List.length_map, List.length_range]
    split <;> (try split) <;> (try split) <;> (try simp only [Int.ediv_one]) <;> omega
  unfold Txt.slice
  rw [if_neg (by rw [e]; simp; omega)]
  rw [List.eq_nil_of_length_eq_zero e]
  rw [beq_eq_false_iff_ne]
  intro q
  have := congrArg Str.length q
  simp [Str.length] at this
  simp [Str.length] at h
  omega

end
section
theorem SW.never {prog : Program} {w : World} {h₀ : Heap} {sh : List (Addr × Obj)} {n gU : Nat} {ts : List Tk} {fp : List (Addr × Obj)} {gp : List (Nat × GenState)} {c₀ : Code} {t₀ : Sem Fin} {fs₀ : List Frame} (h : ∀ s, Has h₀ sh fp gp s → False) : SW prog w h₀ sh n gU ts fp gp c₀ t₀ fs₀ := by
  cases ts with
  | nil => exact fun s P H => (h s H).elim
  | cons t ts => exact fun s P H => (h s H).elim
theorem StateIn.mono {prog : Program} {w : World} {news news' : List (Addr × Obj)} {td Tl row : Addr} {st : Str} (h : StateIn prog w news td st Tl row) (hs : ∀ q ∈ news, q ∈ news') : StateIn prog w news' td st Tl row := by
  obtain ⟨o, kvs, e, a, b, c, d, f⟩ := h
  exact ⟨o, kvs, e, hs _ a, b, c, d, hs _ f⟩
section
variable {w : World} {p : Program} {loose : List Str} {mean : ExcName → Option Value} {mg mb : Str → Option Value} {h₀ : Heap} {sh : List (Addr × Obj)} {n : Nat} {self td stk Tl row b a l bc gdT gc' D : Addr} {ps : List (Option (Str × Tok))} {txt st : Str}
  {nameB : Str} {paramsB : Arguments} {bodyB : List Stmt} {scopeB : Scope} {docB pmB ctvB : Value} {ocB oc : Obj} {vsB : Array Value} {tB : Tok} {vs : List Value} {acts : List (Value × List Tk)}
theorem gwilla_node (hn : n ≤ 40) (X : (hd.heap_39 w.params).In h₀) (T : Top p loose mean mg mb h₀)
    (hl : LexIn sh self td) (hS : StateIn PySem.Challenge.rw_ez0274_01.prog w sh td st Tl row) (hstk : (∃ rt t1 t2, (stk, tupO [.str rt t1, .str st t2]) ∈ sh) ∨ (stk = 578 ∧ st = Str.ofString "root"))
    (hR : RowIn sh row b a l ps) (hb : (b, kdv_obj nameB bgQual paramsB (.stmts bodyB) scopeB [(Str.ofString "args", bc)] (.ref gdT) docB pmB gc' ctvB) ∈ sh) (hDefB : DefAt (hd.heap_39 w.params) 412 bgPick nameB paramsB bodyB scopeB) (hdT : (gdT, tupO [.none]) ∈ sh)
    (hcB1 : (gc', ocB) ∈ sh) (hcB2 : ocB.data = .fields vsB) (hcB3 : vsB[1]? = some (.str bgQual tB)) (hbc : (bc, oc) ∈ sh) (hbcd : oc.data = .cell (some (.ref D))) (hD : (D, tupO vs) ∈ sh)
    (hnp : ps.length < 100) (hle : ∀ q ∈ ps, (told q).length ≤ 1000) (hx : txt.length ≤ 1000) (h1 : 1 ≤ txt.length) (ht : txt = Txt.join (Str.ofString "") (ps.map told))
    (hvs : vs = acts.map Prod.fst) (hact : ∀ j x, acts[j]? = some x → ActOk w h₀ sh (n + 1) self ps j x.1 x.2) :
    GWillA w h₀ sh n self stk txt (acts.flatMap Prod.snd) := by
  intro sh' hs gG L' oL' nmG qlG psG bdG scG cdG mG hFn hNs m1 hm2 m3 hL
  obtain ⟨kt, m2⟩ := hm2
  refine will_of_sw (by omega) T.nolimit ?_ (.fresh rfl rfl rfl) (fun p hp => nomatch hp)
  by_cases hsh : ∀ q ∈ sh', q.1 ≠ L'
  · refine gt_fresh hn X T hL hFn (hl.mono hs) (hS.mono hs) ?_ (hR.mono hs) (hs _ hb) hDefB (hs _ hdT) (hs _ hcB1) hcB2 hcB3 (hs _ hbc) hbcd (hs _ hD) hnp hle hx (ht ▸ hx) ?_ ?_ ?_ hsh hvs (fun j x hj => (hact j x hj).mono hs) hNs m1 m2 m3
    · rcases hstk with ⟨rt, t1, t2, h⟩ | h
      · exact .inl ⟨rt, t1, t2, hs _ h⟩
      · exact .inr h
    · rw [← ht, slice_whole]; simp
    · rw [← ht]; omega
    · rw [← ht]; exact slice_past txt h1
  · refine SW.never fun s H => hsh fun q hq => H.apart _ (.head _) q hq
end

end
section
def stName (v : Nat) : Str := if v = 0 then Str.ofString "root" else Str.ofString "n" ++ decOf v
def tokens (P : List Nat) (Kd : Nat → Addr) (j : Nat) : List Tk := (dfs P j).map fun l => ⟨(place P l : Int) - (place P j : Int), Kd l, text P l⟩
def UsOk (prog : Program) (w : World) (K : Frag) (sh : List (Addr × Obj)) (f : Addr) (st : Str) : Prop :=
  ∃ c gk stk dT c' oc ogk doc pm ctv t1 t2 name params body scope, (gk == sysModules) = false ∧ (f, kdv_obj name usQual params (.stmts body) scope [(Str.ofString "gt_kwargs", c)] (.ref dT) doc pm c' ctv) ∈ sh ∧ DefAt K 435 usPick name params body scope ∧
    (dT, tupO [.none]) ∈ sh ∧ (c, oc) ∈ sh ∧ oc.data = .cell (some (.ref gk)) ∧ (gk, ogk) ∈ sh ∧ ogk.IsDictOf (strKind prog w) [(Str.ofString "stack", .ref stk)] ∧ (stk, tupO [.str (Str.ofString "root") t1, .str st t2]) ∈ sh ∧ CodeOf sh usQual c'
theorem UsIn.ok {prog : Program} {w : World} {K : Frag} {tl full sh : List (Addr × Obj)} {f : Addr} {st : Str} (h : UsIn prog w K tl full f st) (hg : ∀ p ∈ tl, (p.1 == sysModules) = false) (h1 : ∀ p ∈ tl, p ∈ sh) (h2 : ∀ p ∈ full, p ∈ sh) : UsOk prog w K sh f st := by
  obtain ⟨c, gk, stk, dT, c', oc, ogk, doc, pm, ctv, t1, t2, name, params, body, scope, a1, a2, a3, a4, a5, a6, a7, a8, a9⟩ := h
  exact ⟨c, gk, stk, dT, c', oc, ogk, doc, pm, ctv, t1, t2, name, params, body, scope, hg _ a6, h1 _ a1, a2, h1 _ a3, h1 _ a4, a5, h1 _ a6, a7, h1 _ a8, a9.mono h2⟩
theorem UsOk.mono {prog : Program} {w : World} {K : Frag} {sh sh' : List (Addr × Obj)} {f : Addr} {st : Str} (h : UsOk prog w K sh f st) (h1 : ∀ p ∈ sh, p ∈ sh') : UsOk prog w K sh' f st := by
  obtain ⟨c, gk, stk, dT, c', oc, ogk, doc, pm, ctv, t1, t2, name, params, body, scope, hg, a1, a2, a3, a4, a5, a6, a7, a8, a9⟩ := h
  exact ⟨c, gk, stk, dT, c', oc, ogk, doc, pm, ctv, t1, t2, name, params, body, scope, hg, h1 _ a1, a2, h1 _ a3, h1 _ a4, a5, h1 _ a6, a7, h1 _ a8, a9.mono h1⟩
def ActIn (prog : Program) (w : World) (K : Frag) (sh : List (Addr × Obj)) (P : List Nat) (Kd : Nat → Addr) (c : Nat) (v : Value) : Prop :=
  if kids P c = [] then (if c = 3 then v = .none else v = .ref (Kd c)) else ∃ g, v = .ref g ∧ UsOk prog w K sh g (stName c)
theorem BgIn.mono {K : Frag} {tl full tl' full' : List (Addr × Obj)} {f : Addr} {vs : List Value} (h : BgIn K tl full f vs) (h1 : ∀ p ∈ tl, p ∈ tl') (h2 : ∀ p ∈ full, p ∈ full') : BgIn K tl' full' f vs := by
  obtain ⟨c, D, dT, c', oc, doc, pm, ctv, name, params, body, scope, a1, a2, a3, a4, a5, a6, a7⟩ := h
  exact ⟨c, D, dT, c', oc, doc, pm, ctv, name, params, body, scope, h1 _ a1, a2, h1 _ a3, h1 _ a4, a5, h1 _ a6, a7.mono h2⟩
theorem ActIn.mono {prog : Program} {w : World} {K : Frag} {sh sh' : List (Addr × Obj)} {P : List Nat} {Kd : Nat → Addr} {c : Nat} {v : Value} (h : ActIn prog w K sh P Kd c v) (hs : ∀ p ∈ sh, p ∈ sh') : ActIn prog w K sh' P Kd c v := by
  unfold ActIn at h ⊢
  split
  · rw [if_pos ‹_›] at h; exact h
  · rw [if_neg ‹_›] at h
    obtain ⟨g, e, u⟩ := h
    exact ⟨g, e, u.mono hs⟩
def RowAB (prog : Program) (w : World) (K : Frag) (sh : List (Addr × Obj)) (P : List Nat) (Kd : Nat → Addr) (j a b : Addr) : Prop :=
  ∃ d r l h1 t1 e e' tks acts, (a, instObj 657 d) ∈ sh ∧ (d, dictOf [⟨h1, .str (Str.ofString "rows") t1, .ref r⟩] 1) ∈ sh ∧ (r, listOf #[.ref l] e') ∈ sh ∧
    (l, listOf (piecesOf (none :: (kids P j).zipWith (fun c t => some (text P c, t)) tks)).toArray e) ∈ sh ∧ tks.length = (kids P j).length ∧
    BgIn K sh sh b (.ref (Kd j) :: acts) ∧ acts.length = (kids P j).length ∧ ∀ (i c : Nat) (v : Value), (kids P j)[i]? = some c → acts[i]? = some v → ActIn prog w K sh P Kd c v
theorem RowAB.mono {prog : Program} {w : World} {K : Frag} {sh sh' : List (Addr × Obj)} {P : List Nat} {Kd : Nat → Addr} {j a b : Addr} (h : RowAB prog w K sh P Kd j a b) (hs : ∀ p ∈ sh, p ∈ sh') : RowAB prog w K sh' P Kd j a b := by
  obtain ⟨d, r, l, h1, t1, e, e', tks, acts, a1, a2, a3, a4, a5, a6, a7, a8⟩ := h
  exact ⟨d, r, l, h1, t1, e, e', tks, acts, hs _ a1, hs _ a2, hs _ a3, hs _ a4, a5, a6.mono hs hs, a7, fun i c v h1 h2 => (a8 i c v h1 h2).mono hs⟩
def NodeIn (prog : Program) (w : World) (K : Frag) (sh : List (Addr × Obj)) (P : List Nat) (Kd : Nat → Addr) (td : Addr) (j : Nat) : Prop :=
  ∃ Tl row q a b, StateIn prog w sh td (stName j) Tl row ∧ (row, tupO [.ref q, .ref b, .none]) ∈ sh ∧ (q, methodObj (.ref 654) (.ref a)) ∈ sh ∧ RowAB prog w K sh P Kd j a b
theorem told_pieces (P : List Nat) : ∀ (ks : List Nat) (tks : List Tok), tks.length = ks.length → (ks.zipWith (fun c t => some (text P c, t)) tks).map told = ks.map (text P)
  | [], [], _ => rfl
  | c :: ks, t :: tks, h => by
    rw [List.zipWith_cons_cons, List.map_cons, List.map_cons, told_pieces P ks tks (by simpa using h)]; rfl
theorem zip_get {α β γ : Type} {f : α → β → γ} {l : List α} {l' : List β} {i : Nat} {a : α} {b : β} (h : l[i]? = some a) (h' : l'[i]? = some b) : (l.zipWith f l')[i]? = some (f a b) := by
  rw [List.getElem?_zipWith, h, h']
def kidToks (P : List Nat) (Kd : Nat → Addr) (off : Int) (c : Nat) : List Tk :=
  if kids P c = [] then (if c = 3 then [] else [⟨off, Kd c, text P c⟩]) else (tokens P Kd c).map (shift off)
theorem kidToks_is {P : List Nat} {Kd : Nat → Addr} {j i c : Nat} (h : (kids P j)[i]? = some c) : kidToks P Kd ((0 : Int) + ((((kids P j).take i).map (len P)).sum : Nat)) c = (dfs P c).map fun l => ⟨(place P l : Int) - (place P j : Int), Kd l, text P l⟩ := by
  have hp := place_at h
  unfold kidToks
  split
  · rename_i hk
    rw [dfs_leaf hk]
    split
    · rfl
    · rw [List.map_singleton, hp]
      congr 2
      push_cast; omega
  · unfold tokens
    rw [List.map_map]
    refine List.map_congr_left fun l _ => ?_
    show shift _ _ = _
    unfold shift
    rw [hp]
    simp only
    congr 1
    push_cast; omega
theorem flat_kids {P : List Nat} {Kd : Nat → Addr} {j : Nat} : ∀ (ks : List Nat) (acts : List Value) (off : Nat → Int), acts.length = ks.length → (∀ (i c : Nat), ks[i]? = some c → kidToks P Kd (off i) c = (dfs P c).map fun l => ⟨(place P l : Int) - (place P j : Int), Kd l, text P l⟩) →
    ((acts.zip ks).zipIdx.map fun (x : (Value × Nat) × Nat) => (x.1.1, kidToks P Kd (off x.2) x.1.2)).flatMap Prod.snd = (ks.flatMap (dfs P)).map fun l => ⟨(place P l : Int) - (place P j : Int), Kd l, text P l⟩ := by
  suffices ∀ (ks : List Nat) (acts : List Value) (k : Nat) (off : Nat → Int), acts.length = ks.length → (∀ (i c : Nat), ks[i]? = some c → kidToks P Kd (off (k + i)) c = (dfs P c).map fun l => ⟨(place P l : Int) - (place P j : Int), Kd l, text P l⟩) →
    (((acts.zip ks).zipIdx k).map fun (x : (Value × Nat) × Nat) => (x.1.1, kidToks P Kd (off x.2) x.1.2)).flatMap Prod.snd = (ks.flatMap (dfs P)).map fun l => ⟨(place P l : Int) - (place P j : Int), Kd l, text P l⟩ from
    fun ks acts off h1 h2 => this ks acts 0 off h1 fun i c hi => by rw [Nat.zero_add]; exact h2 i c hi
  intro ks
  induction ks with
  | nil => intro acts k off _ _; simp
  | cons c ks ih =>
    intro acts k off h1 h2
    cases acts with
    | nil => simp at h1
    | cons v acts =>
      rw [List.zip_cons_cons, List.zipIdx_cons, List.map_cons, List.flatMap_cons, List.flatMap_cons, List.map_append, ih acts (k + 1) off (by simpa using h1) fun i d hi => by
        rw [show k + 1 + i = k + (i + 1) by omega]; exact h2 (i + 1) d (by simpa using hi)]
      congr 1
      have := h2 0 c rfl
      rwa [Nat.add_zero] at this
section
variable {w : World} {p : Program} {loose : List Str} {mean : ExcName → Option Value} {mg mb : Str → Option Value} {h₀ : Heap} {sh : List (Addr × Obj)} {self td : Addr} {P : List Nat} {Kd : Nat → Addr}
theorem take_map_told {P : List Nat} {tks : List Tok} {j i : Nat} (h : tks.length = (kids P j).length) :
    (((((none : Option (Str × Tok)) :: (kids P j).zipWith (fun c t => some (text P c, t)) tks).take (i + 1)).map told).map (·.length)).sum = (((kids P j).take i).map (len P)).sum := by
  rw [List.take_succ_cons, List.map_cons, List.map_cons, List.sum_cons, List.map_take, told_pieces P _ _ h, ← List.map_take, List.map_map]
  show 0 + _ = _
  rw [Nat.zero_add]; rfl
theorem gwilla_tree (Tr : Tree P) (X : (hd.heap_39 w.params).In h₀) (T : Top p loose mean mg mb h₀) (hl : LexIn sh self td)
    (hK : ∀ j, j < P.length → ∃ da hs tk v, (Kd j, instObj 66 da) ∈ sh ∧ (da, dictOf [⟨hs, .str (Str.ofString "names") tk, v⟩] 1) ∈ sh)
    (hN : ∀ j, j < P.length → kids P j ≠ [] → NodeIn PySem.Challenge.rw_ez0274_01.prog w (hd.heap_39 w.params) sh P Kd td j) :
    ∀ j, j < P.length → kids P j ≠ [] → ∀ n stk, n + 3 * (11 - j) ≤ 40 → ((∃ rt t1 t2, (stk, tupO [.str rt t1, .str (stName j) t2]) ∈ sh) ∨ (stk = 578 ∧ stName j = Str.ofString "root")) →
      GWillA w h₀ sh n self stk (text P j) (tokens P Kd j) := by
  refine down_ind (P := P) fun j ih => ?_
  intro hj hne n stk hn hstk
  obtain ⟨Tl, row, q, a, b, hS, hrow, hq, d, r, l, h1, t1, e, e', tks, acts, a1, a2, a3, a4, a5, hB, a6, hA⟩ := hN j hj hne
  obtain ⟨bc, D, gdT, gc', oc, docB, pmB, ctvB, nameB, paramsB, bodyB, scopeB, hb, hDefB, hdT, hbc, hbcd, hD, oC, vsB, tB, hcB1, hcB2, hcB3⟩ := hB
  have hps : ∀ q ∈ ((none : Option (Str × Tok)) :: (kids P j).zipWith (fun c t => some (text P c, t)) tks), (told q).length ≤ 1000 := by
    intro q hq
    have : told q ∈ ((none : Option (Str × Tok)) :: (kids P j).zipWith (fun c t => some (text P c, t)) tks).map told := List.mem_map_of_mem hq
    rw [List.map_cons, told_pieces P _ _ a5] at this
    rcases List.mem_cons.mp this with e | e
    · rw [e]; exact Nat.zero_le _
    · obtain ⟨c, hc, e⟩ := List.mem_map.mp e
      rw [← e]
      exact Nat.le_trans (len_le Tr (mem_kids.mp hc).1) (by decide)
  have hlen : (kids P j).length ≤ 11 := Nat.le_trans (kids_length j) Tr.hi
  have e1 : tokens P Kd j = (((Value.ref (Kd j), ([] : List Tk)) :: ((acts.zip (kids P j)).zipIdx.map fun (x : (Value × Nat) × Nat) => (x.1.1, kidToks P Kd ((0 : Int) + ((((kids P j).take x.2).map (len P)).sum : Nat)) x.1.2))).flatMap Prod.snd) := by
    rw [List.flatMap_cons, flat_kids (j := j) (kids P j) acts (fun i => (0 : Int) + ((((kids P j).take i).map (len P)).sum : Nat)) a6 fun i c hi => kidToks_is hi]
    unfold tokens
    rw [dfs_node hne]; rfl
  have e2 : (Value.ref (Kd j) :: acts) = (((Value.ref (Kd j), ([] : List Tk)) :: ((acts.zip (kids P j)).zipIdx.map fun (x : (Value × Nat) × Nat) => (x.1.1, kidToks P Kd ((0 : Int) + ((((kids P j).take x.2).map (len P)).sum : Nat)) x.1.2))).map Prod.fst) := by
    rw [List.map_cons, List.map_map]
    congr 1
    show acts = ((acts.zip (kids P j)).zipIdx.map ((·.1) ∘ (·.1)))
    rw [← List.map_map, List.zipIdx_map_fst, List.map_fst_zip (by omega)]
  rw [e1]
  refine gwilla_node (by omega) X T hl hS hstk ⟨q, d, r, h1, t1, e, e', hrow, hq, a1, a2, a3, a4⟩ hb hDefB hdT hcB1 hcB2 hcB3 hbc hbcd hD ?_ hps ?_ ?_ ?_ e2 ?_
  · rw [List.length_cons, List.length_zipWith]; omega
  · exact Nat.le_trans (len_le Tr hj) (by decide)
  · exact len_pos j
  · rw [List.map_cons, told_pieces P _ _ a5]
    show _ = Txt.join (Str.ofString "") (Str.ofString "" :: _)
    rw [txt_join_nil, text_node hne]
  · intro i x hx
    cases i with
    | zero =>
      simp only [List.getElem?_cons_zero, Option.some.injEq] at hx
      subst hx
      obtain ⟨da, hs, tk, v, k1, k2⟩ := hK j hj
      exact .silent k1 k2 rfl
    | succ i =>
      rw [List.getElem?_cons_succ, List.getElem?_map, List.getElem?_zipIdx] at hx
      cases hz : (acts.zip (kids P j))[i]? with
      | none => rw [hz] at hx; cases hx
      | some vc =>
        obtain ⟨v, c⟩ := vc
        rw [hz] at hx
        simp only [Option.map_some, Option.some.injEq, Nat.zero_add] at hx
        subst hx
        obtain ⟨hv, hc⟩ := List.getElem?_zip_eq_some.mp hz
        have hcm := List.mem_of_getElem? hc
        have hcN := (mem_kids.mp hcm).1
        have hact := hA i c v hc hv
        obtain ⟨t, ht⟩ : ∃ t, tks[i]? = some t := by
          have := (List.getElem?_eq_some_iff.mp hc).1
          exact ⟨_, List.getElem?_eq_getElem (by omega)⟩
        have hp : ((none : Option (Str × Tok)) :: (kids P j).zipWith (fun c t => some (text P c, t)) tks)[i + 1]? = some (some (text P c, t)) := by
          rw [List.getElem?_cons_succ]; exact zip_get hc ht
        have l1 : 1 ≤ (text P c).length := len_pos c
        have l2 : (text P c).length ≤ 1000 := Nat.le_trans (len_le Tr hcN) (by decide)
        show ActOk w h₀ sh (n + 1) self _ (i + 1) v (kidToks P Kd _ c)
        unfold ActIn at hact
        unfold kidToks
        rw [← take_map_told a5]
        split
        · rename_i hk
          rw [if_pos hk] at hact
          split
          · rename_i h3
            rw [if_pos h3] at hact
            subst hact
            exact .none
          · rename_i h3
            rw [if_neg h3] at hact
            subst hact
            obtain ⟨da, hs, tk, v, k1, k2⟩ := hK c hcN
            exact .kind k1 k2 hp l1 l2
        · rename_i hk
          rw [if_neg hk] at hact
          obtain ⟨g, rfl, gc, gk, stk', dT, c', ocu, ogk, doc, pm, ctv, u1, u2, name, params, body, scope, hgs, b1, b2, b3, b4, b5, b6, b7, b8, ocU, vsU, tU, b9, b10, b11⟩ := hact
          exact .use b2 b1 b3 b9 b10 b11 b4 b5 b6 b7 hgs hp l1 l2 (ih c hcm hcN hk (n + 1 + 2) stk' (by have := (mem_kids.mp hcm).2.1; have := Tr.hi; omega) (.inl ⟨_, _, _, b8⟩))
end

end
section
section
variable {prog : Program} {w : World} {A : Around} {E : Value → Shared → Prop} {s : Shared}
theorem adjust_upto (b n : Nat) : Builtin.Slice.sliceAdjust none (some (b : Int)) 1 (n : Int) = ((0 : Int), ((min b n : Nat) : Int)) := by
  unfold Builtin.Slice.sliceAdjust
  have h1 : ¬ ((1 : Int) < 0) := by omega
  have h2 : ¬ ((b : Int) < 0) := by omega
  simp only [h1, h2, if_false]
  congr 1
  omega
theorem places_upto (n : Nat) : Builtin.Slice.slicePlaces (0 : Int) (n : Int) 1 = n := by
  unfold Builtin.Slice.slicePlaces
  have h1 : (1 : Int) > 0 := by omega
  simp only [h1, if_true, Int.ediv_one]
  split <;> omega
theorem sliceApplied_upto {sl : Addr} {b n : Nat} {u : Tok} {Q : Int × Int × Nat → Shared → Prop} (hs : s.heap.IsSliceOf sl .none (.int b u) .none) (h : Q ((0 : Int), 1, min b n) s) :
    wpAny (model prog w) A (Builtin.Slice.sliceApplied (.ref sl) (pure (n : Int))) Q E s := by
  obtain ⟨os, hos, hcs, hds⟩ := id hs
  unfold Builtin.Slice.sliceApplied Builtin.Slice.sliceFields
  refine wpAny_bind (wpAny_bind (wpAny_field hos hds (x := .none) rfl (wpAny_bind (wpAny_field hos hds (x := .int b u) rfl (wpAny_bind (wpAny_field hos hds (x := .none) rfl (wpAny_pure ?_)))))))
  refine wpAny_bind (slicePart_none ?_)
  show wpAny _ _ (if ((1 : Int) == 0) = true then _ else _) _ _ s
  rw [if_neg (by decide)]
  refine wpAny_bind (slicePart_none (wpAny_bind (slicePart_int (wpAny_bind (wpAny_pure ?_)))))
  show wpAny _ _ (match Builtin.Slice.sliceAdjust none (some (b : Int)) 1 (n : Int) with | (lo, hi) => pure (lo, (1 : Int), Builtin.Slice.slicePlaces lo hi 1)) _ _ s
  rw [adjust_upto b n]
  show wpAny _ _ (pure ((0 : Int), (1 : Int), Builtin.Slice.slicePlaces (0 : Int) ((min b n : Nat) : Int) 1)) _ _ s
  rw [places_upto]
  exact wpAny_pure h
theorem pickT_upto (xs : Array Value) (b : Nat) : ((List.range (min b xs.size)).filterMap fun (k : Nat) => xs[((0 : Int) + (k : Int) * 1).toNat]?).toArray = (xs.toList.take b).toArray := by
  have e : (fun (k : Nat) => xs[((0 : Int) + (k : Int) * 1).toNat]?) = fun k => xs[0 + k]? := by
    funext k
    have : ((0 : Int) + (k : Int) * 1).toNat = 0 + k := by omega
    rw [this]
  rw [e]
  have := pick_run xs 0 (min b xs.size)
  rw [List.filterMap_map] at this
  have e2 : ((fun x => xs[x]?) ∘ fun x => 0 + x) = fun k => xs[0 + k]? := rfl
  rw [e2] at this
  rw [this, List.drop_zero, ← Array.length_toList, kmk_take_min]
theorem getItem_tuple_upto {t sl : Addr} {vs : List Value} {b : Nat} {u : Tok} {Q : Value → Shared → Prop} (ht : IsTup s.heap t vs.toArray) (hs : s.heap.IsSliceOf sl .none (.int b u) .none) (hsz : vs.length ≤ 1000)
    (h1 : vs.length ≤ b → Q (.ref t) s) (h2 : b < vs.length → Q (.ref s.heap.objs.size) { s with heap := s.heap.push (tupO (vs.take b)) }) : wpAny (model prog w) A (getItem (.ref t) (.ref sl)) Q E s := by
  have hdrop : sizeOk (.seq (vs.take b).toArray) := by
    show (vs.take b).toArray.size ≤ sizeLine
    rw [List.size_toArray, List.length_take, sizeLine_eq]
    omega
  obtain ⟨os, hos, hcs, hds⟩ := id hs
  have hTs : s.TypeIs (.ref sl) "slice" := ⟨os, hos, hcs⟩
  unfold getItem
  try with_reducible refine wpAny_holding ?_
  first | refine wpAny_bind (wpAny_pure ?_) | skip
  refine wpAny_bind (wpAny_sequenceKey ht.typeIs (by decide) ?_)
  refine wpAny_bind (wpAny_callSpecial?_slot (name := Str.ofString "__getitem__") ht.typeIs slot_tuple_getitem
    (wpAny_call_entry slot_tuple_getitem ht.typeIs entry_tuple_getitem ?_ (args_tuple_getitem _ _)))
  show wpAny _ _ (Builtin.Tuple.tupleItemsOf (.ref t) >>= _) _ _ s
  refine wpAny_bind (tupleItemsOf_ ht ?_)
  refine wpAny_bind (wpAny_typeOf hTs ?_)
  rw [if_pos (by decide)]
  refine wpAny_bind (sliceApplied_upto hs ?_)
  show wpAny _ _ (if ((0 : Int) == 0 && (1 : Int) == 1 && (min b vs.toArray.size) == vs.toArray.size) = true then _ else _) _ _ s
  rw [List.size_toArray]
  by_cases hb : vs.length ≤ b
  · rw [if_pos (by simp; omega)]
    refine wpAny_bind (wpAny_bind (m := typeOf (.ref t)) (wpAny_typeOf ht.typeIs (wpAny_pure ?_)))
    rw [if_pos (by decide)]
    refine wpAny_bind (wpAny_rule ?_)
    first
      | exact wpAny_bind (wpAny_pure (wpAny_pure ⟨_, rfl, wpAny_pure (h1 hb)⟩))
      | exact wpAny_bind (wpAny_pure ⟨_, rfl, wpAny_pure (h1 hb)⟩)
      | exact wpAny_pure ⟨_, rfl, wpAny_pure (h1 hb)⟩
      | exact wpAny_bind (wpAny_bind (wpAny_pure (wpAny_pure ⟨_, rfl, wpAny_pure (h1 hb)⟩)))
      | skip
  · rw [if_neg (by simp; omega)]
    have hp := pickT_upto vs.toArray b
    rw [List.size_toArray] at hp
    rw [hp, List.toList_toArray]
    have h := h2 (by omega)
    first
      | exact wpAny_bind (m := Builtin.Tuple.tupleExact _) (wpAny_newObj_type (wpAny_pure ⟨_, rfl, wpAny_pure h⟩) hdrop)
      | exact wpAny_bind (m := Builtin.Tuple.tupleExact _) (wpAny_newObj_type (wpAny_bind (wpAny_pure (wpAny_pure ⟨_, rfl, wpAny_pure h⟩))) hdrop)
      | exact wpAny_bind (wpAny_bind (m := Builtin.Tuple.tupleExact _) (wpAny_newObj_type (wpAny_pure (wpAny_pure ⟨_, rfl, wpAny_pure h⟩)) hdrop))
      | exact wpAny_bind (wpAny_bind (m := Builtin.Tuple.tupleExact _) (wpAny_newObj_type (wpAny_pure ⟨_, rfl, wpAny_pure h⟩) hdrop))
variable {h₀ : Heap} {L a b : Addr} {m : Str → Option Value} {news : List (Addr × Obj)}
theorem slice_tuple_upto {value slice : Expr} {t : Addr} {vs : List Value} {b : Nat} {u : Tok} {Q : Value → Shared → Prop}
    (F : Fr h₀ L s.heap m) (N : News h₀ L s.heap news) (hm : (t, tupO vs) ∈ news) (hsz : vs.length ≤ 1000)
    (h : ∀ D tl h', Fr h₀ L h' m → News h₀ L h' (tl ++ news) → Above tl news → (D, tupO (vs.take b)) ∈ tl ++ news → Q (.ref D) { s with heap := h' })
    (hs : subscripted slice false (.ref t) (.ref s.heap.objs.size) = operate [.ref s.heap.objs.size, .ref t] (getItem (.ref t) (.ref s.heap.objs.size)) := by with_unfolding_all rfl)
    (hg : ∀ r, letTemporaryGo value (.ref t) r = pure () := by intro _; with_unfolding_all rfl) :
    wpAny (model prog w) A (subscriptTail value slice (.ref t) (.ref s.heap.objs.size)) Q E { s with heap := s.heap.push { cls := .type "slice", data := .fields #[.none, .int b u, .none] } } := by
  have ht : IsTup s.heap t vs.toArray := ⟨_, (N _ hm).1, rfl, _, rfl⟩
  have ht' : IsTup (s.heap.push { cls := .type "slice", data := .fields #[.none, .int b u, .none] }) t vs.toArray := ht.keeps fun _ _ e => Heap.get?_push_of_some _ e
  have NS := N.grown (h' := s.heap.push { cls := .type "slice", data := .fields #[.none, .int b u, .none] }) fun _ _ e => Heap.get?_push_of_some _ e
  refine subscriptTail_ops (s := { s with heap := s.heap.push { cls := .type "slice", data := .fields #[.none, .int b u, .none] } }) ht'.typeIs slot_tuple_getitem.lookup
    (getItem_tuple_upto ht' (Heap.IsSliceOf.new ..) hsz (fun hb => ?_) fun hb => ?_) hs hg
  · exact h t [] _ (F.push _) NS .nil (by rw [List.take_of_length_le hb]; exact hm)
  · have N1 := News.push (F.push { cls := .type "slice", data := .fields #[.none, .int b u, .none] }) NS (tupO (vs.take b))
    exact h _ [_] _ ((F.push _).push _) N1 (.cons (fun p hp => Heap.lt_size (NS p hp).1) .nil) (.head _)
open Classical in
theorem tup_eq {xs ys : List Value} {ds es : List Dat} {Q : Value → Shared → Prop} (N : News h₀ L s.heap news) (ma : (a, tupO xs) ∈ news) (Da : DatAll news xs ds) (mb : (b, tupO ys) ∈ news) (Db : DatAll news ys es)
    (ha : ∀ d ∈ ds, kqdOk 7 d = true) (hb : ∀ d ∈ es, kqdOk 7 d = true) (hu : A.units + 64 < cLine) (h' : ∀ r : Bool, (r = true ↔ ds = es) → Q (.bool r) s) : wpAny (model prog w) A (compareOp .Eq (.ref a) (.ref b)) Q E s := by
  have h := h' (decide (ds = es)) decide_eq_true_iff
  obtain ⟨as, ra⟩ := kqd_all N 7 Da ha
  obtain ⟨bs, rb⟩ := kqd_all N 7 Db hb
  have la := kqd_lay 8 (.tuple ds) (by simpa [kqdOk] using ha)
  have lb := kqd_lay 8 (.tuple es) (by simpa [kqdOk] using hb)
  rw [kqdP] at la lb
  have e : PyData.eqv (.tuple (kqdPs ds)) (.tuple (kqdPs es)) = decide (ds = es) := by
    have q := kqd_eqv 8 (.tuple ds) (.tuple es) 8 (by simpa [kqdOk] using ha) (by simpa [kqdOk] using hb)
    rw [kqdP, kqdP, Dat.tuple.injEq] at q
    by_cases hq : ds = es
    · rw [decide_eq_true hq]; exact q.mpr hq
    · rw [decide_eq_false hq]; exact Bool.eq_false_iff.mpr fun x => hq (q.mp x)
  refine eq_dataH (reads_tuple_at (N.get ma) rfl rfl (by simpa using ra)) (reads_tuple_at (N.get mb) rfl rfl (by simpa using rb)) ?_ ?_ hu (by rw [e]; exact h)
  · unfold SeqAt.shaped; rw [la.1, Bool.true_and]; exact decide_eq_true (Nat.le_trans la.2 (by decide))
  · unfold SeqAt.shaped; rw [lb.1, Bool.true_and]; exact decide_eq_true (Nat.le_trans lb.2 (by decide))
end
theorem strDats (news : List (Addr × Obj)) : ∀ l : List (Str × Tok), DatAll news (strValues l) (l.map fun q => Dat.str q.1)
  | [] => .nil
  | (x, t) :: l => .cons (.str x t) (strDats news l)
theorem lenTY {prog : Program} {w : World} {A : Around} {E Q : Value → Shared → Prop} {s : Shared} {h₀ : Heap} {L l : Addr} {news : List (Addr × Obj)} {vs : List Value} (N : News h₀ L s.heap news) (hm : (l, tupO vs) ∈ news) (hz : vs.length ≤ 1000)
    (h : ∀ tk t, Q (.int ((vs.length : Nat) : Int) t) { s with toks := tk }) : wpAny (model prog w) A (call (.builtin "len") [.ref l]) Q E s := by
  refine len_tuple ⟨_, (N _ hm).1, rfl, _, rfl⟩ (by simp only [List.size_toArray]; omega) ?_
  simpa using h _ _

end
end
section
local macro_rules | `(tactic| walk_at "call builtin:len") => `(tactic| (k_here; (with_reducible show wpAny _ _ (call (Value.builtin "len") [Value.ref _]) _ _ _); k_dflt (refine lenY (by k_asm) (by k_mem) (by assumption) ?_); (try dsimp only)))
local macro_rules | `(tactic| k_ne) => `(tactic| first | assumption | exact Ne.symm (by assumption))
local macro_rules | `(tactic| walk_at "eval Name") => `(tactic| (k_here; (with_reducible show wpAny _ _ (eval (Expr.Name _ _) (envOfC _ _ _ _ _)) _ _ _); k_dflt (refine' nameC ?N ?c ?m ?d ?_ ?b ?k ?g; (case k => exact rfl); (case b => exact rfl); (case g => decide); (case N => k_asm); (case c => exact rfl); (case m => k_mem); (case d => assumption); k_whole)))
local macro_rules | `(tactic| walk_at "setItem ref int") => `(tactic| (k_here; (with_reducible show wpAny _ _ (PySem.setItem (Value.ref _) (Value.int _ _) _) _ _ _); k_dflt (refine' setY ?k1 ?k2 ?k3 ?k4 ?k5 ?_; (case k1 => k_asm); (case k2 => k_asm); (case k3 => k_upd); (case k4 => assumption); (case k5 => assumption)); intro h' F' N'; (try dsimp only at N'); (try k_sweep)))
local macro_rules | `(tactic| walk_at "subscriptTail") => `(tactic| (k_here; (with_reducible show wpAny _ _ (subscriptTail _ _ (Value.ref _) (Value.int _ _)) _ _ _); k_dflt (refine' itemY ?N ?m ?c ?d ?x ?k ?z ?_; (case N => k_asm); (case m => k_mem); (case c => exact rfl); (case d => exact rfl); (case k => exact rfl); (case x => assumption); (case z => exact size_le' (by assumption)); k_whole)))
local macro_rules | `(tactic| walk_at "truthy ref") => `(tactic| (k_here; (with_reducible show wpAny _ _ (truthy (Value.ref _)) _ _ _); k_dflt (first | refine truthyLT (by k_asm) (by k_mem) (by assumption) (by assumption) ?_ | refine truthyLF (by k_asm) (by k_mem) ?_); intro tk'; (try dsimp only)))
local macro_rules | `(tactic| walk_at "loadName") => `(tactic| (k_here; (with_reducible show wpAny _ _ (loadName (envOfC _ _ _ _ _) _) _ _ _); k_dflt (refine' loadL ?F ?v ?_ ?a ?b ?c; (case F => k_asm); (case a => exact rfl); (case b => exact rfl); (case c => exact rfl); (case v => first | assumption | exact rfl); k_whole)))
local macro_rules | `(tactic| walk_at "eval Name") => `(tactic| (k_here; (with_reducible show wpAny _ _ (eval (Expr.Name _ _) (compEnvC _ _ _ _)) _ _ _); k_dflt (first
  | (refine' nameF ?N ?c ?m ?d ?_ ?b ?k ?g ?f; (case k => exact rfl); (case b => exact rfl); (case g => decide); (case f => decide); (case N => k_asm); (case c => exact rfl); (case m => k_mem); (case d => first | assumption | exact rfl | k_asm); k_whole)
  | (refine' nameL ?F ?v ?_ ?a ?b ?c ?d; (case c => exact rfl); (case a => exact rfl); (case b => exact rfl); (case d => decide); (case F => k_asm); (case v => exact rfl); k_whole)
  | (refine' nameC ?N ?c ?m ?d ?_ ?b ?k ?g; (case k => exact rfl); (case b => exact rfl); (case g => decide); (case N => k_asm); (case c => exact rfl); (case m => k_mem); (case d => first | assumption | exact rfl | k_asm); k_whole))))

section
local macro_rules | `(tactic| walk_at "subscriptTail Name Slice ref ref") => `(tactic| (k_here; (with_reducible show wpAny _ _ (subscriptTail _ (PySem.Expr.Slice _ _ none _) (Value.ref _) (Value.ref _)) _ _ _); k_dflt (refine' kms_slice_lit ?F ?N ?l ?p ?q ?e ?_ ?s ?t ?z; (case F => k_asm); (case N => k_asm); (case l => exact Fr.lst (by k_asm) (by assumption)); (case p => kmk_part); (case q => kmk_part); (case e => exact pick8 _); (case s => with_unfolding_all rfl); (case t => kmk_pure); (case z => exact size_le (by assumption))); intro D' h' F' N' l1; (try k_lt l1); (try k_sweep)))
variable {q1 q2 q3 q4 q5 q6 q7 q8 q9 q10 q11 q12 q13 q14 q15 q16 q17 q18 : Stmt} {nm ql : Str} {psL : Arguments} {sc : Scope} {cdv cd : Value} {f : Addr}
theorem l_par_turn {w : World} {p : Program} {loose : List Str} {mean : ExcName → Option Value} {mg mb : Str → Option Value} {h₀ : Heap} {L : Addr} {m : Str → Option Value} {s : Shared} {news : List (Addr × Obj)}
  {tgt iter : Expr} {body : List Stmt} {fp : Pos} {pa : Addr} {vs : List Value} {cc : Nat} {c : Int} {t : Tok} (F : Fr h₀ L s.heap m) (X : (hd.heap_39 w.params).In h₀) (N : News h₀ L s.heap news) (T : Top p loose mean mg mb h₀)
  (hFn : LawK w nm ql psL sc cdv q1 (.For tgt iter body [] fp) q3 q4 q5 q6 q7 q8 q9 q10 q11 q12 q13 q14 q15 q16 q17 q18)
  (N1 : News h₀ L s.heap ((pa, listOf vs.toArray cc) :: news)) (hne : ∀ p ∈ news, p.1 ≠ pa) (h1 : m (Str.ofString "parents") = some (.ref pa)) (hlo : 3 ≤ vs.length) (hlen : vs.length ≤ 1000) {Q : Flow → Shared → Prop}
  (hret : ∀ m' h' tk' cc' t', Fr h₀ L h' m' → News h₀ L h' ((pa, listOf (vs.toArray.push (.int (c.fmod ((vs.length : Nat) : Int)) t')) cc') :: news) → m' (Str.ofString "parents") = some (.ref pa) → Q .next { s with heap := h', toks := tk' }) :
  wpAny (model PySem.Challenge.rw_ez0274_01.prog w) (AM 850 900) (assign tgt (envOfC ql sc L f cd) (.int c t)) (fun _ s₁ => wpAny (model PySem.Challenge.rw_ez0274_01.prog w) (AM 850 900) (execs body (envOfC ql sc L f cd)) Q (fun _ _ => False) s₁) (fun _ _ => False) s := by
  clear N
  revert X; k_fill; intro X
  obtain ⟨oc, od, dV, kV, doc, pm, an, ct, osl, hK⟩ := hFn
  refine key_of (by k_is) hK (fun e => ?_)
  cases e
  k_steps
  any_goals try k_data
  any_goals (with_reducible try exact trivial)
  exact hret _ _ _ _ _ (by assumption) (by assumption) (by exact h1)
theorem natFmod {c : Int} {n : Nat} (h : 0 < n) : ∃ x, x < n ∧ c.fmod (n : Int) = ((x : Nat) : Int) := by
  have h1 := Int.fmod_nonneg_of_pos c (show (0 : Int) < (n : Int) by omega)
  have h2 := Int.fmod_lt_of_pos c (show (0 : Int) < (n : Int) by omega)
  exact ⟨(c.fmod (n : Int)).toNat, by omega, by omega⟩

def ParJ (pa sl : Addr) (so : Obj) (news : List (Addr × Obj)) (i : Nat) (m₁ : Str → Option Value) (rest : List (Addr × Obj)) : Prop :=
  m₁ (Str.ofString "parents") = some (.ref pa) ∧ ∃ vs c P, rest = (sl, so) :: (pa, listOf vs.toArray c) :: news ∧ NatsAre vs P ∧ Seed P i
section
variable {prog : Program} {w : World} {A : Around} {s : Shared} {h₀ : Heap} {m : Str → Option Value} {news : List (Addr × Obj)} {env : Env} {E : Value → Shared → Prop}
theorem loop_par {R : Result → Shared → Prop} {target : Expr} {body : List Stmt} {pa sl : Addr} {a b d : Tok} {items : List Value} {ns : List Int} (hI : IntsAre items ns) (F : Fr h₀ env.locals s.heap m) (N : News h₀ env.locals s.heap ((sl, listOf (items.take 8).toArray 0) :: (pa, listOf #[.int 0 a, .int 0 b, .int 0 d] 0) :: news))
    (hp0 : ∀ p ∈ news, p.1 < pa) (hs : ∀ p ∈ (pa, listOf #[.int 0 a, .int 0 b, .int 0 d] 0) :: news, p.1 < sl) (h1 : m (Str.ofString "parents") = some (.ref pa)) (hh : A.handled = none)
    (turn : ∀ (c : Int) (t : Tok) m₁ rest (vs : List Value) cc h tk (Q : Flow → Shared → Prop), Fr h₀ env.locals h m₁ → News h₀ env.locals h ((pa, listOf vs.toArray cc) :: rest) → (∀ p ∈ rest, p.1 ≠ pa) → m₁ (Str.ofString "parents") = some (.ref pa) → 3 ≤ vs.length → vs.length ≤ 1000 →
      (∀ m' h' tk' cc' t', Fr h₀ env.locals h' m' → News h₀ env.locals h' ((pa, listOf (vs.toArray.push (.int (c.fmod ((vs.length : Nat) : Int)) t')) cc') :: rest) → m' (Str.ofString "parents") = some (.ref pa) → Q .next { s with heap := h', toks := tk' }) →
      wpAny (model prog w) A (assign target env (.int c t)) (fun _ s₂ => wpAny (model prog w) A (execs body env) Q (fun _ _ => False) s₂) (fun _ _ => False) { s with heap := h, toks := tk })
    (done : ∀ m₁ h tk c (vs : List Value) P, Fr h₀ env.locals h m₁ → News h₀ env.locals h ([(sl, listOf (items.take 8).toArray 0), (pa, listOf vs.toArray c)] ++ news) → Above [(sl, listOf (items.take 8).toArray 0), (pa, listOf vs.toArray c)] news → m₁ (Str.ofString "parents") = some (.ref pa) → NatsAre vs P → Tree P → R (.ok .next) { s with heap := h, toks := tk }) :
    wpAny (model prog w) A (pyIter (.ref sl)) (fun it s₂ => codeAny (model prog w) A (.forLoop target it body [] env) R s₂) E s := by
  have hpl : pa ≠ sl := fun e => by have := hs _ (.head _); simp only [e] at this; exact absurd this (Nat.lt_irrefl _)
  refine loop_listR F N (.head _) rfl rfl hh (ParJ pa sl (listOf (items.take 8).toArray 0) news) ⟨h1, [.int 0 a, .int 0 b, .int 0 d], 0, [0, 0, 0], rfl, ⟨rfl, fun i v hv => ?_⟩, Seed.start⟩ ?_ ?_ ?_
  · match i, hv with
    | 0, hv => cases hv; exact ⟨_, rfl⟩
    | 1, hv => cases hv; exact ⟨_, rfl⟩
    | 2, hv => cases hv; exact ⟨_, rfl⟩
    | i + 3, hv => simp at hv
  · rintro i m₁ rest ⟨_, vs, c, P, rfl, _⟩
    exact .head _
  · rintro I i v o₁ m₁ rest h tk hv ⟨hm, vs, cc, P, rfl, hP, hS⟩ F₁ N₁ hI1 hI2
    have hv' : items[i]? = some v := by
      rw [List.getElem?_take] at hv
      split at hv
      · exact hv
      · cases hv
    obtain ⟨c, t, rfl, _⟩ := hI.at i v hv'
    have hi8 : i < 8 := by
      have := (List.getElem?_eq_some_iff.mp hv).1
      rw [List.length_take] at this; omega
    obtain ⟨rest', N₂, k1, k2⟩ := pull N₁ (a := pa) (.tail _ (.tail _ (.head _)))
    have hlen : vs.length = 3 + i := by rw [hP.1, hS.len]
    have hIpa : I ≠ pa := fun e => by have := hI2 _ (.tail _ (.head _)); rw [e] at this; exact absurd this (Nat.lt_irrefl _)
    refine turn c t m₁ rest' vs cc h tk _ F₁ N₂ (fun p hp => (k2 p hp).2) hm (by omega) (by omega) fun m' h' tk' cc' t' F' N' hm' => ?_
    obtain ⟨x, hx, ex⟩ := natFmod (c := c) (n := vs.length) (by omega)
    rw [ex, push_list] at N'
    refine NxtR.intro ((sl, listOf (items.take 8).toArray 0) :: (pa, listOf (vs ++ [Value.int ((x : Nat) : Int) t']).toArray cc') :: news) F' N' (fun p hp => ?_) (fun p hp => ?_) ⟨hm', _, _, P ++ [x], rfl, hP.snoc x t', hS.grow (by rw [← hP.1]; exact hx)⟩
    · rcases List.mem_cons.mp hp with rfl | hp
      · exact .tail _ (k1 _ (.head _) hIpa)
      · rcases List.mem_cons.mp hp with rfl | hp
        · exact .tail _ (k1 _ (.tail _ (.head _)) hpl.symm)
        · rcases List.mem_cons.mp hp with rfl | hp
          · exact .head _
          · exact .tail _ (k1 _ (.tail _ (.tail _ (.tail _ hp))) (Nat.ne_of_lt (hp0 p hp)))
    · rcases List.mem_cons.mp hp with rfl | hp
      · exact Nat.ne_of_lt (hI2 _ (.head _))
      · rcases List.mem_cons.mp hp with rfl | hp
        · exact hIpa.symm
        · exact Nat.ne_of_lt (hI2 _ (.tail _ (.tail _ hp)))
  · rintro m₁ rest h tk ⟨hm, vs, c, P, rfl, hP, hS⟩ F₁ N₁
    refine done m₁ h tk c vs P F₁ N₁ (.cons (fun p q => hs _ (.tail _ q)) (.cons hp0 .nil)) hm hP (hS.tree ?_)
    rw [List.length_take]; omega
end
theorem l_parents {w : World} {p : Program} {loose : List Str} {mean : ExcName → Option Value} {mg mb : Str → Option Value} {h₀ : Heap} {L : Addr} {m : Str → Option Value} {s : Shared} {news : List (Addr × Obj)}
  {scr : Addr} {items : List Value} {ns : List Int} (F : Fr h₀ L s.heap m) (X : (hd.heap_39 w.params).In h₀) (N : News h₀ L s.heap news) (T : Top p loose mean mg mb h₀)
  (hFn : LawK w nm ql psL sc cdv q1 q2 q3 q4 q5 q6 q7 q8 q9 q10 q11 q12 q13 q14 q15 q16 q17 q18)
  (h1 : m (Str.ofString "script") = some (.ref scr)) (hl : h₀.IsList scr items.toArray) (hI : IntsAre items ns) (hlen : items.length ≤ 1000) {Q : Flow → Shared → Prop}
  (hret : ∀ m' h' tk' pa c (vs : List Value) P tl, Fr h₀ L h' m' → News h₀ L h' (tl ++ news) → Above tl news → m' (Str.ofString "parents") = some (.ref pa) → (pa, listOf vs.toArray c) ∈ tl → NatsAre vs P → Tree P → Q .next { s with heap := h', toks := tk' }) :
  wpAny (model PySem.Challenge.rw_ez0274_01.prog w) (AM 850 900) (exec q1 (envOfC ql sc L f cd)) (fun f1 s₁ => f1 = .next ∧ wpAny (model PySem.Challenge.rw_ez0274_01.prog w) (AM 850 900) (exec q2 (envOfC ql sc L f cd)) Q (fun _ _ => False) s₁) (fun _ _ => False) s := by
  have hFn' := hFn
  have X' := X
  revert X; k_fill; intro X
  obtain ⟨oc, od, dV, kV, doc, pm, an, ct, osl, hK⟩ := hFn
  refine key_of (by k_is) hK (fun e => ?_)
  cases e
  k_steps
  any_goals try k_data
  any_goals (with_reducible try exact trivial)
  rename News _ _ _ _ => NN
  rename Fr _ _ _ _ => FF
  simp only [List.toList_toArray] at NN
  obtain ⟨hl1, hl2⟩ := ‹_ ∧ AllLt _ _›
  refine loop_par hI FF NN (by assumption) (below_cons hl1 (allLt_all hl2)) (by rfl) rfl ?_ ?_
  · intro c t m₁ rest vs cc h tk Q' F₁ N₁ hne hm hlo hhi k
    exact l_par_turn F₁ X (fun p hp => N₁ p (.tail _ hp)) T hFn' N₁ hne hm hlo hhi k
  · intro m₁ h tk c vs P F₁ N₁ ha hm hP hT
    exact hret _ _ _ _ _ _ _ _ F₁ N₁ ha hm (.tail _ (.head _)) hP hT

end
section
variable {q1 q2 q3 q4 q5 q6 q7 q8 q9 q10 q11 q12 q13 q14 q15 q16 q17 q18 : Stmt} {nm ql : Str} {psL : Arguments} {sc : Scope} {cdv cd : Value} {f : Addr}
theorem l_branches {w : World} {p : Program} {loose : List Str} {mean : ExcName → Option Value} {mg mb : Str → Option Value} {h₀ : Heap} {L : Addr} {m : Str → Option Value} {s : Shared} {news : List (Addr × Obj)}
  {pa : Addr} {vs : List Value} {cc : Nat} {oc : Obj} {x : Option Value} (F : Fr h₀ L s.heap m) (X : (hd.heap_39 w.params).In h₀) (N : News h₀ L s.heap news) (T : Top p loose mean mg mb h₀)
  (hFn : LawK w nm ql psL sc cdv q1 q2 q3 q4 q5 q6 q7 q8 q9 q10 q11 q12 q13 q14 q15 q16 q17 q18)
  (N1 : News h₀ L s.heap ((L + 1 + 1, oc) :: news)) (hoc : oc.data = .cell x) (hne : ∀ p ∈ news, p.1 ≠ L + 1 + 1)
  (h1 : m (Str.ofString "parents") = some (.ref pa)) (hpa : (pa, listOf vs.toArray cc) ∈ news) (hlen : vs.length ≤ 1000) {Q : Flow → Shared → Prop}
  (hret : ∀ h' tk' D e (bs : List Addr) oc', Fr h₀ L h' m → News h₀ L h' ((L + 1 + 1, oc') :: (D, listOf (bs.map Value.ref).toArray e) :: (emptyAt bs ++ news)) → oc'.data = .cell (some (.ref D)) → bs.length = vs.length → (bs.Pairwise fun a b => a < b) → (∀ p ∈ news, p.1 < D) → (∀ b ∈ bs, D < b) → Q .next { s with heap := h', toks := tk' }) :
  wpAny (model PySem.Challenge.rw_ez0274_01.prog w) (AM 850 900) (exec q3 (envOfC ql sc L f cd)) Q (fun _ _ => False) s := by
  clear N
  revert X; k_fill; intro X
  obtain ⟨oc, od, dV, kV, doc, pm, an, ct, osl, hK⟩ := hFn
  refine key_of (by k_is) hK (fun e => ?_)
  cases e
  k_steps
  any_goals try k_data
  any_goals (with_reducible try exact trivial)
  refine comp_list0 (by k_asm) (by k_asm) (.tail _ hpa) rfl rfl hlen FreshJ ⟨[], rfl, rfl, rfl, .nil⟩ ?_ ?_
  · rintro g C I D i v o₁ lo₁ ys tl h tk m₁ hv hJ st F₁ N₁
    k_steps
    rename Fr _ _ _ _ => FF
    rename News _ _ _ _ => NN
    obtain ⟨k1, k2, k3⟩ := ‹_ ∧ _ ∧ AllLt _ _›
    exact NxtC.intro [_] FF NN (.cons (below_cons k1 (below_cons k2 (allLt_all k3))) .nil) (hJ.snoc fun p hp => allLt_all k3 p (List.mem_append_left _ hp))
  · intro D e ys tl h tk hJ F' N' hA h1 h2
    have N2 := News.sub N' (l' := (L + 1 + 1, oc) :: (D, listOf ys.toArray e) :: (tl ++ news)) (fun p hp => by
      rcases List.mem_cons.mp hp with rfl | hp
      · exact .tail _ (List.mem_append_right _ (.head _))
      · rcases List.mem_cons.mp hp with rfl | hp
        · exact .head _
        · rcases List.mem_append.mp hp with hp | hp
          · exact .tail _ (List.mem_append_left _ hp)
          · exact .tail _ (List.mem_append_right _ (.tail _ hp)))
    have hD : D ≠ L + 1 + 1 := Nat.ne_of_gt (h1 _ (.head _))
    have htl : ∀ p ∈ tl ++ news, p.1 ≠ L + 1 + 1 := fun p hp => by
      rcases List.mem_append.mp hp with hp | hp
      · exact Nat.ne_of_gt (Nat.lt_trans (h1 _ (.head _)) (h2 p hp))
      · exact hne p hp
    clear N' N1 F
    k_steps
    obtain ⟨bs, rfl, hb1, rfl, hb2⟩ := hJ
    exact hret _ _ D e bs _ (by assumption) (by assumption) (by assumption) hb1 hb2 (fun p hp => h1 p (.tail _ hp)) (fun b hb => h2 (b, listOf #[] 0) (by simp [emptyAt, hb]))

end
section
variable {q1 q2 q3 q4 q5 q6 q7 q8 q9 q10 q11 q12 q13 q14 q15 q16 q17 q18 : Stmt} {nm ql : Str} {psL : Arguments} {sc : Scope} {cdv cd : Value} {f : Addr}
theorem l_paths0 {w : World} {p : Program} {loose : List Str} {mean : ExcName → Option Value} {mg mb : Str → Option Value} {h₀ : Heap} {L : Addr} {m : Str → Option Value} {s : Shared} {news : List (Addr × Obj)}
  {oc : Obj} {x : Option Value} (F : Fr h₀ L s.heap m) (X : (hd.heap_39 w.params).In h₀) (N : News h₀ L s.heap news) (T : Top p loose mean mg mb h₀)
  (hFn : LawK w nm ql psL sc cdv q1 q2 q3 q4 q5 q6 q7 q8 q9 q10 q11 q12 q13 q14 q15 q16 q17 q18)
  (N1 : News h₀ L s.heap ((L + 1 + 1 + 1, oc) :: news)) (hoc : oc.data = .cell x) (hne : ∀ p ∈ news, p.1 ≠ L + 1 + 1 + 1) {Q : Flow → Shared → Prop}
  (hret : ∀ h' tk' D t oc', Fr h₀ L h' m → News h₀ L h' ((D, listOf #[.str (Str.ofString "Top") t] 0) :: (L + 1 + 1 + 1, oc') :: news) → oc'.data = .cell (some (.ref D)) → (∀ p ∈ (L + 1 + 1 + 1, oc) :: news, p.1 < D) → Q .next { s with heap := h', toks := tk' }) :
  wpAny (model PySem.Challenge.rw_ez0274_01.prog w) (AM 850 900) (exec q4 (envOfC ql sc L f cd)) Q (fun _ _ => False) s := by
  clear N
  revert X; k_fill; intro X
  obtain ⟨oc, od, dV, kV, doc, pm, an, ct, osl, hK⟩ := hFn
  refine key_of (by k_is) hK (fun e => ?_)
  cases e
  k_steps
  any_goals try k_data
  any_goals (with_reducible try exact trivial)
  exact hret _ _ _ _ _ (by assumption) (by assumption) (by assumption) (by (repeat (cases ‹_ ∧ _›)); walk_at "my below")
theorem l_places {w : World} {p : Program} {loose : List Str} {mean : ExcName → Option Value} {mg mb : Str → Option Value} {h₀ : Heap} {L : Addr} {m : Str → Option Value} {s : Shared} {news : List (Addr × Obj)}
  {pa : Addr} {vs : List Value} {cc : Nat} {oc : Obj} {x : Option Value} (F : Fr h₀ L s.heap m) (X : (hd.heap_39 w.params).In h₀) (N : News h₀ L s.heap news) (T : Top p loose mean mg mb h₀)
  (hFn : LawK w nm ql psL sc cdv q1 q2 q3 q4 q5 q6 q7 q8 q9 q10 q11 q12 q13 q14 q15 q16 q17 q18)
  (N1 : News h₀ L s.heap ((L + 1 + 1 + 1 + 1 + 1 + 1, oc) :: news)) (hoc : oc.data = .cell x) (hne : ∀ p ∈ news, p.1 ≠ L + 1 + 1 + 1 + 1 + 1 + 1)
  (h1 : m (Str.ofString "parents") = some (.ref pa)) (hpa : (pa, listOf vs.toArray cc) ∈ news) (hlen : vs.length ≤ 1000) {Q : Flow → Shared → Prop}
  (hret : ∀ h' tk' D e ys oc', Fr h₀ L h' m → News h₀ L h' ((L + 1 + 1 + 1 + 1 + 1 + 1, oc') :: (D, listOf (List.toArray ys) e) :: news) → oc'.data = .cell (some (.ref D)) → NatsAre ys (List.replicate vs.length 0) → (∀ p ∈ news, p.1 < D) → Q .next { s with heap := h', toks := tk' }) :
  wpAny (model PySem.Challenge.rw_ez0274_01.prog w) (AM 850 900) (exec q9 (envOfC ql sc L f cd)) Q (fun _ _ => False) s := by
  clear N
  revert X; k_fill; intro X
  obtain ⟨oc, od, dV, kV, doc, pm, an, ct, osl, hK⟩ := hFn
  refine key_of (by k_is) hK (fun e => ?_)
  cases e
  k_steps
  any_goals try k_data
  any_goals (with_reducible try exact trivial)
  refine comp_list0 (by k_asm) (by k_asm) (.tail _ hpa) rfl rfl hlen (fun i ys tl => tl = [] ∧ NatsAre ys (List.replicate i 0)) ⟨rfl, .nil⟩ ?_ ?_
  · rintro g C I D i v o₁ lo₁ ys tl h tk m₁ hv ⟨rfl, hJ⟩ st F₁ N₁
    k_steps
    rename Fr _ _ _ _ => FF
    rename News _ _ _ _ => NN
    exact NxtC.intro [] FF NN .nil ⟨rfl, by rw [List.replicate_succ']; exact hJ.snoc 0 _⟩
  · rintro D e ys tl h tk ⟨rfl, hJ⟩ F' N' hA h1 h2
    have N2 := News.sub N' (l' := (L + 1 + 1 + 1 + 1 + 1 + 1, oc) :: (D, listOf ys.toArray e) :: news) (fun p hp => by
      rcases List.mem_cons.mp hp with rfl | hp
      · exact .tail _ (.head _)
      · rcases List.mem_cons.mp hp with rfl | hp
        · exact .head _
        · exact .tail _ (.tail _ hp))
    have hD : D ≠ L + 1 + 1 + 1 + 1 + 1 + 1 := Nat.ne_of_gt (h1 _ (.head _))
    clear N' N1 F
    k_steps
    exact hret _ _ D e ys _ (by assumption) (by assumption) (by assumption) hJ (fun p hp => h1 p (.tail _ hp))
theorem l_texts0 {w : World} {p : Program} {loose : List Str} {mean : ExcName → Option Value} {mg mb : Str → Option Value} {h₀ : Heap} {L : Addr} {m : Str → Option Value} {s : Shared} {news : List (Addr × Obj)}
  {pa : Addr} {vs : List Value} {cc : Nat} {oc : Obj} {x : Option Value} (F : Fr h₀ L s.heap m) (X : (hd.heap_39 w.params).In h₀) (N : News h₀ L s.heap news) (T : Top p loose mean mg mb h₀)
  (hFn : LawK w nm ql psL sc cdv q1 q2 q3 q4 q5 q6 q7 q8 q9 q10 q11 q12 q13 q14 q15 q16 q17 q18)
  (N1 : News h₀ L s.heap ((L + 1 + 1 + 1 + 1 + 1, oc) :: news)) (hoc : oc.data = .cell x) (hne : ∀ p ∈ news, p.1 ≠ L + 1 + 1 + 1 + 1 + 1)
  (h1 : m (Str.ofString "parents") = some (.ref pa)) (hpa : (pa, listOf vs.toArray cc) ∈ news) (hlen : vs.length ≤ 1000) {Q : Flow → Shared → Prop}
  (hret : ∀ h' tk' D e ys oc', Fr h₀ L h' m → News h₀ L h' ((L + 1 + 1 + 1 + 1 + 1, oc') :: (D, listOf (List.toArray ys) e) :: news) → oc'.data = .cell (some (.ref D)) → TextsAre ys (List.replicate vs.length (Str.ofString "")) → (∀ p ∈ news, p.1 < D) → Q .next { s with heap := h', toks := tk' }) :
  wpAny (model PySem.Challenge.rw_ez0274_01.prog w) (AM 850 900) (exec q7 (envOfC ql sc L f cd)) Q (fun _ _ => False) s := by
  clear N
  revert X; k_fill; intro X
  obtain ⟨oc, od, dV, kV, doc, pm, an, ct, osl, hK⟩ := hFn
  refine key_of (by k_is) hK (fun e => ?_)
  cases e
  k_steps
  any_goals try k_data
  any_goals (with_reducible try exact trivial)
  refine comp_list0 (by k_asm) (by k_asm) (.tail _ hpa) rfl rfl hlen (fun i ys tl => tl = [] ∧ TextsAre ys (List.replicate i (Str.ofString ""))) ⟨rfl, .nil⟩ ?_ ?_
  · rintro g C I D i v o₁ lo₁ ys tl h tk m₁ hv ⟨rfl, hJ⟩ st F₁ N₁
    k_steps
    rename Fr _ _ _ _ => FF
    rename News _ _ _ _ => NN
    exact NxtC.intro [] FF NN .nil ⟨rfl, by rw [List.replicate_succ']; exact hJ.snoc _ _⟩
  · rintro D e ys tl h tk ⟨rfl, hJ⟩ F' N' hA h1 h2
    have N2 := News.sub N' (l' := (L + 1 + 1 + 1 + 1 + 1, oc) :: (D, listOf ys.toArray e) :: news) (fun p hp => by
      rcases List.mem_cons.mp hp with rfl | hp
      · exact .tail _ (.head _)
      · rcases List.mem_cons.mp hp with rfl | hp
        · exact .head _
        · exact .tail _ (.tail _ hp))
    have hD : D ≠ L + 1 + 1 + 1 + 1 + 1 := Nat.ne_of_gt (h1 _ (.head _))
    clear N' N1 F
    k_steps
    exact hret _ _ D e ys _ (by assumption) (by assumption) (by assumption) hJ (fun p hp => h1 p (.tail _ hp))

end
section
variable {q1 q2 q3 q4 q5 q6 q7 q8 q9 q10 q11 q12 q13 q14 q15 q16 q17 q18 : Stmt} {nm ql : Str} {psL : Arguments} {sc : Scope} {cdv cd : Value} {f : Addr}
theorem l_kid_turn {w : World} {p : Program} {loose : List Str} {mean : ExcName → Option Value} {mg mb : Str → Option Value} {h₀ : Heap} {L : Addr} {m : Str → Option Value} {s : Shared} {news : List (Addr × Obj)}
  {tgt iter : Expr} {b1 b2 : Stmt} {fp : Pos} {pa bl bj : Addr} {on ob : Obj} {vs bv ks : List Value} {ca cb ck k p' : Nat} {t tp : Tok}  {xn : Option Value} (F : Fr h₀ L s.heap m) (X : (hd.heap_39 w.params).In h₀) (N : News h₀ L s.heap news) (T : Top p loose mean mg mb h₀)
  (hFn : LawK w nm ql psL sc cdv q1 q2 q3 q4 (.For tgt iter [b1, b2] [] fp) q6 q7 q8 q9 q10 q11 q12 q13 q14 q15 q16 q17 q18)
  (N1 : News h₀ L s.heap ((L + 1, on) :: (bj, listOf ks.toArray ck) :: news)) (hon : on.data = .cell xn) (hn1 : ∀ p ∈ news, p.1 ≠ L + 1) (hn2 : ∀ p ∈ news, p.1 ≠ bj) (hn4 : bj ≠ L + 1)
  (h1 : m (Str.ofString "parents") = some (.ref pa)) (hpa : (pa, listOf vs.toArray ca) ∈ news) (hob : ob.data = .cell (some (.ref bl))) (mob : (L + 1 + 1, ob) ∈ news) (hbl : (bl, listOf bv.toArray cb) ∈ news)
  (l1 : vs.length ≤ 1000) (l2 : bv.length ≤ 1000) (l3 : ks.length ≤ 1000) (g1 : vs[k]? = some (.int (p' : Nat) tp)) (g2 : bv[p']? = some (.ref bj)) {Q : Flow → Shared → Prop}
  (hret : ∀ h' tk' on' ck', Fr h₀ L h' m → News h₀ L h' ((L + 1, on') :: (bj, listOf (ks.toArray.push (.int (k : Nat) t)) ck') :: news) → on'.data = .cell (some (.int (k : Nat) t)) → Q .next { s with heap := h', toks := tk' }) :
  wpAny (model PySem.Challenge.rw_ez0274_01.prog w) (AM 850 900) (assign tgt (envOfC ql sc L f cd) (.int (k : Nat) t)) (fun _ s₁ => wpAny (model PySem.Challenge.rw_ez0274_01.prog w) (AM 850 900) (exec b1 (envOfC ql sc L f cd)) Q (fun _ _ => False) s₁) (fun _ _ => False) s := by
  clear N
  revert X; k_fill; intro X
  obtain ⟨oc, od, dV, kV, doc, pm, an, ct, osl, hK⟩ := hFn
  refine key_of (by k_is) hK (fun e => ?_)
  cases e
  k_steps
  any_goals try k_data
  any_goals (with_reducible try exact trivial)
  exact hret _ _ _ _ (by assumption) (by assumption) (by assumption)

end
section
theorem strNat {prog : Program} {w : World} {A : Around} {E Q : Value → Shared → Prop} {s : Shared} {k : Nat} {t : Tok} (hk : k ≤ 10) (h : (decOf k).length ≤ 2 → Q (.str (decOf k) s.toks) { s with toks := s.toks + 1 }) :
    wpAny (model prog w) A (call (.type "str") [.int (k : Nat) t]) Q E s :=
  str_of_int_fit (N := 100) (by rw [if_neg (by omega)]; omega) (by decide) fun _ => h (dec_facts ⟨k, by omega⟩).1
local macro_rules | `(tactic| walk_at "call type:str") => `(tactic| (k_here; (with_reducible show wpAny _ _ (call (Value.type "str") [Value.int _ _]) _ _ _); k_dflt (refine strNat (by assumption) ?_); intro hl'; (try dsimp only)))
variable {q1 q2 q3 q4 q5 q6 q7 q8 q9 q10 q11 q12 q13 q14 q15 q16 q17 q18 : Stmt} {nm ql : Str} {psL : Arguments} {sc : Scope} {cdv cd : Value} {f : Addr}
theorem l_path_turn {w : World} {p : Program} {loose : List Str} {mean : ExcName → Option Value} {mg mb : Str → Option Value} {h₀ : Heap} {L : Addr} {m : Str → Option Value} {s : Shared} {news : List (Addr × Obj)}
  {tgt iter : Expr} {b1 b2 : Stmt} {fp : Pos} {pa pl : Addr} {on op : Obj} {vs pv : List Value} {ca cp k p' : Nat} {t tp tx : Tok} {x : Str} (F : Fr h₀ L s.heap m) (X : (hd.heap_39 w.params).In h₀) (N : News h₀ L s.heap news) (T : Top p loose mean mg mb h₀)
  (hFn : LawK w nm ql psL sc cdv q1 q2 q3 q4 (.For tgt iter [b1, b2] [] fp) q6 q7 q8 q9 q10 q11 q12 q13 q14 q15 q16 q17 q18)
  (N1 : News h₀ L s.heap ((pl, listOf pv.toArray cp) :: news)) (hon : on.data = .cell (some (.int (k : Nat) t))) (mon : (L + 1, on) ∈ news) (hn3 : ∀ p ∈ news, p.1 ≠ pl)
  (h1 : m (Str.ofString "parents") = some (.ref pa)) (hpa : (pa, listOf vs.toArray ca) ∈ news) (hop : op.data = .cell (some (.ref pl))) (mop : (L + 1 + 1 + 1, op) ∈ news)
  (l1 : vs.length ≤ 1000) (l4 : pv.length ≤ 1000) (g1 : vs[k]? = some (.int (p' : Nat) tp)) (g3 : pv[p']? = some (.str x tx)) (l5 : x.length ≤ 100) (l6 : k ≤ 10) {Q : Flow → Shared → Prop}
  (hret : ∀ h' tk' cp' t', Fr h₀ L h' m → News h₀ L h' ((pl, listOf (pv.toArray.push (.str (x ++ Str.ofString ".N" ++ decOf k) t')) cp') :: news) → Q .next { s with heap := h', toks := tk' }) :
  wpAny (model PySem.Challenge.rw_ez0274_01.prog w) (AM 850 900) (exec b2 (envOfC ql sc L f cd)) Q (fun _ _ => False) s := by
  clear N
  revert X; k_fill; intro X
  obtain ⟨oc, od, dV, kV, doc, pm, an, ct, osl, hK⟩ := hFn
  refine key_of (by k_is) hK (fun e => ?_)
  cases e
  k_steps
  any_goals try k_data
  any_goals (with_reducible try exact trivial)
  exact hret _ _ _ _ (by assumption) (by assumption)

end
section
variable {q1 q2 q3 q4 q5 q6 q7 q8 q9 q10 q11 q12 q13 q14 q15 q16 q17 q18 : Stmt} {nm ql : Str} {psL : Arguments} {sc : Scope} {cdv cd : Value} {f : Addr}
structure KidsSt (L pl : Addr) (bs : List Addr) (stat : List (Addr × Obj)) (P : List Nat) (i : Nat) (full : List (Addr × Obj)) : Prop where
  node : ∃ on x, (L + 1, on) ∈ full ∧ on.data = .cell x
  paths : ∃ pv c, (pl, listOf (List.toArray pv) c) ∈ full ∧ TextsAre pv ((List.range (i + 1)).map (path P))
  kids : ∀ (j : Nat) (b : Addr), bs[j]? = some b → ∃ ks e, (b, listOf (List.toArray ks) e) ∈ full ∧ NatsAre ks (kidsTo P j (i + 1))
  stat : ∀ q ∈ stat, q ∈ full
theorem l_kids {w : World} {p : Program} {loose : List Str} {mean : ExcName → Option Value} {mg mb : Str → Option Value} {h₀ : Heap} {L : Addr} {m : Str → Option Value} {s : Shared} {news : List (Addr × Obj)}
  {pa bl pl : Addr} {ob op : Obj} {vs : List Value} {bs : List Addr} {ca cb : Nat} {P : List Nat} {stat : List (Addr × Obj)} (F : Fr h₀ L s.heap m) (X : (hd.heap_39 w.params).In h₀) (N : News h₀ L s.heap news) (T : Top p loose mean mg mb h₀)
  (hFn : LawK w nm ql psL sc cdv q1 q2 q3 q4 q5 q6 q7 q8 q9 q10 q11 q12 q13 q14 q15 q16 q17 q18)
  (Tr : Tree P) (hP : NatsAre vs P) (h1 : m (Str.ofString "parents") = some (.ref pa)) (hpa : (pa, listOf vs.toArray ca) ∈ stat) (hob : ob.data = .cell (some (.ref bl))) (mob : (L + 1 + 1, ob) ∈ stat) (hbl : (bl, listOf (bs.map Value.ref).toArray cb) ∈ stat)
  (hop : op.data = .cell (some (.ref pl))) (mop : (L + 1 + 1 + 1, op) ∈ stat) (hbs : bs.length = P.length) (hnd : bs.Pairwise fun a b => a < b) (hb1 : ∀ b ∈ bs, b ≠ L + 1 ∧ b ≠ pl) (hpl1 : pl ≠ L + 1)
  (hst : ∀ q ∈ stat, q.1 ≠ L + 1 ∧ q.1 ≠ pl ∧ q.1 ∉ bs) (hS : KidsSt L pl bs stat P 0 news) {Q : Flow → Shared → Prop}
  (hret : ∀ h' tk' full, Fr h₀ L h' m → News h₀ L h' full → KidsSt L pl bs stat P (P.length - 1) full → Q .next { s with heap := h', toks := tk' }) :
  wpAny (model PySem.Challenge.rw_ez0274_01.prog w) (AM 850 900) (exec q5 (envOfC ql sc L f cd)) Q (fun _ _ => False) s := by
  have hFn' := hFn
  have X' := X
  have hlo := Tr.lo
  have hhi := Tr.hi
  have hlen : vs.length = P.length := hP.1
  have hlen' : vs.length ≤ 1000 := by omega
  have hpaN := hS.stat _ hpa
  revert X; k_fill; intro X
  obtain ⟨oc, od, dV, kV, doc, pm, an, ct, osl, hK⟩ := hFn
  refine key_of (by k_is) hK (fun e => ?_)
  cases e
  k_steps
  any_goals try k_data
  any_goals (with_reducible try exact trivial)
  rename IsRange _ _ _ _ _ _ _ _ => hr
  rename Fr _ _ _ _ => F
  rename News _ _ _ _ => N
  refine loop_rangeR (P.length - 1) F N hr (by rw [hlen]; exact small_up (a := 1) (by omega) (by omega)) (by rw [hlen]; exact range_up 1 (by omega)) rfl (fun i m₁ rest => m₁ = m ∧ KidsSt L pl bs stat P i rest) ⟨rfl, hS⟩ ?_ ?_
  · rintro I i t o₁ m₁ rest h tk hi ⟨rfl, hJ⟩ F₁ N₁ hne1 hne2
    rw [show (1 : Int) + ((i : Nat) : Int) * 1 = ((i + 1 : Nat) : Int) by push_cast; omega]
    change Fr h₀ L h m₁ at F₁
    change News h₀ L h _ at N₁
    obtain ⟨on, x, mon, hon⟩ := hJ.node
    obtain ⟨pv, cp, mpv, hpv⟩ := hJ.paths
    have hp := Tr.lt (i + 1) (by omega) (by omega)
    obtain ⟨bj, hbj⟩ : ∃ b, bs[par P (i + 1)]? = some b := ⟨_, List.getElem?_eq_getElem (by omega)⟩
    obtain ⟨ks, ek, mks, hks⟩ := hJ.kids _ _ hbj
    obtain ⟨tp, g1⟩ := hP.get (i := i + 1) (by omega)
    have g2 : (bs.map Value.ref)[par P (i + 1)]? = some (.ref bj) := by rw [List.getElem?_map, hbj]; rfl
    have hpvg : ((List.range (i + 1)).map (path P))[par P (i + 1)]? = some (path P (par P (i + 1))) := by
      rw [List.getElem?_map, List.getElem?_range (by omega)]; rfl
    obtain ⟨tx, g3⟩ := hpv.get hpvg
    have hbjm := List.mem_of_getElem? hbj
    obtain ⟨r3, N3, k1, k2⟩ := pulls (ps := [(L + 1, on), (bj, listOf ks.toArray ek), (pl, listOf pv.toArray cp)]) N₁ (fun p hp => by
      simp only [List.mem_cons, List.not_mem_nil, or_false] at hp
      rcases hp with rfl | rfl | rfl
      · exact .tail _ mon
      · exact .tail _ mks
      · exact .tail _ mpv)
    have N3 : News h₀ L h ((L + 1, on) :: (bj, listOf ks.toArray ek) :: (pl, listOf pv.toArray cp) :: r3) := N3
    have kk : ∀ q ∈ rest, q.1 ≠ L + 1 → q.1 ≠ bj → q.1 ≠ pl → q ∈ r3 := fun q hq a b c => k1 q (.tail _ hq) fun p hp => by
      simp only [List.mem_cons, List.not_mem_nil, or_false] at hp
      rcases hp with rfl | rfl | rfl
      · exact a
      · exact b
      · exact c
    have ks3 : ∀ q ∈ stat, q ∈ r3 := fun q hq => by
      have := hst q hq
      exact kk q (hJ.stat q hq) this.1 (fun e => this.2.2 (e ▸ hbjm)) this.2.1
    have a1 := (hb1 bj hbjm).1
    have a2 := (hb1 bj hbjm).2
    have b1 : ∀ p ∈ r3, p.1 ≠ L + 1 := fun p hp => (k2 p hp).2 _ (.head _)
    have b2 : ∀ p ∈ r3, p.1 ≠ bj := fun p hp => (k2 p hp).2 _ (.tail _ (.head _))
    have b3 : ∀ p ∈ r3, p.1 ≠ pl := fun p hp => (k2 p hp).2 _ (.tail _ (.tail _ (.head _)))
    have hIo : (I, o₁) ∈ r3 := k1 _ (.head _) fun p hp => by
      simp only [List.mem_cons, List.not_mem_nil, or_false] at hp
      rcases hp with rfl | rfl | rfl
      · exact (hne1 _ mon).symm
      · exact (hne1 _ mks).symm
      · exact (hne1 _ mpv).symm
    have hksl : ks.length ≤ 1000 := by rw [hks.1]; exact Nat.le_trans (kidsTo_length _ _ _) (by omega)
    have hpvl : pv.length = i + 1 := by rw [hpv.1]; simp
    refine then_exec ?_
    refine l_kid_turn (s := { s with heap := h, toks := tk }) F₁ X' (fun p hp => N3 p (.tail _ (.tail _ hp))) T hFn' (news := (pl, listOf pv.toArray cp) :: r3) N3 hon ?_ ?_ a1 h1 (.tail _ (ks3 _ hpa)) hob (.tail _ (ks3 _ mob)) (.tail _ (ks3 _ hbl)) hlen' (by rw [List.length_map]; omega) hksl g1 g2 ?_
    · intro p hp
      rcases List.mem_cons.mp hp with rfl | hp
      · exact hpl1
      · exact b1 p hp
    · intro p hp
      rcases List.mem_cons.mp hp with rfl | hp
      · exact a2.symm
      · exact b2 p hp
    intro h5 tk5 on5 ck5 F5 N5 hon5
    have N6 : News h₀ L h5 ((pl, listOf pv.toArray cp) :: (L + 1, on5) :: (bj, listOf (ks.toArray.push (.int ((i + 1 : Nat) : Int) t)) ck5) :: r3) := News.sub N5 fun p hp => by
      simp only [List.mem_cons] at hp ⊢
      rcases hp with hp | hp | hp | hp <;> simp only [hp, true_or, or_true]
    refine ⟨rfl, execs_two ?_⟩
    refine l_path_turn (s := { s with heap := h5, toks := tk5 }) F5 X' (fun p hp => N6 p (.tail _ hp)) T hFn' N6 hon5 (.head _) ?_ h1 (.tail _ (.tail _ (ks3 _ hpa))) hop (.tail _ (.tail _ (ks3 _ mop))) hlen' (by omega) g1 g3 (Nat.le_trans (path_length Tr _ (by omega)) (by omega)) (by omega) ?_
    · intro p hp
      rcases List.mem_cons.mp hp with rfl | hp
      · exact hpl1.symm
      · rcases List.mem_cons.mp hp with rfl | hp
        · exact a2
        · exact b3 p hp
    intro h7 tk7 cp7 t7 F7 N7
    refine ⟨rfl, wpAny_execs_nil ?_⟩
    have hIne : ∀ q ∈ rest, q.1 ≠ I := hne1
    refine NxtR.full F7 N7 (.tail _ (.tail _ (.tail _ hIo))) fun rest' u1 u2 => ⟨rfl, ?_⟩
    have up3 : ∀ q ∈ r3, q.1 ≠ I → q ∈ rest' := fun q hq e => u1 q (.tail _ (.tail _ (.tail _ hq))) e
    refine ⟨⟨on5, _, u1 _ (.tail _ (.head _)) (hIne (L + 1, on) mon), hon5⟩, ⟨pv ++ [.str (path P (i + 1)) t7], cp7, ?_, ?_⟩, fun j b hjb => ?_, fun q hq => up3 q (ks3 q hq) (hIne q (hJ.stat q hq))⟩
    · refine u1 _ ?_ (hIne (pl, listOf pv.toArray cp) mpv)
      rw [path_up hp, ← push_list]
      exact .head _
    · have := hpv.snoc (path P (i + 1)) t7
      rw [List.range_succ (n := i + 1), List.map_append]
      exact this
    · by_cases hjp : j = par P (i + 1)
      · subst hjp
        rw [hbj] at hjb; cases hjb
        refine ⟨ks ++ [.int ((i + 1 : Nat) : Int) t], ck5, ?_, ?_⟩
        · refine u1 _ ?_ (hIne (bj, listOf ks.toArray ek) mks)
          rw [← push_list]
          exact .tail _ (.tail _ (.head _))
        · rw [kidsTo_step, if_pos (by simp; exact hp)]
          exact hks.snoc _ _
      · obtain ⟨ks', e', mk', hk'⟩ := hJ.kids j b hjb
        refine ⟨ks', e', up3 _ (kk _ mk' (hb1 b (List.mem_of_getElem? hjb)).1 (fun e => hjp ?_) (hb1 b (List.mem_of_getElem? hjb)).2) (hIne _ mk'), ?_⟩
        · have e : b = bj := e
          obtain ⟨i1, i2⟩ := List.getElem?_eq_some_iff.mp hjb
          obtain ⟨j1, j2⟩ := List.getElem?_eq_some_iff.mp hbj
          rw [List.pairwise_iff_getElem] at hnd
          rcases Nat.lt_trichotomy j (par P (i + 1)) with z | z | z
          · have := hnd _ _ i1 j1 z; rw [i2, j2, e] at this; exact absurd this (Nat.lt_irrefl _)
          · exact z
          · have := hnd _ _ j1 i1 z; rw [i2, j2, e] at this; exact absurd this (Nat.lt_irrefl _)
        · rw [kidsTo_step, if_neg (by simp; intro _; exact fun q => hjp q.symm), List.append_nil]
          exact hk'
  · rintro m₁ rest h tk ⟨rfl, hJ⟩ F₁ N₁
    exact hret _ _ _ F₁ N₁ hJ

end
section
local macro_rules | `(tactic| walk_at "call ref") => `(tactic| (k_here; k_dflt (show wpAny _ _ (call (Value.ref 105) _ _) _ _ _); refine stop_of ?_))
variable {q1 q2 q3 q4 q5 q6 q7 q8 q9 q10 q11 q12 q13 q14 q15 q16 q17 q18 : Stmt} {nm ql : Str} {psL : Arguments} {sc : Scope} {cdv cd : Value} {f : Addr}
def KindsJ (P : List Nat) (i : Nat) (ys : List Value) (tl : List (Addr × Obj)) : Prop := ∃ kd : List Addr, ys = kd.map Value.ref ∧ kd.length = i ∧ ∀ j, j < i → ∃ l, KindIn tl (kd.getD j 0) (strValues l) ∧ l.map Prod.fst = names P j
theorem KindsJ.snoc {P : List Nat} {i : Nat} {ys : List Value} {tl tl2 : List (Addr × Obj)} {r : Addr} {l : List (Str × Tok)} (h : KindsJ P i ys tl) (hk : KindIn tl2 r (strValues l)) (hl : l.map Prod.fst = names P i) : KindsJ P (i + 1) (ys ++ [.ref r]) (tl2 ++ tl) := by
  obtain ⟨kd, rfl, h2, h3⟩ := h
  refine ⟨kd ++ [r], by simp, by simp [h2], fun j hj => ?_⟩
  by_cases hji : j < i
  · obtain ⟨l', a, b⟩ := h3 j hji
    refine ⟨l', ?_, b⟩
    rw [List.getD_eq_getElem?_getD, List.getElem?_append_left (by omega), ← List.getD_eq_getElem?_getD]
    exact a.mono fun p hp => List.mem_append_right _ hp
  · have : j = i := by omega
    subst this
    refine ⟨l, ?_, hl⟩
    rw [List.getD_eq_getElem?_getD, List.getElem?_append_right (by omega), h2, Nat.sub_self]
    exact hk.mono fun p hp => List.mem_append_left _ hp
theorem l_kinds {w : World} {p : Program} {loose : List Str} {mean : ExcName → Option Value} {mg mb : Str → Option Value} {h₀ : Heap} {L : Addr} {m : Str → Option Value} {s : Shared} {news : List (Addr × Obj)}
  {ppl : Addr} {pv : List Value} {cp : Nat} {oc op : Obj} {x : Option Value} {P : List Nat} (F : Fr h₀ L s.heap m) (X : (hd.heap_39 w.params).In h₀) (N : News h₀ L s.heap news) (T : Top p loose mean mg mb h₀)
  (hFn : LawK w nm ql psL sc cdv q1 q2 q3 q4 q5 q6 q7 q8 q9 q10 q11 q12 q13 q14 q15 q16 q17 q18)
  (Tr : Tree P) (N1 : News h₀ L s.heap ((L + 1 + 1 + 1 + 1, oc) :: news)) (hoc : oc.data = .cell x) (hne : ∀ p ∈ news, p.1 ≠ L + 1 + 1 + 1 + 1)
  (hop : op.data = .cell (some (.ref ppl))) (mop : (L + 1 + 1 + 1, op) ∈ news) (hppl : (ppl, listOf pv.toArray cp) ∈ news) (hpv : TextsAre pv ((List.range P.length).map (path P))) {Q : Flow → Shared → Prop}
  (hret : ∀ h' tk' D e (kd : List Addr) tl oc', Fr h₀ L h' m → News h₀ L h' ((L + 1 + 1 + 1 + 1, oc') :: (D, listOf (kd.map Value.ref).toArray e) :: (tl ++ news)) → oc'.data = .cell (some (.ref D)) → kd.length = P.length → KindsAre tl (fun j => kd.getD j 0) P → (∀ p ∈ news, p.1 < D) → (∀ p ∈ tl, D < p.1) → Q .next { s with heap := h', toks := tk' }) :
  wpAny (model PySem.Challenge.rw_ez0274_01.prog w) (AM 850 900) (exec q6 (envOfC ql sc L f cd)) Q (fun _ _ => False) s := by
  clear N
  have hlo := Tr.lo
  have hhi := Tr.hi
  have hplen : pv.length = P.length := by rw [hpv.1]; simp
  have hpv1 : pv.length ≤ 1000 := by omega
  have X' := X
  revert X; k_fill; intro X
  obtain ⟨oc, od, dV, kV, doc, pm, an, ct, osl, hK⟩ := hFn
  refine key_of (by k_is) hK (fun e => ?_)
  cases e
  k_steps
  any_goals try k_data
  any_goals (with_reducible try exact trivial)
  refine comp_list0 (vs := pv) (by k_asm) (by k_asm) (by k_mem) rfl rfl hpv1 (KindsJ P) ⟨[], rfl, rfl, fun j hj => absurd hj (Nat.not_lt_zero _)⟩ ?_ ?_
  · rintro g C I D i v o₁ lo₁ ys tl h tk m₁ hv hJ st F₁ N₁
    obtain ⟨y, ty, hy, rfl⟩ := hpv.2 i v hv
    have hi : i < P.length := by rw [← hplen]; exact (List.getElem?_eq_some_iff.mp hv).1
    have hy2 : y = path P i := by
      rw [List.getElem?_map, List.getElem?_range hi] at hy
      exact (Option.some.inj hy).symm
    subst hy2
    have Xg := X.keeps st
    have Xg' := X'.keeps st
    have Tg := T.keeps st
    k_steps
    any_goals try k_data
    unfold Stop
    rename Fr _ _ _ _ => FF
    rename News _ _ _ _ => NN
    refine wpAny_lift ⟨rfl, Nat.le_of_ble_eq_true rfl, Nat.le_of_ble_eq_true rfl⟩ (d := 850) (u := 900) (c_stt FF Xg' NN Tg (path_pos i) (Nat.le_trans (path_length Tr i hi) (by omega)) (items := rest P i) (split_path Tr hi) ?_ ?_ ?_)
    · have := (rest_names Tr i hi).1; omega
    · intro a ha
      obtain ⟨q, rfl⟩ := (rest_names Tr i hi).2 a ha
      exact ⟨(dec_facts q).2.2.1, (dec_facts q).2.2.2.1, (dec_facts q).2.2.2.2⟩
    · intro r tl2 h2 tk2 l F2 N2 A2 hl hk
      rw [split_path Tr hi] at hl
      exact NxtC.intro tl2 F2 N2 A2 (hJ.snoc hk hl)
  · rintro D e ys tl h tk ⟨kd, rfl, hkl, hkk⟩ F' N' hA h1 h2
    have N2 := News.sub N' (l' := (L + 1 + 1 + 1 + 1, oc) :: (D, listOf (kd.map Value.ref).toArray e) :: (tl ++ news)) (fun p hp => by
      simp only [List.mem_cons, List.mem_append] at hp ⊢
      rcases hp with hp | hp | hp | hp <;> simp only [hp, true_or, or_true])
    have hD : D ≠ L + 1 + 1 + 1 + 1 := Nat.ne_of_gt (h1 _ (.head _))
    have htl : ∀ p ∈ tl ++ news, p.1 ≠ L + 1 + 1 + 1 + 1 := fun p hp => by
      rcases List.mem_append.mp hp with hp | hp
      · exact Nat.ne_of_gt (Nat.lt_trans (h1 _ (.head _)) (h2 p hp))
      · exact hne p hp
    clear N' N1 F
    k_steps
    any_goals try k_data
    exact hret _ _ D e kd tl _ (by assumption) (by assumption) (by assumption) (by rw [hkl, hplen]) (fun j hj => hkk j (by rw [hplen]; exact hj)) (fun p hp => h1 p (.tail _ hp)) h2

end
section
local macro_rules | `(tactic| walk_at "truthy str") => `(tactic| (k_here; (with_reducible show wpAny _ _ (PySem.truthy (Value.str _ _)) _ _ _); k_dflt (first | refine truthyS1 (by assumption) (by assumption) ?_ | refine truthyS0 (by assumption) ?_); intro tk'; (try dsimp only)))
variable {q1 q2 q3 q4 q5 q6 q7 q8 q9 q10 q11 q12 q13 q14 q15 q16 q17 q18 : Stmt} {nm ql : Str} {psL : Arguments} {sc : Scope} {cdv cd : Value} {f : Addr}
theorem leaf_facts : ∀ k : Fin 11, (Txt.item (Str.ofString "ab") ((((k : Nat) : Int)).fmod 2)).length = 1 ∧ (1 : Int) + (((k : Nat) : Int)).fmod 3 ≤ 3 ∧ 1 ≤ (1 : Int) + (((k : Nat) : Int)).fmod 3 ∧ Txt.mul (Txt.item (Str.ofString "ab") ((((k : Nat) : Int)).fmod 2)) (1 + (((k : Nat) : Int)).fmod 3) = leafText k := by decide +kernel
theorem mulAB {prog : Program} {w : World} {A : Around} {E Q : Value → Shared → Prop} {s : Shared} {k : Nat} {t u : Tok} (hk : k ≤ 10) (h : ∀ t' tk, Q (.str (leafText k) t') { s with toks := tk }) :
    wpAny (model prog w) A (binaryOp .Mult (.str (Txt.item (Str.ofString "ab") (((k : Nat) : Int).fmod 2)) t) (.int (1 + ((k : Nat) : Int).fmod 3) u)) Q E s := by
  obtain ⟨e1, e2, e3, e4⟩ := leaf_facts ⟨k, by omega⟩
  simp only at e1 e2 e3 e4
  refine SB.mul (mulOk_of 16 1048576 (by omega) (by omega) (by omega) (by decide) (by decide)) fun t' tk => ?_
  rw [e4]
  exact h t' tk
local macro_rules | `(tactic| walk_at "binaryOp Mult str int") => `(tactic| (k_here; k_dflt (refine mulAB (by assumption) ?_); intro t' tk'; (try dsimp only)))
theorem l_text_turn {w : World} {p : Program} {loose : List Str} {mean : ExcName → Option Value} {mg mb : Str → Option Value} {h₀ : Heap} {L : Addr} {m : Str → Option Value} {s : Shared} {news : List (Addr × Obj)}
  {tgt iter : Expr} {body : List Stmt} {fp : Pos} {bl bk tl : Addr} {on ob ot : Obj} {bv ks tv : List Value} {cb ck ct k : Nat} {t : Tok} {xn : Option Value} {K : List Nat} {Tx : Nat → Str} (F : Fr h₀ L s.heap m) (X : (hd.heap_39 w.params).In h₀) (N : News h₀ L s.heap news) (T : Top p loose mean mg mb h₀)
  (hFn : LawK w nm ql psL sc cdv q1 q2 q3 q4 q5 q6 q7 (.For tgt iter body [] fp) q9 q10 q11 q12 q13 q14 q15 q16 q17 q18)
  (N1 : News h₀ L s.heap ((L + 1, on) :: (tl, listOf tv.toArray ct) :: news)) (hon : on.data = .cell xn) (hn1 : ∀ p ∈ news, p.1 ≠ L + 1) (hn2 : ∀ p ∈ news, p.1 ≠ tl) (hn4 : tl ≠ L + 1)
  (hob : ob.data = .cell (some (.ref bl))) (mob : (L + 1 + 1, ob) ∈ news) (hbl : (bl, listOf bv.toArray cb) ∈ news) (hot : ot.data = .cell (some (.ref tl))) (mot : (L + 1 + 1 + 1 + 1 + 1, ot) ∈ news)
  (hbk : (bk, listOf ks.toArray ck) ∈ news) (g1 : bv[k]? = some (.ref bk)) (hK : NatsAre ks K) (hX : ∀ c ∈ K, ∃ t, tv[c]? = some (.str (Tx c) t)) (hl : ∀ c ∈ K, (Tx c).length ≤ 100)
  (l1 : bv.length ≤ 1000) (l2 : ks.length ≤ 1000) (l3 : tv.length ≤ 1000) (l6 : k ≤ 10) (l7 : k < tv.length) (l8 : K.length ≤ 11) (hpos : K ≠ [] → 1 ≤ (Txt.join (Str.ofString "") (K.map Tx)).length) {Q : Flow → Shared → Prop}
  (hret : ∀ h' tk' on' t', Fr h₀ L h' m → News h₀ L h' ((L + 1, on') :: (tl, listOf (tv.set k (.str (if K = [] then leafText k else Txt.join (Str.ofString "") (K.map Tx)) t')).toArray ct) :: news) → on'.data = .cell (some (.int (k : Nat) t)) → Q .next { s with heap := h', toks := tk' }) :
  wpAny (model PySem.Challenge.rw_ez0274_01.prog w) (AM 850 900) (assign tgt (envOfC ql sc L f cd) (.int (k : Nat) t)) (fun _ s₁ => wpAny (model PySem.Challenge.rw_ez0274_01.prog w) (AM 850 900) (execs body (envOfC ql sc L f cd)) Q (fun _ _ => False) s₁) (fun _ _ => False) s := by
  clear N
  revert X; k_fill; intro X
  obtain ⟨oc, od, dV, kV, doc, pm, an, ct', osl, hK'⟩ := hFn
  refine key_of (by k_is) hK' (fun e => ?_)
  cases e
  k_steps
  any_goals try k_data
  any_goals (with_reducible try exact trivial)
  refine comp_list0 (by k_asm) (by k_asm) (.tail _ (.tail _ hbk)) rfl rfl l2 (fun i ys tl => tl = [] ∧ ∃ r, ys = strValues r ∧ r.map Prod.fst = (K.take i).map Tx) ⟨rfl, [], rfl, rfl⟩ ?_ ?_
  · rintro g C I D i v o₁ lo₁ ys tl' h tk m₁ hv ⟨rfl, r, rfl, hr⟩ st F₁ N₁
    obtain ⟨tc, rfl⟩ := hK.2 i v hv
    have hi : i < K.length := by rw [← hK.1]; exact (List.getElem?_eq_some_iff.mp hv).1
    have hc : K[i]? = some (K.getD i 0) := by rw [List.getD_eq_getElem?_getD, List.getElem?_eq_getElem hi]; rfl
    generalize K.getD i 0 = c at hc
    obtain ⟨tx, hx⟩ := hX c (List.mem_of_getElem? hc)
    k_steps
    rename Fr _ _ _ _ => FF
    rename News _ _ _ _ => NN
    exact NxtC.intro [] FF NN .nil ⟨rfl, r ++ [(Tx c, tx)], by unfold strValues; rw [List.map_append]; rfl, by rw [take_succ_get hc, List.map_append, List.map_append, hr]; rfl⟩
  · rintro D e ys tl' h tk ⟨rfl, r, rfl, hr⟩ F' N' hA h1 h2
    have hr2 : r.map Prod.fst = K.map Tx := by rw [hr, hK.1, List.take_of_length_le (Nat.le_refl _)]
    have hs : ((K.map Tx).map (·.length)).sum ≤ 100 * 11 := by
      rw [List.map_map]
      exact Nat.le_trans (sum_le_times (fun c => (Tx c).length) 100 K hl) (Nat.mul_le_mul_left _ l8)
    have hw : ((r.map Prod.fst).map (·.length)).sum + (r.map Prod.fst).length ≤ 1048576 := by
      rw [hr2, List.length_map]; omega
    have hw2 : (Txt.join (Str.ofString "") (r.map Prod.fst)).length ≤ 10000 := by rw [hr2, join_length]; omega
    have hDt : D ≠ tl := Nat.ne_of_gt (h1 _ (.tail _ (.head _)))
    by_cases hK0 : K = []
    · have hz : (Txt.join (Str.ofString "") (r.map Prod.fst)).length = 0 := by rw [hr2, hK0]; rfl
      clear hw2
      k_steps
      any_goals try k_data
      rename News _ _ _ _ => NN
      rw [if_pos hK0] at hret
      exact hret _ _ _ _ (by assumption) (fun p hp => NN p (.tail _ hp)) (by assumption)
    · have hz : 1 ≤ (Txt.join (Str.ofString "") (r.map Prod.fst)).length := by rw [hr2]; exact hpos hK0
      k_steps
      any_goals try k_data
      rename News _ _ _ _ => NN
      rw [if_neg hK0, ← hr2] at hret
      exact hret _ _ _ _ (by assumption) (fun p hp => NN p (.tail _ hp)) (by assumption)

end
section
variable {q1 q2 q3 q4 q5 q6 q7 q8 q9 q10 q11 q12 q13 q14 q15 q16 q17 q18 : Stmt} {nm ql : Str} {psL : Arguments} {sc : Scope} {cdv cd : Value} {f : Addr}
structure TextsSt (L tl : Addr) (stat : List (Addr × Obj)) (P : List Nat) (i : Nat) (full : List (Addr × Obj)) : Prop where
  node : ∃ on x, (L + 1, on) ∈ full ∧ on.data = .cell x
  texts : ∃ tv c, (tl, listOf (List.toArray tv) c) ∈ full ∧ tv.length = P.length ∧ ∀ c, P.length - i ≤ c → c < P.length → ∃ t, tv[c]? = some (.str (text P c) t)
  stat : ∀ q ∈ stat, q ∈ full
theorem l_texts {w : World} {p : Program} {loose : List Str} {mean : ExcName → Option Value} {mg mb : Str → Option Value} {h₀ : Heap} {L : Addr} {m : Str → Option Value} {s : Shared} {news : List (Addr × Obj)}
  {pa bl tl : Addr} {ob ot : Obj} {vs bv : List Value} {ca cb : Nat} {P : List Nat} {stat : List (Addr × Obj)} (F : Fr h₀ L s.heap m) (X : (hd.heap_39 w.params).In h₀) (N : News h₀ L s.heap news) (T : Top p loose mean mg mb h₀)
  (hFn : LawK w nm ql psL sc cdv q1 q2 q3 q4 q5 q6 q7 q8 q9 q10 q11 q12 q13 q14 q15 q16 q17 q18)
  (Tr : Tree P) (hP : NatsAre vs P) (h1 : m (Str.ofString "parents") = some (.ref pa)) (hpa : (pa, listOf vs.toArray ca) ∈ stat) (hob : ob.data = .cell (some (.ref bl))) (mob : (L + 1 + 1, ob) ∈ stat) (hbl : (bl, listOf bv.toArray cb) ∈ stat)
  (hot : ot.data = .cell (some (.ref tl))) (mot : (L + 1 + 1 + 1 + 1 + 1, ot) ∈ stat) (hk : KidsIn stat bv P) (htl : tl ≠ L + 1)
  (hst : ∀ q ∈ stat, q.1 ≠ L + 1 ∧ q.1 ≠ tl) (hS : TextsSt L tl stat P 0 news) {Q : Flow → Shared → Prop}
  (hret : ∀ h' tk' full, Fr h₀ L h' m → News h₀ L h' full → TextsSt L tl stat P P.length full → Q .next { s with heap := h', toks := tk' }) :
  wpAny (model PySem.Challenge.rw_ez0274_01.prog w) (AM 850 900) (exec q8 (envOfC ql sc L f cd)) Q (fun _ _ => False) s := by
  have hFn' := hFn
  have X' := X
  have hlo := Tr.lo
  have hhi := Tr.hi
  have hlen : vs.length = P.length := hP.1
  have hlen' : vs.length ≤ 1000 := by omega
  have hpaN := hS.stat _ hpa
  revert X; k_fill; intro X
  obtain ⟨oc, od, dV, kV, doc, pm, an, ct, osl, hK⟩ := hFn
  refine key_of (by k_is) hK (fun e => ?_)
  cases e
  k_steps
  any_goals try k_data
  any_goals (with_reducible try exact trivial)
  rename IsRange _ _ _ _ _ _ _ _ => hr
  rename Fr _ _ _ _ => F
  rename News _ _ _ _ => N
  refine loop_rangeR P.length F N hr (by rw [hlen]; exact small_down (by omega) (by omega)) (by rw [hlen]; exact range_down (by omega)) rfl (fun i m₁ rest => m₁ = m ∧ TextsSt L tl stat P i rest) ⟨rfl, hS⟩ ?_ ?_
  · rintro I i t o₁ m₁ rest h tk hi ⟨rfl, hJ⟩ F₁ N₁ hne1 hne2
    rw [show ((vs.length : Nat) : Int) - 1 + ((i : Nat) : Int) * (-1) = ((P.length - 1 - i : Nat) : Int) by rw [hlen]; omega]
    change Fr h₀ L h m₁ at F₁
    change News h₀ L h _ at N₁
    obtain ⟨on, x, mon, hon⟩ := hJ.node
    obtain ⟨tv, ct, mtv, htv1, htv2⟩ := hJ.texts
    have hkk : P.length - 1 - i < P.length := by omega
    obtain ⟨bk, ks, ek, g1, g2, g3⟩ := hk.2 _ hkk
    obtain ⟨r3, N3, k1, k2⟩ := pulls (ps := [(L + 1, on), (tl, listOf tv.toArray ct)]) N₁ (fun p hp => by
      simp only [List.mem_cons, List.not_mem_nil, or_false] at hp
      rcases hp with rfl | rfl
      · exact .tail _ mon
      · exact .tail _ mtv)
    have N3 : News h₀ L h ((L + 1, on) :: (tl, listOf tv.toArray ct) :: r3) := N3
    have kk : ∀ q ∈ (I, o₁) :: rest, q.1 ≠ L + 1 → q.1 ≠ tl → q ∈ r3 := fun q hq a b => k1 q hq fun p hp => by
      simp only [List.mem_cons, List.not_mem_nil, or_false] at hp
      rcases hp with rfl | rfl
      · exact a
      · exact b
    have ks3 : ∀ q ∈ stat, q ∈ r3 := fun q hq => kk q (.tail _ (hJ.stat q hq)) (hst q hq).1 (hst q hq).2
    have hIo : (I, o₁) ∈ r3 := kk _ (.head _) (hne1 _ mon).symm (hne1 _ mtv).symm
    have hkl : (kids P (P.length - 1 - i)).length ≤ 11 := Nat.le_trans (kids_length _) hhi
    refine l_text_turn (s := { s with heap := h, toks := tk }) (K := kids P (P.length - 1 - i)) (Tx := text P) F₁ X' (fun p hp => N3 p (.tail _ (.tail _ hp))) T hFn' N3 hon (fun p hp => (k2 p hp).2 _ (.head _)) (fun p hp => (k2 p hp).2 _ (.tail _ (.head _))) htl hob (ks3 _ mob) (ks3 _ hbl) hot (ks3 _ mot) (ks3 _ g2) g1 g3
      (fun c hc => htv2 c (by have := (mem_kids.mp hc).2.1; omega) (mem_kids.mp hc).1) (fun c hc => Nat.le_trans (len_le Tr (mem_kids.mp hc).1) (by decide)) (by rw [hk.1]; omega) (by rw [g3.1]; omega) (by omega) (by omega) (by omega) hkl (fun hne => by rw [← text_node hne]; exact len_pos _) ?_
    intro h5 tk5 on5 t5 F5 N5 hon5
    have ht : (if kids P (P.length - 1 - i) = [] then leafText (P.length - 1 - i) else Txt.join (Str.ofString "") ((kids P (P.length - 1 - i)).map (text P))) = text P (P.length - 1 - i) := by
      split
      · exact (text_leaf ‹_›).symm
      · exact (text_node ‹_›).symm
    rw [ht] at N5
    refine NxtR.full F5 N5 (.tail _ (.tail _ hIo)) fun rest' u1 u2 => ⟨rfl, ⟨on5, _, u1 _ (.head _) (hne1 (L + 1, on) mon), hon5⟩, ⟨_, ct, u1 _ (.tail _ (.head _)) (hne1 (tl, listOf tv.toArray ct) mtv), by rw [List.length_set]; exact htv1, fun c hc1 hc2 => ?_⟩, fun q hq => u1 q (.tail _ (.tail _ (ks3 q hq))) (hne1 q (hJ.stat q hq))⟩
    by_cases e : c = P.length - 1 - i
    · subst e
      exact ⟨t5, by rw [List.getElem?_set_self (by omega)]⟩
    · rw [List.getElem?_set_ne (fun q => e q.symm)]
      exact htv2 c (by omega) hc2
  · rintro m₁ rest h tk ⟨rfl, hJ⟩ F₁ N₁
    exact hret _ _ _ F₁ N₁ hJ

end
section
variable {q1 q2 q3 q4 q5 q6 q7 q8 q9 q10 q11 q12 q13 q14 q15 q16 q17 q18 : Stmt} {nm ql : Str} {psL : Arguments} {sc : Scope} {cdv cd : Value} {f : Addr}
theorem l_node_head {w : World} {p : Program} {loose : List Str} {mean : ExcName → Option Value} {mg mb : Str → Option Value} {h₀ : Heap} {L : Addr} {m : Str → Option Value} {s : Shared} {news : List (Addr × Obj)}
  {tgt iter tgt2 iter2 : Expr} {a1 a2 a3 a5 : Stmt} {body2 : List Stmt} {fp fp2 : Pos} {bl bk plc kl : Addr} {on ob opl ok : Obj} {bv pv kv : List Value} {cb cp cx k pn : Nat} {t tp : Tok} {xn : Option Value} {kd : Addr} (F : Fr h₀ L s.heap m) (X : (hd.heap_39 w.params).In h₀) (N : News h₀ L s.heap news) (T : Top p loose mean mg mb h₀)
  (hFn : LawK w nm ql psL sc cdv q1 q2 q3 q4 q5 q6 q7 q8 q9 q10 (.For tgt iter [a1, a2, a3, .For tgt2 iter2 body2 [] fp2, a5] [] fp) q12 q13 q14 q15 q16 q17 q18)
  (N1 : News h₀ L s.heap ((L + 1, on) :: news)) (hon : on.data = .cell xn) (hn1 : ∀ p ∈ news, p.1 ≠ L + 1)
  (hob : ob.data = .cell (some (.ref bl))) (mob : (L + 1 + 1, ob) ∈ news) (hbl : (bl, listOf bv.toArray cb) ∈ news) (hok : ok.data = .cell (some (.ref kl))) (mok : (L + 1 + 1 + 1 + 1, ok) ∈ news) (hkl : (kl, listOf kv.toArray cx) ∈ news)
  (hopl : opl.data = .cell (some (.ref plc))) (mopl : (L + 1 + 1 + 1 + 1 + 1 + 1, opl) ∈ news) (hpl : (plc, listOf pv.toArray cp) ∈ news)
  (g1 : bv[k]? = some (.ref bk)) (g2 : kv[k]? = some (.ref kd)) (g3 : pv[k]? = some (.int (pn : Nat) tp)) (l1 : bv.length ≤ 1000) (l2 : kv.length ≤ 1000) (l3 : pv.length ≤ 1000)
  {Q : Value → Shared → Prop}
  (hret : ∀ m' h' tk' on' pcs acs tk1, Fr h₀ L h' m' → News h₀ L h' ((acs, listOf #[.ref kd] 0) :: (pcs, listOf #[.none] 0) :: (L + 1, on') :: news) → on'.data = .cell (some (.int (k : Nat) t)) → (∀ p ∈ (L + 1, on) :: news, p.1 < pcs) → pcs < acs →
    m' (Str.ofString "place") = some (.int (pn : Nat) tk1) → m' (Str.ofString "pieces") = some (.ref pcs) → m' (Str.ofString "actions") = some (.ref acs) → m' (Str.ofString "parents") = m (Str.ofString "parents") → m' (Str.ofString "table") = m (Str.ofString "table") → Q (.ref bk) { s with heap := h', toks := tk' }) :
  wpAny (model PySem.Challenge.rw_ez0274_01.prog w) (AM 850 900) (assign tgt (envOfC ql sc L f cd) (.int (k : Nat) t)) (fun _ s₁ => wpAny (model PySem.Challenge.rw_ez0274_01.prog w) (AM 850 900) (exec a1 (envOfC ql sc L f cd)) (fun f1 s₂ => f1 = .next ∧ wpAny (model PySem.Challenge.rw_ez0274_01.prog w) (AM 850 900) (exec a2 (envOfC ql sc L f cd)) (fun f2 s₃ => f2 = .next ∧ wpAny (model PySem.Challenge.rw_ez0274_01.prog w) (AM 850 900) (exec a3 (envOfC ql sc L f cd)) (fun f3 s₄ => f3 = .next ∧
    wpAny (model PySem.Challenge.rw_ez0274_01.prog w) (AM 850 900) (eval iter2 (envOfC ql sc L f cd)) Q (fun _ _ => False) s₄) (fun _ _ => False) s₃) (fun _ _ => False) s₂) (fun _ _ => False) s₁) (fun _ _ => False) s := by
  clear N
  revert X; k_fill; intro X
  obtain ⟨oc, od, dV, kV, doc, pm, an, ct', osl, hK'⟩ := hFn
  refine key_of (by k_is) hK' (fun e => ?_)
  cases e
  k_steps
  any_goals try k_data
  any_goals (with_reducible try exact trivial)
  exact hret _ _ _ _ _ _ _ (by assumption) (by assumption) (by assumption) (by (repeat (cases ‹_ ∧ _›)); walk_at "my below") (by (repeat (cases ‹_ ∧ _›)); assumption) (by rfl) (by rfl) (by rfl) (by rfl) (by rfl)
theorem l_child_a {w : World} {p : Program} {loose : List Str} {mean : ExcName → Option Value} {mg mb : Str → Option Value} {h₀ : Heap} {L : Addr} {m : Str → Option Value} {s : Shared} {news : List (Addr × Obj)}
  {tgt iter tgt2 iter2 : Expr} {a1 a2 a3 a5 b1 b2 b3 b4 : Stmt} {fp fp2 : Pos} {plc tl pcs : Addr} {opl ot : Obj} {pv tv ps : List Value} {cp ct cq c pn : Nat} {t tp tx : Tok} {x : Str} (F : Fr h₀ L s.heap m) (X : (hd.heap_39 w.params).In h₀) (N : News h₀ L s.heap news) (T : Top p loose mean mg mb h₀)
  (hFn : LawK w nm ql psL sc cdv q1 q2 q3 q4 q5 q6 q7 q8 q9 q10 (.For tgt iter [a1, a2, a3, .For tgt2 iter2 [b1, b2, b3, b4] [] fp2, a5] [] fp) q12 q13 q14 q15 q16 q17 q18)
  (N1 : News h₀ L s.heap ((plc, listOf pv.toArray cp) :: (pcs, listOf ps.toArray cq) :: news)) (hn1 : ∀ p ∈ news, p.1 ≠ plc) (hn2 : ∀ p ∈ news, p.1 ≠ pcs) (hn3 : plc ≠ pcs)
  (hopl : opl.data = .cell (some (.ref plc))) (mopl : (L + 1 + 1 + 1 + 1 + 1 + 1, opl) ∈ news) (hot : ot.data = .cell (some (.ref tl))) (mot : (L + 1 + 1 + 1 + 1 + 1, ot) ∈ news) (htl : (tl, listOf tv.toArray ct) ∈ news)
  (m1 : m (Str.ofString "place") = some (.int (pn : Nat) tp)) (m2 : m (Str.ofString "pieces") = some (.ref pcs))
  (g1 : tv[c]? = some (.str x tx)) (l0 : x.length ≤ 1000) (l1 : pv.length ≤ 1000) (l2 : tv.length ≤ 1000) (l3 : ps.length ≤ 1000) (l4 : c < pv.length) (l5 : pn ≤ 1000)
  {Q : Flow → Shared → Prop}
  (hret : ∀ m' h' tk' cq' tk1, Fr h₀ L h' m' → News h₀ L h' ((plc, listOf (pv.set c (.int (pn : Nat) tp)).toArray cp) :: (pcs, listOf (ps.toArray.push (.str x tx)) cq') :: news) →
    m' (Str.ofString "place") = some (.int ((pn : Nat) + (x.length : Nat) : Int) tk1) → m' (Str.ofString "child") = some (.int (c : Nat) t) → m' (Str.ofString "pieces") = some (.ref pcs) → m' (Str.ofString "actions") = m (Str.ofString "actions") → m' (Str.ofString "parents") = m (Str.ofString "parents") → m' (Str.ofString "table") = m (Str.ofString "table") → Q .next { s with heap := h', toks := tk' }) :
  wpAny (model PySem.Challenge.rw_ez0274_01.prog w) (AM 850 900) (assign tgt2 (envOfC ql sc L f cd) (.int (c : Nat) t)) (fun _ s₁ => wpAny (model PySem.Challenge.rw_ez0274_01.prog w) (AM 850 900) (exec b1 (envOfC ql sc L f cd)) (fun f1 s₂ => f1 = .next ∧ wpAny (model PySem.Challenge.rw_ez0274_01.prog w) (AM 850 900) (exec b2 (envOfC ql sc L f cd)) (fun f2 s₃ => f2 = .next ∧ wpAny (model PySem.Challenge.rw_ez0274_01.prog w) (AM 850 900) (exec b3 (envOfC ql sc L f cd)) Q (fun _ _ => False) s₃) (fun _ _ => False) s₂) (fun _ _ => False) s₁) (fun _ _ => False) s := by
  clear N
  revert X; k_fill; intro X
  obtain ⟨oc, od, dV, kV, doc, pm, an, ct', osl, hK'⟩ := hFn
  refine key_of (by k_is) hK' (fun e => ?_)
  cases e
  k_steps
  any_goals try k_data
  any_goals (with_reducible try exact trivial)
  exact hret _ _ _ _ _ (by assumption) (by assumption) (by rfl) (by rfl) (by exact m2) (by rfl) (by rfl) (by rfl)

end
section
local macro_rules | `(tactic| walk_at "call type:str") => `(tactic| (k_here; (with_reducible show wpAny _ _ (call (Value.type "str") [Value.int _ _]) _ _ _); k_dflt (refine strNat (by assumption) ?_); intro hl'; (try dsimp only)))
local macro_rules | `(tactic| walk_at "call ref") => `(tactic| (k_here; k_dflt (show wpAny _ _ (call (Value.ref 435) _ _) _ _ _); refine stop_of ?_))
variable {q1 q2 q3 q4 q5 q6 q7 q8 q9 q10 q11 q12 q13 q14 q15 q16 q17 q18 : Stmt} {nm ql : Str} {psL : Arguments} {sc : Scope} {cdv cd : Value} {f : Addr}
theorem l_child_leaf {w : World} {p : Program} {loose : List Str} {mean : ExcName → Option Value} {mg mb : Str → Option Value} {h₀ : Heap} {L : Addr} {m : Str → Option Value} {s : Shared} {news : List (Addr × Obj)}
  {tgt iter tgt2 iter2 : Expr} {a1 a2 a3 a5 b1 b2 b3 b4 : Stmt} {fp fp2 : Pos} {bl bk acs kl kd : Addr} {ob ok : Obj} {bv kv av : List Value} {cb ck cx ca c : Nat} {t : Tok} (F : Fr h₀ L s.heap m) (X : (hd.heap_39 w.params).In h₀) (N : News h₀ L s.heap news) (T : Top p loose mean mg mb h₀)
  (hFn : LawK w nm ql psL sc cdv q1 q2 q3 q4 q5 q6 q7 q8 q9 q10 (.For tgt iter [a1, a2, a3, .For tgt2 iter2 [b1, b2, b3, b4] [] fp2, a5] [] fp) q12 q13 q14 q15 q16 q17 q18)
  (N1 : News h₀ L s.heap ((acs, listOf av.toArray ca) :: news)) (hn1 : ∀ p ∈ news, p.1 ≠ acs)
  (hob : ob.data = .cell (some (.ref bl))) (mob : (L + 1 + 1, ob) ∈ news) (hbl : (bl, listOf bv.toArray cb) ∈ news) (hok : ok.data = .cell (some (.ref kl))) (mok : (L + 1 + 1 + 1 + 1, ok) ∈ news) (hkl : (kl, listOf kv.toArray cx) ∈ news)
  (m1 : m (Str.ofString "child") = some (.int (c : Nat) t)) (m2 : m (Str.ofString "actions") = some (.ref acs))
  (g1 : bv[c]? = some (.ref bk)) (hbk : (bk, listOf #[] ck) ∈ news) (g2 : kv[c]? = some (.ref kd)) (l1 : bv.length ≤ 1000) (l2 : kv.length ≤ 1000) (l3 : av.length ≤ 1000)
  {Q : Flow → Shared → Prop}
  (hret : ∀ h' tk' ca' v, Fr h₀ L h' m → News h₀ L h' ((acs, listOf (av.toArray.push v) ca') :: news) → (c = 3 → v = .none) → (c ≠ 3 → v = .ref kd) → Q .next { s with heap := h', toks := tk' }) :
  wpAny (model PySem.Challenge.rw_ez0274_01.prog w) (AM 850 900) (exec b4 (envOfC ql sc L f cd)) Q (fun _ _ => False) s := by
  clear N
  revert X; k_fill; intro X
  obtain ⟨oc, od, dV, kV, doc, pm, an, ct', osl, hK'⟩ := hFn
  refine key_of (by k_is) hK' (fun e => ?_)
  cases e
  k_steps
  any_goals try k_data
  any_goals (with_reducible try exact trivial)
  · exact hret _ _ _ _ (by assumption) (by assumption) (fun _ => rfl) (fun h => absurd (by omega) h)
  · exact hret _ _ _ _ (by assumption) (by assumption) (fun h => absurd h (by omega)) (fun _ => rfl)
theorem l_child_use {w : World} {p : Program} {loose : List Str} {mean : ExcName → Option Value} {mg mb : Str → Option Value} {h₀ : Heap} {L : Addr} {m : Str → Option Value} {s : Shared} {news : List (Addr × Obj)}
  {tgt iter tgt2 iter2 : Expr} {a1 a2 a3 a5 b1 b2 b3 b4 : Stmt} {fp fp2 : Pos} {bl bk acs : Addr} {ob : Obj} {bv kc av : List Value} {cb ck ca c : Nat} {t : Tok} {tab : Array Value} {src : List (Addr × Obj)} (F : Fr h₀ L s.heap m) (X : (hd.heap_39 w.params).In h₀) (N : News h₀ L s.heap news) (T : Top p loose mean mg mb h₀)
  (hFn : LawK w nm ql psL sc cdv q1 q2 q3 q4 q5 q6 q7 q8 q9 q10 (.For tgt iter [a1, a2, a3, .For tgt2 iter2 [b1, b2, b3, b4] [] fp2, a5] [] fp) q12 q13 q14 q15 q16 q17 q18)
  (C : CodeHd h₀ 434 430) (hsrc : ∀ p ∈ src, p ∈ news) (htab : TabOk src usQual 272 8 tab)
  (N1 : News h₀ L s.heap ((430, tabObj tab) :: (acs, listOf av.toArray ca) :: news)) (hn1 : ∀ p ∈ news, p.1 ≠ acs) (hn2 : ∀ p ∈ news, p.1 ≠ 430) (hn3 : acs ≠ 430)
  (hob : ob.data = .cell (some (.ref bl))) (mob : (L + 1 + 1, ob) ∈ news) (hbl : (bl, listOf bv.toArray cb) ∈ news)
  (m1 : m (Str.ofString "child") = some (.int (c : Nat) t)) (m2 : m (Str.ofString "actions") = some (.ref acs))
  (g1 : bv[c]? = some (.ref bk)) (hbk : (bk, listOf kc.toArray ck) ∈ news) (hkc : kc ≠ []) (l1 : bv.length ≤ 1000) (l2 : kc.length ≤ 1000) (l3 : av.length ≤ 1000) (l6 : c ≤ 10)
  {Q : Flow → Shared → Prop}
  (hret : ∀ h' tk' ca' g tl tab', Fr h₀ L h' m → News h₀ L h' ((acs, listOf (av.toArray.push (.ref g)) ca') :: (430, tabObj tab') :: (tl ++ news)) → TabOk (tl ++ src) usQual 272 8 tab' → (∀ p ∈ tl, p.1 ≠ acs) → (∀ p ∈ tl, p.1 ≠ 430) → Above tl news → UsIn PySem.Challenge.rw_ez0274_01.prog w (hd.heap_39 w.params) tl (tl ++ src) g (Str.ofString "n" ++ decOf c) → Q .next { s with heap := h', toks := tk' }) :
  wpAny (model PySem.Challenge.rw_ez0274_01.prog w) (AM 850 900) (exec b4 (envOfC ql sc L f cd)) Q (fun _ _ => False) s := by
  clear N
  have X' := X
  revert X; k_fill; intro X
  obtain ⟨oc, od, dV, kV, doc, pm, an, ct', osl, hK'⟩ := hFn
  refine key_of (by k_is) hK' (fun e => ?_)
  cases e
  k_steps
  any_goals try k_data
  any_goals (with_reducible try exact trivial)
  unfold Stop
  rename Fr _ _ _ _ => F2
  rename News _ _ _ _ => N2
  refine wpAny_lift ⟨rfl, Nat.le_of_ble_eq_true rfl, Nat.le_of_ble_eq_true rfl⟩ (d := 900) (u := 1000) (wpAny_call (c_using F2 X' (fun p hp => N2 p (.tail _ hp)) T C ?_ (fun p hp => .tail _ (hsrc p hp)) htab N2 ?_))
  · intro p hp
    rcases List.mem_cons.mp hp with rfl | hp
    · exact hn3
    · exact hn2 p hp
  intro r tl h9 tk9 ps9 F9 N9 A9 ht9 hu9
  have N10 := News.sub N9 (l' := (acs, listOf av.toArray ca) :: (430, tabObj ps9) :: (tl ++ news)) (fun p hp => by
    simp only [List.mem_cons, List.mem_append] at hp ⊢
    rcases hp with hp | hp | hp | hp <;> simp only [hp, true_or, or_true])
  have e1 : ∀ p ∈ tl, p.1 ≠ acs := fun p hp => Nat.ne_of_gt (A9 p hp _ (.tail _ (.head _)))
  have e2 : ∀ p ∈ tl, p.1 ≠ 430 := fun p hp => Nat.ne_of_gt (A9 p hp _ (.head _))
  have e3 : ∀ p ∈ tl ++ news, p.1 ≠ acs := fun p hp => (List.mem_append.mp hp).elim (e1 p) (hn1 p)
  clear N9 F2 N2
  k_steps
  exact hret _ _ _ r tl ps9 (by assumption) (by assumption) ht9 e1 e2 (fun p hp q hq => A9 p hp q (.tail _ (.tail _ hq))) hu9

end
section
local macro_rules | `(tactic| walk_at "call type:str") => `(tactic| (k_here; (with_reducible show wpAny _ _ (call (Value.type "str") [Value.int _ _]) _ _ _); k_dflt (refine strNat (by assumption) ?_); intro hl'; (try dsimp only)))
local macro_rules | `(tactic| walk_at "call ref") => `(tactic| (k_here; k_dflt (show wpAny _ _ (call (Value.ref 412) _ _) _ _ _); refine stop_of ?_))
variable {q1 q2 q3 q4 q5 q6 q7 q8 q9 q10 q11 q12 q13 q14 q15 q16 q17 q18 : Stmt} {nm ql : Str} {psL : Arguments} {sc : Scope} {cdv cd : Value} {f : Addr}
theorem l_node_leaf {w : World} {p : Program} {loose : List Str} {mean : ExcName → Option Value} {mg mb : Str → Option Value} {h₀ : Heap} {L : Addr} {m : Str → Option Value} {s : Shared} {news : List (Addr × Obj)}
  {tgt iter tgt2 iter2 : Expr} {a1 a2 a3 a5 : Stmt} {body2 : List Stmt} {fp fp2 : Pos} {bl bk : Addr} {on ob : Obj} {bv : List Value} {cb ck k : Nat} {t : Tok} (F : Fr h₀ L s.heap m) (X : (hd.heap_39 w.params).In h₀) (N : News h₀ L s.heap news) (T : Top p loose mean mg mb h₀)
  (hFn : LawK w nm ql psL sc cdv q1 q2 q3 q4 q5 q6 q7 q8 q9 q10 (.For tgt iter [a1, a2, a3, .For tgt2 iter2 body2 [] fp2, a5] [] fp) q12 q13 q14 q15 q16 q17 q18)
  (hon : on.data = .cell (some (.int (k : Nat) t))) (mon : (L + 1, on) ∈ news) (hob : ob.data = .cell (some (.ref bl))) (mob : (L + 1 + 1, ob) ∈ news) (hbl : (bl, listOf bv.toArray cb) ∈ news)
  (g1 : bv[k]? = some (.ref bk)) (hbk : (bk, listOf #[] ck) ∈ news) (l1 : bv.length ≤ 1000)
  {Q : Flow → Shared → Prop}
  (hret : ∀ h' tk', Fr h₀ L h' m → News h₀ L h' news → Q .next { s with heap := h', toks := tk' }) :
  wpAny (model PySem.Challenge.rw_ez0274_01.prog w) (AM 850 900) (exec a5 (envOfC ql sc L f cd)) Q (fun _ _ => False) s := by
  revert X; k_fill; intro X
  obtain ⟨oc, od, dV, kV, doc, pm, an, ct', osl, hK'⟩ := hFn
  refine key_of (by k_is) hK' (fun e => ?_)
  cases e
  k_steps
  any_goals try k_data
  any_goals (with_reducible try exact trivial)
  exact hret _ _ F N
section
variable {h₀ h : Heap} {L x d l tb : Addr} {ox od ol otb a a' : Obj} {tl news : List (Addr × Obj)}
theorem row_prep (N : News h₀ L h ((x, ox) :: (d, od) :: (l, ol) :: (407, a) :: (tb, otb) :: news)) : News h₀ L h ((407, a) :: (x, ox) :: (d, od) :: (l, ol) :: (tb, otb) :: news) :=
  News.sub N fun p hp => by
    simp only [List.mem_cons] at hp ⊢
    rcases hp with hp | hp | hp | hp | hp | hp <;> simp only [hp, true_or, or_true]
theorem row_ne1 (_ : News h₀ L h ((x, ox) :: (d, od) :: (l, ol) :: (407, a) :: (tb, otb) :: news)) (h1 : (407 : Addr) < l) (h2 : (407 : Addr) < d) (h3 : d < x) (h4 : tb ≠ 407) (h5 : ∀ p ∈ news, p.1 ≠ 407) : ∀ p ∈ (x, ox) :: (d, od) :: (l, ol) :: (tb, otb) :: news, p.1 ≠ 407 := by
  intro p hp
  rcases List.mem_cons.mp hp with rfl | hp
  · exact Nat.ne_of_gt (Nat.lt_trans h2 h3)
  · rcases List.mem_cons.mp hp with rfl | hp
    · exact Nat.ne_of_gt h2
    · rcases List.mem_cons.mp hp with rfl | hp
      · exact Nat.ne_of_gt h1
      · rcases List.mem_cons.mp hp with rfl | hp
        · exact h4
        · exact h5 p hp
theorem row_after (N : News h₀ L h (tl ++ (407, a') :: (x, ox) :: (d, od) :: (l, ol) :: (tb, otb) :: news)) : News h₀ L h ((tb, otb) :: (407, a') :: (tl ++ (x, ox) :: (d, od) :: (l, ol) :: news)) :=
  News.sub N fun p hp => by
    simp only [List.mem_cons, List.mem_append] at hp ⊢
    rcases hp with hp | hp | hp | hp | hp | hp | hp <;> simp only [hp, true_or, or_true]
theorem row_ne2 (_ : News h₀ L h ((tb, otb) :: (407, a') :: (tl ++ (x, ox) :: (d, od) :: (l, ol) :: news))) (A : Above tl ((407, a) :: (x, ox) :: (d, od) :: (l, ol) :: (tb, otb) :: news)) (hn1 : ∀ p ∈ news, p.1 ≠ tb) (hn3 : tb ≠ 407) (h1 : tb < l) (h2 : tb < d) (h3 : d < x) :
    ∀ p ∈ (407, a') :: (tl ++ (x, ox) :: (d, od) :: (l, ol) :: news), p.1 ≠ tb := by
  intro p hp
  rcases List.mem_cons.mp hp with rfl | hp
  · exact hn3.symm
  · rcases List.mem_append.mp hp with hp | hp
    · exact Nat.ne_of_gt (A p hp _ (.tail _ (.tail _ (.tail _ (.tail _ (.head _))))))
    · rcases List.mem_cons.mp hp with rfl | hp
      · exact Nat.ne_of_gt (Nat.lt_trans h2 h3)
      · rcases List.mem_cons.mp hp with rfl | hp
        · exact Nat.ne_of_gt h2
        · rcases List.mem_cons.mp hp with rfl | hp
          · exact Nat.ne_of_gt h1
          · exact hn1 p hp
end
def RowOut (K : Frag) (h₀ : Heap) (L tb pcs : Addr) (tab : Array Value) (otb : Obj) (av : List Value) (news src : List (Addr × Obj)) (h' : Heap) (otb' : Obj) (lst : Addr) : Prop :=
  ∃ tab' tl tr a b d r h1 t1 e, News h₀ L h' ((tb, otb') :: (407, tabObj tab') :: (tl ++ news)) ∧ TabOk (tl ++ src) bgQual 240 4 tab' ∧ Above tl ((407, tabObj tab) :: (tb, otb) :: news) ∧ (lst, listOf #[.ref tr] e) ∈ tl ∧ (tr, tupO [.ref a, .ref b]) ∈ tl ∧ (a, instObj 657 d) ∈ tl ∧
    (d, dictOf [⟨h1, .str (Str.ofString "rows") t1, .ref r⟩] 1) ∈ tl ∧ (r, listOf #[.ref pcs] 0) ∈ tl ∧ BgIn K tl (tl ++ src) b av
theorem row_end {K : Frag} {h₀ h : Heap} {L x d l tb pcs l2 tr b : Addr} {otb otb' : Obj} {tab tab' : Array Value} {av : List Value} {h1 : Int} {t1 : Tok} {e : Nat} {tl news src : List (Addr × Obj)}
    (N : News h₀ L h ((l2, listOf #[.ref tr] e) :: (tr, tupO [.ref x, .ref b]) :: (tb, otb') :: (407, tabObj tab') :: (tl ++ (x, instObj 657 d) :: (d, dictOf [⟨h1, .str (Str.ofString "rows") t1, .ref l⟩] 1) :: (l, listOf #[.ref pcs] 0) :: news)))
    (A : Above tl ((407, tabObj tab) :: (x, instObj 657 d) :: (d, dictOf [⟨h1, .str (Str.ofString "rows") t1, .ref l⟩] 1) :: (l, listOf #[.ref pcs] 0) :: (tb, otb) :: news))
    (ht : TabOk (tl ++ src) bgQual 240 4 tab') (hb : BgIn K tl (tl ++ src) b av)
    (g1 : (407 : Addr) < l ∧ tb < l ∧ AllLt l news) (g2 : (407 : Addr) < d ∧ tb < d ∧ AllLt d news) (g3 : d < x) (g4 : tb < tr ∧ (407 : Addr) < tr ∧ AllLt tr (tl ++ (x, instObj 657 d) :: (d, dictOf [⟨h1, .str (Str.ofString "rows") t1, .ref l⟩] 1) :: (l, listOf #[.ref pcs] 0) :: news))
    (g5 : tr < l2 ∧ tb < l2 ∧ (407 : Addr) < l2 ∧ AllLt l2 (tl ++ (x, instObj 657 d) :: (d, dictOf [⟨h1, .str (Str.ofString "rows") t1, .ref l⟩] 1) :: (l, listOf #[.ref pcs] 0) :: news)):
    RowOut K h₀ L tb pcs tab otb av news src h otb' l2 := by
  have w : ∀ p ∈ tl, p ∈ (l2, listOf #[.ref tr] e) :: (tr, tupO [.ref x, .ref b]) :: (tl ++ [(x, instObj 657 d), (d, dictOf [⟨h1, .str (Str.ofString "rows") t1, .ref l⟩] 1), (l, listOf #[.ref pcs] 0)]) := fun p hp => .tail _ (.tail _ (List.mem_append_left _ hp))
  have drop : ∀ p ∈ tl ++ src, p ∈ ((l2, listOf #[.ref tr] e) :: (tr, tupO [.ref x, .ref b]) :: (tl ++ [(x, instObj 657 d), (d, dictOf [⟨h1, .str (Str.ofString "rows") t1, .ref l⟩] 1), (l, listOf #[.ref pcs] 0)])) ++ src := fun p hp => by
    rcases List.mem_append.mp hp with hp | hp
    · exact List.mem_append_left _ (w p hp)
    · exact List.mem_append_right _ hp
  refine ⟨tab', (l2, listOf #[.ref tr] e) :: (tr, tupO [.ref x, .ref b]) :: (tl ++ [(x, instObj 657 d), (d, dictOf [⟨h1, .str (Str.ofString "rows") t1, .ref l⟩] 1), (l, listOf #[.ref pcs] 0)]), tr, x, b, d, l, h1, t1, e, ?_, ?_, ?_, .head _, .tail _ (.head _), .tail _ (.tail _ (List.mem_append_right _ (.head _))), .tail _ (.tail _ (List.mem_append_right _ (.tail _ (.head _)))), .tail _ (.tail _ (List.mem_append_right _ (.tail _ (.tail _ (.head _))))), ?_⟩
  · refine News.sub N fun p hp => ?_
    simp only [List.mem_cons, List.mem_append, List.cons_append, List.append_assoc, List.nil_append] at hp ⊢
    rcases hp with hp | hp | hp | hp | hp | hp | hp | hp | hp <;> simp only [hp, true_or, or_true]
  · exact ht.mono drop
  · intro p hp q hq
    have up : ∀ {y : Addr}, (407 : Addr) < y → tb < y → (∀ r ∈ news, r.1 < y) → q.1 < y := fun h1 h2 h3 => by
      rcases List.mem_cons.mp hq with rfl | hq
      · exact h1
      · rcases List.mem_cons.mp hq with rfl | hq
        · exact h2
        · exact h3 q hq
    have tn : ∀ {y : Addr}, AllLt y (tl ++ (x, instObj 657 d) :: (d, dictOf [⟨h1, .str (Str.ofString "rows") t1, .ref l⟩] 1) :: (l, listOf #[.ref pcs] 0) :: news) → ∀ r ∈ news, r.1 < y := fun h r hr => allLt_all h r (List.mem_append_right _ (.tail _ (.tail _ (.tail _ hr))))
    rcases List.mem_cons.mp hp with rfl | hp
    · exact up g5.2.2.1 g5.2.1 (tn g5.2.2.2)
    · rcases List.mem_cons.mp hp with rfl | hp
      · exact up g4.2.1 g4.1 (tn g4.2.2)
      · rcases List.mem_append.mp hp with hp | hp
        · refine A p hp q ?_
          simp only [List.mem_cons] at hq ⊢
          rcases hq with hq | hq | hq <;> simp only [hq, true_or, or_true]
        · simp only [List.mem_cons, List.not_mem_nil, or_false] at hp
          rcases hp with rfl | rfl | rfl
          · exact up (Nat.lt_trans g2.1 g3) (Nat.lt_trans g2.2.1 g3) fun r hr => Nat.lt_trans (allLt_all g2.2.2 r hr) g3
          · exact up g2.1 g2.2.1 (allLt_all g2.2.2)
          · exact up g1.1 g1.2.1 (allLt_all g1.2.2)
  · exact hb.mono w drop
theorem l_node_row {w : World} {p : Program} {loose : List Str} {mean : ExcName → Option Value} {mg mb : Str → Option Value} {h₀ : Heap} {L : Addr} {m : Str → Option Value} {s : Shared} {news : List (Addr × Obj)}
  {tgt iter tgt2 iter2 : Expr} {a1 a2 a3 a5 : Stmt} {body2 : List Stmt} {fp fp2 : Pos} {bl bk pcs acs tb : Addr} {on ob otb : Obj} {bv kc ps av : List Value} {cb ck cp ca k : Nat} {t : Tok} {tab : Array Value} {kvs : List (Str × Value)} {src : List (Addr × Obj)} (F : Fr h₀ L s.heap m) (X : (hd.heap_39 w.params).In h₀) (N : News h₀ L s.heap news) (T : Top p loose mean mg mb h₀)
  (hFn : LawK w nm ql psL sc cdv q1 q2 q3 q4 q5 q6 q7 q8 q9 q10 (.For tgt iter [a1, a2, a3, .For tgt2 iter2 body2 [] fp2, a5] [] fp) q12 q13 q14 q15 q16 q17 q18)
  (C : CodeHd h₀ 411 407) (hsrc : ∀ p ∈ src, p ∈ news) (htab : TabOk src bgQual 240 4 tab)
  (N1 : News h₀ L s.heap ((407, tabObj tab) :: (tb, otb) :: news)) (hn1 : ∀ p ∈ news, p.1 ≠ tb) (hn2 : ∀ p ∈ news, p.1 ≠ 407) (hn3 : tb ≠ 407)
  (hdt : otb.IsDictOf (strKind PySem.Challenge.rw_ez0274_01.prog w) kvs) (hkl : kvs.length ≤ 1000) (hts : (tb == sysModules) = false)
  (hon : on.data = .cell (some (.int (k : Nat) t))) (mon : (L + 1, on) ∈ news) (hob : ob.data = .cell (some (.ref bl))) (mob : (L + 1 + 1, ob) ∈ news) (hbl : (bl, listOf bv.toArray cb) ∈ news)
  (g1 : bv[k]? = some (.ref bk)) (hbk : (bk, listOf kc.toArray ck) ∈ news) (hkc : kc ≠ []) (l1 : bv.length ≤ 1000) (l2 : kc.length ≤ 1000) (l6 : k ≤ 10)
  (m1 : m (Str.ofString "pieces") = some (.ref pcs)) (m2 : m (Str.ofString "actions") = some (.ref acs)) (m3 : m (Str.ofString "table") = some (.ref tb))
  (hps : (pcs, listOf ps.toArray cp) ∈ news) (hav : (acs, listOf av.toArray ca) ∈ news) (l3 : av.length ≤ 100) (hav0 : av ≠ [])
  {Q : Flow → Shared → Prop}
  (hret : ∀ h' tk' otb' lst, Fr h₀ L h' m → RowOut (hd.heap_39 w.params) h₀ L tb pcs tab otb av news src h' otb' lst → otb'.IsDictOf (strKind PySem.Challenge.rw_ez0274_01.prog w) (stored kvs (stName k) (.ref lst)) → Q .next { s with heap := h', toks := tk' }) :
  wpAny (model PySem.Challenge.rw_ez0274_01.prog w) (AM 850 900) (exec a5 (envOfC ql sc L f cd)) Q (fun _ _ => False) s := by
  clear N
  have X' := X
  revert X; k_fill; intro X
  obtain ⟨oc, od, dV, kV, doc, pm, an, ct', osl, hK'⟩ := hFn
  refine key_of (by k_is) hK' (fun e => ?_)
  cases e
  k_steps
  any_goals try k_data
  any_goals (with_reducible try exact trivial)
  unfold Stop
  rename Fr _ _ _ _ => F2
  rename News _ _ _ _ => N2
  rename _ < (_ : Addr) => q0
  cases av with
  | nil => exact absurd rfl hav0
  | cons v0 vs0 =>
  refine wpAny_lift ⟨rfl, Nat.le_of_ble_eq_true rfl, Nat.le_of_ble_eq_true rfl⟩ (d := 900) (u := 1000) (c_bygroups F2 X' (fun p hp => row_prep N2 p (.tail _ hp)) T C (row_ne1 N2 (by assumption) (by assumption) (by assumption) hn3 hn2) (by omega) (fun p hp => .tail _ (.tail _ (.tail _ (.tail _ (hsrc p hp))))) htab (row_prep N2) ?_)
  intro r tl h9 tk9 ps9 F9 N9 A9 ht9 hb9
  have N10 := row_after N9
  have e4 := row_ne2 N10 A9 hn1 hn3 q0 (by assumption) (by assumption)
  clear N9 F2 N2
  by_cases hk0 : k = 0
  · subst hk0
    k_steps
    any_goals try k_data
    rename Obj.IsDictOf _ _ (stored _ _ _) => hd'
    refine hret _ _ _ _ (by assumption) (row_end (by assumption) A9 ht9 hb9 ⟨by assumption, by assumption, by assumption⟩ ⟨by assumption, by assumption, by assumption⟩ (by assumption) (by assumption) (by assumption)) hd'
  · have hk1 : 1 ≤ k := by omega
    k_steps
    any_goals try k_data
    all_goals first | (exfalso; omega) | skip
    rename Obj.IsDictOf _ _ (stored _ _ _) => hd'
    refine hret _ _ _ _ (by assumption) (row_end (by assumption) A9 ht9 hb9 ⟨by assumption, by assumption, by assumption⟩ ⟨by assumption, by assumption, by assumption⟩ (by assumption) (by assumption) (by assumption)) (by rw [show stName k = _ from if_neg hk0]; exact hd')

end
section
variable {q1 q2 q3 q4 q5 q6 q7 q8 q9 q10 q11 q12 q13 q14 q15 q16 q17 q18 : Stmt} {nm ql : Str} {psL : Arguments} {sc : Scope} {cdv cd : Value} {f : Addr}
structure Stat (w : World) (L : Addr) (P : List Nat) (Kd : Nat → Addr) (stat : List (Addr × Obj)) (plc : Addr) : Prop where
  kids : ∃ ob bl bv cb, ob.data = .cell (some (.ref bl)) ∧ (L + 1 + 1, ob) ∈ stat ∧ (bl, listOf (List.toArray bv) cb) ∈ stat ∧ KidsIn stat bv P
  kinds : ∃ ok kl kv cx, ok.data = .cell (some (.ref kl)) ∧ (L + 1 + 1 + 1 + 1, ok) ∈ stat ∧ (kl, listOf (List.toArray kv) cx) ∈ stat ∧ kv.length = P.length ∧ (∀ i, i < P.length → kv[i]? = some (.ref (Kd i))) ∧ KindsAre stat Kd P
  texts : ∃ ot tl tv ct, ot.data = .cell (some (.ref tl)) ∧ (L + 1 + 1 + 1 + 1 + 1, ot) ∈ stat ∧ (tl, listOf (List.toArray tv) ct) ∈ stat ∧ tv.length = P.length ∧ ∀ i, i < P.length → ∃ t, tv[i]? = some (.str (text P i) t)
  places : ∃ opl, opl.data = .cell (some (.ref plc)) ∧ (L + 1 + 1 + 1 + 1 + 1 + 1, opl) ∈ stat
theorem Stat.mono {w : World} {L plc : Addr} {P : List Nat} {Kd : Nat → Addr} {stat stat' : List (Addr × Obj)} (h : Stat w L P Kd stat plc) (hs : ∀ q ∈ stat, q ∈ stat') : Stat w L P Kd stat' plc where
  kids := by
    obtain ⟨ob, bl, bv, cb, a, b, c, d⟩ := h.kids
    exact ⟨ob, bl, bv, cb, a, hs _ b, hs _ c, d.mono hs⟩
  kinds := by
    obtain ⟨ok, kl, kv, cx, a, b, c, d, e, g⟩ := h.kinds
    exact ⟨ok, kl, kv, cx, a, hs _ b, hs _ c, d, e, g.mono hs⟩
  texts := by
    obtain ⟨ot, tl, tv, ct, a, b, c, d⟩ := h.texts
    exact ⟨ot, tl, tv, ct, a, hs _ b, hs _ c, d⟩
  places := by
    obtain ⟨opl, a, b⟩ := h.places
    exact ⟨opl, a, hs _ b⟩
def PlacesTo (P : List Nat) (pv : List Value) (k i : Nat) : Prop := pv.length = P.length ∧ ∀ c, c < P.length → (c = 0 ∨ par P c < k ∨ ∃ j, j < i ∧ (kids P k)[j]? = some c) → ∃ t, pv[c]? = some (.int (place P c : Nat) t)
structure ChildSt (w : World) (L plc pcs acs pa : Addr) (tbv : Option Value) (keep stat : List (Addr × Obj)) (bad : List Addr) (P : List Nat) (Kd : Nat → Addr) (k i : Nat) (m : Str → Option Value) (full : List (Addr × Obj)) : Prop where
  place : ∃ t, m (Str.ofString "place") = some (.int ((place P k + (((kids P k).take i).map (len P)).sum : Nat) : Int) t)
  mp : m (Str.ofString "pieces") = some (.ref pcs)
  ma : m (Str.ofString "actions") = some (.ref acs)
  mpar : m (Str.ofString "parents") = some (.ref pa)
  mtab : m (Str.ofString "table") = tbv
  places : ∃ pv c, (plc, listOf (List.toArray pv) c) ∈ full ∧ PlacesTo P pv k i
  pieces : ∃ tks c, List.length tks = i ∧ (pcs, listOf (List.toArray (piecesOf (none :: ((kids P k).take i).zipWith (fun c t => some (text P c, t)) tks))) c) ∈ full
  acts : ∃ made tab acts ca, (∀ q ∈ stat, q ∈ made) ∧ (∀ q ∈ made, q ∈ full ∧ q.1 ∉ bad) ∧ (430, tabObj tab) ∈ full ∧ TabOk made usQual 272 8 tab ∧ (acs, listOf (List.toArray (.ref (Kd k) :: acts)) ca) ∈ full ∧ acts.length = i ∧
    ∀ (j c : Nat) (v : Value), (kids P k)[j]? = some c → acts[j]? = some v → ActIn PySem.Challenge.rw_ez0274_01.prog w (hd.heap_39 w.params) made P Kd c v
  keep : ∀ q ∈ keep, q ∈ full
theorem PlacesTo.step {P : List Nat} {pv : List Value} {k i c : Nat} {t : Tok} (h : PlacesTo P pv k i) (hc : (kids P k)[i]? = some c) (hcl : c < P.length) : PlacesTo P (pv.set c (.int (place P c : Nat) t)) k (i + 1) := by
  refine ⟨by rw [List.length_set]; exact h.1, fun d hd hh => ?_⟩
  by_cases e : d = c
  · subst e
    exact ⟨t, by rw [List.getElem?_set_self (by rw [h.1]; exact hd)]⟩
  · rw [List.getElem?_set_ne (fun q => e q.symm)]
    refine h.2 d hd ?_
    rcases hh with hh | hh | ⟨j, hj, hjd⟩
    · exact .inl hh
    · exact .inr (.inl hh)
    · by_cases hji : j = i
      · subst hji; rw [hc] at hjd; cases hjd; exact absurd rfl e
      · exact .inr (.inr ⟨j, by omega, hjd⟩)
theorem take_succ_zip {P : List Nat} {ks : List Nat} {i c : Nat} {tks : List Tok} {t : Tok} (h : ks[i]? = some c) (hl : tks.length = i) :
    (ks.take (i + 1)).zipWith (fun c t => some (text P c, t)) (tks ++ [t]) = (ks.take i).zipWith (fun c t => some (text P c, t)) tks ++ [some (text P c, t)] := by
  have hi := (List.getElem?_eq_some_iff.mp h).1
  rw [take_succ_get h, List.zipWith_append (by rw [List.length_take]; omega)]
  rfl
theorem text_small {P : List Nat} (Tr : Tree P) {c : Nat} (hc : c < P.length) : place P c ≤ 33 := by
  have := (anc_in (anc_root Tr c hc) hc).2
  rw [place_zero] at this
  have := len_le Tr (j := 0) (by have := Tr.lo; omega)
  omega
theorem l_child_turn {w : World} {p : Program} {loose : List Str} {mean : ExcName → Option Value} {mg mb : Str → Option Value} {h₀ : Heap} {L : Addr} {m : Str → Option Value} {s : Shared} {news : List (Addr × Obj)}
  {tgt iter tgt2 iter2 : Expr} {a1 a2 a3 a5 b1 b2 b3 b4 : Stmt} {fp fp2 : Pos} {plc pcs acs pa I : Addr} {o₁ : Obj} {tbv : Option Value} {keep stat : List (Addr × Obj)} {bad : List Addr} {P : List Nat} {Kd : Nat → Addr} {k i c : Nat} {t : Tok} {rest : List (Addr × Obj)}
  (F : Fr h₀ L s.heap m) (X : (hd.heap_39 w.params).In h₀) (N : News h₀ L s.heap ((I, o₁) :: rest)) (T : Top p loose mean mg mb h₀)
  (hFn : LawK w nm ql psL sc cdv q1 q2 q3 q4 q5 q6 q7 q8 q9 q10 (.For tgt iter [a1, a2, a3, .For tgt2 iter2 [b1, b2, b3, b4] [] fp2, a5] [] fp) q12 q13 q14 q15 q16 q17 q18)
  (C : CodeHd h₀ 434 430) (Tr : Tree P) (St : Stat w L P Kd stat plc) (hk : k < P.length) (hc : (kids P k)[i]? = some c)
  (hbad : plc ∈ bad ∧ pcs ∈ bad ∧ acs ∈ bad ∧ 430 ∈ bad) (hbk : ∀ b ∈ bad, b = plc ∨ b = pcs ∨ b = acs ∨ b = 430 ∨ ∃ o, (b, o) ∈ keep) (hL1 : ∃ o, (L + 1, o) ∈ keep) (hkp : ∀ q ∈ keep, q.1 ≠ plc ∧ q.1 ≠ pcs ∧ q.1 ≠ acs ∧ q.1 ≠ 430)
  (d1 : plc ≠ pcs) (d2 : plc ≠ acs) (d3 : plc ≠ 430) (d4 : pcs ≠ acs) (d5 : pcs ≠ 430) (d6 : acs ≠ 430)
  (hS : ChildSt w L plc pcs acs pa tbv keep stat bad P Kd k i m rest) (hneI : ∀ q ∈ rest, q.1 ≠ I)
  {Q : Flow → Shared → Prop}
  (hret : ∀ m' h' tk' full, Fr h₀ L h' m' → News h₀ L h' full → (I, o₁) ∈ full → (∀ rest', (∀ q ∈ full, q.1 ≠ I → q ∈ rest') → ChildSt w L plc pcs acs pa tbv keep stat bad P Kd k (i + 1) m' rest') → Q .next { s with heap := h', toks := tk' }) :
  wpAny (model PySem.Challenge.rw_ez0274_01.prog w) (AM 850 900) (assign tgt2 (envOfC ql sc L f cd) (.int (c : Nat) t)) (fun _ s₁ => wpAny (model PySem.Challenge.rw_ez0274_01.prog w) (AM 850 900) (execs [b1, b2, b3, b4] (envOfC ql sc L f cd)) Q (fun _ _ => False) s₁) (fun _ _ => False) s := by
  have hlo := Tr.lo
  have hhi := Tr.hi
  obtain ⟨tp, mplace⟩ := hS.place
  obtain ⟨pv, cp, mpv, hpv⟩ := hS.places
  obtain ⟨tks, cq, htks, mps⟩ := hS.pieces
  obtain ⟨made, tab, acts, ca, hsm, hmd, m430, htab, mac, hal, hacts⟩ := hS.acts
  obtain ⟨ob, bl, bv, cb, hob, mob, hbl, hkids⟩ := St.kids
  obtain ⟨ok, kl, kv, cx, hok, mok, hkl, hkvl, hkv, hKs⟩ := St.kinds
  obtain ⟨ot, txl, tv, ct, hot, mot, htl, htvl, htv⟩ := St.texts
  obtain ⟨opl, hopl, mopl⟩ := St.places
  have hcm := List.mem_of_getElem? hc
  have hcN := (mem_kids.mp hcm).1
  have hi := (List.getElem?_eq_some_iff.mp hc).1
  have hkl11 : (kids P k).length ≤ 11 := Nat.le_trans (kids_length _) hhi
  have hpc := place_at hc
  obtain ⟨tx, g1⟩ := htv c hcN
  have hx := len_le Tr hcN
  have hpsl : (piecesOf (none :: ((kids P k).take i).zipWith (fun c t => some (text P c, t)) tks)).length ≤ 1000 := by
    unfold piecesOf
    rw [List.length_map, List.length_cons, List.length_zipWith]
    omega
  have hpcs := text_small Tr hcN
  rw [← hpc] at mplace
  generalize hpsv : piecesOf (none :: ((kids P k).take i).zipWith (fun c t => some (text P c, t)) tks) = psv at *
  obtain ⟨r, N2, k1, k2⟩ := pulls (ps := [(plc, listOf pv.toArray cp), (pcs, listOf psv.toArray cq), (acs, listOf (List.toArray (.ref (Kd k) :: acts)) ca), (430, tabObj tab)]) N (fun p hp => by
    simp only [List.mem_cons, List.not_mem_nil, or_false] at hp
    rcases hp with rfl | rfl | rfl | rfl
    · exact .tail _ mpv
    · exact .tail _ mps
    · exact .tail _ mac
    · exact .tail _ m430)
  have N2 : News h₀ L s.heap ((plc, listOf pv.toArray cp) :: (pcs, listOf psv.toArray cq) :: (acs, listOf (List.toArray (.ref (Kd k) :: acts)) ca) :: (430, tabObj tab) :: r) := N2
  have kk : ∀ q ∈ (I, o₁) :: rest, q.1 ≠ plc → q.1 ≠ pcs → q.1 ≠ acs → q.1 ≠ 430 → q ∈ r := fun q hq a b c d => k1 q hq fun p hp => by
    simp only [List.mem_cons, List.not_mem_nil, or_false] at hp
    rcases hp with rfl | rfl | rfl | rfl
    · exact a
    · exact b
    · exact c
    · exact d
  have hmr : ∀ q ∈ made, q ∈ r := fun q hq => by
    obtain ⟨a, b⟩ := hmd q hq
    exact kk q (.tail _ a) (fun e => b (e ▸ hbad.1)) (fun e => b (e ▸ hbad.2.1)) (fun e => b (e ▸ hbad.2.2.1)) (fun e => b (e ▸ hbad.2.2.2))
  have hsr : ∀ q ∈ stat, q ∈ r := fun q hq => hmr q (hsm q hq)
  have hkr : ∀ q ∈ keep, q ∈ r := fun q hq => by
    obtain ⟨a, b, c, d⟩ := hkp q hq
    exact kk q (.tail _ (hS.keep q hq)) a b c d
  have hIr : (I, o₁) ∈ r := kk _ (.head _) (hneI _ mpv).symm (hneI _ mps).symm (hneI _ mac).symm (hneI _ m430).symm
  have b1' : ∀ p ∈ r, p.1 ≠ plc := fun p hp => (k2 p hp).2 _ (.head _)
  have b2' : ∀ p ∈ r, p.1 ≠ pcs := fun p hp => (k2 p hp).2 _ (.tail _ (.head _))
  have b3' : ∀ p ∈ r, p.1 ≠ acs := fun p hp => (k2 p hp).2 _ (.tail _ (.tail _ (.head _)))
  have b4' : ∀ p ∈ r, p.1 ≠ 430 := fun p hp => (k2 p hp).2 _ (.tail _ (.tail _ (.tail _ (.head _))))
  refine wpAny_mono (l_child_a (news := (acs, listOf (List.toArray (.ref (Kd k) :: acts)) ca) :: (430, tabObj tab) :: r) (Q := fun f₁ s₁ => f₁ = .next ∧ wpAny (model PySem.Challenge.rw_ez0274_01.prog w) (AM 850 900) (execs [b4] (envOfC ql sc L f cd)) Q (fun _ _ => False) s₁) F X (fun p hp => N2 p (.tail _ (.tail _ hp))) T hFn N2 ?_ ?_ d1 hopl (.tail _ (.tail _ (hsr _ mopl))) hot (.tail _ (.tail _ (hsr _ mot))) (.tail _ (.tail _ (hsr _ htl))) mplace hS.mp g1 (Nat.le_trans hx (by decide)) (by rw [hpv.1]; omega) (by omega) hpsl (by rw [hpv.1]; omega) (by omega) ?_)
    (fun _ s₁ h₁ => execs_two (wpAny_mono h₁ (fun f₁ s₂ h₂ => ⟨h₂.1, execs_two (wpAny_mono h₂.2 (fun f₂ s₃ h₃ => ⟨h₃.1, execs_two h₃.2⟩) fun _ _ x => x.elim)⟩) fun _ _ x => x.elim)) fun _ _ x => x.elim
  · intro p hp
    rcases List.mem_cons.mp hp with rfl | hp
    · exact d2.symm
    · rcases List.mem_cons.mp hp with rfl | hp
      · exact d3.symm
      · exact b1' p hp
  · intro p hp
    rcases List.mem_cons.mp hp with rfl | hp
    · exact d4.symm
    · rcases List.mem_cons.mp hp with rfl | hp
      · exact d5.symm
      · exact b2' p hp
  intro m5 h5 tk5 cq5 t5 F5 N5 n1 n2 n3 n4 n5 n6
  refine ⟨rfl, execs_two ?_⟩
  obtain ⟨bk, ks, ek, g2, g3, g4⟩ := hkids.2 c hcN
  have hplace' : (((place P c : Nat) : Int) + (((text P c).length : Nat) : Int)) = ((place P k + (((kids P k).take (i + 1)).map (len P)).sum : Nat) : Int) := by
    have h2 : ((kids P k).map (len P))[i]? = some (len P c) := by rw [List.getElem?_map, hc]; rfl
    have h3 := take_succ_sum h2
    rw [← List.map_take, ← List.map_take] at h3
    rw [h3, hpc]
    show _ + ((len P c : Nat) : Int) = _
    push_cast; omega
  have hpl5 := hpv.step (t := tp) hc hcN
  have hps5 : psv.toArray.push (.str (text P c) tx) = (piecesOf (none :: ((kids P k).take (i + 1)).zipWith (fun c t => some (text P c, t)) (tks ++ [tx]))).toArray := by
    rw [take_succ_zip hc htks, ← hpsv, push_list]
    congr 1
    unfold piecesOf
    rw [← List.cons_append, List.map_append]
    rfl
  rw [hps5] at N5
  have fin : ∀ {h' : Heap} {tk' : Nat} {full made' : List (Addr × Obj)} {tab' : Array Value} {ca' : Nat} {v : Value}, Fr h₀ L h' m5 → News h₀ L h' full → (plc, listOf (pv.set c (.int ((place P c : Nat) : Int) tp)).toArray cp) ∈ full → (pcs, listOf (piecesOf (none :: ((kids P k).take (i + 1)).zipWith (fun c t => some (text P c, t)) (tks ++ [tx]))).toArray cq5) ∈ full →
      (acs, listOf ((List.toArray (.ref (Kd k) :: acts)).push v) ca') ∈ full → (430, tabObj tab') ∈ full → (∀ q ∈ r, q ∈ full) → (∀ q ∈ made, q ∈ made') → (∀ q ∈ made', q ∈ full ∧ q.1 ∉ bad ∧ q.1 ≠ I) → TabOk made' usQual 272 8 tab' → ActIn PySem.Challenge.rw_ez0274_01.prog w (hd.heap_39 w.params) made' P Kd c v → Q .next { s with heap := h', toks := tk' } := by
    intro h' tk' full made' tab' ca' v F' N' u1 u2 u3 u4 u5 u6 u7 u8 u9
    refine hret m5 h' tk' full F' N' (u5 _ hIr) fun rest' w1 => ?_
    refine ⟨⟨t5, by rw [n1, hplace']⟩, n3, by rw [n4]; exact hS.ma, by rw [n5]; exact hS.mpar, by rw [n6]; exact hS.mtab, ⟨_, cp, w1 _ u1 (hneI (plc, listOf pv.toArray cp) mpv), hpl5⟩, ⟨_, cq5, by rw [List.length_append, htks]; rfl, w1 _ u2 (hneI (pcs, listOf psv.toArray cq) mps)⟩,
      ⟨made', tab', acts ++ [v], ca', fun q hq => u6 q (hsm q hq), fun q hq => ⟨w1 q (u7 q hq).1 (u7 q hq).2.2, (u7 q hq).2.1⟩, w1 _ u4 (hneI (430, tabObj tab) m430), u8, ?_, by rw [List.length_append, hal]; rfl, fun j d v' hj hv => ?_⟩, fun q hq => w1 q (u5 q (hkr q hq)) (hneI q (hS.keep q hq))⟩
    · rw [← List.cons_append, ← push_list]
      exact w1 _ u3 (hneI (acs, listOf (List.toArray (.ref (Kd k) :: acts)) ca) mac)
    · by_cases hji : j < acts.length
      · rw [List.getElem?_append_left hji] at hv
        exact (hacts j d v' hj hv).mono u6
      · have hj' : j = acts.length := by
          have := (List.getElem?_eq_some_iff.mp hv).1
          rw [List.length_append, List.length_singleton] at this; omega
        rw [hj', List.getElem?_append_right (Nat.le_refl _), Nat.sub_self] at hv
        simp only [List.getElem?_cons_zero, Option.some.injEq] at hv
        rw [hj', hal, hc] at hj
        cases hj
        rw [← hv]
        exact u9
  by_cases hkc : kids P c = []
  · have : ks = [] := List.eq_nil_of_length_eq_zero (by rw [g4.1, hkc]; rfl)
    subst this
    have N6 : News h₀ L h5 ((acs, listOf (List.toArray (.ref (Kd k) :: acts)) ca) :: (plc, listOf (pv.set c (.int ((place P c : Nat) : Int) tp)).toArray cp) :: (pcs, listOf (piecesOf (none :: ((kids P k).take (i + 1)).zipWith (fun c t => some (text P c, t)) (tks ++ [tx]))).toArray cq5) :: (430, tabObj tab) :: r) := News.sub N5 fun p hp => by
      simp only [List.mem_cons] at hp ⊢
      rcases hp with hp | hp | hp | hp | hp <;> simp only [hp, true_or, or_true]
    refine l_child_leaf (s := { s with heap := h5, toks := tk5 }) (kd := Kd c) (av := .ref (Kd k) :: acts) F5 X (fun p hp => N6 p (.tail _ hp)) T hFn N6 ?_ hob (.tail _ (.tail _ (.tail _ (hsr _ mob)))) (.tail _ (.tail _ (.tail _ (hsr _ hbl)))) hok (.tail _ (.tail _ (.tail _ (hsr _ mok)))) (.tail _ (.tail _ (.tail _ (hsr _ hkl)))) n2 (by rw [n4]; exact hS.ma) g2 (.tail _ (.tail _ (.tail _ (hsr _ g3)))) (hkv c hcN) (by rw [hkids.1]; omega) (by omega) (by rw [List.length_cons]; omega) ?_
    · intro p hp
      rcases List.mem_cons.mp hp with rfl | hp
      · exact d2
      · rcases List.mem_cons.mp hp with rfl | hp
        · exact d4
        · rcases List.mem_cons.mp hp with rfl | hp
          · exact d6.symm
          · exact b3' p hp
    intro h7 tk7 ca7 v F7 N7 v1 v2
    refine ⟨rfl, wpAny_execs_nil ?_⟩
    refine fin F7 N7 (.tail _ (.head _)) (.tail _ (.tail _ (.head _))) (.head _) (.tail _ (.tail _ (.tail _ (.head _)))) (fun q hq => .tail _ (.tail _ (.tail _ (.tail _ hq)))) (fun q hq => hq) (fun q hq => ⟨.tail _ (.tail _ (.tail _ (.tail _ (hmr q hq)))), (hmd q hq).2, hneI q (hmd q hq).1⟩) htab ?_
    unfold ActIn
    rw [if_pos hkc]
    split
    · exact v1 ‹_›
    · exact v2 ‹_›
  · have hkn : ks ≠ [] := fun e => hkc (List.eq_nil_of_length_eq_zero (by rw [← g4.1, e]; rfl))
    have N6 : News h₀ L h5 ((430, tabObj tab) :: (acs, listOf (List.toArray (.ref (Kd k) :: acts)) ca) :: (plc, listOf (pv.set c (.int ((place P c : Nat) : Int) tp)).toArray cp) :: (pcs, listOf (piecesOf (none :: ((kids P k).take (i + 1)).zipWith (fun c t => some (text P c, t)) (tks ++ [tx]))).toArray cq5) :: r) := News.sub N5 fun p hp => by
      simp only [List.mem_cons] at hp ⊢
      rcases hp with hp | hp | hp | hp | hp <;> simp only [hp, true_or, or_true]
    refine l_child_use (s := { s with heap := h5, toks := tk5 }) (av := .ref (Kd k) :: acts) (src := made) F5 X (fun p hp => N6 p (.tail _ (.tail _ hp))) T hFn C (fun p hp => .tail _ (.tail _ (hmr p hp))) htab N6 ?_ ?_ d6 hob (.tail _ (.tail _ (hsr _ mob))) (.tail _ (.tail _ (hsr _ hbl))) n2 (by rw [n4]; exact hS.ma) g2 (.tail _ (.tail _ (hsr _ g3))) hkn (by rw [hkids.1]; omega) (by rw [g4.1]; exact Nat.le_trans (kids_length _) (by omega)) (by rw [List.length_cons]; omega) (by omega) ?_
    · intro p hp
      rcases List.mem_cons.mp hp with rfl | hp
      · exact d2
      · rcases List.mem_cons.mp hp with rfl | hp
        · exact d4
        · exact b3' p hp
    · intro p hp
      rcases List.mem_cons.mp hp with rfl | hp
      · exact d3
      · rcases List.mem_cons.mp hp with rfl | hp
        · exact d5
        · exact b4' p hp
    intro h7 tk7 ca7 g tl tab7 F7 N7 ht7 e1 e2 A7 hu7
    refine ⟨rfl, wpAny_execs_nil ?_⟩
    have hsys : ∀ p ∈ tl, (p.1 == sysModules) = false := fun p hp => by
      obtain ⟨o, ho⟩ := hL1
      have h1 := A7 p hp _ (.tail _ (.tail _ (hkr _ ho)))
      have h2 := modules_low T.nolimit
      have h3 := F.above
      rw [beq_eq_false_iff_ne]
      exact Nat.ne_of_gt (Nat.lt_trans (Nat.lt_of_lt_of_le h2 h3) (Nat.lt_trans (Nat.lt_succ_self L) h1))
    refine fin (made' := tl ++ made) F7 N7 (.tail _ (.tail _ (List.mem_append_right _ (.head _)))) (.tail _ (.tail _ (List.mem_append_right _ (.tail _ (.head _))))) (.head _) (.tail _ (.head _)) (fun q hq => .tail _ (.tail _ (List.mem_append_right _ (.tail _ (.tail _ hq))))) (fun q hq => List.mem_append_right _ hq) (fun q hq => ?_) ht7 ?_
    · rcases List.mem_append.mp hq with hq | hq
      · refine ⟨.tail _ (.tail _ (List.mem_append_left _ hq)), fun hb => ?_, Nat.ne_of_gt (A7 q hq _ (.tail _ (.tail _ hIr)))⟩
        rcases hbk _ hb with e | e | e | e | ⟨o, e⟩
        · exact absurd e (Nat.ne_of_gt (A7 q hq _ (.head _)))
        · exact absurd e (Nat.ne_of_gt (A7 q hq _ (.tail _ (.head _))))
        · exact e1 q hq e
        · exact e2 q hq e
        · exact absurd (A7 q hq (q.1, o) (.tail _ (.tail _ (hkr _ e)))) (Nat.lt_irrefl _)
      · exact ⟨.tail _ (.tail _ (List.mem_append_right _ (.tail _ (.tail _ (hmr q hq))))), (hmd q hq).2, hneI q (hmd q hq).1⟩
    · unfold ActIn
      rw [if_neg hkc]
      have hst : stName c = Str.ofString "n" ++ decOf c := if_neg (by have := (mem_kids.mp hcm).2.1; omega)
      rw [hst]
      exact ⟨g, rfl, hu7.ok hsys (fun q hq => List.mem_append_left _ hq) fun q hq => hq⟩

end
section
variable {q1 q2 q3 q4 q5 q6 q7 q8 q9 q10 q11 q12 q13 q14 q15 q16 q17 q18 : Stmt} {nm ql : Str} {psL : Arguments} {sc : Scope} {cdv cd : Value} {f : Addr}
theorem l_children {w : World} {p : Program} {loose : List Str} {mean : ExcName → Option Value} {mg mb : Str → Option Value} {h₀ : Heap} {L : Addr} {m : Str → Option Value} {s : Shared} {news : List (Addr × Obj)}
  {tgt iter tgt2 iter2 : Expr} {a1 a2 a3 a5 b1 b2 b3 b4 : Stmt} {fp fp2 : Pos} {plc pcs acs pa bk : Addr} {tbv : Option Value} {keep stat : List (Addr × Obj)} {bad : List Addr} {P : List Nat} {Kd : Nat → Addr} {k ek : Nat} {ks : List Value} (F : Fr h₀ L s.heap m) (X : (hd.heap_39 w.params).In h₀) (N : News h₀ L s.heap news) (T : Top p loose mean mg mb h₀)
  (hFn : LawK w nm ql psL sc cdv q1 q2 q3 q4 q5 q6 q7 q8 q9 q10 (.For tgt iter [a1, a2, a3, .For tgt2 iter2 [b1, b2, b3, b4] [] fp2, a5] [] fp) q12 q13 q14 q15 q16 q17 q18)
  (C : CodeHd h₀ 434 430) (Tr : Tree P) (St : Stat w L P Kd stat plc) (hk : k < P.length)
  (hbad : plc ∈ bad ∧ pcs ∈ bad ∧ acs ∈ bad ∧ 430 ∈ bad) (hbk : ∀ b ∈ bad, b = plc ∨ b = pcs ∨ b = acs ∨ b = 430 ∨ ∃ o, (b, o) ∈ keep) (hL1 : ∃ o, (L + 1, o) ∈ keep) (hkp : ∀ q ∈ keep, q.1 ≠ plc ∧ q.1 ≠ pcs ∧ q.1 ≠ acs ∧ q.1 ≠ 430)
  (d1 : plc ≠ pcs) (d2 : plc ≠ acs) (d3 : plc ≠ 430) (d4 : pcs ≠ acs) (d5 : pcs ≠ 430) (d6 : acs ≠ 430)
  (hS : ChildSt w L plc pcs acs pa tbv keep stat bad P Kd k 0 m news) (mbk : (bk, listOf ks.toArray ek) ∈ stat) (hks : NatsAre ks (kids P k))
  {R : Result → Shared → Prop} {E : Value → Shared → Prop}
  (done : ∀ m₁ h tk full, ChildSt w L plc pcs acs pa tbv keep stat bad P Kd k (kids P k).length m₁ full → Fr h₀ L h m₁ → News h₀ L h full → R (.ok .next) { s with heap := h, toks := tk }) :
  wpAny (model PySem.Challenge.rw_ez0274_01.prog w) (AM 850 900) (pyIter (.ref bk)) (fun it s₂ => codeAny (model PySem.Challenge.rw_ez0274_01.prog w) (AM 850 900) (.forLoop tgt2 it [b1, b2, b3, b4] [] (envOfC ql sc L f cd)) R s₂) E s := by
  have hin : ∀ i m₁ rest, ChildSt w L plc pcs acs pa tbv keep stat bad P Kd k i m₁ rest → ∀ q ∈ stat, q ∈ rest := fun i m₁ rest h q hq => by
    obtain ⟨made, tab, acts, ca, a, b, _⟩ := h.acts
    exact (b q (a q hq)).1
  refine loop_listR F N (hin _ _ _ hS _ mbk) rfl rfl rfl (ChildSt w L plc pcs acs pa tbv keep stat bad P Kd k) hS (fun i m₁ rest h => hin i m₁ rest h _ mbk) ?_ ?_
  · intro I i v o₁ m₁ rest h tk hv hJ F₁ N₁ hne1 hne2
    obtain ⟨t, rfl⟩ := hks.2 i v hv
    have hi : i < (kids P k).length := by rw [← hks.1]; exact (List.getElem?_eq_some_iff.mp hv).1
    have hc : (kids P k)[i]? = some ((kids P k).getD i 0) := by rw [List.getD_eq_getElem?_getD, List.getElem?_eq_getElem hi]; rfl
    refine l_child_turn (news := rest) (s := { s with heap := h, toks := tk }) F₁ X N₁ T hFn C Tr St hk hc hbad hbk hL1 hkp d1 d2 d3 d4 d5 d6 hJ hne1 fun m' h' tk' full F' N' hI hst => ?_
    exact NxtR.full F' N' hI fun rest' u1 _ => hst rest' u1
  · intro m₁ rest h tk hJ F₁ N₁
    rw [hks.1] at hJ
    exact done m₁ h tk rest hJ F₁ N₁
def nodesTo (P : List Nat) (k : Nat) : List Nat := (List.range k).filter fun j => decide (kids P j ≠ [])
theorem nodesTo_step (P : List Nat) (k : Nat) : nodesTo P (k + 1) = nodesTo P k ++ (if kids P k ≠ [] then [k] else []) := by
  unfold nodesTo
  rw [List.range_succ, List.filter_append, List.filter_cons, List.filter_nil]
  by_cases h : kids P k ≠ []
  · rw [if_pos (by simpa using h), if_pos h]
  · rw [if_neg (by simpa using h), if_neg h]
theorem stName_inj : ∀ i j : Fin 11, stName i = stName j → i = j := by decide +kernel
def KvsOk (w : World) (made : List (Addr × Obj)) (P : List Nat) (Kd : Nat → Addr) (k : Nat) (kvs : List (Str × Value)) : Prop :=
  kvs.map (·.1) = (nodesTo P k).map stName ∧ ∀ (i : Nat) (key : Str) (v : Value), kvs[i]? = some (key, v) → ∃ j l tr a b e, (nodesTo P k)[i]? = some j ∧ v = .ref l ∧ (l, listOf #[.ref tr] e) ∈ made ∧ (tr, tupO [.ref a, .ref b]) ∈ made ∧ RowAB PySem.Challenge.rw_ez0274_01.prog w (hd.heap_39 w.params) made P Kd j a b
theorem KvsOk.mono {w : World} {made made' : List (Addr × Obj)} {P : List Nat} {Kd : Nat → Addr} {k : Nat} {kvs : List (Str × Value)} (h : KvsOk w made P Kd k kvs) (hs : ∀ q ∈ made, q ∈ made') : KvsOk w made' P Kd k kvs :=
  ⟨h.1, fun i key v hi => by
    obtain ⟨j, l, tr, a, b, e, h1, h2, h3, h4, h5⟩ := h.2 i key v hi
    exact ⟨j, l, tr, a, b, e, h1, h2, hs _ h3, hs _ h4, h5.mono hs⟩⟩
theorem KvsOk.skip {w : World} {made : List (Addr × Obj)} {P : List Nat} {Kd : Nat → Addr} {k : Nat} {kvs : List (Str × Value)} (h : KvsOk w made P Kd k kvs) (hk : kids P k = []) : KvsOk w made P Kd (k + 1) kvs := by
  unfold KvsOk at h ⊢
  rw [nodesTo_step, if_neg (by simpa using hk), List.append_nil]
  exact h
theorem KvsOk.step {w : World} {made : List (Addr × Obj)} {P : List Nat} {Kd : Nat → Addr} {k : Nat} {kvs : List (Str × Value)} {l tr a b : Addr} {e : Nat} (h : KvsOk w made P Kd k kvs) (hk : kids P k ≠ []) (hk11 : k ≤ 10)
    (h1 : (l, listOf #[.ref tr] e) ∈ made) (h2 : (tr, tupO [.ref a, .ref b]) ∈ made) (h3 : RowAB PySem.Challenge.rw_ez0274_01.prog w (hd.heap_39 w.params) made P Kd k a b) : KvsOk w made P Kd (k + 1) (stored kvs (stName k) (.ref l)) := by
  have hkey : stName k ∉ kvs.map (·.1) := by
    rw [h.1]
    intro hm
    obtain ⟨j, hj, e⟩ := List.mem_map.mp hm
    have hjk : j < k := List.mem_range.mp (List.mem_filter.mp hj).1
    have := stName_inj ⟨j, by omega⟩ ⟨k, by omega⟩ e
    have := Fin.mk.inj this
    omega
  have hst : stored kvs (stName k) (.ref l) = kvs ++ [(stName k, .ref l)] := by
    unfold stored
    rw [if_neg]
    intro hx
    obtain ⟨x, hx1, hx2⟩ := List.any_eq_true.mp hx
    exact hkey (List.mem_map.mpr ⟨x, hx1, by simpa using hx2⟩)
  have hlen : kvs.length = (nodesTo P k).length := by have := congrArg List.length h.1; simpa using this
  rw [hst]
  refine ⟨by rw [List.map_append, h.1, nodesTo_step, if_pos hk, List.map_append]; rfl, fun i key v hi => ?_⟩
  rw [nodesTo_step, if_pos hk]
  by_cases hlt : i < kvs.length
  · rw [List.getElem?_append_left hlt] at hi
    obtain ⟨j, l', tr', a', b', e', g1, g2, g3, g4, g5⟩ := h.2 i key v hi
    exact ⟨j, l', tr', a', b', e', by rw [List.getElem?_append_left (by omega)]; exact g1, g2, g3, g4, g5⟩
  · have hi' : i = kvs.length := by
      have := (List.getElem?_eq_some_iff.mp hi).1
      rw [List.length_append, List.length_singleton] at this; omega
    rw [hi', List.getElem?_append_right (Nat.le_refl _), Nat.sub_self] at hi
    cases hi
    exact ⟨k, l, tr, a, b, e, by rw [hi', List.getElem?_append_right (by omega), hlen, Nat.sub_self]; rfl, rfl, h1, h2, h3⟩
structure TabSt (w : World) (L plc tb pa : Addr) (stat : List (Addr × Obj)) (bad : List Addr) (P : List Nat) (Kd : Nat → Addr) (k : Nat) (m : Str → Option Value) (full : List (Addr × Obj)) : Prop where
  node : ∃ on x, (L + 1, on) ∈ full ∧ on.data = .cell x
  mpar : m (Str.ofString "parents") = some (.ref pa)
  mtab : m (Str.ofString "table") = some (.ref tb)
  places : ∃ pv c, (plc, listOf (List.toArray pv) c) ∈ full ∧ PlacesTo P pv k 0
  made : ∃ made tab7 tab4 otb kvs, (∀ q ∈ stat, q ∈ made) ∧ (∀ q ∈ made, q ∈ full ∧ q.1 ∉ bad) ∧ (407, tabObj tab7) ∈ full ∧ TabOk made bgQual 240 4 tab7 ∧ (430, tabObj tab4) ∈ full ∧ TabOk made usQual 272 8 tab4 ∧
    (tb, otb) ∈ full ∧ otb.IsDictOf (strKind PySem.Challenge.rw_ez0274_01.prog w) kvs ∧ KvsOk w made P Kd k kvs
theorem PlacesTo.next {P : List Nat} {pv : List Value} {k : Nat} (Tr : Tree P) (h : PlacesTo P pv k (kids P k).length) : PlacesTo P pv (k + 1) 0 := by
  refine ⟨h.1, fun c hc hh => h.2 c hc ?_⟩
  rcases hh with hh | hh | ⟨j, hj, _⟩
  · exact .inl hh
  · by_cases e : par P c = k
    · by_cases c0 : c = 0
      · exact .inl c0
      · have := Tr.lt c (by omega) hc
        obtain ⟨j, hj⟩ := mem_get (mem_kids.mpr ⟨hc, by omega, e⟩ : c ∈ kids P k)
        exact .inr (.inr ⟨j, (List.getElem?_eq_some_iff.mp hj).1, hj⟩)
    · exact .inr (.inl (by omega))
  · exact absurd hj (Nat.not_lt_zero _)
section
variable {M : Model} {A : Around} {s : Shared} {env : Env} {α : Type}
theorem then_four {a : Sem α} {b1 b2 b3 : Stmt} {rest : List Stmt} {R : Shared → Prop} {Q : Flow → Shared → Prop} {E E' : Value → Shared → Prop}
    (h : wpAny M A a (fun _ s₁ => wpAny M A (exec b1 env) (fun f1 s₂ => f1 = .next ∧ wpAny M A (exec b2 env) (fun f2 s₃ => f2 = .next ∧ wpAny M A (exec b3 env) (fun f3 s₄ => f3 = .next ∧ R s₄) (fun _ _ => False) s₃) (fun _ _ => False) s₂) (fun _ _ => False) s₁) (fun _ _ => False) s)
    (k : ∀ s₄, R s₄ → wpAny M A (execs rest env) Q E s₄) : wpAny M A a (fun _ s₁ => wpAny M A (execs (b1 :: b2 :: b3 :: rest) env) Q E s₁) E' s :=
  wpAny_mono h (fun _ s₁ h₁ => execs_two (wpAny_mono h₁ (fun f1 s₂ h₂ => ⟨h₂.1, execs_two (wpAny_mono h₂.2 (fun f2 s₃ h₃ => ⟨h₃.1, execs_two (wpAny_mono h₃.2 (fun f3 s₄ h₄ => ⟨h₄.1, k s₄ h₄.2⟩) fun _ _ x => x.elim)⟩) fun _ _ x => x.elim)⟩) fun _ _ x => x.elim)) fun _ _ x => x.elim
end
theorem l_fold11 {w : World} {h₀ : Heap} {tgt iter tgt2 iter2 : Expr} {a1 a2 a3 a5 : Stmt} {body2 : List Stmt} {fp fp2 : Pos} (X : (hd.heap_39 w.params).In h₀)
    (hFn : LawK w nm ql psL sc cdv q1 q2 q3 q4 q5 q6 q7 q8 q9 q10 (.For tgt iter [a1, a2, a3, .For tgt2 iter2 body2 [] fp2, a5] [] fp) q12 q13 q14 q15 q16 q17 q18) (env : Env) : Folds PySem.Challenge.rw_ez0274_01.prog iter2 env := by
  revert X; k_fill; intro X
  obtain ⟨oc, od, dV, kV, doc, pm, an, ct', osl, hK'⟩ := hFn
  refine key_of (by k_is) hK' (fun e => ?_)
  cases e
  exact ⟨fun _ => rfl⟩

end
section
theorem stName_facts : ∀ j : Fin 11, 1 ≤ (stName j).length ∧ (stName j).length ≤ 1000 ∧ (Txt.item (stName j) 0 != Str.ofString "#") = true := by decide +kernel
theorem nodesTo_mem {P : List Nat} {k i j : Nat} (h : (nodesTo P k)[i]? = some j) : j < k ∧ kids P j ≠ [] := by
  have := List.mem_of_getElem? h
  unfold nodesTo at this
  rw [List.mem_filter, List.mem_range] at this
  exact ⟨this.1, by simpa using this.2⟩
theorem rows_ok {w : World} {news : List (Addr × Obj)} {P : List Nat} {Kd : Nat → Addr} {kvs : List (Str × Value)} (Tr : Tree P) (h : KvsOk w news P Kd P.length kvs) : RowsOk kvs news := by
  intro key v hm
  obtain ⟨i, hi⟩ := mem_get hm
  obtain ⟨j, l, tr, a, b, e, h1, rfl, h3, h4, h5⟩ := h.2 i key v hi
  have hj := nodesTo_mem h1
  have hkey : key = stName j := by
    have h6 : (kvs.map (·.1))[i]? = some key := by rw [List.getElem?_map, hi]; rfl
    rw [h.1, List.getElem?_map, h1] at h6
    exact (Option.some.inj h6).symm
  have hf := stName_facts ⟨j, by have := Tr.hi; omega⟩
  obtain ⟨d, r, l2, h1', t1, e1, e1', tks, acts, a1, a2, a3, a4, a5, a6, a7, a8⟩ := h5
  obtain ⟨c, D, dT, c', oc, doc, pm, ctv, name, params, body, scope, b1, _⟩ := a6
  exact ⟨by rw [hkey]; exact hf, l, e, tr, a, b, d, h1', t1, r, name, bgQual, params, body, scope, _, _, doc, pm, c', ctv, rfl, h3, h4, a1, a2, b1⟩
theorem nodes_in {w : World} {h₀ h : Heap} {L r : Addr} {o2 : Obj} {news full : List (Addr × Obj)} {P : List Nat} {Kd : Nat → Addr} {kvs kvs2 : List (Str × Value)} (N : News h₀ L h news) (hk : KvsOk w news P Kd P.length kvs) (hst : Stated kvs news kvs2 full)
    (hd2 : o2.IsDictOf (strKind PySem.Challenge.rw_ez0274_01.prog w) kvs2) (hr2 : (r, o2) ∈ full) (hrs : (r == sysModules) = false) (hup : ∀ q ∈ news, q ∈ full) :
    ∀ j, j < P.length → kids P j ≠ [] → NodeIn PySem.Challenge.rw_ez0274_01.prog w (hd.heap_39 w.params) full P Kd r j := by
  intro j hj hne
  have hm : j ∈ nodesTo P P.length := List.mem_filter.mpr ⟨List.mem_range.mpr hj, by simpa using hne⟩
  obtain ⟨i, hi⟩ := mem_get hm
  have hlen : kvs2.length = (nodesTo P P.length).length := by
    have h1 := congrArg List.length hst.1
    have h2 := congrArg List.length hk.1
    simp only [List.length_map] at h1 h2
    omega
  have hi2 : i < kvs2.length := by rw [hlen]; exact (List.getElem?_eq_some_iff.mp hi).1
  obtain ⟨⟨key, v'⟩, hkv⟩ : ∃ x, kvs2[i]? = some x := ⟨_, List.getElem?_eq_getElem hi2⟩
  have hkey : key = stName j := by
    have h6 : (kvs2.map (·.1))[i]? = some key := by rw [List.getElem?_map, hkv]; rfl
    rw [hst.1, hk.1, List.getElem?_map, hi] at h6
    exact (Option.some.inj h6).symm
  subst hkey
  obtain ⟨lx, D, q, a, b, l, e, t, rfl, s2, s3, s4, s5, s6, s7⟩ := hst.2 i _ v' hkv
  obtain ⟨j', l', tr, a', b', e', h1, h2, h3, h4, h5⟩ := hk.2 i _ _ s5
  rw [hi] at h1; cases h1
  cases h2
  have e1 := listOf_inj (newsSame N s6 h3)
  subst e1
  obtain ⟨rfl, rfl⟩ := tupO_inj (newsSame N s7 h4)
  have hn : (kvs2.map (·.1)).Nodup := by obtain ⟨es, ep, _, _, _, _, hn⟩ := hd2; exact hn
  exact ⟨lx, D, q, a, b, ⟨o2, kvs2, 1, hr2, hd2, hrs, valueAt_get hn hkv, s2⟩, s3, s4, h5.mono hup⟩
theorem kinds_objs {full : List (Addr × Obj)} {P : List Nat} {Kd : Nat → Addr} (h : KindsAre full Kd P) : ∀ j, j < P.length → ∃ da hs tk v, (Kd j, instObj 66 da) ∈ full ∧ (da, dictOf [⟨hs, .str (Str.ofString "names") tk, v⟩] 1) ∈ full := by
  intro j hj
  obtain ⟨l, ⟨d, t, hs, tk, a, b, c⟩, _⟩ := h j hj
  exact ⟨d, hs, tk, _, a, b⟩
theorem got_told {h₀ h : Heap} {S : Addr} : ∀ {acc : List Value} {ts : List Tk}, Got h₀ h S acc ts → ∃ tl : List (Addr × Obj), (∀ q ∈ tl, h.get? q.1 = some q.2 ∧ h₀.get? q.1 = none ∧ q.1 ≠ S ∧ ∃ vs, q.2 = tupO vs) ∧ acc.length = ts.length ∧ ∀ (k : Nat) (t : Tk), ts[k]? = some t → ∃ a k1 k2, acc[k]? = some (.ref a) ∧ (a, tokObj t k1 k2) ∈ tl
  | _, _, .nil => ⟨[], (fun _ h => nomatch h), rfl, fun k t h => by simp at h⟩
  | _, _, .cons (v := v) (t := t) ⟨a, k1, k2, hv, h1, h2, h3⟩ r => by
    obtain ⟨tl, g1, g2, g3⟩ := got_told r
    refine ⟨(a, tokObj t k1 k2) :: tl, fun q hq => ?_, by simp [g2], fun k t' hk => ?_⟩
    · rcases List.mem_cons.mp hq with rfl | hq
      · exact ⟨h1, h2, h3, _, rfl⟩
      · exact g1 q hq
    · cases k with
      | zero => cases hk; exact ⟨a, k1, k2, by rw [hv]; rfl, .head _⟩
      | succ k =>
        obtain ⟨a', u1, u2, e, m⟩ := g3 k t' (by simpa using hk)
        exact ⟨a', u1, u2, by simpa using e, .tail _ m⟩
theorem told_of {P : List Nat} {Kd : Nat → Addr} {acc : List Value} {tl : List (Addr × Obj)} (h1 : acc.length = (tokens P Kd 0).length) (h2 : ∀ (k : Nat) (t : Tk), (tokens P Kd 0)[k]? = some t → ∃ a k1 k2, acc[k]? = some (.ref a) ∧ (a, tokObj t k1 k2) ∈ tl) : ToldIn tl acc P Kd := by
  unfold tokens at h1 h2
  refine ⟨by rw [h1, List.length_map], fun k l hk => ?_⟩
  obtain ⟨a, k1, k2, e, m⟩ := h2 k ⟨(place P l : Int) - (place P 0 : Int), Kd l, text P l⟩ (by rw [List.getElem?_map, hk]; rfl)
  refine ⟨a, k1, k2, e, ?_⟩
  rw [place_zero] at m
  unfold tokObj at m
  simp only [Int.natCast_zero, Int.sub_zero] at m
  exact m

end
section
theorem ns_data {h : Heap} {L : Addr} {m : Str → Option Value} (x : h.Ns L m) : ∃ o es ep, h.get? L = some o ∧ o.data = .dict es ep := by
  obtain ⟨o, a1, a2, h1, h2, _⟩ := x
  exact ⟨o, _, _, h1, h2⟩
theorem told_end {w : World} {A : Around} {E Q : Value → Shared → Prop} {h₀ h : Heap} {L I L' : Addr} {s : Shared} {m : Str → Option Value} {full : List (Addr × Obj)} {P : List Nat} {Kd : Nat → Addr} {gs : Array GenState} {x : GenState} {nm qn : Str} {t1 t2 : Tok} {oL : Obj}
    (hf : Fits A.in1.in1 (400 + 0) (400 + 8 * 0)) (Tr : Tree P) (F : Fr h₀ L h m) (N : News h₀ L h ((I, genNew gs.size nm qn t1 t2) :: (L', oL) :: full)) (l1 : ∀ p ∈ full, p.1 < L') (l2 : L' < I) (b1 : h₀.objs.size ≤ L') (b2 : L < L')
    (hs : s = { s with heap := h, gens := gs.push x })
    (hW : Will PySem.Challenge.rw_ez0274_01.prog w h₀ full 0 (tokens P Kd 0) gs.size [(L', oL)] [(gs.size, x)])
    (hQ : ∀ S acc c tl s', Fr h₀ L s'.heap m → News h₀ L s'.heap ((S, listOf (List.toArray acc) c) :: (tl ++ full)) → ToldIn tl acc P Kd → (∀ (g : Nat) y, s'.gens[g]? = some y → gs[g]? = some y ∨ y = GenState.finished) → s'.os = s.os → Q (.ref S) s') :
    wpT (model PySem.Challenge.rw_ez0274_01.prog w) A (call (.type "list") [.ref I]) Q E s := by
  have hh : s.heap = h := by rw [hs]
  have hg : s.gens = gs.push x := by rw [hs]
  have sm : ∀ p ∈ full, p ∈ (I, genNew gs.size nm qn t1 t2) :: (L', oL) :: full := fun p hp => .tail _ (.tail _ hp)
  have H : Has h₀ full [(L', oL)] [(gs.size, x)] s := by
    refine ⟨fun b o e => by rw [hh]; exact F.keep b o e, fun p hp => by rw [hh]; exact ⟨(N p (sm p hp)).1, (N p (sm p hp)).2.2⟩, fun p hp => ?_, fun p hp q hq => ?_, fun p hp => ?_⟩
    · cases List.mem_singleton.mp hp
      rw [hh]
      exact ⟨(N _ (.tail _ (.head _))).1, (N _ (.tail _ (.head _))).2.2⟩
    · cases List.mem_singleton.mp hp
      exact Nat.ne_of_lt (l1 q hq)
    · cases List.mem_singleton.mp hp
      rw [hg]
      simp
  have hI : IsGenS s.heap I gs.size := (genNew_obj (by rw [hh]; exact (N _ (.head _)).1)).isGen
  refine list_will (n := 0) hf hW H hI (fun p hp => by cases List.mem_singleton.mp hp; exact Nat.ne_of_lt l2) (by rw [show (tokens P Kd 0).length = (dfs P 0).length from List.length_map ..]; exact Nat.le_trans (dfs_length Tr) (by decide)) fun S s' acc c hE hS hS0 hSz hS' hG => ?_
  obtain ⟨tl, g1, g2, g3⟩ := got_told hG
  have kp : ∀ a o, h.get? a = some o → a ≠ L' → s'.heap.get? a = some o := fun a o e hn => hE.keep a o (by rw [hh]; exact e) (fun p hp => by cases List.mem_singleton.mp hp; exact Ne.symm hn) (fun q => by rw [q, ← hh, hS] at e; cases e)
  obtain ⟨oL0, a1, a2, z1, z2⟩ := F.ns
  have F' : Fr h₀ L s'.heap m := ⟨⟨oL0, a1, a2, kp _ _ z1 (Nat.ne_of_lt b2), z2⟩, fun b o e => kp b o (F.keep b o e) (Nat.ne_of_lt (Nat.lt_of_lt_of_le (Heap.lt_size e) b1)), F.above⟩
  refine hQ S acc c tl s' F' ?_ (told_of g2 g3) (fun g y e => ?_) (hE.os)
  · intro p hp
    rcases List.mem_cons.mp hp with rfl | hp
    · refine ⟨hS', fun q => ?_, hS0⟩
      have q : S = L := q
      rw [q, hh, z1] at hS; cases hS
    · rcases List.mem_append.mp hp with hp | hp
      · obtain ⟨k1, k2, k3, vs, k4⟩ := g1 p hp
        refine ⟨k1, fun q => ?_, k2⟩
        obtain ⟨o, es, ep, u1, u2⟩ := ns_data F'.ns
        rw [q, u1] at k1
        cases k1
        rw [k4] at u2
        cases u2
      · exact ⟨kp _ _ (N p (sm p hp)).1 (Nat.ne_of_lt (l1 p hp)), (N p (sm p hp)).2⟩
  · rcases hE.bare g y e with ⟨k1, k2⟩ | k1
    · rw [hg] at k1
      rcases pushed_inv k1 with k1 | k1
      · exact .inl k1
      · exact absurd k1.symm (k2 _ (.head _))
    · exact .inr k1
theorem kvs_len {w : World} {made : List (Addr × Obj)} {P : List Nat} {Kd : Nat → Addr} {kvs : List (Str × Value)} (Tr : Tree P) (h : KvsOk w made P Kd P.length kvs) : kvs.length ≤ 100 ∧ 1 ≤ kvs.length := by
  have e : kvs.length = (nodesTo P P.length).length := by
    have := congrArg List.length h.1
    simpa only [List.length_map] using this
  have h1 : (nodesTo P P.length).length ≤ P.length := by
    unfold nodesTo
    exact Nat.le_trans (List.length_filter_le ..) (by simp)
  have h2 : 0 ∈ nodesTo P P.length := List.mem_filter.mpr ⟨List.mem_range.mpr (by have := Tr.lo; omega), by simpa using kids_root Tr⟩
  have h3 := List.length_pos_of_mem h2
  have := Tr.hi
  omega

end
section
section
variable {M : Model} {A : Around} {E : Value → Shared → Prop} {s : Shared} {env : Env}
theorem callWith_typeT {pos : Pos} {T : String} {first : List Value} {args : List (Bool × Sem Value)} {Q : Value → Shared → Prop} (hplain : args.any (·.1) = false)
    (h : wpAny M A (evalArgs (.type T) true args []) (fun a s₁ => wpT M A (call (.type T) (first ++ a.pos) a.kw) Q E s₁) E s) :
    wpT M A (callWith pos (.type T) first args []) Q E s := by
  unfold callWith
  refine wpT_bind (wpT_holding (wpT_mono (wpT_of h) (fun a s₁ h₁ => wpT_then (wpAny_standAt ?_)) fun _ _ x => x))
  simp only [hplain, List.any_nil, Bool.or_false]
  refine wpT_then (wpAny_pure ?_)
  exact wpT_bind (wpT_mono h₁ (fun r s₂ hr => wpT_of (wpAny_bind (wpAny_holding (wpAny_point (wpAny_pure hr))))) fun _ _ x => x)
theorem callWith_type1T {pos : Pos} {T : String} {e : Expr} {rest : List Expr} {Q : Value → Shared → Prop}
    (h : wpAny M A (spliced (backTo pos (starEach (e :: rest) env))) (fun vs s₁ => wpT M A (call (.type T) vs) Q E s₁) E s)
    (he : starEach (e :: rest) env = (false, eval e env) :: starEach rest env := by rfl)
    (hplain : (backTo pos (starEach rest env)).any (·.1) = false := by rfl) :
    wpT M A (callWith pos (.type T) [] (backTo pos (starEach (e :: rest) env)) []) Q E s := by
  rw [he] at h ⊢
  exact callWith_typeT (by show (false || (backTo pos (starEach rest env)).any (·.1)) = false; rw [hplain]; rfl) (evalArgs_plain h)
theorem Call_NameT {x : Str} {p pos : Pos} {args : List Expr} {Q : Value → Shared → Prop}
    (h : wpAny M A (eval (.Name x p) env) (fun f s₁ => wpT M A (callWith pos f [] (backTo pos (starEach args env)) []) Q E s₁) E s) :
    wpT M A (eval (.Call (.Name x p) args [] pos) env) Q E s := wpT_then h
theorem Assign_NameT {x pos' value pos} {Q : Flow → Shared → Prop}
    (h : wpT M A (eval value env) (fun v s₁ => wpAny M A (storeName env x v) (fun _ => Q .next) E s₁) E s)
    (hs : swapsWith value (some (.Name x pos')) pos.line env = pure false := by rfl) : wpT M A (exec (.Assign [.Name x pos'] value pos) env) Q E s := by
  rw [exec_Assign_Name env x pos' value pos hs]
  refine wpT_then (wpAny_standAt ?_)
  exact wpT_bind (wpT_mono h (fun v s₁ h₁ => wpT_of (wpAny_bind (wpAny_standAt (wpAny_bind (wpAny_mono (wpAny_bindName h₁) (fun _ _ q => wpAny_pure q) fun _ _ x => x))))) fun _ _ x => x)
theorem execsT_cons {st : Stmt} {rest : List Stmt} {Q : Flow → Shared → Prop} (h : wpT M A (exec st env) (fun f s' => f = .next ∧ wpT M A (execs rest env) Q E s') E s) : wpT M A (execs (st :: rest) env) Q E s := by
  rw [execs_cons]
  exact wpT_bind (wpT_mono h (fun f s' h' => by obtain ⟨rfl, h'⟩ := h'; exact h') fun _ _ x => x)
end
local macro_rules | `(tactic| walk_at "call ref") => `(tactic| (k_here; k_dflt (show wpAny _ _ (call (Value.ref 678) _ _) _ _ _); refine stop_of ?_))
variable {q1 q2 q3 q4 q5 q6 q7 q8 q9 q10 q11 q12 q13 q14 q15 q16 q17 q18 : Stmt} {nm ql : Str} {psL : Arguments} {sc : Scope} {cdv cd : Value} {f : Addr}
theorem l_told {w : World} {p : Program} {loose : List Str} {mean : ExcName → Option Value} {mg mb : Str → Option Value} {h₀ : Heap} {L : Addr} {m : Str → Option Value} {s : Shared} {news : List (Addr × Obj)}
  {tb txl : Addr} {otb ot : Obj} {tv : List Value} {ct : Nat} {tx : Tok} {kvs : List (Str × Value)} {P : List Nat} {Kd : Nat → Addr} (F : Fr h₀ L s.heap m) (X : (hd.heap_39 w.params).In h₀) (N : News h₀ L s.heap news) (T : Top p loose mean mg mb h₀)
  (hFn : LawK w nm ql psL sc cdv q1 q2 q3 q4 q5 q6 q7 q8 q9 q10 q11 q12 q13 q14 q15 q16 q17 q18)
  (Tr : Tree P) (h1 : m (Str.ofString "table") = some (.ref tb)) (mtb : (tb, otb) ∈ news) (hdt : otb.IsDictOf (strKind PySem.Challenge.rw_ez0274_01.prog w) kvs) (hts : (tb == sysModules) = false) (hK : KvsOk w news P Kd P.length kvs) (hKd : KindsAre news Kd P)
  (hot : ot.data = .cell (some (.ref txl))) (mot : (L + 1 + 1 + 1 + 1 + 1, ot) ∈ news) (htxl : (txl, listOf tv.toArray ct) ∈ news) (htv1 : tv.length ≤ 1000) (g1 : tv[0]? = some (.str (text P 0) tx)) {Q : Flow → Shared → Prop}
  (hret : ∀ m' S acc c tl full s', Fr h₀ L s'.heap m' → News h₀ L s'.heap ((S, listOf (List.toArray acc) c) :: (tl ++ full)) → (∀ q ∈ news, q ∈ full) → ToldIn tl acc P Kd → (∀ (g : Nat) y, s'.gens[g]? = some y → s.gens[g]? = some y ∨ y = GenState.finished) → s'.os = s.os →
    m' (Str.ofString "told") = some (.ref S) → m' (Str.ofString "parents") = m (Str.ofString "parents") → m' (Str.ofString "leaves") = m (Str.ofString "leaves") → Q .next s') :
  wpT (model PySem.Challenge.rw_ez0274_01.prog w) (AM 310 310) (exec q13 (envOfC ql sc L f cd)) Q (fun _ _ => False) s := by
  have X' := X
  have hrows := rows_ok Tr hK
  obtain ⟨hkl, hk0⟩ := kvs_len Tr hK
  revert X; k_fill; intro X
  obtain ⟨oc, od, dV, kV, doc, pm, an, ct', osl, hK'⟩ := hFn
  refine key_of (by k_is) hK' (fun e => ?_)
  cases e
  refine Assign_NameT (Call_NameT ?_)
  k_steps
  any_goals try k_data
  any_goals (with_reducible try exact trivial)
  refine callWith_type1T ?_
  k_steps
  any_goals try k_data
  unfold Stop
  rename Fr _ _ _ _ => F1
  rename News _ _ _ _ => N1
  refine wpAny_lift ⟨rfl, Nat.le_of_ble_eq_true rfl, Nat.le_of_ble_eq_true rfl⟩ (d := 700) (u := 600) (c_plexer F1 X' N1 T (by k_mem) hdt hts hrows hkl hk0 ?_)
  intro self r full h2 tk2 o2 kvs2 F2 N2 hup hlx hr2 hrs hd2 hst
  obtain ⟨dx, y1, y2, y3, y4, y5, y6, y7, y8, y9, tt1, tt2, tt3, tt4, tt5, tt6, tt7, tt8, tt9, v1, v2, v3, v4, v5, v6, v7, v8, hm1, hm2⟩ := id hlx
  have mot2 := hup _ mot
  have htxl2 := hup _ htxl
  have hnd := nodes_in N1 hK hst hd2 hr2 hrs hup
  clear N1 F1
  k_steps
  any_goals try k_data
  rename_i L' I' oL' t1' t2' h' tk' F' N' l1 l2' nsL hb1 hb2
  refine told_end ⟨rfl, by decide, by decide⟩ Tr F' N' l1 l2' hb1 hb2 rfl (gwilla_tree Tr X' T hlx (kinds_objs (hKd.mono hup)) hnd 0 (by have := Tr.lo; omega) (kids_root Tr) 0 578 (by omega) (.inr ⟨rfl, rfl⟩) full (fun _ h => h) _ L' oL' _ _ _ _ _ _ _ ⟨_, _, _, _, _, _, _, _, _, by k_is⟩ nsL rfl ⟨_, rfl⟩ rfl hb1) ?_
  clear F' N' nsL
  intro S acc c tl s' F3 N3 hT hg hos
  k_steps
  any_goals try k_data
  exact hret _ _ _ _ _ _ _ (by assumption) (by assumption) hup hT hg hos (by rfl) (by rfl) (by rfl)

end
section
variable {q1 q2 q3 q4 q5 q6 q7 q8 q9 q10 q11 q12 q13 q14 q15 q16 q17 q18 : Stmt} {nm ql : Str} {psL : Arguments} {sc : Scope} {cdv cd : Value} {f : Addr}
section
variable {M : Model} {env : Env} {s : Shared} {a b : Stmt} {rest : List Stmt} {Q : Flow → Shared → Prop}
theorem stepT (h : wpAny M (AM 850 900) (exec a env) (fun f s' => f = .next ∧ wpT M (AM 310 310) (execs rest env) Q (fun _ _ => False) s') (fun _ _ => False) s) : wpT M (AM 310 310) (execs (a :: rest) env) Q (fun _ _ => False) s :=
  execsT_cons (wpT_of (wpAny_lift ⟨rfl, by decide, by decide⟩ h))
theorem stepT2 (h : wpAny M (AM 850 900) (exec a env) (fun f1 s₁ => f1 = .next ∧ wpAny M (AM 850 900) (exec b env) (fun f s' => f = .next ∧ wpT M (AM 310 310) (execs rest env) Q (fun _ _ => False) s') (fun _ _ => False) s₁) (fun _ _ => False) s) : wpT M (AM 310 310) (execs (a :: b :: rest) env) Q (fun _ _ => False) s :=
  stepT (wpAny_mono h (fun _ _ h => ⟨h.1, stepT h.2⟩) fun _ _ x => x)
end
def hi (L : Addr) (full : List (Addr × Obj)) : List (Addr × Obj) := full.filter fun q => decide (L + 1 + 1 + 1 + 1 + 1 + 1 < q.1)
theorem mem_hi {L : Addr} {full : List (Addr × Obj)} {q : Addr × Obj} : q ∈ hi L full ↔ q ∈ full ∧ L + 1 + 1 + 1 + 1 + 1 + 1 < q.1 := by
  unfold hi; rw [List.mem_filter, decide_eq_true_eq]
def Un (c : Addr) (full : List (Addr × Obj)) : Prop := ∃ o x, (c, o) ∈ full ∧ o.data = Data.cell x
def offs (bad : List Addr) (full : List (Addr × Obj)) : List (Addr × Obj) := full.filter fun q => decide (q.1 ∉ bad)
theorem mem_offs {bad : List Addr} {full : List (Addr × Obj)} {q : Addr × Obj} : q ∈ offs bad full ↔ q ∈ full ∧ q.1 ∉ bad := by
  unfold offs; rw [List.mem_filter, decide_eq_true_eq]
def ParF (L pa : Addr) (vs : List Value) (ca : Nat) (P : List Nat) (m : Str → Option Value) (full : List (Addr × Obj)) : Prop := m (Str.ofString "parents") = some (.ref pa) ∧ (pa, listOf vs.toArray ca) ∈ hi L full ∧ NatsAre vs P
def KidsF (L : Addr) (P : List Nat) (full : List (Addr × Obj)) : Prop := ∃ ob bl bv cb, ob.data = .cell (some (.ref bl)) ∧ (L + 1 + 1, ob) ∈ full ∧ (bl, listOf (List.toArray bv) cb) ∈ hi L full ∧ KidsIn (hi L full) bv P
def PathsF (L : Addr) (P : List Nat) (full : List (Addr × Obj)) : Prop := ∃ op pl pv cp, op.data = .cell (some (.ref pl)) ∧ (L + 1 + 1 + 1, op) ∈ full ∧ (pl, listOf (List.toArray pv) cp) ∈ hi L full ∧ TextsAre pv ((List.range P.length).map (path P))
def KindsF (L : Addr) (P : List Nat) (Kd : Nat → Addr) (full : List (Addr × Obj)) : Prop := ∃ ok kl kv cx, ok.data = .cell (some (.ref kl)) ∧ (L + 1 + 1 + 1 + 1, ok) ∈ full ∧ (kl, listOf (List.toArray kv) cx) ∈ hi L full ∧ kv.length = P.length ∧ (∀ i, i < P.length → kv[i]? = some (.ref (Kd i))) ∧ KindsAre (hi L full) Kd P
def TextsF (L : Addr) (P : List Nat) (full : List (Addr × Obj)) : Prop := ∃ ot tl tv ct, ot.data = .cell (some (.ref tl)) ∧ (L + 1 + 1 + 1 + 1 + 1, ot) ∈ full ∧ (tl, listOf (List.toArray tv) ct) ∈ hi L full ∧ tv.length = P.length ∧ ∀ i, i < P.length → ∃ t, tv[i]? = some (.str (text P i) t)
section
variable {L pa : Addr} {vs : List Value} {ca : Nat} {P : List Nat} {Kd : Nat → Addr} {m m' : Str → Option Value} {full full' : List (Addr × Obj)}
theorem ParF.mono (h : ParF L pa vs ca P m full) (e : m' (Str.ofString "parents") = m (Str.ofString "parents")) (h1 : ∀ q ∈ hi L full, q ∈ hi L full') : ParF L pa vs ca P m' full' := ⟨e.trans h.1, h1 _ h.2.1, h.2.2⟩
theorem KidsF.mono (h : KidsF L P full) (h1 : ∀ q ∈ hi L full, q ∈ hi L full') (h2 : ∀ o, (L + 1 + 1, o) ∈ full → (L + 1 + 1, o) ∈ full') : KidsF L P full' := by
  obtain ⟨ob, bl, bv, cb, a, b, c, d⟩ := h
  exact ⟨ob, bl, bv, cb, a, h2 _ b, h1 _ c, d.mono h1⟩
theorem PathsF.mono (h : PathsF L P full) (h1 : ∀ q ∈ hi L full, q ∈ hi L full') (h2 : ∀ o, (L + 1 + 1 + 1, o) ∈ full → (L + 1 + 1 + 1, o) ∈ full') : PathsF L P full' := by
  obtain ⟨ob, bl, bv, cb, a, b, c, d⟩ := h
  exact ⟨ob, bl, bv, cb, a, h2 _ b, h1 _ c, d⟩
theorem KindsF.mono (h : KindsF L P Kd full) (h1 : ∀ q ∈ hi L full, q ∈ hi L full') (h2 : ∀ o, (L + 1 + 1 + 1 + 1, o) ∈ full → (L + 1 + 1 + 1 + 1, o) ∈ full') : KindsF L P Kd full' := by
  obtain ⟨ob, bl, bv, cb, a, b, c, d, e, g⟩ := h
  exact ⟨ob, bl, bv, cb, a, h2 _ b, h1 _ c, d, e, g.mono h1⟩
theorem TextsF.mono (h : TextsF L P full) (h1 : ∀ q ∈ hi L full, q ∈ hi L full') (h2 : ∀ o, (L + 1 + 1 + 1 + 1 + 1, o) ∈ full → (L + 1 + 1 + 1 + 1 + 1, o) ∈ full') : TextsF L P full' := by
  obtain ⟨ob, bl, bv, cb, a, b, c, d⟩ := h
  exact ⟨ob, bl, bv, cb, a, h2 _ b, h1 _ c, d⟩
theorem hi_up {bad : List Addr} (hb : ∀ a ∈ bad, a ≤ L + 1 + 1 + 1 + 1 + 1 + 1) (h : ∀ q ∈ full, q.1 ∉ bad → q ∈ full') : ∀ q ∈ hi L full, q ∈ hi L full' := fun q hq => by
  obtain ⟨h1, h2⟩ := mem_hi.mp hq
  exact mem_hi.mpr ⟨h q h1 fun hm => by have := hb _ hm; (unfold Addr at *; omega), h2⟩
theorem hi_sub (h : ∀ q ∈ full, q ∈ full') : ∀ q ∈ hi L full, q ∈ hi L full' := hi_up (bad := []) (fun _ h => nomatch h) fun q hq _ => h q hq
end
theorem list_ne_cell {h₀ h : Heap} {L a b : Addr} {full : List (Addr × Obj)} {xs : Array Value} {n : Nat} {o : Obj} {x : Option Value} (N : News h₀ L h full) (h1 : (a, listOf xs n) ∈ full) (h2 : (b, o) ∈ full) (hd : o.data = .cell x) : a ≠ b := fun e => by
  subst e
  have := newsSame N h1 h2
  rw [← this] at hd; cases hd
theorem g_kids {w : World} {p : Program} {loose : List Str} {mean : ExcName → Option Value} {mg mb : Str → Option Value} {h₀ : Heap} {L : Addr} {m : Str → Option Value} {s : Shared} {news : List (Addr × Obj)}
  {scr : Addr} {items : List Value} {ns : List Int} {rest : List Stmt} (F : Fr h₀ L s.heap m) (X : (hd.heap_39 w.params).In h₀) (N : News h₀ L s.heap news) (T : Top p loose mean mg mb h₀)
  (hFn : LawK w nm ql psL sc cdv q1 q2 q3 q4 q5 q6 q7 q8 q9 q10 q11 q12 q13 q14 q15 q16 q17 q18)
  (h1 : m (Str.ofString "script") = some (.ref scr)) (hl : h₀.IsList scr items.toArray) (hI : IntsAre items ns) (hlen : items.length ≤ 1000)
  (u1 : Un (L + 1) news) (u2 : Un (L + 1 + 1) news) (u3 : Un (L + 1 + 1 + 1) news) (u6 : Un (L + 1 + 1 + 1 + 1 + 1 + 1) news) {Q : Flow → Shared → Prop}
  (hret : ∀ m' h' tk' full pa vs ca P, Fr h₀ L h' m' → News h₀ L h' full → Tree P → ParF L pa vs ca P m' full → KidsF L P full → PathsF L P full → (∀ q ∈ news, q.1 ∉ [L + 1, L + 1 + 1, L + 1 + 1 + 1] → q ∈ full) → Un (L + 1) full →
    wpT (model PySem.Challenge.rw_ez0274_01.prog w) (AM 310 310) (execs rest (envOfC ql sc L f cd)) Q (fun _ _ => False) { s with heap := h', toks := tk' }) :
  wpT (model PySem.Challenge.rw_ez0274_01.prog w) (AM 310 310) (execs (q1 :: q2 :: q3 :: q4 :: q5 :: rest) (envOfC ql sc L f cd)) Q (fun _ _ => False) s := by
  refine stepT2 (l_parents F X N T hFn h1 hl hI hlen fun m1 ha tka pa ca vs P tla Fa Na hab hpm hpa hP Tr => ⟨rfl, ?_⟩)
  have hlen3 : vs.length ≤ 1000 := by rw [hP.1]; have := Tr.hi; omega
  have up1 : ∀ q ∈ news, q ∈ tla ++ news := fun q hq => List.mem_append_right _ hq
  have pa6 : L + 1 + 1 + 1 + 1 + 1 + 1 < pa := by obtain ⟨o, x, a, _⟩ := u6; exact hab _ hpa _ a
  obtain ⟨o2, x2, mo2, ho2⟩ := u2
  obtain ⟨o3, x3, mo3, ho3⟩ := u3
  obtain ⟨o1, x1, mo1, ho1⟩ := u1
  obtain ⟨r2, N2, k2, k2'⟩ := pull Na (up1 _ mo2)
  have hpa2 : (pa, listOf vs.toArray ca) ∈ r2 := k2 _ (List.mem_append_left _ hpa) (by show pa ≠ _; (unfold Addr at *; omega))
  refine stepT (l_branches (s := { s with heap := ha, toks := tka }) Fa X (fun p hp => N2 p (.tail _ hp)) T hFn N2 ho2 (fun p hp => (k2' p hp).2) hpm hpa2 hlen3 fun hb tkb bl cb bs ob Fb Nb hob hbs hpw bab bbs => ⟨rfl, ?_⟩)
  have m3b : (L + 1 + 1 + 1, o3) ∈ r2 := k2 _ (up1 _ mo3) (by show L + 1 + 1 + 1 ≠ _; (unfold Addr at *; omega))
  have m1b : (L + 1, o1) ∈ r2 := k2 _ (up1 _ mo1) (by show L + 1 ≠ _; (unfold Addr at *; omega))
  have upb : ∀ q ∈ r2, q ∈ (L + 1 + 1, ob) :: (bl, listOf (bs.map Value.ref).toArray cb) :: (emptyAt bs ++ r2) := fun q hq => .tail _ (.tail _ (List.mem_append_right _ hq))
  obtain ⟨r3, N3, k3, k3'⟩ := pull Nb (upb _ m3b)
  refine stepT (l_paths0 (s := { s with heap := hb, toks := tkb }) Fb X (fun p hp => N3 p (.tail _ hp)) T hFn N3 ho3 (fun p hp => (k3' p hp).2) fun hc tkc pl tp op Fc Nc hop hpl => ⟨rfl, ?_⟩)
  have blr : pa < bl := bab _ hpa2
  have m2c : (L + 1 + 1, ob) ∈ r3 := k3 _ (.head _) (by show L + 1 + 1 ≠ _; (unfold Addr at *; omega))
  have mbl : (bl, listOf (bs.map Value.ref).toArray cb) ∈ r3 := k3 _ (.tail _ (.head _)) (by show bl ≠ _; (unfold Addr at *; omega))
  have mbs : ∀ b ∈ bs, (b, listOf #[] 0) ∈ r3 := fun b hb => k3 _ (.tail _ (.tail _ (List.mem_append_left _ (by simp [emptyAt, hb])))) (by have := bbs b hb; show b ≠ _; (unfold Addr at *; omega))
  have mpa : (pa, listOf vs.toArray ca) ∈ r3 := k3 _ (upb _ hpa2) (by show pa ≠ _; (unfold Addr at *; omega))
  have m1c : (L + 1, o1) ∈ r3 := k3 _ (upb _ m1b) (by show L + 1 ≠ _; (unfold Addr at *; omega))
  have hplr : ∀ q ∈ r3, q.1 < pl := fun q hq => hpl q (.tail _ hq)
  have hpl3 : L + 1 + 1 + 1 < pl := hpl _ (.head _)
  have bl_pl : bl < pl := hplr _ mbl
  have bs_pl : ∀ b ∈ bs, b < pl := fun b hb => hplr _ (mbs b hb)
  have bsg : ∀ q : Addr × Obj, q.1 ≤ bl → q.1 ∉ bs := fun q hq hm => by have := bbs _ hm; (unfold Addr at *; omega)
  generalize hfull : (pl, listOf #[Value.str (Str.ofString "Top") tp] 0) :: (L + 1 + 1 + 1, op) :: r3 = fullc at Nc
  have upc : ∀ q ∈ r3, q ∈ fullc := fun q hq => by rw [← hfull]; exact .tail _ (.tail _ hq)
  have mplc : (pl, listOf (List.toArray [Value.str (Str.ofString "Top") tp]) 0) ∈ fullc := by rw [← hfull]; exact .head _
  have mopc : (L + 1 + 1 + 1, op) ∈ fullc := by rw [← hfull]; exact .tail _ (.head _)
  have st : ∀ q ∈ offs ((L + 1) :: pl :: bs) fullc, q.1 ≠ L + 1 ∧ q.1 ≠ pl ∧ q.1 ∉ bs := fun q hq => by
    have := (mem_offs.mp hq).2
    exact ⟨fun e => this (e ▸ .head _), fun e => this (e ▸ .tail _ (.head _)), fun e => this (.tail _ (.tail _ e))⟩
  have off : ∀ q : Addr × Obj, q ∈ fullc → q.1 ≠ L + 1 → q.1 ≠ pl → q.1 ∉ bs → q ∈ offs ((L + 1) :: pl :: bs) fullc := fun q hq a b c => mem_offs.mpr ⟨hq, fun e => by
    rcases List.mem_cons.mp e with e | e
    · exact a e
    · rcases List.mem_cons.mp e with e | e
      · exact b e
      · exact c e⟩
  have z0 : KidsSt L pl bs (offs ((L + 1) :: pl :: bs) fullc) P 0 fullc := by
    refine ⟨⟨o1, x1, upc _ m1c, ho1⟩, ⟨_, 0, mplc, ?_⟩, fun j b hj => ⟨[], 0, upc _ (mbs b (List.mem_of_getElem? hj)), ?_⟩, fun q hq => (mem_offs.mp hq).1⟩
    · have e : (List.range (0 + 1)).map (path P) = [] ++ [Str.ofString "Top"] := by
        show [path P 0] = _
        rw [path_zero]; rfl
      rw [e]
      exact TextsAre.nil.snoc _ _
    · rw [show (0 + 1) = 1 from rfl, kidsTo_one]; exact .nil
  refine stepT (l_kids (s := { s with heap := hc, toks := tkc }) Fc X Nc T hFn Tr hP hpm (off _ (upc _ mpa) (by show pa ≠ _; (unfold Addr at *; omega)) (by have := hplr _ mpa; show pa ≠ _; (unfold Addr at *; omega)) (bsg (pa, listOf vs.toArray ca) (Nat.le_of_lt blr))) hob
    (off _ (upc _ m2c) (by show L + 1 + 1 ≠ _; (unfold Addr at *; omega)) (by show L + 1 + 1 ≠ _; (unfold Addr at *; omega)) (bsg (L + 1 + 1, ob) (by show L + 1 + 1 ≤ _; (unfold Addr at *; omega)))) (off _ (upc _ mbl) (by show bl ≠ _; (unfold Addr at *; omega)) (by show bl ≠ _; (unfold Addr at *; omega)) (bsg (bl, listOf (bs.map Value.ref).toArray cb) (Nat.le_refl _)))
    hop (off _ mopc (by show L + 1 + 1 + 1 ≠ _; (unfold Addr at *; omega)) (by show L + 1 + 1 + 1 ≠ _; (unfold Addr at *; omega)) (bsg (L + 1 + 1 + 1, op) (by show L + 1 + 1 + 1 ≤ _; (unfold Addr at *; omega)))) (by rw [hbs, hP.1]) hpw (fun b hb => ⟨by have := bbs b hb; (unfold Addr at *; omega), Nat.ne_of_lt (bs_pl b hb)⟩) (by (unfold Addr at *; omega)) st z0 fun hd tkd full Fd Nd Kd => ⟨rfl, ?_⟩)
  have hlo := Tr.lo
  have e1 : P.length - 1 + 1 = P.length := by omega
  have hmem : ∀ q : Addr × Obj, q ∈ fullc → q.1 ≠ L + 1 → q.1 ≠ pl → q.1 ∉ bs → q ∈ full := fun q a b c d => Kd.stat q (off q a b c d)
  have bl6 : L + 1 + 1 + 1 + 1 + 1 + 1 < bl := by (unfold Addr at *; omega)
  obtain ⟨pv, cp, mpv, hpv⟩ := Kd.paths
  refine hret m1 hd tkd full pa vs ca P Fd Nd Tr ⟨hpm, mem_hi.mpr ⟨hmem _ (upc _ mpa) (by show pa ≠ _; (unfold Addr at *; omega)) (by have := hplr _ mpa; show pa ≠ _; (unfold Addr at *; omega)) (bsg (pa, listOf vs.toArray ca) (Nat.le_of_lt blr)), pa6⟩, hP⟩
    ⟨ob, bl, bs.map Value.ref, cb, hob, hmem _ (upc _ m2c) (by show L + 1 + 1 ≠ _; (unfold Addr at *; omega)) (by show L + 1 + 1 ≠ _; (unfold Addr at *; omega)) (bsg (L + 1 + 1, ob) (by show L + 1 + 1 ≤ _; (unfold Addr at *; omega))), mem_hi.mpr ⟨hmem _ (upc _ mbl) (by show bl ≠ _; (unfold Addr at *; omega)) (by show bl ≠ _; (unfold Addr at *; omega)) (bsg (bl, listOf (bs.map Value.ref).toArray cb) (Nat.le_refl _)), bl6⟩, ?_, fun i hi => ?_⟩
    ⟨op, pl, pv, cp, hop, hmem _ mopc (by show L + 1 + 1 + 1 ≠ _; (unfold Addr at *; omega)) (by show L + 1 + 1 + 1 ≠ _; (unfold Addr at *; omega)) (bsg (L + 1 + 1 + 1, op) (by show L + 1 + 1 + 1 ≤ _; (unfold Addr at *; omega))), mem_hi.mpr ⟨mpv, by show _ < pl; (unfold Addr at *; omega)⟩, by rw [e1] at hpv; exact hpv⟩
    (fun q hq hn => ?_) Kd.node
  · rw [List.length_map, hbs, hP.1]
  · have hib : i < bs.length := by rw [hbs, hP.1]; exact hi
    obtain ⟨ks, e, mb, hk⟩ := Kd.kids i bs[i] (List.getElem?_eq_getElem hib)
    refine ⟨bs[i], ks, e, by rw [List.getElem?_map, List.getElem?_eq_getElem hib]; rfl, mem_hi.mpr ⟨mb, ?_⟩, ?_⟩
    · have := bbs _ (List.getElem_mem hib)
      show _ < bs[i]
      (unfold Addr at *; omega)
    · rw [e1, kidsTo_all] at hk; exact hk
  · have n1 : q.1 ≠ L + 1 := fun e => hn (e ▸ .head _)
    have n2 : q.1 ≠ L + 1 + 1 := fun e => hn (e ▸ .tail _ (.head _))
    have n3 : q.1 ≠ L + 1 + 1 + 1 := fun e => hn (e ▸ .tail _ (.tail _ (.head _)))
    have q2 := k2 q (up1 _ hq) n2
    have q3 := k3 q (upb _ q2) n3
    exact hmem q (upc _ q3) n1 (Nat.ne_of_lt (hplr _ q3)) (bsg q (Nat.le_of_lt (bab _ q2)))

end
section
variable {q1 q2 q3 q4 q5 q6 q7 q8 q9 q10 q11 q12 q13 q14 q15 q16 q17 q18 : Stmt} {nm ql : Str} {psL : Arguments} {sc : Scope} {cdv cd : Value} {f : Addr}
theorem g_texts {w : World} {p : Program} {loose : List Str} {mean : ExcName → Option Value} {mg mb : Str → Option Value} {h₀ : Heap} {L : Addr} {m : Str → Option Value} {s : Shared} {news : List (Addr × Obj)}
  {pa : Addr} {vs : List Value} {ca : Nat} {P : List Nat} {rest : List Stmt} (F : Fr h₀ L s.heap m) (X : (hd.heap_39 w.params).In h₀) (N : News h₀ L s.heap news) (T : Top p loose mean mg mb h₀)
  (hFn : LawK w nm ql psL sc cdv q1 q2 q3 q4 q5 q6 q7 q8 q9 q10 q11 q12 q13 q14 q15 q16 q17 q18)
  (Tr : Tree P) (pF : ParF L pa vs ca P m news) (kF : KidsF L P news) (aF : PathsF L P news)
  (u1 : Un (L + 1) news) (u4 : Un (L + 1 + 1 + 1 + 1) news) (u5 : Un (L + 1 + 1 + 1 + 1 + 1) news) {Q : Flow → Shared → Prop}
  (hret : ∀ h' tk' full Kd, Fr h₀ L h' m → News h₀ L h' full → ParF L pa vs ca P m full → KidsF L P full → PathsF L P full → KindsF L P Kd full → TextsF L P full → (∀ q ∈ news, q.1 ∉ [L + 1, L + 1 + 1 + 1 + 1, L + 1 + 1 + 1 + 1 + 1] → q ∈ full) → Un (L + 1) full →
    wpT (model PySem.Challenge.rw_ez0274_01.prog w) (AM 310 310) (execs rest (envOfC ql sc L f cd)) Q (fun _ _ => False) { s with heap := h', toks := tk' }) :
  wpT (model PySem.Challenge.rw_ez0274_01.prog w) (AM 310 310) (execs (q6 :: q7 :: q8 :: rest) (envOfC ql sc L f cd)) Q (fun _ _ => False) s := by
  have pF' := pF
  have kF' := kF
  have aF' := aF
  obtain ⟨hpm, hpa, hP⟩ := pF
  obtain ⟨hpa, pa6⟩ := mem_hi.mp hpa
  obtain ⟨ob, bl, bv, cb, hob, mob, mbl, hKI⟩ := kF
  obtain ⟨mbl, bl6⟩ := mem_hi.mp mbl
  obtain ⟨op, pl, pv, cp, hop, mop, mpl, hpv⟩ := aF
  obtain ⟨mpl, pl6⟩ := mem_hi.mp mpl
  obtain ⟨o1, x1, m1, ho1⟩ := u1
  obtain ⟨o4, x4, m4, ho4⟩ := u4
  obtain ⟨o5, x5, m5, ho5⟩ := u5
  have hlen3 : vs.length ≤ 1000 := by rw [hP.1]; have := Tr.hi; omega
  obtain ⟨r4, N4, k4, k4'⟩ := pull N m4
  have hiO : ∀ q : Addr × Obj, L + 1 + 1 + 1 + 1 + 1 + 1 < q.1 → ∀ a, a ≤ L + 1 + 1 + 1 + 1 + 1 + 1 → q.1 ≠ a := fun q h a ha e => by rw [e] at h; exact absurd h (Nat.not_lt.mpr ha)
  refine stepT (l_kinds F X (fun p hp => N4 p (.tail _ hp)) T hFn Tr N4 ho4 (fun p hp => (k4' p hp).2) hop (k4 _ mop (by show L + 1 + 1 + 1 ≠ _; (unfold Addr at *; omega))) (k4 _ mpl (hiO _ pl6 _ (by (unfold Addr at *; omega)))) hpv fun hb tkb kl ck kd tlk ok Fb Nb hok hkd hKA abk abt => ⟨rfl, ?_⟩)
  generalize hfb : (L + 1 + 1 + 1 + 1, ok) :: (kl, listOf (kd.map Value.ref).toArray ck) :: (tlk ++ r4) = fullb at Nb
  have upb : ∀ q ∈ r4, q ∈ fullb := fun q hq => by rw [← hfb]; exact .tail _ (.tail _ (List.mem_append_right _ hq))
  have mok : (L + 1 + 1 + 1 + 1, ok) ∈ fullb := by rw [← hfb]; exact .head _
  have mkl : (kl, listOf (List.toArray (kd.map Value.ref)) ck) ∈ fullb := by rw [← hfb]; exact .tail _ (.head _)
  have mtk : ∀ q ∈ tlk, q ∈ fullb := fun q hq => by rw [← hfb]; exact .tail _ (.tail _ (List.mem_append_left _ hq))
  have kl6 : L + 1 + 1 + 1 + 1 + 1 + 1 < kl := Nat.lt_trans pa6 (abk _ (k4 _ hpa (hiO _ pa6 _ (by (unfold Addr at *; omega)))))
  obtain ⟨r5, N5, k5, k5'⟩ := pull Nb (upb _ (k4 _ m5 (by show L + 1 + 1 + 1 + 1 + 1 ≠ _; (unfold Addr at *; omega))))
  have to5 : ∀ q ∈ news, q.1 ∉ [L + 1, L + 1 + 1 + 1 + 1, L + 1 + 1 + 1 + 1 + 1] → q ∈ r5 := fun q hq hn => k5 _ (upb _ (k4 _ hq fun e => hn (e ▸ .tail _ (.head _)))) fun e => hn (e ▸ .tail _ (.tail _ (.head _)))
  have hi5 : ∀ q ∈ news, L + 1 + 1 + 1 + 1 + 1 + 1 < q.1 → q ∈ r5 := fun q hq h => k5 _ (upb _ (k4 _ hq (hiO _ h _ (by (unfold Addr at *; omega))))) (hiO _ h _ (by (unfold Addr at *; omega)))
  refine stepT (l_texts0 (s := { s with heap := hb, toks := tkb }) Fb X (fun p hp => N5 p (.tail _ hp)) T hFn N5 ho5 (fun p hp => (k5' p hp).2) hpm (hi5 _ hpa pa6) hlen3 fun hc tkc tl ct ys ot Fc Nc hot hys abt2 => ⟨rfl, ?_⟩)
  generalize hfc : (L + 1 + 1 + 1 + 1 + 1, ot) :: (tl, listOf (List.toArray ys) ct) :: r5 = fullc at Nc
  have upc : ∀ q ∈ r5, q ∈ fullc := fun q hq => by rw [← hfc]; exact .tail _ (.tail _ hq)
  have mot : (L + 1 + 1 + 1 + 1 + 1, ot) ∈ fullc := by rw [← hfc]; exact .head _
  have mtl : (tl, listOf (List.toArray ys) ct) ∈ fullc := by rw [← hfc]; exact .tail _ (.head _)
  have tl6 : L + 1 + 1 + 1 + 1 + 1 + 1 < tl := Nat.lt_trans pa6 (abt2 _ (hi5 _ hpa pa6))
  have off : ∀ q : Addr × Obj, q ∈ fullc → q.1 ≠ L + 1 → q.1 ≠ tl → q ∈ offs [L + 1, tl] fullc := fun q hq a b => mem_offs.mpr ⟨hq, fun e => by
    rcases List.mem_cons.mp e with e | e
    · exact a e
    · exact b (List.mem_singleton.mp e)⟩
  have st : ∀ q ∈ offs [L + 1, tl] fullc, q.1 ≠ L + 1 ∧ q.1 ≠ tl := fun q hq => by
    have := (mem_offs.mp hq).2
    exact ⟨fun e => this (e ▸ .head _), fun e => this (e ▸ .tail _ (.head _))⟩
  have hi6 : ∀ q ∈ hi L news, q ∈ offs [L + 1, tl] fullc := fun q hq => by
    obtain ⟨a, b⟩ := mem_hi.mp hq
    exact off q (upc _ (hi5 q a b)) (hiO _ b _ (by (unfold Addr at *; omega))) (Nat.ne_of_lt (abt2 _ (hi5 q a b)))
  have lo6 : ∀ q ∈ news, q.1 ≤ L + 1 + 1 + 1 + 1 + 1 + 1 → q.1 ∉ [L + 1, L + 1 + 1 + 1 + 1, L + 1 + 1 + 1 + 1 + 1] → q ∈ offs [L + 1, tl] fullc := fun q hq h hn =>
    off q (upc _ (to5 q hq hn)) (fun e => hn (e ▸ .head _)) fun e => by rw [e] at h; exact absurd tl6 (Nat.not_lt.mpr h)
  have m1b : (L + 1, o1) ∈ r5 := k5 _ (upb _ (k4 _ m1 (by show L + 1 ≠ _; (unfold Addr at *; omega)))) (by show L + 1 ≠ _; (unfold Addr at *; omega))
  have z0 : TextsSt L tl (offs [L + 1, tl] fullc) P 0 fullc := by
    refine ⟨⟨o1, x1, upc _ m1b, ho1⟩, ⟨ys, ct, mtl, ?_, fun c h1 h2 => absurd h2 (by omega)⟩, fun q hq => (mem_offs.mp hq).1⟩
    rw [hys.1, List.length_replicate, hP.1]
  refine stepT (l_texts (s := { s with heap := hc, toks := tkc }) Fc X Nc T hFn Tr hP hpm (hi6 _ (mem_hi.mpr ⟨hpa, pa6⟩)) hob (lo6 _ mob (by show L + 1 + 1 ≤ _; (unfold Addr at *; omega)) (by intro hh; simp only [List.mem_cons, List.not_mem_nil, or_false] at hh; (unfold Addr at *; omega))) (hi6 _ (mem_hi.mpr ⟨mbl, bl6⟩)) hot (off _ mot (by show L + 1 + 1 + 1 + 1 + 1 ≠ _; (unfold Addr at *; omega)) (by show L + 1 + 1 + 1 + 1 + 1 ≠ _; (unfold Addr at *; omega))) (hKI.mono hi6) (by (unfold Addr at *; omega)) st z0 fun hd tkd full Fd Nd Td => ⟨rfl, ?_⟩)
  have tof : ∀ q ∈ news, q.1 ∉ [L + 1, L + 1 + 1 + 1 + 1, L + 1 + 1 + 1 + 1 + 1] → q ∈ full := fun q hq hn => Td.stat _ (off q (upc _ (to5 q hq hn)) (fun e => hn (e ▸ .head _)) (Nat.ne_of_lt (abt2 _ (to5 q hq hn))))
  have hif : ∀ q ∈ hi L news, q ∈ hi L full := fun q hq => mem_hi.mpr ⟨Td.stat _ (hi6 q hq), (mem_hi.mp hq).2⟩
  obtain ⟨tv, cv, mtv, tvl, htv⟩ := Td.texts
  refine hret hd tkd full (fun j => kd.getD j 0) Fd Nd (pF'.mono rfl hif) (kF'.mono hif fun o ho => tof _ ho (by intro hh; simp only [List.mem_cons, List.not_mem_nil, or_false] at hh; (unfold Addr at *; omega))) (aF'.mono hif fun o ho => tof _ ho (by intro hh; simp only [List.mem_cons, List.not_mem_nil, or_false] at hh; (unfold Addr at *; omega)))
    ⟨ok, kl, kd.map Value.ref, ck, hok, Td.stat _ (off _ (upc _ (k5 _ mok (by show L + 1 + 1 + 1 + 1 ≠ _; (unfold Addr at *; omega)))) (by show L + 1 + 1 + 1 + 1 ≠ _; (unfold Addr at *; omega)) (by show L + 1 + 1 + 1 + 1 ≠ _; (unfold Addr at *; omega))), mem_hi.mpr ⟨Td.stat _ (off _ (upc _ (k5 _ mkl (hiO _ kl6 _ (by (unfold Addr at *; omega))))) (hiO _ kl6 _ (by (unfold Addr at *; omega))) (Nat.ne_of_lt (abt2 _ (k5 _ mkl (hiO _ kl6 _ (by (unfold Addr at *; omega))))))), kl6⟩, by rw [List.length_map, hkd], fun i hi => ?_, hKA.mono fun q hq => ?_⟩
    ⟨ot, tl, tv, cv, hot, Td.stat _ (off _ mot (by show L + 1 + 1 + 1 + 1 + 1 ≠ _; (unfold Addr at *; omega)) (by show L + 1 + 1 + 1 + 1 + 1 ≠ _; (unfold Addr at *; omega))), mem_hi.mpr ⟨mtv, tl6⟩, tvl, fun i hi => htv i (by omega) hi⟩ tof Td.node
  · have hi' : i < kd.length := by rw [hkd]; exact hi
    show _ = some (Value.ref (kd.getD i 0))
    rw [List.getElem?_map, List.getD_eq_getElem?_getD, List.getElem?_eq_getElem hi']; rfl
  · have q6 : L + 1 + 1 + 1 + 1 + 1 + 1 < q.1 := Nat.lt_trans kl6 (abt q hq)
    have q5 := k5 _ (mtk q hq) (hiO _ q6 _ (by (unfold Addr at *; omega)))
    exact mem_hi.mpr ⟨Td.stat _ (off _ (upc _ q5) (hiO _ q6 _ (by (unfold Addr at *; omega))) (Nat.ne_of_lt (abt2 _ q5))), q6⟩

end
section
variable {q1 q2 q3 q4 q5 q6 q7 q8 q9 q10 q11 q12 q13 q14 q15 q16 q17 q18 : Stmt} {nm ql : Str} {psL : Arguments} {sc : Scope} {cdv cd : Value} {f : Addr}
theorem l_node_turn {w : World} {p : Program} {loose : List Str} {mean : ExcName → Option Value} {mg mb : Str → Option Value} {h₀ : Heap} {L : Addr} {m : Str → Option Value} {s : Shared}
  {tgt iter tgt2 iter2 : Expr} {a1 a2 a3 a5 b1 b2 b3 b4 : Stmt} {fp fp2 : Pos} {plc tb pa I : Addr} {o₁ : Obj} {stat rest : List (Addr × Obj)} {P : List Nat} {Kd : Nat → Addr} {k : Nat} {t : Tok}
  (F : Fr h₀ L s.heap m) (X : (hd.heap_39 w.params).In h₀) (N : News h₀ L s.heap ((I, o₁) :: rest)) (T : Top p loose mean mg mb h₀)
  (hFn : LawK w nm ql psL sc cdv q1 q2 q3 q4 q5 q6 q7 q8 q9 q10 (.For tgt iter [a1, a2, a3, .For tgt2 iter2 [b1, b2, b3, b4] [] fp2, a5] [] fp) q12 q13 q14 q15 q16 q17 q18)
  (C4 : CodeHd h₀ 434 430) (C7 : CodeHd h₀ 411 407) (Tr : Tree P) (St : Stat w L P Kd stat plc) (hk : k < P.length)
  (d1 : plc ≠ L + 1) (d2 : plc ≠ tb) (d3 : plc ≠ 407) (d4 : plc ≠ 430) (d5 : tb ≠ L + 1) (d6 : tb ≠ 407) (d7 : tb ≠ 430) (d8 : L + 1 ≠ 407) (d9 : L + 1 ≠ 430) (hts : (tb == sysModules) = false)
  (hS : TabSt w L plc tb pa stat [L + 1, plc, tb, 407, 430] P Kd k m rest) (hneI : ∀ q ∈ rest, q.1 ≠ I)
  {Q : Flow → Shared → Prop}
  (hret : ∀ m' h' tk' full, Fr h₀ L h' m' → News h₀ L h' full → (I, o₁) ∈ full → (∀ rest', (∀ q ∈ full, q.1 ≠ I → q ∈ rest') → TabSt w L plc tb pa stat [L + 1, plc, tb, 407, 430] P Kd (k + 1) m' rest') → Q .next { s with heap := h', toks := tk' }) :
  wpAny (model PySem.Challenge.rw_ez0274_01.prog w) (AM 850 900) (assign tgt (envOfC ql sc L f cd) (.int (k : Nat) t)) (fun _ s₁ => wpAny (model PySem.Challenge.rw_ez0274_01.prog w) (AM 850 900) (execs [a1, a2, a3, .For tgt2 iter2 [b1, b2, b3, b4] [] fp2, a5] (envOfC ql sc L f cd)) Q (fun _ _ => False) s₁) (fun _ _ => False) s := by
  have hlo := Tr.lo
  have hhi := Tr.hi
  obtain ⟨on, xn, mon, hon⟩ := hS.node
  obtain ⟨pv, cp, mpv, hpv⟩ := hS.places
  obtain ⟨made, tab7, tab4, otb, kvs, hsm, hmd, m407, ht7, m430, ht4, mtb, hdt, hkvs⟩ := hS.made
  obtain ⟨ob, bl, bv, cb, hob, mob, hbl, hkids⟩ := St.kids
  obtain ⟨ok, kl, kv, cx, hok, mok, hkl, hkvl, hkv, hKs⟩ := St.kinds
  obtain ⟨opl, hopl, mopl⟩ := St.places
  obtain ⟨bk, ks, ek, g1, g2, g3⟩ := hkids.2 k hk
  obtain ⟨tpl, g4⟩ := hpv.2 k hk (by
    by_cases h0 : k = 0
    · exact .inl h0
    · exact .inr (.inl (Tr.lt k (by omega) hk)))
  obtain ⟨r, N2, k1, k2⟩ := pulls (ps := [(L + 1, on)]) N (fun q hq => by cases List.mem_singleton.mp hq; exact .tail _ mon)
  have N2 : News h₀ L s.heap ((L + 1, on) :: r) := N2
  have kk : ∀ q ∈ (I, o₁) :: rest, q.1 ≠ L + 1 → q ∈ r := fun q hq h => k1 q hq fun z hz => by cases List.mem_singleton.mp hz; exact h
  have hL1bad : ∀ q ∈ made, q.1 ≠ L + 1 := fun q hq e => (hmd q hq).2 (e ▸ .head _)
  have hmr : ∀ q ∈ made, q ∈ r := fun q hq => kk q (.tail _ (hmd q hq).1) (hL1bad q hq)
  have hsr : ∀ q ∈ stat, q ∈ r := fun q hq => hmr q (hsm q hq)
  have hIr : (I, o₁) ∈ r := kk _ (.head _) (hneI _ mon).symm
  have mpv' : (plc, listOf pv.toArray cp) ∈ r := kk _ (.tail _ mpv) d1
  have mtb' : (tb, otb) ∈ r := kk _ (.tail _ mtb) d5
  have m407' : ((407 : Addr), tabObj tab7) ∈ r := kk _ (.tail _ m407) d8.symm
  have m430' : ((430 : Addr), tabObj tab4) ∈ r := kk _ (.tail _ m430) d9.symm
  refine then_four (R := fun s₄ => wpAny (model PySem.Challenge.rw_ez0274_01.prog w) (AM 850 900) (eval iter2 (envOfC ql sc L f cd)) (fun v s₅ => v = .ref bk ∧ wpAny (model PySem.Challenge.rw_ez0274_01.prog w) (AM 850 900) (pyIter (.ref bk)) (fun it s₂ => codeAny (model PySem.Challenge.rw_ez0274_01.prog w) (AM 850 900) (.forLoop tgt2 it [b1, b2, b3, b4] [] (envOfC ql sc L f cd)) (fun r₁ s' => r₁ = .ok .next ∧ wpAny (model PySem.Challenge.rw_ez0274_01.prog w) (AM 850 900) (exec a5 (envOfC ql sc L f cd)) (fun f5 s₆ => f5 = .next ∧ Q .next s₆) (fun _ _ => False) s') s₂) (fun _ _ => False) s₅) (fun _ _ => False) s₄) (l_node_head F X (fun q hq => N2 q (.tail _ hq)) T hFn N2 hon (fun q hq => (k2 q hq).2 _ (.head _)) hob (hsr _ mob) (hsr _ hbl) hok (hsr _ mok) (hsr _ hkl) hopl (hsr _ mopl) mpv' g1 (hkv k hk) g4 (by rw [hkids.1]; omega) (by omega) (by rw [hpv.1]; omega) ?_) fun s₄ h₄ => ?_
  case refine_2 =>
    refine wpAny_execs_cons (wpAny_For (wpAny_mono h₄ (fun v s₅ h₅ => ?_) fun _ _ x => x.elim) (l_fold11 X hFn _).pure)
    obtain ⟨rfl, h₅⟩ := h₅
    refine wpAny_mono h₅ (fun it s₂ h₂ => codeAny_mono h₂ fun r₁ s' hr => ?_) fun _ _ x => x.elim
    obtain ⟨rfl, hr⟩ := hr
    exact wpAny_execs_cons (wpAny_mono hr (fun f5 s₆ h₆ => by obtain ⟨rfl, h₆⟩ := h₆; exact wpAny_execs_nil h₆) fun _ _ x => x.elim)
  intro m1 h1 tk1 on1 pcs acs tk2 F1 N1 hon1 hlp hpa n1 n2 n3 n4 n5
  have hpr : ∀ q ∈ r, q.1 < pcs := fun q hq => hlp q (.tail _ hq)
  have har : ∀ q ∈ r, q.1 < acs := fun q hq => Nat.lt_trans (hpr q hq) hpa
  have hpL : L + 1 < pcs := hlp _ (.head _)
  refine ⟨rfl, l_children (s := { s with heap := h1, toks := tk1 }) (acs := acs) (pcs := pcs) (pa := pa) (tbv := some (.ref tb)) (keep := [(L + 1, on1), (tb, otb), (407, tabObj tab7), (I, o₁)]) (stat := made) (bad := I :: pcs :: acs :: [L + 1, plc, tb, 407, 430]) F1 X N1 T hFn C4 Tr (St.mono hsm) hk ?_ ?_ ⟨on1, .head _⟩ ?_ (Nat.ne_of_lt (hpr _ mpv')) (Nat.ne_of_lt (har _ mpv')) d4 (Nat.ne_of_lt hpa) (Nat.ne_of_gt (hpr _ m430')) (Nat.ne_of_gt (har _ m430')) ?_ (hsm _ g2) g3 ?_⟩
  · exact ⟨.tail _ (.tail _ (.tail _ (.tail _ (.head _)))), .tail _ (.head _), .tail _ (.tail _ (.head _)), .tail _ (.tail _ (.tail _ (.tail _ (.tail _ (.tail _ (.tail _ (.head _)))))))⟩
  · intro b hb
    simp only [List.mem_cons, List.not_mem_nil, or_false] at hb
    rcases hb with rfl | rfl | rfl | rfl | rfl | rfl | rfl | rfl
    · exact .inr (.inr (.inr (.inr ⟨o₁, .tail _ (.tail _ (.tail _ (.head _)))⟩)))
    · exact .inr (.inl rfl)
    · exact .inr (.inr (.inl rfl))
    · exact .inr (.inr (.inr (.inr ⟨on1, .head _⟩)))
    · exact .inl rfl
    · exact .inr (.inr (.inr (.inr ⟨otb, .tail _ (.head _)⟩)))
    · exact .inr (.inr (.inr (.inr ⟨_, .tail _ (.tail _ (.head _))⟩)))
    · exact .inr (.inr (.inr (.inl rfl)))
  · intro q hq
    simp only [List.mem_cons, List.not_mem_nil, or_false] at hq
    rcases hq with rfl | rfl | rfl | rfl
    · exact ⟨d1.symm, Nat.ne_of_lt hpL, Nat.ne_of_lt (Nat.lt_trans hpL hpa), d9⟩
    · exact ⟨d2.symm, Nat.ne_of_lt (hpr _ mtb'), Nat.ne_of_lt (har _ mtb'), d7⟩
    · exact ⟨d3.symm, Nat.ne_of_lt (hpr _ m407'), Nat.ne_of_lt (har _ m407'), fun e => absurd e (by decide : (407 : Nat) ≠ 430)⟩
    · exact ⟨(hneI _ mpv).symm, Nat.ne_of_lt (hpr _ hIr), Nat.ne_of_lt (har _ hIr), (hneI _ m430).symm⟩
  · refine ⟨⟨tk2, by rw [n1, List.take_zero]; rfl⟩, n2, n3, by rw [n4]; exact hS.mpar, by rw [n5]; exact hS.mtab, ⟨pv, cp, .tail _ (.tail _ (.tail _ mpv')), hpv⟩, ⟨[], 0, rfl, .tail _ (.head _)⟩,
      ⟨made, tab4, [], 0, fun q hq => hq, fun q hq => ⟨.tail _ (.tail _ (.tail _ (hmr q hq))), fun hb => ?_⟩, .tail _ (.tail _ (.tail _ m430')), ht4, .head _, rfl, fun j c v _ hv => by simp at hv⟩, fun q hq => ?_⟩
    · rcases List.mem_cons.mp hb with e | hb
      · exact hneI q (hmd q hq).1 e
      rcases List.mem_cons.mp hb with e | hb
      · exact absurd e (Nat.ne_of_lt (hpr q (hmr q hq)))
      · rcases List.mem_cons.mp hb with e | hb
        · exact absurd e (Nat.ne_of_lt (har q (hmr q hq)))
        · exact (hmd q hq).2 hb
    · simp only [List.mem_cons, List.not_mem_nil, or_false] at hq
      rcases hq with rfl | rfl | rfl | rfl
      · exact .tail _ (.tail _ (.head _))
      · exact .tail _ (.tail _ (.tail _ mtb'))
      · exact .tail _ (.tail _ (.tail _ m407'))
      · exact .tail _ (.tail _ (.tail _ hIr))
  intro m3 h3 tk3 full hC F3 N3
  refine ⟨rfl, ?_⟩
  obtain ⟨pv3, cp3, mpv3, hpv3⟩ := hC.places
  obtain ⟨tks, cq3, htks, mps3⟩ := hC.pieces
  obtain ⟨made3, tab43, acts, ca3, hsm3, hmd3, m4303, ht43, mac3, hal, hacts⟩ := hC.acts
  have hkeep := hC.keep
  have hon3 : (L + 1, on1) ∈ full := hkeep _ (.head _)
  have htb3 : (tb, otb) ∈ full := hkeep _ (.tail _ (.head _))
  have h4073 : ((407 : Addr), tabObj tab7) ∈ full := hkeep _ (.tail _ (.tail _ (.head _)))
  have hI3 : (I, o₁) ∈ full := hkeep _ (.tail _ (.tail _ (.tail _ (.head _))))
  have hm3 : ∀ q ∈ made3, q ∈ full := fun q hq => (hmd3 q hq).1
  have hI3' : ∀ q ∈ made3, q.1 ≠ I := fun q hq e => (hmd3 q hq).2 (e ▸ .head _)
  have hbad3 : ∀ q ∈ made3, q.1 ∉ [L + 1, plc, tb, 407, 430] := fun q hq e => (hmd3 q hq).2 (.tail _ (.tail _ (.tail _ e)))
  have w0 : ∀ q ∈ stat, q ∈ made3 := fun q hq => hsm3 q (hsm q hq)
  have hLI : L + 1 ≠ I := hneI (L + 1, on) mon
  have hplI : plc ≠ I := hneI _ mpv
  have htI : tb ≠ I := hneI _ mtb
  have h7I : (407 : Addr) ≠ I := hneI _ m407
  have h4I : (430 : Addr) ≠ I := hneI _ m430
  by_cases hkc : kids P k = []
  · have : ks = [] := List.eq_nil_of_length_eq_zero (by rw [g3.1, hkc]; rfl)
    subst this
    refine l_node_leaf (s := { s with heap := h3, toks := tk3 }) F3 X N3 T hFn hon1 hon3 hob (hm3 _ (w0 _ mob)) (hm3 _ (w0 _ hbl)) g1 (hm3 _ (w0 _ g2)) (by rw [hkids.1]; omega) fun h5 tk5 F5 N5 => ⟨rfl, ?_⟩
    refine hret m3 h5 tk5 full F5 N5 hI3 fun rest' u1 => ⟨⟨on1, _, u1 _ hon3 hLI, hon1⟩, hC.mpar, hC.mtab, ⟨pv3, cp3, u1 _ mpv3 hplI, hpv3.next Tr⟩, made3, tab7, tab43, otb, kvs, w0, fun q hq => ⟨u1 q (hm3 q hq) (hI3' q hq), hbad3 q hq⟩, u1 _ h4073 h7I, ht7.mono hsm3, u1 _ m4303 h4I, ht43, u1 _ htb3 htI, hdt, (hkvs.mono hsm3).skip hkc⟩
  · have hkn : ks ≠ [] := fun e => hkc (List.eq_nil_of_length_eq_zero (by rw [← g3.1, e]; rfl))
    have hkl11 : (kids P k).length ≤ 11 := Nat.le_trans (kids_length _) hhi
    obtain ⟨r2, N4, j1, j2⟩ := pulls (ps := [((407 : Addr), tabObj tab7), (tb, otb)]) N3 (fun q hq => by
      simp only [List.mem_cons, List.not_mem_nil, or_false] at hq
      rcases hq with rfl | rfl
      · exact h4073
      · exact htb3)
    have N4 : News h₀ L h3 (((407 : Addr), tabObj tab7) :: (tb, otb) :: r2) := N4
    have jj : ∀ q ∈ full, q.1 ≠ 407 → q.1 ≠ tb → q ∈ r2 := fun q hq a b => j1 q hq fun z hz => by
      simp only [List.mem_cons, List.not_mem_nil, or_false] at hz
      rcases hz with rfl | rfl
      · exact a
      · exact b
    have hmr2 : ∀ q ∈ made3, q ∈ r2 := fun q hq => jj q (hm3 q hq) (fun e => hbad3 q hq (e ▸ .tail _ (.tail _ (.tail _ (.head _))))) (fun e => hbad3 q hq (e ▸ .tail _ (.tail _ (.head _))))
    have on2 : (L + 1, on1) ∈ r2 := jj _ hon3 d8 d5.symm
    have pl2 : (plc, listOf pv3.toArray cp3) ∈ r2 := jj _ mpv3 d3 d2
    have t42 : ((430 : Addr), tabObj tab43) ∈ r2 := jj _ m4303 (fun e => absurd e (by decide : (430 : Nat) ≠ 407)) d7.symm
    have I2 : (I, o₁) ∈ r2 := jj _ hI3 h7I.symm htI.symm
    have ps2 := jj _ mps3 (Nat.ne_of_gt (hpr _ m407')) (Nat.ne_of_gt (hpr _ mtb'))
    have ac2 := jj _ mac3 (Nat.ne_of_gt (har _ m407')) (Nat.ne_of_gt (har _ mtb'))
    have hkvl11 : kvs.length ≤ 1000 := by
      have := congrArg List.length hkvs.1
      rw [List.length_map, List.length_map] at this
      have h2 : (nodesTo P k).length ≤ k := Nat.le_trans (List.length_filter_le _ _) (Nat.le_of_eq List.length_range)
      omega
    refine l_node_row (s := { s with heap := h3, toks := tk3 }) (src := made3) F3 X (fun q hq => N4 q (.tail _ (.tail _ hq))) T hFn C7 hmr2 (ht7.mono hsm3) N4 (fun q hq => (j2 q hq).2 _ (.tail _ (.head _))) (fun q hq => (j2 q hq).2 _ (.head _)) d6 hdt hkvl11 hts hon1 on2 hob (hmr2 _ (w0 _ mob)) (hmr2 _ (w0 _ hbl)) g1 (hmr2 _ (w0 _ g2)) hkn (by rw [hkids.1]; omega) (by rw [g3.1]; omega) (by omega) hC.mp hC.ma hC.mtab ps2 ac2 (by rw [List.length_cons]; omega) (by simp) ?_
    intro h5 tk5 otb5 lst F5 hR hd5
    refine ⟨rfl, ?_⟩
    obtain ⟨tab5, tl, tr, a, b, d, rr, h1', t1', e', N5, ht5, A5, x1, x2, x3, x4, x5, hb5⟩ := hR
    have up5 : ∀ q ∈ r2, q ∈ (tb, otb5) :: ((407 : Addr), tabObj tab5) :: (tl ++ r2) := fun q hq => .tail _ (.tail _ (List.mem_append_right _ hq))
    rw [List.take_length] at ps2
    have ltl : ∀ q ∈ tl, ∀ z ∈ r2, z.1 < q.1 := fun q hq z hz => A5 q hq z (.tail _ (.tail _ hz))
    refine hret m3 h5 tk5 _ F5 N5 (up5 _ I2) fun rest' u1 => ⟨⟨on1, _, u1 _ (up5 _ on2) hLI, hon1⟩, hC.mpar, hC.mtab, ⟨pv3, cp3, u1 _ (up5 _ pl2) hplI, hpv3.next Tr⟩, tl ++ _ :: made3, tab5, tab43, otb5, _, fun q hq => List.mem_append_right _ (.tail _ (w0 q hq)), fun q hq => ?_, u1 _ (.tail _ (.head _)) h7I, ht5.mono fun q hq => ?_, u1 _ (up5 _ t42) h4I, ht43.mono fun q hq => List.mem_append_right _ (.tail _ hq), u1 _ (.head _) htI, hd5,
      KvsOk.step (hkvs.mono fun q hq => List.mem_append_right _ (.tail _ (hsm3 q hq))) hkc (by omega) (List.mem_append_left _ x1) (List.mem_append_left _ x2) ⟨d, rr, pcs, h1', t1', cq3, 0, tks, acts, List.mem_append_left _ x3, List.mem_append_left _ x4, List.mem_append_left _ x5, List.mem_append_right _ (.head _), htks, hb5.mono (fun q hq => List.mem_append_left _ hq) (fun q hq => ?_), hal, fun i c v hi hv => (hacts i c v hi hv).mono fun q hq => List.mem_append_right _ (.tail _ hq)⟩⟩
    · rcases List.mem_append.mp hq with hq | hq
      · refine ⟨u1 q (.tail _ (.tail _ (List.mem_append_left _ hq))) (Nat.ne_of_gt (ltl q hq _ I2)), fun hb => ?_⟩
        simp only [List.mem_cons, List.not_mem_nil, or_false] at hb
        rcases hb with e | e | e | e | e
        · exact absurd e (Nat.ne_of_gt (ltl q hq _ on2))
        · exact absurd e (Nat.ne_of_gt (ltl q hq _ pl2))
        · exact absurd e (Nat.ne_of_gt (A5 q hq _ (.tail _ (.head _))))
        · exact absurd e (Nat.ne_of_gt (A5 q hq _ (.head _)))
        · exact absurd e (Nat.ne_of_gt (ltl q hq _ t42))
      · rcases List.mem_cons.mp hq with rfl | hq
        · refine ⟨u1 _ (up5 _ ps2) (Nat.ne_of_gt (hpr _ hIr)), fun hb => ?_⟩
          simp only [List.mem_cons, List.not_mem_nil, or_false] at hb
          rcases hb with e | e | e | e | e
          · exact absurd e (Nat.ne_of_gt hpL)
          · exact absurd e (Nat.ne_of_gt (hpr _ mpv'))
          · exact absurd e (Nat.ne_of_gt (hpr _ mtb'))
          · exact absurd e (Nat.ne_of_gt (hpr _ m407'))
          · exact absurd e (Nat.ne_of_gt (hpr _ m430'))
        · exact ⟨u1 q (up5 _ (hmr2 q hq)) (hI3' q hq), hbad3 q hq⟩
    · rcases List.mem_append.mp hq with hq | hq
      · exact List.mem_append_left _ hq
      · exact List.mem_append_right _ (.tail _ hq)
    · rcases List.mem_append.mp hq with hq | hq
      · exact List.mem_append_left _ hq
      · exact List.mem_append_right _ (.tail _ hq)

end
section
variable {q1 q2 q3 q4 q5 q6 q7 q8 q9 q10 q11 q12 q13 q14 q15 q16 q17 q18 : Stmt} {nm ql : Str} {psL : Arguments} {sc : Scope} {cdv cd : Value} {f : Addr}
theorem l_table0 {w : World} {p : Program} {loose : List Str} {mean : ExcName → Option Value} {mg mb : Str → Option Value} {h₀ : Heap} {L : Addr} {m : Str → Option Value} {s : Shared} {news : List (Addr × Obj)} (F : Fr h₀ L s.heap m) (X : (hd.heap_39 w.params).In h₀) (N : News h₀ L s.heap news) (T : Top p loose mean mg mb h₀)
  (hFn : LawK w nm ql psL sc cdv q1 q2 q3 q4 q5 q6 q7 q8 q9 q10 q11 q12 q13 q14 q15 q16 q17 q18) {Q : Flow → Shared → Prop}
  (hret : ∀ m' h' tk' tb otb, Fr h₀ L h' m' → News h₀ L h' ((tb, otb) :: news) → (∀ p ∈ news, p.1 < tb) → (tb == sysModules) = false → otb.IsDictOf (strKind PySem.Challenge.rw_ez0274_01.prog w) ([] : List (Str × Value)) → m' (Str.ofString "table") = some (.ref tb) → m' (Str.ofString "parents") = m (Str.ofString "parents") → Q .next { s with heap := h', toks := tk' }) :
  wpAny (model PySem.Challenge.rw_ez0274_01.prog w) (AM 850 900) (exec q10 (envOfC ql sc L f cd)) Q (fun _ _ => False) s := by
  revert X; k_fill; intro X
  obtain ⟨oc, od, dV, kV, doc, pm, an, ct, osl, hK⟩ := hFn
  refine key_of (by k_is) hK (fun e => ?_)
  cases e
  k_steps
  any_goals try k_data
  any_goals (with_reducible try exact trivial)
  exact hret _ _ _ _ _ (by assumption) (by assumption) (by assumption) (by assumption) (by assumption) (by rfl) (by rfl)
theorem l_table {w : World} {p : Program} {loose : List Str} {mean : ExcName → Option Value} {mg mb : Str → Option Value} {h₀ : Heap} {L : Addr} {m : Str → Option Value} {s : Shared} {news : List (Addr × Obj)}
  {pa tb plc : Addr} {vs : List Value} {ca : Nat} {P : List Nat} {Kd : Nat → Addr} {stat : List (Addr × Obj)} (F : Fr h₀ L s.heap m) (X : (hd.heap_39 w.params).In h₀) (N : News h₀ L s.heap news) (T : Top p loose mean mg mb h₀)
  (hFn : LawK w nm ql psL sc cdv q1 q2 q3 q4 q5 q6 q7 q8 q9 q10 q11 q12 q13 q14 q15 q16 q17 q18)
  (C4 : CodeHd h₀ 434 430) (C7 : CodeHd h₀ 411 407) (Tr : Tree P) (St : Stat w L P Kd stat plc) (hP : NatsAre vs P) (hpa : (pa, listOf vs.toArray ca) ∈ stat)
  (d1 : plc ≠ L + 1) (d2 : plc ≠ tb) (d3 : plc ≠ 407) (d4 : plc ≠ 430) (d5 : tb ≠ L + 1) (d6 : tb ≠ 407) (d7 : tb ≠ 430) (d8 : L + 1 ≠ 407) (d9 : L + 1 ≠ 430) (hts : (tb == sysModules) = false)
  (hS : TabSt w L plc tb pa stat [L + 1, plc, tb, 407, 430] P Kd 0 m news) {Q : Flow → Shared → Prop}
  (hret : ∀ m' h' tk' full, Fr h₀ L h' m' → News h₀ L h' full → TabSt w L plc tb pa stat [L + 1, plc, tb, 407, 430] P Kd P.length m' full → Q .next { s with heap := h', toks := tk' }) :
  wpAny (model PySem.Challenge.rw_ez0274_01.prog w) (AM 850 900) (exec q11 (envOfC ql sc L f cd)) Q (fun _ _ => False) s := by
  have hFn' := hFn
  have X' := X
  have hlo := Tr.lo
  have hhi := Tr.hi
  have hlen : vs.length = P.length := hP.1
  have hlen' : vs.length ≤ 1000 := by omega
  have h1 := hS.mpar
  have hpaN : (pa, listOf vs.toArray ca) ∈ news := by
    obtain ⟨made, _, _, _, _, a, b, _⟩ := hS.made
    exact (b _ (a _ hpa)).1
  revert X; k_fill; intro X
  obtain ⟨oc, od, dV, kV, doc, pm, an, ct, osl, hK⟩ := hFn
  refine key_of (by k_is) hK (fun e => ?_)
  cases e
  k_steps
  any_goals try k_data
  any_goals (with_reducible try exact trivial)
  rename IsRange _ _ _ _ _ _ _ _ => hr
  rename Fr _ _ _ _ => F
  rename News _ _ _ _ => N
  refine loop_rangeR P.length F N hr (by rw [hlen]; exact small_up (a := 0) (by omega) (by omega)) (by rw [hlen]; exact range_up 0 (by omega)) rfl (fun i m₁ rest => TabSt w L plc tb pa stat [L + 1, plc, tb, 407, 430] P Kd i m₁ rest) hS ?_ ?_
  · intro I i t o₁ m₁ rest h tk hi hJ F₁ N₁ hne1 hne2
    rw [show (0 : Int) + ((i : Nat) : Int) * 1 = ((i : Nat) : Int) by omega]
    change Fr h₀ L h m₁ at F₁
    change News h₀ L h _ at N₁
    refine l_node_turn (s := { s with heap := h, toks := tk }) F₁ X' N₁ T hFn' C4 C7 Tr St hi d1 d2 d3 d4 d5 d6 d7 d8 d9 hts hJ hne1 fun m' h' tk' full F' N' hI hst => ?_
    exact NxtR.full F' N' hI fun rest' u1 _ => hst rest' u1
  · intro m₁ rest h tk hJ F₁ N₁
    exact hret _ _ _ _ F₁ N₁ hJ

end
section
variable {q1 q2 q3 q4 q5 q6 q7 q8 q9 q10 q11 q12 q13 q14 q15 q16 q17 q18 : Stmt} {nm ql : Str} {psL : Arguments} {sc : Scope} {cdv cd : Value} {f : Addr}
def PlacesF (L : Addr) (P : List Nat) (full : List (Addr × Obj)) : Prop := ∃ opl plc pv cp, opl.data = .cell (some (.ref plc)) ∧ (L + 1 + 1 + 1 + 1 + 1 + 1, opl) ∈ full ∧ (plc, listOf (List.toArray pv) cp) ∈ hi L full ∧ pv.length = P.length ∧ ∀ i, i < P.length → ∃ t, pv[i]? = some (.int (place P i : Nat) t)
theorem PlacesF.mono {L : Addr} {P : List Nat} {full full' : List (Addr × Obj)} (h : PlacesF L P full) (h1 : ∀ q ∈ hi L full, q ∈ hi L full') (h2 : ∀ o, (L + 1 + 1 + 1 + 1 + 1 + 1, o) ∈ full → (L + 1 + 1 + 1 + 1 + 1 + 1, o) ∈ full') : PlacesF L P full' := by
  obtain ⟨ob, bl, bv, cb, a, b, c, d⟩ := h
  exact ⟨ob, bl, bv, cb, a, h2 _ b, h1 _ c, d⟩
def TabF (w : World) (P : List Nat) (Kd : Nat → Addr) (m : Str → Option Value) (full : List (Addr × Obj)) : Prop := ∃ tb otb kvs, m (Str.ofString "table") = some (.ref tb) ∧ (tb, otb) ∈ full ∧ (tb == sysModules) = false ∧ otb.IsDictOf (strKind PySem.Challenge.rw_ez0274_01.prog w) kvs ∧ KvsOk w full P Kd P.length kvs
theorem TabF.mono {w : World} {P : List Nat} {Kd : Nat → Addr} {m m' : Str → Option Value} {full full' : List (Addr × Obj)} (h : TabF w P Kd m full) (e : m' (Str.ofString "table") = m (Str.ofString "table")) (hs : ∀ q ∈ full, q ∈ full') : TabF w P Kd m' full' := by
  obtain ⟨tb, otb, kvs, a, b, c, d, k⟩ := h
  exact ⟨tb, otb, kvs, e.trans a, hs _ b, c, d, k.mono hs⟩
def Gr (full : List (Addr × Obj)) : Prop := (∃ ps, (229, tabObj ps) ∈ full) ∧ (∃ ps, (430, tabObj ps) ∈ full) ∧ (∃ ps, (407, tabObj ps) ∈ full)
theorem g_table {w : World} {p : Program} {loose : List Str} {mean : ExcName → Option Value} {mg mb : Str → Option Value} {h₀ : Heap} {L : Addr} {m : Str → Option Value} {s : Shared} {news : List (Addr × Obj)}
  {pa : Addr} {vs : List Value} {ca : Nat} {P : List Nat} {Kd : Nat → Addr} {rest : List Stmt} (F : Fr h₀ L s.heap m) (X : (hd.heap_39 w.params).In h₀) (N : News h₀ L s.heap news) (T : Top p loose mean mg mb h₀)
  (hFn : LawK w nm ql psL sc cdv q1 q2 q3 q4 q5 q6 q7 q8 q9 q10 q11 q12 q13 q14 q15 q16 q17 q18)
  (C4 : CodeHd h₀ 434 430) (C7 : CodeHd h₀ 411 407) (l4 : 430 < L) (l7 : 407 < L) (l2 : 229 < L)
  (Tr : Tree P) (pF : ParF L pa vs ca P m news) (kF : KidsF L P news) (aF : PathsF L P news) (dF : KindsF L P Kd news) (tF : TextsF L P news)
  (u1 : Un (L + 1) news) (u6 : Un (L + 1 + 1 + 1 + 1 + 1 + 1) news) (t4 : (430, tabObj #[]) ∈ news) (t7 : (407, tabObj #[]) ∈ news) (t2 : (229, tabObj #[]) ∈ news) {Q : Flow → Shared → Prop}
  (hret : ∀ m' h' tk' full, Fr h₀ L h' m' → News h₀ L h' full → ParF L pa vs ca P m' full → KidsF L P full → PathsF L P full → KindsF L P Kd full → TextsF L P full → PlacesF L P full → TabF w P Kd m' full → Gr full → Un (L + 1) full →
    wpT (model PySem.Challenge.rw_ez0274_01.prog w) (AM 310 310) (execs rest (envOfC ql sc L f cd)) Q (fun _ _ => False) { s with heap := h', toks := tk' }) :
  wpT (model PySem.Challenge.rw_ez0274_01.prog w) (AM 310 310) (execs (q9 :: q10 :: q11 :: rest) (envOfC ql sc L f cd)) Q (fun _ _ => False) s := by
  have pF' := pF
  obtain ⟨hpm, hpa, hP⟩ := pF
  obtain ⟨hpa, pa6⟩ := mem_hi.mp hpa
  obtain ⟨o1, x1, m1, ho1⟩ := u1
  obtain ⟨o6, x6, m6, ho6⟩ := u6
  have hlen3 : vs.length ≤ 1000 := by rw [hP.1]; have := Tr.hi; omega
  have hiO : ∀ q : Addr × Obj, L + 1 + 1 + 1 + 1 + 1 + 1 < q.1 → ∀ a, a ≤ L + 1 + 1 + 1 + 1 + 1 + 1 → q.1 ≠ a := fun q h a ha e => by rw [e] at h; exact absurd h (Nat.not_lt.mpr ha)
  obtain ⟨r6, N6, k6, k6'⟩ := pull N m6
  refine stepT (l_places F X (fun p hp => N6 p (.tail _ hp)) T hFn N6 ho6 (fun p hp => (k6' p hp).2) hpm (k6 _ hpa (hiO _ pa6 _ (by (unfold Addr at *; omega)))) hlen3 fun ha tka plc cp ys opl Fa Na hopl hys hab => ⟨rfl, ?_⟩)
  have plc6 : L + 1 + 1 + 1 + 1 + 1 + 1 < plc := Nat.lt_trans pa6 (hab _ (k6 _ hpa (hiO _ pa6 _ (by (unfold Addr at *; omega)))))
  generalize hfa : (L + 1 + 1 + 1 + 1 + 1 + 1, opl) :: (plc, listOf (List.toArray ys) cp) :: r6 = fulla at Na
  have upa : ∀ q ∈ r6, q ∈ fulla := fun q hq => by rw [← hfa]; exact .tail _ (.tail _ hq)
  have mopl : (L + 1 + 1 + 1 + 1 + 1 + 1, opl) ∈ fulla := by rw [← hfa]; exact .head _
  have mplc : (plc, listOf (List.toArray ys) cp) ∈ fulla := by rw [← hfa]; exact .tail _ (.head _)
  refine stepT (l_table0 (s := { s with heap := ha, toks := tka }) Fa X Na T hFn fun m2 hb tkb tb otb Fb Nb hbb hts hdt hm2 hp2 => ⟨rfl, ?_⟩)
  have plctb : plc < tb := hbb _ mplc
  have off : ∀ q : Addr × Obj, q ∈ r6 → q.1 ≠ L + 1 → q.1 ≠ 407 → q.1 ≠ 430 → q ∈ offs [L + 1, plc, tb, 407, 430] ((tb, otb) :: fulla) := fun q hq a b c => mem_offs.mpr ⟨.tail _ (upa _ hq), fun e => by
    have h1 := hab q hq
    simp only [List.mem_cons, List.not_mem_nil, or_false] at e
    rcases e with e | e | e | e | e
    · exact a e
    · exact Nat.ne_of_lt h1 e
    · exact Nat.ne_of_lt (Nat.lt_trans h1 plctb) e
    · exact b e
    · exact c e⟩
  have hi6 : ∀ q ∈ hi L news, q ∈ offs [L + 1, plc, tb, 407, 430] ((tb, otb) :: fulla) := fun q hq => by
    obtain ⟨a, b⟩ := mem_hi.mp hq
    exact off q (k6 q a (hiO _ b _ (by (unfold Addr at *; omega)))) (hiO _ b _ (by (unfold Addr at *; omega))) (hiO _ b _ (by (unfold Addr at *; omega))) (hiO _ b _ (by (unfold Addr at *; omega)))
  have lo6 : ∀ c o, (c, o) ∈ news → L + 1 < c → c ≠ L + 1 + 1 + 1 + 1 + 1 + 1 → (c, o) ∈ offs [L + 1, plc, tb, 407, 430] ((tb, otb) :: fulla) := fun c o hq h1 h2 =>
    off _ (k6 _ hq h2) (by show c ≠ _; (unfold Addr at *; omega)) (by show c ≠ _; (unfold Addr at *; omega)) (by show c ≠ _; (unfold Addr at *; omega))
  have mopl' : (L + 1 + 1 + 1 + 1 + 1 + 1, opl) ∈ offs [L + 1, plc, tb, 407, 430] ((tb, otb) :: fulla) := mem_offs.mpr ⟨.tail _ mopl, fun e => by
    simp only [List.mem_cons, List.not_mem_nil, or_false] at e
    (unfold Addr at *; omega)⟩
  have St : Stat w L P Kd (offs [L + 1, plc, tb, 407, 430] ((tb, otb) :: fulla)) plc := by
    refine ⟨?_, ?_, ?_, ⟨opl, hopl, mopl'⟩⟩
    · obtain ⟨ob, bl, bv, cb, a, b, c, d⟩ := kF
      exact ⟨ob, bl, bv, cb, a, lo6 _ _ b (by (unfold Addr at *; omega)) (by (unfold Addr at *; omega)), hi6 _ c, d.mono hi6⟩
    · obtain ⟨ob, bl, bv, cb, a, b, c, d, e, g⟩ := dF
      exact ⟨ob, bl, bv, cb, a, lo6 _ _ b (by (unfold Addr at *; omega)) (by (unfold Addr at *; omega)), hi6 _ c, d, e, g.mono hi6⟩
    · obtain ⟨ob, bl, bv, cb, a, b, c, d⟩ := tF
      exact ⟨ob, bl, bv, cb, a, lo6 _ _ b (by (unfold Addr at *; omega)) (by (unfold Addr at *; omega)), hi6 _ c, d⟩
  have t4' : (430, tabObj #[]) ∈ (tb, otb) :: fulla := .tail _ (upa _ (k6 _ t4 (by show (430 : Nat) ≠ _; (unfold Addr at *; omega))))
  have t7' : (407, tabObj #[]) ∈ (tb, otb) :: fulla := .tail _ (upa _ (k6 _ t7 (by show (407 : Nat) ≠ _; (unfold Addr at *; omega))))
  have m1a : (L + 1, o1) ∈ (tb, otb) :: fulla := .tail _ (upa _ (k6 _ m1 (by show L + 1 ≠ _; (unfold Addr at *; omega))))
  have yl : ys.length = P.length := by rw [hys.1, List.length_replicate, hP.1]
  have z0 : TabSt w L plc tb pa (offs [L + 1, plc, tb, 407, 430] ((tb, otb) :: fulla)) [L + 1, plc, tb, 407, 430] P Kd 0 m2 ((tb, otb) :: fulla) := by
    refine ⟨⟨o1, x1, m1a, ho1⟩, hp2.trans hpm, hm2, ⟨ys, cp, .tail _ mplc, yl, fun c hc h => ?_⟩, ⟨_, #[], #[], otb, [], fun q hq => hq, fun q hq => mem_offs.mp hq, t7', .inl rfl, t4', .inl rfl, .head _, hdt, rfl, fun i key v h => by simp at h⟩⟩
    have c0 : c = 0 := by
      rcases h with h | h | ⟨j, h, _⟩
      · exact h
      · exact absurd h (Nat.not_lt_zero _)
      · exact absurd h (Nat.not_lt_zero _)
    subst c0
    obtain ⟨t, e⟩ := hys.get (i := 0) (by rw [List.length_replicate, hP.1]; exact hc)
    refine ⟨t, ?_⟩
    have e0 : (List.replicate vs.length 0).getD 0 0 = 0 := by cases vs.length <;> rfl
    rw [e, place_zero, e0]
  refine stepT (l_table (s := { s with heap := hb, toks := tkb }) Fb X Nb T hFn C4 C7 Tr St hP (hi6 _ (mem_hi.mpr ⟨hpa, pa6⟩)) (by (unfold Addr at *; omega)) (by (unfold Addr at *; omega)) (by (unfold Addr at *; omega)) (by (unfold Addr at *; omega)) (by (unfold Addr at *; omega)) (by (unfold Addr at *; omega)) (by (unfold Addr at *; omega)) (by (unfold Addr at *; omega)) (by (unfold Addr at *; omega)) hts z0 fun m3 hc tkc full Fc Nc Tc => ⟨rfl, ?_⟩)
  obtain ⟨pv, cv, mpv, hpv⟩ := Tc.places
  obtain ⟨made, tab7, tab4, otb', kvs, g1, g2, g3, g4, g5, g6, g7, g8, g9⟩ := Tc.made
  have sf : ∀ q ∈ offs [L + 1, plc, tb, 407, 430] ((tb, otb) :: fulla), q ∈ full := fun q hq => (g2 q (g1 q hq)).1
  have hif : ∀ q ∈ hi L news, q ∈ hi L full := fun q hq => mem_hi.mpr ⟨sf _ (hi6 q hq), (mem_hi.mp hq).2⟩
  refine hret m3 hc tkc full Fc Nc (pF'.mono (Tc.mpar.trans hpm.symm) hif) (kF.mono hif fun o ho => sf _ (lo6 _ _ ho (by (unfold Addr at *; omega)) (by (unfold Addr at *; omega)))) (aF.mono hif fun o ho => sf _ (lo6 _ _ ho (by (unfold Addr at *; omega)) (by (unfold Addr at *; omega)))) (dF.mono hif fun o ho => sf _ (lo6 _ _ ho (by (unfold Addr at *; omega)) (by (unfold Addr at *; omega)))) (tF.mono hif fun o ho => sf _ (lo6 _ _ ho (by (unfold Addr at *; omega)) (by (unfold Addr at *; omega))))
    ⟨opl, plc, pv, cv, hopl, sf _ mopl', mem_hi.mpr ⟨mpv, plc6⟩, hpv.1, fun i hi => hpv.2 i hi ?_⟩ ⟨tb, otb', kvs, Tc.mtab, g7, hts, g8, g9.mono fun q hq => (g2 q hq).1⟩ ⟨⟨_, sf _ (off _ (k6 _ t2 (by show (229 : Nat) ≠ _; (unfold Addr at *; omega))) (by show (229 : Nat) ≠ _; (unfold Addr at *; omega)) (by decide) (by decide))⟩, ⟨_, g5⟩, ⟨_, g3⟩⟩ Tc.node
  by_cases i0 : i = 0
  · exact .inl i0
  · exact .inr (.inl (Nat.lt_trans (Tr.lt i (by omega) hi) hi))

end
section
local macro_rules | `(tactic| walk_at "call builtin:sorted") => `(tactic| (k_here; k_dflt (show wpAny _ _ (call (Value.builtin "sorted") [Value.ref _]) _ _ _); refine stop_of ?_))
variable {q1 q2 q3 q4 q5 q6 q7 q8 q9 q10 q11 q12 q13 q14 q15 q16 q17 q18 : Stmt} {nm ql : Str} {psL : Arguments} {sc : Scope} {cdv cd : Value} {f : Addr}
theorem l_leaves {w : World} {p : Program} {loose : List Str} {mean : ExcName → Option Value} {mg mb : Str → Option Value} {h₀ : Heap} {L : Addr} {m : Str → Option Value} {s : Shared} {news : List (Addr × Obj)}
  {pa bl plc : Addr} {vs bv pv : List Value} {cc cb cp : Nat} {ob opl : Obj} {P : List Nat} (F : Fr h₀ L s.heap m) (X : (hd.heap_39 w.params).In h₀) (N : News h₀ L s.heap news) (T : Top p loose mean mg mb h₀)
  (hFn : LawK w nm ql psL sc cdv q1 q2 q3 q4 q5 q6 q7 q8 q9 q10 q11 q12 q13 q14 q15 q16 q17 q18)
  (Tr : Tree P) (h1 : m (Str.ofString "parents") = some (.ref pa)) (hpa : (pa, listOf vs.toArray cc) ∈ news) (hlen : vs.length = P.length)
  (hob : ob.data = .cell (some (.ref bl))) (mob : (L + 1 + 1, ob) ∈ news) (hbl : (bl, listOf bv.toArray cb) ∈ news) (hopl : opl.data = .cell (some (.ref plc))) (mopl : (L + 1 + 1 + 1 + 1 + 1 + 1, opl) ∈ news) (hpl : (plc, listOf pv.toArray cp) ∈ news)
  (hk : KidsIn news bv P) (hpv : pv.length = P.length) (hp : ∀ i, i < P.length → ∃ t, pv[i]? = some (.int (place P i : Nat) t))
  {Q : Flow → Shared → Prop}
  (hret : ∀ m' h' tk' D e lv tl, Fr h₀ L h' m' → News h₀ L h' ((D, listOf (List.toArray lv) e) :: (tl ++ news)) → Above ((D, listOf (List.toArray lv) e) :: tl) news → LeavesIn tl lv P →
    m' (Str.ofString "leaves") = some (.ref D) → m' (Str.ofString "parents") = m (Str.ofString "parents") → m' (Str.ofString "table") = m (Str.ofString "table") → Q .next { s with heap := h', toks := tk' }) :
  wpAny (model PySem.Challenge.rw_ez0274_01.prog w) (AM 850 900) (exec q12 (envOfC ql sc L f cd)) Q (fun _ _ => False) s := by
  have hlo := Tr.lo
  have hhi := Tr.hi
  have hlen' : vs.length ≤ 1000 := by omega
  have hbl1 : bv.length ≤ 1000 := by rw [hk.1]; omega
  have hpl1 : pv.length ≤ 1000 := by rw [hpv]; omega
  revert X; k_fill; intro X
  obtain ⟨oc, od, dV, kV, doc, pm, an, ct, osl, hK⟩ := hFn
  refine key_of (by k_is) hK (fun e => ?_)
  cases e
  k_steps
  any_goals try k_data
  any_goals (with_reducible try exact trivial)
  rename IsRange _ _ _ _ _ _ _ _ => hr
  rename Fr _ _ _ _ => F
  rename News _ _ _ _ => N
  refine comp_range1 P.length F N hr (by rw [hlen]; exact small_up (a := 0) (by omega) (Nat.zero_le _)) (by rw [hlen]; exact range_up 0 (Nat.zero_le _)) (by omega) (LeafsJ P) ⟨rfl, fun k v hv => by simp at hv⟩ ?_ ?_
  · intro g C I D i t o₁ lo₁ ys tl h tk m₁ hi hJ st F₁ N₁
    rw [show (0 : Int) + ((i : Nat) : Int) * 1 = ((i : Nat) : Int) by omega]
    obtain ⟨bk, ks, ek, g1, g2, g3⟩ := hk.2 i hi
    obtain ⟨tp, g4⟩ := hp i hi
    have l2 : ks.length ≤ 1000 := by rw [g3.1]; exact Nat.le_trans (kids_length i) (by omega)
    by_cases hks : kids P i = []
    · have : ks = [] := List.eq_nil_of_length_eq_zero (by rw [g3.1, hks]; rfl)
      subst this
      by_cases h3 : i = 3
      · subst h3
        have hT : leafT P 3 = false := by simp [leafT]
        k_steps
        any_goals try k_data
        exact NxtC.intro (m₂ := _) [] (by assumption) (by assumption) .nil (hJ.skip hT)
      · have hT : leafT P i = true := by simp [leafT, hks, h3]
        k_steps
        any_goals try k_data
        all_goals first | (exfalso; omega) | skip
        rename Fr _ _ _ _ => FF
        rename News _ _ _ _ => NN
        exact NxtC.intro [_] FF NN (.cons (by (repeat (cases ‹_ ∧ _›)); walk_at "my below") .nil) (hJ.take hT)
    · have hT : leafT P i = false := by simp [leafT, hks]
      have hkn : ks ≠ [] := fun e => hks (List.eq_nil_of_length_eq_zero (by rw [← g3.1, e]; rfl))
      k_steps
      any_goals try k_data
      exact NxtC.intro (m₂ := _) [] (by assumption) (by assumption) .nil (hJ.skip hT)
  · intro D e ys tl h tk hJ F' N' hA h1 h2
    k_steps
    unfold Stop
    have hz : ys.length = (leafs P).length := hJ.1
    have hz1 := leafs_pos Tr
    have hz2 := leafs_length Tr
    refine sorted_pairs (kx := fun k => place P ((leafs P).getD k 0)) (ky := fun k => (leafs P).getD k 0) F' N' (.head _) (fun k v hv => ?_) (leafs_kinj Tr hz) (by omega) (by omega) ?_
    · obtain ⟨a, t1, t2, e1, hm⟩ := hJ.2 k v hv
      exact ⟨a, t1, t2, e1, .tail _ (List.mem_append_left _ hm)⟩
    · intro D2 e2 h2 p F2 N2 hD2 hp2 hs2
      have hL := leaves_sorted Tr hJ hp2 hs2
      have N3 := News.sub N2 (l' := (D2, listOf (List.toArray (p.map fun i => ys.getD i .none)) e2) :: (tl ++ news)) (fun q hq => by
        rcases List.mem_cons.mp hq with rfl | hq
        · exact .head _
        · exact .tail _ (.tail _ hq))
      have hA3 : Above ((D2, listOf (List.toArray (p.map fun i => ys.getD i .none)) e2) :: tl) news := .cons (fun q hq => hD2 q (.tail _ (List.mem_append_right _ hq))) hA
      clear F' N' N2
      k_steps
      any_goals try k_data
      exact hret _ _ _ D2 e2 _ tl (by assumption) (by assumption) hA3 hL (by rfl) (by rfl) (by rfl)

end
section
local macro_rules | `(tactic| walk_at "call builtin:str.join") => `(tactic| (k_here; (with_reducible show wpAny _ _ (call (Value.builtin "str.join") [Value.str _ _, Value.ref _]) _ _ _); k_dflt (refine joinT (by k_asm) (by k_mem) rfl rfl (by decide +kernel) (by assumption) ?_); intro t' k'; (try dsimp only)))
local macro_rules | `(tactic| walk_at "compareOp NotEq ref ref") => `(tactic| (k_here; k_dflt (show wpAny _ _ (compareOp CmpOp.NotEq (Value.ref _) (Value.ref _)) _ _ _); refine stop_of ?_))
variable {q1 q2 q3 q4 q5 q6 q7 q8 q9 q10 q11 q12 q13 q14 q15 q16 q17 q18 : Stmt} {nm ql : Str} {psL : Arguments} {sc : Scope} {cdv cd : Value} {f : Addr}
theorem l_check {w : World} {p : Program} {loose : List Str} {mean : ExcName → Option Value} {mg mb : Str → Option Value} {h₀ : Heap} {L : Addr} {m : Str → Option Value} {s : Shared} {news : List (Addr × Obj)}
  {lva tda ppl tpl : Addr} {lv tv pv xv : List Value} {cl ct cp cx : Nat} {op ot : Obj} {P : List Nat} {Kd : Nat → Addr} (F : Fr h₀ L s.heap m) (X : (hd.heap_39 w.params).In h₀) (N : News h₀ L s.heap news) (T : Top p loose mean mg mb h₀)
  (hFn : LawK w nm ql psL sc cdv q1 q2 q3 q4 q5 q6 q7 q8 q9 q10 q11 q12 q13 q14 q15 q16 q17 q18)
  (Tr : Tree P) (h1 : m (Str.ofString "leaves") = some (.ref lva)) (hlv : (lva, listOf lv.toArray cl) ∈ news) (h2 : m (Str.ofString "told") = some (.ref tda)) (htd : (tda, listOf tv.toArray ct) ∈ news)
  (hop : op.data = .cell (some (.ref ppl))) (mop : (L + 1 + 1 + 1, op) ∈ news) (hppl : (ppl, listOf pv.toArray cp) ∈ news) (hot : ot.data = .cell (some (.ref tpl))) (mot : (L + 1 + 1 + 1 + 1 + 1, ot) ∈ news) (htpl : (tpl, listOf xv.toArray cx) ∈ news)
  (hL : LeavesIn news lv P) (hT : ToldIn news tv P Kd) (hK : KindsAre news Kd P) (hpv : pv.length = P.length) (hp : ∀ i, i < P.length → ∃ t, pv[i]? = some (.str (path P i) t)) (hxv : xv.length = P.length) (hx : ∀ i, i < P.length → ∃ t, xv[i]? = some (.str (text P i) t))
  {Q : Flow → Shared → Prop}
  (hret : ∀ h' tk', Fr h₀ L h' m → News h₀ L h' news → Q .next { s with heap := h', toks := tk' }) :
  wpAny (model PySem.Challenge.rw_ez0274_01.prog w) (AM 850 900) (exec q14 (envOfC ql sc L f cd)) Q (fun _ _ => False) s := by
  have hlo := Tr.lo
  have hhi := Tr.hi
  have hdl := dfs_length Tr
  have hpv1 : pv.length ≤ 1000 := by omega
  have hxv1 : xv.length ≤ 1000 := by omega
  have htv1 : tv.length ≤ 1000 := by rw [hT.1]; omega
  have hlv1 : lv.length ≤ 1000 := by rw [hL.1]; omega
  revert X; k_fill; intro X
  obtain ⟨oc, od, dV, kV, doc, pm, an, ct, osl, hK'⟩ := hFn
  refine key_of (by k_is) hK' (fun e => ?_)
  cases e
  k_steps
  any_goals try k_data
  any_goals (with_reducible try exact trivial)
  refine comp_list0 (vs := tv) (by k_asm) (by k_asm) (by k_mem) rfl rfl htv1 (fun i ys tl => DatAll tl ys (((dfs P 0).take i).map (rowDat P))) .nil ?_ ?_
  · intro g C I D i v o₁ lo₁ ys tl h tk m₁ hv hJ st F₁ N₁
    have hi : i < (dfs P 0).length := by rw [← hT.1]; exact (List.getElem?_eq_some_iff.mp hv).1
    have hl := List.getElem?_eq_getElem hi
    generalize (dfs P 0)[i] = l at hl
    obtain ⟨a, k1, k2, e1, hm⟩ := hT.2 i l hl
    rw [e1] at hv; cases hv
    obtain ⟨ll, hKl, hnm⟩ := hK l (dfs_mem Tr (List.mem_of_getElem? hl)).1
    obtain ⟨dk, tk1, hsk, tkk, kk1, kk2, kk3⟩ := hKl
    have hw : ((ll.map Prod.fst).map (·.length)).sum + (ll.map Prod.fst).length ≤ 1048576 := by rw [hnm]; exact names_sum Tr (dfs_mem Tr (List.mem_of_getElem? hl)).1
    have Xg := X.keeps st
    have Tg := T.keeps st
    k_steps
    any_goals try k_data
    rename Fr _ _ _ _ => FF
    rename News _ _ _ _ => NN
    rw [hnm] at NN
    exact NxtC.intro [_] FF NN (.cons (by (repeat (cases ‹_ ∧ _›)); walk_at "my below") .nil) (by
      rw [take_succ_get hl, List.map_append]
      exact DatAll.snoc (hJ.mono fun p hp => .tail _ hp) (.tuple (.head _) (.cons (.int _ _) (.cons (.str _ _) (.cons (.str _ _) .nil)))))
  · intro D e ys tl h tk hJ F' N' hA h3 h4
    rw [hT.1, List.take_length] at hJ
    k_steps
    any_goals try k_data
    refine comp_list0 (vs := lv) (by k_asm) (by k_asm) (by k_mem) rfl rfl hlv1 (fun i zs tl' => DatAll tl' zs (((dfs P 0).take i).map (rowDat P))) .nil ?_ ?_
    · intro g C I D' i v o₁ lo₁ zs tl' h tk m₁ hv hJ' st F₁ N₁
      have hi : i < (dfs P 0).length := by rw [← hL.1]; exact (List.getElem?_eq_some_iff.mp hv).1
      have hl := List.getElem?_eq_getElem hi
      generalize (dfs P 0)[i] = l at hl
      obtain ⟨a, k1, k2, e1, hm⟩ := hL.2 i l hl
      rw [e1] at hv; cases hv
      have hlN := (dfs_mem Tr (List.mem_of_getElem? hl)).1
      obtain ⟨tp, hp1⟩ := hp l hlN
      obtain ⟨tx, hx1⟩ := hx l hlN
      k_steps
      any_goals try k_data
      rename Fr _ _ _ _ => FF
      rename News _ _ _ _ => NN
      exact NxtC.intro [_] FF NN (.cons (by (repeat (cases ‹_ ∧ _›)); walk_at "my below") .nil) (by
        rw [take_succ_get hl, List.map_append]
        exact DatAll.snoc (hJ'.mono fun p hp => .tail _ hp) (.tuple (.head _) (.cons (.int _ _) (.cons (.str _ _) (.cons (.str _ _) .nil)))))
    · intro D' e' zs tl' h' tk' hJ' F2 N2 hA2 h5 h6
      rw [hL.1, List.take_length] at hJ'
      k_steps
      any_goals try k_data
      unfold Stop
      have ok : ∀ d ∈ (dfs P 0).map (rowDat P), kqdOk 8 d = true := by
        intro d hd
        obtain ⟨l, hl, rfl⟩ := List.mem_map.mp hd
        have hlN := (dfs_mem Tr hl).1
        simp only [rowDat, kqdOk, List.all_cons, List.all_nil, Bool.and_true, Bool.true_and, Bool.and_eq_true]
        exact ⟨strOk_path Tr hlN, strOk_text l⟩
      refine kqd_ne N2 (.tail _ (List.mem_append_right _ (.head _))) rfl rfl hJ (fun p hp => .tail _ (List.mem_append_right _ (.tail _ (List.mem_append_left _ hp)))) (.head _) rfl rfl hJ' (fun p hp => .tail _ (List.mem_append_left _ hp)) ok ok (by ke_room) ?_
      simp only [decide_true, Bool.not_true]
      k_steps
      any_goals try k_data
      exact hret _ _ F2 (News.sub N2 fun p hp => .tail _ (List.mem_append_right _ (.tail _ (List.mem_append_right _ hp))))

end
section
local macro_rules | `(tactic| walk_at "call builtin:len") => `(tactic| (k_here; (with_reducible show wpAny _ _ (call (Value.builtin "len") [Value.ref _]) _ _ _); k_dflt (refine lenTY (by k_asm) (by k_mem) (by assumption) ?_); intro tk' t'; (try dsimp only)))
local macro_rules | `(tactic| walk_at "subscriptTail") => `(tactic| (k_here; (with_reducible show wpAny _ _ (subscriptTail _ (PySem.Expr.Slice none _ none _) (Value.ref _) (Value.ref _)) _ _ _); k_dflt (refine' slice_tuple_upto ?F ?N ?m ?z ?_; (case F => k_asm); (case N => k_asm); (case m => k_mem); (case z => assumption)); intro D' tl' h' F' N' A' m'; (try dsimp only)))
local macro_rules | `(tactic| walk_at "compareOp Eq ref ref") => `(tactic| (k_here; k_dflt (show wpAny _ _ (compareOp CmpOp.Eq (Value.ref _) (Value.ref _)) _ _ _); refine stop_of ?_))
theorem strDatsT (news : List (Addr × Obj)) (l : List (Str × Tok)) (n : Nat) : DatAll news ((strValues l).take n) ((l.take n).map fun q => Dat.str q.1) := by
  have : (strValues l).take n = strValues (l.take n) := by unfold strValues; rw [List.map_take]
  rw [this]
  exact strDats news _
theorem strDats_dec (la lb : List (Str × Tok)) : (((la.take (strValues lb).length).map fun q => Dat.str q.1) = (lb.map fun q => Dat.str q.1)) ↔ ((la.map Prod.fst).take lb.length = lb.map Prod.fst) := by
  have hl : (strValues lb).length = lb.length := by unfold strValues; exact List.length_map _
  have inj : ∀ l l' : List (Str × Tok), ((l.map fun q => Dat.str q.1) = (l'.map fun q => Dat.str q.1)) ↔ (l.map Prod.fst = l'.map Prod.fst) := by
    intro l
    induction l with
    | nil => intro l'; cases l' <;> simp
    | cons x l ih =>
      intro l'
      cases l' with
      | nil => simp
      | cons y l' => simp only [List.map_cons, List.cons.injEq, Dat.str.injEq, ih l']
  rw [inj, hl, List.map_take]
theorem c_subtype0 {w : World} {p : Program} {loose : List Str} {mean : ExcName → Option Value} {mg mb : Str → Option Value} {h₀ : Heap} {L : Addr} {m : Str → Option Value} {s : Shared} {Q E : Value → Shared → Prop} {news : List (Addr × Obj)}
  {a : Addr} {la : List (Str × Tok)} (F : Fr h₀ L s.heap m) (X : (hd.heap_39 w.params).In h₀) (N : News h₀ L s.heap news) (T : Top p loose mean mg mb h₀)
  (Ka : KindIn news a (strValues la))
  (hret : ∀ tl h' tk', Fr h₀ L h' m → News h₀ L h' (tl ++ news) → Above tl news → Q (.bool true) { s with heap := h', toks := tk' }) :
  wpAny (model PySem.Challenge.rw_ez0274_01.prog w) (AM 850 900) (call (.ref 98) [.ref a, .ref a]) Q E s := by
  obtain ⟨da, ta, hsa, tka, a1, a2, a3⟩ := Ka
  (revert X; k_fill; intro X; refine wpAny_call ?_; k_dflt k_enter; k_steps)
  any_goals try k_data
  any_goals (with_reducible try exact trivial)
  all_goals exact hret [] _ _ (by assumption) (by assumption) .nil
theorem c_subtype {w : World} {p : Program} {loose : List Str} {mean : ExcName → Option Value} {mg mb : Str → Option Value} {h₀ : Heap} {L : Addr} {m : Str → Option Value} {s : Shared} {Q E : Value → Shared → Prop} {news : List (Addr × Obj)}
  {a b : Addr} {la lb : List (Str × Tok)} (F : Fr h₀ L s.heap m) (X : (hd.heap_39 w.params).In h₀) (N : News h₀ L s.heap news) (T : Top p loose mean mg mb h₀)
  (Ka : KindIn news a (strValues la)) (Kb : KindIn news b (strValues lb)) (hla : (strValues la).length ≤ 1000) (hlb : (strValues lb).length ≤ 1000) (hab : a ≠ b)
  (oka : ∀ q ∈ la, PyData.strOk q.1 = true) (okb : ∀ q ∈ lb, PyData.strOk q.1 = true)
  (hret : ∀ tl h' tk', Fr h₀ L h' m → News h₀ L h' (tl ++ news) → Above tl news → Q (.bool (decide ((la.map Prod.fst).take lb.length = lb.map Prod.fst))) { s with heap := h', toks := tk' }) :
  wpAny (model PySem.Challenge.rw_ez0274_01.prog w) (AM 850 900) (call (.ref 98) [.ref a, .ref b]) Q E s := by
  obtain ⟨da, ta, hsa, tka, a1, a2, a3⟩ := Ka
  obtain ⟨db, tb, hsb, tkb, b1, b2, b3⟩ := Kb
  (revert X; k_fill; intro X; refine wpAny_call ?_; k_dflt k_enter; k_steps)
  any_goals try k_data
  any_goals (with_reducible try exact trivial)
  unfold Stop
  rename News _ _ _ (_ ++ _) => N2
  rename (_, tupO (List.take _ _)) ∈ _ => m2
  rename Above _ news => A2
  refine tup_eq N2 m2 (strDatsT _ _ _) (List.mem_append_right _ b3) (strDats _ _) ?_ ?_ (by ke_room) ?_
  · intro d hd
    obtain ⟨q, hq, rfl⟩ := List.mem_map.mp hd
    exact oka q (List.mem_of_mem_take hq)
  · intro d hd
    obtain ⟨q, hq, rfl⟩ := List.mem_map.mp hd
    exact okb q hq
  intro r hr
  have hr2 : r = decide ((la.map Prod.fst).take lb.length = lb.map Prod.fst) := Bool.eq_iff_iff.mpr (by rw [hr, strDats_dec, decide_eq_true_iff])
  subst hr2
  k_steps
  any_goals try k_data
  all_goals exact hret _ _ _ (by assumption) (by assumption) A2

end
section
theorem kind_same {h₀ h : Heap} {L a : Addr} {news : List (Addr × Obj)} {va vb : List Value} (N : News h₀ L h news) (Ka : KindIn news a va) (Kb : KindIn news a vb) : va = vb := by
  obtain ⟨da, ta, hsa, tka, a1, a2, a3⟩ := Ka
  obtain ⟨db, tb, hsb, tkb, b1, b2, b3⟩ := Kb
  have e1 := newsSame N a1 b1
  have e1' : da = db := by
    have := congrArg Obj.dict e1
    exact Option.some.inj this
  subst e1'
  have e2 := newsSame N a2 b2
  have e2' : ta = tb := by
    have := congrArg Obj.data e2
    simp only [dictOf] at this
    injection this with q1 q2
    have q3 := congrArg Array.toList q1
    simp at q3
    exact q3.2.2
  subst e2'
  have e3 := newsSame N a3 b3
  have := congrArg Obj.data e3
  simp only at this
  injection this with q1 q2
  have := congrArg Array.toList q1
  simpa using this
theorem c_sub {w : World} {p : Program} {loose : List Str} {mean : ExcName → Option Value} {mg mb : Str → Option Value} {h₀ : Heap} {L : Addr} {m : Str → Option Value} {s : Shared} {Q E : Value → Shared → Prop} {news : List (Addr × Obj)}
  {a b : Addr} {la lb : List (Str × Tok)} (F : Fr h₀ L s.heap m) (X : (hd.heap_39 w.params).In h₀) (N : News h₀ L s.heap news) (T : Top p loose mean mg mb h₀)
  (Ka : KindIn news a (strValues la)) (Kb : KindIn news b (strValues lb)) (hla : la.length ≤ 100) (hlb : lb.length ≤ 100)
  (oka : ∀ q ∈ la, PyData.strOk q.1 = true) (okb : ∀ q ∈ lb, PyData.strOk q.1 = true)
  (hret : ∀ r tl h' tk', Fr h₀ L h' m → News h₀ L h' (tl ++ news) → Above tl news → (r = true ↔ (la.map Prod.fst).take lb.length = lb.map Prod.fst) → Q (.bool r) { s with heap := h', toks := tk' }) :
  wpAny (model PySem.Challenge.rw_ez0274_01.prog w) (AM 850 900) (call (.ref 98) [.ref a, .ref b]) Q E s := by
  by_cases hab : a = b
  · subst hab
    have e := kind_same N Ka Kb
    have hm : ∀ l : List (Str × Tok), l.map Prod.fst = (strValues l).map fun v => match v with | .str x _ => x | _ => Str.ofString "" := fun l => by
      unfold strValues; rw [List.map_map]; rfl
    refine c_subtype0 F X N T Ka fun tl h' tk' F' N' A' => hret _ _ _ _ F' N' A' ⟨fun _ => ?_, fun _ => rfl⟩
    rw [hm la, hm lb, e, List.take_of_length_le]
    rw [List.length_map]
    unfold strValues
    rw [List.length_map]
    exact Nat.le_refl _
  · refine c_subtype F X N T Ka Kb ?_ ?_ hab oka okb fun tl h' tk' F' N' A' => hret _ _ _ _ F' N' A' decide_eq_true_iff
    · unfold strValues; rw [List.length_map]; omega
    · unfold strValues; rw [List.length_map]; omega

end
section
local macro_rules | `(tactic| walk_at "call ref") => `(tactic| (k_here; k_dflt (show wpAny _ _ (call (Value.ref 98) _ _) _ _ _); refine stop_of ?_))
variable {q1 q2 q3 q4 q5 q6 q7 q8 q9 q10 q11 q12 q13 q14 q15 q16 q17 q18 : Stmt} {nm ql : Str} {psL : Arguments} {sc : Scope} {cdv cd : Value} {f : Addr}
section
variable {h₀ h : Heap} {L bw D : Addr} {a b c d : Addr × Obj} {wo dO : Obj} {tl news : List (Addr × Obj)}
theorem kup (_ : News h₀ L h (a :: b :: (tl ++ c :: d :: news))) : ∀ p ∈ news, p ∈ a :: b :: (tl ++ c :: d :: news) := fun p hp => .tail _ (.tail _ (List.mem_append_right _ (.tail _ (.tail _ hp))))
theorem reb (N : News h₀ L h ((D, dO) :: (tl ++ c :: (bw, wo) :: news))) : News h₀ L h ((bw, wo) :: c :: (D, dO) :: (tl ++ news)) :=
  News.sub N fun p hp => by
    simp only [List.mem_cons, List.mem_append] at hp ⊢
    rcases hp with hp | hp | hp | hp | hp <;> simp only [hp, true_or, or_true]
theorem reb_ne (_ : News h₀ L h ((bw, wo) :: c :: (D, dO) :: (tl ++ news))) (h3 : ∀ p ∈ c :: (bw, wo) :: news, p.1 < D) (h4 : ∀ p ∈ tl, D < p.1) (hn : ∀ p ∈ news, p.1 ≠ bw) (hc : c.1 ≠ bw) : ∀ p ∈ c :: (D, dO) :: (tl ++ news), p.1 ≠ bw := by
  have hD : bw < D := h3 _ (.tail _ (.head _))
  intro p hp
  rcases List.mem_cons.mp hp with rfl | hp
  · exact hc
  · rcases List.mem_cons.mp hp with rfl | hp
    · exact Nat.ne_of_gt hD
    · rcases List.mem_append.mp hp with hp | hp
      · exact Nat.ne_of_gt (Nat.lt_trans hD (h4 p hp))
      · exact hn p hp
theorem reb_back (N : News h₀ L h ((bw, wo) :: c :: (D, dO) :: (tl ++ news))) : News h₀ L h (c :: (bw, wo) :: (D, dO) :: (tl ++ news)) :=
  News.sub N fun p hp => by
    simp only [List.mem_cons, List.mem_append] at hp ⊢
    rcases hp with hp | hp | hp | hp | hp <;> simp only [hp, true_or, or_true]
theorem lt_swap {on on' : Obj} {news : List (Addr × Obj)} (h : ∀ p ∈ (L + 1, on') :: news, p.1 < D) : ∀ p ∈ (L + 1, on) :: news, p.1 < D := fun p hp => by
  rcases List.mem_cons.mp hp with rfl | hp
  · exact h (L + 1, on') (.head _)
  · exact h p (.tail _ hp)
end
theorem l_empty {w : World} {p : Program} {loose : List Str} {mean : ExcName → Option Value} {mg mb : Str → Option Value} {h₀ : Heap} {L : Addr} {m : Str → Option Value} {s : Shared} {news : List (Addr × Obj)} (F : Fr h₀ L s.heap m) (X : (hd.heap_39 w.params).In h₀) (N : News h₀ L s.heap news) (T : Top p loose mean mg mb h₀)
  (hFn : LawK w nm ql psL sc cdv q1 q2 q3 q4 q5 q6 q7 q8 q9 q10 q11 q12 q13 q14 q15 q16 q17 q18) {Q : Flow → Shared → Prop}
  (hret : ∀ m' h' tk' a b, Fr h₀ L h' m' → News h₀ L h' ((b, listOf #[] 0) :: (a, listOf #[] 0) :: news) → (∀ p ∈ news, p.1 < a) → a < b → m' (Str.ofString "below") = some (.ref a) → m' (Str.ofString "within") = some (.ref b) → m' (Str.ofString "parents") = m (Str.ofString "parents") → m' (Str.ofString "told") = m (Str.ofString "told") → m' (Str.ofString "leaves") = m (Str.ofString "leaves") → Q .next { s with heap := h', toks := tk' }) :
  wpAny (model PySem.Challenge.rw_ez0274_01.prog w) (AM 850 900) (exec q15 (envOfC ql sc L f cd)) (fun f1 s₁ => f1 = .next ∧ wpAny (model PySem.Challenge.rw_ez0274_01.prog w) (AM 850 900) (exec q16 (envOfC ql sc L f cd)) Q (fun _ _ => False) s₁) (fun _ _ => False) s := by
  revert X; k_fill; intro X
  obtain ⟨oc, od, dV, kV, doc, pm, an, ct, osl, hK'⟩ := hFn
  refine key_of (by k_is) hK' (fun e => ?_)
  cases e
  k_steps
  any_goals try k_data
  any_goals (with_reducible try exact trivial)
  exact hret _ _ _ _ _ (by assumption) (by assumption) (by (repeat (cases ‹_ ∧ _›)); walk_at "my below") (by (repeat (cases ‹_ ∧ _›)); assumption) (by rfl) (by rfl) (by rfl) (by rfl) (by rfl)
theorem l_below_turn {w : World} {p : Program} {loose : List Str} {mean : ExcName → Option Value} {mg mb : Str → Option Value} {h₀ : Heap} {L : Addr} {m : Str → Option Value} {s : Shared} {news : List (Addr × Obj)}
  {tgt iter : Expr} {b1 b2 : Stmt} {fp : Pos} {bw tda kl : Addr} {on ok : Obj} {wv tv kv : List Value} {cw ct cx k : Nat} {t : Tok} {xn : Option Value} {P : List Nat} {Kd : Nat → Addr} (F : Fr h₀ L s.heap m) (X : (hd.heap_39 w.params).In h₀) (N : News h₀ L s.heap news) (T : Top p loose mean mg mb h₀)
  (hFn : LawK w nm ql psL sc cdv q1 q2 q3 q4 q5 q6 q7 q8 q9 q10 q11 q12 q13 q14 q15 q16 (.For tgt iter [b1, b2] [] fp) q18)
  (Tr : Tree P) (N1 : News h₀ L s.heap ((L + 1, on) :: (bw, listOf wv.toArray cw) :: news)) (hon : on.data = .cell xn) (hn1 : ∀ p ∈ news, p.1 ≠ L + 1) (hn2 : ∀ p ∈ news, p.1 ≠ bw) (hn3 : bw ≠ L + 1)
  (h1 : m (Str.ofString "below") = some (.ref bw)) (h2 : m (Str.ofString "told") = some (.ref tda)) (htd : (tda, listOf tv.toArray ct) ∈ news)
  (hok : ok.data = .cell (some (.ref kl))) (mok : (L + 1 + 1 + 1 + 1, ok) ∈ news) (hkl : (kl, listOf kv.toArray cx) ∈ news) (hkv1 : kv.length ≤ 1000) (g2 : kv[k]? = some (.ref (Kd k))) (hk : k < P.length)
  (hT : ToldIn news tv P Kd) (hK : KindsAre news Kd P) (l1 : wv.length ≤ 1000)
  {Q : Flow → Shared → Prop}
  (hret : ∀ h' tk' on' cw' D e ys tl, Fr h₀ L h' m → News h₀ L h' ((L + 1, on') :: (bw, listOf (wv.toArray.push (.ref D)) cw') :: (D, listOf (List.toArray ys) e) :: (tl ++ news)) → on'.data = .cell (some (.int (k : Nat) t)) →
    NatsAre ys (((dfs P 0).filter fun l => decide ((names P l).take (names P k).length = names P k)).map (place P)) → (∀ p ∈ (L + 1, on) :: (bw, listOf wv.toArray cw) :: news, p.1 < D) → Q .next { s with heap := h', toks := tk' }) :
  wpAny (model PySem.Challenge.rw_ez0274_01.prog w) (AM 850 900) (assign tgt (envOfC ql sc L f cd) (.int (k : Nat) t)) (fun _ s₁ => wpAny (model PySem.Challenge.rw_ez0274_01.prog w) (AM 850 900) (exec b1 (envOfC ql sc L f cd)) Q (fun _ _ => False) s₁) (fun _ _ => False) s := by
  clear N
  have hlo := Tr.lo
  have hhi := Tr.hi
  have hdl := dfs_length Tr
  have htv1 : tv.length ≤ 1000 := by rw [hT.1]; omega
  have X' := X
  revert X; k_fill; intro X
  obtain ⟨oc, od, dV, kV, doc, pm, an, ct, osl, hK'⟩ := hFn
  refine key_of (by k_is) hK' (fun e => ?_)
  cases e
  k_steps
  any_goals try k_data
  any_goals (with_reducible try exact trivial)
  obtain ⟨lk, hKk, hnk⟩ := hK k hk
  refine comp_list1 (vs := tv) (by k_asm) (by k_asm) (by k_mem) rfl rfl htv1 (fun i ys tl => NatsAre ys ((((dfs P 0).take i).filter fun l => decide ((names P l).take (names P k).length = names P k)).map (place P))) .nil ?_ ?_
  · intro g C I D i v o₁ lo₁ ys tl h tk m₁ hv hJ st F₁ N₁
    have hi : i < (dfs P 0).length := by rw [← hT.1]; exact (List.getElem?_eq_some_iff.mp hv).1
    have hl := List.getElem?_eq_getElem hi
    generalize (dfs P 0)[i] = l at hl
    obtain ⟨a, k1, k2, e1, hm⟩ := hT.2 i l hl
    rw [e1] at hv; cases hv
    have hlN := (dfs_mem Tr (List.mem_of_getElem? hl)).1
    obtain ⟨ll, hKl, hnm⟩ := hK l hlN
    have Xg := X.keeps st
    have Xg' := X'.keeps st
    have Tg := T.keeps st
    k_steps
    any_goals try k_data
    unfold Stop
    rename Fr _ _ _ _ => FF
    rename News _ _ _ _ => NN
    have up := kup NN
    refine wpAny_lift ⟨rfl, Nat.le_of_ble_eq_true rfl, Nat.le_of_ble_eq_true rfl⟩ (d := 850) (u := 900) (c_sub FF Xg' NN Tg (hKl.mono up) (hKk.mono up) ?_ ?_ ?_ ?_ ?_)
    · have := names_length Tr hlN
      rw [← hnm, List.length_map] at this; omega
    · have := names_length Tr hk
      rw [← hnk, List.length_map] at this; omega
    · exact fun q hq => names_ok Tr hlN _ (hnm ▸ List.mem_map_of_mem hq)
    · exact fun q hq => names_ok Tr hk _ (hnk ▸ List.mem_map_of_mem hq)
    · intro r tl2 h2 tk2 F2 N2 A2 hr
      rw [hnm, show lk.length = (names P k).length by rw [← hnk, List.length_map], hnk] at hr
      cases r with
      | true =>
        k_steps
        any_goals try k_data
        exact NxtC.intro tl2 F2 N2 A2 (by
          rw [take_succ_get hl, List.filter_append, List.filter_cons, if_pos (by simpa using hr.mp rfl), List.filter_nil, List.map_append]
          exact hJ.snoc _ _)
      | false =>
        k_steps
        any_goals try k_data
        exact NxtC.intro tl2 F2 N2 A2 (by
          rw [take_succ_get hl, List.filter_append, List.filter_cons, if_neg (by simpa using fun q => Bool.false_ne_true (hr.mpr q)), List.filter_nil, List.append_nil]
          exact hJ)
  · intro D e ys tl h tk hJ F' N' hA h3 h4
    rw [hT.1, List.take_length] at hJ
    have NN := reb N'
    have hne := reb_ne NN h3 h4 hn2 hn3.symm
    clear N'
    k_steps
    any_goals try k_data
    rename News _ _ _ _ => N9
    exact hret _ _ _ _ _ _ _ _ (by assumption) (reb_back N9) (by assumption) hJ (lt_swap h3)

end
section
local macro_rules | `(tactic| walk_at "compareOp Eq ref ref") => `(tactic| (k_here; k_dflt (show wpAny _ _ (compareOp CmpOp.Eq (Value.ref _) (Value.ref _)) _ _ _); refine stop_of ?_))
variable {q1 q2 q3 q4 q5 q6 q7 q8 q9 q10 q11 q12 q13 q14 q15 q16 q17 q18 : Stmt} {nm ql : Str} {psL : Arguments} {sc : Scope} {cdv cd : Value} {f : Addr}
theorem l_within_turn {w : World} {p : Program} {loose : List Str} {mean : ExcName → Option Value} {mg mb : Str → Option Value} {h₀ : Heap} {L : Addr} {m : Str → Option Value} {s : Shared} {news : List (Addr × Obj)}
  {tgt iter : Expr} {b1 b2 : Stmt} {fp : Pos} {ww lva plc tpl : Addr} {on opl ot : Obj} {wv lv pv xv : List Value} {cw cl cp cx k : Nat} {t tp tx : Tok} {P : List Nat} (F : Fr h₀ L s.heap m) (X : (hd.heap_39 w.params).In h₀) (N : News h₀ L s.heap news) (T : Top p loose mean mg mb h₀)
  (hFn : LawK w nm ql psL sc cdv q1 q2 q3 q4 q5 q6 q7 q8 q9 q10 q11 q12 q13 q14 q15 q16 (.For tgt iter [b1, b2] [] fp) q18)
  (Tr : Tree P) (N1 : News h₀ L s.heap ((ww, listOf wv.toArray cw) :: news)) (hon : on.data = .cell (some (.int (k : Nat) t))) (mon : (L + 1, on) ∈ news) (hn2 : ∀ p ∈ news, p.1 ≠ ww)
  (h1 : m (Str.ofString "within") = some (.ref ww)) (h2 : m (Str.ofString "leaves") = some (.ref lva)) (hlv : (lva, listOf lv.toArray cl) ∈ news)
  (hopl : opl.data = .cell (some (.ref plc))) (mopl : (L + 1 + 1 + 1 + 1 + 1 + 1, opl) ∈ news) (hpl : (plc, listOf pv.toArray cp) ∈ news) (hot : ot.data = .cell (some (.ref tpl))) (mot : (L + 1 + 1 + 1 + 1 + 1, ot) ∈ news) (htpl : (tpl, listOf xv.toArray cx) ∈ news)
  (hpv1 : pv.length ≤ 1000) (hxv1 : xv.length ≤ 1000) (g1 : pv[k]? = some (.int (place P k : Nat) tp)) (g2 : xv[k]? = some (.str (text P k) tx)) (hk : k < P.length)
  (hL : LeavesIn news lv P) (l1 : wv.length ≤ 1000)
  {Q : Flow → Shared → Prop}
  (hret : ∀ h' tk' cw' D e ys tl, Fr h₀ L h' m → News h₀ L h' ((ww, listOf (wv.toArray.push (.ref D)) cw') :: (D, listOf (List.toArray ys) e) :: (tl ++ news)) →
    NatsAre ys (((dfs P 0).filter fun l => decide (place P k ≤ place P l ∧ place P l < place P k + len P k)).map (place P)) → (∀ p ∈ (ww, listOf wv.toArray cw) :: news, p.1 < D) → Q .next { s with heap := h', toks := tk' }) :
  wpAny (model PySem.Challenge.rw_ez0274_01.prog w) (AM 850 900) (exec b2 (envOfC ql sc L f cd)) Q (fun _ _ => False) s := by
  clear N
  have hlo := Tr.lo
  have hhi := Tr.hi
  have hdl := dfs_length Tr
  have hlv1 : lv.length ≤ 1000 := by rw [hL.1]; omega
  have hlen : (text P k).length ≤ 33 := len_le Tr hk
  revert X; k_fill; intro X
  obtain ⟨oc, od, dV, kV, doc, pm, an, ct, osl, hK'⟩ := hFn
  refine key_of (by k_is) hK' (fun e => ?_)
  cases e
  k_steps
  any_goals try k_data
  any_goals (with_reducible try exact trivial)
  refine comp_list1 (vs := lv) (by k_asm) (by k_asm) (by k_mem) rfl rfl hlv1 (fun i ys tl => NatsAre ys ((((dfs P 0).take i).filter fun l => decide (place P k ≤ place P l ∧ place P l < place P k + len P k)).map (place P))) .nil ?_ ?_
  · intro g C I D i v o₁ lo₁ ys tl h tk m₁ hv hJ st F₁ N₁
    have hi : i < (dfs P 0).length := by rw [← hL.1]; exact (List.getElem?_eq_some_iff.mp hv).1
    have hl := List.getElem?_eq_getElem hi
    generalize (dfs P 0)[i] = l at hl
    obtain ⟨a, k1, k2, e1, hm⟩ := hL.2 i l hl
    rw [e1] at hv; cases hv
    have hlN := (dfs_mem Tr (List.mem_of_getElem? hl)).1
    have b1 : place P k ≤ 33 := by have := (anc_in (anc_root Tr k hk) hk).2; rw [place_zero] at this; have := len_le Tr (j := 0) (by omega); omega
    have b2 : place P l ≤ 33 := by have := (anc_in (anc_root Tr l hlN) hlN).2; rw [place_zero] at this; have := len_le Tr (j := 0) (by omega); omega
    have hlen2 : len P k = (text P k).length := rfl
    have Xg := X.keeps st
    have Tg := T.keeps st
    generalize hpk : place P k = pk at *
    generalize hpq : place P l = pq at *
    by_cases c1 : pk ≤ pq
    · by_cases c2 : pq < pk + (text P k).length
      · k_steps
        any_goals try k_data
        all_goals first | (exfalso; omega) | skip
        exact NxtC.intro (m₂ := _) [] (by assumption) (by assumption) .nil (by
          rw [take_succ_get hl, List.filter_append, List.filter_cons, if_pos (by rw [hpq, hlen2]; simp [c1, c2]), List.filter_nil, List.map_append, List.map_cons, hpq]
          exact hJ.snoc _ _)
      · k_steps
        any_goals try k_data
        all_goals first | (exfalso; omega) | skip
        exact NxtC.intro (m₂ := _) [] (by assumption) (by assumption) .nil (by
          rw [take_succ_get hl, List.filter_append, List.filter_cons, if_neg (by rw [hpq, hlen2]; simp [c2]), List.filter_nil, List.append_nil]
          exact hJ)
    · k_steps
      any_goals try k_data
      all_goals first | (exfalso; omega) | skip
      exact NxtC.intro (m₂ := _) [] (by assumption) (by assumption) .nil (by
        rw [take_succ_get hl, List.filter_append, List.filter_cons, if_neg (by rw [hpq, hlen2]; simp [c1]), List.filter_nil, List.append_nil]
        exact hJ)
  · intro D e ys tl h tk hJ F' N' hA h3 h4
    rw [hL.1, List.take_length] at hJ
    have N2 : News h₀ L h ((ww, listOf wv.toArray cw) :: (D, listOf (List.toArray ys) e) :: (tl ++ news)) := News.sub N' fun p hp => by
      simp only [List.mem_cons, List.mem_append] at hp ⊢
      rcases hp with hp | hp | hp | hp <;> simp only [hp, true_or, or_true]
    have hDw : ww < D := h3 _ (.head _)
    have hne : ∀ p ∈ (D, listOf (List.toArray ys) e) :: (tl ++ news), p.1 ≠ ww := by
      intro p hp
      rcases List.mem_cons.mp hp with rfl | hp
      · exact Nat.ne_of_gt hDw
      · rcases List.mem_append.mp hp with hp | hp
        · exact Nat.ne_of_gt (Nat.lt_trans hDw (h4 p hp))
        · exact hn2 p hp
    clear N'
    k_steps
    any_goals try k_data
    exact hret _ _ _ _ _ _ _ (by assumption) (by assumption) hJ h3
theorem l_return {w : World} {p : Program} {loose : List Str} {mean : ExcName → Option Value} {mg mb : Str → Option Value} {h₀ : Heap} {L : Addr} {m : Str → Option Value} {s : Shared} {news : List (Addr × Obj)}
  {bw ww : Addr} {bv wv : List Value} {cb cw : Nat} {ds : List Dat} (F : Fr h₀ L s.heap m) (X : (hd.heap_39 w.params).In h₀) (N : News h₀ L s.heap news) (T : Top p loose mean mg mb h₀)
  (hFn : LawK w nm ql psL sc cdv q1 q2 q3 q4 q5 q6 q7 q8 q9 q10 q11 q12 q13 q14 q15 q16 q17 q18)
  (h1 : m (Str.ofString "below") = some (.ref bw)) (h2 : m (Str.ofString "within") = some (.ref ww)) (hb : (bw, listOf bv.toArray cb) ∈ news) (hw : (ww, listOf wv.toArray cw) ∈ news)
  (db : DatAll news bv ds) (dw : DatAll news wv ds) (ok : ∀ d ∈ ds, kqdOk 8 d = true)
  {Q : Flow → Shared → Prop}
  (hret : Q (.ret (.bool true)) s) :
  wpAny (model PySem.Challenge.rw_ez0274_01.prog w) (AM 850 900) (exec q18 (envOfC ql sc L f cd)) Q (fun _ _ => False) s := by
  revert X; k_fill; intro X
  obtain ⟨oc, od, dV, kV, doc, pm, an, ct, osl, hK'⟩ := hFn
  refine key_of (by k_is) hK' (fun e => ?_)
  cases e
  k_steps
  any_goals try k_data
  any_goals (with_reducible try exact trivial)
  unfold Stop
  refine kqd_eq N hb rfl rfl db (fun _ h => h) hw rfl rfl dw (fun _ h => h) ok ok (by ke_room) ?_
  simp only [decide_true]
  k_steps
  any_goals try k_data
  exact hret

end
section
variable {q1 q2 q3 q4 q5 q6 q7 q8 q9 q10 q11 q12 q13 q14 q15 q16 q17 q18 : Stmt} {nm ql : Str} {psL : Arguments} {sc : Scope} {cdv cd : Value} {f : Addr}
theorem NatsAre.dat {made : List (Addr × Obj)} : ∀ {ys : List Value} {X : List Nat}, NatsAre ys X → DatAll made ys (X.map fun n => Dat.int ((n : Nat) : Int))
  | [], [], _ => .nil
  | [], _ :: _, h => by have := h.1; simp at this
  | _ :: _, [], h => by have := h.1; simp at this
  | y :: ys, n :: X, h => by
    obtain ⟨t, rfl⟩ := h.2 0 y rfl
    exact .cons (.int _ _) (NatsAre.dat ⟨by have := h.1; simpa using this, fun i v hv => by
      have := h.2 (i + 1) v (by simpa using hv)
      simpa using this⟩)
def lastDat (P : List Nat) (k : Nat) : Dat := .list ((((dfs P 0).filter fun l => decide ((names P l).take (names P k).length = names P k)).map (place P)).map fun n => Dat.int ((n : Nat) : Int))
theorem lastDat_eq {P : List Nat} (Tr : Tree P) {k : Nat} (hk : k < P.length) : lastDat P k = .list ((((dfs P 0).filter fun l => decide (place P k ≤ place P l ∧ place P l < place P k + len P k)).map (place P)).map fun n => Dat.int ((n : Nat) : Int)) := by
  unfold lastDat
  congr 3
  refine List.filter_congr fun l hl => ?_
  exact decide_eq_decide.mpr (agree Tr hk hl)
structure LastSt (L bw ww : Addr) (stat : List (Addr × Obj)) (P : List Nat) (i : Nat) (full : List (Addr × Obj)) : Prop where
  node : ∃ on x, (L + 1, on) ∈ full ∧ on.data = .cell x
  lists : ∃ made bv cb wv cw, (∀ q ∈ made, q ∈ full ∧ q.1 ∉ [L + 1, bw, ww]) ∧ (bw, listOf (List.toArray bv) cb) ∈ full ∧ (ww, listOf (List.toArray wv) cw) ∈ full ∧ DatAll made bv ((List.range i).map (lastDat P)) ∧ DatAll made wv ((List.range i).map (lastDat P))
  stat : ∀ q ∈ stat, q ∈ full
theorem l_last {w : World} {p : Program} {loose : List Str} {mean : ExcName → Option Value} {mg mb : Str → Option Value} {h₀ : Heap} {L : Addr} {m : Str → Option Value} {s : Shared} {news : List (Addr × Obj)}
  {pa bw ww tda lva kl plc tpl : Addr} {ok opl ot : Obj} {vs tv lv kv pv xv : List Value} {ca ct cl cx cp cx' : Nat} {P : List Nat} {Kd : Nat → Addr} {stat : List (Addr × Obj)} (F : Fr h₀ L s.heap m) (X : (hd.heap_39 w.params).In h₀) (N : News h₀ L s.heap news) (T : Top p loose mean mg mb h₀)
  (hFn : LawK w nm ql psL sc cdv q1 q2 q3 q4 q5 q6 q7 q8 q9 q10 q11 q12 q13 q14 q15 q16 q17 q18)
  (Tr : Tree P) (hP : NatsAre vs P) (h1 : m (Str.ofString "parents") = some (.ref pa)) (hpa : (pa, listOf vs.toArray ca) ∈ stat) (h2 : m (Str.ofString "below") = some (.ref bw)) (h3 : m (Str.ofString "within") = some (.ref ww)) (h4 : m (Str.ofString "told") = some (.ref tda)) (h5 : m (Str.ofString "leaves") = some (.ref lva))
  (htd : (tda, listOf tv.toArray ct) ∈ stat) (hlv : (lva, listOf lv.toArray cl) ∈ stat)
  (hok : ok.data = .cell (some (.ref kl))) (mok : (L + 1 + 1 + 1 + 1, ok) ∈ stat) (hkl : (kl, listOf kv.toArray cx) ∈ stat) (hkvl : kv.length = P.length) (hkv : ∀ i, i < P.length → kv[i]? = some (.ref (Kd i)))
  (hopl : opl.data = .cell (some (.ref plc))) (mopl : (L + 1 + 1 + 1 + 1 + 1 + 1, opl) ∈ stat) (hpl : (plc, listOf pv.toArray cp) ∈ stat) (hpv : pv.length = P.length) (hp : ∀ i, i < P.length → ∃ t, pv[i]? = some (.int (place P i : Nat) t))
  (hot : ot.data = .cell (some (.ref tpl))) (mot : (L + 1 + 1 + 1 + 1 + 1, ot) ∈ stat) (htpl : (tpl, listOf xv.toArray cx') ∈ stat) (hxv : xv.length = P.length) (hx : ∀ i, i < P.length → ∃ t, xv[i]? = some (.str (text P i) t))
  (hT : ToldIn stat tv P Kd) (hL : LeavesIn stat lv P) (hK : KindsAre stat Kd P)
  (d1 : bw ≠ L + 1) (d2 : ww ≠ L + 1) (d3 : bw ≠ ww) (hst : ∀ q ∈ stat, q.1 ≠ L + 1 ∧ q.1 ≠ bw ∧ q.1 ≠ ww)
  (hS : LastSt L bw ww stat P 0 news) {Q : Flow → Shared → Prop}
  (hret : ∀ h' tk' full, Fr h₀ L h' m → News h₀ L h' full → LastSt L bw ww stat P P.length full → Q .next { s with heap := h', toks := tk' }) :
  wpAny (model PySem.Challenge.rw_ez0274_01.prog w) (AM 850 900) (exec q17 (envOfC ql sc L f cd)) Q (fun _ _ => False) s := by
  have hFn' := hFn
  have X' := X
  have hlo := Tr.lo
  have hhi := Tr.hi
  have hlen : vs.length = P.length := hP.1
  have hlen' : vs.length ≤ 1000 := by omega
  have hpaN := hS.stat _ hpa
  revert X; k_fill; intro X
  obtain ⟨oc, od, dV, kV, doc, pm, an, ct, osl, hK'⟩ := hFn
  refine key_of (by k_is) hK' (fun e => ?_)
  cases e
  k_steps
  any_goals try k_data
  any_goals (with_reducible try exact trivial)
  rename IsRange _ _ _ _ _ _ _ _ => hr
  rename Fr _ _ _ _ => F
  rename News _ _ _ _ => N
  refine loop_rangeR P.length F N hr (by rw [hlen]; exact small_up (a := 0) (by omega) (by omega)) (by rw [hlen]; exact range_up 0 (by omega)) rfl (fun i m₁ rest => m₁ = m ∧ LastSt L bw ww stat P i rest) ⟨rfl, hS⟩ ?_ ?_
  · rintro I i t o₁ m₁ rest h tk hi ⟨rfl, hJ⟩ F₁ N₁ hne1 hne2
    rw [show (0 : Int) + ((i : Nat) : Int) * 1 = ((i : Nat) : Int) by omega]
    change Fr h₀ L h m₁ at F₁
    change News h₀ L h _ at N₁
    obtain ⟨on, x, mon, hon⟩ := hJ.node
    obtain ⟨made, bv, cb, wv, cw, hmd, mbv, mwv, db, dw⟩ := hJ.lists
    have hbvl : bv.length = i := by rw [DatAll.len db]; simp
    have hwvl : wv.length = i := by rw [DatAll.len dw]; simp
    obtain ⟨r, N2, k1, k2⟩ := pulls (ps := [(L + 1, on), (bw, listOf bv.toArray cb), (ww, listOf wv.toArray cw)]) N₁ (fun q hq => by
      simp only [List.mem_cons, List.not_mem_nil, or_false] at hq
      rcases hq with rfl | rfl | rfl
      · exact .tail _ mon
      · exact .tail _ mbv
      · exact .tail _ mwv)
    have N2 : News h₀ L h ((L + 1, on) :: (bw, listOf bv.toArray cb) :: (ww, listOf wv.toArray cw) :: r) := N2
    have kk : ∀ q ∈ (I, o₁) :: rest, q.1 ≠ L + 1 → q.1 ≠ bw → q.1 ≠ ww → q ∈ r := fun q hq a b c => k1 q hq fun z hz => by
      simp only [List.mem_cons, List.not_mem_nil, or_false] at hz
      rcases hz with rfl | rfl | rfl
      · exact a
      · exact b
      · exact c
    have hsr : ∀ q ∈ stat, q ∈ r := fun q hq => kk q (.tail _ (hJ.stat q hq)) (hst q hq).1 (hst q hq).2.1 (hst q hq).2.2
    have hmr : ∀ q ∈ made, q ∈ r := fun q hq => kk q (.tail _ (hmd q hq).1) (fun e => (hmd q hq).2 (e ▸ .head _)) (fun e => (hmd q hq).2 (e ▸ .tail _ (.head _))) (fun e => (hmd q hq).2 (e ▸ .tail _ (.tail _ (.head _))))
    have hIr : (I, o₁) ∈ r := kk _ (.head _) (hne1 _ mon).symm (hne1 _ mbv).symm (hne1 _ mwv).symm
    have b1 : ∀ q ∈ r, q.1 ≠ L + 1 := fun q hq => (k2 q hq).2 _ (.head _)
    have b2 : ∀ q ∈ r, q.1 ≠ bw := fun q hq => (k2 q hq).2 _ (.tail _ (.head _))
    have b3 : ∀ q ∈ r, q.1 ≠ ww := fun q hq => (k2 q hq).2 _ (.tail _ (.tail _ (.head _)))
    refine then_exec ?_
    refine l_below_turn (s := { s with heap := h, toks := tk }) (Kd := Kd) (news := (ww, listOf wv.toArray cw) :: r) F₁ X' (fun q hq => N2 q (.tail _ (.tail _ hq))) T hFn' Tr N2 hon ?_ ?_ d1 h2 h4 (.tail _ (hsr _ htd)) hok (.tail _ (hsr _ mok)) (.tail _ (hsr _ hkl)) (by omega) (hkv i hi) hi (hT.mono fun q hq => .tail _ (hsr q hq)) (hK.mono fun q hq => .tail _ (hsr q hq)) (by omega) ?_
    · intro q hq
      rcases List.mem_cons.mp hq with rfl | hq
      · exact d2
      · exact b1 q hq
    · intro q hq
      rcases List.mem_cons.mp hq with rfl | hq
      · exact d3.symm
      · exact b2 q hq
    intro h6 tk6 on6 cb6 D6 e6 ys6 tl6 F6 N6 hon6 hn6 hD6
    refine ⟨rfl, execs_two ?_⟩
    have hDr : ∀ q ∈ r, q.1 < D6 := fun q hq => hD6 q (.tail _ (.tail _ (.tail _ hq)))
    have hDb : bw < D6 := hD6 _ (.tail _ (.head _))
    have hDw : ww < D6 := hD6 _ (.tail _ (.tail _ (.head _)))
    have hDL : L + 1 < D6 := hD6 _ (.head _)
    have N7 : News h₀ L h6 ((ww, listOf wv.toArray cw) :: (L + 1, on6) :: (bw, listOf (bv.toArray.push (.ref D6)) cb6) :: (D6, listOf ys6.toArray e6) :: r) := News.sub N6 fun q hq => by
      simp only [List.mem_cons, List.mem_append] at hq ⊢
      rcases hq with hq | hq | hq | hq | hq <;> simp only [hq, true_or, or_true]
    obtain ⟨tp, g1⟩ := hp i hi
    obtain ⟨tx, g2⟩ := hx i hi
    refine l_within_turn (s := { s with heap := h6, toks := tk6 }) F6 X' (fun q hq => N7 q (.tail _ hq)) T hFn' Tr N7 hon6 (.head _) ?_ h3 h5 (.tail _ (.tail _ (.tail _ (hsr _ hlv)))) hopl (.tail _ (.tail _ (.tail _ (hsr _ mopl)))) (.tail _ (.tail _ (.tail _ (hsr _ hpl)))) hot (.tail _ (.tail _ (.tail _ (hsr _ mot)))) (.tail _ (.tail _ (.tail _ (hsr _ htpl)))) (by omega) (by omega) g1 g2 hi (hL.mono fun q hq => .tail _ (.tail _ (.tail _ (hsr q hq)))) (by omega) ?_
    · intro q hq
      rcases List.mem_cons.mp hq with rfl | hq
      · exact d2.symm
      · rcases List.mem_cons.mp hq with rfl | hq
        · exact d3
        · rcases List.mem_cons.mp hq with rfl | hq
          · exact Nat.ne_of_gt hDw
          · exact b3 q hq
    intro h8 tk8 cw8 D8 e8 ys8 tl8 F8 N8 hn8 hD8
    refine ⟨rfl, wpAny_execs_nil ?_⟩
    have hDr8 : ∀ q ∈ r, q.1 < D8 := fun q hq => hD8 q (.tail _ (.tail _ (.tail _ (.tail _ hq))))
    have hD68 : D6 < D8 := hD8 _ (.tail _ (.tail _ (.tail _ (.head _))))
    have hDw8 : ww < D8 := hD8 _ (.head _)
    have hDL8 : L + 1 < D8 := hD8 _ (.tail _ (.head _))
    have hDb8 : bw < D8 := hD8 _ (.tail _ (.tail _ (.head _)))
    have up : ∀ q ∈ r, q ∈ (ww, listOf (wv.toArray.push (.ref D8)) cw8) :: (D8, listOf ys8.toArray e8) :: (tl8 ++ (L + 1, on6) :: (bw, listOf (bv.toArray.push (.ref D6)) cb6) :: (D6, listOf ys6.toArray e6) :: r) := fun q hq => .tail _ (.tail _ (List.mem_append_right _ (.tail _ (.tail _ (.tail _ hq)))))
    refine NxtR.full F8 N8 (up _ hIr) fun rest' u1 _ => ⟨rfl, ⟨on6, _, u1 _ (.tail _ (.tail _ (List.mem_append_right _ (.head _)))) (hne1 (L + 1, on) mon), hon6⟩, ⟨(D8, listOf ys8.toArray e8) :: (D6, listOf ys6.toArray e6) :: made, bv ++ [.ref D6], cb6, wv ++ [.ref D8], cw8, fun q hq => ?_, ?_, ?_, ?_, ?_⟩, fun q hq => u1 q (up q (hsr q hq)) (hne1 q (hJ.stat q hq))⟩
    · rcases List.mem_cons.mp hq with rfl | hq
      · refine ⟨u1 _ (.tail _ (.head _)) (Nat.ne_of_gt (hDr8 _ hIr)), fun hb => ?_⟩
        simp only [List.mem_cons, List.not_mem_nil, or_false] at hb
        rcases hb with e | e | e
        · exact absurd e (Nat.ne_of_gt hDL8)
        · exact absurd e (Nat.ne_of_gt hDb8)
        · exact absurd e (Nat.ne_of_gt hDw8)
      · rcases List.mem_cons.mp hq with rfl | hq
        · refine ⟨u1 _ (.tail _ (.tail _ (List.mem_append_right _ (.tail _ (.tail _ (.head _)))))) (Nat.ne_of_gt (hDr _ hIr)), fun hb => ?_⟩
          simp only [List.mem_cons, List.not_mem_nil, or_false] at hb
          rcases hb with e | e | e
          · exact absurd e (Nat.ne_of_gt hDL)
          · exact absurd e (Nat.ne_of_gt hDb)
          · exact absurd e (Nat.ne_of_gt hDw)
        · exact ⟨u1 q (up q (hmr q hq)) (hne1 q (hmd q hq).1), (hmd q hq).2⟩
    · rw [← push_list]
      exact u1 _ (.tail _ (.tail _ (List.mem_append_right _ (.tail _ (.head _))))) (hne1 (bw, listOf bv.toArray cb) mbv)
    · rw [← push_list]
      exact u1 _ (.head _) (hne1 (ww, listOf wv.toArray cw) mwv)
    · rw [List.range_succ, List.map_append]
      exact DatAll.snoc (db.mono fun q hq => .tail _ (.tail _ hq)) (.list (.tail _ (.head _)) hn6.dat)
    · rw [List.range_succ, List.map_append]
      refine DatAll.snoc (dw.mono fun q hq => .tail _ (.tail _ hq)) ?_
      show DatIn _ _ (lastDat P i)
      rw [lastDat_eq Tr hi]
      exact .list (.head _) hn8.dat
  · rintro m₁ rest h tk ⟨rfl, hJ⟩ F₁ N₁
    exact hret _ _ _ F₁ N₁ hJ

end
section
variable {q1 q2 q3 q4 q5 q6 q7 q8 q9 q10 q11 q12 q13 q14 q15 q16 q17 q18 : Stmt} {nm ql : Str} {psL : Arguments} {sc : Scope} {cdv cd : Value} {f : Addr}
def LeavF (P : List Nat) (m : Str → Option Value) (full : List (Addr × Obj)) : Prop := ∃ lva lv cl, m (Str.ofString "leaves") = some (.ref lva) ∧ (lva, listOf (List.toArray lv) cl) ∈ full ∧ LeavesIn full lv P
def ToldF (P : List Nat) (Kd : Nat → Addr) (m : Str → Option Value) (full : List (Addr × Obj)) : Prop := ∃ tda tv ct, m (Str.ofString "told") = some (.ref tda) ∧ (tda, listOf (List.toArray tv) ct) ∈ full ∧ ToldIn full tv P Kd
theorem g_told {w : World} {p : Program} {loose : List Str} {mean : ExcName → Option Value} {mg mb : Str → Option Value} {h₀ : Heap} {L : Addr} {m : Str → Option Value} {s : Shared} {news : List (Addr × Obj)}
  {pa : Addr} {vs : List Value} {ca : Nat} {P : List Nat} {Kd : Nat → Addr} {rest : List Stmt} (F : Fr h₀ L s.heap m) (X : (hd.heap_39 w.params).In h₀) (N : News h₀ L s.heap news) (T : Top p loose mean mg mb h₀)
  (hFn : LawK w nm ql psL sc cdv q1 q2 q3 q4 q5 q6 q7 q8 q9 q10 q11 q12 q13 q14 q15 q16 q17 q18)
  (Tr : Tree P) (pF : ParF L pa vs ca P m news) (kF : KidsF L P news) (aF : PathsF L P news) (dF : KindsF L P Kd news) (tF : TextsF L P news) (lF : PlacesF L P news) (bF : TabF w P Kd m news)
  (u1 : Un (L + 1) news) {Q : Flow → Shared → Prop}
  (hret : ∀ m' s' full, Fr h₀ L s'.heap m' → News h₀ L s'.heap full → ParF L pa vs ca P m' full → KindsF L P Kd full → TextsF L P full → PlacesF L P full → LeavF P m' full → ToldF P Kd m' full → (∀ q ∈ news, q ∈ full) → Un (L + 1) full → (∀ (g : Nat) y, s'.gens[g]? = some y → s.gens[g]? = some y ∨ y = GenState.finished) → s'.os = s.os →
    wpT (model PySem.Challenge.rw_ez0274_01.prog w) (AM 310 310) (execs rest (envOfC ql sc L f cd)) Q (fun _ _ => False) s') :
  wpT (model PySem.Challenge.rw_ez0274_01.prog w) (AM 310 310) (execs (q12 :: q13 :: q14 :: rest) (envOfC ql sc L f cd)) Q (fun _ _ => False) s := by
  have hP := pF.2.2
  have hhi := Tr.hi
  have hlo := Tr.lo
  have un : ∀ q ∈ hi L news, q ∈ news := fun q hq => (mem_hi.mp hq).1
  obtain ⟨ob, bl, bv, cb, k1, k2, k3, k4⟩ := id kF
  obtain ⟨opl, plc, pv, cp, l1, l2, l3, l4, l5⟩ := id lF
  refine stepT (l_leaves F X N T hFn Tr pF.1 (un _ pF.2.1) hP.1 k1 k2 (un _ k3) l1 l2 (un _ l3) (k4.mono un) l4 l5 fun m1 ha tka D e lv tl Fa Na hab hL hm1 hp1 ht1 => ⟨rfl, ?_⟩)
  generalize hfa : (D, listOf (List.toArray lv) e) :: (tl ++ news) = fulla at Na
  have upa : ∀ q ∈ news, q ∈ fulla := fun q hq => by rw [← hfa]; exact .tail _ (List.mem_append_right _ hq)
  have mD : (D, listOf (List.toArray lv) e) ∈ fulla := by rw [← hfa]; exact .head _
  have hLa : LeavesIn fulla lv P := hL.mono fun q hq => by rw [← hfa]; exact .tail _ (List.mem_append_left _ hq)
  have dFa := dF.mono (hi_sub upa) fun o ho => upa _ ho
  have tFa := tF.mono (hi_sub upa) fun o ho => upa _ ho
  have aFa := aF.mono (hi_sub upa) fun o ho => upa _ ho
  have lFa := lF.mono (hi_sub upa) fun o ho => upa _ ho
  have pFa := pF.mono hp1 (hi_sub upa)
  obtain ⟨tb, otb, kvs, b1, b2, b3, b4, b5⟩ := bF.mono ht1 upa
  obtain ⟨ok, kl, kv, cx, d1, d2, d3, d4, d5, d6⟩ := id dFa
  obtain ⟨ot, txl, tv, ct, t1, t2, t3, t4, t5⟩ := id tFa
  obtain ⟨tx, g1⟩ := t5 0 (by omega)
  have una : ∀ q ∈ hi L fulla, q ∈ fulla := fun q hq => (mem_hi.mp hq).1
  refine execsT_cons (l_told (s := { s with heap := ha, toks := tka }) Fa X Na T hFn Tr b1 b2 b4 b3 b5 (d6.mono una) t1 t2 (una _ t3) (by omega) g1 fun m2 S acc c tl2 full s2 F2 N2 hup hT hg hos hm2 hp2 hl2 => ⟨rfl, ?_⟩)
  generalize hfb : (S, listOf (List.toArray acc) c) :: (tl2 ++ full) = fullb at N2
  have upb : ∀ q ∈ fulla, q ∈ fullb := fun q hq => by rw [← hfb]; exact .tail _ (List.mem_append_right _ (hup _ hq))
  have mS : (S, listOf (List.toArray acc) c) ∈ fullb := by rw [← hfb]; exact .head _
  have hTb : ToldIn fullb acc P Kd := hT.mono fun q hq => by rw [← hfb]; exact .tail _ (List.mem_append_left _ hq)
  have dFb := dFa.mono (hi_sub upb) fun o ho => upb _ ho
  have tFb := tFa.mono (hi_sub upb) fun o ho => upb _ ho
  have aFb := aFa.mono (hi_sub upb) fun o ho => upb _ ho
  have lFb := lFa.mono (hi_sub upb) fun o ho => upb _ ho
  have pFb := pFa.mono hp2 (hi_sub upb)
  have unb : ∀ q ∈ hi L fullb, q ∈ fullb := fun q hq => (mem_hi.mp hq).1
  obtain ⟨op, ppl, pv2, cp2, e1, e2, e3, e4⟩ := id aFb
  obtain ⟨o1, x1, mo1, ho1⟩ := u1
  refine stepT (l_check (s := s2) F2 X N2 T hFn Tr (hl2.trans hm1) (upb _ mD) hm2 mS e1 e2 (unb _ e3) t1 (upb _ t2) (upb _ (una _ t3)) (hLa.mono upb) hTb (d6.mono fun q hq => upb _ (una _ hq)) (by rw [e4.1]; simp) (fun i hi => ?_) t4 t5 fun h3 tk3 F3 N3 => ⟨rfl, hret m2 _ fullb F3 N3 pFb dFb tFb lFb ⟨D, lv, e, hl2.trans hm1, upb _ mD, hLa.mono upb⟩ ⟨S, acc, c, hm2, mS, hTb⟩ (fun q hq => upb _ (upa _ hq)) ⟨o1, x1, upb _ (upa _ mo1), ho1⟩ hg hos⟩)
  exact e4.get (by rw [List.getElem?_map, List.getElem?_range hi]; rfl)

end
section
variable {q1 q2 q3 q4 q5 q6 q7 q8 q9 q10 q11 q12 q13 q14 q15 q16 q17 q18 : Stmt} {nm ql : Str} {psL : Arguments} {sc : Scope} {cdv cd : Value} {f : Addr}
theorem lastT {M : Model} {env : Env} {s : Shared} {a : Stmt} {Q : Flow → Shared → Prop} (h : wpAny M (AM 850 900) (exec a env) (fun f s' => ∃ v, f = .ret v ∧ Q f s') (fun _ _ => False) s) : wpT M (AM 310 310) (execs [a] env) Q (fun _ _ => False) s := by
  rw [execs_cons]
  refine wpT_of (wpAny_lift (d := 850) (u := 900) ⟨rfl, by decide, by decide⟩ (wpAny_bind (wpAny_mono h (fun f s' h => ?_) fun _ _ x => x)))
  obtain ⟨v, rfl, h⟩ := h
  exact wpAny_pure h
theorem tup_ne_cell {h₀ h : Heap} {L a b : Addr} {full : List (Addr × Obj)} {xs : List Value} {o : Obj} {x : Option Value} (N : News h₀ L h full) (h1 : (a, tupO xs) ∈ full) (h2 : (b, o) ∈ full) (hd : o.data = .cell x) : a ≠ b := fun e => by
  subst e
  have := newsSame N h1 h2
  rw [← this] at hd; cases hd
theorem g_last {w : World} {p : Program} {loose : List Str} {mean : ExcName → Option Value} {mg mb : Str → Option Value} {h₀ : Heap} {L : Addr} {m : Str → Option Value} {s : Shared} {news : List (Addr × Obj)}
  {pa : Addr} {vs : List Value} {ca : Nat} {P : List Nat} {Kd : Nat → Addr} (F : Fr h₀ L s.heap m) (X : (hd.heap_39 w.params).In h₀) (N : News h₀ L s.heap news) (T : Top p loose mean mg mb h₀)
  (hFn : LawK w nm ql psL sc cdv q1 q2 q3 q4 q5 q6 q7 q8 q9 q10 q11 q12 q13 q14 q15 q16 q17 q18)
  (Tr : Tree P) (pF : ParF L pa vs ca P m news) (dF : KindsF L P Kd news) (tF : TextsF L P news) (lF : PlacesF L P news) (vF : LeavF P m news) (oF : ToldF P Kd m news)
  (u1 : Un (L + 1) news) {Q : Flow → Shared → Prop}
  (hret : ∀ m' h' tk', Fr h₀ L h' m' → (∀ q ∈ news, q.1 ≠ L + 1 → h'.get? q.1 = some q.2) → Q (.ret (.bool true)) { s with heap := h', toks := tk' }) :
  wpT (model PySem.Challenge.rw_ez0274_01.prog w) (AM 310 310) (execs [q15, q16, q17, q18] (envOfC ql sc L f cd)) Q (fun _ _ => False) s := by
  have hP := pF.2.2
  obtain ⟨o1, x1, mo1, ho1⟩ := u1
  obtain ⟨hpa, pa6⟩ := mem_hi.mp pF.2.1
  refine stepT2 (l_empty F X N T hFn fun m1 ha tka a b Fa Na hab hbb hm1 hm2 hp hT hL => ⟨rfl, ?_⟩)
  have hiO : ∀ q : Addr × Obj, L + 1 + 1 + 1 + 1 + 1 + 1 < q.1 → ∀ a, a ≤ L + 1 + 1 + 1 + 1 + 1 + 1 → q.1 ≠ a := fun q h a ha e => by rw [e] at h; exact absurd h (Nat.not_lt.mpr ha)
  have off : ∀ q : Addr × Obj, q ∈ news → q.1 ≠ L + 1 → q ∈ offs [L + 1] news := fun q hq h => mem_offs.mpr ⟨hq, fun e => h (List.mem_singleton.mp e)⟩
  have hio : ∀ q ∈ hi L news, q ∈ offs [L + 1] news := fun q hq => off q (mem_hi.mp hq).1 (hiO _ (mem_hi.mp hq).2 _ (by (unfold Addr at *; omega)))
  obtain ⟨ok, kl, kv, cx, d1, d2, d3, d4, d5, d6⟩ := dF
  obtain ⟨ot, txl, tv, ct, t1, t2, t3, t4, t5⟩ := tF
  obtain ⟨opl, plc, pv, cp, l1, l2, l3, l4, l5⟩ := lF
  obtain ⟨lva, lv, cl, v1, v2, v3⟩ := vF
  obtain ⟨tda, dv, cd', w1, w2, w3⟩ := oF
  have nd : a ≠ L + 1 := Nat.ne_of_gt (hab _ mo1)
  have nb : b ≠ L + 1 := Nat.ne_of_gt (Nat.lt_trans (hab _ mo1) hbb)
  have hLv : LeavesIn (offs [L + 1] news) lv P := ⟨v3.1, fun k l hk => by
    obtain ⟨a, t1, t2, e, hm⟩ := v3.2 k l hk
    exact ⟨a, t1, t2, e, off _ hm (tup_ne_cell N hm mo1 ho1)⟩⟩
  have hTv : ToldIn (offs [L + 1] news) dv P Kd := ⟨w3.1, fun k l hk => by
    obtain ⟨a, t1, t2, e, hm⟩ := w3.2 k l hk
    exact ⟨a, t1, t2, e, off _ hm (tup_ne_cell N hm mo1 ho1)⟩⟩
  have hst : ∀ q ∈ offs [L + 1] news, q.1 ≠ L + 1 ∧ q.1 ≠ a ∧ q.1 ≠ b := fun q hq => by
    obtain ⟨h1, h2⟩ := mem_offs.mp hq
    exact ⟨fun e => h2 (e ▸ .head _), Nat.ne_of_lt (hab _ h1), Nat.ne_of_lt (Nat.lt_trans (hab _ h1) hbb)⟩
  have z0 : LastSt L a b (offs [L + 1] news) P 0 ((b, listOf #[] 0) :: (a, listOf #[] 0) :: news) :=
    ⟨⟨o1, x1, .tail _ (.tail _ mo1), ho1⟩, ⟨[], [], 0, [], 0, (fun _ h => nomatch h), .tail _ (.head _), .head _, .nil, .nil⟩, fun q hq => .tail _ (.tail _ (mem_offs.mp hq).1)⟩
  refine stepT (l_last (s := { s with heap := ha, toks := tka }) Fa X Na T hFn Tr hP (hp.trans pF.1) (hio _ pF.2.1) hm1 hm2 (hT.trans w1) (hL.trans v1) (off _ w2 (list_ne_cell N w2 mo1 ho1)) (off _ v2 (list_ne_cell N v2 mo1 ho1))
    d1 (off _ d2 (by show L + 1 + 1 + 1 + 1 ≠ _; (unfold Addr at *; omega))) (hio _ d3) d4 d5 l1 (off _ l2 (by show L + 1 + 1 + 1 + 1 + 1 + 1 ≠ _; (unfold Addr at *; omega))) (hio _ l3) l4 l5 t1 (off _ t2 (by show L + 1 + 1 + 1 + 1 + 1 ≠ _; (unfold Addr at *; omega))) (hio _ t3) t4 t5 hTv hLv (d6.mono hio) nd nb (Nat.ne_of_lt hbb) hst z0 fun hb tkb full Fb Nb Lb => ⟨rfl, ?_⟩)
  obtain ⟨made, bv, cb, wv, cw, g1, g2, g3, g4, g5⟩ := Lb.lists
  refine lastT (l_return (s := { s with heap := hb, toks := tkb }) Fb X Nb T hFn hm1 hm2 g2 g3 (DatAll.mono (fun q hq => (g1 q hq).1) g4) (DatAll.mono (fun q hq => (g1 q hq).1) g5) (fun d hd => ?_) ⟨_, rfl, hret m1 hb tkb Fb fun q hq hn => (Nb _ (Lb.stat _ (off q hq hn))).1⟩)
  obtain ⟨k, _, rfl⟩ := List.mem_map.mp hd
  unfold lastDat
  rw [kqdOk, List.all_eq_true]
  intro d hd
  obtain ⟨n, _, rfl⟩ := List.mem_map.mp hd
  rfl
theorem law_body {w : World} {p : Program} {loose : List Str} {mean : ExcName → Option Value} {mg mb : Str → Option Value} {h₀ : Heap} {L : Addr} {m : Str → Option Value} {s : Shared} {news : List (Addr × Obj)}
  {scr : Addr} {items : List Value} {ns : List Int} (F : Fr h₀ L s.heap m) (X : (hd.heap_39 w.params).In h₀) (N : News h₀ L s.heap news) (T : Top p loose mean mg mb h₀)
  (hFn : LawK w nm ql psL sc cdv q1 q2 q3 q4 q5 q6 q7 q8 q9 q10 q11 q12 q13 q14 q15 q16 q17 q18)
  (C4 : CodeHd h₀ 434 430) (C7 : CodeHd h₀ 411 407) (b4 : 430 < L) (b7 : 407 < L) (b2 : 229 < L)
  (h1 : m (Str.ofString "script") = some (.ref scr)) (hl : h₀.IsList scr items.toArray) (hI : IntsAre items ns) (hlen : items.length ≤ 1000)
  (u1 : Un (L + 1) news) (u2 : Un (L + 1 + 1) news) (u3 : Un (L + 1 + 1 + 1) news) (u4 : Un (L + 1 + 1 + 1 + 1) news) (u5 : Un (L + 1 + 1 + 1 + 1 + 1) news) (u6 : Un (L + 1 + 1 + 1 + 1 + 1 + 1) news) (t4 : (430, tabObj #[]) ∈ news) (t7 : (407, tabObj #[]) ∈ news) (t2 : (229, tabObj #[]) ∈ news) {Q : Flow → Shared → Prop}
  (hret : ∀ m' s', Fr h₀ L s'.heap m' → (∀ (g : Nat) y, s'.gens[g]? = some y → s.gens[g]? = some y ∨ y = GenState.finished) → s'.os = s.os → GrownAt 229 s'.heap → GrownAt 430 s'.heap → GrownAt 407 s'.heap → Q (.ret (.bool true)) s') :
  wpT (model PySem.Challenge.rw_ez0274_01.prog w) (AM 310 310) (execs [q1, q2, q3, q4, q5, q6, q7, q8, q9, q10, q11, q12, q13, q14, q15, q16, q17, q18] (envOfC ql sc L f cd)) Q (fun _ _ => False) s := by
  have un : ∀ {c : Addr} {full : List (Addr × Obj)}, Un c news → (∀ o, (c, o) ∈ news → (c, o) ∈ full) → Un c full := fun ⟨o, x, a, b⟩ h => ⟨o, x, h _ a, b⟩
  refine g_kids F X N T hFn h1 hl hI hlen u1 u2 u3 u6 fun m1 ha tka fulla pa vs ca P Fa Na Tr pF kF aF upa u1a => ?_
  have upa' : ∀ o c, (c, o) ∈ news → c ≠ L + 1 → c ≠ L + 1 + 1 → c ≠ L + 1 + 1 + 1 → (c, o) ∈ fulla := fun o c h a b d => upa _ h (by intro hh; simp only [List.mem_cons, List.not_mem_nil, or_false] at hh; rcases hh with e | e | e; exact a e; exact b e; exact d e)
  refine g_texts (s := { s with heap := ha, toks := tka }) Fa X Na T hFn Tr pF kF aF u1a (un u4 fun o h => upa' o _ h (by (unfold Addr at *; omega)) (by (unfold Addr at *; omega)) (by (unfold Addr at *; omega))) (un u5 fun o h => upa' o _ h (by (unfold Addr at *; omega)) (by (unfold Addr at *; omega)) (by (unfold Addr at *; omega))) fun hb tkb fullb Kd Fb Nb pF kF aF dF tF upb u1b => ?_
  have upb' : ∀ o c, (c, o) ∈ fulla → c ≠ L + 1 → c ≠ L + 1 + 1 + 1 + 1 → c ≠ L + 1 + 1 + 1 + 1 + 1 → (c, o) ∈ fullb := fun o c h a b d => upb _ h (by intro hh; simp only [List.mem_cons, List.not_mem_nil, or_false] at hh; rcases hh with e | e | e; exact a e; exact b e; exact d e)
  refine g_table (s := { s with heap := hb, toks := tkb }) Fb X Nb T hFn C4 C7 b4 b7 b2 Tr pF kF aF dF tF u1b (un u6 fun o h => upb' o _ (upa' o _ h (by (unfold Addr at *; omega)) (by (unfold Addr at *; omega)) (by (unfold Addr at *; omega))) (by (unfold Addr at *; omega)) (by (unfold Addr at *; omega)) (by (unfold Addr at *; omega))) (upb' _ _ (upa' _ _ t4 (by (unfold Addr at *; omega)) (by (unfold Addr at *; omega)) (by (unfold Addr at *; omega))) (by (unfold Addr at *; omega)) (by (unfold Addr at *; omega)) (by (unfold Addr at *; omega))) (upb' _ _ (upa' _ _ t7 (by (unfold Addr at *; omega)) (by (unfold Addr at *; omega)) (by (unfold Addr at *; omega))) (by (unfold Addr at *; omega)) (by (unfold Addr at *; omega)) (by (unfold Addr at *; omega))) (upb' _ _ (upa' _ _ t2 (by (unfold Addr at *; omega)) (by (unfold Addr at *; omega)) (by (unfold Addr at *; omega))) (by (unfold Addr at *; omega)) (by (unfold Addr at *; omega)) (by (unfold Addr at *; omega))) fun m3 hc tkc fullc Fc Nc pF kF aF dF tF lF bF gr u1c => ?_
  refine g_told (s := { s with heap := hc, toks := tkc }) Fc X Nc T hFn Tr pF kF aF dF tF lF bF u1c fun m4 s4 full4 F4 N4 pF dF tF lF vF oF up4 u14 hg hos => ?_
  refine g_last (s := s4) F4 X N4 T hFn Tr pF dF tF lF vF oF u14 fun m5 h5 tk5 F5 kp => ?_
  obtain ⟨⟨ps2, g2⟩, ⟨ps4, g4⟩, ⟨ps7, g7⟩⟩ := gr
  exact hret m5 _ F5 hg hos ⟨ps2, kp _ (up4 _ g2) (by show (229 : Nat) ≠ _; (unfold Addr at *; omega))⟩ ⟨ps4, kp _ (up4 _ g4) (by show (430 : Nat) ≠ _; (unfold Addr at *; omega))⟩ ⟨ps7, kp _ (up4 _ g7) (by show (407 : Nat) ≠ _; (unfold Addr at *; omega))⟩

end
section
section
variable {prog : Program} {w : World} {A : Around} {R : Result → Shared → Prop} {s : Shared}
theorem codeT_func {body : List Stmt} {env : Env} (h : wpT (model prog w) (A.deeper env) (execs body env) (fun f s' => R (.ok (.ret (match f with | .ret v => v | _ => .none))) s') (fun _ _ => False) s) : codeT (model prog w) A (.func body env) R s := by
  refine codeT_of_tree ?_
  show wpT _ (A.deeper env) (do point; match ← (execs body env).onRaise (leaving env) with | .ret v => ret v | _ => ret .none) _ _ s
  refine wpT_then (wpAny_point (wpT_bind (wpT_onRaise (wpT_mono h (fun f s' h' => ?_) fun _ _ h' => h'.elim))))
  cases f <;> exact wpT_pure h'
theorem codeT_call_function {a : Addr} {args : Args} {o : Obj} {fd : FuncData} {body : List Stmt} (hroom : A.depth < recursionLimit) (ho : s.heap.get? a = some o)
    (hd' : o.data = .func fd) (hco : fd.scope.isCoroutine = false) (hgen : fd.scope.isGenerator = false) (hbody : fd.body = .stmts body) (hcd : s.heap.CodeRec fd.code fd.qualname)
    (h : wpAny (model prog w) A.in1 (bindArgs fd args) (fun binds s₁ =>
      wpAny (model prog w) A.in1 (newFunctionEnv fd.scope fd.globals fd.closure binds (fd.qualname ++ ".<locals>.") (some a) fd.code none fd.builtins)
        (fun env s₂ => s₂.heap.NoLimit ∧ codeT (model prog w) A (.func body env) R s₂) (fun e s' => R (.error e) s') s₁) (fun e s' => R (.error e) s') s) :
    codeT (model prog w) A (.call (.ref a) args) R s := by
  refine codeT_of_tree (wpT_of ?_)
  show wpAny _ A.in1 (callAny (.ref a) args) _ _ s
  simp only [callAny]
  refine wpAny_bind (wpAny_load ho ?_)
  obtain ⟨c, oc, vs, tq, hc, hoc, hdc, hq⟩ := hcd
  simp only [hd', callFunction, hco, hgen, hbody, hc]
  rw [hc] at h
  refine wpAny_bind (m := field (.ref c) 1) (wpAny_field hoc hdc hq (wpAny_bind (wpAny_pure ?_)))
  exact wpAny_bind (wpAny_mono h (fun binds s₁ h₁ => wpAny_bind (wpAny_mono h₁ (fun env s₂ h₂ => wpAny_bind (wpAny_enterFrame h₂.1 hroom
    (wpAny_pure (And.intro rfl h₂.2)))) fun _ _ h' => h')) fun _ _ h' => h')
theorem callT_cells {name : Str} {params : Arguments} {body : List Stmt} {scope : Scope} {pm cd doc : Value} {a : Addr} {o : Obj} {args : List Value} {binds : List (Str × Value)}
    (hroom : A.depth < recursionLimit) (ho : s.heap.get? a = some o) (hdata : o.data = .func (Calls.docDef name params body scope pm cd doc)) (hlim : s.heap.NoLimit) (hcd : s.heap.CodeRec cd name)
    (hbind : bindArgs (Calls.docDef name params body scope pm cd doc) ⟨args, []⟩ = pure binds)
    (hkind : ∀ x ∈ binds, scope.names.lookup x.1 = some .local ∨ (scope.names.lookup x.1 = some .cell ∧ ((cellsFrom (s.heap.objs.size + 1) scope.names []).lookup x.1).isSome = true))
    (hnd : ((cellsFrom 0 scope.names []).map (·.1)).Nodup)
    (h : ∀ h₁ tk cells, Fr s.heap s.heap.objs.size h₁ (bindL (envOfC name scope s.heap.objs.size a cd).kindOf binds fun _ => none) → News s.heap s.heap.objs.size h₁ cells →
      CellsAre (bindC (envOfC name scope s.heap.objs.size a cd).kindOf binds fun _ => none) (cellsFrom (s.heap.objs.size + 1) scope.names []) cells →
      wpT (model prog w) (A.deeper (envOfC name scope s.heap.objs.size a cd)) (execs body (envOfC name scope s.heap.objs.size a cd))
        (fun f s' => R (.ok (.ret (match f with | .ret v => v | _ => .none))) s') (fun _ _ => False) { s with heap := h₁, toks := tk })
    (hco : scope.isCoroutine = false := by rfl) (hgen : scope.isGenerator = false := by rfl) (hk : scope.kind = .function := by rfl) :
    codeT (model prog w) A (.call (.ref a) ⟨args, []⟩) R s := by
  refine codeT_call_function hroom ho hdata hco hgen rfl hcd (wpAny_of_eq hbind ?_)
  refine wpAny_newFunctionEnv_cells hk hkind fun env' he s' x => ?_
  subst he
  refine ⟨hlim.keeps x.toInCall.keep, codeT_func ?_⟩
  obtain ⟨h₁, tk, rfl, _⟩ := x.done
  obtain ⟨cells, NC, Y⟩ := Cl.news (h₀ := s.heap) (Nat.le_refl _) fun n c hm => ⟨x.cell n c (lookup_of_mem_nodup (cellsFrom_names scope.names 0 (s.heap.objs.size + 1) [] [] rfl ▸ hnd) hm), x.above n c hm⟩
  exact h h₁ tk cells ⟨x.toInCall.ns, x.toInCall.keep, Nat.le_refl _⟩ NC Y
end
section
variable {M : Model} {A : Around} {s : Shared} {f : Value} {pos : List Value} {c : ClaimW} {cl : Str → Option Addr} {mean : ExcName → Option Value} {args : List WData} {s₁ : Shared}
theorem enterT (h : codeT M A (.call f ⟨pos, []⟩) (GoodWG c cl mean args s₁) s) : wpT M A (PySem.call f pos) (fun v s' => GoodWG c cl mean args s₁ (.ok (.ret v)) s') (fun e s' => GoodWG c cl mean args s₁ (.error e) s') s :=
  wpT_call (codeT_mono h fun res s' g => by rcases g.1 with ⟨v, _, _, rfl, _⟩ | ⟨e, _, _, rfl, _⟩ <;> exact g)
theorem good_end {tabs : List (Addr × Addr)} {s' : Shared} {L : Addr} {m : Str → Option Value} {v : Value} {d : WData} (hT : TabsAt tabs s₁.heap) (F : Fr (ghostOf s₁.heap tabs) L s'.heap m) (hg : AllBare s'.gens) (hos : s'.os = s₁.os)
    (hgr : ∀ q ∈ tabs, GrownAt q.2 s'.heap) (hn : ∀ x, c.raises args x = false) (hr : ReadsW c.records cl s'.heap v d []) (hp : c.post args d args = true) : GoodWG c cl mean args s₁ (.ok (.ret v)) s' := by
  have keep : ∀ b o, b ∉ tabs.map (·.2) → s₁.heap.get? b = some o → s'.heap.get? b = some o := fun b o hb e => F.keep b o (ghost_ne e hb)
  have grown : ∀ b o, b ∈ tabs.map (·.2) → s₁.heap.get? b = some o → isCodeTable s₁.heap b ∧ o = tabObj #[] ∧ ∃ ps, s'.heap.get? b = some (tabObj ps) := fun b o hb e => by
    obtain ⟨q, hq, rfl⟩ := List.mem_map.mp hb
    have e2 := (hT q hq).2
    rw [e] at e2
    exact ⟨((hT q hq).1.tab (hT q hq).2).isCodeTable, Option.some.inj e2, hgr q hq⟩
  refine ⟨.inl ⟨v, d, [], rfl, hn, hr, hp, fun _ => ⟨.nil, fun a ha => nomatch ha⟩⟩, ⟨fun b o e => ?_, fun b o e => ?_⟩, hos, hg⟩
  · by_cases hb : b ∈ tabs.map (·.2)
    · obtain ⟨ht, rfl, ps, hP⟩ := grown b o hb e
      exact .inr (.inl ⟨ht, rfl, #[], ps, rfl, by rw [Array.empty_append]; exact hP⟩)
    · exact .inl (keep b o hb e)
  · by_cases hb : b ∈ tabs.map (·.2)
    · obtain ⟨_, _, ps, hP⟩ := grown b o hb e
      exact ⟨_, hP⟩
    · exact ⟨o, keep b o hb e⟩
end

end
section
theorem the_law : PySem.Challenge.rw_ez0274_01.Holds := by
  refine hd ?_
  k_fill
  intro w s₀ s₁ mg mb G Y fa o pm cd doc dV kV ho hd' hcd hD hmg hg args vals as hpre hlay hrd hwl hlo
  have KX := km_in_of Y
  km_tabs Y
  refine Ground.open G ?_
  intro T B D TE TW
  clear B D TE TW
  km_lay T hmg ho hd' cd
  clear hmg
  wrow_args hpre hlay hrd hwl hlo
  all_goals (refine enterT ?_)
  all_goals (have he := Dflts.none hD rfl; subst he; have he := Dflts.noKw hD; subst he)
  all_goals (refine callT_cells (by decide) ho (fd_plain hd') (Top.nolimit T) hcd rfl (kinds_of (by kinds_ok)) (by decide) fun h₁ tk₁ cells F N0 X0 => ?_)
  all_goals (cells_open X0)
  all_goals clear hd'
  all_goals (kn_ghosts F T)
  rename IntsAre _ _ => hI
  rename Heap.IsList (ghostOf _ _) _ _ => hLs
  rename Frag.In _ _ => Xg
  rename Top topProg _ _ _ _ _ => Tg
  rename Fr _ _ _ _ => Fg
  rename News _ _ _ _ => Ng
  rename CodeHd _ (411, 407).fst _ => c7
  rename CodeHd _ (434, 430).fst _ => c4
  rename ¬ _ < _ => hlen
  obtain ⟨b2, b4, b7⟩ := ‹229 < _ ∧ 430 < _ ∧ 407 < _›
  refine wpT_lift (d := 310) (u := 310) ⟨rfl, Nat.le_of_ble_eq_true rfl, Nat.le_of_ble_eq_true rfl⟩ ?_
  refine law_body (s := { s₁ with heap := h₁, toks := tk₁ }) Fg Xg Ng Tg ⟨_, _, _, _, _, _, _, _, _, by k_is⟩ c4 c7 b4 b7 b2 (by rfl) hLs hI ?_ ⟨_, _, by k_mem, by assumption⟩ ⟨_, _, by k_mem, by assumption⟩ ⟨_, _, by k_mem, by assumption⟩ ⟨_, _, by k_mem, by assumption⟩ ⟨_, _, by k_mem, by assumption⟩ ⟨_, _, by k_mem, by assumption⟩ (by k_mem) (by k_mem) (by k_mem) fun m' s' F' hgn hos g2 g4 g7 => ?_
  · have hl1 := hI.length
    have hl2 : ¬ ((63 : Int) < ((List.length ‹List Int› : Nat) : Int)) := hlen
    rw [hl1]; omega
  · refine good_end hT9 F' (fun y hy => ?_) hos (fun q hq => ?_) (fun _ => rfl) (.bool true) ?_
    · obtain ⟨i, hi⟩ := Array.mem_iff_getElem?.mp hy
      rcases hgn i y hi with e | e
      · have e : s₁.gens[i]? = some y := e
        rw [hg] at e
        simp at e
      · rw [e]; rfl
    · simp only [List.mem_cons, List.not_mem_nil, or_false] at hq
      rcases hq with rfl | rfl | rfl
      · exact g2
      · exact g4
      · exact g7
    · first | rfl | wrow_post

end
end
end Mine
theorem PySem.Challenge.cw_ez0274_01_holds : PySem.Challenge.rw_ez0274_01.Holds := by
  exact Mine.the_law
