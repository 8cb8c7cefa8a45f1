import PyProof.Rows.All
import Wide.All
import OpenK.AllK
import Wide.FinOn
import KE.KSortAsk
import KE.KStopIter
import PySem.Challenge.RW_ft0015_01
set_option Elab.async false

section
open PySem PySem.W PyProof.Rows
set_option Elab.async false
namespace Mine

def genAt (s : Shared) : Value → Bool
  | .ref a => match s.heap.get? a with
    | some o => o.genNumber?.isSome
    | none => false
  | _ => false
/-- a guarded yield that shows nothing -/
def tame (s : Shared) (t : Thread) : Bool := match t.cur with
  | .yield _ g _ _ => (match splitAtGen t.stack with
    | some (fs, _, _) => !fs.any Frame.guarded && (!g || (match t.code with
      | .builtin "proto.yield_from" ⟨it :: _, _⟩ => genAt s it
      | _ => false))
    | none => false)
  | _ => false
def calmJ (s : Shared) (t : Thread) : Bool := t.calm || tame s t

section
variable (den : Code → Sem Fin) (prog : Program) (w : World)
def stepJ (s : Shared) (t : Thread) : Step := if calmJ s t then stepK den prog w s t else .halt (.stuck "not calm") s

theorem tame_forget (s : Shared) (t : Thread) : tame s.forget t.forget = tame s t := by
  obtain ⟨cur, code, pos, stack⟩ := t
  unfold tame
  cases cur <;> try rfl
  simp only [Thread.forget, splitAtGen_forgetAll]
  cases splitAtGen stack with
  | none => rfl
  | some x =>
    obtain ⟨fs, y, r⟩ := x
    simp only [Option.map_some, any_guarded_forgetAll]
    rfl

theorem tame_shows {s : Shared} {t : Thread} {v : Value} {g : Bool} {l : List Value} {k : Resume → Sem Fin} {fs y r} (hc : t.cur = .yield v g l k) (hs : splitAtGen t.stack = some (fs, y, r))
    (h : tame s t = true) (hr : s.heap.life.registered = []) : closingShows s fs t.code g = false := by
  unfold tame at h
  rw [hc] at h
  simp only [hs] at h
  unfold closingShows
  cases hf : fs.any Frame.guarded with
  | true => rw [hf] at h; cases h
  | false =>
    rw [hf] at h
    cases g with
    | false => rfl
    | true =>
      simp only [Bool.not_false, Bool.true_and, Bool.not_true, Bool.false_or] at h ⊢
      split at h
      · rename_i it rest kw heq
        rw [heq]
        simp only
        unfold genAt at h
        unfold delegateShows
        cases it with
        | ref a =>
          simp only at h ⊢
          cases ho : s.heap.get? a with
          | none => rfl
          | some o =>
            rw [ho] at h
            simp only at h ⊢
            cases hg : o.genNumber? with
            | none => rw [hg] at h; cases h
            | some n => simp only [hr]; rfl
        | _ => rfl
      · cases h

theorem calmJ_same {s₁ s₂ : Shared} {t₁ t₂ : Thread} (hs : s₁.forget = s₂.forget) (ht : t₁.forget = t₂.forget) : calmJ s₁ t₁ = calmJ s₂ t₂ := by
  unfold calmJ
  rw [← Thread.calm_forget t₁, ← Thread.calm_forget t₂, ht, ← tame_forget s₁, ← tame_forget s₂, hs, ht]

theorem moves_tame (pr : Profile) (s : Shared) (t : Thread) (h : tame s t = true) : (Config.single s t).moves pr = [.run 0] := by
  obtain ⟨cur, code, pos, stack⟩ := t
  cases cur <;> simp_all [tame, Config.moves, Config.single, movesFrom, Thread.moves, Thread.atomic, Thread.rests, Thread.tells]

theorem pick_tame (s : Shared) (t : Thread) (h : tame s t = true) (hr : s.heap.life.registered = []) :
    (Config.single s t).pick w = .ok (.run 0, .single s t) := by
  have h1 : (Config.single s t).collect? w.params = none := by
    simp [Config.collect?, Config.single, (nothing_to_collect _ _ _ s t hr).1]
  have h2 : (Config.single s t).collectable = [] := by
    simp [Config.collectable, Config.single, (nothing_to_collect w.params _ _ s t hr).2]
  simp only [Config.pick, h1, h2, Config.pickThread, moves_tame _ s t h]
  cases w.params.lifetimes <;> simp

theorem lifeStep_tame (others : List Value) (s : Shared) (t : Thread) (h : tame s t = true) (hz : s.asleep) :
    lifeStep den prog w others s t = step den prog w s t := by
  obtain ⟨hr, hc⟩ := hz
  have hsh := fun v g l k fs y r hcur hs => tame_shows (s := s) (t := t) (v := v) (g := g) (l := l) (k := k) (fs := fs) (y := y) (r := r) hcur hs h hr
  obtain ⟨cur, code, pos, stack⟩ := t
  cases cur <;> try (simp [tame] at h; done)
  rename_i v g l k
  simp only [tame] at h
  cases hs : splitAtGen stack with
  | none => rw [hs] at h; cases h
  | some x =>
    obtain ⟨fs, y, r⟩ := x
    have h : closingShows s fs code g = false := hsh v g l k fs y r rfl hs
    unfold lifeStep
    split
    · simp only [collectorTurn?, hs, h, Thread.atItsEnd, stepCounting, hc, Bool.false_eq_true, if_false, Bool.false_and]
    · simp only [stepCounting, hc, Bool.false_eq_true, if_false, Bool.false_and]

theorem sstep_tame (s : Shared) (t : Thread) (h : tame s t = true) (hr : s.asleep) :
    sstep den prog w (.single s t) = (step den prog w s t).lift := by
  have hl := fun others => lifeStep_tame den prog w others s t h hr
  simp only [sstep, pick_tame w s t h hr.1, Config.move]
  obtain ⟨cur, code, pos, stack⟩ := t
  cases cur <;> simp [tame] at h <;> simp only [Config.run, Config.single]
  simp [hl, others_single, frozenBadly, ThreadState.insideWrite, Thread.finalizes]
  split <;> simp_all [Step.lift, Config.single]

/-- from here the machine comes to a good end -/
inductive Good (Φ : Outcome → Shared → Prop) : Shared → Thread → Prop
  | halt {s t o s'} : stepJ den prog w s t = .halt o s' → Φ o s' → Good Φ s t
  | go {s t s' t'} : stepJ den prog w s t = .go s' t' → Good Φ s' t' → Good Φ s t

theorem stepJ_calm {s : Shared} {t : Thread} {s' : Shared} {t' : Thread} (h : stepJ den prog w s t = .go s' t') : calmJ s t = true ∧ stepK den prog w s t = .go s' t' := by
  unfold stepJ at h
  split at h
  · exact ⟨by assumption, h⟩
  · cases h

theorem sstep_calmJ {s : Shared} {t : Thread} {s' : Shared} {t' : Thread} (hc : calmJ s t = true) (hr : s.asleep) (hs : step den prog w s t = .go s' t') :
    sstep den prog w (.single s t) = .go (.single s' t') := by
  unfold calmJ at hc
  rcases Bool.or_eq_true_iff.mp hc with h | h
  · rcases sstep_single den prog w s t h hr with e | e
    · rw [e, hs]; rfl
    · rw [hs] at e; cases e
  · rw [sstep_tame den prog w s t h hr, hs]; rfl

theorem good_sched {Φ : Outcome → Shared → Prop} (hΦ : ∀ o s, Φ o s → o.ends = true) {s : Shared} {t : Thread} (h : Good den prog w Φ s t) :
    ∀ s₁ t₁, s₁.forget = s.forget → t₁.forget = t.forget → s₁.asleep →
      ∃ n o s' s'', schedN den prog w n (.single s₁ t₁) = .halted o s' ∧ s'.forget = s''.forget ∧ Φ o s'' ∧ s'.heap.life = s₁.heap.life := by
  induction h with
  | @halt s t o s' hs hf =>
    intro s₁ t₁ es et hr
    unfold stepJ at hs
    split at hs
    · rename_i hc
      have hc₁ : calmJ s₁ t₁ = true := (calmJ_same es et).trans hc
      have e := (step_same den prog w es et).trans (stepK_forget den prog w s t).symm
      rw [hs] at e
      cases hs₁ : step den prog w s₁ t₁ with
      | go a b => rw [hs₁] at e; cases e
      | halt o₁ s₂ =>
        rw [hs₁] at e
        simp only [Step.forget] at e
        injection e with e1 e2
        subst e1
        have hl : s₂.heap.life = s₁.heap.life := by rw [step_halt_same den prog w s₁ s₂ t₁ o₁ hs₁]
        refine ⟨1, o₁, s₂, s', ?_, e2, hf, hl⟩
        have key : sstep den prog w (.single s₁ t₁) = .halt o₁ s₂ := by
          unfold calmJ at hc₁
          rcases Bool.or_eq_true_iff.mp hc₁ with h | h
          · rcases sstep_single den prog w s₁ t₁ h hr with e | e
            · rw [e, hs₁]; rfl
            · rw [hs₁] at e
              injection e with e1 e2
              subst e1
              exact absurd (hΦ _ _ hf) (by simp [Outcome.ends])
          · rw [sstep_tame den prog w s₁ t₁ h hr, hs₁]; rfl
        simp only [schedN, key]
    · injection hs with e1 e2
      subst e1
      exact absurd (hΦ _ _ hf) (by simp [Outcome.ends])
  | @go s t s' t' hs _ ih =>
    intro s₁ t₁ es et hr
    obtain ⟨hc, hk⟩ := stepJ_calm den prog w hs
    have hc₁ : calmJ s₁ t₁ = true := (calmJ_same es et).trans hc
    have e := (step_same den prog w es et).trans (stepK_forget den prog w s t).symm
    rw [hk] at e
    cases hs₁ : step den prog w s₁ t₁ with
    | halt a b => rw [hs₁] at e; cases e
    | go s₂ t₂ =>
      rw [hs₁] at e
      simp only [Step.forget] at e
      injection e with e1 e2
      have hl := step_life den prog w s₁ s₂ t₁ t₂ hs₁
      obtain ⟨n, o, a, b, h1, h2, h3, h4⟩ := ih s₂ t₂ e1 e2 (Shared.asleep_of_life hl hr)
      exact ⟨n + 1, o, a, b, by simp only [schedN, sstep_calmJ den prog w hc₁ hr hs₁]; exact h1, h2, h3, h4.trans hl⟩
end

section
variable {prog : Program} {w : World} {Φ : Outcome → Shared → Prop}
/-- the library's steps are steps -/
theorem stepJ_of {s : Shared} {t : Thread} {s' : Shared} {t' : Thread} (h : (model prog w).step s t = .go s' t') : stepJ (denote table) prog w s t = .go s' t' := by
  have hl : t.loud = false := by
    cases hh : t.loud with
    | false => rfl
    | true => rw [(model prog w).step_loud hh] at h; cases h
  rw [(model prog w).step_quiet hl] at h
  have hc : t.calm = true := by
    rw [Thread.calm_eq, hl]
    cases hr : t.refused with
    | false => rfl
    | true =>
      obtain ⟨what, e⟩ := stepK_refused (denote table) prog w (s := s) hr
      have h : stepK (denote table) prog w s t = .go s' t' := h
      rw [e] at h; cases h
  unfold stepJ calmJ
  rw [hc]
  exact h
abbrev GoodP (prog : Program) (w : World) (Φ : Outcome → Shared → Prop) (s : Shared) (t : Thread) : Prop := Good (denote table) prog w Φ s t

theorem Good.step {s : Shared} {t : Thread} {s' : Shared} {t' : Thread} (h : (model prog w).step s t = .go s' t') (g : GoodP prog w Φ s' t') : GoodP prog w Φ s t := .go (stepJ_of h) g

theorem Good.reach {base : List Frame} {s : Shared} {t : Sem Fin} {c : Code} {p : Pos} {pre : List Frame} {s' : Shared} {r : Result} (h : Reach (model prog w) base s t c p pre s' (.ret r))
    (g : ∀ c' p', GoodP prog w Φ s' ⟨leafOf r, c', p', base⟩) : GoodP prog w Φ s ⟨t, c, p, pre ++ base⟩ := by
  generalize he : End.ret r = e at h
  induction h with
  | exit hx =>
    subst he
    obtain ⟨rfl, rfl⟩ := hx
    exact g _ _
  | step hs _ ih => exact .step hs (ih g he)

theorem Good.reachE {base : List Frame} {s : Shared} {t : Sem Fin} {c : Code} {p : Pos} {pre : List Frame} {s' : Shared} {e : End} (h : Reach (model prog w) base s t c p pre s' e)
    (g : ∀ t' c' p' pre', Exits e t' c' p' pre' → GoodP prog w Φ s' ⟨t', c', p', pre' ++ base⟩) : GoodP prog w Φ s ⟨t, c, p, pre ++ base⟩ := by
  induction h with
  | exit hx => exact g _ _ _ _ hx
  | step hs _ ih => exact .step hs (ih g)

theorem good_wrap {α : Type} {c : Code} {stack : List Frame} (K : α → Sem Fin) (H : Value → Sem Fin) (gd lv) (m : Sem α) :
    ∀ {Q : α → Pos → Shared → Prop} {E : Value → Pos → Shared → Prop} {p : Pos} {s : Shared}, Sem.wp (model prog w) (Ctx.of c stack) m Q E p s →
      (∀ a p' s', Q a p' s' → GoodP prog w Φ s' ⟨K a, c, p', stack⟩) → (∀ x p' s', E x p' s' → GoodP prog w Φ s' ⟨H x, c, p', stack⟩) →
      GoodP prog w Φ s ⟨m.wrap K H gd lv, c, p, stack⟩ := by
  induction m with
  | pure a => intro Q E p s h hQ _; exact hQ a p s h
  | raise x => intro Q E p s h _ hE; exact hE x p s h
  | unsupported what => intro Q E p s h; exact h.elim
  | finish x => intro Q E p s h; exact h.elim
  | register a k => intro Q E p s h; exact h.elim
  | yield v g l k => intro Q E p s h; exact h.elim
  | fork c k => intro Q E p s h; exact h.elim
  | await a f d l k => intro Q E p s h; exact h.elim
  | rule tag k ih => intro Q E p s h hQ hE; exact .step (step_rule ..) (ih () h hQ hE)
  | «at» p' k ih => intro Q E p s h hQ hE; exact .step (step_at ..) (ih () h hQ hE)
  | load a part k ih => intro Q E p s h hQ hE; obtain ⟨o, ho, h⟩ := h; exact .step (step_load _ _ _ _ _ _ _ ho) (ih o h hQ hE)
  | update a part f k ih => intro Q E p s h hQ hE; obtain ⟨ha, h⟩ := h; exact .step (step_update _ _ _ _ _ _ _ _ ha) (ih () h hQ hE)
  | alloc o k ih => intro Q E p s h hQ hE; exact .step (step_alloc ..) (ih _ h hQ hE)
  | loadIfAlive a k ih => intro Q E p s h hQ hE; exact .step (step_loadIfAlive ..) (ih _ h hQ hE)
  | point l k ih => intro Q E p s h hQ hE; exact .step (step_point ..) (ih () h hQ hE)
  | fresh k ih => intro Q E p s h hQ hE; exact .step (step_fresh ..) (ih _ h hQ hE)
  | ask k ih => intro Q E p s h hQ hE; exact .step (step_ask ..) (ih _ h hQ hE)
  | choose src n k ih => intro Q E p s h hQ hE; obtain ⟨hn, h⟩ := h; exact .step (step_choose _ _ _ _ _ _ _ hn) (ih _ h hQ hE)
  | os q l k ih => intro Q E p s h hQ hE; exact .step (step_os ..) (ih _ h hQ hE)
  | call c' hd g l k ih =>
    intro Q E p s hw hQ hE
    obtain ⟨r, s₁, hret, hw⟩ := hw
    have hr := runs_reach hret (.ret (fun r => (k r).wrap K H gd lv) hd (gd g) (lv l) c p [] :: stack) ((Ctx.fits_of c stack).enter c' _ hd _ _ p [])
    refine .step (step_call ..) ?_
    refine Good.reach (pre := []) hr fun c₁ p₁ => .step (step_leaf_ret ..) (ih r hw hQ hE)
  | handled own k ih =>
    intro Q E p s h hQ hE
    refine .step (step_handled ..) (ih _ ?_ hQ hE)
    cases own <;> exact h
  | newGen c' k ih => intro Q E p s h hQ hE; exact .step (step_newGen ..) (ih _ h hQ hE)
  | genState g k ih => intro Q E p s h hQ hE; obtain ⟨st, hg, h⟩ := h; exact .step (step_genState _ _ _ _ _ _ hg) (ih _ h hQ hE)
  | resume g r l k ih =>
    intro Q E p s hw hQ hE
    obtain ⟨res, s', hwk, hw⟩ := hw
    unfold Wakes at hwk
    cases hg : s.gens[g]? with
    | none => rw [hg] at hwk; exact hwk.elim
    | some st =>
      rw [hg] at hwk
      cases st with
      | fresh c' =>
        cases r with
        | send v =>
          by_cases hv : v = .none
          · subst hv
            obtain ⟨e₁, s₁, hr, hq, rfl, rfl⟩ := hwk
            have hr := runs_reach hr (.gen g (fun r => (k r).wrap K H gd lv) (lv l) c p :: stack) ((Ctx.fits_of c stack).wake c' g _ _ p)
            refine .step (step_resume_fresh _ _ _ _ _ _ _ hg) (Good.reachE (pre := []) hr fun t' c₁ p₁ pre' hx => .step (step_exit_gen _ _ _ _ _ _ _ hx hq) (ih _ hw hQ hE))
          · have : res = .justStarted ∧ s' = s := by
              cases v <;> first | exact absurd rfl hv | exact hwk
            obtain ⟨rfl, rfl⟩ := this
            exact .step (step_resume_justStarted _ _ _ _ _ _ _ hg hv) (ih _ hw hQ hE)
        | throw x =>
          obtain ⟨rfl, rfl⟩ := hwk
          exact .step (step_resume_throwFresh _ _ _ _ _ _ _ _ hg) (ih _ hw hQ hE)
      | suspended k₀ l₀ c₀ p₀ fs cl =>
        obtain ⟨e₁, s₁, hr, hq, rfl, rfl⟩ := hwk
        have hr := runs_reach hr (.gen g (fun r => (k r).wrap K H gd lv) (lv l) c p :: stack) ((Ctx.fits_of c stack).wake c₀ g _ _ p)
        refine .step (step_resume_suspended _ _ _ _ _ _ _ _ hg) (Good.reachE hr fun t' c₁ p₁ pre' hx => ?_)
        exact .step (step_exit_gen _ _ _ _ _ _ _ hx hq) (ih _ hw hQ hE)
      | running =>
        obtain ⟨rfl, rfl⟩ := hwk
        exact .step (step_resume_running _ _ _ _ _ _ _ _ hg) (ih _ hw hQ hE)
      | finished =>
        obtain ⟨rfl, rfl⟩ := hwk
        exact .step (step_resume_finished _ _ _ _ _ _ _ _ hg) (ih _ hw hQ hE)
  | stack k ih => intro Q E p s h hQ hE; exact .step (step_stack ..) (ih _ h hQ hE)
  | thread k ih => intro Q E p s h hQ hE; exact .step (step_thread ..) (ih _ h hQ hE)
end
end Mine
end

section
open PySem PySem.W PyProof.Rows
set_option Elab.async false
namespace Mine
abbrev OP := Obj → Prop
abbrev Ledger := List (Addr × OP)

/-- the objects that a walk holds in hand, addresses strictly falling; of the base stands all that is kept (Pk) -/
structure St (B : Shared) (Pk : Addr → Obj → Prop) (G : Array GenState → Prop) (L : Ledger) (s : Shared) : Prop where
  keep : ∀ b o, B.heap.get? b = some o → Pk b o → s.heap.get? b = some o
  own : ∀ p ∈ L, ∀ o, B.heap.get? p.1 = some o → ¬ Pk p.1 o
  led : ∀ p ∈ L, ∃ o, s.heap.get? p.1 = some o ∧ p.2 o
  ord : (L.map (·.1)).Pairwise (· > ·)
  live : ∀ b o, B.heap.get? b = some o → ∃ o', s.heap.get? b = some o'
  drawn : s.drawn = B.drawn
  os : s.os = B.os
  gens : G s.gens

def EqG (B : Shared) : Array GenState → Prop := fun g => g = B.gens
/-- all is kept -/
def KAll : Addr → Obj → Prop := fun _ _ => True

theorem get?_of_ge {h : Heap} {a : Addr} (ha : h.objs.size ≤ a) : h.get? a = none := by
  cases e : h.get? a with
  | none => rfl
  | some o => exact absurd (Heap.lt_size e) (Nat.not_lt.mpr ha)

section
variable {B : Shared} {Pk : Addr → Obj → Prop} {G : Array GenState → Prop} {L L' : Ledger} {s : Shared}

theorem St.start (s : Shared) (Pk : Addr → Obj → Prop) : St s Pk (EqG s) [] s :=
  ⟨fun _ _ e _ => e, fun _ h => (nomatch h), fun _ h => (nomatch h), List.Pairwise.nil, fun _ o e => ⟨o, e⟩, rfl, rfl, rfl⟩

theorem St.tok (S : St B Pk G L s) (t : Nat) : St B Pk G L { s with toks := t } := ⟨S.keep, S.own, S.led, S.ord, S.live, S.drawn, S.os, S.gens⟩

theorem St.get (S : St B Pk G L s) {a : Addr} {P : OP} (h : (a, P) ∈ L) : ∃ o, s.heap.get? a = some o ∧ P o := S.led _ h

theorem St.old (S : St B Pk G L s) {b : Addr} {o : Obj} (e : B.heap.get? b = some o) (hb : Pk b o) : s.heap.get? b = some o := S.keep b o e hb

theorem St.lt (S : St B Pk G L s) {p : Addr × OP} (h : p ∈ L) : p.1 < s.heap.objs.size := by
  obtain ⟨o, ho, _⟩ := S.led p h
  exact Heap.lt_size ho

/-- from a pure run: all stands, new things only -/
theorem St.keeps (S : St B Pk G L s) {s' : Shared} (K : Keeps s s') : St B Pk G L s' := by
  obtain ⟨h', tk, rfl, hk⟩ := K
  refine ⟨fun b o e hb => hk b o (S.keep b o e hb), S.own, fun p hp => ?_, S.ord, fun b o e => ?_, S.drawn, S.os, S.gens⟩
  · obtain ⟨o, ho, hP⟩ := S.led p hp
    exact ⟨o, hk _ _ ho, hP⟩
  · obtain ⟨o, ho⟩ := S.live b o e
    exact ⟨o, hk _ _ ho⟩

theorem St.none_of_new (S : St B Pk G L s) {a : Addr} (ha : s.heap.get? a = none) : B.heap.get? a = none := by
  cases e : B.heap.get? a with
  | none => rfl
  | some o =>
    obtain ⟨o', ho'⟩ := S.live a o e
    rw [ha] at ho'; cases ho'

/-- a new thing, above all that is held -/
theorem St.new (S : St B Pk G L s) {s' : Shared} {a : Addr} {P : OP} {o : Obj} (K : Keeps s s') (ha : s.heap.objs.size ≤ a) (ho : s'.heap.get? a = some o) (hP : P o) : St B Pk G ((a, P) :: L) s' := by
  have S' := S.keeps K
  refine ⟨S'.keep, fun p hp => ?_, fun p hp => ?_, ?_, S'.live, S'.drawn, S'.os, S'.gens⟩
  · rcases List.mem_cons.mp hp with rfl | hp
    · intro o e
      have : B.heap.get? a = some o := e
      rw [S.none_of_new (get?_of_ge ha)] at this; cases this
    · exact S.own p hp
  · rcases List.mem_cons.mp hp with rfl | hp
    · exact ⟨o, ho, hP⟩
    · exact S'.led p hp
  · rw [List.map_cons]
    refine List.pairwise_cons.mpr ⟨fun b hb => ?_, S.ord⟩
    obtain ⟨p, hp, rfl⟩ := List.mem_map.mp hb
    exact Nat.lt_of_lt_of_le (S.lt hp) ha

theorem St.alloc (S : St B Pk G L s) {o : Obj} {P : OP} (hf : o.isFreed = false) (hP : P o) : St B Pk G ((s.heap.objs.size, P) :: L) { s with heap := s.heap.push o } :=
  S.new ⟨_, s.toks, rfl, fun _ _ e => Heap.get?_push_of_some _ e⟩ (Nat.le_refl _) (Heap.get?_push_size _ hf) hP

/-- the entry at a turned -/
inductive Upd : Ledger → Addr → OP → OP → Ledger → Prop
  | head {a : Addr} {P P' : OP} {l : Ledger} : Upd ((a, P) :: l) a P P' ((a, P') :: l)
  | tail {x : Addr × OP} {l l' : Ledger} {a : Addr} {P P' : OP} : Upd l a P P' l' → Upd (x :: l) a P P' (x :: l')

theorem Upd.mem {a : Addr} {P P' : OP} {L L' : Ledger} (u : Upd L a P P' L') : (a, P) ∈ L := by
  induction u with
  | head => exact .head _
  | tail _ ih => exact .tail _ ih
theorem Upd.keys {a : Addr} {P P' : OP} {L L' : Ledger} (u : Upd L a P P' L') : L'.map (·.1) = L.map (·.1) := by
  induction u with
  | head => rfl
  | tail _ ih => rw [List.map_cons, List.map_cons, ih]
theorem Upd.cases {a : Addr} {P P' : OP} {L L' : Ledger} (u : Upd L a P P' L') (hn : (L.map (·.1)).Pairwise (· > ·)) : ∀ p ∈ L', p = (a, P') ∨ (p ∈ L ∧ p.1 ≠ a) := by
  induction u with
  | head =>
    intro p hp
    rcases List.mem_cons.mp hp with rfl | hp
    · exact .inl rfl
    · refine .inr ⟨.tail _ hp, ?_⟩
      rw [List.map_cons] at hn
      have := (List.pairwise_cons.mp hn).1 p.1 (List.mem_map_of_mem hp)
      exact Nat.ne_of_lt this
  | @tail x l l' a P P' u ih =>
    intro p hp
    rw [List.map_cons] at hn
    rcases List.mem_cons.mp hp with rfl | hp
    · refine .inr ⟨.head _, ?_⟩
      have := (List.pairwise_cons.mp hn).1 a (List.mem_map_of_mem (f := (·.1)) u.mem)
      exact Nat.ne_of_gt this
    · rcases ih (List.pairwise_cons.mp hn).2 p hp with h | ⟨h, h'⟩
      · exact .inl h
      · exact .inr ⟨.tail _ h, h'⟩

/-- one held object is turned, all other objects stand -/
theorem St.upd (S : St B Pk G L s) {s' : Shared} {a : Addr} {P P' : OP} (u : Upd L a P P' L') (hx : Heap.SameBut a s.heap s'.heap) (hn : ∃ o, s'.heap.get? a = some o ∧ P' o)
    (hd : s'.drawn = s.drawn) (hos : s'.os = s.os) (hg : s'.gens = s.gens) : St B Pk G L' s' := by
  have hm := S.own _ u.mem
  refine ⟨fun b o e hb => ?_, fun p hp => ?_, fun p hp => ?_, u.keys ▸ S.ord, fun b o e => ?_, hd.trans S.drawn, hos.trans S.os, hg ▸ S.gens⟩
  · have hne : b ≠ a := by
      rintro rfl
      exact hm o e hb
    exact (hx.2 b hne).trans (S.keep b o e hb)
  · rcases u.cases S.ord p hp with rfl | ⟨h, _⟩
    · exact hm
    · exact S.own p h
  · rcases u.cases S.ord p hp with rfl | ⟨h, h'⟩
    · exact hn
    · obtain ⟨o, ho, hP⟩ := S.led p h
      exact ⟨o, (hx.2 _ h').trans ho, hP⟩
  · by_cases hba : b = a
    · subst hba; obtain ⟨o, ho, _⟩ := hn; exact ⟨o, ho⟩
    · obtain ⟨o, ho⟩ := S.live b o e
      exact ⟨o, (hx.2 b hba).trans ho⟩

/-- what is no more wanted is let go of -/
theorem St.drop (S : St B Pk G L s) (h : L'.Sublist L) : St B Pk G L' s :=
  ⟨S.keep, fun p hp => S.own p (h.subset hp), fun p hp => S.led p (h.subset hp), S.ord.sublist (h.map _), S.live, S.drawn, S.os, S.gens⟩

/-- one entry's word weakened -/
theorem St.weak (S : St B Pk G L s) {a : Addr} {P P' : OP} (u : Upd L a P P' L') (h : ∀ o, P o → P' o) : St B Pk G L' s := by
  obtain ⟨o, ho, hP⟩ := S.get u.mem
  exact S.upd u (Heap.SameBut.refl ..) ⟨o, ho, h o hP⟩ rfl rfl rfl

theorem St.done (S : St B KAll (EqG B) L s) : Keeps B s := by
  refine ⟨s.heap, s.toks, ?_, fun b o e => S.keep b o e trivial⟩
  have h1 := S.drawn
  have h2 := S.os
  have h3 : s.gens = B.gens := S.gens
  obtain ⟨h, g, d, t, os⟩ := s
  subst h1 h2 h3
  rfl
theorem get?_none_of (S : St B KAll G L s) {a : Addr} {P : OP} (h : (a, P) ∈ L) : B.heap.get? a = none := by
  cases e : B.heap.get? a with
  | none => rfl
  | some o => exact absurd trivial (S.own _ h o e)
theorem St.hk (S : St B KAll G L s) : ∀ b o, B.heap.get? b = some o → s.heap.get? b = some o := fun b o e => S.keep b o e trivial
end

/-- a namespace's object -/
def NsO (m : Str → Option Value) : OP := fun o => ∃ es ep, o.data = .dict es ep ∧ StrKeys es ∧ ∀ name, nsFind es name = m name
theorem ns_iff {h : Heap} {a : Addr} {m : Str → Option Value} : h.Ns a m ↔ ∃ o, h.get? a = some o ∧ NsO m o :=
  ⟨fun ⟨o, es, ep, h1, h2, h3, h4⟩ => ⟨o, h1, es, ep, h2, h3, h4⟩, fun ⟨o, h1, es, ep, h2, h3, h4⟩ => ⟨o, es, ep, h1, h2, h3, h4⟩⟩
/-- a frame's locals, in the order of ks -/
def LocP (ks : List Str) (vs : List (Option Value)) : OP := fun o => ∃ m, NsO m o ∧ ks.map m = vs
def CellP (v : Option Value) : OP := fun o => o.data = .cell v

inductive LG : List Str → List (Option Value) → Str → Value → Prop
  | head {x : Str} {ks : List Str} {v : Value} {vs : List (Option Value)} : LG (x :: ks) (some v :: vs) x v
  | tail {x y : Str} {ks : List Str} {v : Value} {u : Option Value} {vs : List (Option Value)} : LG ks vs x v → LG (y :: ks) (u :: vs) x v
inductive LS : List Str → List (Option Value) → Str → Value → List (Option Value) → Prop
  | head {x : Str} {ks : List Str} {v : Value} {u : Option Value} {vs : List (Option Value)} : LS (x :: ks) (u :: vs) x v (some v :: vs)
  | tail {x y : Str} {ks : List Str} {v : Value} {u : Option Value} {vs vs' : List (Option Value)} : LS ks vs x v vs' → LS (y :: ks) (u :: vs) x v (u :: vs')

theorem LG.val {ks : List Str} {vs : List (Option Value)} {x : Str} {v : Value} (g : LG ks vs x v) {m : Str → Option Value} (h : ks.map m = vs) : m x = some v := by
  induction g with
  | head => rw [List.map_cons] at h; exact (List.cons.inj h).1
  | tail _ ih => rw [List.map_cons] at h; exact ih (List.cons.inj h).2
theorem LS.mem {ks : List Str} {vs vs' : List (Option Value)} {x : Str} {v : Value} (g : LS ks vs x v vs') : x ∈ ks := by
  induction g with
  | head => exact .head _
  | tail _ ih => exact .tail _ ih
theorem LS.val {ks : List Str} {vs vs' : List (Option Value)} {x : Str} {v : Value} (g : LS ks vs x v vs') (hn : ks.Nodup) {m : Str → Option Value} (h : ks.map m = vs) :
    ks.map (fun y => if y = x then some v else m y) = vs' := by
  induction g with
  | @head x ks v u vs =>
    rw [List.map_cons] at h ⊢
    rw [if_pos rfl, ← (List.cons.inj h).2]
    congr 1
    refine List.map_congr_left fun y hy => if_neg ?_
    rintro rfl
    exact (List.nodup_cons.mp hn).1 hy
  | @tail x y ks v u vs vs' g ih =>
    rw [List.map_cons] at h ⊢
    have hne : y ≠ x := by
      rintro rfl
      exact (List.nodup_cons.mp hn).1 g.mem
    rw [if_neg hne, ih (List.nodup_cons.mp hn).2 (List.cons.inj h).2, (List.cons.inj h).1]

section
variable {M : Model} {A : Around} {E : Value → Shared → Prop} {env : Env} {B : Shared} {Pk : Addr → Obj → Prop} {G : Array GenState → Prop} {L L' : Ledger} {s : Shared}

theorem St.ns (S : St B Pk G L s) {a : Addr} {ks : List Str} {vs : List (Option Value)} (h : (a, LocP ks vs) ∈ L) : ∃ m, s.heap.Ns a m ∧ ks.map m = vs := by
  obtain ⟨o, ho, m, hm, hv⟩ := S.get h
  exact ⟨m, ns_iff.mpr ⟨o, ho, hm⟩, hv⟩

theorem ldl {x : Str} {pos : Pos} {v : Value} {ks : List Str} {vs : List (Option Value)} {Q : Value → Shared → Prop} (S : St B Pk G L s) (hL : (env.locals, LocP ks vs) ∈ L) (hv : LG ks vs x v) (h : Q v s)
    (hk : env.scope.kind = .function := by rfl) (hl : env.kindOf x = some .local := by rfl) (hd : (x == ("__debug__" : Str)) = false := by decide) :
    wpAny M A (eval (.Name x pos) env) Q E s := by
  obtain ⟨m, hn, hm⟩ := S.ns hL
  exact wpAny_Name (wpAny_loadName_local hk hl hn (hv.val hm) h) hd

theorem ldln {x : Str} {v : Value} {ks : List Str} {vs : List (Option Value)} {Q : Value → Shared → Prop} (S : St B Pk G L s) (hL : (env.locals, LocP ks vs) ∈ L) (hv : LG ks vs x v) (h : Q v s)
    (hk : env.scope.kind = .function := by rfl) (hl : env.kindOf x = some .local := by rfl) :
    wpAny M A (loadName env x) Q E s := by
  obtain ⟨m, hn, hm⟩ := S.ns hL
  exact wpAny_loadName_local hk hl hn (hv.val hm) h

theorem stl {x : Str} {v : Value} {ks : List Str} {vs vs' : List (Option Value)} {Q : Unit → Shared → Prop} (S : St B Pk G L s) (hL : Upd L env.locals (LocP ks vs) (LocP ks vs') L') (hv : LS ks vs x v vs') (hnd : ks.Nodup)
    (h : ∀ s', St B Pk G L' s' → Q () s')
    (hk : env.scope.kind = .function := by rfl) (hl : env.kindOf x = some .local := by rfl) : wpAny M A (storeName env x v) Q E s := by
  obtain ⟨m, hn, hm⟩ := S.ns hL.mem
  refine wpAny_storeName_local hl hn (fun h' hn' hs => h _ ?_) (by rw [hk]; rfl)
  obtain ⟨o, ho, hN⟩ := ns_iff.mp hn'
  exact S.upd hL hs ⟨o, ho, _, hN, hv.val hnd hm⟩ rfl rfl rfl

theorem ldc {x : Str} {pos : Pos} {v : Value} {c : Addr} {Q : Value → Shared → Prop} (S : St B Pk G L s) (hc : env.cells.lookup x = some c) (hL : (c, CellP (some v)) ∈ L) (h : Q v s)
    (hk : env.scope.kind = .function := by rfl) (hl : env.kindOf x = some .cell := by rfl) (hd : (x == ("__debug__" : Str)) = false := by decide) :
    wpAny M A (eval (.Name x pos) env) Q E s := by
  obtain ⟨o, ho, hP⟩ := S.get hL
  exact wpAny_Name (wpAny_loadName_cell hk hl hc ⟨o, ho, hP⟩ h) hd

theorem ldf {x : Str} {pos : Pos} {v : Value} {c : Addr} {Q : Value → Shared → Prop} (hcell : s.heap.IsCell c (some v)) (hc : env.cells.lookup x = some c) (h : Q v s)
    (hk : env.scope.kind = .function := by rfl) (hl : env.kindOf x = some .free := by rfl) (hd : (x == ("__debug__" : Str)) = false := by decide) (hq : (x == ("__classdict__" : Str)) = false := by decide) :
    wpAny M A (eval (.Name x pos) env) Q E s :=
  wpAny_Name (wpAny_loadName_free hk hl hc hcell h hq) hd

theorem stc {x : Str} {v : Value} {v₀ : Option Value} {c : Addr} {Q : Unit → Shared → Prop} (S : St B Pk G L s) (hc : env.cells.lookup x = some c) (hL : Upd L c (CellP v₀) (CellP (some v)) L')
    (h : ∀ s', St B Pk G L' s' → Q () s')
    (hk : env.scope.kind = .function := by rfl) (hl : env.kindOf x = some .cell := by rfl) : wpAny M A (storeName env x v) Q E s := by
  obtain ⟨o, ho, hP⟩ := S.get hL.mem
  refine wpAny_storeName_cell hk hl hc ⟨o, ho, hP⟩ fun h' hc' hs => h _ ?_
  obtain ⟨o', ho', hP'⟩ := hc'
  exact S.upd hL hs ⟨o', ho', hP'⟩ rfl rfl rfl
end
end Mine
end

section
open PySem PySem.W PyProof.Rows
set_option Elab.async false
namespace Mine
abbrev pw : Program := PySem.Challenge.pw_ft0015_01
def stmtAt (n : Nat) : Stmt := pw.main.body.getD n (.Pass default)
def fBody : Stmt → List Stmt
  | .FunctionDef _ _ b _ _ _ _ _ _ _ => b
  | _ => []
def fArgs : Stmt → Arguments
  | .FunctionDef _ a _ _ _ _ _ _ _ _ => a
  | _ => default
def fScope : Stmt → Scope
  | .FunctionDef _ _ _ _ _ _ s _ _ _ => s
  | _ => default

/-- a function object of the text stands at a -/
def FnOk (h : Heap) (a : Addr) (fd : FuncData) : Prop := ∃ o, h.get? a = some o ∧ o.data = .func fd ∧ h.CodeRec fd.code fd.qualname
theorem FnOk.keeps {h h' : Heap} {a : Addr} {fd : FuncData} (x : FnOk h a fd) (hk : ∀ b o, h.get? b = some o → h'.get? b = some o) : FnOk h' a fd :=
  let ⟨o, h1, h2, h3⟩ := x; ⟨o, hk _ _ h1, h2, h3.keeps hk⟩

def fnEnv (fd : FuncData) (L a : Addr) : Env :=
  { scope := fd.scope, locals := L, globals := fd.globals, cells := fd.closure, qual := fd.qualname ++ ".<locals>.", func := some a, code := fd.code, frame := some L, builtins := fd.builtins }

section
variable {prog : Program} {w : World} {A : Around} {s : Shared} {R : Result → Shared → Prop}

theorem call_fn {a : Addr} {fd : FuncData} {body : List Stmt} {args : List Value} {binds : List (Str × Value)} {ks : List Str} {vs : List (Option Value)}
    (hf : FnOk s.heap a fd) (hroom : A.depth < recursionLimit) (hlim : s.heap.NoLimit)
    (hbody : fd.body = .stmts body) (hbind : bindArgs fd ⟨args, []⟩ = pure binds)
    (hloc : (binds.all fun x => decide (fd.scope.names.lookup x.1 = some .local)) = true) (hks : ks.map (fun x => binds.reverse.lookup x) = vs)
    (h : ∀ s₁, St s KAll (EqG s) [(s.heap.objs.size, LocP ks vs)] s₁ →
      wpAny (model prog w) (A.deeper (fnEnv fd s.heap.objs.size a)) (execs body (fnEnv fd s.heap.objs.size a))
        (fun f s' => R (.ok (.ret (match f with | .ret v => v | _ => .none))) s') (fun _ _ => False) s₁)
    (hco : fd.scope.isCoroutine = false := by rfl) (hgen : fd.scope.isGenerator = false := by rfl) (hk : fd.scope.kind = .function := by rfl)
    (hcell : (fd.scope.names.all fun x => decide (x.2 ≠ .cell)) = true := by rfl) :
    codeAny (model prog w) A (.call (.ref a) ⟨args, []⟩) R s := by
  have hcell : ∀ x ∈ fd.scope.names, x.2 ≠ .cell := fun x hx => of_decide_eq_true (List.all_eq_true.mp hcell x hx)
  obtain ⟨o, ho, hdata, hcd⟩ := hf
  refine codeAny_call_function hroom ho hdata hco hgen hbody hcd ?_
  rw [hbind]
  refine wpAny_pure (wpAny_newFunctionEnv hcell (locs hloc) (fun h₁ hns hsb => ⟨hlim.fresh _ hsb, ?_⟩) hk)
  show codeAny _ _ (.func body (fnEnv fd s.heap.objs.size a)) _ _
  have hne : ∀ b o, s.heap.get? b = some o → b ≠ s.heap.objs.size := fun b o e => Nat.ne_of_lt (Heap.lt_size e)
  have S₁ : St s KAll (EqG s) [(s.heap.objs.size, LocP ks vs)] { s with heap := h₁, toks := s.toks + binds.length } := by
    obtain ⟨o', ho', hN⟩ := ns_iff.mp hns
    exact (St.start s KAll).new ⟨h₁, _, rfl, fun b o e => hsb.extBut b o (hne b o e) (Heap.get?_push_of_some _ e)⟩ (Nat.le_refl _) ho' ⟨_, hN, hks⟩
  exact codeAny_func (wpAny_mono (h _ S₁) (fun _ _ x => x) (fun _ _ x => x.elim))
end

section
variable {M : Model} {A : Around} {E : Value → Shared → Prop} {env : Env} {s : Shared}
theorem lglob {x : Str} {pos : Pos} {mg} {v : Value} {Q : Value → Shared → Prop} (hg : s.heap.Ns env.globals mg) (hv : mg x = some v) (h : Q v s)
    (hk : env.scope.kind = .function := by rfl) (hx : env.kindOf x = some .globalImplicit := by rfl) (hd : (x == ("__debug__" : Str)) = false := by decide) : wpAny M A (eval (.Name x pos) env) Q E s :=
  Calls.Name_function_global hk hx (Calls.loadGlobal_global hg hv h) hd
theorem lblt {x : Str} {pos : Pos} {mg mb} {v : Value} {Q : Value → Shared → Prop} (hg : s.heap.Ns env.globals mg) (hm : mg x = none) (hb : s.heap.Ns env.builtins mb) (hv : mb x = some v) (h : Q v s)
    (hk : env.scope.kind = .function := by rfl) (hx : env.kindOf x = some .globalImplicit := by rfl) (hd : (x == ("__debug__" : Str)) = false := by decide) : wpAny M A (eval (.Name x pos) env) Q E s :=
  Calls.Name_function_global hk hx (Calls.loadGlobal_builtin hg hm hb hv h) hd
end

/-- the names that the text reads, as they stand at module level -/
structure Names (h : Heap) : Prop where
  lim : h.NoLimit
  ex : ∃ mg mb, h.Ns mainGlobals mg ∧ h.Ns builtinsNs mb ∧
    mg "strongly_connected_components" = some (.ref 21) ∧ mg "prepare_sccs" = some (.ref 28) ∧ mg "topsort" = some (.ref 57) ∧ mg "_law_at" = some (.ref 68) ∧ mg "_law_reached" = some (.ref 75) ∧
    (∀ x ∈ (["len", "range", "sorted", "list", "enumerate", "max", "tuple", "StopIteration"] : List Str), mg x = none) ∧
    mb "len" = some (.builtin "len") ∧ mb "range" = some (.type "range") ∧ mb "sorted" = some (.builtin "sorted") ∧ mb "list" = some (.type "list") ∧ mb "enumerate" = some (.type "enumerate") ∧
    mb "max" = some (.builtin "max") ∧ mb "tuple" = some (.type "tuple") ∧ mb "StopIteration" = some (.type "StopIteration")
theorem Names.keeps {h h' : Heap} (x : Names h) (hk : ∀ b o, h.get? b = some o → h'.get? b = some o) : Names h' :=
  ⟨x.lim.keeps hk, let ⟨mg, mb, a, b, c⟩ := x.ex; ⟨mg, mb, a.keeps hk, b.keeps hk, c⟩⟩

def lawAtFd (pm cd doc : Value) : FuncData := Calls.docDef "_law_at" (fArgs (stmtAt 5)) (fBody (stmtAt 5)) (fScope (stmtAt 5)) pm cd doc
theorem lawAt_bind (a b c pm cd doc : Value) : bindArgs (lawAtFd pm cd doc) ⟨[a, b, c], []⟩ = pure [(("script" : Str), a), (("k" : Str), b), (("other" : Str), c)] := by with_unfolding_all rfl


local macro_rules | `(tactic| walk_at "mem") => `(tactic| repeat (first | exact List.Mem.head _ | apply List.Mem.tail))
local macro_rules | `(tactic| walk_at "lg") => `(tactic| repeat (first | (with_reducible exact LG.head) | apply LG.tail))
local macro_rules | `(tactic| walk_at "upd") => `(tactic| repeat (first | exact Upd.head | apply Upd.tail))
local macro_rules | `(tactic| walk_at "ls") => `(tactic| repeat (first | (with_reducible exact LS.head) | apply LS.tail))

def PlainF : Value → Heap → Prop
  | .builtin _, _ => True
  | .type _, _ => True
  | .ref a, h => ∃ o fd, h.get? a = some o ∧ o.data = .func fd
  | _, _ => False

section
variable {M : Model} {A : Around} {E : Value → Shared → Prop} {env : Env} {s : Shared}
theorem callWith_fnAny {pos : Pos} {a : Addr} {first : List Value} {args : List (Bool × Sem Value)} {Q : Value → Shared → Prop}
    (h : wpAny M A (evalArgs (.ref a) true args []) (fun x s₁ => (∃ o fd, s₁.heap.get? a = some o ∧ o.data = .func fd) ∧ wpAny M A (call (.ref a) (first ++ x.pos) x.kw) Q E s₁) E s) :
    wpAny M A (callWith pos (.ref a) first args []) Q E s := by
  unfold callWith
  refine wpAny_bind (wpAny_holding (wpAny_mono h (fun x s₁ h₁ => wpAny_bind (wpAny_standAt ?_)) fun _ _ x => x))
  obtain ⟨⟨o, fd, ho, hd⟩, h₁⟩ := h₁
  have tail : ∀ {t : Sem Value}, wpAny M A t Q E s₁ → wpAny M A (t >>= fun r => holding [r] point >>= fun _ => pure r) Q E s₁ :=
    fun ht => wpAny_bind (wpAny_mono ht (fun r s₂ hr => wpAny_bind (wpAny_holding (wpAny_point (wpAny_pure hr)))) fun _ _ x => x)
  cases hs : args.any (·.1) <;> simp only [List.any_nil, Bool.or_false] <;>
    refine wpAny_bind (m := keeperOf (.ref a)) ?_ <;> unfold keeperOf <;>
    refine wpAny_bind (wpAny_load ho ?_) <;> rw [hd] <;> refine wpAny_pure ?_
  · first
      | refine wpAny_ite ?_
      | skip
    split <;> first
      | exact tail h₁
      | exact tail (by unfold callMarked; exact Calls.wpAny_keep h₁)
  · first
      | exact tail (by unfold callMarked; exact Calls.wpAny_keep h₁)
      | exact tail h₁
theorem callWith_plain {f : Value} {pos : Pos} {t : Sem Value} {rest : List (Bool × Sem Value)} {Q : Value → Shared → Prop} (hplain : rest.any (·.1) = false)
    (h : wpAny M A (spliced ((false, t) :: rest)) (fun vs s₁ => PlainF f s₁.heap ∧ wpAny M A (call f vs) Q E s₁) E s) : wpAny M A (callWith pos f [] ((false, t) :: rest) []) Q E s := by
  have hp : ((false, t) :: rest).any (·.1) = false := by rw [List.any_cons, hplain]; rfl
  cases f with
  | builtin id => exact Calls.callWith_builtin hp (Calls.evalArgs_plain (wpAny_mono h (fun vs s₁ h₁ => h₁.2) fun _ _ e => e))
  | type T => exact PyProof.Rows.callWith_type hp (Calls.evalArgs_plain (wpAny_mono h (fun vs s₁ h₁ => h₁.2) fun _ _ e => e))
  | ref a => exact callWith_fnAny (Calls.evalArgs_plain h)
  | _ =>
    unfold callWith
    refine wpAny_bind (wpAny_holding (wpAny_mono (Calls.evalArgs_plain h (Q := fun a s₁ => PlainF _ s₁.heap ∧ wpAny M A (call _ a.pos a.kw) Q E s₁)) (fun a s₁ h₁ => wpAny_bind (wpAny_standAt ?_)) fun _ _ x => x))
    exact h₁.1.elim
theorem call1 {id : Str} {p pos : Pos} {e : Expr} {Q : Value → Shared → Prop}
    (h : wpAny M A (eval (.Name id p) env) (fun f s₁ => wpAny M A (eval e env) (fun v s₂ => PlainF f s₂.heap ∧ wpAny M A (call f [v]) Q E s₂) E s₁) E s)
    (he : starEach [e] env = [(false, eval e env)] := by rfl) : wpAny M A (eval (.Call (.Name id p) [e] [] pos) env) Q E s := by
  refine wpAny_Call_NameR (wpAny_mono h (fun f s₁ h₁ => ?_) fun _ _ e => e)
  rw [he]
  exact callWith_plain rfl (Calls.spliced_cons (wpAny_mono h₁ (fun _ _ h₂ => Calls.spliced_nil h₂) fun _ _ e => e))
theorem call2 {id : Str} {p pos : Pos} {e e' : Expr} {Q : Value → Shared → Prop}
    (h : wpAny M A (eval (.Name id p) env) (fun f s₁ => wpAny M A (eval e env) (fun v s₂ => wpAny M A (eval e' env) (fun v' s₃ => PlainF f s₃.heap ∧ wpAny M A (call f [v, v']) Q E s₃) E s₂) E s₁) E s)
    (he : starEach [e, e'] env = [(false, eval e env), (false, eval e' env)] := by rfl) : wpAny M A (eval (.Call (.Name id p) [e, e'] [] pos) env) Q E s := by
  refine wpAny_Call_NameR (wpAny_mono h (fun f s₁ h₁ => ?_) fun _ _ e => e)
  rw [he]
  exact callWith_plain rfl (Calls.spliced_cons (wpAny_mono h₁ (fun _ _ h₂ => Calls.spliced_cons (wpAny_mono h₂ (fun _ _ h₃ => Calls.spliced_nil h₃) fun _ _ e => e)) fun _ _ e => e))
theorem call3 {id : Str} {p pos : Pos} {e e' e'' : Expr} {Q : Value → Shared → Prop}
    (h : wpAny M A (eval (.Name id p) env) (fun f s₁ => wpAny M A (eval e env) (fun v s₂ => wpAny M A (eval e' env) (fun v' s₃ => wpAny M A (eval e'' env) (fun v'' s₄ => PlainF f s₄.heap ∧ wpAny M A (call f [v, v', v'']) Q E s₄) E s₃) E s₂) E s₁) E s)
    (he : starEach [e, e', e''] env = [(false, eval e env), (false, eval e' env), (false, eval e'' env)] := by rfl) : wpAny M A (eval (.Call (.Name id p) [e, e', e''] [] pos) env) Q E s := by
  refine wpAny_Call_NameR (wpAny_mono h (fun f s₁ h₁ => ?_) fun _ _ e => e)
  rw [he]
  exact callWith_plain rfl (Calls.spliced_cons (wpAny_mono h₁ (fun _ _ h₂ => Calls.spliced_cons (wpAny_mono h₂ (fun _ _ h₃ => Calls.spliced_cons (wpAny_mono h₃ (fun _ _ h₄ => Calls.spliced_nil h₄) fun _ _ e => e)) fun _ _ e => e)) fun _ _ e => e))
end


theorem lenL {prog : Program} {w : World} {A : Around} {E : Value → Shared → Prop} {s : Shared} {l : Addr} {items : Array Value} {Q : Value → Shared → Prop} (hl : s.heap.IsList l items) (hb : items.size ≤ 2 ^ 20)
    (h : Q (.int items.size (s.toks + 1)) { s with toks := s.toks + 1 + 1 }) : wpAny (model prog w) A (call (.builtin "len") [.ref l]) Q E s :=
  Calls.call_len_list hl (by omega) h

theorem IsList.keeps {h h' : Heap} {l : Addr} {items : Array Value} (x : h.IsList l items) (hk : ∀ b o, h.get? b = some o → h'.get? b = some o) : h'.IsList l items :=
  let ⟨o, h1, h2⟩ := x; ⟨o, hk _ _ h1, h2⟩

theorem intsAre_get {vals : List Value} {ns : List Int} (hi : IntsAre vals ns) : ∀ (k : Nat), k < ns.length → ∃ t, vals[k]? = some (.int (ns.getD k 0) t) := by
  induction hi with
  | nil => intro k hk; simp at hk
  | cons n t _ ih =>
    intro k hk
    cases k with
    | zero => exact ⟨t, rfl⟩
    | succ k => exact ih k (by simpa using hk)

theorem lawAt_ok {w : World} {A : Around} {s : Shared} {pm cd doc : Value} {R : Result → Shared → Prop} {scr : Addr} {vals : List Value} {ns : List Int} {k d : Int} {tk td : Tok}
    (hf : FnOk s.heap 68 (lawAtFd pm cd doc)) (hN : Names s.heap) (hd : A.depth < 900) (hl : s.heap.IsList scr vals.toArray) (hi : IntsAre vals ns) (h63 : ns.length ≤ 63) (h0 : 0 ≤ k)
    (hR : ∀ t s', Keeps s s' → R (.ok (.ret (.int (if k < ns.length then ns.getD k.toNat 0 else d) t))) s') :
    codeAny (model pw w) A (.call (.ref 68) ⟨[.ref scr, .int k tk, .int d td], []⟩) R s := by
  refine call_fn (ks := ["script", "k", "other"]) (vs := [some (.ref scr), some (.int k tk), some (.int d td)]) hf (by simp only [recursionLimit]; omega) hN.lim rfl (lawAt_bind _ _ _ _ _ _) rfl rfl (fun s₁ S => ?_)
  have hlen := IntsAre.length hi
  show wpAny _ _ (execs (fBody (stmtAt 5)) _) _ _ _
  obtain ⟨mg, mb, hg, hb, g1, g2, g3, g4, g5, gm, b1, b2, b3, b4, b5, b6, b7, b8⟩ := hN.ex
  refine wpAny_execs_cons (wpAny_Return_some (wpAny_IfExp (wpAny_isTrue_Compare1 ?_)))
  refine ldl S (by walk_at "mem") (by walk_at "lg") (call1 ?_)
  have hk₁ : ∀ b o, s.heap.get? b = some o → s₁.heap.get? b = some o := S.hk
  refine lblt (hg.keeps hk₁) (gm _ (by decide)) (hb.keeps hk₁) b1 ?_
  refine ldl S (by walk_at "mem") (by walk_at "lg") ⟨trivial, ?_⟩
  refine lenL (IsList.keeps hl hk₁) (by simp; omega) (wpAny_lt_int (wpAny_truthy_bool ?_))
  have hsz : ((vals.toArray.size : Nat) : Int) = (ns.length : Int) := by simp [hlen]
  rw [hsz]
  have S₂ := S.tok (s₁.toks + 1 + 1)
  refine split_dec (fun hlt => ?_) fun hge => ?_
  · rw [if_pos hlt] at hR
    obtain ⟨t, ht⟩ := intsAre_get hi k.toNat (by omega)
    refine wpAny_Subscript_Name slot_list_getitem.lookup ?_
    refine ldl S₂ (by walk_at "mem") (by walk_at "lg") ?_
    refine ldl S₂ (by walk_at "mem") (by walk_at "lg") ⟨(IsList.keeps hl hk₁).typeIs, ?_⟩
    refine wpAny_getItem_list (IsList.keeps hl hk₁) h0 (by omega) (by simpa using ht) ?_
    exact hR t _ S₂.done
  · rw [if_neg hge] at hR
    refine ldl S₂ (by walk_at "mem") (by walk_at "lg") ?_
    exact hR td _ S₂.done
end Mine
end

section
open PySem PySem.W PyProof.Rows
set_option Elab.async false
namespace Mine
def LstP (vs : List Value) : OP := fun o => ∃ n, o = { cls := .type "list", data := .seq vs.toArray n }
def LitP (l : Addr) (i : Nat) : OP := fun o => o.cls = .type "list_iterator" ∧ o.data = .fields #[.ref l, .int i 0]
def DctP (w : World) (kvs : List (Int × Value)) : OP :=
  fun o => ∃ es ep, o.ExactDict ∧ o.data = .dict es ep ∧ KeysOf (intKind pw w) es ∧ Pairs (intKind pw w) es.toList kvs ∧ (kvs.map (·.1)).Nodup
/-- the values are these naturals -/
def NA (vs : List Value) (xs : List Nat) : Prop := IntsAre vs (xs.map fun (x : Nat) => (x : Int))

theorem NA.length {vs : List Value} {xs : List Nat} (h : NA vs xs) : vs.length = xs.length := by
  have := IntsAre.length h
  simpa using this
theorem NA.get {vs : List Value} {xs : List Nat} (h : NA vs xs) {i : Nat} (hi : i < xs.length) : ∃ t, vs[i]? = some (.int (xs[i] : Nat) t) := by
  obtain ⟨t, ht⟩ := intsAre_get h i (by simpa using hi)
  exact ⟨t, by simpa [hi] using ht⟩
theorem intsAre_snoc {vs : List Value} {ns : List Int} (h : IntsAre vs ns) (n : Int) (t : Tok) : IntsAre (vs ++ [.int n t]) (ns ++ [n]) := by
  induction h with
  | nil => exact .cons n t .nil
  | cons m u _ ih => exact .cons m u ih
theorem NA.snoc {vs : List Value} {xs : List Nat} (h : NA vs xs) (x : Nat) (t : Tok) : NA (vs ++ [.int (x : Int) t]) (xs ++ [x]) := by
  unfold NA; rw [List.map_append]; exact intsAre_snoc h _ t
theorem NA.nil : NA [] [] := IntsAre.nil
theorem NA.any_eq {xs : List Nat} (x : Nat) : ((xs.map fun (y : Nat) => (y : Int)).any (· == (x : Int))) = decide (x ∈ xs) := by
  induction xs with
  | nil => simp
  | cons y ys ih =>
    rw [List.map_cons, List.any_cons, ih]
    by_cases h : y = x
    · subst h; simp
    · have : ((y : Int) == (x : Int)) = false := by
        rw [beq_eq_false_iff_ne]; omega
      have h' : ¬ x = y := fun e => h e.symm
      simp [this, h']

section
variable {prog : Program} {w : World} {A : Around} {E : Value → Shared → Prop} {B : Shared} {Pk : Addr → Obj → Prop} {G : Array GenState → Prop} {L L' : Ledger} {s : Shared} {env : Env}

theorem St.lst (S : St B Pk G L s) {a : Addr} {vs : List Value} (h : (a, LstP vs) ∈ L) : s.heap.PlainList a vs.toArray := by
  obtain ⟨o, ho, n, rfl⟩ := S.get h
  exact ⟨n, ho⟩
theorem lst_of {h : Heap} {a : Addr} {vs : List Value} (x : h.PlainList a vs.toArray) : ∃ o, h.get? a = some o ∧ LstP vs o := let ⟨n, e⟩ := x; ⟨_, e, n, rfl⟩
theorem St.lit (S : St B Pk G L s) {a l : Addr} {i : Nat} (h : (a, LitP l i) ∈ L) : s.heap.IsListIter a l i := by
  obtain ⟨o, ho, h1, h2⟩ := S.get h
  exact ⟨o, ho, h1, h2⟩
theorem St.dct (S : St B Pk G L s) {a : Addr} {kvs : List (Int × Value)} (h : (a, DctP w kvs) ∈ L) : s.heap.DictOf (intKind pw w) a kvs := by
  obtain ⟨o, ho, es, ep, h1, h2, h3⟩ := S.get h
  exact ⟨o, es, ep, ho, h1, h2, h3⟩
theorem dct_of {h : Heap} {a : Addr} {kvs : List (Int × Value)} (x : h.DictOf (intKind pw w) a kvs) : ∃ o, h.get? a = some o ∧ DctP w kvs o :=
  let ⟨o, es, ep, e, r⟩ := x; ⟨o, e, es, ep, r⟩

theorem S_append {D : Addr} {vs : List Value} {y : Value} {Q : Value → Shared → Prop} (S : St B Pk G L s) (u : Upd L D (LstP vs) (LstP (vs ++ [y])) L') (hsz : vs.length ≤ 2 ^ 20)
    (h : ∀ s', St B Pk G L' s' → Q .none s') : wpAny (model prog w) A (call (.builtin "list.append") [.ref D, y]) Q E s := by
  refine wpAny_list_append_plain (S.lst u.mem) (fun h' hp hs => h _ ?_) (by simp only [List.size_toArray, sizeLine_eq]; omega)
  obtain ⟨n, e⟩ := hp
  exact S.upd u hs ⟨_, e, n, by simp⟩ rfl rfl rfl

/-- a statement  x.append(e) -/
theorem ex_append {o elt : Expr} {apos pos p : Pos} {Q : Flow → Shared → Prop}
    (h : wpAny (model prog w) A (eval o env) (fun ov s₁ => ∃ D its, ov = .ref D ∧ s₁.heap.PlainList D its ∧
      wpAny (model prog w) A (eval elt env) (fun y s₂ => wpAny (model prog w) A (call (.builtin "list.append") [.ref D, y]) (fun v s' => v = .none ∧ Q .next s') E s₂) E s₁) E s)
    (hbase : attributeBase o "append" env (eval o env) = eval o env := by rfl)
    (hline : (apos.endLine == pos.line) = true := by rfl)
    (htrees : backTo pos (starEach [elt] env) = [(false, eval elt env)] := by rfl)
    (hi : interactive env = false := by rfl) (hs : swapsWith (.Call (.Attribute o "append" apos) [elt] [] pos) none p.line env = pure false := by rfl) :
    wpAny (model prog w) A (exec (.Expr (.Call (.Attribute o "append" apos) [elt] [] pos) p) env) Q E s := by
  rw [exec_Expr env _ p hi hs]
  refine wpAny_bind (wpAny_standAt (wpAny_bind ?_))
  refine wpAny_Call_append hbase (by rw [htrees]; rfl) hline htrees (wpAny_mono h (fun ov s₁ h₁ => ?_) fun _ _ e => e)
  obtain ⟨D, its, rfl, ⟨n, e⟩, h₂⟩ := h₁
  refine ⟨D, its, rfl, ⟨_, n, e, rfl, rfl, rfl⟩, wpAny_mono h₂ (fun y s₂ h₃ => ?_) fun _ _ e => e⟩
  refine wpAny_mono h₃ (fun v s₃ h₄ => ?_) fun _ _ e => e
  obtain ⟨rfl, h₄⟩ := h₄
  rw [dropValue_plain (fun a h => by cases h)]
  exact wpAny_pure h₄

theorem get_dct {d : Addr} {kvs : List (Int × Value)} {k : Int} {t : Tok} {v : Value} {Q : Value → Shared → Prop} (hd : s.heap.DictOf (intKind pw w) d kvs) (hv : valueAt kvs k = some v)
    (h : Q v { s with toks := s.toks + 1 }) : wpAny (model pw w) A (getItem (.ref d) (.int k t)) Q E s :=
  wpAny_getItem_of (k := k) (knd := intKind pw w) (by simp [intKind, Value.isInt]) hd.mapOf hv h
theorem notin_dct {d : Addr} {kvs : List (Int × Value)} {k : Int} {t : Tok} {Q : Value → Shared → Prop} (hd : s.heap.DictOf (intKind pw w) d kvs) (hds : (d == sysModules) = false)
    (h : Q (.bool (!(valueAt kvs k).isSome)) { s with toks := s.toks + 1 }) : wpAny (model pw w) A (compareOp .NotIn (.int k t) (.ref d)) Q E s :=
  wpAny_notIn_of (k := k) (knd := intKind pw w) (by simp [intKind, Value.isInt]) hds hd.mapOf h
theorem in_dct {d : Addr} {kvs : List (Int × Value)} {k : Int} {t : Tok} {Q : Value → Shared → Prop} (hd : s.heap.DictOf (intKind pw w) d kvs) (hds : (d == sysModules) = false)
    (h : Q (.bool (valueAt kvs k).isSome) { s with toks := s.toks + 1 }) : wpAny (model pw w) A (compareOp .In (.int k t) (.ref d)) Q E s :=
  wpAny_in_of (k := k) (knd := intKind pw w) (by simp [intKind, Value.isInt]) hds hd.mapOf h
theorem S_setdct {D : Addr} {kvs : List (Int × Value)} {k : Int} {t : Tok} {v : Value} {Q : Unit → Shared → Prop} (S : St B Pk G L s) (u : Upd L D (DctP w kvs) (DctP w (stored kvs k v)) L') (hsz : kvs.length ≤ 2 ^ 20)
    (h : ∀ s', St B Pk G L' s' → Q () s') : wpAny (model pw w) A (setItem (.ref D) (.int k t) v) Q E s := by
  refine wpAny_setItem_pairs (k := k) (by simp [intKind, Value.isInt]) (S.dct u.mem) (fun h' hp hs => h _ ?_) (by rw [sizeLine_eq]; omega)
  exact S.upd (s' := { s with heap := h', toks := s.toks + 1 }) u hs (dct_of hp) rfl rfl rfl

theorem notin_nats {l : Addr} {vs : List Value} {xs : List Nat} {x : Nat} {t : Tok} {Q : Value → Shared → Prop} (hl : s.heap.PlainList l vs.toArray) (hi : NA vs xs)
    (h : Q (.bool (decide (x ∉ xs))) s) : wpAny (model prog w) A (compareOp .NotIn (.int (x : Int) t) (.ref l)) Q E s := by
  refine PyProof.Rows.notin_list_ints hl.isList hi ?_
  rw [NA.any_eq]
  simpa using h
theorem in_nats {l : Addr} {vs : List Value} {xs : List Nat} {x : Nat} {t : Tok} {Q : Value → Shared → Prop} (hl : s.heap.PlainList l vs.toArray) (hi : NA vs xs)
    (h : Q (.bool (decide (x ∈ xs))) s) : wpAny (model prog w) A (compareOp .In (.int (x : Int) t) (.ref l)) Q E s := by
  refine PyProof.Rows.in_list_ints hl.isList hi ?_
  rw [NA.any_eq]
  exact h

theorem item_nats {l : Addr} {vs : List Value} {xs : List Nat} {i : Nat} {t : Tok} {Q : Value → Shared → Prop} (hl : s.heap.PlainList l vs.toArray) (hi : NA vs xs) (hx : i < xs.length) (hb : xs.length ≤ 2 ^ 20)
    (h : ∀ u, Q (.int (xs[i] : Nat) u) s) : wpAny (model prog w) A (getItem (.ref l) (.int (i : Int) t)) Q E s := by
  obtain ⟨u, hu⟩ := hi.get hx
  exact wpAny_getItem_list hl.isList (Int.natCast_nonneg i) (by omega) (by simpa using hu) (h u)

/-- subscripts of every kind -/
theorem sub_any {value slice : Expr} {pos : Pos} {Q : Value → Shared → Prop}
    (h : wpAny (model prog w) A (eval value env) (fun o s₁ => wpAny (model prog w) A (eval slice env) (fun i s₂ => (∃ T id, typeLookup (.type T) "__getitem__" = pure (some (.builtin id)) ∧ s₂.TypeIs o T) ∧ wpAny (model prog w) A (getItem o i) Q E s₂) E s₁) E s)
    (ht : ∀ o r, letTemporaryGo value o r = pure () := by intro _ _; rfl) (hsl : ∀ o i, subscripted slice false o i = operate [o, i] (getItem o i) := by intro _ _; rfl) :
    wpAny (model prog w) A (eval (.Subscript value slice pos) env) Q E s := by
  rw [eval_Subscript]
  refine wpAny_bind (wpAny_mono h (fun o s₁ h₁ => wpAny_bind (wpAny_holding (wpAny_mono h₁ (fun i s₂ h₂ => wpAny_bind (wpAny_standAt ?_)) fun _ _ x => x)))
    fun _ _ x => x)
  obtain ⟨⟨T, id, hl, hT⟩, h₂⟩ := h₂
  refine wpAny_bind ?_
  rw [getitemInPython_of_ne hT.not_modules]
  refine wpAny_bind (wpAny_specialOf hT hl ?_)
  have fin : wpAny (model prog w) A (subscripted slice false o i) (fun r s₃ => wpAny (model prog w) A (letTemporaryGo value o r >>= fun _ => pure r) Q E s₃) E s₂ := by
    rw [hsl]
    exact wpAny_operating (wpAny_mono h₂ (fun r s₃ h₃ => wpAny_bind (wpAny_of_eq (ht o r) (wpAny_pure h₃))) fun _ _ x => x)
  first
    | exact wpAny_pure (wpAny_bind fin)
    | exact wpAny_bind (wpAny_pure (wpAny_bind fin))
    | exact wpAny_bind fin
theorem on_list {h : Shared} {l : Addr} {its : Array Value} (x : h.heap.PlainList l its) : ∃ T id, typeLookup (.type T) "__getitem__" = pure (some (.builtin id)) ∧ h.TypeIs (.ref l) T :=
  ⟨_, _, slot_list_getitem.lookup, x.isList.typeIs⟩
theorem on_dct {h : Shared} {d : Addr} {kvs : List (Int × Value)} (x : h.heap.DictOf (intKind pw w) d kvs) : ∃ T id, typeLookup (.type T) "__getitem__" = pure (some (.builtin id)) ∧ h.TypeIs (.ref d) T :=
  ⟨_, _, slot_dict_getitem.lookup, x.typeIs⟩

/-- the iterator of a list -/
theorem S_iter {l : Addr} {vs : List Value} {Q : Value → Shared → Prop} (S : St B Pk G L s) (hl : s.heap.PlainList l vs.toArray)
    (h : ∀ it s', it = s.heap.objs.size → Keeps s s' → St B Pk G ((it, LitP l 0) :: L) s' → Q (.ref it) s') : wpAny (model prog w) A (pyIter (.ref l)) Q E s := by
  refine wpAny_pyIter_list hl.isList (h _ _ rfl ⟨_, s.toks, rfl, fun _ _ e => Heap.get?_push_of_some _ e⟩ (S.alloc rfl ⟨rfl, rfl⟩))
theorem S_next {l it : Addr} {vs : List Value} {i : Nat} {x : Value} {Q : Option Value → Shared → Prop} (S : St B Pk G L s) (u : Upd L it (LitP l i) (LitP l (i + 1)) L') (hl : s.heap.PlainList l vs.toArray) (hx : vs[i]? = some x)
    (h : ∀ s', St B Pk G L' s' → Heap.SameBut it s.heap s'.heap → Q (some x) s') : wpAny (model prog w) A (pyNext (.ref it)) Q E s := by
  refine wpAny_pyNext_list_item (S.lit u.mem) hl.isList (by simpa using hx) fun h' hi hs => h _ ?_ hs
  obtain ⟨o, ho, h1, h2⟩ := hi
  exact S.upd (s' := { s with heap := h' }) u hs ⟨o, ho, h1, h2⟩ rfl rfl rfl
theorem next_end {it l : Addr} {i : Nat} {its : Array Value} {Q : Option Value → Shared → Prop} (hh : A.handled = none) (hit : s.heap.IsListIter it l i) (hl : s.heap.IsList l its) (hx : its[i]? = none)
    (hQ : ∀ h', (∃ o', h'.get? it = some o') → Heap.ExtBut it s.heap h' → Q none { s with heap := h' }) : wpAny (model prog w) A (pyNext (.ref it)) Q E s := by
  obtain ⟨o, ho, hc, hd⟩ := id hit
  obtain ⟨ol, hol, _, nl, hdl⟩ := hl
  unfold pyNext
  refine wpAny_bind (wpAny_attempt (wpAny_callSpecial?_slot (name := Str.ofString "__next__") hit.typeIs slot_listiter_next (wpAny_call_entry slot_listiter_next hit.typeIs entry_listiter_next ?_ (args_listiter_next _))))
  show wpAny _ _ (field (.ref it) 0 >>= _) _ _ s
  refine wpAny_bind (wpAny_field ho hd (x := .ref l) rfl ?_)
  show wpAny _ _ (field (.ref it) 1 >>= _) _ _ s
  refine wpAny_bind (wpAny_field ho hd (x := .int i 0) rfl ?_)
  show wpAny _ _ (seqItems? (.ref l) >>= _) _ _ s
  refine wpAny_bind (wpAny_seqItems hol hdl ?_)
  simp only [Int.toNat_natCast, hx]
  refine wpAny_bind (wpAny_rule (wpAny_bind (wpAny_setField ho hd (by simp) ?_)))
  show wpAny _ _ (newExc (.type "StopIteration") [] >>= _) _ _ _
  refine wpAny_bind ?_
  simp only [newExc, newTuple]
  refine wpAny_bind (wpAny_newObj_type ?_ (by size_fits))
  refine wpAny_bind (m := firstArgMember _ _) (wpAny_of_eq (a := Value.none) (by first | rfl | (simp only [firstArgMember]; rfl)) ?_)
  refine wpAny_newObj_type ?_ (by size_fits)
  simp only [raiseNew]
  refine wpAny_bind (wpAny_handled ?_)
  rw [show A.in1.handled = none from hh]
  refine wpAny_bind (wpAny_pure (wpAny_throw ?_))
  refine wpAny_bind (wpAny_isInstance (T := "StopIteration") (b := true) ⟨_, Heap.get?_push_size _ rfl, rfl⟩ isSubtype_stop ?_)
  refine wpAny_pure (hQ _ ⟨_, Heap.get?_push_of_some _ (Heap.get?_push_of_some _ (Heap.get?_update_self _ ho (Obj.isFreed_of_fields (Obj.data_mapFields hd _))))⟩ (((Heap.SameBut.update ..).extBut.push _).push _))

/-- a held object is spoilt, all others stand -/
theorem St.spoil (S : St B Pk G L s) {s' : Shared} {a : Addr} {P : OP} (u : Upd L a P (fun _ => True) L') (hx : Heap.ExtBut a s.heap s'.heap) (hn : ∃ o, s'.heap.get? a = some o)
    (hd : s'.drawn = s.drawn) (hos : s'.os = s.os) (hg : s'.gens = s.gens) : St B Pk G L' s' := by
  have hm := S.own _ u.mem
  refine ⟨fun b o e hb => ?_, fun p hp => ?_, fun p hp => ?_, u.keys ▸ S.ord, fun b o e => ?_, hd.trans S.drawn, hos.trans S.os, hg ▸ S.gens⟩
  · have hne : b ≠ a := by
      rintro rfl
      exact hm o e hb
    exact hx b o hne (S.keep b o e hb)
  · rcases u.cases S.ord p hp with rfl | ⟨h, _⟩
    · exact hm
    · exact S.own p h
  · rcases u.cases S.ord p hp with rfl | ⟨h, h'⟩
    · obtain ⟨o, ho⟩ := hn; exact ⟨o, ho, trivial⟩
    · obtain ⟨o, ho, hP⟩ := S.led p h
      exact ⟨o, hx _ _ h' ho, hP⟩
  · by_cases hba : b = a
    · subst hba; exact hn
    · obtain ⟨o, ho⟩ := S.live b o e
      exact ⟨o, hx b o hba ho⟩

theorem S_stop {l it : Addr} {vs : List Value} {i : Nat} {Q : Option Value → Shared → Prop} (hh : A.handled = none) (S : St B Pk G L s) (u : Upd L it (LitP l i) (fun _ => True) L') (hl : s.heap.PlainList l vs.toArray) (hx : vs[i]? = none)
    (h : ∀ s', St B Pk G L' s' → Heap.ExtBut it s.heap s'.heap → Q none s') : wpAny (model prog w) A (pyNext (.ref it)) Q E s :=
  next_end hh (S.lit u.mem) hl.isList (by simpa using hx) fun h' hn hx' => h _ (S.spoil (s' := { s with heap := h' }) u hx' hn rfl rfl rfl) hx'

def TupP (vs : List Value) : OP := fun o => ∃ n, o = { cls := .type "tuple", data := .seq vs.toArray n }
theorem S_List {elts : List Expr} {pos : Pos} {Q : Value → Shared → Prop}
    (h : wpAny (model prog w) A (spliced (backTo pos (starEach elts env))) (fun vs s₁ => ∃ B Pk G L, St B Pk G L s₁ ∧ vs.length ≤ 2 ^ 20 ∧ ∀ D s₂, Keeps s₁ s₂ → s₁.heap.get? D = none → St B Pk G ((D, LstP vs) :: L) s₂ → Q (.ref D) s₂) E s) :
    wpAny (model prog w) A (eval (.List elts pos) env) Q E s := by
  refine wpAny_List_spliced (wpAny_mono h (fun vs s₁ h₁ => ?_) fun _ _ e => e)
  obtain ⟨B, Pk, G, L, S, hsz, h₁⟩ := h₁
  exact ⟨by rw [sizeLine_eq]; omega, h₁ _ _ ⟨_, s₁.toks, rfl, fun _ _ e => Heap.get?_push_of_some _ e⟩ (get?_of_ge (Nat.le_refl _)) (S.alloc rfl ⟨_, rfl⟩)⟩
theorem S_Tuple {elts : List Expr} {k : Nat} {pos : Pos} {Q : Value → Shared → Prop}
    (h : wpAny (model prog w) A (spliced (backTo pos (starEach elts env))) (fun vs s₁ => ∃ B Pk G L, St B Pk G L s₁ ∧ vs.length ≤ 2 ^ 20 ∧ ∀ D s₂, Keeps s₁ s₂ → s₁.heap.get? D = none → St B Pk G ((D, TupP vs) :: L) s₂ → Q (.ref D) s₂) E s) :
    wpAny (model prog w) A (eval (.Tuple elts k pos) env) Q E s := by
  refine wpAny_Tuple_spliced (wpAny_mono h (fun vs s₁ h₁ => ?_) fun _ _ e => e)
  obtain ⟨B, Pk, G, L, S, hsz, h₁⟩ := h₁
  exact ⟨by rw [sizeLine_eq]; omega, h₁ _ _ ⟨_, s₁.toks, rfl, fun _ _ e => Heap.get?_push_of_some _ e⟩ (get?_of_ge (Nat.le_refl _)) (S.alloc rfl ⟨_, rfl⟩)⟩
theorem S_unpack {t : Addr} {vs : List Value} {n : Nat} {Q : List Value → Shared → Prop} (hh : A.handled = none) (S : St B Pk G L s) (ht : (t, TupP vs) ∈ L) (hn : n = vs.length)
    (h : ∀ s', St B Pk G L s' → Q vs s') : wpAny (model prog w) A (unpackItems (.ref t) n none) Q E s := by
  subst hn
  obtain ⟨o, ho, k, rfl⟩ := S.get ht
  have : vs.length = vs.toArray.size := by simp
  rw [this]
  refine PyProof.Rows.unpackItems_tuple hh ⟨_, ho, rfl, k, rfl⟩ fun h' hx => h _ (S.keeps ⟨h', s.toks, rfl, fun b o e => hx b o (Nat.ne_of_lt (Heap.lt_size e)) e⟩)
theorem bindN {x : Str} {v : Value} {Q : Unit → Shared → Prop} (h : wpAny (model prog w) A (storeName env x v) Q E s) : wpAny (model prog w) A (bindName env x v) Q E s := wpAny_bindName h
end
end Mine
end

section
open PySem PySem.W PyProof.Rows
set_option Elab.async false
namespace Mine
local macro_rules | `(tactic| walk_at "mem") => `(tactic| repeat (first | exact List.Mem.head _ | apply List.Mem.tail))
local macro_rules | `(tactic| walk_at "lg") => `(tactic| repeat (first | (with_reducible exact LG.head) | apply LG.tail))
local macro_rules | `(tactic| walk_at "upd") => `(tactic| repeat (first | exact Upd.head | apply Upd.tail))
local macro_rules | `(tactic| walk_at "ls") => `(tactic| repeat (first | (with_reducible exact LS.head) | apply LS.tail))

section
variable {prog : Program} {w : World} {A : Around} {R : Result → Shared → Prop} {B : Shared} {Pk : Addr → Obj → Prop} {G : Array GenState → Prop} {L L' : Ledger} {s : Shared} {env : Env}

/-- a for over a list; the iterator lies on top of the ledger between the turns -/
theorem forL {target : Expr} {body : List Stmt} {it l : Addr} {vals : List Value} (hh : A.handled = none) (J : Nat → Ledger → Prop)
    (hl : ∀ i L s, J i L → St B Pk G ((it, LitP l i) :: L) s → s.heap.PlainList l vals.toArray)
    (step : ∀ i v L s, vals[i]? = some v → J i L → St B Pk G ((it, LitP l (i + 1)) :: L) s →
      wpAny (model prog w) A (assign target env v) (fun _ s₂ => wpAny (model prog w) A (execs body env) (fun f s₃ => f = .next ∧ ∃ L', J (i + 1) L' ∧ St B Pk G ((it, LitP l (i + 1)) :: L') s₃)
        (notedBy (model prog w) A env fun e s' => R (.error e) s') s₂) (notedBy (model prog w) A env fun e s' => R (.error e) s') s)
    (done : ∀ L s, J vals.length L → St B Pk G L s → R (.ok .next) s)
    (h0 : J 0 L) (S : St B Pk G ((it, LitP l 0) :: L) s) (ht : ∀ v, letOwnedTupleGo target (.ref it) v = pure () := by intro _; rfl) :
    codeAny (model prog w) A (.forLoop target (.ref it) body [] env) R s := by
  refine codeAny_forLoop (fun n s => ∃ i L, n = vals.length - i ∧ i ≤ vals.length ∧ J i L ∧ St B Pk G ((it, LitP l i) :: L) s) ?_ vals.length ⟨0, L, rfl, Nat.zero_le _, h0, S⟩ ht
  rintro n s ⟨i, L, rfl, hi, hj, S⟩
  have hl' := hl i L s hj S
  by_cases hlt : i < vals.length
  · have hx : vals[i]? = some vals[i] := by simp [hlt]
    refine S_next S Upd.head hl' hx fun s₁ S₁ _ => ?_
    refine wpAny_mono (step i _ L s₁ hx hj S₁) (fun _ s₂ h₂ => wpAny_mono h₂ (fun f s₃ h₃ => ?_) fun _ _ e => e) fun _ _ e => e
    obtain ⟨rfl, L', hj', S'⟩ := h₃
    exact ⟨vals.length - (i + 1), by omega, i + 1, L', rfl, hlt, hj', S'⟩
  · have e : i = vals.length := by omega
    subst e
    refine S_stop hh S Upd.head hl' (by simp) fun s₁ S₁ _ => wpAny_execs_nil ?_
    exact done L s₁ hj (S₁.drop (List.sublist_cons_self _ _))
end

def lawReachedFd (pm cd doc : Value) : FuncData := Calls.docDef "_law_reached" (fArgs (stmtAt 6)) (fBody (stmtAt 6)) (fScope (stmtAt 6)) pm cd doc
theorem lawReached_bind (a b pm cd doc : Value) : bindArgs (lawReachedFd pm cd doc) ⟨[a, b], []⟩ = pure [(("edges" : Str), a), (("place" : Str), b)] := by with_unfolding_all rfl

/-- the edges' dict with its lists -/
def EdgesOk (w : World) (h : Heap) (d : Addr) (n : Nat) (E : Nat → List Nat) : Prop :=
  ∃ kvs, h.DictOf (intKind pw w) d kvs ∧ (d == sysModules) = false ∧ ∀ v < n, ∃ l vals, valueAt kvs (v : Int) = some (.ref l) ∧ h.PlainList l vals.toArray ∧ NA vals (E v)
theorem PlainList.keeps {h h' : Heap} {l : Addr} {its : Array Value} (x : h.PlainList l its) (hk : ∀ b o, h.get? b = some o → h'.get? b = some o) : h'.PlainList l its := let ⟨n, e⟩ := x; ⟨n, hk _ _ e⟩
theorem EdgesOk.keeps {w : World} {h h' : Heap} {d : Addr} {n : Nat} {E : Nat → List Nat} (x : EdgesOk w h d n E) (hk : ∀ b o, h.get? b = some o → h'.get? b = some o) : EdgesOk w h' d n E :=
  let ⟨kvs, a, b, c⟩ := x; ⟨kvs, a.keep hk, b, fun v hv => let ⟨l, vals, e, f, g⟩ := c v hv; ⟨l, vals, e, PlainList.keeps f hk, g⟩⟩

inductive Reach (E : Nat → List Nat) : Nat → Nat → Prop
  | refl (a : Nat) : Reach E a a
  | step {a b c : Nat} : Reach E a b → c ∈ E b → Reach E a c

/-- what is found: no place twice, all reached -/
structure Found (n : Nat) (E : Nat → List Nat) (p : Nat) (xs : List Nat) : Prop where
  nodup : xs.Nodup
  lt : ∀ x ∈ xs, x < n
  reach : ∀ x ∈ xs, Reach E p x
  start : p ∈ xs

theorem nodup_length_le : ∀ (n : Nat) (xs : List Nat), xs.Nodup → (∀ x ∈ xs, x < n) → xs.length ≤ n := by
  intro n
  induction n with
  | zero => intro xs _ h; cases xs with
    | nil => simp
    | cons x xs => exact absurd (h x (.head _)) (by omega)
  | succ n ih =>
    intro xs hn h
    have h1 := ih (xs.erase n) (hn.erase n) fun x hx => by
      have hx' := (hn.mem_erase_iff).mp hx
      have := h x hx'.2
      omega
    have h2 : xs.length ≤ (xs.erase n).length + 1 := by
      rw [List.length_erase]
      split <;> omega
    omega

theorem lawReached_ok {w : World} {A : Around} {s : Shared} {pm cd doc : Value} {R : Result → Shared → Prop} {d : Addr} {n : Nat} {E : Nat → List Nat} {p : Nat} {tk : Tok}
    (hf : FnOk s.heap 75 (lawReachedFd pm cd doc)) (hN : Names s.heap) (hh : A.handled = none) (hd : A.depth < 900) (hE : EdgesOk w s.heap d n E) (hn : n ≤ 1000) (hlt : ∀ v < n, ∀ o ∈ E v, o < n) (hp : p < n)
    (hR : ∀ l xs vals s', Keeps s s' → s.heap.get? l = none → s'.heap.PlainList l vals.toArray → NA vals xs → xs.Nodup → (∀ x, x ∈ xs ↔ Reach E p x) → (∀ x ∈ xs, x < n) → R (.ok (.ret (.ref l))) s') :
    codeAny (model pw w) A (.call (.ref 75) ⟨[.ref d, .int (p : Int) tk], []⟩) R s := by
  refine call_fn (ks := ["edges", "place", "found", "k", "other"]) (vs := [some (.ref d), some (.int p tk), none, none, none]) hf (by simp only [recursionLimit]; omega) hN.lim rfl (lawReached_bind _ _ _ _ _) rfl rfl (fun s₁ S => ?_)
  have hh' : (A.deeper (fnEnv (lawReachedFd pm cd doc) s.heap.objs.size 75)).handled = none := hh
  generalize hLf : s.heap.objs.size = Lf at *
  generalize hA' : A.deeper (fnEnv (lawReachedFd pm cd doc) Lf 75) = A' at *
  show wpAny _ _ (execs (fBody (stmtAt 6)) _) _ _ _
  refine wpAny_execs_cons (Assign_Tuple_swapped (names := ["found", "k"]) ?_)
  refine S_Tuple (wpAny_items_cons (S_List (wpAny_items_cons (ldl S (by walk_at "mem") (by walk_at "lg") (wpAny_items_nil ⟨_, _, _, _, S, by simp, fun D s₂ K₂ hD S₂ => ?_⟩)))))
  refine wpAny_items_cons (wpAny_Constant_int (wpAny_items_nil ⟨_, _, _, _, S₂.tok _, by simp, fun T s₃ _ _ S₃ => ?_⟩))
  refine S_unpack hh' S₃ (by walk_at "mem") rfl fun s₄ S₄ => ?_
  have S₄ := S₄.drop (List.sublist_cons_self _ _)
  refine wpAny_assignInOrder_more (bindN (stl S₄ (by walk_at "upd") (by walk_at "ls") (by decide) fun s₅ S₅ => ?_))
  refine wpAny_assignInOrder_more (bindN (stl S₅ (by walk_at "upd") (by walk_at "ls") (by decide) fun s₆ S₆ => wpAny_assignInOrder_none ?_))
  refine wpAny_execs_cons (wpAny_While ?_)
  obtain ⟨mg, mb, hg, hb, g1, g2, g3, g4, g5, gm, b1, b2, b3, b4, b5, b6, b7, b8⟩ := hN.ex
  obtain ⟨kvs, hkv, hsys, hEv⟩ := hE
  refine codeAny_whileLoop (fun m s' => ∃ xs k vals tk' oth, St s KAll (EqG s) [(D, LstP vals), (Lf, LocP ["edges", "place", "found", "k", "other"] [some (.ref d), some (.int p tk), some (.ref D), some (.int ((k : Nat) : Int) tk'), oth])] s' ∧
    NA vals xs ∧ Found n E p xs ∧ k ≤ xs.length ∧ (∀ i (hi : i < xs.length), i < k → ∀ o ∈ E xs[i], o ∈ xs) ∧ m = n - k) ?_ n
    ⟨[p], 0, _, _, none, S₆, NA.snoc NA.nil p tk, ⟨by simp, by simpa using hp, by simpa using Reach.refl p, by simp⟩, by simp, fun i _ h => absurd h (Nat.not_lt_zero i), rfl⟩
  rintro m s₇ ⟨xs, k, vals, tk', oth, S, hv, hx, hk, hcl, rfl⟩
  have hle : xs.length ≤ n := nodup_length_le n xs hx.nodup hx.lt
  have hvl := hv.length
  refine wpAny_isTrue_Compare1 (ldl S (by walk_at "mem") (by walk_at "lg") (call1 ?_))
  refine lblt (hg.keeps S.hk) (gm _ (by decide)) (hb.keeps S.hk) b1 ?_
  refine ldl S (by walk_at "mem") (by walk_at "lg") ⟨trivial, ?_⟩
  refine lenL (S.lst (by walk_at "mem")).isList (by simp; omega) (wpAny_lt_int (wpAny_truthy_bool ?_))
  replace S := S.tok (s₇.toks + 1 + 1)
  refine split_dec (fun hlt' => ?_) fun hge => ?_
  · have hkx : k < xs.length := by simp only [List.size_toArray] at hlt'; omega
    obtain ⟨l, ev, hl1, hl2, hl3⟩ := hEv xs[k] (hx.lt _ (List.getElem_mem hkx))
    refine wpAny_execs_cons (wpAny_For ?_)
    refine sub_any (ldl S (by walk_at "mem") (by walk_at "lg") (sub_any (ldl S (by walk_at "mem") (by walk_at "lg") (ldl S (by walk_at "mem") (by walk_at "lg") ⟨on_list (S.lst (by walk_at "mem")), ?_⟩))))
    refine item_nats (S.lst (by walk_at "mem")) hv hkx (by omega) fun u => ⟨on_dct (hkv.keep S.hk), ?_⟩
    refine get_dct (hkv.keep S.hk) hl1 ?_
    refine S_iter (S.tok _) (PlainList.keeps hl2 S.hk) fun it s₈ _ _ S₈ => ?_
    refine forL (vals := ev) hh' (fun i L => ∃ ys vals' oth', L = [(D, LstP vals'), (Lf, LocP ["edges", "place", "found", "k", "other"] [some (.ref d), some (.int p tk), some (.ref D), some (.int ((k : Nat) : Int) tk'), oth'])] ∧
      NA vals' ys ∧ Found n E p ys ∧ xs <+: ys ∧ ∀ j (hj : j < (E xs[k]).length), j < i → (E xs[k])[j] ∈ ys) ?_ ?_ ?_ ⟨xs, vals, oth, rfl, hv, hx, List.prefix_refl _, fun j _ h => absurd h (Nat.not_lt_zero j)⟩ S₈
    · rintro i L s₉ ⟨ys, vals', oth', rfl, _⟩ S₉
      exact PlainList.keeps hl2 S₉.hk
    · rintro i v L s₉ hiv ⟨ys, vals', oth', rfl, hv', hx', hpre, hall⟩ S₉
      have hlen := hl3.length
      have hil : i < (E xs[k]).length := by
        have := (List.getElem?_eq_some_iff.mp hiv).1; omega
      have hy : ys.length ≤ n := nodup_length_le n ys hx'.nodup hx'.lt
      have hvl' := hv'.length
      obtain ⟨t, ht⟩ := hl3.get hil
      rw [ht] at hiv
      cases hiv
      refine wpAny_assign_Name (stl S₉ (by walk_at "upd") (by walk_at "ls") (by decide) fun s₁₀ S₁₀ => ?_)
      refine wpAny_execs_cons (wpAny_If (wpAny_isTrue_Compare1 ?_))
      refine ldl S₁₀ (by walk_at "mem") (by walk_at "lg") (ldl S₁₀ (by walk_at "mem") (by walk_at "lg") ?_)
      refine notin_nats (S₁₀.lst (by walk_at "mem")) hv' (wpAny_truthy_bool (split_dec (fun hn' => ?_) fun hin => ?_))
      · refine wpAny_execs_cons (ex_append ?_)
        refine ldl S₁₀ (by walk_at "mem") (by walk_at "lg") ⟨D, _, rfl, S₁₀.lst (by walk_at "mem"), ?_⟩
        refine ldl S₁₀ (by walk_at "mem") (by walk_at "lg") ?_
        refine S_append S₁₀ (by walk_at "upd") (by omega) fun s₁₁ S₁₁ => ⟨rfl, wpAny_execs_nil (wpAny_execs_nil ⟨rfl, _, ⟨ys ++ [(E xs[k])[i]], _, _, rfl, hv'.snoc _ _, ?_, ?_, ?_⟩, S₁₁⟩)⟩
        · refine ⟨?_, ?_, ?_, ?_⟩
          · rw [List.nodup_append]
            refine ⟨hx'.nodup, by simp, ?_⟩
            intro a ha b hb
            rw [List.mem_singleton] at hb
            subst hb
            rintro rfl
            exact hn' ha
          · intro x hxm
            rcases List.mem_append.mp hxm with h | h
            · exact hx'.lt x h
            · rw [List.mem_singleton] at h; subst h
              exact hlt _ (hx.lt _ (List.getElem_mem hkx)) _ (List.getElem_mem hil)
          · intro x hxm
            rcases List.mem_append.mp hxm with h | h
            · exact hx'.reach x h
            · rw [List.mem_singleton] at h; subst h
              exact Reach.step (hx.reach _ (List.getElem_mem hkx)) (List.getElem_mem hil)
          · exact List.mem_append_left _ hx'.start
        · exact hpre.trans (List.prefix_append _ _)
        · intro j hj hji
          by_cases e : j = i
          · subst e; simp
          · exact List.mem_append_left _ (hall j hj (by omega))
      · refine wpAny_execs_nil (wpAny_execs_nil ⟨rfl, _, ⟨ys, _, _, rfl, hv', hx', hpre, fun j hj hji => ?_⟩, S₁₀⟩)
        by_cases e : j = i
        · subst e; exact Decidable.not_not.mp hin
        · exact hall j hj (by omega)
    · rintro L s₉ ⟨ys, vals', oth', rfl, hv', hx', hpre, hall⟩ S₉
      refine wpAny_execs_cons (wpAny_AugAssign_Name ?_)
      refine ldln S₉ (by walk_at "mem") (by walk_at "lg") (wpAny_Constant_int (wpAny_iadd_int (stl (S₉.tok _) (by walk_at "upd") (by walk_at "ls") (by decide) fun s₁₀ S₁₀ => wpAny_execs_nil ?_)))
      have hy : ys.length ≤ n := nodup_length_le n ys hx'.nodup hx'.lt
      have hly := hpre.length_le
      refine ⟨n - (k + 1), by omega, ys, k + 1, vals', _, oth', by simpa using S₁₀, hv', hx', by omega, ?_, rfl⟩
      intro i hi hik o ho
      have hpi : ∀ j (h : j < xs.length) (h' : j < ys.length), ys[j] = xs[j] := fun j h h' => (hpre.getElem h).symm
      by_cases e : i = k
      · subst e
        rw [hpi i hkx hi] at ho
        obtain ⟨j, hj, rfl⟩ := List.getElem_of_mem ho
        exact hall j hj (by rw [hl3.length]; exact hj)
      · rw [hpi i (by omega) hi] at ho
        exact hpre.subset (hcl i (by omega) (by omega) o ho)
  · refine wpAny_execs_nil ?_
    refine wpAny_execs_cons (wpAny_Return_some ?_)
    refine ldl S (by walk_at "mem") (by walk_at "lg") ?_
    have hke : k = xs.length := by simp only [List.size_toArray] at hge; omega
    subst hke
    refine hR D xs vals _ S.done (get?_none_of S (by walk_at "mem")) (S.lst (by walk_at "mem")) hv hx.nodup (fun x => ⟨hx.reach x, fun h => ?_⟩) hx.lt
    induction h with
    | refl => exact hx.start
    | step _ hc ih =>
      obtain ⟨i, hi, rfl⟩ := List.getElem_of_mem ih
      exact hcl i hi hi _ hc
end Mine
end

section
open PySem PySem.W PyProof.Rows
set_option Elab.async false
namespace Mine

/-- room below: no exception in hand, d frames, u units at most -/
structure Rm (d u : Nat) (st : List Frame) : Prop where
  hd : topHandled st = none
  past : topHandled.go true st = none
  dep : frameCount (st.map Frame.where_) ≤ d
  un : unitsOf (st.map Frame.where_) ≤ u

theorem Rm.ret {d u : Nat} {st : List Frame} (h : Rm d u st) (k g l) (c : Code) (p kp) : Rm (d + c.weight) (u + c.cUnits) (.ret k none g l c p kp :: st) := by
  refine ⟨?_, ?_, ?_, ?_⟩
  · rw [topHandled_ret]; exact h.hd
  · exact h.past
  · rw [List.map_cons]; show frameCount ((c, p) :: _) ≤ _; rw [frameCount_cons]; have := h.dep; omega
  · rw [List.map_cons]; show unitsOf ((c, p) :: _) ≤ _; rw [unitsOf_cons]; have := h.un; omega
theorem Rm.gen {d u : Nat} {st : List Frame} (h : Rm d u st) (g k l) (c : Code) (p) : Rm (d + c.weight) (u + c.cUnits) (.gen g k l c p :: st) := by
  refine ⟨h.hd, h.hd, ?_, ?_⟩
  · rw [List.map_cons]; show frameCount ((c, p) :: _) ≤ _; rw [frameCount_cons]; have := h.dep; omega
  · rw [List.map_cons]; show unitsOf ((c, p) :: _) ≤ _; rw [unitsOf_cons]; have := h.un; omega
theorem Rm.mono {d u d' u' : Nat} {st : List Frame} (h : Rm d u st) (hd : d ≤ d') (hu : u ≤ u') : Rm d' u' st := ⟨h.hd, h.past, Nat.le_trans h.dep hd, Nat.le_trans h.un hu⟩
/-- what is around a code over such a stack -/
def ard (d u : Nat) (c : Code) : Around := ⟨none, d + c.weight, none, none, u + c.cUnits⟩
theorem Rm.in_ard {d u : Nat} {st : List Frame} (h : Rm d u st) (c : Code) : (Ctx.of c st).In (ard d u c) := by
  have h1 : (Ctx.of c st).handled = (ard d u c).handled := h.hd
  have h2 : frameCount (Ctx.of c st).below + (Ctx.of c st).code.weight ≤ (ard d u c).depth := Nat.add_le_add_right h.dep _
  have h3 : ∀ l, (ard d u c).frames = some l → (Ctx.of c st).code.envs ++ envsOf (Ctx.of c st).below = l := fun _ hl => nomatch hl
  have h4 : ∀ g, (ard d u c).guards = some g → (Ctx.of c st).code.guards ++ guardsOf (Ctx.of c st).below = g := fun _ hg => nomatch hg
  have h5 : (Ctx.of c st).units ≤ (ard d u c).units := by
    show c.cUnits + unitsOf _ ≤ u + c.cUnits
    have := h.un
    simp only [Ctx.of]; omega
  exact And.intro h1 (And.intro h2 (And.intro h3 (And.intro h4 h5)))

section
variable {w : World} {Φ : Outcome → Shared → Prop} {α β : Type} {c : Code} {st : List Frame} {s : Shared} {d u : Nat}
def GG (w : World) (Φ : Outcome → Shared → Prop) (c : Code) (st : List Frame) (t : Sem Fin) (s : Shared) : Prop := ∀ p, GoodP pw w Φ s ⟨t, c, p, st⟩

theorem GG.wrap (hr : Rm d u st) {m : Sem α} {K : α → Sem Fin} {H : Value → Sem Fin} {gd lv}
    (h : wpAny (model pw w) (ard d u c) m (fun a s' => GG w Φ c st (K a) s') (fun x s' => GG w Φ c st (H x) s') s) : GG w Φ c st (m.wrap K H gd lv) s :=
  fun p => good_wrap K H gd lv m (h _ p (hr.in_ard c)) (fun _ p' _ h' => h' p') fun _ p' _ h' => h' p'
theorem GG.bind (hr : Rm d u st) {m : Sem α} {K : α → Sem Fin}
    (h : wpAny (model pw w) (ard d u c) m (fun a s' => GG w Φ c st (K a) s') (fun x s' => GG w Φ c st (.raise x) s') s) : GG w Φ c st (m >>= K) s := by
  rw [Sem.bind_eq_wrap']; exact GG.wrap hr h
theorem GG.bindw (hr : Rm d u st) {m : Sem α} {K : α → Sem β} {K' : β → Sem Fin} {H' : Value → Sem Fin} {gd lv}
    (h : wpAny (model pw w) (ard d u c) m (fun a s' => GG w Φ c st ((K a).wrap K' H' gd lv) s') (fun x s' => GG w Φ c st (H' x) s') s) : GG w Φ c st ((m >>= K).wrap K' H' gd lv) s := by
  rw [Sem.bind_eq_wrap', Sem.wrap_wrap]; exact GG.wrap hr h
theorem GG.assoc {m : Sem α} {K : α → Sem β} {K' : β → Sem Fin} {H' : Value → Sem Fin} {gd lv} (h : GG w Φ c st (m.wrap (fun a => (K a).wrap K' H' gd lv) H' gd lv) s) : GG w Φ c st ((m >>= K).wrap K' H' gd lv) s := by
  rw [Sem.bind_eq_wrap', Sem.wrap_wrap]; exact h
theorem GG.assoc0 {m : Sem α} {K : α → Sem Fin} (h : GG w Φ c st (m.wrap K .raise id id) s) : GG w Φ c st (m >>= K) s := by
  rw [Sem.bind_eq_wrap']; exact h

theorem GG.call {c' : Code} {h : Option Value} {g : Bool} {l} {k : Result → Sem Fin} (hc : ∀ p, GG w Φ c' (.ret k h g l c p [] :: st) (denote table c') s) : GG w Φ c st (.call c' h g l k) s :=
  fun p => .step (step_call ..) (hc p p)
theorem GG.leaf {k h g l c₁ p₁ kp} (r : Result) (hk : GG w Φ c₁ st (k r) s) : GG w Φ c (.ret k h g l c₁ p₁ kp :: st) (leafOf r) s :=
  fun _ => .step (step_leaf_ret ..) (hk _)
theorem GG.done {k h g l c₁ p₁ kp} (f : Flow) (hk : GG w Φ c₁ st (k (.ok f)) s) : GG w Φ c (.ret k h g l c₁ p₁ kp :: st) (.pure (.done f)) s := GG.leaf (.ok f) hk
theorem GG.raise {k h g l c₁ p₁ kp} (x : Value) (hk : GG w Φ c₁ st (k (.error x)) s) : GG w Φ c (.ret k h g l c₁ p₁ kp :: st) (.raise x) s := GG.leaf (.error x) hk
theorem GG.again {c' : Code} (hq : c'.quiet = true) (hc : GG w Φ c' st (denote table c') s) : GG w Φ c st (.pure (.again c')) s :=
  fun _ => .step (step_again _ _ _ _ _ _ hq) (hc _)
theorem GG.doneGen {g k l c₁ p₁} (f : Flow) (hk : GG w Φ c₁ st (k (.returned (match f with | .ret v => v | _ => .none))) (s.setGen g .finished)) : GG w Φ c (.gen g k l c₁ p₁ :: st) (.pure (.done f)) s :=
  fun _ => .step (step_leaf_gen _ _ _ _ _ (.ok f) ..) (hk _)
theorem GG.fresh {g l c'} {k : GenResult → Sem Fin} (hg : s.gens[g]? = some (.fresh c')) (h : ∀ p, GG w Φ c' (.gen g k l c p :: st) (denote table c') (s.setGen g .running)) : GG w Φ c st (.resume g (.send .none) l k) s :=
  fun p => .step (step_resume_fresh _ _ _ _ _ _ _ hg) (h p p)
theorem GG.woken {g l k₁ l₁ c₁ p₁ fs cl r} {k : GenResult → Sem Fin} (hg : s.gens[g]? = some (.suspended k₁ l₁ c₁ p₁ fs cl)) (h : ∀ p, GG w Φ c₁ (fs ++ .gen g k l c p :: st) (k₁ r) (s.setGen g .running)) :
    GG w Φ c st (.resume g r l k) s :=
  fun p => .step (step_resume_suspended _ _ _ _ _ _ _ _ hg) (h p p₁)

/-- a yield that shows nothing -/
theorem GG.yield {fs g k l c₁ p₁ rest v gd l₀} {k₀ : Resume → Sem Fin} (hs : splitAtGen fs = none) (hf : fs.any Frame.guarded = false)
    (hg : gd = true → ∃ it more kw, c = .builtin "proto.yield_from" ⟨it :: more, kw⟩ ∧ genAt s it = true)
    (h : ∀ p, GG w Φ c₁ rest (k (.yielded v)) (s.setGen g (.suspended k₀ l₀ c p fs gd))) : GG w Φ c (fs ++ .gen g k l c₁ p₁ :: rest) (.yield v gd l₀ k₀) s := by
  intro p
  have hsp : splitAtGen (fs ++ .gen g k l c₁ p₁ :: rest) = some (fs, (g, k, c₁, p₁), rest) := by rw [splitAtGen_append_none _ hs, splitAtGen_gen]; simp
  have ht : tame s ⟨.yield v gd l₀ k₀, c, p, fs ++ .gen g k l c₁ p₁ :: rest⟩ = true := by
    unfold tame
    simp only [hsp, hf, Bool.not_false, Bool.true_and]
    cases gd with
    | false => rfl
    | true =>
      obtain ⟨it, more, kw, rfl, hga⟩ := hg rfl
      simpa using hga
  refine .go (s' := s.setGen g (.suspended k₀ l₀ c p fs gd)) (t' := ⟨k (.yielded v), c₁, p₁, rest⟩) ?_ (h p p₁)
  unfold stepJ calmJ
  rw [ht, Bool.or_true, if_pos rfl]
  simp only [PySem.stepK, PySem.step, hsp, hf, Bool.or_false]
  rfl
end

/-- a generator's contract -/
structure Gn where
  g : Nat
  d : Nat
  u : Nat
  fin : Shared → Shared → Prop
  yld : List Nat → Shared → Shared → Value → Prop
  evo : Shared → Shared → Prop

/-- from here the generator g tells ys, one at each waking, and ends -/
def SG (w : World) (Φ : Outcome → Shared → Prop) (P : Gn) : List (List Nat) → Code → List Frame → Sem Fin → Shared → Prop
  | [] => fun c fs t s => ∀ k l c' p' rest, Rm P.d P.u (.gen P.g k l c' p' :: rest) →
      (∀ s', P.fin s s' → GG w Φ c' rest (k (.returned .none)) (s'.setGen P.g .finished)) → GG w Φ c (fs ++ .gen P.g k l c' p' :: rest) t s
  | y :: ys => fun c fs t s => ∀ k l c' p' rest, Rm P.d P.u (.gen P.g k l c' p' :: rest) →
      (∀ s' v k₁ l₁ c₁ p₁ fs₁ cl, P.yld y s s' v → (∀ s'', P.evo s' s'' → SG w Φ P ys c₁ fs₁ (k₁ (.send .none)) s'') →
        GG w Φ c' rest (k (.yielded v)) (s'.setGen P.g (.suspended k₁ l₁ c₁ p₁ fs₁ cl))) → GG w Φ c (fs ++ .gen P.g k l c' p' :: rest) t s

def GoesG (w : World) (Φ : Outcome → Shared → Prop) (P : Gn) (ys : List (List Nat)) (gs : GenState) (s : Shared) : Prop := match gs with
  | .fresh c => SG w Φ P ys c [] (denote table c) s
  | .suspended k _ c _ fs _ => SG w Φ P ys c fs (k (.send .none)) s
  | _ => False

/-- what the drinker promises -/
def Prom (w : World) (Φ : Outcome → Shared → Prop) (P : Gn) (ys : List (List Nat)) (s : Shared) (c : Code) (st : List Frame) (k : GenResult → Sem Fin) : Prop := match ys with
  | [] => ∀ s', P.fin s s' → GG w Φ c st (k (.returned .none)) (s'.setGen P.g .finished)
  | y :: ys => ∀ s' v gs, P.yld y s s' v → (∀ s'', P.evo s' s'' → GoesG w Φ P ys gs s'') → gs.status = .suspended → GG w Φ c st (k (.yielded v)) (s'.setGen P.g gs)

section
variable {w : World} {Φ : Outcome → Shared → Prop} {P : Gn} {ys : List (List Nat)} {s : Shared} {c : Code} {st : List Frame}
theorem SG.use {c₁ fs t k l p} (h : SG w Φ P ys c₁ fs t s) (hr : Rm P.d P.u (.gen P.g k l c p :: st)) (hp : Prom w Φ P ys s c st k) : GG w Φ c₁ (fs ++ .gen P.g k l c p :: st) t s := by
  cases ys with
  | nil => exact h k l c p st hr hp
  | cons y ys => exact h k l c p st hr fun s' v k₁ l₁ c₁ p₁ fs₁ cl hy he => hp s' v (.suspended k₁ l₁ c₁ p₁ fs₁ cl) hy he rfl
theorem SG.mk {c₁ fs t} (h : ∀ k l c p st, Rm P.d P.u (.gen P.g k l c p :: st) → Prom w Φ P ys s c st k → GG w Φ c₁ (fs ++ .gen P.g k l c p :: st) t s) : SG w Φ P ys c₁ fs t s := by
  cases ys with
  | nil => exact fun k l c p st hr hp => h k l c p st hr hp
  | cons y ys =>
    refine fun k l c p st hr hp => h k l c p st hr fun s' v gs hy he hs => ?_
    cases gs with
    | suspended k₁ l₁ c₁ p₁ fs₁ cl => exact hp s' v k₁ l₁ c₁ p₁ fs₁ cl hy he
    | _ => cases hs
theorem GG.resume {gs : GenState} {k : GenResult → Sem Fin} {l} (hg : s.gens[P.g]? = some gs) (hgo : GoesG w Φ P ys gs (s.setGen P.g .running)) (hr : ∀ k l p, Rm P.d P.u (.gen P.g k l c p :: st))
    (hp : Prom w Φ P ys (s.setGen P.g .running) c st k) : GG w Φ c st (.resume P.g (.send .none) l k) s := by
  cases gs with
  | fresh c' => exact GG.fresh hg fun p => SG.use (fs := []) hgo (hr _ _ _) hp
  | suspended k₁ l₁ c₁ p₁ fs cl => exact GG.woken hg fun p => SG.use hgo (hr _ _ _) hp
  | _ => exact hgo.elim
end
end Mine
end

section
open PySem PySem.W PyProof.Rows
set_option Elab.async false
namespace Mine

/-- the call as the machine starts it -/
def callTree (name : Str) (vs : List Value) : Sem PySem.Fin := do
  match ← nsGet mainNs name with
  | some f => do ret (← PySem.call f vs)
  | none => unsupported "claim.caller:no-such-global"

/-- the walk of a law over the machine's own steps -/
abbrev WalkJ (q : Program) (loose : List Str) (XP : (Str → Option Value) → Heap → Prop) (YP : World → Heap → Prop) (r : RowW) (d : DefRec) (kwd : List (Str × Expr)) : Prop :=
  ∀ (w : World) (s₀ s₁ : Shared) (mg mb : Str → Option Value), Ground q loose r.records XP w s₀ mg mb s₁.heap → YP w s₁.heap → ∀ (a : Addr) (o : Obj) (pm cd doc dV kV : Value), s₁.heap.get? a = some o →
    o.data = .func { Calls.docDef d.name d.params d.body d.scope pm cd doc with defaults := dV, kwdefaults := kV } → s₁.heap.CodeRec cd d.name → Dflts mg s₁.heap d.params kwd dV kV → mg r.name = some (.ref a) → s₁.gens = #[] →
    ∀ (args : List WData) (vals : List Value) (as : List Addr), r.claim.pre args = true → WData.layableAll args = true → ReadsAllW r.records (classAt s₀.heap) s₁.heap vals args as → WellAll w.params s₁.heap vals args → (∀ a ∈ as, (a == sysModules) = false) →
      GoodP r.prog w (fun e s' => ∃ v, e = .done (.ret v) ∧ GoodWG r.claim (classAt s₀.heap) (ExcName.means s₀.heap) args s₁ (.ok (.ret v)) s') s₁ ⟨callTree r.name vals, .builtin "claim.caller" {}, default, []⟩

namespace PySem.W
theorem holds_open {r : OpenRow} {q : Program} {loose : List Str} {Xt : Shared → Bool} {XP : (Str → Option Value) → Heap → Prop} {α : Type} {Yf : Shared → α} {Ya : World → α} {YP : World → Heap → Prop} {d : DefRec} {kwd : List (Str × Expr)} {N : Nat}
    (left : LeftO r.prog q loose Xt Yf Ya N) (hY : ∀ w s, Yf s = Ya w → YP w s.heap) (hYk : ∀ w h h', YP w h → (∀ b o, h.get? b = some o → h'.get? b = some o) → YP w h')
    (hX : ∀ s, Xt s = true → XP (s.heap.nsMap mainGlobals) s.heap) (hXk : ∀ mg h h', XP mg h → (∀ b o, h.get? b = some o → h'.get? b = some o) → XP mg h')
    (hdef : defOf q r.name = some (d, kwd)) (hp : r.prog.theDef r.name = some (d.params, d.body, d.scope)) (hk : kwWritten? d.params.kwonlyargs d.params.kw_defaults = some kwd) (hRf : ∀ s, Xt s = true → RecFacts r.records s.heap) (hwr : (!r.writes || r.records.isEmpty) = true)
    (k1 : r.wellSaid = true) (ok : (chainsOk q && opensWell r.prog && (frees r.toRowW && r.within.isEmpty)) = true) (hb : r.prog.bare) (hw : r.toRowW.promised)
    (call : WalkJ q loose XP YP r.toRowW d kwd) : r.Holds := by
  obtain ⟨ok, hfr⟩ := Bool.and_eq_true_iff.mp ok
  obtain ⟨hch, hop⟩ := Bool.and_eq_true_iff.mp ok
  obtain ⟨hfree, hwi⟩ := Bool.and_eq_true_iff.mp hfr
  obtain ⟨hsame, hu, ha, hap, hm⟩ := frees_parts hfree
  refine ⟨k1, hw, ⟨⟨hb, hop, by show r.toRowW.makers.map _ = []; rw [hm]; rfl⟩, hw.witness, fun w => ⟨(left.behind hX hch w).1, fun s' hs' => ?_⟩⟩⟩
  obtain ⟨s₀, hf, hg0, s, hT, hz, hgens, hg, G9, y⟩ := (left.behind (XP := fun mg h => XP mg h ∧ RecFacts r.records h) (fun s hs => ⟨hX s hs, hRf s hs⟩) hch w).2 s' hs'
  have G0 : Ground q loose [] XP w s (s.heap.nsMap mainGlobals) (s.heap.nsMap builtinsNs) s.heap := ⟨G9.T, G9.B, G9.D, G9.TE, G9.TD, G9.W, G9.X.1, G9.cls, G9.has, G9.apart, G9.once, G9.K⟩
  have RF := G9.X.2
  refine ⟨s₀, hf, hg0, s, hT, fun n hn => ?_, RF.1, RF.2.1, ?_⟩
  · obtain rfl : n = r.name := by split at hn <;> simp_all
    exact pinned_of_view hg G0 hdef hp hk
  have hge : s.gens = #[] := Array.eq_empty_of_size_eq_zero (beq_iff_eq.mp hgens)
  have G : Ground q loose r.records XP w s _ _ s.heap := RF.ground G0
  intro args hpre hlay ord hord
  obtain ⟨⟨vs, s₁⟩, hlaid⟩ := Option.isSome_iff_exists.mp (layAllW_isSome (P := w.params) (ord := ord) G.has args r.args s (pre_splitW hpre).1)
  have keeps := layAllW_keeps _ _ _ hlaid
  have hal := layAllW_rest _ _ _ hlaid
  obtain ⟨as, hrd, hin, hold⟩ := reads_layAllW hord _ _ _ hlaid hlay s₁.heap (fun _ _ e => e)
  have L : Laid r.records w s s₁ args vs as := ⟨⟨ord, hord, hlaid⟩, hrd, hin, hold, keeps, hal.1.trans hge, hal.2.2.1⟩
  have G₁ := G.keeps hXk keeps
  obtain ⟨a, o, pm, cd, doc, dV, kV, h1, h2, h3, h4, h5⟩ := G₁.fn hdef
  have key := call w s s₁ _ _ G₁ (hYk _ _ _ (hY w s y) keeps) a o pm cd doc dV kV h2 h3 h4 h5 h1 L.gens args vs as hpre hlay L.reads L.well (L.low G.low)
  obtain ⟨n, e, s₂, s₃, hn, hfo, ⟨v, rfl, good⟩, hlife⟩ := good_sched (denote table) r.prog w (fun o s h => by obtain ⟨v, rfl, _⟩ := h; rfl) key s₁ _ rfl rfl (Shared.asleep_of_life hal.2.2.2 hz)
  have z := good.laid (c := r.toRowW.claim) hsame (List.isEmpty_iff.mp hwi) (ident_freeW hu ha hap) L
  obtain ⟨eh, _, _, eo, _⟩ := Shared.forget_eq hfo
  have hcase := z.1.congr eh
  have hos : s₂.os = s.os := eo.trans z.2.1
  refine ⟨vs, s₁, hlaid, n, _, s₂, hn, ?_, (fun _ i x hx => by rw [hge] at hx; simp at hx), fun q => ⟨?_, noTable hwr q⟩, by rw [hlife, hal.2.2.2], Shared.rest_eq hos⟩
  · rcases hcase with ⟨v', er, d1, d2, d3, d4, d5⟩ | ⟨e, ob, cls, er, d1, d2, d3, d4, d5⟩
    · injection er with er
      injection er with er
      subst er
      exact .inl ⟨_, rfl, d1, d2, d3, fun b o y _ => d4 b o y, d5⟩
    · exact nomatch er
  · rw [eh]
    exact namesKept_of hT hg _ keeps good.2.1.old
end PySem.W
end Mine
end

section
open PySem PySem.W PyProof.Rows
set_option Elab.async false
set_option maxRecDepth 100000
set_option maxHeartbeats 8000000
namespace Mine
open_top hd for PySem.Challenge.rw_ft0015_01
end Mine
end

section
open PySem PySem.W PyProof.Rows
set_option Elab.async false
namespace Mine
local macro_rules | `(tactic| walk_at "mem") => `(tactic| repeat (first | exact List.Mem.head _ | apply List.Mem.tail))

section
variable {prog : Program} {w : World} {A : Around} {E : Value → Shared → Prop} {B : Shared} {Pk : Addr → Obj → Prop} {G : Array GenState → Prop} {L L' : Ledger} {s : Shared} {env : Env}

/-- a statement  x.pop()  on a list, its last an int -/
theorem ex_pop {o : Expr} {apos pos p : Pos} {Q : Flow → Shared → Prop}
    (h : wpAny (model prog w) A (eval o env) (fun ov s₁ => ∃ D vs n t, ov = .ref D ∧ s₁.heap.PlainList D (vs ++ [.int n t]).toArray ∧ vs.length < 2 ^ 20 ∧
      ∀ s', s'.heap.PlainList D vs.toArray → Heap.SameBut D s₁.heap s'.heap → s'.drawn = s₁.drawn → s'.os = s₁.os → s'.gens = s₁.gens → Q .next s') E s)
    (hbase : attributeBase o "pop" env (eval o env) = eval o env := by rfl)
    (hline : (apos.endLine == pos.line) = true := by rfl)
    (hi : interactive env = false := by rfl) (hs : swapsWith (.Call (.Attribute o "pop" apos) [] [] pos) none p.line env = pure false := by rfl) :
    wpAny (model prog w) A (exec (.Expr (.Call (.Attribute o "pop" apos) [] [] pos) p) env) Q E s := by
  rw [exec_Expr env _ p hi hs]
  refine wpAny_bind (wpAny_standAt (wpAny_bind ?_))
  refine wpAny_Call_method0_late hbase hline (wpAny_mono h (fun ov s₁ h₁ => ?_) fun _ _ e => e)
  obtain ⟨D, vs, n, t, rfl, ⟨k, e⟩, hsz, hQ⟩ := h₁
  refine ⟨"list", _, F.plainAttrs_list, F.slot_list_pop, F.type_list_pop, ⟨_, e, rfl⟩, fun a ha => ⟨_, (by cases ha; exact e), rfl⟩, ?_⟩
  refine P.pop_list (n := k) (y := .int n t) e (by simp) ?_ (by rw [sizeLine_eq]; simp; omega)
  rw [dropValue_plain (fun a h => by cases h)]
  refine wpAny_pure (hQ _ ?_ (Heap.SameBut.update ..) rfl rfl rfl)
  have u := IsL.update (n := k) e (fun xs => xs.eraseIdxIfInBounds ((vs ++ [Value.int n t]).toArray.size - 1))
  have z : Heap.PlainList _ D ((vs ++ [Value.int n t]).toArray.eraseIdxIfInBounds ((vs ++ [Value.int n t]).toArray.size - 1)) := ⟨_, u⟩
  rw [show (vs ++ [Value.int n t]).toArray.eraseIdxIfInBounds ((vs ++ [Value.int n t]).toArray.size - 1) = vs.toArray from by simp [Array.eraseIdxIfInBounds]; rw [List.eraseIdx_append_of_length_le (by omega)]; simp] at z
  exact z

/-- the last of a list of naturals -/
theorem last_nats {l : Addr} {vs : List Value} {xs : List Nat} {x : Nat} {t : Tok} {Q : Value → Shared → Prop} (hl : s.heap.PlainList l vs.toArray) (hi : NA vs (xs ++ [x]))
    (h : ∀ u, Q (.int (x : Nat) u) s) : wpAny (model prog w) A (getItem (.ref l) (.int (-1) t)) Q E s := by
  have hlen := hi.length
  obtain ⟨u, hu⟩ := hi.get (i := xs.length) (by simp)
  have e : ((-1 : Int) + (vs.toArray.size : Nat)).toNat = xs.length := by simp at hlen ⊢; omega
  refine wpAny_getItem_list_neg hl.isList (by decide) (by simp at hlen ⊢; omega) (by decide) (x := .int x u) ?_ (h u)
  rw [e]
  simpa using hu

/-- x[i:] of a list -/
theorem S_slice {value lower : Expr} {p pos : Pos} {Q : Value → Shared → Prop}
    (h : wpAny (model prog w) A (eval value env) (fun o s₁ => wpAny (model prog w) A (eval lower env) (fun vl s₂ => ∃ (B : Shared) (Pk : Addr → Obj → Prop) (G : Array GenState → Prop) (L : Ledger) (l : Addr) (vs : List Value) (i : Nat) (t : Tok), o = .ref l ∧ vl = .int ((i : Nat) : Int) t ∧ St B Pk G L s₂ ∧ s₂.heap.PlainList l vs.toArray ∧ i ≤ vs.length ∧ vs.length ≤ 2 ^ 20 ∧
      ∀ D s₃, Keeps s₂ s₃ → s₂.heap.objs.size ≤ D → St B Pk G ((D, LstP (vs.drop i)) :: L) s₃ → Q (.ref D) s₃) E s₁) E s)
    (ht : ∀ o r, letTemporaryGo value o r = pure () := by intro _ _; rfl) :
    wpAny (model prog w) A (eval (.Subscript value (.Slice (some lower) none none p) pos) env) Q E s := by
  refine wpAny_Subscript_list_slice (wpAny_mono h (fun o s₁ h₁ => wpAny_evalPart_some (wpAny_mono h₁ (fun vl s₂ h₂ => wpAny_evalPart_none ?_) fun _ _ e => e)) fun _ _ e => e) ht
  obtain ⟨B, Pk, G, L, l, vs, i, t, rfl, rfl, S, hl, hi, hsz, hQ⟩ := h₂
  refine ⟨l, vs.toArray, some i, none, rfl, hl.isList, by rw [sizeLine_eq]; simp; omega, .int _ _, .none, ?_⟩
  rw [slicePick_from _ _ (by simpa using hi)]
  have K : Keeps s₂ { s₂ with heap := (s₂.heap.push { cls := .type "slice", data := .fields #[.int (i : Int) t, .none, .none] }).push { cls := .type "list", data := .seq ((vs.toArray.toList.drop i).toArray) } } :=
    ⟨_, s₂.toks, rfl, fun _ _ e => Heap.get?_push_of_some _ (Heap.get?_push_of_some _ e)⟩
  have e1 := Heap.get?_push_size (s₂.heap.push { cls := .type "slice", data := .fields #[.int (i : Int) t, .none, .none] }) (o := { cls := .type "list", data := .seq ((vs.toArray.toList.drop i).toArray) }) rfl
  rw [Heap.size_push] at e1
  exact hQ _ _ K (Nat.le_succ _) (S.new K (Nat.le_succ _) e1 ⟨0, by simp⟩)

theorem filt_take {α : Type} (p : Nat → Bool) (i : Nat) : ∀ (vs : List α) (j : Nat), (∀ k, k < j + vs.length → p k = decide (i ≤ k)) → (vs.zipIdx j).filterMap (fun x => if p x.2 = true then none else some x.1) = vs.take (i - j)
  | [], j, _ => by simp
  | v :: vs, j, h => by
    rw [List.zipIdx_cons, List.filterMap_cons]
    have hj := h j (by simp)
    have ih := filt_take p i vs (j + 1) fun k hk => h k (by simp; omega)
    rw [ih]
    simp only [hj]
    by_cases c : i ≤ j
    · have e1 : i - j = 0 := by omega
      have e2 : i - (j + 1) = 0 := by omega
      simp [c, e1, e2]
    · have e : i - j = (i - (j + 1)) + 1 := by omega
      simp [c, e]

/-- del x[i:] of a list -/
theorem delItem_slice {l sl : Addr} {vs : List Value} {i : Nat} {t : Tok} {Q : Unit → Shared → Prop} (hl : s.heap.PlainList l vs.toArray) (hs : s.heap.IsSliceOf sl (.int (i : Int) t) .none .none) (hi : i ≤ vs.length) (hsz : vs.length ≤ 2 ^ 20)
    (h : ∀ s', s'.heap.PlainList l (vs.take i).toArray → Heap.SameBut l s.heap s'.heap → s'.drawn = s.drawn → s'.os = s.os → s'.gens = s.gens → Q () s') : wpAny (model prog w) A (delItem (.ref l) (.ref sl)) Q E s := by
  obtain ⟨n, ho⟩ := id hl
  obtain ⟨os, hos, hcs, hds⟩ := id hs
  have hTs : s.TypeIs (.ref sl) "slice" := ⟨os, hos, hcs⟩
  refine wpAny_delItem_slot (T := "list") ⟨_, ho, rfl⟩ (by decide) F.slot_list_delitem ?_
  refine wpAny_call_entry F.slot_list_delitem ⟨_, ho, rfl⟩ F.entry_list_delitem ?_ (F.args_list_delitem_2 _ _)
  show wpAny _ _ (Builtin.List.listSubscript? (.ref sl) >>= _) _ _ s
  refine wpAny_bind ?_
  unfold Builtin.List.listSubscript?
  refine wpAny_bind (wpAny_specialOf hTs slice_no_index ?_)
  simp only [Option.isNone_none, if_true]
  refine wpAny_pure ?_
  show wpAny _ _ (typeOf (.ref sl) >>= _) _ _ s
  refine wpAny_bind (wpAny_typeOf hTs ?_)
  rw [if_neg (by decide)]
  rw [listSliceParts_eq]
  refine wpAny_bind (wpAny_bind (wpAny_field hos hds (x := .none) rfl (wpAny_bind (wpAny_listPart .none ?_))))
  rw [if_neg (by decide)]
  refine wpAny_bind (wpAny_field hos hds (x := .int (i : Int) t) rfl (wpAny_bind (wpAny_listPart (.int _ _) ?_)))
  refine wpAny_bind (wpAny_field hos hds (x := .none) rfl (wpAny_bind (wpAny_listPart .none (wpAny_pure ?_))))
  refine wpAny_bind (m := Builtin.List.listItems (.ref l)) ?_
  unfold Builtin.List.listItems
  refine wpAny_bind (wpAny_seqItems ho rfl (wpAny_pure ?_))
  refine wpAny_bind (wpAny_of_eq (sliceIndices_raw (some (i : Int)) none none vs.toArray.size (by simp)) ?_)
  have eb : sliceBounds (some (i : Int)) none none vs.toArray.size = ((i : Int), (vs.length : Int), 1) := by
    simp only [sliceBounds, Option.getD_none]
    have h1 : ¬ ((i : Int) < 0) := by omega
    simp only [h1, if_false, show (1 : Int) > 0 by decide, if_true, List.size_toArray]
    congr 1
    omega
  refine wpAny_bind (wpAny_rule ?_)
  refine wpAny_bind (wpAny_updateSeq ho rfl ?_ (by rw [sizeLine_eq]; simp; omega) ?_)
  · refine wpAny_bind (wpAny_letGo (wpAny_pure ⟨_, rfl, h _ ?_ (Heap.SameBut.update ..) rfl rfl rfl⟩))
    refine Eq.mp (congrArg (Heap.PlainList _ l) ?_) ⟨_, IsL.update (n := n) ho _⟩
    refine congrArg List.toArray ?_
    refine (filt_take _ i vs 0 fun k hk => ?_).trans (by simp)
    rw [eb]
    show (if (1 : Int) > 0 then (decide ((i : Int) ≤ (k : Int)) && decide ((k : Int) < (vs.length : Int)) && (((k : Int) - (i : Int)) % 1 == 0)) else _) = _
    rw [if_pos (by decide)]
    have : (k : Int) < (vs.length : Int) := by omega
    simp [this, Int.emod_one]
  · have : ∀ (f : Value × Nat → Option Value), ((vs.zipIdx).filterMap f).length ≤ vs.length := fun f => by
      refine Nat.le_trans (List.length_filterMap_le _ _) (by simp)
    rw [sizeLine_eq, List.size_toArray]
    refine Nat.le_trans (this _) (by omega)
end
end Mine
end

section
open PySem PySem.W PyProof.Rows
set_option Elab.async false
namespace Mine

/-- all that stood stands, but for the iterators wr -/
structure CB (h₀ : Heap) (wr : List Addr) (h : Heap) : Prop where
  keep : ∀ b o, b ∉ wr → h₀.get? b = some o → h.get? b = some o
theorem CB.refl (h : Heap) (wr : List Addr) : CB h wr h := ⟨fun _ _ _ e => e⟩
theorem CB.next {a b c : Heap} {wr : List Addr} (x : CB a wr b) (y : ∀ p o, p ∉ wr → a.get? p = some o → b.get? p = some o → c.get? p = some o) : CB a wr c := ⟨fun p o h e => y p o h e (x.keep p o h e)⟩
theorem CB.keeps {a b c : Heap} {wr : List Addr} (x : CB a wr b) (y : ∀ p o, b.get? p = some o → c.get? p = some o) : CB a wr c := x.next fun p o _ _ e => y p o e

theorem Paired.mono {α β : Type} {F G : α → β → Prop} {l : List α} {m : List β} (x : Paired F l m) (h : ∀ a b, F a b → G a b) : Paired G l m := by
  induction x with
  | nil => exact .nil
  | cons a _ ih => exact .cons (h _ _ a) ih

section
variable {prog : Program} {w : World} {A : Around} {R : Result → Shared → Prop} {s : Shared}

theorem compLoop_ok {elt iter : Expr} {x : Str} {px : Pos} {ifs : List Expr} {scope : Scope} {pos : Pos} {cenv : Env} {I D X : Addr} {fp wr : List Addr} {n : Nat} {P : Nat → Value → Prop} {T : Nat → Heap → Prop}
    (W : Walks prog w A I fp wr n P T) (hsz : n ≤ 2 ^ 20) {hold : Option Value → OP} (p : Nat → Bool) (F : Heap → Nat → Value → Prop)
    (hmono : ∀ h h' i y, F h i y → (∀ (b : Nat) o, @LT.lt Nat _ X b → h.get? b = some o → h'.get? b = some o) → F h' i y)
    (asg : ∀ v v₀ (s : Shared) (Q : Unit → Shared → Prop) (E : Value → Shared → Prop), (∃ o, s.heap.get? X = some o ∧ hold v₀ o) →
      (∀ h' tk, (∃ o, h'.get? X = some o ∧ hold (some v) o) → Heap.SameBut X s.heap h' → Q () { s with heap := h', toks := tk }) → wpAny (model prog w) A (assign (.Name x px) cenv v) Q E s)
    {h₀ : Heap} (hb0 : @LE.le Nat _ h₀.objs.size D) (hDX : @LT.lt Nat _ D X) (hfp : ∀ b ∈ fp, @LT.lt Nat _ b D)
    (tests : ∀ i v (s₃ : Shared) E', i < n → P i v → (∃ o, s₃.heap.get? X = some o ∧ hold (some v) o) → CB h₀ wr s₃.heap →
      wpAny (model prog w) A (forIn ifs true fun c r => if r = true then do let ok ← isTrue c cenv (eval c cenv); pure (ForInStep.yield ok) else pure (ForInStep.yield r)) (fun ok s₄ => ok = p i ∧ Keeps s₃ s₄) E' s₃)
    (helt : ∀ i v (s₃ : Shared) E', i < n → P i v → p i = true → (∃ o, s₃.heap.get? X = some o ∧ hold (some v) o) → CB h₀ wr s₃.heap →
      wpAny (model prog w) A (eval elt cenv) (fun y s₄ => Keeps s₃ s₄ ∧ F s₄.heap i y) E' s₃)
    (done : ∀ h' tk v out, CB h₀ wr h' → (∃ o, h'.get? X = some o ∧ hold v o) → h'.PlainList D out.toArray → Paired (F h') ((List.range n).filter p) out →
      (∀ (b : Addr) o, b ∉ wr → b ≠ D → b ≠ X → s.heap.get? b = some o → h'.get? b = some o) → R (.ok .next) { s with heap := h', toks := tk })
    {v₀ : Option Value} (hT : T 0 s.heap) (hX : ∃ o, s.heap.get? X = some o ∧ hold v₀ o) (hD : s.heap.PlainList D #[]) (hB : CB h₀ wr s.heap) :
    codeAny (model prog w) A (.compLoop (.ListComp elt [⟨.Name x px, iter, ifs, 0⟩] scope pos) 0 (.ref I) (.ref D) cenv) R s := by
  have hDf : D ∉ fp := fun h => Nat.lt_irrefl _ (hfp _ h)
  have hXf : X ∉ fp := fun h => Nat.lt_irrefl _ (Nat.lt_trans hDX (hfp _ h))
  have hDw : D ∉ wr := fun h => hDf (W.sub _ h)
  have hXw : X ∉ wr := fun h => hXf (W.sub _ h)
  have hDX' : D ≠ X := Nat.ne_of_lt hDX
  have up : ∀ b : Addr, @LT.lt Nat _ X b → b ∉ wr ∧ b ≠ X ∧ b ≠ D := fun b hb =>
    ⟨fun h => absurd (hfp b (W.sub b h)) (by omega), by show ¬ @Eq Nat b X; omega, by show ¬ @Eq Nat b D; omega⟩
  have low : ∀ b o, h₀.get? b = some o → b ≠ D ∧ b ≠ X := fun b o e => by
    have : @LT.lt Nat _ b h₀.objs.size := Heap.lt_size e
    exact ⟨by show ¬ @Eq Nat b D; omega, by show ¬ @Eq Nat b X; omega⟩
  refine codeAny_compLoop_tests
    (fun k s' => ∃ h' tk i v out, s' = { s with heap := h', toks := tk } ∧ T i h' ∧ i ≤ n ∧ k = n + 1 - i ∧ CB h₀ wr h' ∧ (∃ o, h'.get? X = some o ∧ hold v o) ∧ h'.PlainList D out.toArray ∧
      Paired (F h') ((List.range i).filter p) out ∧ (∀ (b : Addr) o, b ∉ wr → b ≠ D → b ≠ X → s.heap.get? b = some o → h'.get? b = some o)) ?_ (n + 1)
    ⟨s.heap, s.toks, 0, v₀, [], rfl, hT, Nat.zero_le _, rfl, hB, hX, hD, .nil, fun _ _ _ _ _ e => e⟩
  rintro k s' ⟨h, tk, i, v, out, rfl, hTi, hi, rfl, hB, hX, hD, hP, hK⟩
  by_cases hlt : i < n
  · refine W.item i _ _ _ hlt hTi fun v₁ h₁ tk₁ hPv hT₁ hk₁ => ?_
    have hk₁' : ∀ b o, b ∉ wr → h.get? b = some o → h₁.get? b = some o := hk₁
    have hX₁ : ∃ o, h₁.get? X = some o ∧ hold v o := let ⟨o, e, q⟩ := hX; ⟨o, hk₁' _ _ hXw e, q⟩
    refine asg v₁ v _ _ _ hX₁ fun h₂ tk₂ hX₂ hs₂ => ?_
    have hs₂' : Heap.SameBut X h₁ h₂ := hs₂
    have k₂ : ∀ b o, b ∉ wr → b ≠ X → h.get? b = some o → h₂.get? b = some o := fun b o h1 h2 e => hs₂'.extBut b o h2 (hk₁' b o h1 e)
    have hB₂ : CB h₀ wr h₂ := hB.next fun b o h1 e0 e => k₂ b o h1 (low b o e0).2 e
    have hT₂ : T (i + 1) h₂ := W.frame _ _ _ hT₁ fun b hb o e => hs₂'.extBut b o (fun q => hXf (q ▸ hb)) e
    refine wpAny_mono (tests i v₁ _ _ hlt hPv hX₂ hB₂) (fun ok s₃ h₃ => ?_) fun _ _ e => e
    obtain ⟨rfl, h₃, tk₃, rfl, hk₃⟩ := h₃
    have hk₃' : ∀ b o, h₂.get? b = some o → h₃.get? b = some o := hk₃
    have hX₃ : ∃ o, h₃.get? X = some o ∧ hold (some v₁) o := let ⟨o, e, q⟩ := hX₂; ⟨o, hk₃' _ _ e, q⟩
    have hB₃ : CB h₀ wr h₃ := hB₂.keeps hk₃'
    have hT₃ : T (i + 1) h₃ := W.frame _ _ _ hT₂ fun b _ o e => hk₃' b o e
    have k₃ : ∀ b o, b ∉ wr → b ≠ X → h.get? b = some o → h₃.get? b = some o := fun b o h1 h2 e => hk₃' b o (k₂ b o h1 h2 e)
    have hD₃ : h₃.PlainList D out.toArray := hD.at fun o e => k₃ _ o hDw hDX' e
    have hP₃ : Paired (F h₃) ((List.range i).filter p) out := hP.mono fun a b q => hmono _ _ _ _ q fun b' o hb e => k₃ b' o (up b' hb).1 (up b' hb).2.1 e
    have hK₃ : ∀ (b : Addr) o, b ∉ wr → b ≠ D → b ≠ X → s.heap.get? b = some o → h₃.get? b = some o := fun b o a1 a2 a3 e => k₃ b o a1 a3 (hK b o a1 a2 a3 e)
    cases hp : p i with
    | false =>
      rw [if_neg (by decide)]
      refine ⟨n + 1 - (i + 1), by omega, h₃, tk₃, i + 1, some v₁, out, rfl, hT₃, hlt, rfl, hB₃, hX₃, hD₃, ?_, hK₃⟩
      rw [List.range_succ, List.filter_append, List.filter_cons, hp]
      simpa using hP₃
    | true =>
      rw [if_pos rfl]
      refine wpAny_mono (helt i v₁ _ _ hlt hPv hp hX₃ hB₃) (fun y s₄ h₄ => ?_) fun _ _ e => e
      obtain ⟨⟨h₄, tk₄, rfl, hk₄⟩, hF⟩ := h₄
      have hk₄' : ∀ b o, h₃.get? b = some o → h₄.get? b = some o := hk₄
      have hlen : out.length ≤ i := by
        have e1 := hP.length
        have e2 : ((List.range i).filter p).length ≤ (List.range i).length := List.length_filter_le _ _
        simp at e2; omega
      refine wpAny_list_append_plain (hsz := by rw [sizeLine_eq]; simp; omega) (hD₃.at fun o e => hk₄' _ o e) fun h₅ hl₅ hs₅ => ?_
      have hs₅' : Heap.SameBut D h₄ h₅ := hs₅
      have k₅ : ∀ b o, b ≠ D → h₃.get? b = some o → h₅.get? b = some o := fun b o h1 e => hs₅'.extBut b o h1 (hk₄' b o e)
      refine ⟨n + 1 - (i + 1), by omega, h₅, tk₄, i + 1, some v₁, out ++ [y], rfl, W.frame _ _ _ hT₃ fun b hb o e => k₅ b o (fun q => hDf (q ▸ hb)) e, hlt, rfl,
        hB₃.next fun b o _ e0 e => k₅ b o (low b o e0).1 e, ?_, ?_, ?_, fun b o a1 a2 a3 e => k₅ b o a2 (hK₃ b o a1 a2 a3 e)⟩
      · obtain ⟨o, e, q⟩ := hX₃; exact ⟨o, k₅ _ _ (Ne.symm hDX') e, q⟩
      · simpa using hl₅
      · rw [List.range_succ, List.filter_append, List.filter_cons, hp]
        simp only [if_true, List.filter_nil]
        refine Paired.snoc (hP₃.mono fun a b q => hmono _ _ _ _ q fun b' o hb e => k₅ b' o (up b' hb).2.2 e) (hmono _ _ _ _ hF fun b' o hb e => hs₅'.extBut b' o (up b' hb).2.2 e)
  · have hin : i = n := by omega
    subst hin
    refine W.done _ _ _ hTi fun h₁ tk₁ hk₁ => ?_
    have hk₁' : ∀ b o, b ∉ wr → h.get? b = some o → h₁.get? b = some o := hk₁
    refine done h₁ tk₁ v out (hB.next fun b o h1 _ e => hk₁' b o h1 e) ?_ (hD.at fun o e => hk₁' _ o hDw e) (hP.mono fun a b q => hmono _ _ _ _ q fun b' o hb e => hk₁' b' o (up b' hb).1 e)
      fun b o a1 a2 a3 e => hk₁' b o a1 (hK b o a1 a2 a3 e)
    obtain ⟨o, e, q⟩ := hX; exact ⟨o, hk₁' _ _ hXw e, q⟩
end
end Mine
end

section
open PySem PySem.W PyProof.Rows
set_option Elab.async false
namespace Mine

section
variable {M : Model} {A : Around} {E : Value → Shared → Prop} {env : Env} {s : Shared}
theorem rdl {x : Str} {pos : Pos} {v : Value} {ks : List Str} {vs : List (Option Value)} {Q : Value → Shared → Prop} (hL : ∃ o, s.heap.get? env.locals = some o ∧ LocP ks vs o) (hv : LG ks vs x v) (h : Q v s)
    (hk : env.scope.kind = .function := by rfl) (hl : env.kindOf x = some .local := by rfl) (hd : (x == ("__debug__" : Str)) = false := by decide) :
    wpAny M A (eval (.Name x pos) env) Q E s := by
  obtain ⟨o, ho, m, hN, hm⟩ := hL
  exact wpAny_Name (wpAny_loadName_local hk hl (ns_iff.mpr ⟨o, ho, hN⟩) (hv.val hm) h) hd
theorem rdc {x : Str} {pos : Pos} {v : Value} {c : Addr} {Q : Value → Shared → Prop} (hc : env.cells.lookup x = some c) (hcell : ∃ o, s.heap.get? c = some o ∧ CellP (some v) o) (h : Q v s)
    (hk : env.scope.kind = .function := by rfl) (hl : env.kindOf x = some .cell := by rfl) (hd : (x == ("__debug__" : Str)) = false := by decide) :
    wpAny M A (eval (.Name x pos) env) Q E s :=
  wpAny_Name (wpAny_loadName_cell hk hl hc hcell h) hd

def cellO : Obj := { cls := .type "cell", data := .cell none }
theorem newEnv_comp {scope : Scope} {cl : List (Str × Addr)} {globals : Addr} {qual : Str} {Q : Env → Shared → Prop}
    (h : Q { scope := scope, locals := s.heap.objs.size, globals := globals, cells := cellsFrom (s.heap.objs.size + 1) scope.names cl, qual := qual, func := none, code := env.code, frame := env.frame, builtins := env.builtins }
      { s with heap := pushCells (s.heap.push { cls := .type "dict", data := .dict #[] }) scope.names }) :
    wpAny M A (newFunctionEnv scope globals cl [] qual none .none (some env)) Q E s := by
  simp only [newFunctionEnv, Option.isSome_some, if_true]
  refine wpAny_bind (wpAny_alloc ?_)
  refine wpAny_bind (wpAny_layCells _ (fun name kind cells => by cases hkc : kind == NameKind.cell <;> simp [hkc]) _ _ _ _ ?_)
  rw [show ({ s with heap := s.heap.push { cls := .type "dict", data := .dict #[] } } : Shared).heap.objs.size = s.heap.objs.size + 1 from Heap.size_push ..]
  refine wpAny_bind ?_
  rw [List.forIn_nil]
  exact wpAny_pure (wpAny_pure h)
end

/-- the environment of a comprehension whose frame stands at C -/
abbrev cEnv (scope : Scope) (cl : List (Str × Addr)) (C : Addr) (env : Env) : Env := compEnvC scope (cellsFrom (C + 1) scope.names cl) C env

section
variable {prog : Program} {w : World} {A : Around} {E : Value → Shared → Prop} {env : Env} {s : Shared}

/-- the comprehension over one clause, its name in the frame (k = 1) or in a cell (k = 2) -/
theorem comp_core {elt iter : Expr} {x : Str} {px : Pos} {ifs : List Expr} {scope : Scope} {pos : Pos} {cl : List (Str × Addr)} {use : Option (Value → Sem Unit)} {Q : Value → Shared → Prop} (k : Nat) {hold : Option Value → OP}
    (hk1 : 1 ≤ k) (hcl : closureFor scope env = pure cl) (hkind : scope.kind = .function) (hnames : (scope.names.all fun x => decide (x.2 = .local → scope.names.lookup x.1 = some .local)) = true)
    (ent : ∀ h : Heap, ∃ o m, (pushCells (h.push { cls := .type "dict", data := .dict #[] }) scope.names).get? (h.objs.size + (k - 1)) = some o ∧ hold none o ∧ (pushCells (h.push { cls := .type "dict", data := .dict #[] }) scope.names).Ns h.objs.size m)
    (asg : ∀ C v v₀ (s : Shared) (Q : Unit → Shared → Prop) (E : Value → Shared → Prop), (∃ o, s.heap.get? (C + (k - 1)) = some o ∧ hold v₀ o) →
      (∀ h' tk, (∃ o, h'.get? (C + (k - 1)) = some o ∧ hold (some v) o) → Heap.SameBut (C + (k - 1)) s.heap h' → Q () { s with heap := h', toks := tk }) → wpAny (model prog w) A (assign (.Name x px) (cEnv scope cl C env) v) Q E s)
    (nsO : k = 1 → ∀ v o, hold v o → ∃ m, NsO m o)
    (h : wpAny (model prog w) A (eval iter env) (fun xv s₁ => wpAny (model prog w) A (pyIter xv) (fun it s₂ => ∃ (I : Addr) (fp wr : List Addr) (n : Nat) (P : Nat → Value → Prop) (T : Nat → Heap → Prop) (p : Nat → Bool) (F : Heap → Nat → Value → Prop),
      it = .ref I ∧ Walks prog w A I fp wr n P T ∧ n ≤ 2 ^ 20 ∧ T 0 s₂.heap ∧ (∀ b ∈ fp, @LT.lt Nat _ b s₂.heap.objs.size) ∧
      (∀ h h' i y, F h i y → (∀ (b : Nat) o, s₂.heap.objs.size + k < b → h.get? b = some o → h'.get? b = some o) → F h' i y) ∧
      (∀ i v (s₃ : Shared) E', i < n → P i v → (∃ o, s₃.heap.get? (s₂.heap.objs.size + k) = some o ∧ hold (some v) o) → CB s₂.heap wr s₃.heap →
        wpAny (model prog w) A (forIn ifs true fun c r => if r = true then do let ok ← isTrue c (cEnv scope cl (s₂.heap.objs.size + 1) env) (eval c (cEnv scope cl (s₂.heap.objs.size + 1) env)); pure (ForInStep.yield ok) else pure (ForInStep.yield r)) (fun ok s₄ => ok = p i ∧ Keeps s₃ s₄) E' s₃) ∧
      (∀ i v (s₃ : Shared) E', i < n → P i v → p i = true → (∃ o, s₃.heap.get? (s₂.heap.objs.size + k) = some o ∧ hold (some v) o) → CB s₂.heap wr s₃.heap →
        wpAny (model prog w) A (eval elt (cEnv scope cl (s₂.heap.objs.size + 1) env)) (fun y s₄ => Keeps s₃ s₄ ∧ F s₄.heap i y) E' s₃) ∧
      (∀ h' tk out, CB s₂.heap wr h' → h'.PlainList s₂.heap.objs.size out.toArray → Paired (F h') ((List.range n).filter p) out →
        match use with
        | none => Q (.ref s₂.heap.objs.size) { s₂ with heap := h', toks := tk }
        | some u => wpAny (model prog w) A (u (.ref s₂.heap.objs.size)) (fun _ s'' => (∀ (b : Nat) o, s₂.heap.objs.size ≤ b → h'.get? b = some o → s''.heap.get? b = some o) ∧ ∀ h'' : Heap, (∀ (b : Nat) o, b < s₂.heap.objs.size → s''.heap.get? b = some o → h''.get? b = some o) → (∀ (b : Nat) o, b ≠ s₂.heap.objs.size + 1 → s''.heap.get? b = some o → h''.get? b = some o) → Q .none { s'' with heap := h'' }) E { s₂ with heap := h', toks := tk })) E s₁) E s)
    (hs : ∀ x, foldedSetIterable iter env x = pure x := by intro _; rfl) :
    wpAny (model prog w) A (comprehension (.ListComp elt [⟨.Name x px, iter, ifs, 0⟩] scope pos) scope env (firstIterPos [⟨.Name x px, iter, ifs, 0⟩] pos) (newList []) false (eval iter env) use) Q E s := by
  refine wpAny_comprehension_free rfl hs hcl hkind (fun x hx hl => of_decide_eq_true (List.all_eq_true.mp hnames x hx) hl) (wpAny_mono h (fun xv s₁ h₁ => wpAny_mono h₁ (fun it s₂ h₂ => ?_) fun _ _ e => e) fun _ _ e => e)
  obtain ⟨I, fp, wr, n, P, T, p, F, rfl, W, hsz, hT, hfp, hmono, htests, helt, hdone⟩ := h₂
  refine wpAny_newList ?_ (by simp)
  refine newEnv_comp ?_
  generalize hH : s₂.heap.push { cls := .type "list", data := .seq ([] : List Value).toArray } = H
  have hHz : H.objs.size = s₂.heap.objs.size + 1 := by rw [← hH, Heap.size_push]
  show codeAny _ _ (.compStart _ 0 (.ref I) (.ref s₂.heap.objs.size) (cEnv scope cl H.objs.size env)) (compPost _ _ _ _ _ _ H.objs.size) { s₂ with heap := pushCells (H.push { cls := .type "dict", data := .dict #[] }) scope.names }
  obtain ⟨oX, m₀, hoX, hholdX, hns⟩ := ent H
  rw [hHz] at hoX hns ⊢
  generalize hH3 : pushCells (H.push { cls := .type "dict", data := .dict #[] }) scope.names = h₃ at *
  have kp : ∀ b o, H.get? b = some o → h₃.get? b = some o := fun b o e => by
    rw [← hH3]; exact pushCells_keeps _ _ b o (Heap.get?_push_of_some _ e)
  have kp0 : ∀ b o, s₂.heap.get? b = some o → h₃.get? b = some o := fun b o e => kp b o (hH ▸ Heap.get?_push_of_some _ e)
  have hX1 : s₂.heap.objs.size + 1 + (k - 1) = s₂.heap.objs.size + k := by omega
  rw [hX1] at hoX
  have hacc : h₃.PlainList s₂.heap.objs.size #[] := ⟨0, kp _ _ (hH ▸ Heap.get?_push_size _ rfl)⟩
  have hT₃ : T 0 h₃ := W.frame _ _ _ hT fun b _ o e => kp0 b o e
  have loop : codeAny (model prog w) A (.compLoop (.ListComp elt [⟨.Name x px, iter, ifs, 0⟩] scope pos) 0 (.ref I) (.ref s₂.heap.objs.size) (cEnv scope cl (s₂.heap.objs.size + 1) env))
      (compPost (model prog w) A E use Q (.ref s₂.heap.objs.size) (s₂.heap.objs.size + 1)) { s₂ with heap := h₃ } := by
    refine compLoop_ok (X := s₂.heap.objs.size + k) (h₀ := s₂.heap) W hsz p F hmono (fun v v₀ s Q E hX hQ => asg (s₂.heap.objs.size + 1) v v₀ s Q E (by rw [hX1]; exact hX) (by rw [hX1]; exact hQ))
      (Nat.le_refl _) (by show @LT.lt Nat _ _ _; omega) hfp htests helt (fun h' tk v out hB hX hD hP hK => ?_) hT₃ ⟨oX, hoX, hholdX⟩ hacc ⟨fun b o _ e => kp0 b o e⟩
    have hC' : ∃ m, h'.Ns (s₂.heap.objs.size + 1) m := by
      by_cases hk : k = 1
      · subst hk
        obtain ⟨o, e, q⟩ := hX
        obtain ⟨m, hm⟩ := nsO rfl _ _ q
        exact ⟨m, ns_iff.mpr ⟨o, e, hm⟩⟩
      · obtain ⟨o, es, ep, e, r⟩ := hns
        refine ⟨m₀, o, es, ep, hK _ o (fun hw => ?_) ?_ ?_ e, r⟩
        · exact absurd (hfp _ (W.sub _ hw)) (by show ¬ @LT.lt Nat _ (s₂.heap.objs.size + 1) _; omega)
        · show ¬ @Eq Nat _ _; omega
        · show ¬ @Eq Nat _ _; omega
    have hd := hdone h' tk out hB hD hP
    cases use with
    | none =>
      obtain ⟨m, hm⟩ := hC'
      refine ⟨m, hm, fun h'' hs'' => ?_⟩
      have hs₅ : Heap.SameBut (s₂.heap.objs.size + 1) h' h'' := hs''
      have low : ∀ b : Addr, @LT.lt Nat _ b (s₂.heap.objs.size + 1) ∨ @LT.lt Nat _ (s₂.heap.objs.size + 1) b → b ≠ s₂.heap.objs.size + 1 := fun b hb => by show ¬ @Eq Nat _ _; omega
      exact hdone h'' tk out (hB.next fun b o _ e0 e => hs₅.extBut b o (low b (.inl (Nat.lt_succ_of_lt (Heap.lt_size e0)))) e) (hD.at fun o e => hs₅.extBut _ o (low _ (.inl (Nat.lt_succ_self _))) e)
        (hP.mono fun a b q => hmono _ _ _ _ q fun b' o hb e => hs₅.extBut b' o (low b' (.inr (by omega))) e)
    | some u =>
      refine wpAny_mono hd (fun _ s'' hq => ?_) fun _ _ e => e
      obtain ⟨m, hm⟩ := hC'
      have hm' : s''.heap.Ns (s₂.heap.objs.size + 1) m := hm.at' fun o e => hq.1 _ o (Nat.le_succ _) e
      exact ⟨m, hm', fun h'' hs'' => hq.2 h'' (fun b o hb e => hs''.extBut b o (by show ¬ @Eq Nat _ _; omega) e) fun b o hb e => hs''.extBut b o hb e⟩
  exact codeAny_compStart_list loop (W.self 0 _ _ _ hT₃ loop)
end
end Mine
end

section
open PySem PySem.W PyProof.Rows
set_option Elab.async false
namespace Mine

/-- from s₀ on to s₂ an iterator was made; it alone is written on its way -/
def IterW (prog : Program) (w : World) (A : Around) (s₀ s₂ : Shared) (it : Value) (n : Nat) (P : Nat → Value → Prop) : Prop :=
  ∃ (I : Addr) (fp wr : List Addr) (T : Nat → Heap → Prop), it = .ref I ∧ Walks prog w A I fp wr n P T ∧ T 0 s₂.heap ∧ (∀ b ∈ fp, @LT.lt Nat _ b s₂.heap.objs.size) ∧ (∀ b ∈ wr, s₀.heap.get? b = none) ∧ Keeps s₀ s₂

theorem ktrans {a b c : Shared} (x : Keeps a b) (y : Keeps b c) : Keeps a c := by
  obtain ⟨h, t, rfl, k⟩ := x
  obtain ⟨h', t', rfl, k'⟩ := y
  exact ⟨h', t', rfl, fun p o e => k' p o (k p o e)⟩
theorem krefl (s : Shared) : Keeps s s := ⟨s.heap, s.toks, rfl, fun _ _ e => e⟩
theorem kget {s s' : Shared} (x : Keeps s s') : ∀ b o, s.heap.get? b = some o → s'.heap.get? b = some o := by obtain ⟨_, _, rfl, k⟩ := x; exact k

section
variable {prog : Program} {w : World} {A : Around} {E : Value → Shared → Prop} {env : Env} {s : Shared}

theorem iter_list {s₀ s₁ : Shared} {l : Addr} {vals : List Value} {Q : Value → Shared → Prop} (hh : A.handled = none) (K : Keeps s₀ s₁) (hl : s₁.heap.IsList l vals.toArray)
    (h : ∀ it s₂, Keeps s₁ s₂ → s₁.heap.objs.size < s₂.heap.objs.size → IterW prog w A s₀ s₂ it vals.length (fun i v => vals[i]? = some v) → Q it s₂) : wpAny (model prog w) A (pyIter (.ref l)) Q E s₁ := by
  have hz : ∀ b o, s₀.heap.get? b = some o → @LT.lt Nat _ b s₁.heap.objs.size := fun b o e => Heap.lt_size (kget K b o e)
  refine wpAny_pyIter_list hl (h _ _ ⟨_, s₁.toks, rfl, fun _ _ e => Heap.get?_push_of_some _ e⟩ (by rw [Heap.size_push]; omega) ⟨s₁.heap.objs.size, [s₁.heap.objs.size, l], [s₁.heap.objs.size], fun i h => h.IsListIter s₁.heap.objs.size l i ∧ h.IsList l vals.toArray, rfl, ?_, ?_, ?_, ?_, ?_⟩)
  · have hne : l ≠ s₁.heap.objs.size := by
      obtain ⟨o, ho, _⟩ := hl
      exact Nat.ne_of_lt (Heap.lt_size ho)
    have W := Walks.list (prog := prog) (w := w) hh s₁.heap.objs.size l hne vals.toArray
    simpa using W
  · exact ⟨⟨_, Heap.get?_push_size _ rfl, rfl, rfl⟩, IsList.keeps hl fun _ _ e => Heap.get?_push_of_some _ e⟩
  · intro b hb
    rw [Heap.size_push]
    rcases List.mem_cons.mp hb with rfl | hb
    · exact Nat.lt_succ_self _
    · rw [List.mem_singleton] at hb; subst hb
      obtain ⟨o, ho, _⟩ := hl
      exact Nat.lt_succ_of_lt (Heap.lt_size ho)
  · intro b hb
    rw [List.mem_singleton] at hb; subst hb
    cases e : s₀.heap.get? s₁.heap.objs.size with
    | none => rfl
    | some o => exact absurd (hz _ _ e) (Nat.lt_irrefl _)
  · exact ktrans K ⟨_, s₁.toks, rfl, fun _ _ e => Heap.get?_push_of_some _ e⟩

/-- range(n), its iterator -/
theorem iter_range {s₀ s₁ : Shared} {n : Nat} {t : Tok} {Q : Value → Shared → Prop} (hh : A.handled = none) (K : Keeps s₀ s₁) (hn : n ≤ 2 ^ 20)
    (h : ∀ it s₂, Keeps s₁ s₂ → s₁.heap.objs.size < s₂.heap.objs.size → IterW prog w A s₀ s₂ it n (fun i v => ∃ t, v = .int (i : Nat) t) → Q it s₂) :
    wpAny (model prog w) A (call (.type "range") [.int (n : Int) t]) (fun xv s₂ => wpAny (model prog w) A (pyIter xv) Q E s₂) E s₁ := by
  have hz : ∀ b o, s₀.heap.get? b = some o → @LT.lt Nat _ b s₁.heap.objs.size := fun b o e => Heap.lt_size (kget K b o e)
  have hsz : Builtin.Range.rangeSize 0 (n : Int) 1 = (n : Int) := by rw [rangeSize_one]; split <;> omega
  refine call_range_1 ?_
  refine wpAny_pyIter_range (IsRange.new ..) (small_one (by decide) (by decide) (by omega) (by omega)) (h _ _ ⟨_, _, rfl, fun _ _ e => Heap.get?_push_of_some _ (Heap.get?_push_of_some _ e)⟩ ?_
    ⟨s₁.heap.objs.size + 1, [s₁.heap.objs.size + 1], [s₁.heap.objs.size + 1], fun i h => IsRangeIter h (s₁.heap.objs.size + 1) (0 + (i : Nat) * 1) ((n : Int) - (i : Nat)) 1, by rw [Heap.size_push], ?_, ?_, ?_, ?_, ?_⟩)
  · show _ < ((s₁.heap.push _).push _).objs.size
    rw [Heap.size_push, Heap.size_push]; omega
  · exact (Walks.range (prog := prog) (w := w) hh (s₁.heap.objs.size + 1) 0 1 n).weaken fun i v ⟨t, e⟩ => ⟨t, by simpa using e⟩
  · have := Heap.get?_push_size (s₁.heap.push { cls := .type "range", data := .fields #[.int 0 s₁.toks, .int n t, .int 1 (s₁.toks + 1)] }) (o := { cls := .type "range_iterator", data := .fields #[rawInt 0, rawInt (Builtin.Range.rangeSize 0 (n : Int) 1), rawInt 1] }) rfl
    rw [hsz, Heap.size_push] at this
    rw [hsz]
    simpa using this
  · intro b hb
    rw [List.mem_singleton] at hb; subst hb
    show _ < ((s₁.heap.push _).push _).objs.size
    rw [Heap.size_push, Heap.size_push]; exact Nat.lt_succ_self _
  · intro b hb
    rw [List.mem_singleton] at hb; subst hb
    cases e : s₀.heap.get? (s₁.heap.objs.size + 1) with
    | none => rfl
    | some o => exact absurd (hz _ _ e) (by show ¬ @LT.lt Nat _ (s₁.heap.objs.size + 1) _; omega)
  · exact ktrans K ⟨_, _, rfl, fun _ _ e => Heap.get?_push_of_some _ (Heap.get?_push_of_some _ e)⟩

/-- the turns of a comprehension with its frame at C -/
structure Turns (prog : Program) (w : World) (A : Around) (cenv : Env) (X : Nat) (hold : Option Value → OP) (ifs : List Expr) (elt : Expr) (s₀ : Shared) (n : Nat) (P : Nat → Value → Prop) (p : Nat → Bool) (F : Heap → Nat → Value → Prop) : Prop where
  mono : ∀ h h' i y, F h i y → (∀ (b : Nat) o, X < b → h.get? b = some o → h'.get? b = some o) → F h' i y
  tests : ∀ i v (s₃ : Shared) E', i < n → P i v → (∃ o, s₃.heap.get? X = some o ∧ hold (some v) o) → (∀ b o, s₀.heap.get? b = some o → s₃.heap.get? b = some o) →
    wpAny (model prog w) A (forIn ifs true fun c r => if r = true then do let ok ← isTrue c cenv (eval c cenv); pure (ForInStep.yield ok) else pure (ForInStep.yield r)) (fun ok s₄ => ok = p i ∧ Keeps s₃ s₄) E' s₃
  elt : ∀ i v (s₃ : Shared) E', i < n → P i v → p i = true → (∃ o, s₃.heap.get? X = some o ∧ hold (some v) o) → (∀ b o, s₀.heap.get? b = some o → s₃.heap.get? b = some o) →
    wpAny (model prog w) A (eval elt cenv) (fun y s₄ => Keeps s₃ s₄ ∧ F s₄.heap i y) E' s₃

section
variable {elt iter : Expr} {x : Str} {px : Pos} {ifs : List Expr} {scope : Scope} {pos : Pos} {cl : List (Str × Addr)}

theorem lc_loc {Q : Value → Shared → Prop} (hcl : closureFor scope env = pure cl)
    (h : wpAny (model prog w) A (eval iter env) (fun xv s₁ => wpAny (model prog w) A (pyIter xv) (fun it s₂ => ∃ (s₀ : Shared) (n : Nat) (P : Nat → Value → Prop) (p : Nat → Bool) (F : Heap → Nat → Value → Prop),
      IterW prog w A s₀ s₂ it n P ∧ n ≤ 2 ^ 20 ∧ s₀.heap.objs.size ≤ s₂.heap.objs.size ∧ Turns prog w A (cEnv scope cl (s₂.heap.objs.size + 1) env) (s₂.heap.objs.size + 1) (fun v => LocP [x] [v]) ifs elt s₀ n P p F ∧
      ∀ D s' out, Keeps s₀ s' → s₀.heap.objs.size ≤ D → s'.heap.PlainList D out.toArray → Paired (F s'.heap) ((List.range n).filter p) out → Q (.ref D) s') E s₁) E s)
    (hs : ∀ x, foldedSetIterable iter env x = pure x := by intro _; rfl) (hkind : scope.kind = .function := by rfl)
    (hnames : (scope.names.all fun x => decide (x.2 = .local → scope.names.lookup x.1 = some .local)) = true := by rfl) (hpc : ∀ h, pushCells h scope.names = h := by intro _; rfl)
    (hx : ∀ C, (cEnv scope cl C env).kindOf x = some .local := by intro _; rfl) :
    wpAny (model prog w) A (eval (.ListComp elt [⟨.Name x px, iter, ifs, 0⟩] scope pos) env) Q E s := by
  rw [eval_ListComp]
  refine comp_core (hold := fun v => LocP [x] [v]) 1 (Nat.le_refl 1) hcl hkind hnames (fun h => ?_) (fun C v v₀ s Q E hX hQ => ?_) (fun _ v o q => ?_) (wpAny_mono h (fun xv s₁ h₁ => wpAny_mono h₁ (fun it s₂ h₂ => ?_) fun _ _ e => e) fun _ _ e => e) hs
  · rw [hpc]
    have hn := Heap.Ns.new h (.type "dict")
    obtain ⟨o, ho, hN⟩ := ns_iff.mp hn
    exact ⟨o, _, ho, ⟨_, hN, rfl⟩, hn⟩
  · obtain ⟨o, ho, m, hN, hm⟩ := hX
    refine wpAny_assign_Name (wpAny_storeName_local (hx C) (ns_iff.mpr ⟨o, ho, hN⟩) (fun h' hn' hs' => hQ h' _ ?_ hs') (by simp [compEnvC, relabel, hkind]))
    obtain ⟨o', ho', hN'⟩ := ns_iff.mp hn'
    exact ⟨o', ho', _, hN', by simp⟩
  · obtain ⟨m, hN, _⟩ := q
    exact ⟨m, hN⟩
  · obtain ⟨s₀, n, P, p, F, ⟨I, fp, wr, T, rfl, W, hT, hfp, hwr, K⟩, hn, hsz, TT, hQ⟩ := h₂
    have low : ∀ {h : Heap}, CB s₂.heap wr h → ∀ b o, s₀.heap.get? b = some o → h.get? b = some o := fun B b o e => B.keep b o (fun hb => by rw [hwr b hb] at e; cases e) (kget K b o e)
    refine ⟨I, fp, wr, n, P, T, p, F, rfl, W, hn, hT, hfp, TT.mono, fun i v s₃ E' h1 h2 h3 h4 => TT.tests i v s₃ E' h1 h2 h3 (low h4), fun i v s₃ E' h1 h2 h3 h4 h5 => TT.elt i v s₃ E' h1 h2 h3 h4 (low h5), fun h' tk out hB hD hP => ?_⟩
    refine hQ _ _ out ?_ hsz hD hP
    obtain ⟨h₂, t₂, rfl, k⟩ := K
    exact ⟨h', tk, rfl, low hB⟩

theorem lc_cell {Q : Value → Shared → Prop} (hcl : closureFor scope env = pure cl)
    (h : wpAny (model prog w) A (eval iter env) (fun xv s₁ => wpAny (model prog w) A (pyIter xv) (fun it s₂ => ∃ (s₀ : Shared) (n : Nat) (P : Nat → Value → Prop) (p : Nat → Bool) (F : Heap → Nat → Value → Prop),
      IterW prog w A s₀ s₂ it n P ∧ n ≤ 2 ^ 20 ∧ s₀.heap.objs.size ≤ s₂.heap.objs.size ∧ Turns prog w A (cEnv scope cl (s₂.heap.objs.size + 1) env) (s₂.heap.objs.size + 2) CellP ifs elt s₀ n P p F ∧
      ∀ D s' out, Keeps s₀ s' → s₀.heap.objs.size ≤ D → s'.heap.PlainList D out.toArray → Paired (F s'.heap) ((List.range n).filter p) out → Q (.ref D) s') E s₁) E s)
    (hs : ∀ x, foldedSetIterable iter env x = pure x := by intro _; rfl) (hkind : scope.kind = .function := by rfl)
    (hnames : (scope.names.all fun x => decide (x.2 = .local → scope.names.lookup x.1 = some .local)) = true := by rfl) (hpc : ∀ h, pushCells h scope.names = h.push cellO := by intro _; rfl)
    (hx : ∀ C, (cEnv scope cl C env).kindOf x = some .cell := by intro _; rfl) (hxc : ∀ C : Nat, (cEnv scope cl C env).cells.lookup x = some (C + 1) := by intro _; rfl) :
    wpAny (model prog w) A (eval (.ListComp elt [⟨.Name x px, iter, ifs, 0⟩] scope pos) env) Q E s := by
  rw [eval_ListComp]
  refine comp_core (hold := CellP) 2 (by decide) hcl hkind hnames (fun h => ?_) (fun C v v₀ s Q E hX hQ => ?_) (fun q => absurd q (by decide)) (wpAny_mono h (fun xv s₁ h₁ => wpAny_mono h₁ (fun it s₂ h₂ => ?_) fun _ _ e => e) fun _ _ e => e) hs
  · rw [hpc]
    have hn := Heap.Ns.new h (.type "dict")
    have hc := Heap.get?_push_size (h.push { cls := .type "dict", data := .dict #[] }) (o := cellO) rfl
    rw [Heap.size_push] at hc
    exact ⟨_, _, hc, rfl, hn.keeps fun _ _ e => Heap.get?_push_of_some _ e⟩
  · refine wpAny_assign_Name (wpAny_storeName_cell hkind (hx C) (hxc C) hX fun h' hc' hs' => hQ h' _ hc' hs')
  · obtain ⟨s₀, n, P, p, F, ⟨I, fp, wr, T, rfl, W, hT, hfp, hwr, K⟩, hn, hsz, TT, hQ⟩ := h₂
    have low : ∀ {h : Heap}, CB s₂.heap wr h → ∀ b o, s₀.heap.get? b = some o → h.get? b = some o := fun B b o e => B.keep b o (fun hb => by rw [hwr b hb] at e; cases e) (kget K b o e)
    refine ⟨I, fp, wr, n, P, T, p, F, rfl, W, hn, hT, hfp, TT.mono, fun i v s₃ E' h1 h2 h3 h4 => TT.tests i v s₃ E' h1 h2 h3 (low h4), fun i v s₃ E' h1 h2 h3 h4 h5 => TT.elt i v s₃ E' h1 h2 h3 h4 (low h5), fun h' tk out hB hD hP => ?_⟩
    refine hQ _ _ out ?_ hsz hD hP
    obtain ⟨h₂, t₂, rfl, k⟩ := K
    exact ⟨h', tk, rfl, low hB⟩
end
end
end Mine
end

section
open PySem PySem.W PyProof.Rows
set_option Elab.async false
namespace Mine

theorem St.off {B : Shared} {Pk : Addr → Obj → Prop} {G : Array GenState → Prop} {L : Ledger} {s : Shared} (S : St B Pk G L s) {C : Addr} {h : Heap} (hC : B.heap.get? C = none) (hL : ∀ p ∈ L, p.1 ≠ C)
    (hk : ∀ b o, b ≠ C → s.heap.get? b = some o → h.get? b = some o) : St B Pk G L { s with heap := h } := by
  refine ⟨fun b o e hb => hk b o (fun q => ?_) (S.keep b o e hb), S.own, fun p hp => ?_, S.ord, fun b o e => ?_, S.drawn, S.os, S.gens⟩
  · subst q; rw [hC] at e; cases e
  · obtain ⟨o, ho, hP⟩ := S.led p hp
    exact ⟨o, hk _ _ (hL p hp) ho, hP⟩
  · obtain ⟨o', ho⟩ := S.live b o e
    refine ⟨o', hk b o' (fun q => ?_) ho⟩
    subst q; rw [hC] at e; cases e

section
variable {prog : Program} {w : World} {A : Around} {E : Value → Shared → Prop} {env : Env} {s : Shared}
theorem stlK {M : Model} {A : Around} {E : Value → Shared → Prop} {env : Env} {B s : Shared} {Pk : Addr → Obj → Prop} {G : Array GenState → Prop} {L L' : Ledger} {x : Str} {v : Value} {ks : List Str} {vs vs' : List (Option Value)} {Q : Unit → Shared → Prop}
    (S : St B Pk G L s) (hL : Upd L env.locals (LocP ks vs) (LocP ks vs') L') (hv : LS ks vs x v vs') (hnd : ks.Nodup)
    (h : ∀ h' t, St B Pk G L' { s with heap := h', toks := t } → Heap.SameBut env.locals s.heap h' → Q () { s with heap := h', toks := t })
    (hk : env.scope.kind = .function := by rfl) (hl : env.kindOf x = some .local := by rfl) : wpAny M A (storeName env x v) Q E s := by
  obtain ⟨m, hn, hm⟩ := S.ns hL.mem
  refine wpAny_storeName_local hl hn (fun h' hn' hs => h _ _ ?_ hs) (by rw [hk]; rfl)
  obtain ⟨o, ho, hN⟩ := ns_iff.mp hn'
  exact S.upd (s' := { s with heap := h', toks := s.toks + 1 }) hL hs ⟨o, ho, _, hN, hv.val hnd hm⟩ rfl rfl rfl

section
variable {elt iter : Expr} {x y : Str} {px py : Pos} {ifs : List Expr} {scope : Scope} {pos spos : Pos} {cl : List (Str × Addr)}
  {B : Shared} {Pk : Addr → Obj → Prop} {G : Array GenState → Prop} {ks : List Str} {vs : List (Option Value)} {L : Ledger}

theorem use_tail {Q : Flow → Shared → Prop} {k : Nat} {s₀ s₂ : Shared} {n : Nat} {p : Nat → Bool} {F : Heap → Nat → Value → Prop} (S : St B Pk G L s₀) {vs' : Value → List (Option Value)} {L' : Value → Ledger}
    (hu : ∀ v, Upd L env.locals (LocP ks vs) (LocP ks (vs' v)) (L' v)) (hls : ∀ v, LS ks vs y v (vs' v)) (hnd : ks.Nodup) (hsz : s₀.heap.objs.size ≤ s₂.heap.objs.size) (hk1 : 1 ≤ k)
    (hmono : ∀ h h' i y, F h i y → (∀ (b : Nat) o, s₂.heap.objs.size + k < b → h.get? b = some o → h'.get? b = some o) → F h' i y)
    (hkf : env.scope.kind = .function) (hy : env.kindOf y = some .local)
    (hQ : ∀ D s' out, St B Pk G ((D, LstP out) :: L' (.ref D)) s' → s₀.heap.objs.size ≤ D → Paired (F s'.heap) ((List.range n).filter p) out → Q .next s')
    {h' : Heap} {tk : Nat} {out : List Value} (K : Keeps s₀ { s₂ with heap := h', toks := tk }) (hD : h'.PlainList s₂.heap.objs.size out.toArray) (hP : Paired (F h') ((List.range n).filter p) out) :
    wpAny (model prog w) A (assign (.Name y py) env (.ref s₂.heap.objs.size)) (fun _ s'' => (∀ (b : Nat) o, s₂.heap.objs.size ≤ b → h'.get? b = some o → s''.heap.get? b = some o) ∧
      ∀ h'' : Heap, (∀ (b : Nat) o, b < s₂.heap.objs.size → s''.heap.get? b = some o → h''.get? b = some o) → (∀ (b : Nat) o, b ≠ s₂.heap.objs.size + 1 → s''.heap.get? b = some o → h''.get? b = some o) → Q .next { s'' with heap := h'' }) E
      { s₂ with heap := h', toks := tk } := by
  obtain ⟨od, hod, hPd⟩ := lst_of hD
  have S₁ := S.new (P := LstP out) K hsz hod hPd
  have hloc : @LT.lt Nat _ env.locals s₀.heap.objs.size := S.lt (hu .none).mem
  refine wpAny_assign_Name (stlK S₁ (.tail (hu _)) (hls _) hnd (fun h₃ t₃ S₃ hs₃ => ⟨fun b o hb e => hs₃.extBut b o (by show ¬ @Eq Nat b _; omega) e, fun h'' hlow hoff => ?_⟩) hkf hy)
  have hC : B.heap.get? (s₂.heap.objs.size + 1) = none := S.none_of_new (get?_of_ge (by show @LE.le Nat _ _ _; omega))
  refine hQ s₂.heap.objs.size _ out (S₃.off hC (fun q hq => ?_) hoff) hsz (hP.mono fun a b q => hmono _ _ _ _ q fun b' o hb e => hoff b' o (by omega) (hs₃.extBut b' o (by show ¬ @Eq Nat b' _; omega) e))
  rcases List.mem_cons.mp hq with rfl | hq
  · show ¬ @Eq Nat _ _; omega
  · have hm : q.1 ∈ L.map (·.1) := (hu (.ref s₂.heap.objs.size)).keys ▸ List.mem_map_of_mem (f := (·.1)) hq
    obtain ⟨q', hq', e⟩ := List.mem_map.mp hm
    have h1 : @LT.lt Nat _ q'.1 s₀.heap.objs.size := S.lt hq'
    rw [e] at h1
    show ¬ @Eq Nat _ _; omega

theorem asg_loc {Q : Flow → Shared → Prop} {vs' : Value → List (Option Value)} {L' : Value → Ledger} (hsw : swapsWith (.ListComp elt [⟨.Name x px, iter, ifs, 0⟩] scope pos) (some (.Name y py)) spos.line env = pure true)
    (hcl : closureFor scope env = pure cl)
    (h : wpAny (model prog w) A (eval iter env) (fun xv s₁ => wpAny (model prog w) A (pyIter xv) (fun it s₂ => ∃ (s₀ : Shared) (n : Nat) (P : Nat → Value → Prop) (p : Nat → Bool) (F : Heap → Nat → Value → Prop),
      IterW prog w A s₀ s₂ it n P ∧ n ≤ 2 ^ 20 ∧ s₀.heap.objs.size ≤ s₂.heap.objs.size ∧ St B Pk G L s₀ ∧ Turns prog w A (cEnv scope cl (s₂.heap.objs.size + 1) env) (s₂.heap.objs.size + 1) (fun v => LocP [x] [v]) ifs elt s₀ n P p F ∧
      ∀ D s' out, St B Pk G ((D, LstP out) :: L' (.ref D)) s' → s₀.heap.objs.size ≤ D → Paired (F s'.heap) ((List.range n).filter p) out → Q .next s') E s₁) E s)
    (hu : ∀ v, Upd L env.locals (LocP ks vs) (LocP ks (vs' v)) (L' v)) (hls : ∀ v, LS ks vs y v (vs' v)) (hnd : ks.Nodup := by decide)
    (hs : ∀ x, foldedSetIterable iter env x = pure x := by intro _; rfl) (hkind : scope.kind = .function := by rfl)
    (hnames : (scope.names.all fun x => decide (x.2 = .local → scope.names.lookup x.1 = some .local)) = true := by rfl) (hpc : ∀ h, pushCells h scope.names = h := by intro _; rfl)
    (hx : ∀ C, (cEnv scope cl C env).kindOf x = some .local := by intro _; rfl) (hkf : env.scope.kind = .function := by rfl) (hy : env.kindOf y = some .local := by rfl) :
    wpAny (model prog w) A (exec (.Assign [.Name y py] (.ListComp elt [⟨.Name x px, iter, ifs, 0⟩] scope pos) spos) env) Q E s := by
  rw [exec_Assign_Name_used _ _ _ _ hsw]
  refine wpAny_bind (wpAny_standAt (wpAny_bind ?_))
  show wpAny _ A (do let _ ← comprehension (.ListComp elt [⟨.Name x px, iter, ifs, 0⟩] scope pos) scope env _ (newList []) false (eval iter env) (some (assign (.Name y py) env))) _ _ s
  refine wpAny_bind (wpAny_mono (comp_core (Q := fun _ s' => Q .next s') (use := some (assign (.Name y py) env)) (hold := fun v => LocP [x] [v]) 1 (Nat.le_refl 1) hcl hkind hnames (fun h => ?_) (fun C v v₀ s Q E hX hQ => ?_) (fun _ v o q => ?_) (wpAny_mono h (fun xv s₁ h₁ => wpAny_mono h₁ (fun it s₂ h₂ => ?_) fun _ _ e => e) fun _ _ e => e) hs)
    (fun _ s' h => wpAny_pure (wpAny_pure h)) fun _ _ e => e)
  · rw [hpc]
    have hn := Heap.Ns.new h (.type "dict")
    obtain ⟨o, ho, hN⟩ := ns_iff.mp hn
    exact ⟨o, _, ho, ⟨_, hN, rfl⟩, hn⟩
  · obtain ⟨o, ho, m, hN, hm⟩ := hX
    refine wpAny_assign_Name (wpAny_storeName_local (hx C) (ns_iff.mpr ⟨o, ho, hN⟩) (fun h' hn' hs' => hQ h' _ ?_ hs') (by simp [compEnvC, relabel, hkind]))
    obtain ⟨o', ho', hN'⟩ := ns_iff.mp hn'
    exact ⟨o', ho', _, hN', by simp⟩
  · obtain ⟨m, hN, _⟩ := q
    exact ⟨m, hN⟩
  · obtain ⟨s₀, n, P, p, F, ⟨I, fp, wr, T, rfl, W, hT, hfp, hwr, K⟩, hn, hsz, S, TT, hQ⟩ := h₂
    have low : ∀ {h : Heap}, CB s₂.heap wr h → ∀ b o, s₀.heap.get? b = some o → h.get? b = some o := fun B b o e => B.keep b o (fun hb => by rw [hwr b hb] at e; cases e) (kget K b o e)
    refine ⟨I, fp, wr, n, P, T, p, F, rfl, W, hn, hT, hfp, TT.mono, fun i v s₃ E' h1 h2 h3 h4 => TT.tests i v s₃ E' h1 h2 h3 (low h4), fun i v s₃ E' h1 h2 h3 h4 h5 => TT.elt i v s₃ E' h1 h2 h3 h4 (low h5), fun h' tk out hB hD hP => ?_⟩
    have K' : Keeps s₀ { s₂ with heap := h', toks := tk } := by
      obtain ⟨h₂, t₂, rfl, k⟩ := K
      exact ⟨h', tk, rfl, low hB⟩
    exact use_tail S hu hls hnd hsz (Nat.le_refl 1) TT.mono hkf hy hQ K' hD hP

theorem asg_cell {Q : Flow → Shared → Prop} {vs' : Value → List (Option Value)} {L' : Value → Ledger} (hsw : swapsWith (.ListComp elt [⟨.Name x px, iter, ifs, 0⟩] scope pos) (some (.Name y py)) spos.line env = pure true)
    (hcl : closureFor scope env = pure cl)
    (h : wpAny (model prog w) A (eval iter env) (fun xv s₁ => wpAny (model prog w) A (pyIter xv) (fun it s₂ => ∃ (s₀ : Shared) (n : Nat) (P : Nat → Value → Prop) (p : Nat → Bool) (F : Heap → Nat → Value → Prop),
      IterW prog w A s₀ s₂ it n P ∧ n ≤ 2 ^ 20 ∧ s₀.heap.objs.size ≤ s₂.heap.objs.size ∧ St B Pk G L s₀ ∧ Turns prog w A (cEnv scope cl (s₂.heap.objs.size + 1) env) (s₂.heap.objs.size + 2) CellP ifs elt s₀ n P p F ∧
      ∀ D s' out, St B Pk G ((D, LstP out) :: L' (.ref D)) s' → s₀.heap.objs.size ≤ D → Paired (F s'.heap) ((List.range n).filter p) out → Q .next s') E s₁) E s)
    (hu : ∀ v, Upd L env.locals (LocP ks vs) (LocP ks (vs' v)) (L' v)) (hls : ∀ v, LS ks vs y v (vs' v)) (hnd : ks.Nodup := by decide)
    (hs : ∀ x, foldedSetIterable iter env x = pure x := by intro _; rfl) (hkind : scope.kind = .function := by rfl)
    (hnames : (scope.names.all fun x => decide (x.2 = .local → scope.names.lookup x.1 = some .local)) = true := by rfl) (hpc : ∀ h, pushCells h scope.names = h.push cellO := by intro _; rfl)
    (hx : ∀ C, (cEnv scope cl C env).kindOf x = some .cell := by intro _; rfl) (hxc : ∀ C : Nat, (cEnv scope cl C env).cells.lookup x = some (C + 1) := by intro _; rfl) (hkf : env.scope.kind = .function := by rfl) (hy : env.kindOf y = some .local := by rfl) :
    wpAny (model prog w) A (exec (.Assign [.Name y py] (.ListComp elt [⟨.Name x px, iter, ifs, 0⟩] scope pos) spos) env) Q E s := by
  rw [exec_Assign_Name_used _ _ _ _ hsw]
  refine wpAny_bind (wpAny_standAt (wpAny_bind ?_))
  show wpAny _ A (do let _ ← comprehension (.ListComp elt [⟨.Name x px, iter, ifs, 0⟩] scope pos) scope env _ (newList []) false (eval iter env) (some (assign (.Name y py) env))) _ _ s
  refine wpAny_bind (wpAny_mono (comp_core (Q := fun _ s' => Q .next s') (use := some (assign (.Name y py) env)) (hold := CellP) 2 (by decide) hcl hkind hnames (fun h => ?_) (fun C v v₀ s Q E hX hQ => ?_) (fun q => absurd q (by decide)) (wpAny_mono h (fun xv s₁ h₁ => wpAny_mono h₁ (fun it s₂ h₂ => ?_) fun _ _ e => e) fun _ _ e => e) hs)
    (fun _ s' h => wpAny_pure (wpAny_pure h)) fun _ _ e => e)
  · rw [hpc]
    have hn := Heap.Ns.new h (.type "dict")
    have hc := Heap.get?_push_size (h.push { cls := .type "dict", data := .dict #[] }) (o := cellO) rfl
    rw [Heap.size_push] at hc
    exact ⟨_, _, hc, rfl, hn.keeps fun _ _ e => Heap.get?_push_of_some _ e⟩
  · refine wpAny_assign_Name (wpAny_storeName_cell hkind (hx C) (hxc C) hX fun h' hc' hs' => hQ h' _ hc' hs')
  · obtain ⟨s₀, n, P, p, F, ⟨I, fp, wr, T, rfl, W, hT, hfp, hwr, K⟩, hn, hsz, S, TT, hQ⟩ := h₂
    have low : ∀ {h : Heap}, CB s₂.heap wr h → ∀ b o, s₀.heap.get? b = some o → h.get? b = some o := fun B b o e => B.keep b o (fun hb => by rw [hwr b hb] at e; cases e) (kget K b o e)
    refine ⟨I, fp, wr, n, P, T, p, F, rfl, W, hn, hT, hfp, TT.mono, fun i v s₃ E' h1 h2 h3 h4 => TT.tests i v s₃ E' h1 h2 h3 (low h4), fun i v s₃ E' h1 h2 h3 h4 h5 => TT.elt i v s₃ E' h1 h2 h3 h4 (low h5), fun h' tk out hB hD hP => ?_⟩
    have K' : Keeps s₀ { s₂ with heap := h', toks := tk } := by
      obtain ⟨h₂, t₂, rfl, k⟩ := K
      exact ⟨h', tk, rfl, low hB⟩
    exact use_tail S hu hls hnd hsz (by decide) TT.mono hkf hy hQ K' hD hP
end
end
end Mine
end

section
open PySem PySem.W PyProof.Rows
set_option Elab.async false
namespace Mine
section
variable {prog : Program} {w : World} {A : Around} {E : Value → Shared → Prop} {R : Result → Shared → Prop} {B : Shared} {Pk : Addr → Obj → Prop} {G : Array GenState → Prop} {L L' : Ledger} {s : Shared} {env : Env}

theorem n_add {a b : Nat} {t u : Tok} {Q : Value → Shared → Prop} (h : ∀ t k, Q (.int ((a + b : Nat) : Int) t) { s with toks := k }) : wpAny (model prog w) A (binaryOp .Add (.int (a : Int) t) (.int (b : Int) u)) Q E s :=
  wpAny_add_int (by have := h s.toks (s.toks + 1); simpa using this)
theorem n_sub {a b : Nat} {t u : Tok} {Q : Value → Shared → Prop} (hb : b ≤ a) (h : ∀ t k, Q (.int ((a - b : Nat) : Int) t) { s with toks := k }) : wpAny (model prog w) A (binaryOp .Sub (.int (a : Int) t) (.int (b : Int) u)) Q E s :=
  AutoIntOps.sub_0 (by have := h s.toks (s.toks + 1); rw [Int.ofNat_sub hb] at this; exact this)
theorem n_mul {a b : Nat} {t u : Tok} {Q : Value → Shared → Prop} (hm : IntMulOk (a : Int) (b : Int)) (h : ∀ t k, Q (.int ((a * b : Nat) : Int) t) { s with toks := k }) : wpAny (model prog w) A (binaryOp .Mult (.int (a : Int) t) (.int (b : Int) u)) Q E s :=
  AutoIntOps.mul_0 (by have := h s.toks (s.toks + 1); rw [Int.natCast_mul] at this; exact this) hm
theorem i_mod {a : Int} {b : Nat} {t u : Tok} {Q : Value → Shared → Prop} (hb : 0 < b) (h : ∀ t k, Q (.int ((a % (b : Int)).toNat : Int) t) { s with toks := k }) : wpAny (model prog w) A (binaryOp .Mod (.int a t) (.int (b : Int) u)) Q E s := by
  refine AutoIntOps.mod_1 (by simp; omega) ?_
  have := h s.toks (s.toks + 1)
  rw [Int.toNat_of_nonneg (Int.emod_nonneg a (by omega)), ← Int.fmod_eq_emod_of_nonneg _ (by omega)] at this
  exact this
theorem n_mod {a b : Nat} {t u : Tok} {Q : Value → Shared → Prop} (hb : 0 < b) (h : ∀ t k, Q (.int ((a % b : Nat) : Int) t) { s with toks := k }) : wpAny (model prog w) A (binaryOp .Mod (.int (a : Int) t) (.int (b : Int) u)) Q E s :=
  i_mod hb fun t k => by have := h t k; rw [← Int.natCast_emod, Int.toNat_natCast]; exact this
theorem n_div {a b : Nat} {t u : Tok} {Q : Value → Shared → Prop} (hb : 0 < b) (hb2 : b < 2 ^ 30) (h : ∀ t k, Q (.int ((a / b : Nat) : Int) t) { s with toks := k }) : wpAny (model prog w) A (binaryOp .FloorDiv (.int (a : Int) t) (.int (b : Int) u)) Q E s := by
  refine AutoIntOps.floordiv_1 (by simp; omega) ?_ ?_
  · unfold Builtin.divisionGoesByPylong
    have h1 : (b : Int).natAbs.log2 < 30 := by
      rw [Int.natAbs_natCast]
      exact (Nat.log2_lt (by omega)).mpr hb2
    have h2 : ¬ ((b : Int) == 0) = true := by simp; omega
    simp only [h2, Bool.and_eq_true, decide_eq_true_eq, not_and, Bool.false_eq_true, if_false]
    intro h3; omega
  · have := h s.toks (s.toks + 1)
    rw [Int.natCast_ediv, ← Int.fdiv_eq_ediv_of_nonneg _ (by omega)] at this
    exact this
theorem n_pow {a b : Nat} {t u : Tok} {Q : Value → Shared → Prop} (ha : 1 ≤ a) (ha7 : a ≤ 7) (hb : b ≤ 3) (h : ∀ t k, Q (.int ((a ^ b : Nat) : Int) t) { s with toks := k }) : wpAny (model prog w) A (binaryOp .Pow (.int (a : Int) t) (.int (b : Int) u)) Q E s := by
  have hh := h s.toks (s.toks + 1)
  rw [Int.natCast_pow] at hh
  by_cases b0 : b = 0
  · subst b0
    exact AutoIntOps.pow_0 (by simp) (by simp) (show Q (.int 1 s.toks) { s with toks := s.toks + 1 } by simpa using hh)
  by_cases a1 : a = 1
  · subst a1
    exact AutoIntOps.pow_1 (by omega) (by simp; omega) (by simp) (show Q (.int 1 s.toks) { s with toks := s.toks + 1 } by
      rw [← Int.natCast_pow, Nat.one_pow] at hh; exact hh)
  refine AutoIntOps.pow_4 (by omega) (by simp; omega) (by simp; omega) (by rw [beq_iff_eq]; omega) ?_ (by rw [Int.toNat_natCast]; exact hh)
  have : Builtin.Int.intBits (a : Int) ≤ 3 := by
    unfold Builtin.Int.intBits
    rw [if_neg (by simp; omega), Int.natAbs_natCast]
    have := (Nat.log2_lt (n := a) (k := 3) (by omega)).mpr (by omega)
    omega
  unfold Builtin.Int.intTooBig
  have h9 : ((Builtin.Int.intBits (a : Int) : Nat) : Int) * (b : Int) ≤ 9 := by
    have h1 : Builtin.Int.intBits (a : Int) * b ≤ 3 * 3 := Nat.mul_le_mul this hb
    omega
  simp only [decide_eq_true_eq, gt_iff_lt, Int.not_lt]
  refine Int.le_trans h9 ?_
  decide

/-- the iterator of range(n), at i -/
def RitP (n i : Nat) : OP := fun o => o = { cls := .type "range_iterator", data := .fields #[rawInt (0 + (i : Int) * 1), rawInt ((n : Int) - (i : Int)), rawInt 1] }
theorem S_range {n : Nat} {t : Tok} {Q : Value → Shared → Prop} (S : St B Pk G L s) (hn : n ≤ 2 ^ 20) (h : ∀ it s', Keeps s s' → St B Pk G ((it, RitP n 0) :: L) s' → Q (.ref it) s') :
    wpAny (model prog w) A (call (.type "range") [.int (n : Int) t]) (fun xv s₂ => wpAny (model prog w) A (pyIter xv) Q E s₂) E s := by
  have hsz : Builtin.Range.rangeSize 0 (n : Int) 1 = (n : Int) := by rw [rangeSize_one]; split <;> omega
  refine call_range_1 ?_
  refine wpAny_pyIter_range (IsRange.new ..) (small_one (by decide) (by decide) (by omega) (by omega)) (h _ _ ⟨_, _, rfl, fun _ _ e => Heap.get?_push_of_some _ (Heap.get?_push_of_some _ e)⟩ ?_)
  have S₁ := (S.alloc (P := fun _ => True) (o := { cls := .type "range", data := .fields #[.int 0 s.toks, .int n t, .int 1 (s.toks + 1)] }) rfl trivial).tok (s.toks + 1 + 1)
  refine (S₁.alloc (P := RitP n 0) rfl ?_).drop (.cons_cons _ (List.sublist_cons_self _ _))
  rw [hsz]; simp [RitP]
theorem S_rnext {it : Addr} {n i : Nat} {Q : Option Value → Shared → Prop} (S : St B Pk G L s) (u : Upd L it (RitP n i) (RitP n (i + 1)) L') (hi : i < n) (h : ∀ t s', St B Pk G L' s' → Q (some (.int (i : Int) t)) s') :
    wpAny (model prog w) A (pyNext (.ref it)) Q E s := by
  obtain ⟨o, ho, hP⟩ := S.get u.mem
  rw [show o = _ from hP] at ho
  refine wpAny_pyNext_range_item ho (by omega) fun h' hit' hs' => ?_
  have e1 : (0 : Int) + (i : Int) * 1 = (i : Int) := by omega
  rw [e1]
  refine h _ _ (S.upd (s' := { s with heap := h', toks := s.toks + 1 }) u hs' ⟨_, hit', ?_⟩ rfl rfl rfl)
  unfold RitP
  have e2 : (0 : Int) + ((i + 1 : Nat) : Int) * 1 = 0 + (i : Int) * 1 + 1 := by omega
  have e3 : (n : Int) - ((i + 1 : Nat) : Int) = (n : Int) - (i : Int) - 1 := by omega
  rw [e2, e3]
theorem S_rstop {it : Addr} {n : Nat} {Q : Option Value → Shared → Prop} (hh : A.handled = none) (S : St B KAll G ((it, RitP n n) :: L) s) (h : ∀ s', St B KAll G L s' → Q none s') :
    wpAny (model prog w) A (pyNext (.ref it)) Q E s := by
  obtain ⟨o, ho, hP⟩ := S.get (a := it) (P := RitP n n) (.head _)
  rw [show o = _ from hP] at ho
  refine wpAny_pyNext_range_end hh ho (by omega) fun h' hx => h _ ?_
  refine (S.drop (List.sublist_cons_self _ _)).off (C := it) (get?_none_of S (.head _)) (fun p hp => ?_) hx
  have := S.ord
  rw [List.map_cons] at this
  have h1 := (List.pairwise_cons.mp this).1 p.1 (List.mem_map_of_mem hp)
  exact Nat.ne_of_lt h1

/-- a for over range(n); what is made in a turn and kept lies above the iterator -/
theorem forR {target : Expr} {body : List Stmt} {it : Addr} {n : Nat} (hh : A.handled = none) (J : Nat → Ledger → Ledger → Prop)
    (step : ∀ i t D L s, i < n → J i D L → St B KAll G (D ++ (it, RitP n (i + 1)) :: L) s →
      wpAny (model prog w) A (assign target env (.int (i : Int) t)) (fun _ s₂ => wpAny (model prog w) A (execs body env) (fun f s₃ => f = .next ∧ ∃ D' L', J (i + 1) D' L' ∧ St B KAll G (D' ++ (it, RitP n (i + 1)) :: L') s₃)
        (notedBy (model prog w) A env fun e s' => R (.error e) s') s₂) (notedBy (model prog w) A env fun e s' => R (.error e) s') s)
    (done : ∀ D L s, J n D L → St B KAll G (D ++ L) s → R (.ok .next) s)
    {D L : Ledger} (h0 : J 0 D L) (S : St B KAll G (D ++ (it, RitP n 0) :: L) s) (ht : ∀ v, letOwnedTupleGo target (.ref it) v = pure () := by intro _; rfl) :
    codeAny (model prog w) A (.forLoop target (.ref it) body [] env) R s := by
  refine codeAny_forLoop (fun m s => ∃ i D L, m = n - i ∧ i ≤ n ∧ J i D L ∧ St B KAll G (D ++ (it, RitP n i) :: L) s) ?_ n ⟨0, D, L, rfl, Nat.zero_le _, h0, S⟩ ht
  rintro m s ⟨i, D, L, rfl, hi, hj, S⟩
  by_cases hlt : i < n
  · have u : Upd (D ++ (it, RitP n i) :: L) it (RitP n i) (RitP n (i + 1)) (D ++ (it, RitP n (i + 1)) :: L) := by
      clear S hj
      induction D with
      | nil => exact .head
      | cons _ _ ih => exact .tail ih
    refine S_rnext S u hlt fun t s₁ S₁ => ?_
    refine wpAny_mono (step i t D L s₁ hlt hj S₁) (fun _ s₂ h₂ => wpAny_mono h₂ (fun f s₃ h₃ => ?_) fun _ _ e => e) fun _ _ e => e
    obtain ⟨rfl, D', L', hj', S'⟩ := h₃
    exact ⟨n - (i + 1), by omega, i + 1, D', L', rfl, hlt, hj', S'⟩
  · have e : i = n := by omega
    subst e
    obtain ⟨o, ho, hP⟩ := S.get (a := it) (P := RitP i i) (List.mem_append_right _ (.head _))
    rw [show o = _ from hP] at ho
    refine wpAny_pyNext_range_end hh ho (by omega) fun h' hx => wpAny_execs_nil (done D L _ hj ?_)
    refine (S.drop (L' := D ++ L) (List.Sublist.append (List.Sublist.refl _) (List.sublist_cons_self _ _))).off (C := it) (get?_none_of S (a := it) (P := RitP i i) (List.mem_append_right _ (.head _))) (fun p hp => ?_) hx
    have ho := S.ord
    rw [List.map_append, List.map_cons, List.pairwise_append] at ho
    rcases List.mem_append.mp hp with hp | hp
    · exact Nat.ne_of_gt (ho.2.2 p.1 (List.mem_map_of_mem hp) it (.head _))
    · exact Nat.ne_of_lt ((List.pairwise_cons.mp ho.2.1).1 p.1 (List.mem_map_of_mem hp))
end
end Mine
end

section
open PySem PySem.W PyProof.Rows
set_option Elab.async false
namespace Mine
local macro_rules | `(tactic| walk_at "mem") => `(tactic| repeat (first | exact List.Mem.head _ | apply List.Mem.tail))
local macro_rules | `(tactic| walk_at "lg") => `(tactic| repeat (first | (with_reducible exact LG.head) | apply LG.tail))
local macro_rules | `(tactic| walk_at "upd") => `(tactic| repeat (first | exact Upd.head | apply Upd.tail))
local macro_rules | `(tactic| walk_at "ls") => `(tactic| repeat (first | (with_reducible exact LS.head) | apply LS.tail))
/-- the fresh list is new (the older text's lawReached_ok told only that nothing stood there) -/
theorem lawReached_ok2 {w : World} {A : Around} {s : Shared} {pm cd doc : Value} {R : Result → Shared → Prop} {d : Addr} {n : Nat} {E : Nat → List Nat} {p : Nat} {tk : Tok}
    (hf : FnOk s.heap 75 (lawReachedFd pm cd doc)) (hN : Names s.heap) (hh : A.handled = none) (hd : A.depth < 900) (hE : EdgesOk w s.heap d n E) (hn : n ≤ 1000) (hlt : ∀ v < n, ∀ o ∈ E v, o < n) (hp : p < n)
    (hR : ∀ l xs vals s', Keeps s s' → s.heap.objs.size < l → s'.heap.PlainList l vals.toArray → NA vals xs → xs.Nodup → (∀ x, x ∈ xs ↔ Reach E p x) → (∀ x ∈ xs, x < n) → R (.ok (.ret (.ref l))) s') :
    codeAny (model pw w) A (.call (.ref 75) ⟨[.ref d, .int (p : Int) tk], []⟩) R s := by
  refine call_fn (ks := ["edges", "place", "found", "k", "other"]) (vs := [some (.ref d), some (.int p tk), none, none, none]) hf (by simp only [recursionLimit]; omega) hN.lim rfl (lawReached_bind _ _ _ _ _) rfl rfl (fun s₁ S => ?_)
  have hh' : (A.deeper (fnEnv (lawReachedFd pm cd doc) s.heap.objs.size 75)).handled = none := hh
  generalize hLf : s.heap.objs.size = Lf at *
  generalize hA' : A.deeper (fnEnv (lawReachedFd pm cd doc) Lf 75) = A' at *
  show wpAny _ _ (execs (fBody (stmtAt 6)) _) _ _ _
  refine wpAny_execs_cons (Assign_Tuple_swapped (names := ["found", "k"]) ?_)
  refine S_Tuple (wpAny_items_cons (S_List (wpAny_items_cons (ldl S (by walk_at "mem") (by walk_at "lg") (wpAny_items_nil ⟨_, _, _, _, S, by simp, fun D s₂ K₂ hD S₂ => ?_⟩)))))
  refine wpAny_items_cons (wpAny_Constant_int (wpAny_items_nil ⟨_, _, _, _, S₂.tok _, by simp, fun T s₃ _ _ S₃ => ?_⟩))
  refine S_unpack hh' S₃ (by walk_at "mem") rfl fun s₄ S₄ => ?_
  have S₄ := S₄.drop (List.sublist_cons_self _ _)
  refine wpAny_assignInOrder_more (bindN (stl S₄ (by walk_at "upd") (by walk_at "ls") (by decide) fun s₅ S₅ => ?_))
  refine wpAny_assignInOrder_more (bindN (stl S₅ (by walk_at "upd") (by walk_at "ls") (by decide) fun s₆ S₆ => wpAny_assignInOrder_none ?_))
  refine wpAny_execs_cons (wpAny_While ?_)
  obtain ⟨mg, mb, hg, hb, g1, g2, g3, g4, g5, gm, b1, b2, b3, b4, b5, b6, b7, b8⟩ := hN.ex
  obtain ⟨kvs, hkv, hsys, hEv⟩ := hE
  refine codeAny_whileLoop (fun m s' => ∃ xs k vals tk' oth, St s KAll (EqG s) [(D, LstP vals), (Lf, LocP ["edges", "place", "found", "k", "other"] [some (.ref d), some (.int p tk), some (.ref D), some (.int ((k : Nat) : Int) tk'), oth])] s' ∧
    NA vals xs ∧ Found n E p xs ∧ k ≤ xs.length ∧ (∀ i (hi : i < xs.length), i < k → ∀ o ∈ E xs[i], o ∈ xs) ∧ m = n - k) ?_ n
    ⟨[p], 0, _, _, none, S₆, NA.snoc NA.nil p tk, ⟨by simp, by simpa using hp, by simpa using Reach.refl p, by simp⟩, by simp, fun i _ h => absurd h (Nat.not_lt_zero i), rfl⟩
  rintro m s₇ ⟨xs, k, vals, tk', oth, S, hv, hx, hk, hcl, rfl⟩
  have hle : xs.length ≤ n := nodup_length_le n xs hx.nodup hx.lt
  have hvl := hv.length
  refine wpAny_isTrue_Compare1 (ldl S (by walk_at "mem") (by walk_at "lg") (call1 ?_))
  refine lblt (hg.keeps S.hk) (gm _ (by decide)) (hb.keeps S.hk) b1 ?_
  refine ldl S (by walk_at "mem") (by walk_at "lg") ⟨trivial, ?_⟩
  refine lenL (S.lst (by walk_at "mem")).isList (by simp; omega) (wpAny_lt_int (wpAny_truthy_bool ?_))
  replace S := S.tok (s₇.toks + 1 + 1)
  refine split_dec (fun hlt' => ?_) fun hge => ?_
  · have hkx : k < xs.length := by simp only [List.size_toArray] at hlt'; omega
    obtain ⟨l, ev, hl1, hl2, hl3⟩ := hEv xs[k] (hx.lt _ (List.getElem_mem hkx))
    refine wpAny_execs_cons (wpAny_For ?_)
    refine sub_any (ldl S (by walk_at "mem") (by walk_at "lg") (sub_any (ldl S (by walk_at "mem") (by walk_at "lg") (ldl S (by walk_at "mem") (by walk_at "lg") ⟨on_list (S.lst (by walk_at "mem")), ?_⟩))))
    refine item_nats (S.lst (by walk_at "mem")) hv hkx (by omega) fun u => ⟨on_dct (hkv.keep S.hk), ?_⟩
    refine get_dct (hkv.keep S.hk) hl1 ?_
    refine S_iter (S.tok _) (PlainList.keeps hl2 S.hk) fun it s₈ _ _ S₈ => ?_
    refine forL (vals := ev) hh' (fun i L => ∃ ys vals' oth', L = [(D, LstP vals'), (Lf, LocP ["edges", "place", "found", "k", "other"] [some (.ref d), some (.int p tk), some (.ref D), some (.int ((k : Nat) : Int) tk'), oth'])] ∧
      NA vals' ys ∧ Found n E p ys ∧ xs <+: ys ∧ ∀ j (hj : j < (E xs[k]).length), j < i → (E xs[k])[j] ∈ ys) ?_ ?_ ?_ ⟨xs, vals, oth, rfl, hv, hx, List.prefix_refl _, fun j _ h => absurd h (Nat.not_lt_zero j)⟩ S₈
    · rintro i L s₉ ⟨ys, vals', oth', rfl, _⟩ S₉
      exact PlainList.keeps hl2 S₉.hk
    · rintro i v L s₉ hiv ⟨ys, vals', oth', rfl, hv', hx', hpre, hall⟩ S₉
      have hlen := hl3.length
      have hil : i < (E xs[k]).length := by
        have := (List.getElem?_eq_some_iff.mp hiv).1; omega
      have hy : ys.length ≤ n := nodup_length_le n ys hx'.nodup hx'.lt
      have hvl' := hv'.length
      obtain ⟨t, ht⟩ := hl3.get hil
      rw [ht] at hiv
      cases hiv
      refine wpAny_assign_Name (stl S₉ (by walk_at "upd") (by walk_at "ls") (by decide) fun s₁₀ S₁₀ => ?_)
      refine wpAny_execs_cons (wpAny_If (wpAny_isTrue_Compare1 ?_))
      refine ldl S₁₀ (by walk_at "mem") (by walk_at "lg") (ldl S₁₀ (by walk_at "mem") (by walk_at "lg") ?_)
      refine notin_nats (S₁₀.lst (by walk_at "mem")) hv' (wpAny_truthy_bool (split_dec (fun hn' => ?_) fun hin => ?_))
      · refine wpAny_execs_cons (ex_append ?_)
        refine ldl S₁₀ (by walk_at "mem") (by walk_at "lg") ⟨D, _, rfl, S₁₀.lst (by walk_at "mem"), ?_⟩
        refine ldl S₁₀ (by walk_at "mem") (by walk_at "lg") ?_
        refine S_append S₁₀ (by walk_at "upd") (by omega) fun s₁₁ S₁₁ => ⟨rfl, wpAny_execs_nil (wpAny_execs_nil ⟨rfl, _, ⟨ys ++ [(E xs[k])[i]], _, _, rfl, hv'.snoc _ _, ?_, ?_, ?_⟩, S₁₁⟩)⟩
        · refine ⟨?_, ?_, ?_, ?_⟩
          · rw [List.nodup_append]
            refine ⟨hx'.nodup, by simp, ?_⟩
            intro a ha b hb
            rw [List.mem_singleton] at hb
            subst hb
            rintro rfl
            exact hn' ha
          · intro x hxm
            rcases List.mem_append.mp hxm with h | h
            · exact hx'.lt x h
            · rw [List.mem_singleton] at h; subst h
              exact hlt _ (hx.lt _ (List.getElem_mem hkx)) _ (List.getElem_mem hil)
          · intro x hxm
            rcases List.mem_append.mp hxm with h | h
            · exact hx'.reach x h
            · rw [List.mem_singleton] at h; subst h
              exact Reach.step (hx.reach _ (List.getElem_mem hkx)) (List.getElem_mem hil)
          · exact List.mem_append_left _ hx'.start
        · exact hpre.trans (List.prefix_append _ _)
        · intro j hj hji
          by_cases e : j = i
          · subst e; simp
          · exact List.mem_append_left _ (hall j hj (by omega))
      · refine wpAny_execs_nil (wpAny_execs_nil ⟨rfl, _, ⟨ys, _, _, rfl, hv', hx', hpre, fun j hj hji => ?_⟩, S₁₀⟩)
        by_cases e : j = i
        · subst e; exact Decidable.not_not.mp hin
        · exact hall j hj (by omega)
    · rintro L s₉ ⟨ys, vals', oth', rfl, hv', hx', hpre, hall⟩ S₉
      refine wpAny_execs_cons (wpAny_AugAssign_Name ?_)
      refine ldln S₉ (by walk_at "mem") (by walk_at "lg") (wpAny_Constant_int (wpAny_iadd_int (stl (S₉.tok _) (by walk_at "upd") (by walk_at "ls") (by decide) fun s₁₀ S₁₀ => wpAny_execs_nil ?_)))
      have hy : ys.length ≤ n := nodup_length_le n ys hx'.nodup hx'.lt
      have hly := hpre.length_le
      refine ⟨n - (k + 1), by omega, ys, k + 1, vals', _, oth', by simpa using S₁₀, hv', hx', by omega, ?_, rfl⟩
      intro i hi hik o ho
      have hpi : ∀ j (h : j < xs.length) (h' : j < ys.length), ys[j] = xs[j] := fun j h h' => (hpre.getElem h).symm
      by_cases e : i = k
      · subst e
        rw [hpi i hkx hi] at ho
        obtain ⟨j, hj, rfl⟩ := List.getElem_of_mem ho
        exact hall j hj (by rw [hl3.length]; exact hj)
      · rw [hpi i (by omega) hi] at ho
        exact hpre.subset (hcl i (by omega) (by omega) o ho)
  · refine wpAny_execs_nil ?_
    refine wpAny_execs_cons (wpAny_Return_some ?_)
    refine ldl S (by walk_at "mem") (by walk_at "lg") ?_
    have hke : k = xs.length := by simp only [List.size_toArray] at hge; omega
    subst hke
    refine hR D xs vals _ S.done (by
      have h0 := S.ord
      have h1 := (List.pairwise_cons.mp h0).1 Lf (.head _)
      exact hLf ▸ h1) (S.lst (by walk_at "mem")) hv hx.nodup (fun x => ⟨hx.reach x, fun h => ?_⟩) hx.lt
    induction h with
    | refl => exact hx.start
    | step _ hc ih =>
      obtain ⟨i, hi, rfl⟩ := List.getElem_of_mem ih
      exact hcl i hi hi _ hc
end Mine
end

section
open PySem PySem.W PyProof.Rows
set_option Elab.async false
set_option maxRecDepth 100000
namespace Mine
section
variable {prog : Program} {w : World} {A : Around} {E : Value → Shared → Prop} {B : Shared} {Pk : Addr → Obj → Prop} {G : Array GenState → Prop} {L L' : Ledger} {s : Shared} {env : Env}

theorem insert_arr (vs : List Value) (i : Nat) (hi : i ≤ vs.length) (y : Value) :
    (((vs.toArray).extract 0 (if ((i : Nat) : Int) < 0 then (((i : Nat) : Int) + ((vs.toArray.size : Nat) : Int)).toNat else min ((i : Nat) : Int).toNat vs.toArray.size)).push y ++
      (vs.toArray).extract (if ((i : Nat) : Int) < 0 then (((i : Nat) : Int) + ((vs.toArray.size : Nat) : Int)).toNat else min ((i : Nat) : Int).toNat vs.toArray.size)) = (vs.take i ++ y :: vs.drop i).toArray := by
  have h0 : ¬ ((i : Nat) : Int) < 0 := by omega
  simp only [h0, if_false, Int.toNat_natCast, List.size_toArray, Nat.min_eq_left hi]
  apply Array.toList_inj.mp
  simp [List.take_of_length_le]

theorem call_insert {D : Addr} {a : Array Value} {k' : Nat} {x : Int} {t : Tok} {y : Value} {Q : Value → Shared → Prop} (e : s.heap.get? D = some { cls := .type "list", dict := none, data := .seq a k', slots := #[] }) (hfit : ¬(!Builtin.List.listFitsIndex x) = true) (hsz : a.size ≤ sizeLine)
    (h : Q .none { s with heap := s.heap.update D (Obj.mapSeq fun xs => have k := if x < 0 then (x + (xs.size : Int)).toNat else min x.toNat xs.size; (xs.extract 0 k).push y ++ xs.extract k) }) :
    wpAny (model prog w) A (call (.builtin "list.insert") [.ref D, .int x t, y]) Q E s := by
  have hT : s.TypeIs (.ref D) "list" := ⟨_, e, rfl⟩
  exact call_meets F.slot_list_insert hT F.entry_list_insert (F.args_list_insert_3 _ _ _) (@AutoSeq1.list_insert_list_int_val_1 D a k' x t y hfit hsz) ⟨e, h⟩

/-- a statement  o.insert(i, x), i an index or the length -/
theorem ex_insert {o e f : Expr} {apos pos p : Pos} {Q : Flow → Shared → Prop}
    (h : wpAny (model prog w) A (eval o env) (fun ov s₁ => ∃ (D : Addr) (its : Array Value), ov = .ref D ∧ s₁.heap.PlainList D its ∧ wpAny (model prog w) A (eval e env) (fun iv s₂ => wpAny (model prog w) A (eval f env) (fun y s₃ =>
      ∃ (vs : List Value) (i : Nat) (t : Tok), iv = .int (i : Int) t ∧ s₃.heap.PlainList D vs.toArray ∧ i ≤ vs.length ∧ vs.length < 2 ^ 20 ∧
      ∀ s', s'.heap.PlainList D (vs.take i ++ y :: vs.drop i).toArray → Heap.SameBut D s₃.heap s'.heap → s'.drawn = s₃.drawn → s'.os = s₃.os → s'.gens = s₃.gens → Q .next s') E s₂) E s₁) E s)
    (hbase : attributeBase o "insert" env (eval o env) = eval o env := by rfl)
    (hline : (apos.endLine == pos.line) = true := by rfl)
    (htrees : backTo pos (starEach [e, f] env) = [(false, eval e env), (false, eval f env)] := by rfl)
    (hi : interactive env = false := by rfl) (hs : swapsWith (.Call (.Attribute o "insert" apos) [e, f] [] pos) none p.line env = pure false := by rfl) :
    wpAny (model prog w) A (exec (.Expr (.Call (.Attribute o "insert" apos) [e, f] [] pos) p) env) Q E s := by
  rw [exec_Expr env _ p hi hs]
  refine wpAny_bind (wpAny_standAt (wpAny_bind ?_))
  refine wpAny_Call_method2_late hbase hline htrees (wpAny_mono h (fun ov s₁ h₁ => ?_) fun _ _ e => e)
  obtain ⟨D, its, rfl, ⟨k, e⟩, h₂⟩ := h₁
  refine ⟨"list", _, F.plainAttrs_list, F.slot_list_insert, F.type_list_insert, ⟨_, e, rfl⟩, fun a ha => ⟨_, (by cases ha; exact e), rfl⟩, ?_⟩
  refine Calls.callWith_builtin rfl (Calls.evalArgs_plain (Calls.spliced_cons (wpAny_mono h₂ (fun iv s₂ h₃ => Calls.spliced_cons (wpAny_mono h₃ (fun y s₃ h₄ => Calls.spliced_nil ?_) fun _ _ e => e)) fun _ _ e => e)))
  obtain ⟨vs, i, t, rfl, ⟨k', e'⟩, hiv, hsz, hQ⟩ := h₄
  have hsz' : vs.toArray.size ≤ sizeLine := by rw [List.size_toArray, sizeLine_eq]; omega
  have hfit : ¬(!Builtin.List.listFitsIndex ((i : Nat) : Int)) = true := by
    have : Builtin.List.listFitsIndex ((i : Nat) : Int) = true := by
      unfold Builtin.List.listFitsIndex
      have h1 : (i : Int) < 2 ^ 20 := by omega
      simp only [Bool.and_eq_true, decide_eq_true_eq]
      omega
    rw [this]; decide
  refine call_insert e' hfit hsz' ?_
  · show wpAny _ _ (dropValue _ _ .none) _ _ _
    rw [dropValue_plain (fun a h => by cases h)]
    refine wpAny_pure (hQ _ ?_ (Heap.SameBut.update ..) rfl rfl rfl)
    have u := IsL.update (n := k') e' (fun xs => have k := if ((i : Nat) : Int) < 0 then (((i : Nat) : Int) + ((xs.size : Nat) : Int)).toNat else min ((i : Nat) : Int).toNat xs.size; (xs.extract 0 k).push y ++ xs.extract k)
    have z : Heap.PlainList _ D _ := ⟨_, u⟩
    exact insert_arr vs i hiv y ▸ z
end
end Mine
end

section
open PySem PySem.W PyProof.Rows
set_option Elab.async false
namespace Mine
/-- sorting by a rank of the values: the comparison is asked only where the sort runs -/
def RkAt (f : Value → Int) (xs : Array Keyed) (i : Nat) : Int := match xs[i]? with
  | some p => f p.1
  | none => 0
def RkUp (f : Value → Int) (xs : Array Keyed) (k : Nat) : Prop := ∀ i j, i < j → j < k → RkAt f xs i ≤ RkAt f xs j
theorem rk_of {f : Value → Int} {xs ys : Array Keyed} {i j : Nat} (h : xs[i]? = ys[j]?) : RkAt f xs i = RkAt f ys j := by unfold RkAt; rw [h]
theorem rk_bubble {f : Value → Int} {xs : Array Keyed} {src d : Nat} (hs : src < xs.size) (hd : d ≤ src) (k : Nat) :
    RkAt f (bubble xs src d) k = if k = src - d then RkAt f xs src else if src - d < k ∧ k ≤ src then RkAt f xs (k - 1) else RkAt f xs k := by
  have e := getElem?_bubble hs d hd k
  split at e <;> rename_i h1
  · rw [if_pos h1]; exact rk_of e
  · rw [if_neg h1]
    split at e <;> rename_i h2
    · rw [if_pos h2]; exact rk_of e
    · rw [if_neg h2]; exact rk_of e
theorem rk_mirror {f : Value → Int} {xs : Array Keyed} {i j : Nat} (hj : j ≤ xs.size) (k : Nat) :
    RkAt f (mirror xs i j ((j - i) / 2)) k = if i ≤ k ∧ k < j then RkAt f xs (i + j - 1 - k) else RkAt f xs k := by
  have e := getElem?_mirror_all (i := i) hj k
  split at e <;> rename_i h1
  · rw [if_pos h1]; exact rk_of e
  · rw [if_neg h1]; exact rk_of e
end Mine
end

section
open PySem PySem.W PyProof.Rows
set_option Elab.async false
namespace Mine
section
variable {prog : Program} {w : World} {A : Around} {E : Value → Shared → Prop} {s : Shared} {a₀ : Array Keyed} {f : Value → Int}

def CmpOk (prog : Program) (w : World) (A : Around) (E : Value → Shared → Prop) (s : Shared) (f : Value → Int) (a₀ : Array Keyed) : Prop :=
  ∀ (st : SortSt) (i j : Nat) (Q : Option Bool → SortSt → Prop), SBase a₀ st → i < a₀.size → j < a₀.size → i ≠ j →
    Q (some (decide (RkAt f (arrOf st) i < RkAt f (arrOf st) j))) st → wpS (model prog w) A E s (ltAt' i j) Q st

/-- the place of element k among the k before it -/
def Slot0 (f : Value → Int) (xs : Array Keyed) (k l r : Nat) : Prop := l ≤ r ∧ r ≤ k ∧ (∀ i < l, RkAt f xs i ≤ RkAt f xs k) ∧ ∀ i, r ≤ i → i < k → RkAt f xs k < RkAt f xs i

theorem bin_search (hc : CmpOk prog w A E s f a₀) {st : SortSt} (hB : SBase a₀ st) {k : Nat} (hk : k < a₀.size) (hs : RkUp f (arrOf st) k) {x l r : Nat} (hx : x < k) (h : Slot0 f (arrOf st) k l r) (hm : r - l ≤ k - x)
    {Q : ForInStep (Option Bool × Nat × Nat) → SortSt → Prop}
    (hdone : l = r → Q (.done (none, l, r)) st) (hgo : ∀ l' r', Slot0 f (arrOf st) k l' r' → r' - l' ≤ k - (x + 1) → Q (.yield (none, l', r')) st) :
    wpS (model prog w) A E s (if l ≥ r then pure (ForInStep.done (none, l, r)) else do
      let q ← ltAt' k ((l + r) / 2)
      match q with
      | some less => if less = true then pure (ForInStep.yield (none, l, (l + r) / 2)) else pure (ForInStep.yield (none, (l + r) / 2 + 1, r))
      | _ => pure (ForInStep.done (some false, l, r))) Q st := by
  obtain ⟨h1, h2, h3, h4⟩ := h
  by_cases hge : l ≥ r
  · rw [if_pos hge]; exact wpS_pure (hdone (by omega))
  · rw [if_neg hge]
    refine wpS_bind (hc st k ((l + r) / 2) _ hB hk (by omega) (by omega) ?_)
    by_cases hlt : RkAt f (arrOf st) k < RkAt f (arrOf st) ((l + r) / 2)
    · simp only [hlt, decide_true, if_true]
      refine wpS_pure (hgo _ _ ⟨by omega, by omega, h3, fun i a b => ?_⟩ (by omega))
      by_cases e : i = (l + r) / 2
      · subst e; exact hlt
      · have := hs ((l + r) / 2) i (by omega) b
        omega
    · simp only [hlt, decide_false, Bool.false_eq_true, if_false]
      refine wpS_pure (hgo _ _ ⟨by omega, h2, fun i a => ?_, h4⟩ (by omega))
      by_cases e : i = (l + r) / 2
      · subst e; omega
      · have := hs i ((l + r) / 2) (by omega) (by omega)
        omega

theorem bin_sort (hc : CmpOk prog w A E s f a₀) {st : SortSt} {n ok : Nat} {Q : Bool → SortSt → Prop} (hn : n ≤ a₀.size) (hok : ok ≤ n) (hB : SBase a₀ st) (hs : RkUp f (arrOf st) ok)
    (h : ∀ st', SBase a₀ st' → RkUp f (arrOf st') n → Q true st') : wpS (model prog w) A E s (binarySort' 0 n ok) Q st := by
  rw [binarySort'_eq]
  simp only [Nat.zero_add]
  refine wpS_bind (wpS_mono (wpS_forRange (I := fun k c st' => c = (none, ()) ∧ SBase a₀ st' ∧ RkUp f (arrOf st') (min k n)) (Q := fun c st' => c = (none, ()) ∧ SBase a₀ st' ∧ RkUp f (arrOf st') n) ?_ ?_ ⟨rfl, hB, ?_⟩) ?_)
  · rintro k c st' hk1 hk2 ⟨rfl, hB', hs'⟩
    rw [show min k n = k by omega] at hs'
    have hk : k < a₀.size := by omega
    refine wpS_bind (wpS_mono (wpS_forRange (I := fun x c st'' => st'' = st' ∧ ∃ l r, c = (none, l, r) ∧ Slot0 f (arrOf st') k l r ∧ r - l ≤ k - x) (Q := fun c st'' => st'' = st' ∧ ∃ l, c = (none, l, l) ∧ Slot0 f (arrOf st') k l l) ?_ ?_
      ⟨rfl, 0, k, rfl, ⟨by omega, by omega, fun i hi => absurd hi (Nat.not_lt_zero i), fun i a b => by omega⟩, by omega⟩) ?_)
    · rintro x c st'' _ hx ⟨rfl, l, r, rfl, hsl, hm⟩
      exact bin_search hc hB' hk hs' hx hsl hm (fun e => ⟨rfl, l, by rw [← e], by rw [← e] at hsl; exact hsl⟩) fun l' r' a b => ⟨rfl, l', r', rfl, a, b⟩
    · rintro c st'' ⟨rfl, l, r, rfl, hsl, hm⟩
      have e : r = l := by have := hsl.1; omega
      subst e
      exact ⟨rfl, _, rfl, hsl⟩
    · rintro c st'' ⟨rfl, l, rfl, _, hlk, h3, h4⟩
      show wpS _ _ _ _ (do moveDown' k l; pure (ForInStep.yield (none, ()))) _ _
      rw [moveDown'_eq]
      refine wpS_bind (wpS_modify (wpS_pure ⟨rfl, hB'.setArr (bubble_perm _ _ _), ?_⟩))
      rw [show min (k + 1) n = k + 1 by omega]
      have hks : k < (arrOf st'').size := by rw [hB'.size]; exact hk
      intro i j hij hj
      show RkAt f (bubble (arrOf st'') k (k - l)) i ≤ RkAt f (bubble (arrOf st'') k (k - l)) j
      rw [rk_bubble hks (by omega), rk_bubble hks (by omega), show k - (k - l) = l by omega]
      have mono : ∀ a b, a ≤ b → b < k → RkAt f (arrOf st'') a ≤ RkAt f (arrOf st'') b := fun a b h1 h2 => by
        by_cases e : a = b
        · subst e; exact Int.le_refl _
        · exact hs' a b (by omega) h2
      by_cases i1 : i = l
      · rw [if_pos i1, if_neg (by omega), if_pos (by omega)]
        exact Int.le_of_lt (h4 (j - 1) (by omega) (by omega))
      · rw [if_neg i1]
        by_cases j1 : j = l
        · rw [if_pos j1, if_neg (by omega)]
          exact h3 i (by omega)
        · rw [if_neg j1]
          split <;> split
          · exact mono _ _ (by omega) (by omega)
          · omega
          · exact mono _ _ (by omega) (by omega)
          · exact mono _ _ (by omega) (by omega)
  · rintro c st' ⟨a, b, c⟩
    rw [show min (max (max ok 1) n) n = n by omega] at c
    exact ⟨a, b, c⟩
  · intro i j hij hj
    exact hs i j hij (by omega)
  · rintro c st' ⟨rfl, hB', hs'⟩
    exact wpS_pure (h st' hB' hs')
end
end Mine
end

section
open PySem PySem.W PyProof.Rows
set_option Elab.async false
namespace Mine
section
variable {prog : Program} {w : World} {A : Around} {E : Value → Shared → Prop} {s : Shared} {a₀ : Array Keyed} {f : Value → Int}

theorem rk_le {xs : Array Keyed} {n : Nat} (h : RkUp f xs n) {a b : Nat} (h1 : a ≤ b) (h2 : b < n) : RkAt f xs a ≤ RkAt f xs b := by
  by_cases e : a = b
  · subst e; exact Int.le_refl _
  · exact h a b (by omega) h2

/-- the run that rises, from a on -/
theorem up_run (hc : CmpOk prog w A E s f a₀) {st : SortSt} {a m : Nat} {Q : AscSt → SortSt → Prop} (hm : m ≤ a₀.size) (ha : 1 ≤ a) (ham : a ≤ m) (hB : SBase a₀ st) (hs : RkUp f (arrOf st) a)
    (h : ∀ n, a ≤ n → n ≤ m → RkUp f (arrOf st) n → (n = m ∨ RkAt f (arrOf st) n < RkAt f (arrOf st) (n - 1)) → Q (none, n) st) : wpS (model prog w) A E s (ascLoop a m) Q st := by
  unfold ascLoop
  refine wpS_forRange (I := fun x c st' => st' = st ∧ c = (none, x) ∧ RkUp f (arrOf st) x) ?_ ?_ ⟨rfl, rfl, hs⟩
  · rintro x c st' h1 h2 ⟨rfl, rfl, hx⟩
    refine wpS_bind (hc st' x (x - 1) _ hB (by omega) (by omega) (by omega) ?_)
    by_cases hlt : RkAt f (arrOf st') x < RkAt f (arrOf st') (x - 1)
    · simp only [hlt, decide_true, if_true]
      exact wpS_pure (h x h1 (by omega) hx (.inr hlt))
    · simp only [hlt, decide_false, Bool.false_eq_true, if_false]
      refine wpS_pure ⟨rfl, rfl, fun i j hij hj => ?_⟩
      by_cases e : j = x
      · subst e
        have := rk_le hx (show i ≤ j - 1 by omega) (by omega)
        omega
      · exact hx i j hij (by omega)
  · rintro c st' ⟨rfl, rfl, hx⟩
    rw [show max a m = m by omega] at hx ⊢
    exact h m ham (Nat.le_refl _) hx (.inl rfl)
end
end Mine
end

section
open PySem PySem.W PyProof.Rows
set_option Elab.async false
namespace Mine
section
variable {prog : Program} {w : World} {A : Around} {E : Value → Shared → Prop} {s : Shared} {a₀ : Array Keyed} {f : Value → Int}

def RkDn (f : Value → Int) (xs : Array Keyed) (k : Nat) : Prop := ∀ i j, i < j → j < k → RkAt f xs j ≤ RkAt f xs i
theorem rk_ge {xs : Array Keyed} {n : Nat} (h : RkDn f xs n) {a b : Nat} (h1 : a ≤ b) (h2 : b < n) : RkAt f xs b ≤ RkAt f xs a := by
  by_cases e : a = b
  · subst e; exact Int.le_refl _
  · exact h a b (by omega) h2
/-- what the run counter leaves behind -/
def RunPost (f : Value → Int) (a₀ : Array Keyed) (m : Nat) (Q : Option Nat → SortSt → Prop) : Prop :=
  ∀ n st', SBase a₀ st' → 1 ≤ n → n ≤ m → RkUp f (arrOf st') n → Q (some n) st'

theorem turn_tail (hc : CmpOk prog w A E s f a₀) {st : SortSt} {n m : Nat} {Q : Option Nat → SortSt → Prop} (hm : m ≤ a₀.size) (h1 : 1 ≤ n) (hn : n ≤ m) (hB : SBase a₀ st)
    (hs : RkDn f (arrOf st) n) (h : RunPost f a₀ m Q) : wpS (model prog w) A E s (tail3 n m) Q st := by
  unfold tail3
  have hz : n ≤ (arrOf st).size := by rw [hB.size]; omega
  refine wpS_bind (wpS_reverse (wpS_bind (up_run hc hm h1 hn (hB.setArr (mirror_perm _ _ _ _)) ?_ fun k a b c _ => wpS_pure (h k _ (hB.setArr (mirror_perm _ _ _ _)) (by omega) b c))))
  intro i j hij hj
  show RkAt f (mirror (arrOf st) 0 n ((n - 0) / 2)) i ≤ RkAt f (mirror (arrOf st) 0 n ((n - 0) / 2)) j
  rw [rk_mirror hz, rk_mirror hz, if_pos (by omega), if_pos (by omega)]
  exact rk_ge hs (by omega) (by omega)

structure Fall (f : Value → Int) (xs : Array Keyed) (x q : Nat) : Prop where
  dn : RkDn f xs x
  len : q + 1 ≤ x
  same : ∀ i, x - (q + 1) ≤ i → i < x → RkAt f xs i = RkAt f xs (x - 1)

theorem rk_flip {xs : Array Keyed} {i j : Nat} (hj : j ≤ xs.size) (he : ∀ k, i ≤ k → k < j → RkAt f xs k = RkAt f xs (j - 1)) (k : Nat) : RkAt f (mirror xs i j ((j - i) / 2)) k = RkAt f xs k := by
  rw [rk_mirror hj]
  split
  · rw [he _ (by omega) (by omega), he k (by omega) (by omega)]
  · rfl

theorem dn_step {xs ys : Array Keyed} {x : Nat} (hs : RkDn f xs x) (hk : ∀ k, RkAt f ys k = RkAt f xs k) (hl : RkAt f xs x ≤ RkAt f xs (x - 1)) : RkDn f ys (x + 1) := by
  intro i j hij hj
  rw [hk, hk]
  by_cases e : j = x
  · subst e
    have := rk_ge hs (show i ≤ j - 1 by omega) (by omega)
    omega
  · exact hs i j hij (by omega)

theorem down_run (hc : CmpOk prog w A E s f a₀) {st : SortSt} {n m : Nat} {Q : DescSt → SortSt → Prop} (hm : m ≤ a₀.size) (h1 : 1 ≤ n) (hn : n ≤ m) (hB : SBase a₀ st)
    (hs : RkDn f (arrOf st) n) (h : ∀ x q st', SBase a₀ st' → n ≤ x → x ≤ m → Fall f (arrOf st') x q → Q (none, x, q) st') :
    wpS (model prog w) A E s (descLoop n m) Q st := by
  unfold descLoop
  refine wpS_forRange (I := fun x c st' => ∃ q, c = (none, x, q) ∧ SBase a₀ st' ∧ Fall f (arrOf st') x q) ?_ ?_ ⟨0, rfl, hB, hs, by omega, fun i a b => by rw [show i = n - 1 by omega]⟩
  · rintro x c st' a b ⟨q, rfl, hB', hF⟩
    have hz : x ≤ (arrOf st').size := by rw [hB'.size]; omega
    refine wpS_bind (hc st' x (x - 1) _ hB' (by omega) (by omega) (by omega) ?_)
    by_cases hlt : RkAt f (arrOf st') x < RkAt f (arrOf st') (x - 1)
    · simp only [hlt, decide_true, if_true]
      by_cases hq : q > 0
      · rw [if_pos hq]
        exact wpS_bind (wpS_reverse (wpS_pure ⟨0, rfl, hB'.setArr (mirror_perm _ _ _ _), dn_step hF.dn (rk_flip hz hF.same) (by omega), by omega, fun i a b => by congr 1; omega⟩))
      · rw [if_neg hq]
        exact wpS_pure ⟨0, rfl, hB', dn_step hF.dn (fun _ => rfl) (by omega), by omega, fun i a b => by congr 1; omega⟩
    · simp only [hlt, decide_false, Bool.false_eq_true, if_false]
      refine wpS_bind (hc st' (x - 1) x _ hB' (by omega) (by omega) (by omega) ?_)
      by_cases hgt : RkAt f (arrOf st') (x - 1) < RkAt f (arrOf st') x
      · simp only [hgt, decide_true, if_true]
        exact wpS_pure (h x q st' hB' a (by omega) hF)
      · simp only [hgt, decide_false, Bool.false_eq_true, if_false]
        have e : RkAt f (arrOf st') x = RkAt f (arrOf st') (x - 1) := by omega
        have hq := hF.len
        refine wpS_pure ⟨q + 1, rfl, hB', dn_step hF.dn (fun _ => rfl) (by omega), by omega, fun i i1 i2 => ?_⟩
        rw [show x + 1 - 1 = x by omega, e]
        by_cases hi : i = x
        · subst hi; exact e
        · exact hF.same i (by omega) (by omega)
  · rintro c st' ⟨q, rfl, hB', hF⟩
    rw [show max n m = m by omega] at hF ⊢
    exact h m q st' hB' hn (Nat.le_refl _) hF

theorem down_part (hc : CmpOk prog w A E s f a₀) {st : SortSt} {n m : Nat} {Q : Option Nat → SortSt → Prop} (hm : m ≤ a₀.size) (hn : n + 1 ≤ m) (hB : SBase a₀ st)
    (hs : RkDn f (arrOf st) (n + 1)) (h : RunPost f a₀ m Q) : wpS (model prog w) A E s (descPart n m) Q st := by
  unfold descPart
  refine wpS_bind (wpS_lift (wpAny_rule ⟨rfl, ?_⟩))
  refine wpS_bind (down_run hc hm (by omega) hn hB hs fun x q st' hB' a b hF => ?_)
  dsimp only
  have hz : x ≤ (arrOf st').size := by rw [hB'.size]; omega
  by_cases hq : q > 0
  · rw [if_pos hq]
    refine wpS_bind (wpS_reverse (turn_tail hc hm (by omega) b (hB'.setArr (mirror_perm _ _ _ _)) ?_ h))
    intro i j hij hj
    show RkAt f (mirror (arrOf st') _ _ _) j ≤ RkAt f (mirror (arrOf st') _ _ _) i
    rw [rk_flip hz hF.same, rk_flip hz hF.same]
    exact hF.dn i j hij hj
  · rw [if_neg hq]
    exact turn_tail hc hm (by omega) b hB' hF.dn h

theorem count_run (hc : CmpOk prog w A E s f a₀) {st : SortSt} {m : Nat} {Q : Option Nat → SortSt → Prop} (hm : m ≤ a₀.size) (h1 : 1 ≤ m) (hB : SBase a₀ st) (h : RunPost f a₀ m Q) :
    wpS (model prog w) A E s (countRun' 0 m) Q st := by
  rw [countRun0_eq]
  refine wpS_bind (up_run hc hm (Nat.le_refl 1) h1 hB (fun i j a b => by omega) fun n a b hs hor => ?_)
  dsimp only
  by_cases hn : n = m
  · rw [if_pos (by simpa using hn)]
    exact wpS_pure (h n st hB a b hs)
  · rw [if_neg (by simpa using hn)]
    have hlt : RkAt f (arrOf st) n < RkAt f (arrOf st) (n - 1) := hor.resolve_left hn
    by_cases hg : n > 1
    · rw [if_pos hg]
      refine wpS_bind (hc st 0 (n - 1) _ hB (by omega) (by omega) (by omega) ?_)
      by_cases hr : RkAt f (arrOf st) 0 < RkAt f (arrOf st) (n - 1)
      · simp only [hr, decide_true, if_true]
        exact wpS_pure (h n st hB a b hs)
      · simp only [hr, decide_false, Bool.false_eq_true, if_false]
        have hz : n ≤ (arrOf st).size := by rw [hB.size]; omega
        have he : ∀ k, 0 ≤ k → k < n → RkAt f (arrOf st) k = RkAt f (arrOf st) (n - 1) := fun k _ hk => by
          have a1 := rk_le hs (show 0 ≤ k by omega) hk
          have a2 := rk_le hs (show k ≤ n - 1 by omega) (by omega)
          omega
        refine wpS_bind (wpS_reverse (down_part hc hm (by omega) (hB.setArr (mirror_perm _ _ _ _)) ?_ h))
        have hd : RkDn f (arrOf st) n := fun i j c d => by rw [he i (by omega) (by omega), he j (by omega) d]; exact Int.le_refl _
        exact dn_step hd (rk_flip hz he) (by omega)
    · rw [if_neg hg]
      have e : n = 1 := by omega
      subst e
      exact down_part hc hm (by omega) hB (dn_step (fun i j c d => by omega) (fun _ => rfl) (by omega)) h
end
end Mine
end

section
open PySem PySem.W PyProof.Rows
set_option Elab.async false
namespace Mine
section
variable {prog : Program} {w : World} {A : Around} {E : Value → Shared → Prop} {s : Shared} {a₀ : Array Keyed} {f : Value → Int}

def RkDone (f : Value → Int) (a₀ : Array Keyed) (st : SortSt) : Prop :=
  (arrOf st).Perm a₀ ∧ failedOf st = none ∧ pendingOf st = #[(0, a₀.size, 0)] ∧ RkUp f (arrOf st) a₀.size

theorem rk_done {st : SortSt} (hB : SBase a₀ st) (hs : RkUp f (arrOf st) a₀.size) : RkDone f a₀ (setPending st ((pendingOf st).push (0, a₀.size, 0))) :=
  ⟨hB.perm, hB.failed, by show (pendingOf st).push _ = _; rw [hB.pend]; rfl, hs⟩

theorem sort_runs (hc : CmpOk prog w A E s f a₀) {st : SortSt} {Q : Unit → SortSt → Prop} (hB : SBase a₀ st) (h2 : 2 ≤ a₀.size) (h64 : a₀.size < 64)
    (h : ∀ st', (arrOf st').Perm a₀ → failedOf st' = none → RkUp f (arrOf st') a₀.size → Q () st') : wpS (model prog w) A E s sortRuns' Q st := by
  rw [sortRuns'_eq]
  refine wpS_bind (wpS_get ?_)
  dsimp only
  have hmr : minRun' a₀.size a₀.size 0 = a₀.size := by
    obtain ⟨k, hk⟩ : ∃ k, a₀.size = k + 1 := ⟨a₀.size - 1, by omega⟩
    have : minRun' (k + 1) a₀.size 0 = a₀.size := by rw [minRun'_succ, if_pos h64]; rfl
    rwa [← hk] at this
  simp only [hB.size, hmr]
  refine wpS_bind (wpS_mono (wpS_forRange
    (I := fun x c st' => (x = 0 ∧ c = (none, 0) ∧ SBase a₀ st') ∨ (1 ≤ x ∧ c = (none, a₀.size) ∧ RkDone f a₀ st'))
    (Q := fun c st' => c = (none, a₀.size) ∧ RkDone f a₀ st') ?_ ?_ (.inl ⟨rfl, rfl, hB⟩)) ?_)
  · rintro x c st' _ hx (⟨rfl, rfl, hB'⟩ | ⟨hx1, rfl, hD⟩)
    · dsimp only
      rw [if_neg (by omega)]
      simp only [Nat.sub_zero, Nat.min_self, Nat.zero_add]
      refine wpS_bind (count_run hc (Nat.le_refl _) (by omega) hB' fun m st2 hB2 hm1 hm2 hs2 => ?_)
      dsimp only
      by_cases hlt : m < a₀.size
      · rw [if_pos hlt]
        refine wpS_bind (wpS_lift (wpAny_rule ⟨rfl, ?_⟩))
        refine wpS_bind (bin_sort hc (Nat.le_refl _) hm2 hB2 hs2 fun st3 hB3 hs3 => ?_)
        simp only [Bool.not_true, Bool.false_eq_true, if_false]
        refine wpS_bind (wpS_get ?_)
        have hb : (pendingOf st3).back? = none := by rw [hB3.pend]; rfl
        rw [hb]
        dsimp only
        exact wpS_bind (wpS_modify (wpS_pure (.inr ⟨by omega, rfl, rk_done hB3 hs3⟩)))
      · rw [if_neg hlt]
        have hm : m = a₀.size := by omega
        subst hm
        refine wpS_bind (wpS_get ?_)
        have hb : (pendingOf st2).back? = none := by rw [hB2.pend]; rfl
        rw [hb]
        dsimp only
        exact wpS_bind (wpS_modify (wpS_pure (.inr ⟨by omega, rfl, rk_done hB2 hs2⟩)))
    · dsimp only
      rw [if_pos (Nat.le_refl _)]
      exact wpS_pure ⟨rfl, hD⟩
  · rintro c st' (⟨hx, _, _⟩ | ⟨_, hc', hD⟩)
    · omega
    · exact ⟨hc', hD⟩
  · rintro c st' ⟨rfl, hD⟩
    dsimp only
    refine wpS_bind (wpS_mono (wpS_forRange (I := fun _ c st'' => st'' = st' ∧ c = (none, ())) (Q := fun c st'' => st'' = st' ∧ c = (none, ())) ?_ (fun _ _ hh => hh) ⟨rfl, rfl⟩) ?_)
    · rintro x c st'' _ _ ⟨rfl, rfl⟩
      refine wpS_bind (wpS_get ?_)
      rw [if_pos (by rw [hD.2.2.1]; exact Nat.le_refl 1)]
      exact wpS_pure ⟨rfl, rfl⟩
    · rintro c st'' ⟨rfl, rfl⟩
      exact wpS_pure (h _ hD.1 hD.2.1 hD.2.2.2)
end
end Mine
end

section
open PySem PySem.W PyProof.Rows
open PySem.AutoSeq1 (wpAny_loadPart')
open PySem.MeetsSeq
set_option Elab.async false
set_option maxRecDepth 100000
namespace Mine

theorem lt_loop {l b : Addr} {xs ys : Array Value} {n n2 : Nat} {x y : Int} {t u : Tok} (hx : xs[0]? = some (.int x t)) (hy : ys[0]? = some (.int y u)) (hne : x ≠ y) :
    Meets (Builtin.«list.__eq__.loop» ⟨[.ref l, .ref b, rawInt 0, rawInt 0], []⟩)
      (fun A R s => s.heap.get? l = some (seqObj "list" xs n) ∧ s.heap.get? b = some (seqObj "list" ys n2) ∧
        R (.ok (.ret (.bool (decide (x < y))))) s) := by
  intro prog w A R s h
  obtain ⟨hp, g, d, tk, os⟩ := s; obtain ⟨hl, hb, h⟩ := h
  wp_walk using wpAny_loadPart' hl, wpAny_loadPart' hb
  rw [show ((0:Int).toNat) = 0 from rfl, hx, hy]
  refine wpAny_bind (wpAny_eqBool_int ?_)
  rw [show (x == y) = false by simpa using hne]
  wp_walk using wpAny_loadPart' hl, wpAny_loadPart' hb
  rw [hx, hy]
  dsimp only
  refine wpAny_bind (wpAny_richCompare_same (typeIs_int _ x t) (typeIs_int _ y u) slot_int_lt (call_int_lt ⟨by simp, ?_⟩))
  exact wpAny_pure h

theorem list_lt {l b : Addr} {xs ys : Array Value} {n n2 : Nat} {x y : Int} {t u : Tok} (hx : xs[0]? = some (.int x t)) (hy : ys[0]? = some (.int y u)) (hne : x ≠ y) :
    Meets (Builtin.«list.__lt__» ⟨[.ref l, .ref b], []⟩)
      (fun A R s => s.heap.get? l = some (seqObj "list" xs n) ∧ s.heap.get? b = some (seqObj "list" ys n2) ∧
        R (.ok (.ret (.bool (decide (x < y))))) s) := by
  intro prog w A R s h
  obtain ⟨hp, g, d, tk, os⟩ := s; obtain ⟨hl, hb, h⟩ := h
  have f3 := AutoSeq1.sub_list_list
  wp_walk using wpAny_loadPart' hl, wpAny_loadPart' hb
  exact ⟨plainId_quiet MeetsSeq3.plain_eq_loop _, codeAny_builtin MeetsSeq3.entry_eq_loop (by
    rw [Around.under_plainId MeetsSeq3.plain_eq_loop _]
    exact lt_loop hx hy hne prog w A R _ ⟨hl, hb, h⟩)⟩

theorem one_lt {prog : Program} {w : World} {A : Around} {E : Value → Shared → Prop} {s : Shared} {l b : Addr} {xs ys : Array Value} {n n2 : Nat} {x y : Int} {t u : Tok}
    (hl : s.heap.get? l = some (seqObj "list" xs n)) (hb : s.heap.get? b = some (seqObj "list" ys n2)) (hx : xs[0]? = some (.int x t)) (hy : ys[0]? = some (.int y u)) (hne : x ≠ y) (hu : A.units < cLine)
    {Q : Bool → Shared → Prop} (h : Q (decide (x < y)) s) : wpAny (model prog w) A (oneLt' true (.ref l) (.ref b)) Q E s := by
  rw [oneLt'_eq]
  simp only [if_true]
  refine wpAny_bind (wpAny_cRoomFor hu ?_)
  refine wpAny_bind (wpAny_callSpecialIfBound?_slot (T := "list") ⟨_, hl, rfl⟩ F.slot_list_lt (call_meets F.slot_list_lt ⟨_, hl, rfl⟩ F.entry_list_lt (F.args_list_lt_2 _ _) (list_lt hx hy hne) ⟨hl, hb, ?_⟩))
  exact wpAny_truthy_bool h
end Mine
end

section
open PySem PySem.W PyProof.Rows
set_option Elab.async false
set_option maxRecDepth 100000
namespace Mine

/-- the value tells a list whose first item is its rank -/
def RkV (f : Value → Int) (h : Heap) (v : Value) : Prop :=
  ∃ (l : Addr) (xs : Array Value) (n : Nat) (t : Tok), v = .ref l ∧ h.get? l = some (seqObj "list" xs n) ∧ xs[0]? = some (.int (f v) t)
theorem RkV.keeps {f : Value → Int} {h h' : Heap} {v : Value} (x : RkV f h v) (hk : ∀ b o, h.get? b = some o → h'.get? b = some o) : RkV f h' v :=
  let ⟨l, xs, n, t, a, b, c⟩ := x; ⟨l, xs, n, t, a, hk _ _ b, c⟩

theorem zip_self : ∀ vs : List Value, vs.zip vs = vs.map fun v => (v, v)
  | [] => rfl
  | v :: vs => by rw [List.zip_cons_cons, zip_self vs]; rfl
theorem pairs_mem {vs : List Value} {p : Keyed} (h : p ∈ (pairsOf vs).toList) : p.1 ∈ vs ∧ p.2 = p.1 := by
  rw [pairsOf_toList] at h
  rw [zip_self] at h
  obtain ⟨v, hv, rfl⟩ := List.mem_map.mp h
  exact ⟨hv, rfl⟩
theorem pairs_map {β : Type} (g : Keyed → β) (vs : List Value) : ((pairsOf vs).toList.map g) = vs.map fun v => g (v, v) := by
  rw [pairsOf_toList, zip_self, List.map_map]
  rfl

section
variable {prog : Program} {w : World} {A : Around} {E : Value → Shared → Prop} {s : Shared} {f : Value → Int} {vs : List Value}

theorem at_keyed {st : SortSt} (hB : SBase (pairsOf vs) st) {i : Nat} (hi : i < (pairsOf vs).size) : ∃ v, v ∈ vs ∧ (arrOf st)[i]? = some (v, v) := by
  have hi' : i < (arrOf st).size := by rw [hB.size]; exact hi
  have hm : (arrOf st)[i] ∈ (pairsOf vs).toList := (Array.perm_iff_toList_perm.mp hB.perm).mem_iff.mp (by simp)
  obtain ⟨h1, h2⟩ := pairs_mem hm
  refine ⟨_, h1, ?_⟩
  rw [getElem?_pos _ i hi']
  exact congrArg some (Prod.ext rfl h2)

theorem rk_ne {st : SortSt} (hB : SBase (pairsOf vs) st) (hd : (vs.map f).Nodup) {i j : Nat} (hi : i < (pairsOf vs).size) (hj : j < (pairsOf vs).size) (hij : i ≠ j) : RkAt f (arrOf st) i ≠ RkAt f (arrOf st) j := by
  have hp : ((arrOf st).toList.map fun p => f p.1).Perm ((pairsOf vs).toList.map fun p => f p.1) := (Array.perm_iff_toList_perm.mp hB.perm).map _
  rw [pairs_map] at hp
  have hn : ((arrOf st).toList.map fun p => f p.1).Nodup := hp.nodup_iff.mpr hd
  have hsz := hB.size
  have hi' : i < (arrOf st).size := by omega
  have hj' : j < (arrOf st).size := by omega
  have e : ∀ k, (hk : k < (arrOf st).size) → RkAt f (arrOf st) k = ((arrOf st).toList.map fun p => f p.1)[k]'(by simpa using hk) := fun k hk => by
    unfold RkAt
    rw [getElem?_pos _ k hk]
    simp
  rw [e i hi', e j hj']
  intro q
  rcases Nat.lt_or_gt_of_ne hij with c | c
  · exact List.pairwise_iff_getElem.mp hn i j (by simpa using hi') (by simpa using hj') c q
  · exact List.pairwise_iff_getElem.mp hn j i (by simpa using hj') (by simpa using hi') c q.symm

theorem cmp_ok (hv : ∀ v ∈ vs, RkV f s.heap v) (hd : (vs.map f).Nodup) (hu : A.units < cLine) : CmpOk prog w A E s f (pairsOf vs) := by
  intro st i j Q hB hi hj hij h
  obtain ⟨u, hu1, e1⟩ := at_keyed hB hi
  obtain ⟨v, hv1, e2⟩ := at_keyed hB hj
  have hne := rk_ne hB hd hi hj hij
  have r1 : RkAt f (arrOf st) i = f u := by unfold RkAt; rw [e1]
  have r2 : RkAt f (arrOf st) j = f v := by unfold RkAt; rw [e2]
  rw [r1, r2] at hne h
  obtain ⟨l, xs, n, t, rfl, a1, a2⟩ := hv _ hu1
  obtain ⟨l', ys, n', t', rfl, b1, b2⟩ := hv _ hv1
  rw [ltAt'_eq]
  refine wpS_bind (wpS_get ?_)
  show wpS _ _ _ _ (do let x ← elem' (arrOf st) i; let y ← elem' (arrOf st) j; lt' x y) Q st
  rw [elem'_eq, elem'_eq, e1, e2]
  refine wpS_bind (wpS_pure (wpS_bind (wpS_pure ?_)))
  rw [lt'_eq]
  refine wpS_bind (wpS_get ?_)
  rw [hB.kind, keyLt'_oneType]
  refine wpS_bind (wpS_lift (wpAny_attempt (one_lt a1 b1 a2 b2 hne hu ⟨rfl, ?_⟩)))
  exact wpS_pure h

/-- what the sort gives -/
def SortedBy (f : Value → Int) (vs out : List Value) : Prop := out.Perm vs ∧ out.Pairwise (fun u v => f u ≤ f v)

theorem sorted_by {st : SortSt} (hp : (arrOf st).Perm (pairsOf vs)) (hs : RkUp f (arrOf st) (pairsOf vs).size) : SortedBy f vs ((arrOf st).map (·.2)).toList := by
  have hl : (arrOf st).toList.Perm (pairsOf vs).toList := Array.perm_iff_toList_perm.mp hp
  have e : ((arrOf st).map (·.2)).toList = (arrOf st).toList.map (·.2) := Array.toList_map
  rw [e]
  refine ⟨?_, ?_⟩
  · have := hl.map (fun p => p.2)
    rw [pairs_map] at this
    simpa using this
  · rw [List.pairwise_iff_getElem]
    intro i j hi hj hij
    have hi' : i < (arrOf st).size := by simpa using hi
    have hj' : j < (arrOf st).size := by simpa using hj
    have hsz := hp.size_eq
    have := hs i j hij (by omega)
    unfold RkAt at this
    rw [getElem?_pos _ i hi', getElem?_pos _ j hj'] at this
    have h2 : ∀ k, (hk : k < (arrOf st).size) → ((arrOf st)[k]).2 = ((arrOf st)[k]).1 := fun k hk => (pairs_mem (hl.mem_iff.mp (by simp))).2
    simpa [h2 i hi', h2 j hj'] using this

theorem list_sort_rank {a : Addr} {n : Nat} {P : PySem.Fin → Shared → Prop} (ho : s.heap.get? a = some (seqObj "list" vs.toArray n)) (hv : ∀ v ∈ vs, RkV f s.heap v ∧ v ≠ .ref a) (hd : (vs.map f).Nodup) (hu : A.units < cLine) (h64 : vs.length < 64)
    (h : ∀ out : List Value, SortedBy f vs out → P (.done (.ret .none)) { s with heap := sortedHeap s.heap a vs out.toArray }) :
    wpAny (model prog w) A (Builtin.«list.sort» ⟨[.ref a], []⟩) P E s := by
  rw [list_sort_plain]
  have ha : a < s.heap.objs.size := Heap.lt_size ho
  refine wpAny_bind (listItems_at ho rfl ?_)
  refine wpAny_bind (listUpdate_at ho rfl ?_)
  obtain ⟨e1, ho1⟩ : ∃ e1, (s.heap.update a (Obj.mapSeq fun _ => #[])).get? a = some (seqObj "list" #[] e1) := ⟨_, get?_update_seq ho (fun _ => #[])⟩
  refine wpAny_bind (seqEpoch_at ho1 rfl ?_)
  refine wpAny_bind (wpAny_newTuple ?_)
  refine wpAny_bind (wpAny_newList ?_)
  refine wpAny_holding ?_
  have ho6 : (((s.heap.update a (Obj.mapSeq fun _ => #[])).push (seqObj "tuple" vs.toArray 0)).push (seqObj "list" #[] 0)).get? a = some (seqObj "list" #[] e1) := by
    rw [Heap.get?_push_ne _ _ _ (by rw [size_push', Heap.size_update]; exact Nat.ne_of_lt (Nat.lt_succ_of_lt ha)), Heap.get?_push_ne _ _ _ (by rw [Heap.size_update]; exact Nat.ne_of_lt ha)]
    exact ho1
  have keep : ∀ b o, b ≠ a → s.heap.get? b = some o → (((s.heap.update a (Obj.mapSeq fun _ => #[])).push (seqObj "tuple" vs.toArray 0)).push (seqObj "list" #[] 0)).get? b = some o := fun b o hb e =>
    Heap.get?_push_of_some _ (Heap.get?_push_of_some _ ((Heap.get?_update_ne _ _ _ _ hb).trans e))
  have hv' : ∀ v ∈ vs, RkV f (((s.heap.update a (Obj.mapSeq fun _ => #[])).push (seqObj "tuple" vs.toArray 0)).push (seqObj "list" #[] 0)) v := fun v hm => by
    obtain ⟨⟨l, xs, n, t, rfl, b1, b2⟩, hne⟩ := hv v hm
    exact ⟨l, xs, n, t, rfl, keep l _ (fun q => hne (by rw [q])) b1, b2⟩
  show wpAny (model prog w) A _ P E { s with heap := ((s.heap.update a (Obj.mapSeq fun _ => #[])).push (seqObj "tuple" vs.toArray 0)).push (seqObj "list" #[] 0) }
  dsimp only
  have hsz : vs.toArray.size = vs.length := by simp
  have fin : ∀ st' : SortSt, (arrOf st').Perm (pairsOf vs) → RkUp f (arrOf st') (pairsOf vs).size → P (.done (.ret .none)) { s with heap := sortedHeap s.heap a vs ((arrOf st').map (·.2)) } := fun st' a1 a2 => by
    have := h _ (sorted_by a1 a2)
    rw [Array.toArray_toList] at this
    exact this
  by_cases h2 : vs.toArray.size < 2
  · rw [if_pos h2, if_pos h2]
    refine wpAny_bind (wpAny_pure ?_)
    rw [StateT.run_pure]
    refine wpAny_bind (wpAny_pure ?_)
    dsimp only
    refine wpAny_bind (seqEpoch_at ho6 rfl ?_)
    refine wpAny_bind (listUpdate_at ho6 rfl ?_ (hsz2 := by rw [Array.size_map]; show (pairsOf vs).size ≤ _; rw [pairsOf_size, sizeLine_eq]; omega))
    simp only [bne_self_eq_false, Bool.false_eq_true, if_false]
    refine wpAny_pure (fin (SortSt.mk' general' (vs.toArray.zip vs.toArray) #[] 7 none) (Array.Perm.refl _) ?_)
    intro i j hij hj
    rw [pairsOf_size] at hj; omega
  · rw [if_neg h2, if_neg h2]
    refine wpAny_bind (kas_kind (T := .type "list") (by omega) (fun v hm => ?_) (by decide) (by decide) ?_)
    · obtain ⟨l, xs, n, t, rfl, b1, b2⟩ := hv' v hm
      exact fun A Q E s k q => wpAny_typeOf (T := "list") ⟨_, k _ _ b1, rfl⟩ q
    refine wpAny_bind (wpAny_mono (sort_runs (f := f) (a₀ := pairsOf vs) (st := SortSt.mk' oneType' (vs.toArray.zip vs.toArray) #[] 7 none)
      (Q := fun _ st' => (arrOf st').Perm (pairsOf vs) ∧ failedOf st' = none ∧ RkUp f (arrOf st') (pairsOf vs).size)
      (cmp_ok hv' hd hu) ⟨Array.Perm.refl _, rfl, rfl, rfl⟩ (by rw [pairsOf_size]; omega) (by rw [pairsOf_size]; exact h64) fun st' a1 a2 a3 => ⟨a1, a2, a3⟩) ?_ fun _ _ e => e)
    rintro ⟨⟨⟩, st'⟩ s' ⟨rfl, hp, hf, hs⟩
    dsimp only
    refine wpAny_bind (seqEpoch_at ho6 rfl ?_)
    refine wpAny_bind (listUpdate_at ho6 rfl ?_ (hsz2 := by refine Nat.le_trans (Nat.le_of_eq ((Array.size_map ..).trans (hp.size_eq.trans (pairsOf_size _)))) ?_; rw [sizeLine_eq]; omega))
    rw [hf]
    simp only [bne_self_eq_false, Bool.false_eq_true, if_false]
    exact wpAny_pure (fin st' hp hs)

theorem sorted_rank {l : Addr} {Q : Value → Shared → Prop} (hl : s.heap.IsList l vs.toArray) (hv : ∀ v ∈ vs, RkV f s.heap v) (hd : (vs.map f).Nodup) (hu : A.units + 50 < cLine) (h64 : vs.length < 64)
    (h : ∀ out : List Value, SortedBy f vs out → Q (.ref (s.heap.objs.size + 1)) { s with heap := sortedAll s.heap vs out.toArray }) :
    wpAny (model prog w) A (call (.builtin "sorted") [.ref l]) Q E s := by
  refine Calls.call_function_entry kind_sorted plain_sorted entry_sorted (args_sorted1 _) ?_
  unfold Builtin.«sorted»
  refine wpAny_bind (m := checkCount "sorted" 1 1 _) (wpAny_pure ?_)
  refine wpAny_bind (collect_list hl ?_)
  refine wpAny_bind (wpAny_newList ?_)
  have hsz : ((s.heap.push (seqObj "list" #[] 0)).update s.heap.objs.size (Obj.mapSeq (· ++ vs.toArray))).objs.size = s.heap.objs.size + 1 := by
    rw [Heap.size_update, size_push']
  have hoL : (((s.heap.push (seqObj "list" #[] 0)).update s.heap.objs.size (Obj.mapSeq (· ++ vs.toArray))).push (seqObj "list" vs.toArray 0)).get? (s.heap.objs.size + 1) = some (seqObj "list" vs.toArray 0) := by
    rw [← hsz]; exact Heap.get?_push_size _ rfl
  have keep : ∀ b o, s.heap.get? b = some o → (((s.heap.push (seqObj "list" #[] 0)).update s.heap.objs.size (Obj.mapSeq (· ++ vs.toArray))).push (seqObj "list" vs.toArray 0)).get? b = some o := fun b o q =>
    Heap.get?_push_of_some _ ((Heap.get?_update_ne _ _ _ _ (Nat.ne_of_lt (Heap.lt_size q))).trans (Heap.get?_push_of_some _ q))
  show wpAny _ _ _ _ _ { s with heap := ((s.heap.push (seqObj "list" #[] 0)).update s.heap.objs.size (Obj.mapSeq (· ++ vs.toArray))).push (seqObj "list" vs.toArray 0) }
  rw [hsz]
  have hv' : ∀ v ∈ vs, RkV f (((s.heap.push (seqObj "list" #[] 0)).update s.heap.objs.size (Obj.mapSeq (· ++ vs.toArray))).push (seqObj "list" vs.toArray 0)) v ∧ v ≠ .ref (s.heap.objs.size + 1) := fun v hm => by
    refine ⟨(hv v hm).keeps keep, fun q => ?_⟩
    obtain ⟨l', xs, n, t, rfl, b1, b2⟩ := hv v hm
    cases q
    exact absurd (Heap.lt_size b1) (by show ¬ @LT.lt Nat _ (s.heap.objs.size + 1) _; omega)
  refine wpAny_bind (wpAny_holding (wpAny_call_entry slot_list_sort ⟨_, hoL, rfl⟩ entry_list_sort (list_sort_rank hoL hv' hd ?_ h64 fun out a1 => ⟨_, rfl, ?_⟩) (args_list_sort _)))
  · have e : ∀ A : Around, A.in1.units ≤ A.units + 3 := fun A => by show _ ≤ _; unfold Around.in1; simp
    have e1 := e A.in1
    have e2 := e A
    omega
  · exact wpAny_pure ⟨_, rfl, h out a1⟩
end
end Mine
end

section
open PySem PySem.W PyProof.Rows
set_option Elab.async false
set_option maxRecDepth 100000
namespace Mine

structure Enc {α : Type} [DecidableEq α] (enc : α → PyData) (k : Nat) : Prop where
  eq : ∀ a b, PyData.eqv (enc a) (enc b) = decide (a = b)
  lay : ∀ a, (enc a).canLay0 = true
  dep : ∀ a, (enc a).depth ≤ k
def pI (x : Nat) : PyData := .int (x : Int)
theorem enc_pI : Enc pI 0 := ⟨fun a b => by
  show ((a : Int) == (b : Int)) = _
  by_cases h : a = b
  · subst h; simp
  · have : ¬ (a : Int) = (b : Int) := by omega
    simp [h, this], fun _ => rfl, fun _ => Nat.le_refl _⟩
section
variable {α : Type} [DecidableEq α] {enc : α → PyData} {k : Nat}
theorem Enc.all (e : Enc enc k) : ∀ xs ys : List α, PyData.eqvAll (xs.map enc) (ys.map enc) = decide (xs = ys)
  | [], [] => rfl
  | [], _ :: _ => rfl
  | _ :: _, [] => rfl
  | x :: xs, y :: ys => by
    rw [List.map_cons, List.map_cons, PyData.eqvAll, e.eq, e.all xs ys]
    by_cases h1 : x = y <;> by_cases h2 : xs = ys <;> simp [h1, h2]
theorem Enc.layAll (e : Enc enc k) : ∀ xs : List α, PyData.canLayAll0 (xs.map enc) = true
  | [] => rfl
  | x :: xs => by rw [List.map_cons, PyData.canLayAll0, e.lay, e.layAll xs]; rfl
theorem Enc.depAll (e : Enc enc k) : ∀ xs : List α, PyData.depthAll (xs.map enc) ≤ k
  | [] => by simp [PyData.depthAll]
  | x :: xs => by rw [List.map_cons, PyData.depthAll]; exact Nat.max_le.mpr ⟨e.dep x, e.depAll xs⟩
def pL (enc : α → PyData) (xs : List α) : PyData := .list (xs.map enc)
def pT (enc : α → PyData) (xs : List α) : PyData := .tuple (xs.map enc)
theorem Enc.list (e : Enc enc k) : Enc (pL enc) (k + 1) := ⟨fun a b => (by unfold pL; rw [PyData.eqv]; exact e.all a b), fun a => (by unfold pL; rw [PyData.canLay0]; exact e.layAll a), fun a => (by unfold pL; rw [PyData.depth]; exact Nat.succ_le_succ (e.depAll a))⟩
theorem Enc.tuple (e : Enc enc k) : Enc (pT enc) (k + 1) := ⟨fun a b => (by unfold pT; rw [PyData.eqv]; exact e.all a b), fun a => (by unfold pT; rw [PyData.canLay0]; exact e.layAll a), fun a => (by unfold pT; rw [PyData.depth]; exact Nat.succ_le_succ (e.depAll a))⟩
theorem Enc.any (e : Enc enc k) (xs : List α) (x : α) : ((xs.map enc).any fun y => PyData.eqv y (enc x)) = decide (x ∈ xs) := by
  induction xs with
  | nil => simp
  | cons y ys ih =>
    rw [List.map_cons, List.any_cons, ih, e.eq]
    by_cases h : y = x
    · subst h; simp
    · have h' : ¬ x = y := fun q => h q.symm
      simp [h, h']
end

/-- the values tell these things -/
def Rd {α : Type} (R : Heap → α → Value → Prop) (enc : α → PyData) : Prop := ∀ h a v, R h a v → ∃ as, Reads h v (enc a) as
theorem Rd.all {α : Type} {R : Heap → α → Value → Prop} {enc : α → PyData} (r : Rd R enc) {h : Heap} {xs : List α} {vs : List Value} (p : Paired (R h) xs vs) : ∃ as, ReadsAll h vs (xs.map enc) as := by
  induction p with
  | nil => exact ⟨_, .nil⟩
  | cons a _ ih =>
    obtain ⟨as, ih⟩ := ih
    obtain ⟨bs, hb⟩ := r _ _ _ a
    exact ⟨_, .cons hb ih⟩
def NatV (_ : Heap) (x : Nat) (v : Value) : Prop := ∃ t, v = .int (x : Int) t
theorem rd_nat : Rd NatV pI := fun _ _ _ ⟨t, e⟩ => by subst e; exact ⟨_, .int _ _⟩
/-- a list at v whose items tell these things -/
def LsV {α : Type} (R : Heap → α → Value → Prop) (h : Heap) (xs : List α) (v : Value) : Prop := ∃ l vals, v = .ref l ∧ h.PlainList l vals.toArray ∧ Paired (R h) xs vals
def TpV {α : Type} (R : Heap → α → Value → Prop) (h : Heap) (xs : List α) (v : Value) : Prop := ∃ l vals, v = .ref l ∧ (∃ o, h.get? l = some o ∧ TupP vals o) ∧ Paired (R h) xs vals
theorem Rd.list {α : Type} {R : Heap → α → Value → Prop} {enc : α → PyData} (r : Rd R enc) : Rd (LsV R) (pL enc) := fun h xs v ⟨l, vals, e, ⟨n, ho⟩, p⟩ => by
  subst e
  obtain ⟨as, q⟩ := r.all p
  exact ⟨_, .list ho rfl rfl q⟩
theorem Rd.tuple {α : Type} {R : Heap → α → Value → Prop} {enc : α → PyData} (r : Rd R enc) : Rd (TpV R) (pT enc) := fun h xs v ⟨l, vals, e, ⟨o, ho, n, e2⟩, p⟩ => by
  subst e e2
  obtain ⟨as, q⟩ := r.all p
  exact ⟨_, .tuple ho rfl rfl q⟩
theorem na_paired {h : Heap} {vals : List Value} {xs : List Nat} (x : NA vals xs) : Paired (NatV h) xs vals := by
  unfold NA at x
  generalize hm : (xs.map fun (x : Nat) => (x : Int)) = ms at x
  induction x generalizing xs with
  | nil => cases xs with
    | nil => exact .nil
    | cons _ _ => simp at hm
  | cons n t _ ih =>
    cases xs with
    | nil => simp at hm
    | cons y ys =>
      rw [List.map_cons] at hm
      obtain ⟨h1, h2⟩ := List.cons.inj hm
      subst h1
      exact .cons ⟨t, rfl⟩ (ih h2)
theorem paired_na {h : Heap} {vals : List Value} {xs : List Nat} (x : Paired (NatV h) xs vals) : NA vals xs := by
  unfold NA
  induction x with
  | nil => exact .nil
  | cons a _ ih => obtain ⟨t, rfl⟩ := a; exact .cons _ t ih
/-- it stands as long as what was there stands -/
def Stays {α : Type} (R : Heap → α → Value → Prop) : Prop := ∀ h h' a v, R h a v → (∀ b o, h.get? b = some o → h'.get? b = some o) → R h' a v
theorem stays_nat : Stays NatV := fun _ _ _ _ x _ => x
theorem Stays.list {α : Type} {R : Heap → α → Value → Prop} (r : Stays R) : Stays (LsV R) := fun _ _ _ _ ⟨l, vals, e, p, q⟩ k => ⟨l, vals, e, PlainList.keeps p k, Mine.Paired.mono q fun a b x => r _ _ a b x k⟩
theorem Stays.tuple {α : Type} {R : Heap → α → Value → Prop} (r : Stays R) : Stays (TpV R) := fun _ _ _ _ ⟨l, vals, e, ⟨o, p, p'⟩, q⟩ k => ⟨l, vals, e, ⟨o, k _ _ p, p'⟩, Mine.Paired.mono q fun a b x => r _ _ a b x k⟩
theorem dec_irrel {p : Prop} (d d' : Decidable p) : @decide p d = @decide p d' := by rw [Subsingleton.elim d d']
abbrev NatsV := LsV NatV
abbrev TupV := TpV NatV

section
variable {prog : Program} {w : World} {A : Around} {E : Value → Shared → Prop} {s : Shared} {α : Type} [DecidableEq α] {R : Heap → α → Value → Prop} {enc : α → PyData} {k : Nat}

theorem in_ls {l x : Value} {xs : List α} {a : α} [dd : Decidable (a ∈ xs)] {Q : Value → Shared → Prop} (e : Enc enc k) (r : Rd R enc) (hl : LsV R s.heap xs l) (hx : R s.heap a x) (hu : A.units + 1 + k < cLine) (h : Q (.bool (decide (a ∈ xs))) s) :
    wpAny (model prog w) A (compareOp .In x l) Q E s := by
  obtain ⟨as, r1⟩ := r.list _ _ _ hl
  obtain ⟨bs, r2⟩ := r _ _ _ hx
  exact SeqAt.in_list_reads r1 r2 (e.layAll xs) (e.lay a) (by have := e.dep a; omega) (by rw [e.any, dec_irrel _ dd]; exact h)
theorem notin_ls {l x : Value} {xs : List α} {a : α} [dd : Decidable (a ∈ xs)] {Q : Value → Shared → Prop} (e : Enc enc k) (r : Rd R enc) (hl : LsV R s.heap xs l) (hx : R s.heap a x) (hu : A.units + 1 + k < cLine) (h : Q (.bool (decide (a ∉ xs))) s) :
    wpAny (model prog w) A (compareOp .NotIn x l) Q E s := by
  obtain ⟨as, r1⟩ := r.list _ _ _ hl
  obtain ⟨bs, r2⟩ := r _ _ _ hx
  exact SeqAt.notIn_list_reads r1 r2 (e.layAll xs) (e.lay a) (by have := e.dep a; omega) (by rw [e.any, dec_irrel _ dd, ← decide_not]; exact h)
theorem eq_rd {x y : Value} {a b : α} {Q : Value → Shared → Prop} (e : Enc enc k) (r : Rd R enc) (hx : R s.heap a x) (hy : R s.heap b y) (hu : A.units + k < cLine) (h : Q (.bool (decide (a = b))) s) :
    wpAny (model prog w) A (compareOp .Eq x y) Q E s := by
  obtain ⟨as, r1⟩ := r _ _ _ hx
  obtain ⟨bs, r2⟩ := r _ _ _ hy
  exact SeqAt.compareEq_reads r1 r2 (e.lay a) (e.lay b) (by have := e.dep a; omega) (by rw [e.eq]; exact h)
theorem ne_rd {x y : Value} {a b : α} {Q : Value → Shared → Prop} (e : Enc enc k) (r : Rd R enc) (hx : R s.heap a x) (hy : R s.heap b y) (hu : A.units + k < cLine) (h : Q (.bool (decide (a ≠ b))) s) :
    wpAny (model prog w) A (compareOp .NotEq x y) Q E s := by
  obtain ⟨as, r1⟩ := r _ _ _ hx
  obtain ⟨bs, r2⟩ := r _ _ _ hy
  exact SeqAt.compareNe_reads r1 r2 (e.lay a) (e.lay b) (by have := e.dep a; omega) (by rw [e.eq, ← decide_not]; exact h)
end

section
variable {prog : Program} {w : World} {A : Around} {E : Value → Shared → Prop} {s : Shared}

theorem k_sorted {vs out : List Value} : Keeps s { s with heap := sortedAll s.heap vs out.toArray } := ⟨_, s.toks, rfl, fun _ _ => sortedAll_old⟩
theorem at_sorted {vs out : List Value} : (sortedAll s.heap vs out.toArray).PlainList (s.heap.objs.size + 1) out.toArray := sortedAll_at s.heap vs out.toArray

theorem sorted_nats {l : Value} {xs : List Nat} {Q : Value → Shared → Prop} (hl : NatsV s.heap xs l) (h64 : xs.length < 64)
    (h : ∀ v s' ys, Keeps s s' → NatsV s'.heap ys v → ys.Perm xs → ys.Pairwise (· ≤ ·) → (∀ D, v = .ref D → s.heap.objs.size < D) → Q v s') : wpAny (model prog w) A (call (.builtin "sorted") [l]) Q E s := by
  obtain ⟨a, vals, rfl, hp, hv⟩ := hl
  have hna := paired_na hv
  have hlen := hna.length
  refine sorted_ints hp.isList (ns := xs.map fun (x : Nat) => (x : Int)) hna (by omega) fun out ns' h1 h2 h3 => ?_
  have hnn : ∀ z ∈ ns', 0 ≤ z := fun z hz => by
    obtain ⟨x, _, rfl⟩ := List.mem_map.mp (h2.mem_iff.mp hz)
    exact Int.natCast_nonneg x
  have e : (ns'.map Int.toNat).map (fun (x : Nat) => (x : Int)) = ns' := by
    rw [List.map_map]
    conv => rhs; rw [← List.map_id ns']
    exact List.map_congr_left fun z hz => Int.toNat_of_nonneg (hnn z hz)
  refine h _ _ (ns'.map Int.toNat) (k_sorted (out := out.toList)) ⟨_, out.toList, rfl, at_sorted, na_paired (by unfold NA; rw [e]; exact h1)⟩ ?_ ?_ fun D q => by cases q; exact Nat.lt_succ_self _
  · have := h2.map Int.toNat
    rw [List.map_map] at this
    have e2 : xs.map (Int.toNat ∘ fun (x : Nat) => (x : Int)) = xs := by
      conv => rhs; rw [← List.map_id xs]
      exact List.map_congr_left fun z _ => Int.toNat_natCast z
    rwa [e2] at this
  · rw [List.pairwise_map]
    exact h3.imp fun {a b} q => by omega

/-- the first item of the list at a value -/
def headOf (h : Heap) : Value → Int
  | .ref l => match h.get? l with
    | some o => match o.data with
      | .seq xs _ => numOf (xs[0]?.getD .none)
      | _ => 0
    | none => 0
  | _ => 0
theorem head_of {h : Heap} {xs : List Nat} {v : Value} (x : NatsV h xs v) (hne : xs ≠ []) : RkV (headOf h) h v ∧ headOf h v = (xs.headD 0 : Nat) := by
  obtain ⟨l, vals, rfl, ⟨n, ho⟩, p⟩ := x
  cases p with
  | nil => exact absurd rfl hne
  | @cons a b l₁ l₂ hb _ =>
    obtain ⟨t, rfl⟩ := hb
    have e : headOf h (.ref l) = (a : Int) := by unfold headOf; dsimp only; rw [ho]; rfl
    refine ⟨⟨l, _, n, t, rfl, ho, ?_⟩, by rw [e]; rfl⟩
    rw [e]; rfl
theorem paired_perm {α β : Type} {F : α → β → Prop} {bs out : List β} (hp : out.Perm bs) : ∀ {as : List α}, Paired F as bs → ∃ as', as'.Perm as ∧ Paired F as' out := by
  induction hp with
  | nil => intro as p; exact ⟨as, List.Perm.refl _, p⟩
  | cons x _ ih =>
    intro as p
    cases p with
    | cons hx p =>
      obtain ⟨as', h1, h2⟩ := ih p
      exact ⟨_ :: as', h1.cons _, .cons hx h2⟩
  | swap x y l =>
    intro as p
    cases p with
    | cons hx p =>
      cases p with
      | cons hy p => exact ⟨_, List.Perm.swap _ _ _, .cons hy (.cons hx p)⟩
  | trans _ _ ih1 ih2 =>
    intro as p
    obtain ⟨as', h1, h2⟩ := ih2 p
    obtain ⟨as'', h3, h4⟩ := ih1 h2
    exact ⟨as'', h3.trans h1, h4⟩
theorem paired_pairwise {α β : Type} {F : α → β → Prop} {P : α → α → Prop} {Q : β → β → Prop} {as : List α} {bs : List β} (p : Paired F as bs) (hq : bs.Pairwise Q) (h : ∀ a a' b b', a ∈ as → a' ∈ as → F a b → F a' b' → Q b b' → P a a') : as.Pairwise P := by
  induction p with
  | nil => exact .nil
  | @cons a b l₁ l₂ hx p ih =>
    rw [List.pairwise_cons] at hq ⊢
    refine ⟨fun a' ha' => ?_, ih hq.2 fun a a' b b' h1 h2 => h a a' b b' (.tail _ h1) (.tail _ h2)⟩
    have : ∃ b', b' ∈ l₂ ∧ F a' b' := by
      clear ih hq h
      induction p with
      | nil => cases ha'
      | cons hy _ ih =>
        rcases List.mem_cons.mp ha' with rfl | ha'
        · exact ⟨_, .head _, hy⟩
        · obtain ⟨b', h1, h2⟩ := ih ha'
          exact ⟨b', .tail _ h1, h2⟩
    obtain ⟨b', h1, h2⟩ := this
    exact h a a' b b' (.head _) (.tail _ ha') hx h2 (hq.1 b' h1)

/-- sorting lists by their first items, which are all different -/
theorem sorted_lists {l : Value} {xss : List (List Nat)} {Q : Value → Shared → Prop} (hl : LsV NatsV s.heap xss l) (h64 : xss.length < 64) (hne : ∀ xs ∈ xss, xs ≠ []) (hd : (xss.map fun xs => xs.headD 0).Nodup) (hu : A.units + 50 < cLine)
    (h : ∀ v s' yss, Keeps s s' → LsV NatsV s'.heap yss v → yss.Perm xss → yss.Pairwise (fun a b => a.headD 0 ≤ b.headD 0) → (∀ D, v = .ref D → s.heap.objs.size < D) → Q v s') : wpAny (model prog w) A (call (.builtin "sorted") [l]) Q E s := by
  obtain ⟨a, vals, rfl, hp, hv⟩ := hl
  have hlen := hv.length
  have hf : ∀ {as : List (List Nat)} {bs : List Value}, Paired (NatsV s.heap) as bs → (∀ xs ∈ as, xs ≠ []) → bs.map (headOf s.heap) = as.map fun xs => ((xs.headD 0 : Nat) : Int) := fun {as bs} p => by
    induction p with
    | nil => intro _; rfl
    | cons hx _ ih =>
      intro hn
      rw [List.map_cons, List.map_cons, ih fun xs hm => hn xs (.tail _ hm), (head_of hx (hn _ (.head _))).2]
  have hr : ∀ {as : List (List Nat)} {bs : List Value}, Paired (NatsV s.heap) as bs → (∀ xs ∈ as, xs ≠ []) → ∀ v ∈ bs, RkV (headOf s.heap) s.heap v := fun {as bs} p => by
    induction p with
    | nil => intro _ v hv; cases hv
    | cons hx _ ih =>
      intro hn v hv
      rcases List.mem_cons.mp hv with rfl | hv
      · exact (head_of hx (hn _ (.head _))).1
      · exact ih (fun xs hm => hn xs (.tail _ hm)) v hv
  refine sorted_rank (f := headOf s.heap) hp.isList (hr hv hne) ?_ hu (by omega) fun out ⟨h1, h2⟩ => ?_
  · rw [hf hv hne, show (fun xs : List Nat => ((xs.headD 0 : Nat) : Int)) = (fun (x : Nat) => (x : Int)) ∘ fun xs => xs.headD 0 from rfl, ← List.map_map]
    exact List.Pairwise.map _ (fun a b q e => q (Int.ofNat.inj e)) hd
  · obtain ⟨yss, q1, q2⟩ := paired_perm h1 hv
    have hne' : ∀ xs ∈ yss, xs ≠ [] := fun xs hm => hne xs (q1.mem_iff.mp hm)
    refine h _ _ yss (k_sorted (out := out)) ⟨_, out, rfl, at_sorted, Mine.Paired.mono q2 fun a b x => stays_nat.list _ _ _ _ x fun _ _ => sortedAll_old⟩ q1 ?_ fun D q => by cases q; exact Nat.lt_succ_self _
    refine paired_pairwise q2 h2 fun a a' b b' m1 m2 x1 x2 q => ?_
    rw [(head_of x1 (hne' _ m1)).2, (head_of x2 (hne' _ m2)).2] at q
    omega
end
end Mine
end

section
open PySem PySem.W PyProof.Rows
set_option Elab.async false
set_option maxRecDepth 100000
namespace Mine
local macro_rules | `(tactic| walk_at "mem") => `(tactic| repeat (first | exact List.Mem.head _ | apply List.Mem.tail))

theorem Upd.over {l l' : Ledger} {a : Addr} {P P' : OP} (u : Upd l a P P' l') : ∀ L : Ledger, Upd (L ++ l) a P P' (L ++ l')
  | [] => u
  | _ :: L => .tail (u.over L)
/-- all that stood in B stands in B' -/
structure Sub (B B' : Shared) : Prop where
  keep : ∀ b o, B.heap.get? b = some o → B'.heap.get? b = some o
  gens : B'.gens = B.gens
  drawn : B'.drawn = B.drawn
  os : B'.os = B.os
theorem Sub.refl (B : Shared) : Sub B B := ⟨fun _ _ e => e, rfl, rfl, rfl⟩
theorem Sub.trans {A B C : Shared} (x : Sub A B) (y : Sub B C) : Sub A C := ⟨fun b o e => y.keep b o (x.keep b o e), y.gens.trans x.gens, y.drawn.trans x.drawn, y.os.trans x.os⟩

theorem Sub.keeps {B₀ B s : Shared} (x : Sub B₀ B) (y : Keeps B s) : Keeps B₀ s := by
  obtain ⟨h, t, rfl, k⟩ := y
  refine ⟨h, t, ?_, fun b o e => k b o (x.keep b o e)⟩
  obtain ⟨_, hg, hd, ho⟩ := x
  obtain ⟨h0, g0, d0, t0, o0⟩ := B₀
  obtain ⟨h1, g1, d1, t1, o1⟩ := B
  simp only at hg hd ho ⊢
  subst hg hd ho
  rfl
/-- the state without what the ledger holds -/
def hb (L : Ledger) (s : Shared) : Shared := { s with heap := hideAll s.heap (L.map (·.1)) }
section
variable {B : Shared} {L : Ledger} {s : Shared}
theorem St.rebase (S : St B KAll (EqG B) L s) : St (hb L s) KAll (EqG (hb L s)) L s :=
  ⟨fun b o e _ => of_hideAll _ e, fun p hp o e => (by rw [show (hb L s).heap.get? p.1 = none from hideAll_none _ (List.mem_map_of_mem hp)] at e; cases e), S.led, S.ord, fun b o e => ⟨o, of_hideAll _ e⟩, rfl, rfl, rfl⟩
theorem St.sub (S : St B KAll (EqG B) L s) : Sub B (hb L s) :=
  ⟨fun b o e => hideAll_get _ (S.keep b o e trivial) fun hm => by
    obtain ⟨p, hp, e'⟩ := List.mem_map.mp hm
    exact S.own p hp o (e' ▸ e) trivial, S.gens, S.drawn, S.os⟩
theorem hb_get {a : Addr} {o : Obj} (e : s.heap.get? a = some o) (hn : ∀ p ∈ L, p.1 ≠ a) : (hb L s).heap.get? a = some o :=
  hideAll_get _ e fun hm => by
    obtain ⟨p, hp, e'⟩ := List.mem_map.mp hm
    exact hn p hp e'
theorem St.top (S : St B KAll (EqG B) L s) (L' : Ledger) (h : ∃ D, L = D ++ L') {p : Addr × OP} (hp : p ∈ L') : p ∈ L := by
  obtain ⟨D, rfl⟩ := h
  exact List.mem_append_right _ hp
end

/-- one held object is turned, all others stand, new ones may come -/
theorem St.turn {B : Shared} {Pk : Addr → Obj → Prop} {G : Array GenState → Prop} {L L' : Ledger} {s s' : Shared} (S : St B Pk G L s) {a : Addr} {P P' : OP} (u : Upd L a P P' L') (hx : ∀ b o, b ≠ a → s.heap.get? b = some o → s'.heap.get? b = some o) (hn : ∃ o, s'.heap.get? a = some o ∧ P' o)
    (hd : s'.drawn = s.drawn) (hos : s'.os = s.os) (hg : s'.gens = s.gens) : St B Pk G L' s' := by
  have hm := S.own _ u.mem
  refine ⟨fun b o e hb => hx b o (fun q => hm o (q ▸ e) (q ▸ hb)) (S.keep b o e hb), fun p hp => ?_, fun p hp => ?_, u.keys ▸ S.ord, fun b o e => ?_, hd.trans S.drawn, hos.trans S.os, hg ▸ S.gens⟩
  · rcases u.cases S.ord p hp with rfl | ⟨h, _⟩
    · exact hm
    · exact S.own p h
  · rcases u.cases S.ord p hp with rfl | ⟨h, h'⟩
    · exact hn
    · obtain ⟨o, ho, hP⟩ := S.led p h
      exact ⟨o, hx _ _ h' ho, hP⟩
  · by_cases hba : b = a
    · subst hba; obtain ⟨o, ho, _⟩ := hn; exact ⟨o, ho⟩
    · obtain ⟨o, ho⟩ := S.live b o e
      exact ⟨o, hx b o hba ho⟩
end Mine
end

section
open PySem PySem.W PyProof.Rows
set_option Elab.async false
set_option maxRecDepth 100000
namespace Mine

section
variable {prog : Program} {w : World} {A : Around} {R : Result → Shared → Prop} {B : Shared} {L L' : Ledger} {s : Shared} {env : Env}

/-- a for over a list; the base may grow from turn to turn, what lies above the iterator may turn -/
theorem forB {target : Expr} {body : List Stmt} {it l : Addr} {vals : List Value} (hh : A.handled = none) (J : Nat → Shared → Ledger → Ledger → Prop)
    (hl : ∀ i B D L s, J i B D L → St B KAll (EqG B) (D ++ (it, LitP l i) :: L) s → s.heap.PlainList l vals.toArray)
    (step : ∀ i v B D L s, vals[i]? = some v → J i B D L → St B KAll (EqG B) (D ++ (it, LitP l (i + 1)) :: L) s →
      wpAny (model prog w) A (assign target env v) (fun _ s₂ => wpAny (model prog w) A (execs body env) (fun f s₃ => f = .next ∧ ∃ B' D' L', J (i + 1) B' D' L' ∧ St B' KAll (EqG B') (D' ++ (it, LitP l (i + 1)) :: L') s₃)
        (notedBy (model prog w) A env fun e s' => R (.error e) s') s₂) (notedBy (model prog w) A env fun e s' => R (.error e) s') s)
    (done : ∀ B D L s, J vals.length B D L → St B KAll (EqG B) (D ++ L) s → R (.ok .next) s)
    {D : Ledger} (h0 : J 0 B D L) (S : St B KAll (EqG B) (D ++ (it, LitP l 0) :: L) s) (ht : ∀ v, letOwnedTupleGo target (.ref it) v = pure () := by intro _; rfl) :
    codeAny (model prog w) A (.forLoop target (.ref it) body [] env) R s := by
  refine codeAny_forLoop (fun n s => ∃ i B D L, n = vals.length - i ∧ i ≤ vals.length ∧ J i B D L ∧ St B KAll (EqG B) (D ++ (it, LitP l i) :: L) s) ?_ vals.length ⟨0, B, D, L, rfl, Nat.zero_le _, h0, S⟩ ht
  rintro n s ⟨i, B, D, L, rfl, hi, hj, S⟩
  have hl' := hl i B D L s hj S
  by_cases hlt : i < vals.length
  · have hx : vals[i]? = some vals[i] := by simp [hlt]
    refine S_next S (Upd.over Upd.head D) hl' hx fun s₁ S₁ _ => ?_
    refine wpAny_mono (step i _ B D L s₁ hx hj S₁) (fun _ s₂ h₂ => wpAny_mono h₂ (fun f s₃ h₃ => ?_) fun _ _ e => e) fun _ _ e => e
    obtain ⟨rfl, B', D', L', hj', S'⟩ := h₃
    exact ⟨vals.length - (i + 1), by omega, i + 1, B', D', L', rfl, hlt, hj', S'⟩
  · have e : i = vals.length := by omega
    subst e
    refine S_stop hh S (Upd.over Upd.head D) hl' (by simp) fun s₁ S₁ _ => wpAny_execs_nil ?_
    exact done B D L s₁ hj (S₁.drop (List.Sublist.append (List.Sublist.refl _) (List.sublist_cons_self _ _)))
end

/-- a plain dict with these entries -/
def RawD (h : Heap) (d : Addr) (es : Array DictEntry) (ep : Nat) : Prop := ∃ o, h.get? d = some o ∧ o.ExactDict ∧ o.data = .dict es ep
theorem RawD.keeps {h h' : Heap} {d : Addr} {es : Array DictEntry} {ep : Nat} (x : RawD h d es ep) (hk : ∀ b o, h.get? b = some o → h'.get? b = some o) : RawD h' d es ep := let ⟨o, a, b⟩ := x; ⟨o, hk _ _ a, b⟩
theorem RawD.typeIs {s : Shared} {d : Addr} {es : Array DictEntry} {ep : Nat} (x : RawD s.heap d es ep) : s.TypeIs (.ref d) "dict" := let ⟨o, a, b, _⟩ := x; ⟨o, a, b.1⟩
/-- the iterator of its items, at i -/
def ItP (d : Addr) (i n ep : Nat) : OP := fun o => ∃ ok ov, o = { cls := .type "dict_itemiterator", dict := none, data := .fields #[.none, .bool false, .ref d, .int i 0, .int n 0, .int ep 0, ok, ov], slots := #[] }

section
variable {prog : Program} {w : World} {A : Around} {E : Value → Shared → Prop} {s : Shared} {env : Env}

theorem meets_items {d : Addr} {es : Array DictEntry} {ep : Nat} (hd : (d == sysModules) = false) :
    MeetsIn prog w (Builtin.«dict.items» ⟨[.ref d], []⟩) (fun _ R s => RawD s.heap d es ep ∧ R (.ok (.ret (.ref s.heap.objs.size))) { s with heap := s.heap.push { cls := .type "dict_items", data := .fields #[.ref d] } }) :=
  .of_wp fun A R s ⟨hm, h⟩ => by
    unfold Builtin.«dict.items»
    refine wpAny_bind ?_
    unfold Builtin.Dict.noArgs
    refine wpAny_bind (wpAny_notOrdered_dict hm.typeIs ?_)
    show wpAny _ _ (pure d) _ _ s
    refine wpAny_pure ?_
    show wpAny _ _ (Builtin.Dict.showsAll d >>= _) _ _ s
    unfold Builtin.Dict.showsAll
    rw [if_neg (by rw [hd]; exact Bool.false_ne_true)]
    exact wpAny_bind (wpAny_pure (wpAny_bind (wpAny_newObj_type (wpAny_pure ⟨_, rfl, h⟩))))

theorem call_items {pos : Pos} {d : Addr} {es : Array DictEntry} {ep : Nat} {Q : Value → Shared → Prop} (hm : RawD s.heap d es ep) (hd : (d == sysModules) = false)
    (h : Q (.ref s.heap.objs.size) { s with heap := s.heap.push { cls := .type "dict_items", data := .fields #[.ref d] } }) : wpAny (model prog w) A (callWith pos (.builtin "dict.items") [.ref d] [] []) Q E s :=
  method_meetsIn F.slot_dict_items F.entry_dict_items rfl (PySem.evalArgs_none ⟨rfl, hm.typeIs, F.args_dict_items_1 _, _, meets_items hd, hm, h⟩)

theorem iter_items {v d : Addr} {es : Array DictEntry} {ep : Nat} {Q : Value → Shared → Prop} (hv : s.heap.IsItemsView v d) (hm : RawD s.heap d es ep)
    (hQ : Q (.ref s.heap.objs.size) { s with heap := s.heap.push { cls := .type "dict_itemiterator", data := .fields #[.none, .bool false, .ref d, .int 0 0, .int es.size 0, .int ep 0, .none, .none] } }) :
    wpAny (model prog w) A (pyIter (.ref v)) Q E s := by
  obtain ⟨ov, hov, hcv, hdv⟩ := id hv
  obtain ⟨o, ho, hc, hdat⟩ := id hm
  refine wpAny_pyIter_slot hv.typeIs F.slot_dict_items_iter (wpAny_call_entry F.slot_dict_items_iter hv.typeIs F.entry_dict_items_iter ?_ (F.args_dict_items_iter_1 _))
  unfold Builtin.«dict_items.__iter__»
  refine wpAny_bind (wpAny_pure (wpAny_bind ?_))
  unfold Builtin.Dict_items.dictOf
  refine wpAny_bind (wpAny_field hov hdv (x := .ref d) rfl (wpAny_pure (wpAny_bind ?_)))
  unfold Builtin.Dict_items.newIterator
  refine wpAny_bind (wpAny_dictEntries ho hdat (wpAny_bind (wpAny_dictEpoch ho hdat ?_)))
  have hown : Builtin.Dict_items.ownsTuple "dict_itemiterator" = true := by decide
  simp only [hown, if_true]
  refine wpAny_newObj_type (wpAny_pure ⟨_, rfl, "dict_itemiterator", _, ⟨_, Heap.get?_push_size _ rfl, rfl⟩, F.slot_dict_itemiterator_next.lookup, ?_⟩)
    (by simp only [sizeOk, Builtin.Dict_items.ownedTupleFields, List.size_toArray, List.length_append, List.length_cons, List.length_nil, sizeLine_eq]; omega)
  simpa [rawInt, Builtin.Dict_items.ownedTupleFields] using hQ

theorem next_items {it d : Addr} {i ep : Nat} {es : Array DictEntry} {x : DictEntry} {ok ov : Value} {Q : Option Value → Shared → Prop} (hit : IsItemIter s.heap it d i es.size ep ok ov)
    (hm : RawD s.heap d es ep) (hx : es[i]? = some x)
    (hQ : ∀ h', IsItemIterOut h' it d (i + 1) es.size ep x.key x.val s.heap.objs.size →
      h'.get? s.heap.objs.size = some { cls := .type "tuple", data := .seq #[x.key, x.val] } → h'.objs.size = s.heap.objs.size + 1 →
      (∀ b o, b ≠ it → s.heap.get? b = some o → h'.get? b = some o) → Q (some (.ref s.heap.objs.size)) { s with heap := h' }) :
    wpAny (model prog w) A (pyNext (.ref it)) Q E s := by
  obtain ⟨hp, g, dr, tk, os⟩ := s
  obtain ⟨od, hod, hcd, hdd⟩ := id hm
  have hT : Shared.TypeIs ⟨hp, g, dr, tk, os⟩ (.ref it) "dict_itemiterator" := ⟨_, hit, rfl⟩
  unfold pyNext
  refine wpAny_bind (wpAny_attempt (wpAny_callSpecial?_slot (name := Str.ofString "__next__") hT F.slot_dict_itemiterator_next
    (wpAny_call_entry F.slot_dict_itemiterator_next hT F.entry_dict_itemiterator_next ?_ (F.args_dict_itemiterator_next_1 _))))
  refine wpAny_bind (wpAny_pure (wpAny_bind (wpAny_bind ?_)))
  first | refine wpAny_bind (wpAny_typeNameOfWhole_itemiter hT (wpAny_pure ?_)) | refine wpAny_bind (wpAny_typeNameOf_itemiter hT (wpAny_pure ?_))
  refine wpAny_bind (wpAny_fieldsOf hit rfl ?_)
  have hown : Builtin.Dict_items.ownsTuple "dict_itemiterator" = true := by decide
  simp only [hown, if_true]
  show wpAny _ _ (if (Value.ref d == Value.none) = true then _ else _) _ _ _
  rw [if_neg (show ¬ ((Value.ref d == Value.none) = true) from Bool.false_ne_true)]
  refine wpAny_bind (wpAny_pure (wpAny_bind (wpAny_dictEntries hod hdd ?_)))
  rw [if_neg (by simp)]
  refine wpAny_bind (wpAny_pure (wpAny_bind (wpAny_dictEpoch hod hdd ?_)))
  rw [if_neg (by simp)]
  refine wpAny_pure ?_
  simp only [show ¬ ((i : Int) < 0) from by omega, if_false, Int.toNat_natCast, hx]
  refine wpAny_bind ?_
  first | refine wpAny_bind (wpAny_typeNameOfWhole_itemiter hT (wpAny_pure ?_)) | refine wpAny_bind (wpAny_typeNameOf_itemiter hT (wpAny_pure ?_))
  refine wpAny_bind (wpAny_isOneOf_itemiter hT ?_)
  show wpAny _ _ (setField (.ref it) 3 (rawInt ((i : Int) + 1)) >>= _) _ _ ⟨hp, g, dr, tk, os⟩
  refine wpAny_bind (wpAny_setField_rec hit (by simp) fun h₁ he₁ hs₁ => ?_)
  replace hs₁ : Heap.SameBut it hp h₁ := hs₁
  replace he₁ : IsItemIter h₁ it d (i + 1) es.size ep ok ov := by
    have e : ((i + 1 : Nat) : Int) = (i : Int) + 1 := by omega
    unfold IsItemIter; rw [e]; simpa [rawInt] using he₁
  have hT₁ : Shared.TypeIs ⟨h₁, g, dr, tk, os⟩ (.ref it) "dict_itemiterator" := ⟨_, he₁, rfl⟩
  refine wpAny_bind (wpAny_holding (wpAny_bind (wpAny_isOneOf_itemiter hT₁ (wpAny_bind (wpAny_isOneOf_itemiter hT₁ ?_)))))
  show wpAny _ _ (Builtin.Dict_items.pairFromOwner (.ref it) 6 x.key x.val) _ _ ⟨h₁, g, dr, tk, os⟩
  unfold Builtin.Dict_items.pairFromOwner
  refine wpAny_bind (wpAny_newTuple ?_)
  have he₂ : IsItemIter (h₁.push { cls := .type "tuple", data := .seq #[x.key, x.val] }) it d (i + 1) es.size ep ok ov := Heap.get?_push_of_some _ he₁
  generalize hh₂ : h₁.push { cls := .type "tuple", data := .seq #[x.key, x.val] } = h₂ at he₂
  have hz₁ : h₁.objs.size = hp.objs.size := hs₁.1
  have hil : it < hp.objs.size := Heap.lt_size hit
  have ht₂ : h₂.get? hp.objs.size = some { cls := .type "tuple", data := .seq #[x.key, x.val] } := by rw [← hh₂, ← hz₁]; exact Heap.get?_push_size _ rfl
  have hz₂ : h₂.objs.size = hp.objs.size + 1 := by rw [← hh₂, Heap.size_push, hz₁]
  have hk₂ : ∀ b o, b ≠ it → hp.get? b = some o → h₂.get? b = some o := fun b o hb e => by rw [← hh₂]; exact Heap.get?_push_of_some _ (hs₁.extBut b o hb e)
  show wpAny _ _ (Builtin.Dict_items.ownedTupleIsFree (.ref it) >>= _) _ _ ⟨h₂, g, dr, tk, os⟩
  rw [hz₁]
  clear hh₂ he₁ hs₁ hT₁ hz₁ h₁
  refine wpAny_bind ?_
  unfold Builtin.Dict_items.ownedTupleIsFree
  refine wpAny_bind (wpAny_field he₂ rfl (x := .none) rfl (wpAny_pure ?_))
  simp only [if_true]
  refine wpAny_bind (wpAny_field he₂ rfl (x := ok) rfl (wpAny_bind (wpAny_field he₂ rfl (x := ov) rfl ?_)))
  refine wpAny_bind (wpAny_setField_rec he₂ (by simp) fun h₃ he₃ hs₃ => ?_)
  replace hs₃ : Heap.SameBut it h₂ h₃ := hs₃
  replace he₃ : IsItemIter h₃ it d (i + 1) es.size ep x.key ov := he₃
  refine wpAny_bind (wpAny_setField_rec he₃ (by simp) fun h₄ he₄ hs₄ => ?_)
  replace hs₄ : Heap.SameBut it h₃ h₄ := hs₄
  replace he₄ : IsItemIter h₄ it d (i + 1) es.size ep x.key x.val := he₄
  refine wpAny_bind (wpAny_setField_rec he₄ (by simp) fun h₅ he₅ hs₅ => ?_)
  replace hs₅ : Heap.SameBut it h₄ h₅ := hs₅
  replace he₅ : IsItemIterOut h₅ it d (i + 1) es.size ep x.key x.val hp.objs.size := he₅
  refine wpAny_bind (wpAny_setField_rec he₅ (by simp) fun h₆ he₆ hs₆ => ?_)
  replace hs₆ : Heap.SameBut it h₅ h₆ := hs₆
  replace he₆ : IsItemIterOut h₆ it d (i + 1) es.size ep x.key x.val hp.objs.size := he₆
  refine wpAny_bind (wpAny_letGo (wpAny_pure (wpAny_pure ⟨_, rfl, wpAny_pure (hQ h₆ he₆ ?_ ?_ ?_)⟩)))
  · exact hs₆.extBut _ _ (Nat.ne_of_gt hil) (hs₅.extBut _ _ (Nat.ne_of_gt hil) (hs₄.extBut _ _ (Nat.ne_of_gt hil) (hs₃.extBut _ _ (Nat.ne_of_gt hil) ht₂)))
  · show h₆.objs.size = hp.objs.size + 1
    rw [hs₆.1, hs₅.1, hs₄.1, hs₃.1, hz₂]
  · exact fun b o hb e => hs₆.extBut b o hb (hs₅.extBut b o hb (hs₄.extBut b o hb (hs₃.extBut b o hb (hk₂ b o hb e))))

theorem next_items_end {it d : Addr} {i ep : Nat} {es : Array DictEntry} {ok ov : Value} {Q : Option Value → Shared → Prop} (hh : A.handled = none) (hit : IsItemIter s.heap it d i es.size ep ok ov)
    (hm : RawD s.heap d es ep) (hx : es[i]? = none)
    (hQ : ∀ h', Heap.ExtBut it s.heap h' → (∃ o, h'.get? it = some o) → Q none { s with heap := h' }) : wpAny (model prog w) A (pyNext (.ref it)) Q E s := by
  obtain ⟨od, hod, hcd, hdd⟩ := id hm
  have hT : s.TypeIs (.ref it) "dict_itemiterator" := ⟨_, hit, rfl⟩
  unfold pyNext
  refine wpAny_bind (wpAny_attempt (wpAny_callSpecial?_slot (name := Str.ofString "__next__") hT F.slot_dict_itemiterator_next
    (wpAny_call_entry F.slot_dict_itemiterator_next hT F.entry_dict_itemiterator_next ?_ (F.args_dict_itemiterator_next_1 _))))
  refine wpAny_bind (wpAny_pure (wpAny_bind (wpAny_bind ?_)))
  first | refine wpAny_bind (wpAny_typeNameOfWhole_itemiter hT (wpAny_pure ?_)) | refine wpAny_bind (wpAny_typeNameOf_itemiter hT (wpAny_pure ?_))
  refine wpAny_bind (wpAny_fieldsOf hit rfl ?_)
  have hown : Builtin.Dict_items.ownsTuple "dict_itemiterator" = true := by decide
  simp only [hown, if_true]
  show wpAny _ _ (if (Value.ref d == Value.none) = true then _ else _) _ _ s
  rw [if_neg (show ¬ ((Value.ref d == Value.none) = true) from Bool.false_ne_true)]
  refine wpAny_bind (wpAny_pure (wpAny_bind (wpAny_dictEntries hod hdd ?_)))
  rw [if_neg (by simp)]
  refine wpAny_bind (wpAny_pure (wpAny_bind (wpAny_dictEpoch hod hdd ?_)))
  rw [if_neg (by simp)]
  refine wpAny_pure ?_
  simp only [show ¬ ((i : Int) < 0) from by omega, if_false, Int.toNat_natCast, hx]
  refine wpAny_bind ?_
  first | refine wpAny_bind (wpAny_typeNameOfWhole_itemiter hT (wpAny_pure ?_)) | refine wpAny_bind (wpAny_typeNameOf_itemiter hT (wpAny_pure ?_))
  show wpAny _ _ (setField (.ref it) 2 .none >>= _) _ _ s
  refine wpAny_bind (wpAny_setField hit rfl (by simp) ?_)
  show wpAny _ _ (newExc (.type "StopIteration") [] >>= _) _ _ _
  refine wpAny_bind ?_
  simp only [newExc, newTuple]
  refine wpAny_bind (wpAny_newObj_type ?_ (by size_fits))
  refine wpAny_bind (m := firstArgMember _ _) (wpAny_of_eq (a := Value.none) (by first | rfl | (simp only [firstArgMember]; rfl)) ?_)
  refine wpAny_newObj_type ?_ (by size_fits)
  simp only [raiseNew]
  refine wpAny_bind (wpAny_handled ?_)
  rw [show A.in1.handled = none from hh]
  refine wpAny_bind (wpAny_pure (wpAny_throw ?_))
  refine wpAny_bind (wpAny_isInstance (T := "StopIteration") (b := true) ⟨_, Heap.get?_push_size _ rfl, rfl⟩ isSubtype_stop ?_)
  exact wpAny_pure (hQ _ (((Heap.SameBut.update ..).extBut.push _).push _) ⟨_, Heap.get?_push_of_some _ (Heap.get?_push_of_some _ (Heap.get?_update_self _ hit rfl))⟩)

/-- a for over a dict's items, two targets -/
theorem forI {R : Result → Shared → Prop} {B : Shared} {L D : Ledger} {n1 n2 : Str} {p1 p2 : Pos} {x1} {pt : Pos} {body : List Stmt} {it d : Addr} {es : Array DictEntry} {ep : Nat} (hh : A.handled = none) (J : Nat → Shared → Ledger → Ledger → Prop)
    (hl : ∀ i B D L s, J i B D L → St B KAll (EqG B) (D ++ (it, ItP d i es.size ep) :: L) s → RawD s.heap d es ep)
    (step : ∀ i x B D L s, es[i]? = some x → J i B D L → St B KAll (EqG B) (D ++ (it, ItP d (i + 1) es.size ep) :: L) s →
      wpAny (model prog w) A (assign (.Name n1 p1) env x.key) (fun _ s₁ => wpAny (model prog w) A (assign (.Name n2 p2) env x.val) (fun _ s₂ => wpAny (model prog w) A (execs body env) (fun f s₃ => f = .next ∧ ∃ B' D' L', J (i + 1) B' D' L' ∧ St B' KAll (EqG B') (D' ++ (it, ItP d (i + 1) es.size ep) :: L') s₃)
        (notedBy (model prog w) A env fun e s' => R (.error e) s') s₂) (notedBy (model prog w) A env fun e s' => R (.error e) s') s₁) (notedBy (model prog w) A env fun e s' => R (.error e) s') s)
    (done : ∀ B D L s, J es.size B D L → St B KAll (EqG B) (D ++ L) s → R (.ok .next) s)
    (h0 : J 0 B D L) (S : St B KAll (EqG B) (D ++ (it, ItP d 0 es.size ep) :: L) s) :
    codeAny (model prog w) A (.forLoop (.Tuple [.Name n1 p1, .Name n2 p2] x1 pt) (.ref it) body [] env) R s := by
  refine codeAny_forLoop_any (fun n s => ∃ i B D L, n = es.size - i ∧ i ≤ es.size ∧ J i B D L ∧ St B KAll (EqG B) (D ++ (it, ItP d i es.size ep) :: L) s) ?_ es.size ⟨0, B, D, L, rfl, Nat.zero_le _, h0, S⟩
  rintro n s ⟨i, B, D, L, rfl, hi, hj, S⟩
  have hm := hl i B D L s hj S
  obtain ⟨o, ho, ok, ov, rfl⟩ := S.get (a := it) (P := ItP d i es.size ep) (List.mem_append_right _ (.head _))
  by_cases hlt : i < es.size
  · have hx : es[i]? = some es[i] := by simp [hlt]
    refine next_items ho hm hx fun h₁ he₁ ht₁ hz₁ hk₁ => ?_
    refine wpAny_letOwnedTupleGo_items he₁ fun h₂ he₂ hs₂ => ?_
    replace hs₂ : Heap.SameBut it h₁ h₂ := hs₂
    have hil : @LT.lt Nat _ it s.heap.objs.size := Heap.lt_size ho
    have ht₂ : h₂.IsTuple s.heap.objs.size #[es[i].key, es[i].val] := ⟨_, (hs₂.2 _ (Nat.ne_of_gt hil)).trans ht₁, rfl, _, rfl⟩
    refine wpAny_assign_Tuple hh ht₂ rfl rfl fun h₃ hx₃ => ?_
    replace hx₃ : Heap.ExtBut h₂.objs.size h₂ h₃ := hx₃
    have hz₂ : h₂.objs.size = s.heap.objs.size + 1 := hs₂.1.trans hz₁
    have up : ∀ b o, @LT.lt Nat _ b h₂.objs.size → h₂.get? b = some o → h₃.get? b = some o := fun b o hb e => hx₃ b o (Nat.ne_of_lt hb) e
    have S₃ : St B KAll (EqG B) (D ++ (it, ItP d (i + 1) es.size ep) :: L) { s with heap := h₃ } := by
      refine S.turn (s' := { s with heap := h₃ }) (Upd.over Upd.head D) (fun b o hb e => ?_) ⟨_, up it _ (by omega) he₂, _, _, rfl⟩ rfl rfl rfl
      have hbl : @LT.lt Nat _ b s.heap.objs.size := Heap.lt_size e
      exact up b o (by omega) ((hs₂.2 b hb).trans (hk₁ b o hb e))
    show wpAny _ A (do holding [es[i].val] (assign (.Name n1 p1) env es[i].key); do holding [] (assign (.Name n2 p2) env es[i].val); pure ()) _ _ _
    refine wpAny_bind (wpAny_holding (wpAny_mono (step i _ B D L _ hx hj S₃) (fun _ s₄ h₄ => wpAny_bind (wpAny_holding (wpAny_mono h₄ (fun _ s₅ h₅ => wpAny_pure (wpAny_mono h₅ (fun f s₆ h₆ => ?_) fun _ _ e => e)) fun _ _ e => e))) fun _ _ e => e))
    obtain ⟨rfl, B', D', L', hj', S'⟩ := h₆
    exact ⟨es.size - (i + 1), by omega, i + 1, B', D', L', rfl, hlt, hj', S'⟩
  · have e : i = es.size := by omega
    subst e
    refine next_items_end hh ho hm (by simp) fun h₁ hx₁ hn₁ => wpAny_execs_nil ?_
    replace hx₁ : Heap.ExtBut it s.heap h₁ := hx₁
    have S₁ : St B KAll (EqG B) (D ++ (it, fun _ => True) :: L) { s with heap := h₁ } :=
      S.turn (s' := { s with heap := h₁ }) (Upd.over Upd.head D) (fun b o hb e => hx₁ b o hb e) (let ⟨o, e⟩ := hn₁; ⟨o, e, trivial⟩) rfl rfl rfl
    exact done B D L _ hj (S₁.drop (List.Sublist.append (List.Sublist.refl _) (List.sublist_cons_self _ _)))
end
end Mine
end

section
open PySem PySem.W PyProof.Rows
set_option Elab.async false
namespace Mine
/-- a generator's object; no one sleeps over it -/
def GenO (g : Nat) : OP := fun o => o.cls = .type "generator" ∧ (∃ nm qn, o.data = .fields #[.int g 0, nm, qn]) ∧ ∀ n t, o.slots[0]? = some (some (.int n t)) → n ≤ 0
def StopO : OP := fun o => o.cls = .type "StopIteration" ∧ ∃ t, o.data = .fields #[t, .none, .none, .none, .bool false, .none]

section
variable {w : World} {Φ : Outcome → Shared → Prop} {A : Around} {E : Value → Shared → Prop} {s : Shared}
theorem genNumber_ok {a : Addr} {o : Obj} {g : Nat} {Q : Nat → Shared → Prop} (ho : s.heap.get? a = some o) (hg : GenO g o) (h : Q g s) :
    wpAny (model pw w) A (Builtin.Generator.genNumber (.ref a)) Q E s := by
  obtain ⟨_, ⟨nm, qn, hd⟩, hsl⟩ := hg
  unfold Builtin.Generator.genNumber
  refine wpAny_bind (wpAny_load ho ?_)
  rw [hd]
  have tail : wpAny (model pw w) A (pure ((g : Int).toNat)) Q E s := by
    rw [Int.toNat_natCast]; exact wpAny_pure h
  cases hs : o.slots[0]? with
  | none => exact tail
  | some v =>
    cases v with
    | none => exact tail
    | some v =>
      cases v with
      | int n t =>
        have hn := hsl n t hs
        have hn' : ¬ n > 0 := by omega
        simp only [hn', if_false]
        exact tail
      | _ => exact tail

theorem newStop {Q : Value → Shared → Prop} (h : ∀ e h', (∀ b o, s.heap.get? b = some o → h'.get? b = some o) → (∃ o, h'.get? e = some o ∧ StopO o) → Q (.ref e) { s with heap := h' }) :
    wpAny (model pw w) A (newExc (.type "StopIteration") []) Q E s := by
  simp only [newExc, newTuple]
  refine wpAny_bind (wpAny_newObj_type ?_ (by size_fits))
  refine wpAny_bind (m := firstArgMember _ _) (wpAny_of_eq (a := Value.none) (by first | rfl | (simp only [firstArgMember]; rfl)) ?_)
  refine wpAny_newObj_type ?_ (by size_fits)
  exact h _ _ (fun b o e => Heap.get?_push_of_some _ (Heap.get?_push_of_some _ e)) ⟨_, Heap.get?_push_size _ rfl, rfl, _, rfl⟩
theorem raiseNew_ok {α : Type} {e : Value} {Q : α → Shared → Prop} (hh : A.handled = none) (h : E e s) : wpAny (model pw w) A (raiseNew e) Q E s := by
  simp only [raiseNew]
  refine wpAny_bind (wpAny_handled ?_)
  rw [hh]
  cases e <;> exact wpAny_bind (wpAny_pure (wpAny_throw h))
end

section
variable {w : World} {Φ : Outcome → Shared → Prop} {P : Gn} {ys : List (List Nat)} {s : Shared} {c : Code} {st : List Frame} {d u : Nat}

theorem den_builtin {id : String} {b : Builtin} {args : Args} (hb : entryFor table id = some b) : denote table (.builtin id args) = b args := by
  show (match entryFor table id with | some b => b args | none => unsupported ((withoutEnding? id "#data").getD id)) = _
  rw [hb]
theorem den_call_builtin {id : String} {args : Args} : denote table (.call (.builtin id) args) = (checkBuiltinCall id args >>= fun _ => PySem.again (.builtin id args)) := rfl

/-- the next of a generator -/
theorem GG.next {a : Addr} {gs : GenState} {K : Option Value → Sem Fin} {H : Value → Sem Fin} {gd lv} (hr : Rm d u st) (hd : d + c.weight + 1 < 900) (hl : s.heap.NoLimit)
    (ho : ∃ o, s.heap.get? a = some o ∧ GenO P.g o) (hg : s.gens[P.g]? = some gs) (hgo : GoesG w Φ P ys gs (s.setGen P.g .running)) (hdP : d + c.weight ≤ P.d) (huP : u + c.cUnits + 1 ≤ P.u)
    (hend : ys = [] → ∀ s' e h', P.fin (s.setGen P.g .running) s' → (∀ b o, s'.heap.get? b = some o → h'.get? b = some o) → (∃ o, h'.get? e = some o ∧ StopO o) → GG w Φ c st (H (.ref e)) { s'.setGen P.g .finished with heap := h' })
    (hy : ∀ y ys', ys = y :: ys' → ∀ s' v gs', P.yld y (s.setGen P.g .running) s' v → (∀ s'', P.evo s' s'' → GoesG w Φ P ys' gs' s'') → gs'.status = .suspended → GG w Φ c st (K (some v)) (s'.setGen P.g gs')) :
    GG w Φ c st ((callSpecial? (.ref a) "__next__").wrap K H gd lv) s := by
  obtain ⟨o, ho, hgo'⟩ := ho
  have hT : s.TypeIs (.ref a) "generator" := ⟨o, ho, hgo'.1⟩
  unfold callSpecial?
  refine GG.bindw hr (wpAny_specialOf hT slot_gen_next.lookup ?_)
  simp only [slot_gen_next.bind]
  show GG w Φ c st (((((do let (g, first) ← (pure (Value.builtin "generator.__next__", [Value.ref a]) : Sem (Value × List Value)); return some (← PySem.call g (first ++ []) []) : Sem (Option Value))).keep [.ref a]).wrap K H gd lv)) s
  rw [Sem.keep_eq_wrap, Sem.wrap_wrap]
  refine GG.call fun p => ?_
  have hr₁ := fun k g l kp => hr.ret k g l c p kp
  rw [List.append_nil, den_call_builtin]
  refine GG.bind (hr₁ _ _ _ _) (slot_gen_next.check _ _ _ _ _ _ _ _ hT (args_gen_next _) ?_)
  refine GG.again (plainId_quiet slot_gen_next.plain _) ?_
  rw [den_builtin entry_gen_next]
  show GG w Φ _ _ (Builtin.Generator.genWake (.ref a) (.send .none)) s
  unfold Builtin.Generator.genWake
  refine GG.bind (hr₁ _ _ _ _) (wpAny_holding (genNumber_ok ho hgo' ?_))
  refine GG.bind (hr₁ _ _ _ _) (wpAny_genState hg ?_)
  have hw0 : (Code.builtin "generator.__next__" ⟨[.ref a], []⟩).weight = 0 := plainId_weight slot_gen_next.plain _
  have hu0 : (Code.builtin "generator.__next__" ⟨[.ref a], []⟩).cUnits = 1 := plainId_units slot_gen_next.plain _
  cases gs with
  | running => exact hgo.elim
  | finished => exact hgo.elim
  | fresh c' =>
    refine GG.bind (hr₁ _ _ _ _) (wpAny_roomToWake hl ?_ ?_)
    · show d + c.weight + _ < _
      rw [hw0]; simp only [recursionLimit]; omega
    refine GG.resume (P := P) (ys := ys) hg hgo (fun k l p => ((hr₁ _ _ _ _).gen _ _ _ _ _).mono (by rw [hw0]; omega) (by rw [hu0]; omega)) ?_
    cases ys with
    | nil =>
      intro s' hf
      refine GG.bind (hr₁ _ _ _ _) (wpAny_pure ?_)
      refine GG.bind (hr₁ _ _ _ _) (newStop fun e h' hk he => ?_)
      refine GG.bind (hr₁ _ _ _ _) (raiseNew_ok rfl ?_)
      exact GG.raise (.ref e) (hend rfl s' e h' hf hk he)
    | cons y ys =>
      intro s' v gs' h1 h2 h3
      exact GG.done (.ret v) (hy y ys rfl s' v gs' h1 h2 h3)
  | suspended k₁ l₁ c₁ p₁ fs cl =>
    refine GG.bind (hr₁ _ _ _ _) (wpAny_roomToWake hl ?_ ?_)
    · show d + c.weight + _ < _
      rw [hw0]; simp only [recursionLimit]; omega
    refine GG.resume (P := P) (ys := ys) hg hgo (fun k l p => ((hr₁ _ _ _ _).gen _ _ _ _ _).mono (by rw [hw0]; omega) (by rw [hu0]; omega)) ?_
    cases ys with
    | nil =>
      intro s' hf
      refine GG.bind (hr₁ _ _ _ _) (wpAny_pure ?_)
      refine GG.bind (hr₁ _ _ _ _) (newStop fun e h' hk he => ?_)
      refine GG.bind (hr₁ _ _ _ _) (raiseNew_ok rfl ?_)
      exact GG.raise (.ref e) (hend rfl s' e h' hf hk he)
    | cons y ys =>
      intro s' v gs' h1 h2 h3
      exact GG.done (.ret v) (hy y ys rfl s' v gs' h1 h2 h3)
end
end Mine
end

section
open PySem PySem.W PyProof.Rows
set_option Elab.async false
namespace Mine
/-- an own frame of a generator: no exception in hand, not guarded -/
structure Fr where
  k : Result → Sem PySem.Fin
  l : List Value
  c : Code
  p : Pos
  kp : List Value
def Fr.fr (F : Fr) : Frame := .ret F.k none false F.l F.c F.p F.kp
def fd (fs : List Fr) : Nat := (fs.map (·.c.weight)).sum
def fu (fs : List Fr) : Nat := (fs.map (·.c.cUnits)).sum

theorem Rm.over {d u : Nat} {st : List Frame} (h : Rm d u st) (fs : List Fr) : Rm (d + fd fs) (u + fu fs) (fs.map Fr.fr ++ st) := by
  induction fs with
  | nil => exact h
  | cons F fs ih =>
    refine (ih.ret F.k false F.l F.c F.p F.kp).mono ?_ ?_
    · simp only [fd, List.map_cons, List.sum_cons]; omega
    · simp only [fu, List.map_cons, List.sum_cons]; omega
theorem frs_split (fs : List Fr) : splitAtGen (fs.map Fr.fr) = none := by
  induction fs with
  | nil => rfl
  | cons F fs ih =>
    rw [List.map_cons]
    show (splitAtGen (fs.map Fr.fr)).map _ = none
    rw [ih]; rfl
theorem frs_guard (fs : List Fr) : (fs.map Fr.fr).any Frame.guarded = false := by
  induction fs with
  | nil => rfl
  | cons F fs ih =>
    rw [List.map_cons, List.any_cons, ih]; rfl

section
variable {w : World} {Φ : Outcome → Shared → Prop} {P : Gn} {ys : List (List Nat)} {s₀ s : Shared} {c : Code} {fs : List Fr} {α β : Type}

/-- from here, within a waking that began at s₀, the generator tells ys and ends -/
def Cn (w : World) (Φ : Outcome → Shared → Prop) (P : Gn) (ys : List (List Nat)) (s₀ : Shared) (c : Code) (fs : List Fr) (t : Sem PySem.Fin) (s : Shared) : Prop :=
  ∀ k l c' p' st, Rm P.d P.u (.gen P.g k l c' p' :: st) → Prom w Φ P ys s₀ c' st k → GG w Φ c (fs.map Fr.fr ++ .gen P.g k l c' p' :: st) t s
theorem Cn.sg {t : Sem PySem.Fin} (h : Cn w Φ P ys s c fs t s) : SG w Φ P ys c (fs.map Fr.fr) t s := SG.mk h

theorem Cn.wrap {m : Sem α} {K : α → Sem PySem.Fin} {H : Value → Sem PySem.Fin} {gd lv}
    (h : wpAny (model pw w) (ard (P.d + fd fs) (P.u + fu fs) c) m (fun a s' => Cn w Φ P ys s₀ c fs (K a) s') (fun x s' => Cn w Φ P ys s₀ c fs (H x) s') s) : Cn w Φ P ys s₀ c fs (m.wrap K H gd lv) s :=
  fun k l c' p' st hr hp => GG.wrap (hr.over fs) (wpAny_mono h (fun _ _ h => h k l c' p' st hr hp) fun _ _ h => h k l c' p' st hr hp)
theorem Cn.assoc {m : Sem α} {K : α → Sem β} {K' : β → Sem PySem.Fin} {H' : Value → Sem PySem.Fin} {gd lv} (h : Cn w Φ P ys s₀ c fs (m.wrap (fun a => (K a).wrap K' H' gd lv) H' gd lv) s) : Cn w Φ P ys s₀ c fs ((m >>= K).wrap K' H' gd lv) s := by
  rw [Sem.bind_eq_wrap', Sem.wrap_wrap]; exact h
theorem Cn.assoc0 {m : Sem α} {K : α → Sem PySem.Fin} (h : Cn w Φ P ys s₀ c fs (m.wrap K .raise id id) s) : Cn w Φ P ys s₀ c fs (m >>= K) s := by
  rw [Sem.bind_eq_wrap']; exact h
theorem Cn.bindw {m : Sem α} {K : α → Sem β} {K' : β → Sem PySem.Fin} {H' : Value → Sem PySem.Fin} {gd lv}
    (h : wpAny (model pw w) (ard (P.d + fd fs) (P.u + fu fs) c) m (fun a s' => Cn w Φ P ys s₀ c fs ((K a).wrap K' H' gd lv) s') (fun x s' => Cn w Φ P ys s₀ c fs (H' x) s') s) : Cn w Φ P ys s₀ c fs ((m >>= K).wrap K' H' gd lv) s := .assoc (.wrap h)
theorem Cn.bind {m : Sem α} {K : α → Sem PySem.Fin}
    (h : wpAny (model pw w) (ard (P.d + fd fs) (P.u + fu fs) c) m (fun a s' => Cn w Φ P ys s₀ c fs (K a) s') (fun x s' => Cn w Φ P ys s₀ c fs (.raise x) s') s) : Cn w Φ P ys s₀ c fs (m >>= K) s := .assoc0 (.wrap h)
theorem Cn.onR {m : Sem α} {h : Value → Sem Unit} {K : α → Sem PySem.Fin} {H : Value → Sem PySem.Fin} {gd lv} (x : ∀ H', Cn w Φ P ys s₀ c fs (m.wrap K H' gd lv) s) : Cn w Φ P ys s₀ c fs ((m.onRaise h).wrap K H gd lv) s := by
  rw [Sem.onRaise_eq_wrap, Sem.wrap_wrap]; exact x _
theorem Cn.onR0 {m : Sem PySem.Fin} {h : Value → Sem Unit} (x : ∀ H', Cn w Φ P ys s₀ c fs (m.wrap .pure H' id id) s) : Cn w Φ P ys s₀ c fs (m.onRaise h) s := by
  rw [Sem.onRaise_eq_wrap]; exact x _
theorem Cn.held {m : Sem α} {vs : List Value} {K : α → Sem PySem.Fin} {H : Value → Sem PySem.Fin} {gd lv} (x : ∀ lv', Cn w Φ P ys s₀ c fs (m.wrap K H gd lv') s) : Cn w Φ P ys s₀ c fs ((holding vs m).wrap K H gd lv) s := by
  unfold holding
  split
  · exact x _
  · rw [Sem.keep_eq_wrap, Sem.wrap_wrap]; exact x _

theorem Cn.call {c' : Code} {l} {k : Result → Sem PySem.Fin} (hc : ∀ p, Cn w Φ P ys s₀ c' (⟨k, l, c, p, []⟩ :: fs) (denote table c') s) : Cn w Φ P ys s₀ c fs (.call c' none false l k) s :=
  fun k l c' p' st hr hp => GG.call fun p => hc p k l c' p' st hr hp
theorem Cn.done {k l c₁ p₁ kp} (f : Flow) (hk : Cn w Φ P ys s₀ c₁ fs (k (.ok f)) s) : Cn w Φ P ys s₀ c (⟨k, l, c₁, p₁, kp⟩ :: fs) (.pure (.done f)) s :=
  fun k l c' p' st hr hp => GG.done f (hk k l c' p' st hr hp)
theorem Cn.again {c' : Code} (hq : c'.quiet = true) (hc : Cn w Φ P ys s₀ c' fs (denote table c') s) : Cn w Φ P ys s₀ c fs (.pure (.again c')) s :=
  fun k l c' p' st hr hp => GG.again hq (hc k l c' p' st hr hp)
theorem Cn.fin (hf : P.fin s₀ s) : Cn w Φ P [] s₀ c [] (.pure (.done (.ret .none))) s :=
  fun _ _ _ _ _ _ hp => GG.doneGen (.ret .none) (hp s hf)
theorem Cn.yield {y : List Nat} {v gd l₀} {k₀ : Resume → Sem PySem.Fin} (hg : gd = true → ∃ it more kw, c = .builtin "proto.yield_from" ⟨it :: more, kw⟩ ∧ genAt s it = true) (hy : P.yld y s₀ s v)
    (h : ∀ s'', P.evo s s'' → Cn w Φ P ys s'' c fs (k₀ (.send .none)) s'') : Cn w Φ P (y :: ys) s₀ c fs (.yield v gd l₀ k₀) s :=
  fun _ _ _ _ _ _ hp => GG.yield (frs_split fs) (frs_guard fs) hg fun _ => hp s v _ hy (fun s'' he => (h s'' he).sg) rfl

theorem Cn.next {P₂ : Gn} {zs : List (List Nat)} {a : Addr} {gs : GenState} {K : Option Value → Sem PySem.Fin} {H : Value → Sem PySem.Fin} {gd lv} (hd : P.d + fd fs + c.weight + 1 < 900) (hl : s.heap.NoLimit)
    (ho : ∃ o, s.heap.get? a = some o ∧ GenO P₂.g o) (hg : s.gens[P₂.g]? = some gs) (hgo : GoesG w Φ P₂ zs gs (s.setGen P₂.g .running)) (hdP : P.d + fd fs + c.weight ≤ P₂.d) (huP : P.u + fu fs + c.cUnits + 1 ≤ P₂.u)
    (hend : zs = [] → ∀ s' e h', P₂.fin (s.setGen P₂.g .running) s' → (∀ b o, s'.heap.get? b = some o → h'.get? b = some o) → (∃ o, h'.get? e = some o ∧ StopO o) → Cn w Φ P ys s₀ c fs (H (.ref e)) { s'.setGen P₂.g .finished with heap := h' })
    (hy : ∀ y zs', zs = y :: zs' → ∀ s' v gs', P₂.yld y (s.setGen P₂.g .running) s' v → (∀ s'', P₂.evo s' s'' → GoesG w Φ P₂ zs' gs' s'') → gs'.status = .suspended → Cn w Φ P ys s₀ c fs (K (some v)) (s'.setGen P₂.g gs')) :
    Cn w Φ P ys s₀ c fs ((callSpecial? (.ref a) "__next__").wrap K H gd lv) s :=
  fun k l c' p' st hr hp => GG.next (hr.over fs) hd hl ho hg hgo hdP huP (fun e s' x h' h1 h2 h3 => hend e s' x h' h1 h2 h3 k l c' p' st hr hp) fun y zs' e s' v gs' h1 h2 h3 => hy y zs' e s' v gs' h1 h2 h3 k l c' p' st hr hp

section
variable {env : Env} {K : Flow → Sem PySem.Fin} {H : Value → Sem PySem.Fin} {lv : List Value → List Value}
theorem Cn.nil (h : Cn w Φ P ys s₀ c fs (K .next) s) : Cn w Φ P ys s₀ c fs ((execs [] env).wrap K H id lv) s := h
theorem Cn.cons {st : Stmt} {rest : List Stmt} (h : Cn w Φ P ys s₀ c fs ((exec st env).wrap (fun f => match f with | .next => (execs rest env).wrap K H id lv | f => K f) H id lv) s) :
    Cn w Φ P ys s₀ c fs ((execs (st :: rest) env).wrap K H id lv) s := by rw [execs_cons_wrap]; exact h
/-- a statement that does not sleep -/
theorem Cn.stmt {st : Stmt} {rest : List Stmt} (h : wpAny (model pw w) (ard (P.d + fd fs) (P.u + fu fs) c) (exec st env) (fun f s' => f = .next ∧ Cn w Φ P ys s₀ c fs ((execs rest env).wrap K H id lv) s') (fun x s' => Cn w Φ P ys s₀ c fs (H x) s') s) :
    Cn w Φ P ys s₀ c fs ((execs (st :: rest) env).wrap K H id lv) s := by
  refine .cons (.wrap (wpAny_mono h (fun f s' h' => ?_) fun _ _ h' => h'))
  obtain ⟨rfl, h'⟩ := h'
  exact h'
theorem Cn.func {body : List Stmt} (h : ∀ H', Cn w Φ P ys s₀ (.func body env) fs ((execs body env).wrap (fun f => (match f with | .ret v => ret v | _ => ret .none)) H' id id) s) :
    Cn w Φ P ys s₀ (.func body env) fs (denote table (.func body env)) s := by
  show Cn w Φ P ys s₀ _ fs (point >>= fun _ => ((execs body env).onRaise (leaving env)) >>= _) s
  exact .bind (wpAny_point (.assoc0 (.onR fun H' => h H')))
theorem Cn.For {target iter : Expr} {body : List Stmt} {pos : Pos}
    (h : wpAny (model pw w) (ard (P.d + fd fs) (P.u + fu fs) c) (eval iter env) (fun x s₁ => wpAny (model pw w) (ard (P.d + fd fs) (P.u + fu fs) c) (pyIter x) (fun it s₂ =>
      ∀ k p, (∀ f, k (.ok f) = K f) → Cn w Φ P ys s₀ (.forLoop target it body [] env) (⟨k, lv [], c, p, []⟩ :: fs) (denote table (.forLoop target it body [] env)) s₂) (fun x s' => Cn w Φ P ys s₀ c fs (H x) s') s₁) (fun x s' => Cn w Φ P ys s₀ c fs (H x) s') s)
    (hs : ∀ x, foldedSetIterable iter env x = pure x := by intro _; rfl) :
    Cn w Φ P ys s₀ c fs ((exec (.For target iter body [] pos) env).wrap K H id lv) s := by
  rw [exec_For]
  refine .bindw (wpAny_standAt (.bindw (wpAny_mono h (fun x s₁ h₁ => .bindw (wpAny_of_eq (hs x) (.bindw (wpAny_standAt (.bindw (wpAny_holding (wpAny_mono h₁ (fun it s₂ h₂ => ?_) fun _ _ h' => h'))))))) fun _ _ h' => h')))
  show Cn w Φ P ys s₀ c fs (((run (.forLoop target it body [] env)).onRaise _).wrap K H id lv) s₂
  refine .onR fun H' => ?_
  exact .call fun p => h₂ _ p (fun f => rfl)
theorem Cn.forLoop {target : Expr} {it : Value} {body : List Stmt} (ht : ∀ v, letOwnedTupleGo target it v = pure () := by intro _; rfl)
    (h : ∀ E, wpAny (model pw w) (ard (P.d + fd fs) (P.u + fu fs) (.forLoop target it body [] env)) (pyNext it) (fun r s₁ => match r with
      | none => Cn w Φ P ys s₀ (.block [] env) fs (.pure (.done .next)) s₁
      | some v => wpAny (model pw w) (ard (P.d + fd fs) (P.u + fu fs) (.forLoop target it body [] env)) (assign target env v) (fun _ s₂ =>
          ∀ H', Cn w Φ P ys s₀ (.forLoop target it body [] env) fs ((execs body env).wrap (fun f => match f with | .next | .cont => PySem.again (.forLoop target it body [] env) | .brk => .pure (.done .next) | .ret v => .pure (.done (.ret v))) H' id id) s₂)
        E s₁) E s) :
    Cn w Φ P ys s₀ (.forLoop target it body [] env) fs (denote table (.forLoop target it body [] env)) s := by
  show Cn w Φ P ys s₀ _ fs ((forTurn target it body [] env).onRaise _) s
  refine .onR0 fun H' => ?_
  unfold forTurn
  refine .bindw (wpAny_standAt (.assoc (.onR fun H'' => .wrap (wpAny_mono (h fun x s' => Cn w Φ P ys s₀ (.forLoop target it body [] env) fs (H'' x) s' ∧ Cn w Φ P ys s₀ (.forLoop target it body [] env) fs (H' x) s') (fun r s₁ h₁ => ?_) fun _ _ h => h.1))))
  cases r with
  | none =>
    refine .again rfl ?_
    exact h₁
  | some v =>
    refine .bindw (wpAny_of_eq (ht v) (.bindw (wpAny_mono h₁ (fun _ s₂ h₂ => ?_) fun _ _ h => h.2)))
    refine .assoc ?_
    have e : ∀ (K K' : Flow → Sem PySem.Fin), (∀ f, K f = K' f) → Cn w Φ P ys s₀ (.forLoop target it body [] env) fs ((execs body env).wrap K' H' id id) s₂ → Cn w Φ P ys s₀ (.forLoop target it body [] env) fs ((execs body env).wrap K H' id id) s₂ :=
      fun K K' e x => by rw [funext e]; exact x
    exact e _ _ (fun f => by cases f <;> rfl) (h₂ H')
end
end
end Mine
end

section
open PySem PySem.W PyProof.Rows
set_option Elab.async false
namespace Mine
/-- the state of the search: places' numbers, the stack, the boundaries (top first), what is told -/
structure Sx where
  idx : List (Nat × Nat)
  stk : List Nat
  bnd : List Nat
  idn : List Nat
def popR (i : Nat) : List Nat → Option (List Nat)
  | [] => none
  | b :: bs => if i < b then popR i bs else some (b :: bs)
def addI (l : List Nat) (x : Nat) : List Nat := if x ∈ l then l else l ++ [x]
def lookI (l : List (Nat × Nat)) (x : Nat) : Option Nat := l.lookup x
def enterS (v : Nat) (σ : Sx) : Sx := ⟨σ.idx ++ [(v, σ.stk.length)], σ.stk ++ [v], σ.stk.length :: σ.bnd, σ.idn⟩
def exitS (v : Nat) (σ : Sx) : Option (List (List Nat) × Sx) := match σ.bnd, lookI σ.idx v with
  | b :: bs, some i => if b = i then (if i ≤ σ.stk.length then some ([σ.stk.drop i], ⟨σ.idx, σ.stk.take i, bs, (σ.stk.drop i).foldl addI σ.idn⟩) else none) else some ([], σ)
  | _, _ => none
def loopS (visit : Nat → Sx → Option (List (List Nat) × Sx)) : List Nat → Sx → Option (List (List Nat) × Sx)
  | [], σ => some ([], σ)
  | x :: xs, σ => match lookI σ.idx x with
    | none => match visit x σ with
      | none => none
      | some (y1, σ1) => match loopS visit xs σ1 with
        | none => none
        | some (y2, σ2) => some (y1 ++ y2, σ2)
    | some i => if x ∈ σ.idn then loopS visit xs σ else match popR i σ.bnd with
      | none => none
      | some b => loopS visit xs { σ with bnd := b }
def okS (σ : Sx) : Bool := decide (σ.idx.length < 1000) && decide (σ.stk.length < 1000) && decide (σ.bnd.length < 1000) && decide (σ.idn.length < 1000)
def visitS (n : Nat) (E : Nat → List Nat) : Nat → Nat → Sx → Option (List (List Nat) × Sx)
  | 0, _, _ => none
  | f + 1, v, σ => if okS σ && (lookI σ.idx v).isNone && decide (v < n) then (match loopS (visitS n E f) (E v) (enterS v σ) with
    | none => none
    | some (y1, σ1) => if okS σ1 then (match exitS v σ1 with
      | none => none
      | some (y2, σ2) => some (y1 ++ y2, σ2)) else none) else none
/-- the walk over all places -/
def outerS (visit : Nat → Sx → Option (List (List Nat) × Sx)) : List Nat → Sx → Option (List (List Nat) × Sx)
  | [], σ => some ([], σ)
  | x :: xs, σ => match lookI σ.idx x with
    | some _ => outerS visit xs σ
    | none => match visit x σ with
      | none => none
      | some (y1, σ1) => match outerS visit xs σ1 with
        | none => none
        | some (y2, σ2) => some (y1 ++ y2, σ2)

/-- a list of naturals / the dict of numbers / the dict of what is told -/
def NLst (xs : List Nat) : OP := fun o => ∃ vs, NA vs xs ∧ LstP vs o
inductive Al : List (Int × Value) → List (Nat × Nat) → Prop
  | nil : Al [] []
  | cons (k i : Nat) (t : Tok) {kvs : List (Int × Value)} {l : List (Nat × Nat)} : Al kvs l → Al (((k : Int), .int (i : Int) t) :: kvs) ((k, i) :: l)
def IdxP (w : World) (l : List (Nat × Nat)) : OP := fun o => ∃ kvs, DctP w kvs o ∧ Al kvs l
def IdnP (w : World) (l : List Nat) : OP := fun o => ∃ kvs, DctP w kvs o ∧ kvs.map (·.1) = l.map fun (x : Nat) => (x : Int)

def IsFlds (o : Obj) : Prop := ∃ vs, o.data = .fields vs
def IsSeq (o : Obj) : Prop := ∃ xs k, o.data = .seq xs k
/-- what stands fast while all is drunk -/
structure Cx where
  w : World
  X : Addr → Prop
  nS : Nat
  F0 : Addr
  F1 : Addr
  F2 : Addr
  F3 : Addr
  o01 : F0 < F1
  o12 : F1 < F2
  o23 : F2 < F3
def Cx.four (C : Cx) (a : Addr) : Prop := a = C.F0 ∨ a = C.F1 ∨ a = C.F2 ∨ a = C.F3
def Cx.L (C : Cx) (σ : Sx) : Ledger := [(C.F3, NLst σ.bnd.reverse), (C.F2, IdxP C.w σ.idx), (C.F1, NLst σ.stk), (C.F0, IdnP C.w σ.idn)]
/-- what a generator's waking leaves as it is: n the objects at its making, ob its own object -/
def Cx.Pk (C : Cx) (n ob : Nat) (a : Addr) (o : Obj) : Prop := ¬ C.four a ∧ (a < n ∨ a = ob ∨ IsSeq o)
structure Cx.Evo (C : Cx) (ob g : Nat) (s s' : Shared) : Prop where
  keep : ∀ a o, s.heap.get? a = some o → ¬ C.X a → (a < C.nS ∨ ob < a ∨ ¬ IsFlds o) → s'.heap.get? a = some o
  live : ∀ a o, s.heap.get? a = some o → ∃ o', s'.heap.get? a = some o'
  gens : ∀ i, g ≤ i → s'.gens[i]? = s.gens[i]?
  drawn : s'.drawn = s.drawn
  os : s'.os = s.os
def GSy (g : Nat) (B : Shared) : Array GenState → Prop := fun x => (∀ i, i ≤ g → x[i]? = B.gens[i]?) ∧ B.gens.size ≤ x.size
def GSf (g : Nat) (B : Shared) : Array GenState → Prop := fun x => GSy g B x ∧ ∀ i, g < i → ∀ y, x[i]? = some y → y = .finished

/-- the contract of a search's generator -/
def Cx.gn (C : Cx) (g ob n d u : Nat) (σ : Sx) : Gn where
  g := g
  d := d
  u := u
  fin := fun s s' => St s (C.Pk n ob) (GSf g s) (C.L σ) s'
  yld := fun y s s' v => ∃ D vals, v = .ref D ∧ NA vals y ∧ C.nS ≤ D ∧ St s (C.Pk n ob) (GSy g s) [(D, LstP vals)] s'
  evo := C.Evo ob g

section
variable {B s s' : Shared} {Pk Pk' : Addr → Obj → Prop} {G G' : Array GenState → Prop} {L L' : Ledger}
/-- one waking within another -/
theorem St.comp {s₁ : Shared} (S : St B Pk G L s) (hh : s₁.heap = s.heap) (hd : s₁.drawn = s.drawn) (ho : s₁.os = s.os) (S' : St s₁ Pk' G' L' s') {L₂ : Ledger} {G₂ : Array GenState → Prop}
    (hk : ∀ a o, B.heap.get? a = some o → Pk a o → Pk' a o)
    (hL : ∀ p ∈ L₂, p ∈ L' ∨ (p ∈ L ∧ ∀ o, p.2 o → s.heap.get? p.1 = some o → Pk' p.1 o)) (hord : (L₂.map (·.1)).Pairwise (· > ·)) (hG : G₂ s'.gens) : St B Pk G₂ L₂ s' := by
  have up : ∀ a o, s.heap.get? a = some o → Pk' a o → s'.heap.get? a = some o := fun a o e h => S'.keep a o (by rw [hh]; exact e) h
  refine ⟨fun b o e hb => up b o (S.keep b o e hb) (hk b o e hb), fun p hp o e hb => ?_, fun p hp => ?_, hord, fun b o e => ?_, (S'.drawn.trans hd).trans S.drawn, (S'.os.trans ho).trans S.os, hG⟩
  · rcases hL p hp with h | ⟨h, _⟩
    · exact S'.own p h o (by rw [hh]; exact S.keep _ _ e hb) (hk _ _ e hb)
    · exact S.own p h o e hb
  · rcases hL p hp with h | ⟨h, h'⟩
    · exact S'.led p h
    · obtain ⟨o, ho, hP⟩ := S.led p h
      exact ⟨o, up _ _ ho (h' o hP ho), hP⟩
  · obtain ⟨o₁, h₁⟩ := S.live b o e
    exact S'.live b o₁ (by rw [hh]; exact h₁)
/-- the states of the generators said anew -/
theorem St.regen (S : St B Pk G L s) {x : Array GenState} (h : G' x) : St B Pk G' L { s with gens := x } := ⟨S.keep, S.own, S.led, S.ord, S.live, S.drawn, S.os, h⟩
theorem St.gen' (S : St B Pk G L s) (h : G' s.gens) : St B Pk G' L s := ⟨S.keep, S.own, S.led, S.ord, S.live, S.drawn, S.os, h⟩
end
end Mine
end

section
open PySem PySem.W PyProof.Rows
set_option Elab.async false
namespace Mine
/-- a generator's object; k sleep over it at most -/
def GenK (g : Nat) (k : Int) : OP := fun o => o.cls = .type "generator" ∧ (∃ nm qn, o.data = .fields #[.int g 0, nm, qn]) ∧ ∀ n t, o.slots[0]? = some (some (.int n t)) → n ≤ k
theorem GenK.flds {g : Nat} {k : Int} {o : Obj} (h : GenK g k o) : IsFlds o := let ⟨_, ⟨_, _, e⟩, _⟩ := h; ⟨_, e⟩
theorem GenK.zero {g : Nat} {o : Obj} (h : GenK g 0 o) : GenO g o := h

theorem entry_yf : entryFor table "proto.yield_from" = some Builtin.«proto.yield_from» := entryFor_of_fast (by kernel_rfl)
theorem gen_close : typeLookup (.type "generator") "close" = pure (some (.builtin "generator.close")) := by rw [typeLookup_type, builtinLookup_eq_fast]; kernel_rfl

section
variable {w : World} {A : Around} {E : Value → Shared → Prop} {s : Shared}
theorem slept {a : Addr} {o : Obj} {g : Nat} {k : Int} {more : Bool} {Q : Unit → Shared → Prop} (ho : s.heap.get? a = some o) (hg : GenK g k o) (hk : 0 ≤ k)
    (h : ∀ h' o', Heap.SameBut a s.heap h' → h'.get? a = some o' → GenK g (if more then k + 1 else k - 1) o' → Q () { s with heap := h' }) :
    wpAny (model pw w) A (Builtin.Generator.sleptOver (.ref a) more) Q E s := by
  obtain ⟨hc, ⟨nm, qn, hd⟩, hs⟩ := hg
  unfold Builtin.Generator.sleptOver
  refine wpAny_bind (wpAny_load ho ?_)
  rw [if_neg (by rw [hc]; decide)]
  have key : ∀ n : Int, n ≤ k → wpAny (model pw w) A (setSlotAt a 0 (some (rawInt (if more = true then n + 1 else n - 1)))) Q E s := by
    intro n hnk
    simp only [setSlotAt]
    rw [if_neg (by decide)]
    refine wpAny_bind (wpAny_pure ?_)
    refine wpAny_updatePart ho ?_
    refine h _ _ (Heap.SameBut.update ..) (Heap.get?_update_self _ ho ?_) ⟨hc, ⟨nm, qn, hd⟩, ?_⟩
    · exact Obj.isFreed_of_fields (o := { o with slots := _ }) hd
    · intro m t e
      simp only at e
      rw [Array.getElem?_setIfInBounds_self] at e
      split at e
      · injection e with e; injection e with e; injection e with e _
        subst e
        cases more <;> simp <;> omega
      · cases e
  rcases hsl : o.slots[0]? with _ | (_ | v)
  · exact key 0 hk
  · exact key 0 hk
  · cases v with
    | int n t => exact key n (hs n t hsl)
    | _ => exact key 0 hk
end

theorem setGen_get_self {s : Shared} {g : Nat} {gs x : GenState} (h : s.gens[g]? = some gs) : (s.setGen g x).gens[g]? = some x := setGen_self h
theorem setGen_get_ne {s : Shared} {g i : Nat} {x : GenState} (h : i ≠ g) : (s.setGen g x).gens[i]? = s.gens[i]? := by simp [Shared.setGen, Ne.symm h]
theorem setGen_size {s : Shared} {g : Nat} {x : GenState} : (s.setGen g x).gens.size = s.gens.size := by simp [Shared.setGen]

/-- between two wakings of the generator g -/
structure Cx.Ev (C : Cx) (ob g : Nat) (s s' : Shared) : Prop where
  keep : ∀ a o, s.heap.get? a = some o → ¬ C.X a → (a < C.nS ∨ ob < a ∨ ¬ IsFlds o) → s'.heap.get? a = some o
  live : ∀ a o, s.heap.get? a = some o → ∃ o', s'.heap.get? a = some o'
  gens : ∀ i, g ≤ i → s'.gens[i]? = s.gens[i]?
  drawn : s'.drawn = s.drawn
  os : s'.os = s.os

section
variable {C : Cx} {ob g : Nat} {s s₁ s₂ : Shared}
theorem Cx.Ev.refl (s : Shared) : C.Ev ob g s s := ⟨fun _ _ e _ _ => e, fun _ o e => ⟨o, e⟩, fun _ _ => rfl, rfl, rfl⟩
theorem Cx.Ev.trans (x : C.Ev ob g s s₁) (y : C.Ev ob g s₁ s₂) : C.Ev ob g s s₂ :=
  ⟨fun a o e h h' => y.keep a o (x.keep a o e h h') h h', fun a o e => let ⟨o', e'⟩ := x.live a o e; y.live a o' e', fun i hi => (y.gens i hi).trans (x.gens i hi), y.drawn.trans x.drawn, y.os.trans x.os⟩
theorem Cx.Ev.keeps {s' : Shared} (x : C.Ev ob g s s₁) (K : Keeps s₁ s') : C.Ev ob g s s' := by
  obtain ⟨h', tk, rfl, hk⟩ := K
  exact ⟨fun a o e h h' => hk _ _ (x.keep a o e h h'), fun a o e => let ⟨o', e'⟩ := x.live a o e; ⟨o', hk _ _ e'⟩, x.gens, x.drawn, x.os⟩
/-- one object at or below ob, a generator's, is turned -/
theorem Cx.Ev.turn (x : C.Ev ob g s s₁) {h' : Heap} {a : Addr} (hb : Heap.SameBut a s₁.heap h') (hn : ∃ o, h'.get? a = some o) (ha : a ≤ ob) (hS : C.nS ≤ a) (hc : ∀ o, s.heap.get? a = some o → IsFlds o) : C.Ev ob g s { s₁ with heap := h' } := by
  refine ⟨fun b o e h h' => ?_, fun b o e => ?_, x.gens, x.drawn, x.os⟩
  · have hne : b ≠ a := by
      rintro rfl
      rcases h' with h' | h' | h'
      · exact absurd h' (Nat.not_lt.mpr hS)
      · exact absurd h' (Nat.not_lt.mpr ha)
      · exact h' (hc o e)
    exact (hb.2 b hne).trans (x.keep b o e h h')
  · by_cases hba : b = a
    · subst hba; exact hn
    · obtain ⟨o', e'⟩ := x.live b o e
      exact ⟨o', (hb.2 b hba).trans e'⟩
/-- states of generators below g are of no weight -/
theorem Cx.Ev.setGen (x : C.Ev ob g s s₁) {i : Nat} {y : GenState} (hi : i < g) : C.Ev ob g s (s₁.setGen i y) :=
  ⟨x.keep, x.live, fun j hj => (setGen_get_ne (by omega)).trans (x.gens j hj), x.drawn, x.os⟩
theorem Cx.Evo.ev {ob₂ g₂ : Nat} (x : C.Evo ob g s s₁) (ho : ob ≤ ob₂) (hg : g ≤ g₂) : C.Ev ob₂ g₂ s s₁ :=
  ⟨fun a o e h h' => x.keep a o e h (by rcases h' with h' | h' | h'; exact .inl h'; exact .inr (.inl (Nat.lt_of_le_of_lt ho h')); exact .inr (.inr h')), x.live, fun i hi => x.gens i (by omega), x.drawn, x.os⟩
/-- from the waking that ended in s to the next -/
theorem Cx.Ev.evo {gs : GenState} (x : C.Ev ob g (s.setGen g gs) s₁) (hs : s.gens[g]? = some .running) : C.Evo ob g s (s₁.setGen g .running) := by
  have h1 : s₁.gens[g]? = some gs := by rw [x.gens g (Nat.le_refl _)]; exact setGen_get_self hs
  refine ⟨x.keep, x.live, fun i hi => ?_, x.drawn, x.os⟩
  by_cases h : i = g
  · subst h; rw [setGen_get_self h1, hs]
  · rw [setGen_get_ne h, x.gens i hi, setGen_get_ne h]
end

def SS (h0 h : Heap) : Prop := ∀ a o, h0.get? a = some o → h.get? a = some o
/-- while a generator g₂ is driven by g -/
def GSm (g g₂ : Nat) (B : Shared) : Array GenState → Prop := fun x => GSy g B x ∧ ∀ i, g < i → i < g₂ → ∀ y, x[i]? = some y → y = .finished

/-- things of a generator's own -/
structure Cx.Priv (C : Cx) (n ob : Nat) (Lp : Ledger) : Prop where
  ge : ∀ p ∈ Lp, n ≤ p.1
  ne : ∀ p ∈ Lp, p.1 ≠ ob
  four : ∀ p ∈ Lp, ¬ C.four p.1
  X : ∀ p ∈ Lp, ¬ C.X p.1
  seq : ∀ p ∈ Lp, ∀ o, p.2 o → ¬ IsSeq o
  gen : ∀ p ∈ Lp, ob < p.1 ∨ ∀ o, p.2 o → ¬ IsFlds o
theorem St.wokenP {C : Cx} {ob g : Nat} {B s s' : Shared} {Pk Pk' : Addr → Obj → Prop} {G G' : Array GenState → Prop} {Lp : Ledger} (S : St B Pk' G Lp s) (hX : ∀ p ∈ Lp, ¬ C.four p.1 ∧ ¬ C.X p.1) (hown : ∀ p ∈ Lp, ∀ o, p.2 o → ¬ Pk p.1 o)
    (hgen : ∀ p ∈ Lp, ob < p.1 ∨ p.1 < C.nS ∨ ∀ o, p.2 o → ¬ IsFlds o) (ev : C.Evo ob g s s') (hG : G' s'.gens) : St s' Pk G' Lp s' := by
  have led : ∀ p ∈ Lp, ∃ o, s'.heap.get? p.1 = some o ∧ p.2 o := fun p h => by
    obtain ⟨o, ho, hP⟩ := S.led p h
    refine ⟨o, ev.keep _ _ ho (hX p h).2 ?_, hP⟩
    rcases hgen p h with q | q | q
    · exact .inr (.inl q)
    · exact .inl q
    · exact .inr (.inr (q o hP))
  refine ⟨fun _ _ e _ => e, fun p h o e => ?_, led, S.ord, fun _ o e => ⟨o, e⟩, rfl, rfl, hG⟩
  obtain ⟨o', ho', hP⟩ := led p h
  rw [e] at ho'
  cases ho'
  exact hown p h _ hP
theorem St.woken {C : Cx} {n ob g : Nat} {B s s' : Shared} {Pk : Addr → Obj → Prop} {G G' : Array GenState → Prop} {Lp : Ledger} (S : St B Pk G Lp s) (hp : C.Priv n ob Lp) (ev : C.Evo ob g s s') (hG : G' s'.gens) : St s' (C.Pk n ob) G' Lp s' := by
  have led : ∀ p ∈ Lp, ∃ o, s'.heap.get? p.1 = some o ∧ p.2 o := fun p h => by
    obtain ⟨o, ho, hP⟩ := S.led p h
    refine ⟨o, ev.keep _ _ ho (hp.X p h) ?_, hP⟩
    rcases hp.gen p h with q | q
    · exact .inr (.inl q)
    · exact .inr (.inr (q o hP))
  refine ⟨fun _ _ e _ => e, fun p h o e => ?_, led, S.ord, fun _ o e => ⟨o, e⟩, rfl, rfl, hG⟩
  obtain ⟨o', ho', hP⟩ := led p h
  rw [e] at ho'
  cases ho'
  rintro ⟨_, q | q | q⟩
  · exact absurd q (Nat.not_lt.mpr (hp.ge p h))
  · exact hp.ne p h q
  · exact hp.seq p h _ hP q

section
variable {w : World} {Φ : Outcome → Shared → Prop} {C : Cx}
theorem stop_isType {A : Around} {E : Value → Shared → Prop} {s : Shared} {e : Addr} {Q : Bool → Shared → Prop} (he : ∃ o, s.heap.get? e = some o ∧ StopO o) (h : Q true s) :
    wpAny (model pw w) A (Builtin.Generator.endsTheTurnAsAValue false (.ref e)) Q E s := by
  obtain ⟨o, ho, hc, _⟩ := he
  unfold Builtin.Generator.endsTheTurnAsAValue Builtin.Generator.isStopAndMetaclass
  refine wpAny_bind (wpAny_bind (wpAny_typeOf (T := "StopIteration") ⟨o, ho, hc⟩ ?_))
  refine wpAny_bind (wpAny_of_eq isSubtype_stop ?_)
  refine wpAny_bind (wpAny_pure (wpAny_pure ?_))
  show wpAny _ _ (pure true) _ _ _
  exact wpAny_pure h
end
end Mine
end

section
open PySem PySem.W PyProof.Rows
set_option Elab.async false
namespace Mine
section
variable {w : World} {Φ : Outcome → Shared → Prop} {P : Gn} {ys : List (List Nat)} {s₀ s : Shared} {c : Code} {fs : List Fr} {α : Type}
theorem Cn.att {m : Sem α} {f : Except Value α → Sem PySem.Fin} (h : Cn w Φ P ys s₀ c fs (m.wrap (fun a => f (.ok a)) (fun e => f (.error e)) (fun _ => true) id) s) : Cn w Φ P ys s₀ c fs (m.attempt >>= f) s := by
  rw [Sem.bind_eq_wrap', Sem.attempt, Sem.tryCatch_eq_wrap, Sem.wrap_wrap, Sem.bind_eq_wrap, Sem.wrap_wrap]; exact h
end
section
variable {w : World} {Φ : Outcome → Shared → Prop} {C : Cx}
def yfArgs (ob : Addr) : Args := ⟨[.ref ob, .bool false, .none], []⟩
/-- a waking of the driven one, seen from the driver -/
theorem drive_fin {Pk : Addr → Obj → Prop} {g g₂ ob₂ n₂ : Nat} {σ₂ : Sx} {Lp Le : Ledger} {s₀ s s' : Shared} {gs : GenState} (hPk : ∀ a o, Pk a o → C.Pk n₂ ob₂ a o) (hg : g < g₂) (hfo : ∀ p ∈ Lp, ¬ C.four p.1) (hlt : ∀ p ∈ Lp, p.1 < n₂) (hf₂ : ¬ C.four ob₂)
    (hLe : ∀ p ∈ Le, p ∈ C.L σ₂ ∨ p ∈ (ob₂, GenK g₂ 0) :: Lp) (hord : (Le.map (·.1)).Pairwise (· > ·))
    (S : St s₀ Pk (GSm g g₂ s₀) ((ob₂, GenK g₂ 0) :: Lp) s) (hgs : s.gens[g₂]? = some gs) (S' : St (s.setGen g₂ .running) (C.Pk n₂ ob₂) (GSf g₂ (s.setGen g₂ .running)) (C.L σ₂) s') :
    St s₀ Pk (GSf g s₀) Le (s'.setGen g₂ .finished) := by
  have up : ∀ p ∈ (ob₂, GenK g₂ 0) :: Lp, ∀ o, C.Pk n₂ ob₂ p.1 o := by
    intro p hp o
    rcases List.mem_cons.mp hp with rfl | hp
    · exact ⟨hf₂, .inr (.inl rfl)⟩
    · exact ⟨hfo p hp, .inl (hlt p hp)⟩
  have hz := S'.gens
  have hz₀ := S.gens
  refine St.regen (G := fun _ => True) ?_ ?_
  · refine S.comp (s₁ := s.setGen g₂ .running) rfl rfl rfl S' (fun a o _ h => hPk a o h) (fun p hp => ?_) hord trivial
    · rcases hLe p hp with hp | hp
      · exact .inl hp
      · exact .inr ⟨hp, fun o _ _ => up p hp o⟩
  · have hsz : (s.setGen g₂ .running).gens.size = s.gens.size := setGen_size
    refine ⟨⟨fun i hi => ?_, ?_⟩, fun i hi y hy => ?_⟩
    · show (s'.setGen g₂ .finished).gens[i]? = _
      rw [setGen_get_ne (by omega), hz.1.1 i (by omega), setGen_get_ne (by omega)]
      exact hz₀.1.1 i hi
    · show s₀.gens.size ≤ (s'.setGen g₂ .finished).gens.size
      rw [setGen_size]
      have := hz.1.2
      have := hz₀.1.2
      omega
    · have hy : (s'.setGen g₂ .finished).gens[i]? = some y := hy
      by_cases e : i = g₂
      · subst e
        have h1 : s'.gens[i]? = some .running := by rw [hz.1.1 i (Nat.le_refl _)]; exact setGen_get_self hgs
        rw [setGen_get_self h1] at hy
        exact (Option.some.inj hy).symm
      · rw [setGen_get_ne e] at hy
        by_cases h : i < g₂
        · rw [hz.1.1 i (by omega), setGen_get_ne e] at hy
          exact hz₀.2 i hi h y hy
        · exact hz.2 i (by omega) y hy
theorem drive_yld {Pk : Addr → Obj → Prop} {g g₂ ob₂ n₂ : Nat} {Lp : Ledger} {s₀ s s' : Shared} {gs' : GenState} {D : Addr} {Q : OP} (hPk : ∀ a o, Pk a o → C.Pk n₂ ob₂ a o) (hg : g < g₂) (hfo : ∀ p ∈ Lp, ¬ C.four p.1) (hlt : ∀ p ∈ Lp, p.1 < n₂) (hf₂ : ¬ C.four ob₂)
    (S : St s₀ Pk (GSm g g₂ s₀) ((ob₂, GenK g₂ 0) :: Lp) s) (S' : St (s.setGen g₂ .running) (C.Pk n₂ ob₂) (GSy g₂ (s.setGen g₂ .running)) [(D, Q)] s') :
    St s₀ Pk (GSm g g₂ s₀) ((ob₂, GenK g₂ 0) :: Lp) (s'.setGen g₂ gs') ∧ St s₀ Pk (GSm g g₂ s₀) [(D, Q)] (s'.setGen g₂ gs') := by
  have up : ∀ p ∈ (ob₂, GenK g₂ 0) :: Lp, ∀ o, C.Pk n₂ ob₂ p.1 o := by
    intro p hp o
    rcases List.mem_cons.mp hp with rfl | hp
    · exact ⟨hf₂, .inr (.inl rfl)⟩
    · exact ⟨hfo p hp, .inl (hlt p hp)⟩
  have hz := S'.gens
  have hz₀ := S.gens
  have hG : GSm g g₂ s₀ (s'.setGen g₂ gs').gens := by
    refine ⟨⟨fun i hi => ?_, ?_⟩, fun i hi hi' y hy => ?_⟩
    · rw [setGen_get_ne (by omega), hz.1 i (by omega), setGen_get_ne (by omega)]
      exact hz₀.1.1 i hi
    · rw [setGen_size]
      have hsz : (s.setGen g₂ .running).gens.size = s.gens.size := setGen_size
      have := hz.2
      have := hz₀.1.2
      omega
    · rw [setGen_get_ne (by omega), hz.1 i (by omega), setGen_get_ne (by omega)] at hy
      exact hz₀.2 i hi hi' y hy
  exact ⟨St.regen (G := fun _ => True) (S.comp (s₁ := s.setGen g₂ .running) rfl rfl rfl S' (fun a o _ h => hPk a o h) (fun p hp => .inr ⟨hp, fun o _ _ => up p hp o⟩) S.ord trivial) hG,
    St.regen (G := fun _ => True) (S.comp (s₁ := s.setGen g₂ .running) rfl rfl rfl S' (fun a o _ h => hPk a o h) (fun p hp => .inl hp) S'.ord trivial) hG⟩
theorem genAt_of {s : Shared} {a : Addr} {o : Obj} {g : Nat} {k : Int} (ho : s.heap.get? a = some o) (h : GenK g k o) : genAt s (.ref a) = true := by
  obtain ⟨hc, ⟨nm, qn, hd⟩, _⟩ := h
  obtain ⟨cls, dict, data, slots⟩ := o
  simp only at hc hd
  subst hc hd
  unfold genAt
  simp only [ho]
  rfl
theorem St.other {B s s' : Shared} {Pk : Addr → Obj → Prop} {G : Array GenState → Prop} {L : Ledger} (S : St B Pk G L s) {a : Addr} (hx : Heap.SameBut a s.heap s'.heap) (hn : ∃ o, s'.heap.get? a = some o)
    (hm : ∀ o, B.heap.get? a = some o → ¬ Pk a o) (hL : ∀ p ∈ L, p.1 ≠ a) (hd : s'.drawn = s.drawn) (hos : s'.os = s.os) (hg : s'.gens = s.gens) : St B Pk G L s' := by
  refine ⟨fun b o e hb => ?_, S.own, fun p hp => ?_, S.ord, fun b o e => ?_, hd.trans S.drawn, hos.trans S.os, hg ▸ S.gens⟩
  · have hne : b ≠ a := by
      rintro rfl
      exact hm o e hb
    exact (hx.2 b hne).trans (S.keep b o e hb)
  · obtain ⟨o, ho, hP⟩ := S.led p hp
    exact ⟨o, (hx.2 _ (hL p hp)).trans ho, hP⟩
  · by_cases hba : b = a
    · subst hba; exact hn
    · obtain ⟨o, ho⟩ := S.live b o e
      exact ⟨o, (hx.2 b hba).trans ho⟩
/-- a driver's contract: what stands fast for it, what it may tell -/
structure Cx.Drv (C : Cx) (P : Gn) (Pk : Addr → Obj → Prop) (ob : Nat) (Lp : Ledger) : Prop where
  yld : ∀ y s₀ s D vals, St s₀ Pk (GSy P.g s₀) [(D, LstP vals)] s → St s₀ Pk (GSy P.g s₀) Lp s → NA vals y → C.nS ≤ D → P.yld y s₀ s (.ref D)
  evo : ∀ s s', P.evo s s' → C.Evo ob P.g s s'
theorem yf_ok {J : Shared → Prop} {P : Gn} {Pk : Addr → Obj → Prop} {ob : Nat} {g₂ ob₂ n₂ d₂ u₂ : Nat} {σ₂ : Sx} {Lp Le : Ledger} {h0 : Heap} {fs : List Fr} {k l c p kp} {ys : List (List Nat)}
    (hD : C.Drv P Pk ob Lp) (hPk : ∀ a o, Pk a o → C.Pk n₂ ob₂ a o) (hob : ob < n₂) (hob₂ : n₂ ≤ ob₂) (hS : C.nS ≤ n₂) (hg : P.g < g₂) (hlt : ∀ p ∈ Lp, p.1 < n₂)
    (hX : ∀ p ∈ (ob₂, GenK g₂ 1) :: Lp, ¬ C.four p.1 ∧ ¬ C.X p.1) (hown : ∀ p ∈ (ob₂, GenK g₂ 1) :: Lp, ∀ o, p.2 o → ¬ Pk p.1 o) (hgen : ∀ p ∈ (ob₂, GenK g₂ 1) :: Lp, ob < p.1 ∨ p.1 < C.nS ∨ ∀ o, p.2 o → ¬ IsFlds o)
    (hst : ∀ a o, h0.get? a = some o → a < C.nS ∧ ¬ C.X a ∧ ¬ C.four a) (hlim0 : h0.NoLimit)
    (hLe : ∀ p ∈ Le, p ∈ C.L σ₂ ∨ p ∈ (ob₂, GenK g₂ 0) :: Lp) (hord : (Le.map (·.1)).Pairwise (· > ·)) (hd : P.d + fd fs + c.weight + 1 < 900) (hdP : P.d + fd fs + c.weight ≤ d₂) (huP : P.u + fu fs + c.cUnits + 2 ≤ u₂)
    (hJ : ∀ s₀ s s'', J s₀ → St s₀ Pk (GSy P.g s₀) [] s → C.Evo ob P.g s s'' → J s'')
    (hk : ∀ s₀' s', J s₀' → St s₀' Pk (GSf P.g s₀') Le s' → SS h0 s'.heap → Cn w Φ P ys s₀' c fs (k (.ok (.ret .none))) s') :
    ∀ (zs : List (List Nat)) (gs : GenState) (s₀ s : Shared), J s₀ → St s₀ Pk (GSm P.g g₂ s₀) ((ob₂, GenK g₂ 0) :: Lp) s → s.gens[g₂]? = some gs → SS h0 s.heap →
      (∀ s'', C.Ev ob₂ g₂ s s'' → GoesG w Φ (C.gn g₂ ob₂ n₂ d₂ u₂ σ₂) zs gs (s''.setGen g₂ .running)) →
      Cn w Φ P (zs ++ ys) s₀ (.builtin "proto.yield_from" (yfArgs ob₂)) (⟨k, l, c, p, kp⟩ :: fs) (denote table (.builtin "proto.yield_from" (yfArgs ob₂))) s := by
  have hyf : plainId "proto.yield_from" = true := by decide +kernel
  have hw0 : (Code.builtin "proto.yield_from" (yfArgs ob₂)).weight = 0 := plainId_weight hyf _
  have hu0 : (Code.builtin "proto.yield_from" (yfArgs ob₂)).cUnits = 1 := plainId_units hyf _
  have hfd : fd (⟨k, l, c, p, kp⟩ :: fs) = c.weight + fd fs := by simp [fd]
  have hfu : fu (⟨k, l, c, p, kp⟩ :: fs) = c.cUnits + fu fs := by simp [fu]
  have hfo : ∀ q ∈ Lp, ¬ C.four q.1 := fun q h => (hX q (.tail _ h)).1
  have hf₂ : ¬ C.four ob₂ := (hX _ (.head _)).1
  intro zs
  induction zs with
  | nil =>
    intro gs s₀ s hJ₀ S hgs hl hI
    rw [den_builtin entry_yf]
    unfold Builtin.«proto.yield_from» yfArgs
    simp only [pure_bind]
    refine .att ?_
    show Cn w Φ _ _ s₀ _ _ ((rule "yield-from.next" >>= fun _ => callSpecial? (.ref ob₂) "__next__" >>= fun r => _).wrap _ _ _ _) s
    refine .bindw (wpAny_rule (.assoc ?_))
    obtain ⟨og, hog, hGK⟩ := S.get (a := ob₂) (P := GenK g₂ 0) (.head _)
    refine .next (P₂ := C.gn g₂ ob₂ n₂ d₂ u₂ σ₂) (zs := []) (gs := gs) ?_ (hlim0.keeps hl) ⟨og, hog, hGK⟩ hgs (hI s (.refl s)) ?_ ?_ (fun _ s' e h' hf hk' he => ?_) (fun y zs' e => nomatch e)
    · show P.d + fd _ + (Code.builtin "proto.yield_from" (yfArgs ob₂)).weight + 1 < 900
      rw [hfd, hw0]; omega
    · show P.d + fd _ + (Code.builtin "proto.yield_from" (yfArgs ob₂)).weight ≤ d₂
      rw [hfd, hw0]; omega
    · show P.u + fu _ + (Code.builtin "proto.yield_from" (yfArgs ob₂)).cUnits + 1 ≤ u₂
      rw [hfu, hu0]; omega
    · have S' := drive_fin hPk hg hfo hlt hf₂ hLe hord S hgs hf
      have S'' : St s₀ Pk (GSf P.g s₀) Le { s'.setGen g₂ .finished with heap := h' } := S'.keeps ⟨h', _, rfl, hk'⟩
      refine .bind (stop_isType he ?_)
      obtain ⟨oe, hoe, _, tt, hde⟩ := he
      show Cn w Φ _ _ s₀ _ _ (rule "yield-from.value" >>= fun _ => field (.ref e) 5 >>= fun v => ret v) _
      refine .bind (wpAny_rule (.bind (wpAny_field (vs := #[tt, .none, .none, .none, .bool false, .none]) (x := .none) hoe hde rfl (.done (.ret .none) (hk s₀ _ hJ₀ S'' ?_)))))
      exact fun a o e => hk' _ _ (hf.keep _ _ (hl a o e) ⟨(hst a o e).2.2, .inl (Nat.lt_of_lt_of_le (hst a o e).1 hS)⟩)
  | cons z zs ih =>
    intro gs s₀ s hJ₀ S hgs hl hI
    rw [den_builtin entry_yf]
    unfold Builtin.«proto.yield_from» yfArgs
    simp only [pure_bind]
    refine .att ?_
    show Cn w Φ _ _ s₀ _ _ ((rule "yield-from.next" >>= fun _ => callSpecial? (.ref ob₂) "__next__" >>= fun r => _).wrap _ _ _ _) s
    refine .bindw (wpAny_rule (.assoc ?_))
    obtain ⟨og, hog, hGK⟩ := S.get (a := ob₂) (P := GenK g₂ 0) (.head _)
    refine .next (P₂ := C.gn g₂ ob₂ n₂ d₂ u₂ σ₂) (zs := z :: zs) (gs := gs) ?_ (hlim0.keeps hl) ⟨og, hog, hGK⟩ hgs (hI s (.refl s)) ?_ ?_ (fun e => nomatch e) (fun y zs' e s' v gs' hy hev hs => ?_)
    · show P.d + fd _ + (Code.builtin "proto.yield_from" (yfArgs ob₂)).weight + 1 < 900
      rw [hfd, hw0]; omega
    · show P.d + fd _ + (Code.builtin "proto.yield_from" (yfArgs ob₂)).weight ≤ d₂
      rw [hfd, hw0]; omega
    · show P.u + fu _ + (Code.builtin "proto.yield_from" (yfArgs ob₂)).cUnits + 1 ≤ u₂
      rw [hfu, hu0]; omega
    · injection e with e1 e2
      subst e1 e2
      obtain ⟨D, vals, rfl, hna, hfD, SD⟩ := hy
      have hrun : s'.gens[g₂]? = some .running := by
        rw [SD.gens.1 g₂ (Nat.le_refl _)]; exact setGen_get_self hgs
      obtain ⟨S₁, S₁'⟩ := drive_yld (gs' := gs') hPk hg hfo hlt hf₂ S SD
      have hl₁ : SS h0 (s'.setGen g₂ gs').heap := fun a o e => SD.keep _ _ (hl a o e) ⟨(hst a o e).2.2, .inl (Nat.lt_of_lt_of_le (hst a o e).1 hS)⟩
      obtain ⟨o₁, ho₁, hG₁⟩ := S₁.get (a := ob₂) (P := GenK g₂ 0) (.head _)
      show Cn w Φ _ _ s₀ _ _ (typeOf (.ref ob₂) >>= _) (s'.setGen g₂ gs')
      refine .bind (wpAny_typeOf (T := "generator") ⟨o₁, ho₁, hG₁.1⟩ ?_)
      show Cn w Φ _ _ s₀ _ _ (typeLookup (.type "generator") "close" >>= _) (s'.setGen g₂ gs')
      refine .bind (wpAny_of_eq gen_close ?_)
      refine .bind (slept (more := true) ho₁ hG₁ (by decide) fun h₂ o₂ hsb ho₂ hG₂ => ?_)
      show Cn w Φ _ _ s₀ _ _ (.yield (.ref D) true [] _) _
      have hDob : D ≠ ob₂ := by
        rintro rfl
        obtain ⟨o, ho, q⟩ := S₁'.get (.head _)
        rw [ho₁] at ho; cases ho
        obtain ⟨nn, rfl⟩ := q
        obtain ⟨_, ⟨_, _, hd⟩, _⟩ := hG₁
        cases hd
      have S₂ : St s₀ Pk (GSm P.g g₂ s₀) ((ob₂, GenK g₂ 1) :: Lp) { s'.setGen g₂ gs' with heap := h₂ } := S₁.upd .head hsb ⟨o₂, ho₂, hG₂⟩ rfl rfl rfl
      have S₂' : St s₀ Pk (GSm P.g g₂ s₀) [(D, LstP vals)] { s'.setGen g₂ gs' with heap := h₂ } := S₁'.other (s' := { s'.setGen g₂ gs' with heap := h₂ }) hsb ⟨o₂, ho₂⟩ (S₁.own _ (.head _)) (fun q hq => by rw [List.mem_singleton.mp hq]; exact hDob) rfl rfl rfl
      refine .yield (y := z) (fun _ => ⟨.ref ob₂, [.bool false, .none], [], rfl, genAt_of ho₂ hG₂⟩) (hD.yld _ _ _ _ _ (S₂'.gen' S₂'.gens.1) ((S₂.drop (List.sublist_cons_self _ _)).gen' S₂.gens.1) hna hfD) fun s₃ ev₀ => ?_
      have ev : C.Evo ob P.g _ s₃ := hD.evo _ _ ev₀
      have hob₂' : ob ≤ ob₂ := Nat.le_of_lt (Nat.lt_of_lt_of_le hob hob₂)
      have hnS₂ : C.nS ≤ ob₂ := Nat.le_trans hS hob₂
      have hcs : ∀ a o, h0.get? a = some o → a ≠ ob₂ := fun a o e q => Nat.lt_irrefl C.nS (Nat.lt_of_le_of_lt hnS₂ (by rw [← q]; exact (hst a o e).1))
      have hG₃ : GSm P.g g₂ s₃ s₃.gens := ⟨⟨fun _ _ => rfl, Nat.le_refl _⟩, fun i hi hi' y hy => S₂.gens.2 i hi hi' y (by rw [← ev.gens i (Nat.le_of_lt hi)]; exact hy)⟩
      have S₃ := S₂.wokenP hX hown hgen ev hG₃
      have hl₃ : SS h0 s₃.heap := fun a o e => ev.keep _ _ ((hsb.2 _ (hcs a o e)).trans (hl₁ a o e)) (hst a o e).2.1 (.inl (hst a o e).1)
      obtain ⟨o₃, ho₃, hG₃'⟩ := S₃.get (a := ob₂) (P := GenK g₂ 1) (.head _)
      show Cn w Φ _ _ s₃ _ _ (Builtin.Generator.sleptOver (.ref ob₂) false >>= _) s₃
      refine .bind (slept (more := false) ho₃ hG₃' (by decide) fun h₄ o₄ hsb₄ ho₄ hG₄ => ?_)
      have S₄ : St s₃ Pk (GSm P.g g₂ s₃) ((ob₂, GenK g₂ 0) :: Lp) { s₃ with heap := h₄ } := S₃.upd (s' := { s₃ with heap := h₄ }) .head hsb₄ ⟨o₄, ho₄, hG₄⟩ rfl rfl rfl
      refine .again (plainId_quiet hyf _) ?_
      refine ih gs' s₃ _ (hJ s₀ _ s₃ hJ₀ ((S₂.drop (List.nil_sublist _)).gen' S₂.gens.1) ev) S₄ ?_ (fun a o e => (hsb₄.2 _ (hcs a o e)).trans (hl₃ a o e)) fun s₅ hE => hev _ ?_
      · show s₃.gens[g₂]? = _
        rw [ev.gens g₂ (Nat.le_of_lt hg)]
        exact setGen_get_self hrun
      · refine Cx.Ev.evo (gs := gs') ?_ hrun
        have E₁ : C.Ev ob₂ g₂ (s'.setGen g₂ gs') { s'.setGen g₂ gs' with heap := h₂ } := (Cx.Ev.refl _).turn hsb ⟨o₂, ho₂⟩ (Nat.le_refl _) hnS₂ (fun o e => by rw [ho₁] at e; cases e; exact hG₁.flds)
        have E₂ := E₁.trans (ev.ev hob₂' (Nat.le_of_lt hg))
        have E₃ := E₂.turn hsb₄ ⟨o₄, ho₄⟩ (Nat.le_refl _) hnS₂ (fun o e => by rw [ho₁] at e; cases e; exact hG₁.flds)
        exact E₃.trans hE
end
end Mine
end

section
open PySem PySem.W PyProof.Rows
set_option Elab.async false
namespace Mine
theorem Al.length {kvs : List (Int × Value)} {l : List (Nat × Nat)} (h : Al kvs l) : kvs.length = l.length := by
  induction h with
  | nil => rfl
  | cons _ _ _ _ ih => simp [ih]
theorem Al.look {kvs : List (Int × Value)} {l : List (Nat × Nat)} (h : Al kvs l) (x : Nat) : (∀ i, lookI l x = some i → ∃ t, valueAt kvs (x : Int) = some (.int (i : Int) t)) ∧ (lookI l x = none → valueAt kvs (x : Int) = none) := by
  induction h with
  | nil => exact ⟨fun i e => by simp [lookI] at e, fun _ => rfl⟩
  | @cons k j t kvs l _ ih =>
    unfold lookI valueAt at ih ⊢
    by_cases e : k = x
    · subst e
      simp [List.lookup]
    · have e1 : ¬ ((k : Int) = (x : Int)) := by omega
      have e2 : (x == k) = false := by rw [beq_eq_false_iff_ne]; exact fun h => e h.symm
      rw [List.find?_cons_of_neg (by simpa using e1), List.lookup_cons, e2]
      exact ih
theorem valueAt_any {kvs : List (Int × Value)} {k : Int} : (kvs.any fun kv => kv.1 = k) = (valueAt kvs k).isSome := by
  unfold valueAt
  rw [Option.isSome_map]
  induction kvs with
  | nil => rfl
  | cons a l ih =>
    rw [List.any_cons, List.find?_cons]
    cases decide (a.1 = k) with
    | true => rfl
    | false => rw [Bool.false_or]; exact ih
theorem Al.snoc {kvs : List (Int × Value)} {l : List (Nat × Nat)} (h : Al kvs l) {x i : Nat} (t : Tok) (hn : lookI l x = none) : Al (stored kvs (x : Int) (.int (i : Int) t)) (l ++ [(x, i)]) := by
  unfold stored
  rw [valueAt_any, (h.look x).2 hn]
  show Al (kvs ++ [((x : Int), .int (i : Int) t)]) _
  clear hn
  induction h with
  | nil => exact .cons x i t .nil
  | cons k j u _ ih => exact .cons k j u ih
theorem keys_stored {kvs : List (Int × Value)} {l : List Nat} (h : kvs.map (·.1) = l.map fun (x : Nat) => (x : Int)) (x : Nat) (v : Value) : (stored kvs (x : Int) v).map (·.1) = (addI l x).map fun (x : Nat) => (x : Int) := by
  have hm : (kvs.any fun kv => kv.1 = (x : Int)) = decide (x ∈ l) := by
    have : (kvs.any fun kv => kv.1 = (x : Int)) = ((kvs.map (·.1)).any fun k => k = (x : Int)) := by rw [List.any_map]; rfl
    rw [this, h, List.any_map]
    rw [Bool.eq_iff_iff, List.any_eq_true]
    simp only [Function.comp, decide_eq_true_eq]
    exact ⟨fun ⟨y, hy, e⟩ => Int.ofNat.inj e ▸ hy, fun h => ⟨x, h, rfl⟩⟩
  unfold stored addI
  rw [hm]
  by_cases c : x ∈ l
  · simp only [c, decide_true, if_true]
    rw [List.map_map]
    rw [← h]
    refine List.map_congr_left fun a _ => ?_
    simp only [Function.comp]
    split
    · rfl
    · rfl
  · simp only [c, decide_false, if_false, Bool.false_eq_true]
    rw [List.map_append, List.map_append, h]; rfl
theorem keys_has {kvs : List (Int × Value)} {l : List Nat} (h : kvs.map (·.1) = l.map fun (x : Nat) => (x : Int)) (x : Nat) : (valueAt kvs (x : Int)).isSome = decide (x ∈ l) := by
  rw [← valueAt_any]
  have : (kvs.any fun kv => kv.1 = (x : Int)) = ((kvs.map (·.1)).any fun k => k = (x : Int)) := by rw [List.any_map]; rfl
  rw [this, h, List.any_map, Bool.eq_iff_iff, List.any_eq_true]
  simp only [Function.comp, decide_eq_true_eq]
  exact ⟨fun ⟨y, hy, e⟩ => Int.ofNat.inj e ▸ hy, fun h => ⟨x, h, rfl⟩⟩

section
variable {w : World} {A : Around} {E : Value → Shared → Prop} {B : Shared} {Pk : Addr → Obj → Prop} {G : Array GenState → Prop} {L L' : Ledger} {s : Shared}
theorem St.idx (S : St B Pk G L s) {a : Addr} {l : List (Nat × Nat)} (h : (a, IdxP w l) ∈ L) : ∃ kvs, s.heap.DictOf (intKind pw w) a kvs ∧ Al kvs l := by
  obtain ⟨o, ho, kvs, h1, h2⟩ := S.get h
  obtain ⟨es, ep, h1, h3, h4⟩ := h1
  exact ⟨kvs, ⟨o, es, ep, ho, h1, h3, h4⟩, h2⟩
theorem St.idn (S : St B Pk G L s) {a : Addr} {l : List Nat} (h : (a, IdnP w l) ∈ L) : ∃ kvs, s.heap.DictOf (intKind pw w) a kvs ∧ kvs.map (·.1) = l.map fun (x : Nat) => (x : Int) := by
  obtain ⟨o, ho, kvs, h1, h2⟩ := S.get h
  obtain ⟨es, ep, h1, h3, h4⟩ := h1
  exact ⟨kvs, ⟨o, es, ep, ho, h1, h3, h4⟩, h2⟩
theorem St.nlst (S : St B Pk G L s) {a : Addr} {xs : List Nat} (h : (a, NLst xs) ∈ L) : ∃ vs, NA vs xs ∧ s.heap.PlainList a vs.toArray := by
  obtain ⟨o, ho, vs, h1, n, rfl⟩ := S.get h
  exact ⟨vs, h1, n, ho⟩

theorem idx_get {a : Addr} {l : List (Nat × Nat)} {x i : Nat} {t : Tok} {Q : Value → Shared → Prop} (S : St B Pk G L s) (h : (a, IdxP w l) ∈ L) (hi : lookI l x = some i) (hQ : ∀ u, Q (.int (i : Int) u) { s with toks := s.toks + 1 }) :
    wpAny (model pw w) A (getItem (.ref a) (.int (x : Int) t)) Q E s := by
  obtain ⟨kvs, hd, ha⟩ := S.idx h
  obtain ⟨u, hu⟩ := (ha.look x).1 i hi
  exact get_dct hd hu (hQ u)
theorem idx_notin {a : Addr} {l : List (Nat × Nat)} {x : Nat} {t : Tok} {Q : Value → Shared → Prop} (S : St B Pk G L s) (h : (a, IdxP w l) ∈ L) (hs : (a == sysModules) = false) (hQ : Q (.bool (lookI l x).isNone) { s with toks := s.toks + 1 }) :
    wpAny (model pw w) A (compareOp .NotIn (.int (x : Int) t) (.ref a)) Q E s := by
  obtain ⟨kvs, hd, ha⟩ := S.idx h
  refine notin_dct hd hs ?_
  cases e : lookI l x with
  | none => rw [(ha.look x).2 e]; rw [e] at hQ; exact hQ
  | some i =>
    obtain ⟨u, hu⟩ := (ha.look x).1 i e
    rw [hu]; rw [e] at hQ; exact hQ
theorem idx_set {a : Addr} {l : List (Nat × Nat)} {x i : Nat} {t u : Tok} {Q : Unit → Shared → Prop} (S : St B Pk G L s) (up : Upd L a (IdxP w l) (IdxP w (l ++ [(x, i)])) L') (hn : lookI l x = none) (hsz : l.length ≤ 2 ^ 20)
    (h : ∀ s', St B Pk G L' s' → Q () s') : wpAny (model pw w) A (setItem (.ref a) (.int (x : Int) t) (.int (i : Int) u)) Q E s := by
  obtain ⟨kvs, hd, ha⟩ := S.idx up.mem
  refine wpAny_setItem_pairs (k := (x : Int)) (by simp [intKind, Value.isInt]) hd (fun h' hp hs => h _ ?_) (by rw [sizeLine_eq, ha.length]; omega)
  obtain ⟨o, ho, hP⟩ := dct_of hp
  exact S.upd (s' := { s with heap := h', toks := s.toks + 1 }) up hs ⟨o, ho, _, hP, ha.snoc u hn⟩ rfl rfl rfl
theorem idn_notin {a : Addr} {l : List Nat} {x : Nat} {t : Tok} {Q : Value → Shared → Prop} (S : St B Pk G L s) (h : (a, IdnP w l) ∈ L) (hs : (a == sysModules) = false) (hQ : Q (.bool (decide (x ∉ l))) { s with toks := s.toks + 1 }) :
    wpAny (model pw w) A (compareOp .NotIn (.int (x : Int) t) (.ref a)) Q E s := by
  obtain ⟨kvs, hd, ha⟩ := S.idn h
  refine notin_dct hd hs ?_
  rw [keys_has ha]
  simpa using hQ
theorem idn_set {a : Addr} {l : List Nat} {x : Nat} {t : Tok} {v : Value} {Q : Unit → Shared → Prop} (S : St B Pk G L s) (up : Upd L a (IdnP w l) (IdnP w (addI l x)) L') (hsz : l.length ≤ 2 ^ 20)
    (h : ∀ s', St B Pk G L' s' → Q () s') : wpAny (model pw w) A (setItem (.ref a) (.int (x : Int) t) v) Q E s := by
  obtain ⟨kvs, hd, ha⟩ := S.idn up.mem
  have hl : kvs.length = l.length := by have := congrArg List.length ha; simpa using this
  refine wpAny_setItem_pairs (k := (x : Int)) (by simp [intKind, Value.isInt]) hd (fun h' hp hs => h _ ?_) (by rw [sizeLine_eq, hl]; omega)
  obtain ⟨o, ho, hP⟩ := dct_of hp
  exact S.upd (s' := { s with heap := h', toks := s.toks + 1 }) up hs ⟨o, ho, _, hP, keys_stored ha x v⟩ rfl rfl rfl
end
end Mine
end

section
open PySem PySem.W PyProof.Rows
set_option Elab.async false
namespace Mine
local macro_rules | `(tactic| walk_at "mem") => `(tactic| repeat (first | exact List.Mem.head _ | apply List.Mem.tail))
local macro_rules | `(tactic| walk_at "lg") => `(tactic| repeat (first | (with_reducible exact LG.head) | apply LG.tail))
local macro_rules | `(tactic| walk_at "upd") => `(tactic| repeat (first | exact Upd.head | apply Upd.tail))
local macro_rules | `(tactic| walk_at "ls") => `(tactic| repeat (first | (with_reducible exact LS.head) | apply LS.tail))

section
variable {prog : Program} {w : World} {A : Around} {s : Shared} {R : Result → Shared → Prop}
/-- a generator's function is called -/
theorem call_gen {a : Addr} {fd : FuncData} {body : List Stmt} {args : List Value} {binds : List (Str × Value)} {ks : List Str} {vs : List (Option Value)}
    (hf : FnOk s.heap a fd) (hroom : A.depth < recursionLimit) (hlim : s.heap.NoLimit)
    (hbody : fd.body = .stmts body) (hbind : bindArgs fd ⟨args, []⟩ = pure binds)
    (hloc : (binds.all fun x => decide (fd.scope.names.lookup x.1 = some .local)) = true) (hks : ks.map (fun x => binds.reverse.lookup x) = vs)
    (h : ∀ s₁ ob, s.heap.objs.size < ob → s₁.heap.IsGen ob s.gens.size → St s KAll (fun x => x = s.gens.push (.fresh (.func body (fnEnv fd s.heap.objs.size a)))) [(ob, GenK s.gens.size 0), (s.heap.objs.size, LocP ks vs)] s₁ → R (.ok (.ret (.ref ob))) s₁)
    (hco : fd.scope.isCoroutine = false := by rfl) (hgen : fd.scope.isGenerator = true := by rfl) (hk : fd.scope.kind = .function := by rfl)
    (hcell : (fd.scope.names.all fun x => decide (x.2 ≠ .cell)) = true := by rfl) :
    codeAny (model prog w) A (.call (.ref a) ⟨args, []⟩) R s := by
  have hcell : ∀ x ∈ fd.scope.names, x.2 ≠ .cell := fun x hx => of_decide_eq_true (List.all_eq_true.mp hcell x hx)
  obtain ⟨o, ho, hdata, hcd⟩ := hf
  refine codeAny_call_generator hroom ho hdata hco hgen hbody hcd ?_
  rw [hbind]
  refine wpAny_pure (wpAny_newFunctionEnv hcell (locs hloc) (fun h₁ hns hsb => ⟨hlim.fresh _ hsb, ?_⟩) hk)
  have hne : ∀ b o, s.heap.get? b = some o → b ≠ s.heap.objs.size := fun b o e => Nat.ne_of_lt (Heap.lt_size e)
  have S₁ : St s KAll (EqG s) [(s.heap.objs.size, LocP ks vs)] { s with heap := h₁, toks := s.toks + binds.length } := by
    obtain ⟨o', ho', hN⟩ := ns_iff.mp hns
    exact (St.start s KAll).new ⟨h₁, _, rfl, fun b o e => hsb.extBut b o (hne b o e) (Heap.get?_push_of_some _ e)⟩ (Nat.le_refl _) ho' ⟨_, hN, hks⟩
  have hlt : s.heap.objs.size < h₁.objs.size := S₁.lt (.head _)
  have S₂ := S₁.alloc (o := { cls := .type "generator", data := .fields #[.int s.gens.size 0, .str fd.name (s.toks + binds.length), .str fd.qualname (s.toks + binds.length + 1)] }) (P := GenK s.gens.size 0) rfl
    ⟨rfl, ⟨_, _, rfl⟩, fun n t e => by simp at e⟩
  exact h _ _ hlt ⟨_, _, _, Heap.get?_push_size _ rfl, rfl, rfl, rfl⟩ ((S₂.tok _).regen (x := s.gens.push (.fresh (.func body (fnEnv fd s.heap.objs.size a)))) rfl)
end

section
variable {w : World} {Φ : Outcome → Shared → Prop} {P : Gn} {ys : List (List Nat)} {s₀ s : Shared} {c : Code} {fs : List Fr} {env : Env} {K : Flow → Sem PySem.Fin} {H : Value → Sem PySem.Fin} {lv : List Value → List Value}
/-- the statement  yield from e , e a new generator -/
theorem Cn.ExprYF {e : Expr} {ypos pos : Pos}
    (h : wpAny (model pw w) (ard (P.d + fd fs) (P.u + fu fs) c) (eval e env) (fun v s₁ => ∃ ob g, v = .ref ob ∧ s₁.heap.IsGen ob g ∧
      ∀ k l p, k (.ok (.ret .none)) = K .next → Cn w Φ P ys s₀ (.builtin "proto.yield_from" (yfArgs ob)) (⟨k, l, c, p, []⟩ :: fs) (denote table (.builtin "proto.yield_from" (yfArgs ob))) s₁)
      (fun x s' => Cn w Φ P ys s₀ c fs (H x) s') s) (hi : interactive env = false := by rfl) (hs : swapsWith (.YieldFrom e ypos) none pos.line env = pure false := by rfl) :
    Cn w Φ P ys s₀ c fs ((exec (.Expr (.YieldFrom e ypos) pos) env).wrap K H id lv) s := by
  rw [exec_Expr env _ pos hi hs]
  refine .bindw (wpAny_standAt (.assoc ?_))
  show Cn w Φ P ys s₀ c fs ((eval e env >>= fun v => standAt ypos >>= fun _ => yieldFrom env v).wrap _ H id lv) s
  refine .bindw (wpAny_mono h (fun v s₁ h₁ => .bindw (wpAny_standAt ?_)) fun _ _ e => e)
  obtain ⟨ob, g, rfl, hg, h₁⟩ := h₁
  unfold PySem.yieldFrom
  refine .bindw (wpAny_typeOf hg.typeIs ?_)
  rw [if_neg (by decide)]
  refine .bindw (wpAny_holding (wpAny_pyIter_gen hg ?_))
  refine .call fun p => h₁ _ _ p rfl
end
end Mine
end

section
open PySem PySem.W PyProof.Rows
set_option Elab.async false
namespace Mine
local macro_rules | `(tactic| walk_at "mem") => `(tactic| repeat (first | exact List.Mem.head _ | apply List.Mem.tail))
local macro_rules | `(tactic| walk_at "lg") => `(tactic| repeat (first | (with_reducible exact LG.head) | apply LG.tail))
local macro_rules | `(tactic| walk_at "upd") => `(tactic| repeat (first | exact Upd.head | apply Upd.tail))
local macro_rules | `(tactic| walk_at "ls") => `(tactic| repeat (first | (with_reducible exact LS.head) | apply LS.tail))

def dfsStmt : Stmt := (fBody (stmtAt 1)).getD 4 (.Pass default)
structure Cells where
  B : Addr
  D : Addr
  E : Addr
  I : Addr
  X : Addr
  S : Addr
def Cells.cl (c : Cells) : List (Str × Addr) := [("stack", c.S), ("index", c.X), ("identified", c.I), ("edges", c.E), ("dfs", c.D), ("boundaries", c.B)]
def dfsFd (c : Cells) (clT code pm doc : Value) : FuncData :=
  { name := "dfs", qualname := "strongly_connected_components.<locals>.dfs", params := fArgs dfsStmt, body := .stmts (fBody dfsStmt), scope := fScope dfsStmt, globals := mainGlobals, closure := c.cl, closureTuple := clT,
    code := code, builtins := builtinsNs, defaults := .none, kwdefaults := .none, annotations := none, pyModule := pm, doc := doc }
theorem dfs_bind (c : Cells) (clT code pm doc a : Value) : bindArgs (dfsFd c clT code pm doc) ⟨[a], []⟩ = pure [(("v" : Str), a)] := by with_unfolding_all rfl

/-- what stands fast below the search -/
structure DF (C : Cx) where
  h0 : Heap
  n : Nat
  E : Nat → List Nat
  dE : Addr
  c : Cells
  fD : Addr
  clT : Value
  code : Value
  pm : Value
  doc : Value
  st : ∀ a o, h0.get? a = some o → a < C.nS ∧ ¬ C.X a ∧ ¬ C.four a
  lowX : ∀ a, C.X a → a < C.nS
  low4 : ∀ a, C.four a → a < C.nS
  x4 : ∀ a, C.four a → ¬ C.X a
  names : Names h0
  edges : EdgesOk C.w h0 dE n E
  cB : h0.IsCell c.B (some (.ref C.F3))
  cD : h0.IsCell c.D (some (.ref fD))
  cE : h0.IsCell c.E (some (.ref dE))
  cI : h0.IsCell c.I (some (.ref C.F0))
  cX : h0.IsCell c.X (some (.ref C.F2))
  cS : h0.IsCell c.S (some (.ref C.F1))
  fn : FnOk h0 fD (dfsFd c clT code pm doc)
  sys0 : (C.F0 == sysModules) = false
  sys2 : (C.F2 == sysModules) = false

theorem IsCell.keeps {h h' : Heap} {a : Addr} {v : Option Value} (x : h.IsCell a v) (hk : ∀ b o, h.get? b = some o → h'.get? b = some o) : h'.IsCell a v := let ⟨o, h1, h2⟩ := x; ⟨o, hk _ _ h1, h2⟩

section
variable {C : Cx} (D : DF C)
def DF.fd : FuncData := dfsFd D.c D.clT D.code D.pm D.doc
def DF.env (Lf : Addr) : Env := fnEnv D.fd Lf D.fD
theorem DF.ss {n ob : Nat} {G : Array GenState → Prop} {L : Ledger} {s s' : Shared} (hs : SS D.h0 s.heap) (S : St s (C.Pk n ob) G L s') (hn : C.nS ≤ n) : SS D.h0 s'.heap := fun a o e =>
  S.keep a o (hs a o e) ⟨(D.st a o e).2.2, .inl (Nat.lt_of_lt_of_le (D.st a o e).1 hn)⟩
theorem DF.ssEvo {ob g : Nat} {s s' : Shared} (hs : SS D.h0 s.heap) (ev : C.Evo ob g s s') : SS D.h0 s'.heap := fun a o e => ev.keep a o (hs a o e) (D.st a o e).2.1 (.inl (D.st a o e).1)
theorem DF.ssEv {ob g : Nat} {s s' : Shared} (hs : SS D.h0 s.heap) (ev : C.Ev ob g s s') : SS D.h0 s'.heap := fun a o e => ev.keep a o (hs a o e) (D.st a o e).2.1 (.inl (D.st a o e).1)

abbrev ks4 : List Str := ["v", "w", "scc", "one"]
def DF.L (_ : DF C) (Lf : Addr) (lo : List (Option Value)) (σ : Sx) : Ledger := (Lf, LocP ks4 lo) :: C.L σ
end

section
variable {C : Cx} {D : DF C} {A : Around} {E : Value → Shared → Prop} {B : Shared} {Pk : Addr → Obj → Prop} {G : Array GenState → Prop} {L : Ledger} {s : Shared} {Lf : Addr} {lo : List (Option Value)} {σ : Sx} {v : Nat} {t : Tok}

/-- index[v] = len(stack); stack.append(v) -/
theorem d_s0 {Q : Flow → Shared → Prop} (ks : SS D.h0 s.heap) (S : St B Pk G ((Lf, LocP ks4 (some (.int (v : Int) t) :: lo)) :: C.L σ) s) (hn : lookI σ.idx v = none) (ok : okS σ = true)
    (h : ∀ s', St B Pk G ((Lf, LocP ks4 (some (.int (v : Int) t) :: lo)) :: C.L { σ with idx := σ.idx ++ [(v, σ.stk.length)] }) s' → Q .next s') :
    wpAny (model pw C.w) A (exec ((fBody dfsStmt).getD 0 (.Pass default)) (D.env Lf)) Q E s := by
  simp only [okS, Bool.and_eq_true, decide_eq_true_eq] at ok
  obtain ⟨⟨⟨o1, o2⟩, o3⟩, o4⟩ := ok
  obtain ⟨mg, mb, hg, hb, g1, g2, g3, g4, g5, gm, b1, b2, b3, b4, b5, b6, b7, b8⟩ := D.names.ex
  obtain ⟨vs, hv, hl⟩ := S.nlst (a := C.F1) (xs := σ.stk) (by walk_at "mem")
  have hlen := hv.length
  refine wpAny_Assign_Subscript (call1 (lblt (hg.keeps ks) (gm _ (by decide)) (hb.keeps ks) b1 ?_))
  refine ldf (IsCell.keeps D.cS ks) rfl ⟨trivial, ?_⟩
  refine lenL hl.isList (by simp; omega) ?_
  refine ldf (IsCell.keeps (h' := s.heap) D.cX ks) rfl ?_
  refine ldl (S.tok _) (by walk_at "mem") (by walk_at "lg") ?_
  have e : ((vs.toArray.size : Nat) : Int) = (σ.stk.length : Int) := by simp [hlen]
  rw [e]
  refine idx_set (S.tok _) (by walk_at "upd") hn (by omega) fun s' S' => h s' S'

theorem NLst.upd_snoc {vs : List Value} {xs : List Nat} {x : Nat} {t : Tok} (h : NA vs xs) : ∀ o, LstP (vs ++ [.int (x : Int) t]) o → NLst (xs ++ [x]) o := fun _ ho => ⟨_, h.snoc x t, ho⟩
theorem S_appN {D' : Addr} {xs : List Nat} {x : Nat} {u : Tok} {L' : Ledger} {Q : Value → Shared → Prop} (S : St B Pk G L s) (up : Upd L D' (NLst xs) (NLst (xs ++ [x])) L') (hsz : xs.length ≤ 2 ^ 20)
    (h : ∀ s', St B Pk G L' s' → Q .none s') : wpAny (model pw C.w) A (call (.builtin "list.append") [.ref D', .int (x : Int) u]) Q E s := by
  obtain ⟨vs, hv, hl⟩ := S.nlst up.mem
  have hlen := hv.length
  refine wpAny_list_append_plain hl (fun h' hp hs => h _ ?_) (by simp only [List.size_toArray, sizeLine_eq]; omega)
  obtain ⟨n, e⟩ := hp
  exact S.upd (s' := { s with heap := h' }) up hs ⟨_, e, _, hv.snoc x u, n, by simp⟩ rfl rfl rfl

theorem d_s1 {Q : Flow → Shared → Prop} (ks : SS D.h0 s.heap) (S : St B Pk G ((Lf, LocP ks4 (some (.int (v : Int) t) :: lo)) :: C.L σ) s) (hz : σ.stk.length ≤ 1000)
    (h : ∀ s', St B Pk G ((Lf, LocP ks4 (some (.int (v : Int) t) :: lo)) :: C.L { σ with stk := σ.stk ++ [v] }) s' → Q .next s') :
    wpAny (model pw C.w) A (exec ((fBody dfsStmt).getD 1 (.Pass default)) (D.env Lf)) Q E s := by
  obtain ⟨vs, hv, hl⟩ := S.nlst (a := C.F1) (xs := σ.stk) (by walk_at "mem")
  refine ex_append (ldf (IsCell.keeps D.cS ks) rfl ⟨_, _, rfl, hl, ?_⟩)
  refine ldl S (by walk_at "mem") (by walk_at "lg") ?_
  exact S_appN S (by walk_at "upd") (by omega) fun s' S' => ⟨rfl, h s' S'⟩
theorem d_s2 {i : Nat} {Q : Flow → Shared → Prop} (ks : SS D.h0 s.heap) (S : St B Pk G ((Lf, LocP ks4 (some (.int (v : Int) t) :: lo)) :: C.L σ) s) (hz : σ.bnd.length ≤ 1000) (hi : lookI σ.idx v = some i)
    (h : ∀ s', St B Pk G ((Lf, LocP ks4 (some (.int (v : Int) t) :: lo)) :: C.L { σ with bnd := i :: σ.bnd }) s' → Q .next s') :
    wpAny (model pw C.w) A (exec ((fBody dfsStmt).getD 2 (.Pass default)) (D.env Lf)) Q E s := by
  obtain ⟨vs, hv, hl⟩ := S.nlst (a := C.F3) (xs := σ.bnd.reverse) (by walk_at "mem")
  refine ex_append (ldf (IsCell.keeps D.cB ks) rfl ⟨_, _, rfl, hl, ?_⟩)
  refine sub_any (ldf (IsCell.keeps D.cX ks) rfl (ldl S (by walk_at "mem") (by walk_at "lg") ?_))
  obtain ⟨kvs, hd, _⟩ := S.idx (w := C.w) (a := C.F2) (l := σ.idx) (by walk_at "mem")
  refine ⟨on_dct hd, idx_get S (by walk_at "mem") hi fun u => ?_⟩
  refine S_appN (xs := σ.bnd.reverse) (x := i) (L' := (Lf, LocP ks4 (some (.int (v : Int) t) :: lo)) :: C.L { σ with bnd := i :: σ.bnd }) (S.tok _) ?_ (by simpa using (show σ.bnd.length ≤ 2 ^ 20 by omega)) fun s' S' => ⟨rfl, h s' S'⟩
  show Upd ((Lf, _) :: (C.F3, NLst σ.bnd.reverse) :: _) C.F3 _ _ ((Lf, _) :: (C.F3, NLst (i :: σ.bnd).reverse) :: _)
  rw [List.reverse_cons]
  exact .tail .head

def stBody : Stmt → List Stmt
  | .For _ _ b _ _ => b
  | .If _ b _ _ => b
  | .While _ b _ _ => b
  | _ => []
def stElse : Stmt → List Stmt
  | .If _ _ o _ => o
  | _ => []
theorem NA.snoc_inv {vs : List Value} {xs : List Nat} {x : Nat} (h : NA vs (xs ++ [x])) : ∃ vs' t, vs = vs' ++ [.int (x : Int) t] ∧ NA vs' xs := by
  unfold NA at h ⊢
  induction xs generalizing vs with
  | nil =>
    cases h with
    | cons n t h => cases h; exact ⟨[], t, rfl, .nil⟩
  | cons y ys ih =>
    cases h with
    | cons n t h =>
      obtain ⟨vs', u, rfl, h'⟩ := ih h
      exact ⟨_ :: vs', u, rfl, .cons _ t h'⟩
def whileS : Stmt := (stBody ((stElse ((stBody ((fBody dfsStmt).getD 3 (.Pass default))).getD 0 (.Pass default))).getD 0 (.Pass default))).getD 0 (.Pass default)
/-- while index[w] < boundaries[-1]: boundaries.pop() -/
theorem d_while {x i : Nat} {b' : List Nat} {tx : Tok} {l1 l2 l3 : Option Value} {it : Addr} {PI : OP} {Q : Flow → Shared → Prop} {n ob : Nat}
    (hB : SS D.h0 B.heap) (hn : C.nS ≤ n) (S : St B (C.Pk n ob) G ((it, PI) :: (Lf, LocP ks4 [l1, some (.int (x : Int) tx), l2, l3]) :: C.L σ) s) (hz : σ.bnd.length ≤ 1000) (hi : lookI σ.idx x = some i) (hp : popR i σ.bnd = some b')
    (h : ∀ s', St B (C.Pk n ob) G ((it, PI) :: (Lf, LocP ks4 [l1, some (.int (x : Int) tx), l2, l3]) :: C.L { σ with bnd := b' }) s' → Q .next s') :
    wpAny (model pw C.w) A (exec whileS (D.env Lf)) Q E s := by
  refine wpAny_While ?_
  refine codeAny_whileLoop (fun m s' => ∃ b, popR i b = some b' ∧ m = b.length ∧ b.length ≤ 1000 ∧ St B (C.Pk n ob) G ((it, PI) :: (Lf, LocP ks4 [l1, some (.int (x : Int) tx), l2, l3]) :: C.L { σ with bnd := b }) s') ?_ σ.bnd.length
    ⟨σ.bnd, hp, rfl, hz, S⟩
  rintro m s₁ ⟨b, hpb, rfl, hbz, S⟩
  have ks := D.ss hB S hn
  cases b with
  | nil => cases hpb
  | cons top rest =>
    obtain ⟨kvs, hd, _⟩ := S.idx (w := C.w) (a := C.F2) (l := σ.idx) (by walk_at "mem")
    obtain ⟨vs, hv, hl⟩ := S.nlst (a := C.F3) (xs := (top :: rest).reverse) (by walk_at "mem")
    rw [List.reverse_cons] at hv
    have hlen := hv.length
    refine wpAny_isTrue_Compare1 (sub_any (ldf (IsCell.keeps D.cX ks) rfl (ldl S (by walk_at "mem") (by walk_at "lg") ⟨on_dct hd, ?_⟩)))
    refine idx_get S (by walk_at "mem") hi fun u => ?_
    refine sub_any (ldf (IsCell.keeps D.cB ks) rfl (wpAny_UnaryOp (wpAny_Constant_int (neg_int ⟨on_list hl, ?_⟩))))
    refine last_nats hl hv fun u' => wpAny_lt_int (wpAny_truthy_bool ?_)
    refine split_dec (fun hlt => ?_) fun hge => ?_
    · have hlt' : i < top := by omega
      obtain ⟨vs', tt, rfl, hv'⟩ := hv.snoc_inv
      refine wpAny_execs_cons (ex_pop (ldf (IsCell.keeps D.cB ks) rfl ⟨_, vs', _, tt, rfl, hl, by simp at hlen hbz; omega, fun s₂ hl₂ hsb h1 h2 h3 => ?_⟩))
      refine wpAny_execs_nil ⟨rest.length, by simp, rest, ?_, rfl, by simp at hbz; omega, ?_⟩
      · unfold popR at hpb
        rw [if_pos hlt'] at hpb
        exact hpb
      · refine St.upd (P := NLst (top :: rest).reverse) (P' := NLst rest.reverse) S (a := C.F3) (by walk_at "upd") hsb ?_ h1 h2 (by rw [h3])
        obtain ⟨k, e⟩ := hl₂
        exact ⟨_, e, vs', hv', k, rfl⟩
    · have hge' : ¬ i < top := by omega
      unfold popR at hpb
      rw [if_neg hge'] at hpb
      obtain rfl := Option.some.inj hpb
      exact wpAny_execs_nil (h _ ((S.tok _).tok _))
end
end Mine
end

section
open PySem PySem.W PyProof.Rows
set_option Elab.async false
namespace Mine
local macro_rules | `(tactic| walk_at "mem") => `(tactic| repeat (first | exact List.Mem.head _ | apply List.Mem.tail))
local macro_rules | `(tactic| walk_at "lg") => `(tactic| repeat (first | (with_reducible exact LG.head) | apply LG.tail))
local macro_rules | `(tactic| walk_at "upd") => `(tactic| repeat (first | exact Upd.head | apply Upd.tail))
local macro_rules | `(tactic| walk_at "ls") => `(tactic| repeat (first | (with_reducible exact LS.head) | apply LS.tail))

section
variable {w : World} {Φ : Outcome → Shared → Prop} {P : Gn} {ys : List (List Nat)} {s₀ s : Shared} {c : Code} {fs : List Fr} {env : Env} {K : Flow → Sem PySem.Fin} {H : Value → Sem PySem.Fin} {lv : List Value → List Value}
theorem Cn.If {test : Expr} {body orelse : List Stmt} {pos : Pos}
    (h : ∀ E, wpAny (model pw w) (ard (P.d + fd fs) (P.u + fu fs) c) (isTrue test env (eval test env)) (fun b s₁ => if b then Cn w Φ P ys s₀ c fs ((execs body env).wrap K H id lv) s₁ else Cn w Φ P ys s₀ c fs ((execs orelse env).wrap K H id lv) s₁) E s) :
    Cn w Φ P ys s₀ c fs ((exec (.If test body orelse pos) env).wrap K H id lv) s := by
  rw [exec_If]
  refine .bindw (wpAny_standAt (.bindw (wpAny_mono (h _) (fun b s₁ h₁ => ?_) fun _ _ h => h)))
  cases b
  · exact h₁
  · exact h₁
theorem Cn.ExprYield {e : Expr} {ypos pos : Pos} {y : List Nat}
    (h : ∀ E, wpAny (model pw w) (ard (P.d + fd fs) (P.u + fu fs) c) (eval e env) (fun v s₁ => P.yld y s₀ s₁ v ∧ ∀ s'', P.evo s₁ s'' → Cn w Φ P ys s'' c fs (K .next) s'') E s)
    (hco : env.scope.isCoroutine = false := by rfl) (hi : interactive env = false := by rfl) (hs : swapsWith (.Yield (some e) ypos) none pos.line env = pure false := by rfl) :
    Cn w Φ P (y :: ys) s₀ c fs ((exec (.Expr (.Yield (some e) ypos) pos) env).wrap K H id lv) s := by
  rw [exec_Expr env _ pos hi hs]
  have hy : ∀ v, yieldOut env v = yieldValue v := fun v => by simp only [yieldOut, hco, Bool.false_eq_true, if_false]
  refine .bindw (wpAny_standAt (.assoc ?_))
  show Cn w Φ P (y :: ys) s₀ c fs ((eval e env >>= fun v => standAt ypos >>= fun _ => yieldOut env v).wrap _ H id lv) s
  simp only [hy]
  refine .bindw (wpAny_mono (h _) (fun v s₁ h₁ => .bindw (wpAny_standAt ?_)) fun _ _ h => h)
  exact .yield (fun e => nomatch e) h₁.1 h₁.2
end

section
variable {C : Cx} {D : DF C} {A : Around} {E : Value → Shared → Prop} {B : Shared} {G : Array GenState → Prop} {L : Ledger} {s : Shared} {Lf : Addr} {σ : Sx} {v : Nat} {t : Tok} {n ob : Nat}
def exitB : List Stmt := stBody ((fBody dfsStmt).getD 4 (.Pass default))

theorem intsAre_drop {vs : List Value} {ns : List Int} (h : IntsAre vs ns) : ∀ i, IntsAre (vs.drop i) (ns.drop i) := by
  induction h with
  | nil => intro i; simpa using IntsAre.nil
  | cons m q hv ih =>
    intro i
    cases i with
    | zero => exact .cons m q hv
    | succ i => exact ih i
theorem intsAre_take {vs : List Value} {ns : List Int} (h : IntsAre vs ns) : ∀ i, IntsAre (vs.take i) (ns.take i) := by
  induction h with
  | nil => intro i; simpa using IntsAre.nil
  | cons m q hv ih =>
    intro i
    cases i with
    | zero => exact .nil
    | succ i => exact .cons m q (ih i)
theorem NA.drop {vs : List Value} {xs : List Nat} (h : NA vs xs) (i : Nat) : NA (vs.drop i) (xs.drop i) := by
  unfold NA at h ⊢; rw [List.map_drop]; exact intsAre_drop h i
theorem NA.take {vs : List Value} {xs : List Nat} (h : NA vs xs) (i : Nat) : NA (vs.take i) (xs.take i) := by
  unfold NA at h ⊢; rw [List.map_take]; exact intsAre_take h i

/-- boundaries[-1] == index[v] -/
theorem d_test {lo : List (Option Value)} {top i : Nat} {rest : List Nat} {Q : Bool → Shared → Prop} {test : Expr} {body orelse : List Stmt} {pos : Pos} (hst : (fBody dfsStmt).getD 4 (.Pass default) = .If test body orelse pos)
    (hB : SS D.h0 B.heap) (hn : C.nS ≤ n) (S : St B (C.Pk n ob) G ((Lf, LocP ks4 (some (.int (v : Int) t) :: lo)) :: C.L σ) s) (hb : σ.bnd = top :: rest) (hi : lookI σ.idx v = some i)
    (h : ∀ s', St B (C.Pk n ob) G ((Lf, LocP ks4 (some (.int (v : Int) t) :: lo)) :: C.L σ) s' → Q (decide (top = i)) s') :
    wpAny (model pw C.w) A (isTrue test (D.env Lf) (eval test (D.env Lf))) Q E s := by
  have ks := D.ss hB S hn
  obtain ⟨kvs, hd, _⟩ := S.idx (w := C.w) (a := C.F2) (l := σ.idx) (by walk_at "mem")
  obtain ⟨vs, hv, hl⟩ := S.nlst (a := C.F3) (xs := σ.bnd.reverse) (by walk_at "mem")
  rw [hb, List.reverse_cons] at hv
  cases hst
  refine wpAny_isTrue_Compare1 (sub_any (ldf (IsCell.keeps D.cB ks) rfl (wpAny_UnaryOp (wpAny_Constant_int (neg_int ⟨on_list hl, ?_⟩)))))
  refine last_nats hl hv fun u' => ?_
  have S₁ := (S.tok (s.toks + 1)).tok (s.toks + 1 + 1)
  refine sub_any (ldf (IsCell.keeps D.cX (fun a o e => D.ss hB S₁ hn a o e)) rfl (ldl S₁ (by walk_at "mem") (by walk_at "lg") ?_))
  refine ⟨on_dct hd, idx_get S₁ (by walk_at "mem") hi fun u => ?_⟩
  refine wpAny_eq_int (wpAny_truthy_bool ?_)
  have e : ((top : Int) == (i : Int)) = decide (top = i) := by
    by_cases h : top = i
    · subst h; simp
    · have : ((top : Int) == (i : Int)) = false := by rw [beq_eq_false_iff_ne]; omega
      simp [h, this]
  rw [e]
  exact h _ (S₁.tok _)

theorem d_e0 {lo : List (Option Value)} {top : Nat} {rest : List Nat} {Q : Flow → Shared → Prop}
    (hB : SS D.h0 B.heap) (hn : C.nS ≤ n) (S : St B (C.Pk n ob) G ((Lf, LocP ks4 lo) :: C.L σ) s) (hb : σ.bnd = top :: rest) (hz : σ.bnd.length ≤ 1000)
    (h : ∀ s', St B (C.Pk n ob) G ((Lf, LocP ks4 lo) :: C.L { σ with bnd := rest }) s' → Q .next s') :
    wpAny (model pw C.w) A (exec (exitB.getD 0 (.Pass default)) (D.env Lf)) Q E s := by
  have ks := D.ss hB S hn
  obtain ⟨vs, hv, hl⟩ := S.nlst (a := C.F3) (xs := σ.bnd.reverse) (by walk_at "mem")
  rw [hb, List.reverse_cons] at hv
  have hlen := hv.length
  obtain ⟨vs', tt, rfl, hv'⟩ := hv.snoc_inv
  rw [hb] at hz
  refine ex_pop (ldf (IsCell.keeps D.cB ks) rfl ⟨_, vs', _, tt, rfl, hl, by simp at hlen hz; omega, fun s₂ hl₂ hsb h1 h2 h3 => h _ ?_⟩)
  refine St.upd (P := NLst σ.bnd.reverse) (P' := NLst rest.reverse) S (a := C.F3) (by walk_at "upd") hsb ?_ h1 h2 (by rw [h3])
  obtain ⟨k, e⟩ := hl₂
  exact ⟨_, e, vs', hv', k, rfl⟩

/-- scc = stack[index[v]:] -/
theorem d_e1 {l1 l2 l3 : Option Value} {i : Nat} {Q : Flow → Shared → Prop}
    (hB : SS D.h0 B.heap) (hn : C.nS ≤ n) (S : St B (C.Pk n ob) G ((Lf, LocP ks4 [some (.int (v : Int) t), l1, l2, l3]) :: C.L σ) s) (hi : lookI σ.idx v = some i) (hz : σ.stk.length ≤ 1000) (hle : i ≤ σ.stk.length)
    (h : ∀ DL s' vs, NA vs (σ.stk.drop i) → s.heap.objs.size ≤ DL → St B (C.Pk n ob) G ((DL, LstP vs) :: (Lf, LocP ks4 [some (.int (v : Int) t), l1, some (.ref DL), l3]) :: C.L σ) s' → Q .next s') :
    wpAny (model pw C.w) A (exec (exitB.getD 1 (.Pass default)) (D.env Lf)) Q E s := by
  have ks := D.ss hB S hn
  obtain ⟨vs, hv, hl⟩ := S.nlst (a := C.F1) (xs := σ.stk) (by walk_at "mem")
  have hlen := hv.length
  obtain ⟨kvs, hd, _⟩ := S.idx (w := C.w) (a := C.F2) (l := σ.idx) (by walk_at "mem")
  refine wpAny_Assign_Name (S_slice (ldf (IsCell.keeps D.cS ks) rfl ?_))
  refine sub_any (ldf (IsCell.keeps D.cX ks) rfl (ldl S (by walk_at "mem") (by walk_at "lg") ⟨on_dct hd, ?_⟩))
  refine idx_get S (by walk_at "mem") hi fun u => ?_
  have S₁ := S.tok (s.toks + 1)
  refine ⟨_, _, _, _, _, vs, i, u, rfl, rfl, S₁, hl, by omega, by omega, fun DL s₃ _ hnew S₃ => ?_⟩
  refine stl S₃ (by walk_at "upd") (by walk_at "ls") (by decide) fun s₄ S₄ => h DL s₄ _ ?_ ?_ S₄
  · exact hv.drop i
  · exact hnew

/-- del stack[index[v]:] -/
theorem d_e2 {DL : Addr} {PD : OP} {l1 l2 l3 : Option Value} {i : Nat} {Q : Flow → Shared → Prop}
    (hB : SS D.h0 B.heap) (hn : C.nS ≤ n) (S : St B (C.Pk n ob) G ((DL, PD) :: (Lf, LocP ks4 [some (.int (v : Int) t), l1, l2, l3]) :: C.L σ) s) (hi : lookI σ.idx v = some i) (hz : σ.stk.length ≤ 1000) (hle : i ≤ σ.stk.length)
    (h : ∀ s', St B (C.Pk n ob) G ((DL, PD) :: (Lf, LocP ks4 [some (.int (v : Int) t), l1, l2, l3]) :: C.L { σ with stk := σ.stk.take i }) s' → Q .next s') :
    wpAny (model pw C.w) A (exec (exitB.getD 2 (.Pass default)) (D.env Lf)) Q E s := by
  have ks := D.ss hB S hn
  obtain ⟨vs, hv, hl⟩ := S.nlst (a := C.F1) (xs := σ.stk) (by walk_at "mem")
  have hlen := hv.length
  obtain ⟨kvs, hd, _⟩ := S.idx (w := C.w) (a := C.F2) (l := σ.idx) (by walk_at "mem")
  refine wpAny_Delete (wpAny_deleteEach_cons (wpAny_delete_Subscript (ldf (IsCell.keeps D.cS ks) rfl (wpAny_Slice (wpAny_evalPart_some ?_)))))
  refine sub_any (ldf (IsCell.keeps D.cX ks) rfl (ldl S (by walk_at "mem") (by walk_at "lg") ⟨on_dct hd, ?_⟩))
  refine idx_get S (by walk_at "mem") hi fun u => wpAny_evalPart_none (wpAny_evalPart_none ?_)
  have S₁ := (S.tok (s.toks + 1)).keeps (s' := { s with toks := s.toks + 1, heap := s.heap.push { cls := .type "slice", data := .fields #[.int (i : Int) u, .none, .none] } }) ⟨_, _, rfl, fun _ _ e => Heap.get?_push_of_some _ e⟩
  refine delItem_slice (vs := vs) (i := i) (t := u) (PlainList.keeps hl fun _ _ e => Heap.get?_push_of_some _ e) (Heap.IsSliceOf.new ..) (by omega) (by omega) fun s₂ hl₂ hsb h1 h2 h3 => wpAny_deleteEach_nil (h s₂ ?_)
  refine St.upd (P := NLst σ.stk) (P' := NLst (σ.stk.take i)) S₁ (a := C.F1) (by walk_at "upd") hsb ?_ h1 h2 h3
  obtain ⟨k, e⟩ := hl₂
  exact ⟨_, e, _, hv.take i, k, rfl⟩

theorem addI_len (xs : List Nat) : ∀ l : List Nat, (xs.foldl addI l).length ≤ l.length + xs.length := by
  induction xs with
  | nil => intro l; simp
  | cons x xs ih =>
    intro l
    rw [List.foldl_cons]
    have := ih (addI l x)
    have h2 : (addI l x).length ≤ l.length + 1 := by unfold addI; split <;> simp
    simp only [List.length_cons]; omega

/-- for one in scc: identified[one] = True -/
theorem d_e3 {DL : Addr} {vs : List Value} {xs : List Nat} {l0 l1 l3 : Option Value} {Q : Flow → Shared → Prop} (hh : A.handled = none)
    (S : St B (C.Pk n ob) G ((DL, LstP vs) :: (Lf, LocP ks4 [l0, l1, some (.ref DL), l3]) :: C.L σ) s) (hB : SS D.h0 B.heap) (hn : C.nS ≤ n) (hv : NA vs xs) (hz : σ.idn.length ≤ 1000) (hx : xs.length ≤ 1000)
    (h : ∀ s' l, St B (C.Pk n ob) G ((DL, LstP vs) :: (Lf, LocP ks4 [l0, l1, some (.ref DL), l]) :: C.L { σ with idn := xs.foldl addI σ.idn }) s' → Q .next s') :
    wpAny (model pw C.w) A (exec (exitB.getD 3 (.Pass default)) (D.env Lf)) Q E s := by
  have hlen := hv.length
  refine wpAny_For (ldl S (by walk_at "mem") (by walk_at "lg") ?_)
  refine S_iter S (S.lst (by walk_at "mem")) fun it s₁ _ _ S₁ => ?_
  refine forL (vals := vs) hh (fun k L => ∃ l, L = (DL, LstP vs) :: (Lf, LocP ks4 [l0, l1, some (.ref DL), l]) :: C.L { σ with idn := (xs.take k).foldl addI σ.idn }) ?_ ?_ ?_ ⟨l3, by simp⟩ S₁
  · rintro k L s₂ ⟨l, rfl⟩ S₂
    exact S₂.lst (by walk_at "mem")
  · rintro k x L s₂ hk ⟨l, rfl⟩ S₂
    have hkx : k < xs.length := by
      have := (List.getElem?_eq_some_iff.mp hk).1; omega
    obtain ⟨t, ht⟩ := hv.get hkx
    rw [ht] at hk
    cases hk
    refine wpAny_assign_Name (stl S₂ (by walk_at "upd") (by walk_at "ls") (by decide) fun s₃ S₃ => ?_)
    have ks := D.ss hB S₃ hn
    refine wpAny_execs_cons (wpAny_Assign_Subscript (wpAny_mono (Q := fun v s' => v = .bool true ∧ s' = s₃) ?_ (fun v s' hv' => ?_) fun _ _ e => e))
    · exact fun _ _ _ => ⟨rfl, rfl⟩
    · obtain ⟨rfl, rfl⟩ := hv'
      refine ldf (IsCell.keeps D.cI ks) rfl (ldl S₃ (by walk_at "mem") (by walk_at "lg") ?_)
      have h1 := addI_len (xs.take k) σ.idn
      have h2 : (xs.take k).length ≤ xs.length := List.length_take_le' ..
      refine idn_set S₃ (by walk_at "upd") (by simp only; omega) fun s₄ S₄ => wpAny_execs_nil ⟨rfl, _, ⟨some (.int (xs[k] : Nat) t), ?_⟩, S₄⟩
      have e1 : (xs.take (k + 1)).foldl addI σ.idn = addI ((xs.take k).foldl addI σ.idn) xs[k] := by
        rw [List.take_add_one, List.getElem?_eq_getElem hkx, List.foldl_append]; rfl
      rw [e1]; rfl
  · rintro L s₂ ⟨l, rfl⟩ S₂
    have e : xs.take vs.length = xs := List.take_of_length_le (by omega)
    rw [e] at S₂
    exact h s₂ l S₂
end
end Mine
end

section
open PySem PySem.W PyProof.Rows
set_option Elab.async false
namespace Mine
local macro_rules | `(tactic| walk_at "mem") => `(tactic| repeat (first | exact List.Mem.head _ | apply List.Mem.tail))
local macro_rules | `(tactic| walk_at "lg") => `(tactic| repeat (first | (with_reducible exact LG.head) | apply LG.tail))
local macro_rules | `(tactic| walk_at "upd") => `(tactic| repeat (first | exact Upd.head | apply Upd.tail))
local macro_rules | `(tactic| walk_at "ls") => `(tactic| repeat (first | (with_reducible exact LS.head) | apply LS.tail))

/-- a call that keeps all, seen from the walk around it -/
theorem St.called {B s s' : Shared} {Pk : Addr → Obj → Prop} {G G' G₂ : Array GenState → Prop} {L L' : Ledger} (S : St B Pk G L s) (S' : St s KAll G' L' s') (hL : ∀ p ∈ L', s.heap.objs.size ≤ p.1) (hG : G₂ s'.gens) : St B Pk G₂ (L' ++ L) s' := by
  refine S.comp (s₁ := s) rfl rfl rfl S' (fun _ _ _ _ => trivial) (fun p hp => ?_) ?_ hG
  · rcases List.mem_append.mp hp with h | h
    · exact .inl h
    · exact .inr ⟨h, fun _ _ _ => trivial⟩
  · rw [List.map_append, List.pairwise_append]
    refine ⟨S'.ord, S.ord, fun a ha b hb => ?_⟩
    obtain ⟨p, hp, rfl⟩ := List.mem_map.mp ha
    obtain ⟨q, hq, rfl⟩ := List.mem_map.mp hb
    exact Nat.lt_of_lt_of_le (S.lt hq) (hL p hp)

section
variable {C : Cx} {D : DF C} {A : Around} {E : Value → Shared → Prop} {s : Shared} {L : Ledger} {B : Shared} {Pk : Addr → Obj → Prop} {G : Array GenState → Prop}
/-- dfs(x): a new generator -/
theorem d_call {x : Nat} {tx : Tok} {Q : Value → Shared → Prop} (hd : A.depth < 900) (ks : SS D.h0 s.heap) (S : St B Pk G L s)
    (h : ∀ s₁ Lf ob, s.heap.objs.size ≤ Lf → Lf < ob → s₁.heap.IsGen ob s.gens.size → s₁.gens = s.gens.push (.fresh (.func (fBody dfsStmt) (D.env Lf))) →
      (∀ G₂ : Array GenState → Prop, G₂ s₁.gens → St B Pk G₂ ((ob, GenK s.gens.size 0) :: (Lf, LocP ks4 [some (.int (x : Int) tx), none, none, none]) :: L) s₁) → (∀ a o, s.heap.get? a = some o → s₁.heap.get? a = some o) → Q (.ref ob) s₁) :
    wpAny (model pw C.w) A (PySem.call (.ref D.fD) [.int (x : Int) tx]) Q E s := by
  refine wpAny_call (call_gen (ks := ks4) (vs := [some (.int (x : Int) tx), none, none, none]) (D.fn.keeps ks) (by simp only [recursionLimit]; omega) (D.names.lim.keeps ks) rfl (dfs_bind ..) rfl rfl fun s₁ ob hlt hgen S' => ?_)
  refine h s₁ _ ob (Nat.le_refl _) hlt hgen S'.gens (fun G₂ hG => S.called S' (fun p hp => ?_) hG) fun a o e => S'.keep a o e trivial
  rcases List.mem_cons.mp hp with rfl | hp
  · exact Nat.le_of_lt hlt
  · rw [List.mem_singleton.mp hp]; exact Nat.le_refl _
end

section
variable {C : Cx} {D : DF C} {Φ : Outcome → Shared → Prop}
def DF.cd (D : DF C) (Lf : Addr) : Code := .func (fBody dfsStmt) (D.env Lf)
/-- the search's generator as it should be: from σ it tells ys and leaves σ' -/
def DF.Ok (D : DF C) (Φ : Outcome → Shared → Prop) (f : Nat) : Prop := ∀ v t σ ys σ', visitS D.n D.E f v σ = some (ys, σ') → ∀ g ob Lf d u s, C.nS ≤ Lf → Lf < ob → d + f ≤ 850 → u + 5 * f ≤ 9000 →
  SS D.h0 s.heap → (∃ o, s.heap.get? ob = some o) → (∃ o, s.heap.get? Lf = some o ∧ LocP ks4 [some (.int (v : Int) t), none, none, none] o) → (∀ p ∈ C.L σ, ∃ o, s.heap.get? p.1 = some o ∧ p.2 o) → g < s.gens.size → (∀ i, g < i → ∀ y, s.gens[i]? = some y → y = .finished) →
    Cn C.w Φ (C.gn g ob Lf d u σ') ys s (D.cd Lf) [] (denote table (D.cd Lf)) s

theorem Cx.L_keys (C : Cx) (σ : Sx) : (C.L σ).map (·.1) = [C.F3, C.F2, C.F1, C.F0] := rfl
theorem Cx.L_four (C : Cx) {σ : Sx} {p : Addr × OP} (h : p ∈ C.L σ) : C.four p.1 := by
  simp only [Cx.L, List.mem_cons, List.not_mem_nil, or_false] at h
  rcases h with rfl | rfl | rfl | rfl
  · exact .inr (.inr (.inr rfl))
  · exact .inr (.inr (.inl rfl))
  · exact .inr (.inl rfl)
  · exact .inl rfl
theorem Cx.L_ord (C : Cx) (σ : Sx) : ((C.L σ).map (·.1)).Pairwise (· > ·) := by
  rw [Cx.L_keys]
  have h1 := C.o01
  have h2 := C.o12
  have h3 := C.o23
  refine .cons ?_ (.cons ?_ (.cons ?_ (.cons ?_ .nil)))
  · intro a ha
    simp only [List.mem_cons, List.not_mem_nil, or_false] at ha
    rcases ha with rfl | rfl | rfl
    · exact h3
    · exact Nat.lt_trans h2 h3
    · exact Nat.lt_trans h1 (Nat.lt_trans h2 h3)
  · intro a ha
    simp only [List.mem_cons, List.not_mem_nil, or_false] at ha
    rcases ha with rfl | rfl
    · exact h2
    · exact Nat.lt_trans h1 h2
  · intro a ha
    simp only [List.mem_cons, List.not_mem_nil, or_false] at ha
    rcases ha with rfl
    exact h1
  · intro a ha
    exact nomatch ha
theorem LocP.notSeq {ks : List Str} {vs : List (Option Value)} {o : Obj} (h : LocP ks vs o) : ¬ IsSeq o := by
  obtain ⟨_, ⟨es, ep, hd, _⟩, _⟩ := h
  rintro ⟨xs, k, e⟩
  rw [hd] at e; cases e
theorem LocP.notFlds {ks : List Str} {vs : List (Option Value)} {o : Obj} (h : LocP ks vs o) : ¬ IsFlds o := by
  obtain ⟨_, ⟨es, ep, hd, _⟩, _⟩ := h
  rintro ⟨xs, e⟩
  rw [hd] at e; cases e

/-- the ledger at the start of a waking of the search's generator -/
theorem DF.start {g ob Lf : Nat} {σ : Sx} {s : Shared} {lo : List (Option Value)} (hn : C.nS ≤ Lf) (hob : Lf < ob) (hloc : ∃ o, s.heap.get? Lf = some o ∧ LocP ks4 lo o) (h4 : ∀ p ∈ C.L σ, ∃ o, s.heap.get? p.1 = some o ∧ p.2 o)
    (D : DF C) (hg : ∀ i, g < i → ∀ y, s.gens[i]? = some y → y = .finished) : St s (C.Pk Lf ob) (GSf g s) ((Lf, LocP ks4 lo) :: C.L σ) s := by
  refine ⟨fun _ _ e _ => e, fun p hp o e => ?_, fun p hp => ?_, ?_, fun _ o e => ⟨o, e⟩, rfl, rfl, ⟨⟨fun _ _ => rfl, Nat.le_refl _⟩, hg⟩⟩
  · rcases List.mem_cons.mp hp with rfl | hp
    · rintro ⟨_, q | q | q⟩
      · exact Nat.lt_irrefl _ q
      · exact Nat.ne_of_lt hob q
      · obtain ⟨o', ho', hP⟩ := hloc
        rw [e] at ho'; cases ho'
        exact hP.notSeq q
    · exact fun q => q.1 (C.L_four hp)
  · rcases List.mem_cons.mp hp with rfl | hp
    · exact hloc
    · exact h4 p hp
  · rw [List.map_cons]
    refine List.pairwise_cons.mpr ⟨fun a ha => ?_, C.L_ord σ⟩
    obtain ⟨p, hp, rfl⟩ := List.mem_map.mp ha
    exact Nat.lt_of_lt_of_le (D.low4 _ (C.L_four hp)) hn
end
end Mine
end

section
open PySem PySem.W PyProof.Rows
set_option Elab.async false
namespace Mine
local macro_rules | `(tactic| walk_at "mem") => `(tactic| repeat (first | exact List.Mem.head _ | apply List.Mem.tail))
local macro_rules | `(tactic| walk_at "lg") => `(tactic| repeat (first | (with_reducible exact LG.head) | apply LG.tail))
local macro_rules | `(tactic| walk_at "upd") => `(tactic| repeat (first | exact Upd.head | apply Upd.tail))
local macro_rules | `(tactic| walk_at "ls") => `(tactic| repeat (first | (with_reducible exact LS.head) | apply LS.tail))

section
variable {C : Cx} {D : DF C} {Φ : Outcome → Shared → Prop}
/-- what holds at the start of each waking -/
def DF.J (D : DF C) (g ob : Nat) (s : Shared) : Prop := SS D.h0 s.heap ∧ g < s.gens.size ∧ ∃ o, s.heap.get? ob = some o
theorem DF.J_step {g ob n : Nat} (hn : C.nS ≤ n) : ∀ s₀ s s'', D.J g ob s₀ → St s₀ (C.Pk n ob) (GSy g s₀) [] s → C.Evo ob g s s'' → D.J g ob s'' := by
  rintro s₀ s s'' ⟨h1, h2, o, h3⟩ S ev
  refine ⟨D.ssEvo (D.ss h1 S hn) ev, ?_, ?_⟩
  · have hlt : g < s.gens.size := Nat.lt_of_lt_of_le h2 S.gens.2
    have e := ev.gens g (Nat.le_refl _)
    rw [Array.getElem?_eq_getElem hlt] at e
    exact (Array.getElem?_eq_some_iff.mp e).1
  · obtain ⟨o', h⟩ := S.live _ _ h3
    exact ev.live _ _ h
theorem LitP.notSeq {l : Addr} {i : Nat} {o : Obj} (h : LitP l i o) : ¬ IsSeq o := by
  rintro ⟨xs, k, e⟩
  rw [h.2] at e; cases e
theorem GenK.notSeq {g : Nat} {k : Int} {o : Obj} (h : GenK g k o) : ¬ IsSeq o := by
  obtain ⟨_, ⟨_, _, e'⟩, _⟩ := h
  rintro ⟨xs, k, e⟩
  rw [e'] at e; cases e
theorem DF.hst (D : DF C) : cStatics < C.nS ∧ ¬ C.X cStatics ∧ ¬ C.four cStatics := by
  obtain ⟨mc, ⟨o, es, ep, ho, _⟩, _⟩ := D.names.lim
  exact D.st _ _ ho

theorem popR_len {i : Nat} : ∀ {l b : List Nat}, popR i l = some b → b.length ≤ l.length
  | [], _, h => nomatch h
  | x :: l, b, h => by
    unfold popR at h
    split at h
    · exact Nat.le_succ_of_le (popR_len h)
    · cases h; exact Nat.le_refl _
theorem visit_inv {n : Nat} {E : Nat → List Nat} {f v : Nat} {σ σ' : Sx} {ys : List (List Nat)} (h : visitS n E f v σ = some (ys, σ')) : ∃ f' y1 σ1 y2, f = f' + 1 ∧ okS σ = true ∧ lookI σ.idx v = none ∧ v < n ∧
    loopS (visitS n E f') (E v) (enterS v σ) = some (y1, σ1) ∧ okS σ1 = true ∧ exitS v σ1 = some (y2, σ') ∧ ys = y1 ++ y2 := by
  cases f with
  | zero => cases h
  | succ f =>
    unfold visitS at h
    split at h
    · rename_i hc
      simp only [Bool.and_eq_true, decide_eq_true_eq, Option.isNone_iff_eq_none] at hc
      cases hl : loopS (visitS n E f) (E v) (enterS v σ) with
      | none => rw [hl] at h; cases h
      | some p =>
        obtain ⟨y1, σ1⟩ := p
        rw [hl] at h
        simp only at h
        split at h
        · rename_i hk
          cases he : exitS v σ1 with
          | none => rw [he] at h; cases h
          | some q =>
            obtain ⟨y2, σ2⟩ := q
            rw [he] at h
            cases h
            exact ⟨f, y1, σ1, y2, rfl, hc.1.1, hc.1.2, hc.2, hl, hk, he, rfl⟩
        · cases h
    · cases h
theorem okS_inv {σ : Sx} (h : okS σ = true) : σ.idx.length < 1000 ∧ σ.stk.length < 1000 ∧ σ.bnd.length < 1000 ∧ σ.idn.length < 1000 := by
  simp only [okS, Bool.and_eq_true, decide_eq_true_eq] at h
  exact ⟨h.1.1.1, h.1.1.2, h.1.2, h.2⟩
theorem exit_inv {v : Nat} {σ σ' : Sx} {y : List (List Nat)} (h : exitS v σ = some (y, σ')) : ∃ b bs i, σ.bnd = b :: bs ∧ lookI σ.idx v = some i ∧
    ((b = i ∧ i ≤ σ.stk.length ∧ y = [σ.stk.drop i] ∧ σ' = ⟨σ.idx, σ.stk.take i, bs, (σ.stk.drop i).foldl addI σ.idn⟩) ∨ (b ≠ i ∧ y = [] ∧ σ' = σ)) := by
  unfold exitS at h
  split at h
  · rename_i b bs i e1 e2
    refine ⟨b, bs, i, e1, e2, ?_⟩
    split at h
    · rename_i e
      split at h
      · rename_i e'; cases h; exact .inl ⟨e, e', rfl, rfl⟩
      · cases h
    · rename_i e; cases h; exact .inr ⟨e, rfl, rfl⟩
  · cases h
theorem visit_bnd {n : Nat} {E : Nat → List Nat} {f v : Nat} {σ σ' : Sx} {ys : List (List Nat)} (h : visitS n E f v σ = some (ys, σ')) : σ'.bnd.length ≤ 1000 := by
  obtain ⟨f', y1, σ1, y2, _, _, _, _, _, hk, he, _⟩ := visit_inv h
  have h3 := (okS_inv hk).2.2.1
  obtain ⟨b, bs, i, e1, _, e | e⟩ := exit_inv he
  · rw [e.2.2.2]
    rw [e1, List.length_cons] at h3
    show bs.length ≤ 1000
    omega
  · rw [e.2.2]; omega
theorem gn_drv (C : Cx) (g ob n d u : Nat) (σ : Sx) (Lp : Ledger) : C.Drv (C.gn g ob n d u σ) (C.Pk n ob) ob Lp := ⟨fun _ _ _ D vals S _ na h => ⟨D, vals, rfl, na, h, S⟩, fun _ _ h => h⟩
def dFor : Stmt := (fBody dfsStmt).getD 3 (.Pass default)
theorem dfs_loop {f : Nat} (ih : D.Ok Φ f) {target iter : Expr} {body : List Stmt} {pos : Pos} (hst : dFor = .For target iter body [] pos) {v it l Lf g ob d u : Nat} {t : Tok} {l2 l3 : Option Value} {σ' σ1 : Sx} {ys : List (List Nat)}
    {ev : List Value} {kF lF pF kpF} (hn : C.nS ≤ Lf) (hob : Lf < ob) (hit : ob < it) (hd : d + (f + 1) ≤ 850) (hu : u + 5 * (f + 1) ≤ 9000) (hl : D.h0.PlainList l ev.toArray) (hev : NA ev (D.E v))
    (cont : ∀ s₀ s l1, D.J g ob s₀ → St s₀ (C.Pk Lf ob) (GSf g s₀) ((Lf, LocP ks4 [some (.int (v : Int) t), l1, l2, l3]) :: C.L σ1) s → Cn C.w Φ (C.gn g ob Lf d u σ') ys s₀ (D.cd Lf) [] (kF (.ok .next)) s) :
    ∀ (xs : List Nat) (k : Nat) (σ : Sx) (y1 : List (List Nat)) (s₀ s : Shared) (l1 : Option Value), loopS (visitS D.n D.E f) xs σ = some (y1, σ1) → (D.E v).drop k = xs → σ.bnd.length ≤ 1000 → D.J g ob s₀ →
      St s₀ (C.Pk Lf ob) (GSf g s₀) ((it, LitP l k) :: (Lf, LocP ks4 [some (.int (v : Int) t), l1, l2, l3]) :: C.L σ) s →
      Cn C.w Φ (C.gn g ob Lf d u σ') (y1 ++ ys) s₀ (.forLoop target (.ref it) body [] (D.env Lf)) [⟨kF, lF, D.cd Lf, pF, kpF⟩] (denote table (.forLoop target (.ref it) body [] (D.env Lf))) s := by
  cases hst
  intro xs
  induction xs with
  | nil =>
    intro k σ y1 s₀ s l1 hr hk hbz hJ S
    have e : ([], σ) = (y1, σ1) := Option.some.inj hr
    cases e
    have hlen := hev.length
    have ks := D.ss hJ.1 S hn
    refine Cn.forLoop (h := fun E => ?_)
    refine S_stop rfl S .head (PlainList.keeps hl ks) ?_ fun s' S' _ => Cn.done .next ?_
    · have := List.drop_eq_nil_iff.mp hk
      rw [List.getElem?_eq_none_iff]; omega
    · exact cont s₀ s' l1 hJ (S'.drop (List.sublist_cons_self _ _))
  | cons x xs ihx =>
    intro k σ y1 s₀ s l1 hr hk hbz hJ S
    have hlen := hev.length
    have ks := D.ss hJ.1 S hn
    have hkl : k < (D.E v).length := by
      by_cases h : k < (D.E v).length
      · exact h
      · rw [List.drop_eq_nil_of_le (by omega)] at hk; cases hk
    have hkx : (D.E v)[k] = x := by
      rw [List.drop_eq_getElem_cons hkl] at hk; exact (List.cons.inj hk).1
    have hk' : (D.E v).drop (k + 1) = xs := by
      rw [List.drop_eq_getElem_cons hkl] at hk; exact (List.cons.inj hk).2
    obtain ⟨tx, htx⟩ := hev.get hkl
    rw [hkx] at htx
    refine Cn.forLoop (h := fun E => ?_)
    refine S_next S .head (PlainList.keeps hl ks) htx fun s₁ S₁ _ => ?_
    refine wpAny_assign_Name (stl S₁ (by walk_at "upd") (by walk_at "ls") (by decide) fun s₂ S₂ H' => ?_)
    have ks₂ := D.ss hJ.1 S₂ hn
    refine .cons (.If fun E => wpAny_isTrue_Compare1 (ldl S₂ (by walk_at "mem") (by walk_at "lg") (ldf (IsCell.keeps D.cX ks₂) rfl ?_)))
    refine idx_notin S₂ (by walk_at "mem") D.sys2 (wpAny_truthy_bool ?_)
    have S₃ := S₂.tok (s₂.toks + 1)
    unfold loopS at hr
    cases hi : lookI σ.idx x with
    | none =>
      rw [hi] at hr
      simp only at hr
      cases hv : visitS D.n D.E f x σ with
      | none => rw [hv] at hr; cases hr
      | some p =>
        obtain ⟨z1, τ⟩ := p
        rw [hv] at hr
        simp only at hr
        cases hl2 : loopS (visitS D.n D.E f) xs τ with
        | none => rw [hl2] at hr; cases hr
        | some q =>
          obtain ⟨z2, τ2⟩ := q
          rw [hl2] at hr
          simp only at hr
          have hr' := Option.some.inj hr
          obtain ⟨rfl, rfl⟩ := Prod.mk.inj hr'
          rw [List.append_assoc]
          simp only [Option.isNone_none, if_true]
          have ks₃ := D.ss hJ.1 S₃ hn
          refine .cons (.ExprYF (call1 (ldf (IsCell.keeps D.cD ks₃) rfl (ldl S₃ (by walk_at "mem") (by walk_at "lg") ⟨?_, ?_⟩))))
          · obtain ⟨o, ho, hd', _⟩ := D.fn.keeps ks₃
            exact ⟨o, _, ho, hd'⟩
          refine d_call (D := D) ?_ ks₃ S₃ fun s₄ Lf₂ ob₂ hL2 hO2 hgen hgs Sx _ => ⟨ob₂, _, rfl, hgen, fun kk ll pp hkk => ?_⟩
          · show d + fd _ + 0 < 900
            simp only [fd, List.map_cons, List.map_nil, List.sum_cons, List.sum_nil]
            show d + (1 + 0) + 0 < 900
            omega
          have hsz : s₀.gens.size ≤ s₂.gens.size := S₃.gens.1.2
          have hgg : g < s₂.gens.size := Nat.lt_of_lt_of_le hJ.2.1 hsz
          have hobl : ob < s₂.heap.objs.size := by
            obtain ⟨o, ho⟩ := hJ.2.2
            obtain ⟨o', ho'⟩ := S₃.live _ _ ho
            exact Heap.lt_size ho'
          have hitl : it < s₂.heap.objs.size := S₃.lt (p := (it, _)) (.head _)
          have hLfl : Lf < s₂.heap.objs.size := Nat.lt_trans (Nat.lt_trans hob hit) hitl
          have hL2 : s₂.heap.objs.size ≤ Lf₂ := hL2
          have hnL2 : C.nS ≤ Lf₂ := Nat.le_trans hn (Nat.le_trans (Nat.le_of_lt hLfl) hL2)
          have big : ∀ a, C.nS ≤ a → ¬ C.four a ∧ ¬ C.X a := fun a ha => ⟨fun q => Nat.lt_irrefl _ (Nat.lt_of_lt_of_le (D.low4 a q) ha), fun q => Nat.lt_irrefl _ (Nat.lt_of_lt_of_le (D.lowX a q) ha)⟩
          have hmem : ∀ p ∈ [(ob₂, GenK s₂.gens.size 1), (it, LitP l (k + 1)), (Lf, LocP ks4 [some (.int (v : Int) t), some (.int (x : Int) tx), l2, l3])], Lf ≤ p.1 ∧ p.1 ≠ ob := by
            intro p hp
            simp only [List.mem_cons, List.not_mem_nil, or_false] at hp
            rcases hp with rfl | rfl | rfl
            · exact ⟨Nat.le_of_lt (Nat.lt_of_lt_of_le hLfl (Nat.le_trans hL2 (Nat.le_of_lt hO2))), Nat.ne_of_gt (Nat.lt_of_lt_of_le hobl (Nat.le_trans hL2 (Nat.le_of_lt hO2)))⟩
            · exact ⟨Nat.le_of_lt (Nat.lt_trans hob hit), Nat.ne_of_gt hit⟩
            · exact ⟨Nat.le_refl _, Nat.ne_of_lt hob⟩
          have priv : C.Priv Lf ob ((ob₂, GenK s₂.gens.size 1) :: [(it, LitP l (k + 1)), (Lf, LocP ks4 [some (.int (v : Int) t), some (.int (x : Int) tx), l2, l3])]) := by
            refine ⟨fun p hp => (hmem p hp).1, fun p hp => (hmem p hp).2, fun p hp => (big _ (Nat.le_trans hn (hmem p hp).1)).1, fun p hp => (big _ (Nat.le_trans hn (hmem p hp).1)).2, fun p hp => ?_, fun p hp => ?_⟩
            · simp only [List.mem_cons, List.not_mem_nil, or_false] at hp
              rcases hp with rfl | rfl | rfl
              · exact fun o h => h.notSeq
              · exact fun o h => h.notSeq
              · exact fun o h => h.notSeq
            · simp only [List.mem_cons, List.not_mem_nil, or_false] at hp
              rcases hp with rfl | rfl | rfl
              · exact .inl (Nat.lt_of_lt_of_le hobl (Nat.le_trans hL2 (Nat.le_of_lt hO2)))
              · exact .inl hit
              · exact .inr fun o h => h.notFlds
          have hgs4 : s₄.gens[s₂.gens.size]? = some (.fresh (D.cd Lf₂)) := by
            rw [hgs]; simp; rfl
          have hG4 : GSm g s₂.gens.size s₀ s₄.gens := by
            rw [hgs]
            refine ⟨⟨fun i hi => ?_, ?_⟩, fun i hi hi' y hy => ?_⟩
            · rw [Array.getElem?_push, if_neg (by show ¬ i = s₂.gens.size; omega)]
              exact S₃.gens.1.1 i hi
            · rw [Array.size_push]; show _ ≤ s₂.gens.size + 1; omega
            · rw [Array.getElem?_push, if_neg (by show ¬ i = s₂.gens.size; omega)] at hy
              exact S₃.gens.2 i hi y hy
          have Sy := Sx (GSm g s₂.gens.size s₀) hG4
          have Sz : St s₀ (C.Pk Lf ob) (GSm g s₂.gens.size s₀) ((ob₂, GenK s₂.gens.size 0) :: [(it, LitP l (k + 1)), (Lf, LocP ks4 [some (.int (v : Int) t), some (.int (x : Int) tx), l2, l3])]) s₄ := by
            refine Sy.drop ?_
            refine .cons_cons _ (.cons _ (.cons_cons _ (.cons_cons _ (List.nil_sublist _))))
          have ks₄ := D.ss hJ.1 Sy hn
          refine yf_ok (J := D.J g ob) (n₂ := Lf₂) (d₂ := d + 1) (u₂ := u + 5) (σ₂ := τ) (Lp := [(it, LitP l (k + 1)), (Lf, LocP ks4 [some (.int (v : Int) t), some (.int (x : Int) tx), l2, l3])])
            (Le := (ob₂, GenK s₂.gens.size 0) :: [(it, LitP l (k + 1)), (Lf, LocP ks4 [some (.int (v : Int) t), some (.int (x : Int) tx), l2, l3])] ++ C.L τ) (h0 := D.h0)
            (gn_drv ..) (fun a o h => ⟨h.1, ?_⟩) (Nat.lt_of_lt_of_le hobl hL2) (Nat.le_of_lt hO2) hnL2 hgg ?_ (fun p hp => ⟨priv.four p hp, priv.X p hp⟩) (fun p hp o ho q => ?_) (fun p hp => (priv.gen p hp).imp id .inr) D.st D.names.lim ?_ ?_ ?_ ?_ ?_ (D.J_step hn) ?_ z1 (.fresh (D.cd Lf₂)) s₀ s₄ hJ Sz hgs4 ks₄ ?_
          · rcases h.2 with h | h | h
            · exact .inl (Nat.lt_trans h (Nat.lt_of_lt_of_le hLfl hL2))
            · exact .inl (by rw [h]; exact Nat.lt_of_lt_of_le hobl hL2)
            · exact .inr (.inr h)
          · intro p hp
            simp only [List.mem_cons, List.not_mem_nil, or_false] at hp
            rcases hp with rfl | rfl
            · exact Nat.lt_of_lt_of_le hitl hL2
            · exact Nat.lt_of_lt_of_le hLfl hL2
          · rcases q.2 with q | q | q
            · exact absurd q (Nat.not_lt.mpr (priv.ge p hp))
            · exact priv.ne p hp q
            · exact priv.seq p hp o ho q
          · exact fun p hp => (List.mem_append.mp hp).symm
          · have := (Sy.drop (L' := (ob₂, GenK s₂.gens.size 0) :: (it, LitP l (k + 1)) :: (Lf, LocP ks4 [some (.int (v : Int) t), some (.int (x : Int) tx), l2, l3]) :: C.L σ) (.cons_cons _ (.cons _ (List.Sublist.refl _)))).ord
            exact this
          · simp only [fd, List.map_cons, List.map_nil, List.sum_cons, List.sum_nil]
            show d + (1 + 0) + 0 + 1 < 900
            omega
          · simp only [fd, List.map_cons, List.map_nil, List.sum_cons, List.sum_nil]
            show d + (1 + 0) + 0 ≤ d + 1
            omega
          · simp only [fu, List.map_cons, List.map_nil, List.sum_cons, List.sum_nil]
            show u + (3 + 0) + 0 + 2 ≤ u + 5
            omega
          · intro s₀' s' hJ' S' _
            rw [hkk]
            exact .again rfl (ihx (k + 1) τ z2 s₀' s' _ hl2 hk' (visit_bnd hv) hJ' (S'.drop (List.sublist_cons_self _ _)))
          · intro s'' hE
            refine Cn.sg (fs := []) (ih x tx σ z1 τ hv s₂.gens.size ob₂ Lf₂ (d + 1) (u + 5) _ hnL2 hO2 (by omega) (by omega) (show SS D.h0 s''.heap from D.ssEv ks₄ hE) ?_ ?_ ?_ ?_ ?_)
            · obtain ⟨o, ho, _⟩ := Sy.get (a := ob₂) (P := GenK s₂.gens.size 0) (.head _)
              exact hE.live _ _ ho
            · obtain ⟨o, ho, hP⟩ := Sy.get (a := Lf₂) (P := LocP ks4 [some (.int (x : Int) tx), none, none, none]) (.tail _ (.head _))
              exact ⟨o, hE.keep _ _ ho (big _ hnL2).2 (.inr (.inr hP.notFlds)), hP⟩
            · intro p hp
              obtain ⟨o, ho, hP⟩ := Sy.led p (.tail _ (.tail _ (.tail _ (.tail _ hp))))
              exact ⟨o, hE.keep _ _ ho (D.x4 _ (C.L_four hp)) (.inl (D.low4 _ (C.L_four hp))), hP⟩
            · rw [setGen_size]
              have := hE.gens s₂.gens.size (Nat.le_refl _)
              rw [hgs4] at this
              exact (Array.getElem?_eq_some_iff.mp this).1
            · intro i hi y hy
              rw [setGen_get_ne (by omega), hE.gens i (Nat.le_of_lt hi), hgs, Array.getElem?_push, if_neg (by show ¬ i = s₂.gens.size; omega)] at hy
              have := (Array.getElem?_eq_some_iff.mp hy).1
              exact absurd (show i < s₂.gens.size from this) (by omega)
    | some i =>
      rw [hi] at hr
      simp only [Option.isNone_some, Bool.false_eq_true, if_false] at hr ⊢
      refine .cons (.If fun E => wpAny_isTrue_Compare1 (ldl S₃ (by walk_at "mem") (by walk_at "lg") (ldf (IsCell.keeps D.cI ks₂) rfl ?_)))
      refine idn_notin S₃ (by walk_at "mem") D.sys0 (wpAny_truthy_bool ?_)
      have S₄ := S₃.tok (s₂.toks + 1 + 1)
      by_cases hx : x ∈ σ.idn
      · rw [if_pos hx] at hr
        simp only [hx, not_true_eq_false, decide_false, Bool.false_eq_true, if_false]
        exact .again rfl (ihx (k + 1) σ y1 s₀ _ _ hr hk' hbz hJ S₄)
      · rw [if_neg hx] at hr
        simp only [hx, not_false_eq_true, decide_true, if_true]
        cases hp : popR i σ.bnd with
        | none => rw [hp] at hr; cases hr
        | some b =>
          rw [hp] at hr
          refine Cn.stmt (d_while hJ.1 hn S₄ hbz hi hp fun s' S' => ⟨rfl, ?_⟩)
          exact .again rfl (ihx (k + 1) { σ with bnd := b } y1 s₀ _ _ hr hk' (Nat.le_trans (popR_len hp) hbz) hJ S')
end
end Mine
end

section
open PySem PySem.W PyProof.Rows
set_option Elab.async false
namespace Mine
local macro_rules | `(tactic| walk_at "mem") => `(tactic| repeat (first | exact List.Mem.head _ | apply List.Mem.tail))
local macro_rules | `(tactic| walk_at "lg") => `(tactic| repeat (first | (with_reducible exact LG.head) | apply LG.tail))
local macro_rules | `(tactic| walk_at "upd") => `(tactic| repeat (first | exact Upd.head | apply Upd.tail))
local macro_rules | `(tactic| walk_at "ls") => `(tactic| repeat (first | (with_reducible exact LS.head) | apply LS.tail))

theorem lookI_snoc {l : List (Nat × Nat)} {v i : Nat} (h : lookI l v = none) : lookI (l ++ [(v, i)]) v = some i := by
  unfold lookI at h ⊢
  induction l with
  | nil => simp
  | cons a l ih =>
    obtain ⟨k, j⟩ := a
    rw [List.lookup_cons] at h
    rw [List.cons_append, List.lookup_cons]
    cases e : (v == k) with
    | true => rw [e] at h; cases h
    | false => rw [e] at h; exact ih h

section
variable {C : Cx} {D : DF C} {Φ : Outcome → Shared → Prop}
theorem dfs_ok : ∀ f, D.Ok Φ f := by
  intro f
  induction f with
  | zero => intro v t σ ys σ' h; cases h
  | succ f ih =>
    intro v t σ ys σ' hv g ob Lf d u s hn hob hd hu ks hobj hloc h4 hg hfin
    obtain ⟨f', y1, σ1, y2, ef, hok, hlk, hvn, hloop, hok1, hex, rfl⟩ := visit_inv hv
    obtain rfl : f = f' := by omega
    obtain ⟨o1, o2, o3, o4⟩ := okS_inv hok
    obtain ⟨q1, q2, q3, q4⟩ := okS_inv hok1
    have S := DF.start hn hob hloc h4 D hfin
    have hJ : D.J g ob s := ⟨ks, hg, hobj⟩
    show Cn C.w Φ _ _ s (.func (fBody dfsStmt) (D.env Lf)) [] (denote table (.func (fBody dfsStmt) (D.env Lf))) s
    refine .func fun H' => ?_
    refine Cn.stmt (d_s0 ks S hlk hok fun s₁ S₁ => ⟨rfl, ?_⟩)
    refine Cn.stmt (d_s1 (D.ss ks S₁ hn) S₁ (by simp only; omega) fun s₂ S₂ => ⟨rfl, ?_⟩)
    refine Cn.stmt (d_s2 (i := σ.stk.length) (D.ss ks S₂ hn) S₂ (by simp only; omega) (lookI_snoc hlk) fun s₃ S₃ => ⟨rfl, ?_⟩)
    have ks₃ := D.ss ks S₃ hn
    obtain ⟨kvs, hkv, hsys, hEv⟩ := D.edges
    obtain ⟨l, ev, hl1, hl2, hl3⟩ := hEv v hvn
    refine .cons (.For ?_)
    refine sub_any (ldf (IsCell.keeps D.cE ks₃) rfl (ldl S₃ (by walk_at "mem") (by walk_at "lg") ⟨on_dct (hkv.keep ks₃), ?_⟩))
    refine get_dct (hkv.keep ks₃) hl1 ?_
    refine S_iter (S₃.tok _) (PlainList.keeps hl2 ks₃) fun it s₄ hit _ S₄ kk pp hkk => ?_
    have hobit : ob < it := by
      obtain ⟨o, ho⟩ := hobj
      obtain ⟨o', ho'⟩ := S₃.live _ _ ho
      rw [hit]
      exact Heap.lt_size ho'
    refine dfs_loop ih (pos := _) rfl hn hob hobit hd hu hl2 hl3 ?_ (D.E v) 0 (enterS v σ) y1 s s₄ none hloop rfl (by simp only [enterS, List.length_cons]; omega) hJ S₄
    intro s₀' s₅ l1 hJ' S₅
    rw [hkk]
    refine .cons (.If fun E => ?_)
    obtain ⟨b, bs, i, eb, ei, hcase⟩ := exit_inv hex
    refine d_test (by rfl) hJ'.1 hn S₅ eb ei fun s₆ S₆ => ?_
    rcases hcase with ⟨hbi, hle, rfl, rfl⟩ | ⟨hbi, rfl, rfl⟩
    · rw [decide_eq_true hbi]
      simp only [if_true]
      refine Cn.stmt (d_e0 hJ'.1 hn S₆ eb (by omega) fun s₇ S₇ => ⟨rfl, ?_⟩)
      refine Cn.stmt (d_e1 hJ'.1 hn S₇ ei (by simp only; omega) hle fun DL s₈ vs hvs hfD S₈ => ⟨rfl, ?_⟩)
      refine Cn.stmt (d_e2 hJ'.1 hn S₈ ei (by simp only; omega) hle fun s₉ S₉ => ⟨rfl, ?_⟩)
      refine Cn.stmt (d_e3 rfl S₉ hJ'.1 hn hvs (by simp only; omega) (by simp only [List.length_drop]; omega) fun s₁₀ l4 S₁₀ => ⟨rfl, ?_⟩)
      refine .cons (.ExprYield fun E => ldl S₁₀ (by walk_at "mem") (by walk_at "lg") ⟨?_, fun s'' ev' => ?_⟩)
      · exact ⟨DL, vs, rfl, hvs, Nat.le_trans hn (Nat.le_trans (Nat.le_of_lt (S₇.lt (.head _))) hfD), (S₁₀.drop (.cons_cons _ (List.nil_sublist _))).gen' S₁₀.gens.1⟩
      · refine Cn.fin ?_
        have ev' : C.Evo ob g s₁₀ s'' := ev'
        refine (DF.start (lo := [some (.int (v : Int) t), l1, some (.ref DL), l4]) hn hob ?_ ?_ D ?_).drop (List.sublist_cons_self _ _)
        · obtain ⟨o, ho, hP⟩ := S₁₀.get (a := Lf) (P := LocP ks4 [some (.int (v : Int) t), l1, some (.ref DL), l4]) (by walk_at "mem")
          exact ⟨o, ev'.keep _ _ ho (fun q => Nat.lt_irrefl _ (Nat.lt_of_lt_of_le (D.lowX _ q) hn)) (.inr (.inr hP.notFlds)), hP⟩
        · intro p hp
          obtain ⟨o, ho, hP⟩ := S₁₀.led p (.tail _ (.tail _ hp))
          exact ⟨o, ev'.keep _ _ ho (D.x4 _ (C.L_four hp)) (.inl (D.low4 _ (C.L_four hp))), hP⟩
        · intro j hj y hy
          rw [ev'.gens j (Nat.le_of_lt hj)] at hy
          exact S₁₀.gens.2 j hj y hy
    · rw [decide_eq_false hbi]
      simp only [Bool.false_eq_true, if_false]
      exact Cn.fin (S₆.drop (List.sublist_cons_self _ _))
end
end Mine
end

section
open PySem PySem.W PyProof.Rows
set_option Elab.async false
namespace Mine
local macro_rules | `(tactic| walk_at "mem") => `(tactic| repeat (first | exact List.Mem.head _ | apply List.Mem.tail))
local macro_rules | `(tactic| walk_at "lg") => `(tactic| repeat (first | (with_reducible exact LG.head) | apply LG.tail))
local macro_rules | `(tactic| walk_at "upd") => `(tactic| repeat (first | exact Upd.head | apply Upd.tail))
local macro_rules | `(tactic| walk_at "ls") => `(tactic| repeat (first | (with_reducible exact LS.head) | apply LS.tail))

theorem St.ofC {s s' : Shared} {L : Addr} {m cm : Str → Option Value} {cs : List (Str × Addr)} (x : InCallC s L m cs cm s') (hord : (cs.map (·.2)).Pairwise (· > ·)) (hlk : ∀ p ∈ cs, cs.lookup p.1 = some p.2) (ks : List Str) :
    St s KAll (EqG s) (cs.map (fun p => (p.2, CellP (cm p.1))) ++ [(L, LocP ks (ks.map m))]) s' := by
  obtain ⟨h', tk, e⟩ := x.toInCall.same
  have hk := x.toInCall.keep
  subst e
  have new : ∀ a, s.heap.objs.size ≤ a → ∀ o, s.heap.get? a = some o → False := fun a ha o e => Nat.lt_irrefl _ (Nat.lt_of_lt_of_le (Heap.lt_size e) ha)
  have hL := x.toInCall.fresh
  refine ⟨fun b o e _ => hk b o e, fun p hp o e _ => ?_, fun p hp => ?_, ?_, fun b o e => ⟨o, hk b o e⟩, rfl, rfl, rfl⟩
  · rcases List.mem_append.mp hp with h | h
    · obtain ⟨q, hq, rfl⟩ := List.mem_map.mp h
      exact new _ (Nat.le_of_lt (Nat.lt_of_le_of_lt hL (x.above q.1 q.2 hq))) o e
    · rw [List.mem_singleton.mp h] at e
      exact new _ hL o e
  · rcases List.mem_append.mp hp with h | h
    · obtain ⟨q, hq, rfl⟩ := List.mem_map.mp h
      exact x.cell _ _ (hlk q hq)
    · rw [List.mem_singleton.mp h]
      obtain ⟨o, ho, hN⟩ := ns_iff.mp x.toInCall.ns
      exact ⟨o, ho, _, hN, rfl⟩
  · rw [List.map_append, List.map_map, List.pairwise_append]
    refine ⟨hord, by simp, fun a ha b hb => ?_⟩
    obtain ⟨q, hq, rfl⟩ := List.mem_map.mp ha
    simp only [List.map_cons, List.map_nil, List.mem_singleton] at hb
    subst hb
    exact x.above q.1 q.2 hq

def sccFd (pm cd doc : Value) : FuncData := Calls.docDef "strongly_connected_components" (fArgs (stmtAt 1)) (fBody (stmtAt 1)) (fScope (stmtAt 1)) pm cd doc
theorem scc_bind (a b pm cd doc : Value) : bindArgs (sccFd pm cd doc) ⟨[a, b], []⟩ = pure [(("vertices" : Str), a), (("edges" : Str), b)] := by with_unfolding_all rfl
def sccEnv (pm cd doc : Value) (L : Addr) : Env := callEnvC (sccFd pm cd doc) L 21
theorem scc_cells (L : Addr) (pm cd doc : Value) : (sccEnv pm cd doc L).cells = [(("stack" : Str), L + 6), (("index" : Str), L + 5), (("identified" : Str), L + 4), (("dfs" : Str), L + 3), (("boundaries" : Str), L + 2), (("edges" : Str), L + 1)] := rfl
def sccL (L : Addr) (e : Option Value) (i st x b d : Option Value) (vs : List (Option Value)) : Ledger :=
  [(L + 6, CellP st), (L + 5, CellP x), (L + 4, CellP i), (L + 3, CellP d), (L + 2, CellP b), (L + 1, CellP e), (L, LocP ["vertices", "v"] vs)]

section
variable {w : World} {A : Around} {s : Shared} {E : Value → Shared → Prop}
theorem scc_call {pm cd doc : Value} {lo dE : Addr} {Q : Value → Shared → Prop} (hf : FnOk s.heap 21 (sccFd pm cd doc)) (hroom : A.depth < 900) (hlim : s.heap.NoLimit)
    (h : ∀ s₁ L ob, L = s.heap.objs.size → L + 6 < ob → s₁.heap.IsGen ob s.gens.size →
      St s KAll (fun x => x = s.gens.push (.fresh (.func (fBody (stmtAt 1)) (sccEnv pm cd doc L)))) ((ob, GenK s.gens.size 0) :: sccL L (some (.ref dE)) none none none none none [some (.ref lo), none]) s₁ → Q (.ref ob) s₁) :
    wpAny (model pw w) A (PySem.call (.ref 21) [.ref lo, .ref dE]) Q E s := by
  refine wpAny_call ?_
  obtain ⟨o, ho, hdata, hcd⟩ := hf
  refine codeAny_call_generator (body := fBody (stmtAt 1)) (by simp only [recursionLimit]; omega) ho hdata rfl rfl rfl hcd ?_
  rw [scc_bind]
  refine wpAny_pure (wpAny_newFunctionEnv_cells rfl ?_ fun env he s' x => ⟨hlim.keeps x.toInCall.keep, ?_⟩)
  · intro q hq
    simp only [List.mem_cons, List.not_mem_nil, or_false] at hq
    rcases hq with rfl | rfl
    · exact .inl rfl
    · exact .inr ⟨rfl, rfl⟩
  subst he
  have S := St.ofC x (ks := ["vertices", "v"]) (by
      show ([s.heap.objs.size + 6, s.heap.objs.size + 5, s.heap.objs.size + 4, s.heap.objs.size + 3, s.heap.objs.size + 2, s.heap.objs.size + 1] : List Nat).Pairwise (· > ·)
      simp) (by
      intro q hq
      have hq : q ∈ (sccEnv pm cd doc s.heap.objs.size).cells := hq
      rw [scc_cells] at hq
      simp only [List.mem_cons, List.not_mem_nil, or_false] at hq
      rcases hq with rfl | rfl | rfl | rfl | rfl | rfl <;> rfl)
  have hlt : s.heap.objs.size + 6 < s'.heap.objs.size := S.lt (p := (s.heap.objs.size + 6, _)) (.head _)
  obtain ⟨hp, gg, dd, tk, oo⟩ := s'
  have hgs : gg = s.gens := S.gens
  subst hgs
  have S₂ := S.alloc (o := { cls := .type "generator", data := .fields #[.int s.gens.size 0, .str (sccFd pm cd doc).name tk, .str (sccFd pm cd doc).qualname (tk + 1)] }) (P := GenK s.gens.size 0) rfl
    ⟨rfl, ⟨_, _, rfl⟩, fun n t e => by simp at e⟩
  exact h _ _ _ rfl hlt ⟨_, _, _, Heap.get?_push_size _ rfl, rfl, rfl, rfl⟩ ((S₂.tok (tk + 1 + 1)).regen (x := s.gens.push (.fresh (.func (fBody (stmtAt 1)) (sccEnv pm cd doc s.heap.objs.size)))) rfl)
end
end Mine
end

section
open PySem PySem.W PyProof.Rows
set_option Elab.async false
namespace Mine
local macro_rules | `(tactic| walk_at "mem") => `(tactic| repeat (first | exact List.Mem.head _ | apply List.Mem.tail))
local macro_rules | `(tactic| walk_at "lg") => `(tactic| repeat (first | (with_reducible exact LG.head) | apply LG.tail))
local macro_rules | `(tactic| walk_at "upd") => `(tactic| repeat (first | exact Upd.head | apply Upd.tail))
local macro_rules | `(tactic| walk_at "ls") => `(tactic| repeat (first | (with_reducible exact LS.head) | apply LS.tail))

def Tab0 : OP := fun o => o = tabObj #[]
def TabO : OP := fun o => ∃ ps, o = tabObj ps

theorem St.ext {B s s' : Shared} {Pk : Addr → Obj → Prop} {G : Array GenState → Prop} {L L' : Ledger} (S : St B Pk G L s) {a : Addr} {P P' : OP} (u : Upd L a P P' L') (hx : Heap.ExtBut a s.heap s'.heap) (hn : ∃ o, s'.heap.get? a = some o ∧ P' o)
    (hd : s'.drawn = s.drawn) (hos : s'.os = s.os) (hg : s'.gens = s.gens) : St B Pk G L' s' := by
  have hm := S.own _ u.mem
  refine ⟨fun b o e hb => ?_, fun p hp => ?_, fun p hp => ?_, u.keys ▸ S.ord, fun b o e => ?_, hd.trans S.drawn, hos.trans S.os, hg ▸ S.gens⟩
  · have hne : b ≠ a := by
      rintro rfl
      exact hm o e hb
    exact hx b o hne (S.keep b o e hb)
  · rcases u.cases S.ord p hp with rfl | ⟨h, _⟩
    · exact hm
    · exact S.own p h
  · rcases u.cases S.ord p hp with rfl | ⟨h, h'⟩
    · exact hn
    · obtain ⟨o, ho, hP⟩ := S.led p h
      exact ⟨o, hx _ _ h' ho, hP⟩
  · by_cases hba : b = a
    · subst hba; obtain ⟨o, ho, _⟩ := hn; exact ⟨o, ho⟩
    · obtain ⟨o, ho⟩ := S.live b o e
      exact ⟨o, hx b o hba ho⟩

def sccCells (L : Addr) : Cells := { B := L + 2, D := L + 3, E := L + 1, I := L + 4, X := L + 5, S := L + 6 }
theorem scc_closure (L : Addr) (pm cd doc : Value) : closureFor (fScope dfsStmt) (sccEnv pm cd doc L) = pure (sccCells L).cl := rfl
theorem scc_qual (L : Addr) (pm cd doc : Value) : qualnameIn (sccEnv pm cd doc L) "dfs" "dfs" = "strongly_connected_components.<locals>.dfs" := rfl
theorem scc_ann (L : Addr) (pm cd doc : Value) : annTrees (fArgs dfsStmt) none (sccEnv pm cd doc L) = [] := rfl
theorem scc_doc : docOf (fBody dfsStmt) = none := rfl
def dfsPos : Pos := match dfsStmt with
  | .FunctionDef _ _ _ _ _ _ _ _ _ p => p
  | _ => default
theorem dfs_is : dfsStmt = .FunctionDef "dfs" (fArgs dfsStmt) (fBody dfsStmt) [] none [] (fScope dfsStmt) none "dfs" dfsPos := rfl

section
variable {w : World} {A : Around} {s : Shared} {E : Value → Shared → Prop} {B : Shared} {Pk : Addr → Obj → Prop} {G : Array GenState → Prop} {L : Ledger}
theorem scc_def {pm doc : Value} {L1 : Addr} {La Lb : Ledger} {L1' : Value → Ledger} {mg : Str → Option Value} {Q : Flow → Shared → Prop} (S : St B Pk G La s) (u16 : Upd La 16 Tab0 TabO Lb) (uD : ∀ v, Upd Lb (L1 + 3) (CellP none) (CellP (some v)) (L1' v))
    (hg : s.heap.Ns mainGlobals mg) (hch : CodeHd s.heap 20 16) (hb : s.heap.BuiltinsAt mg 16)
    (h : ∀ s' fD clT code pm', s.heap.objs.size ≤ fD → St B Pk G (L1' (.ref fD)) s' → FnOk s'.heap fD (dfsFd (sccCells L1) clT code pm' .none) → (∃ cc, code = .ref cc ∧ s.heap.objs.size ≤ cc) → s.heap.objs.size ≤ s'.heap.objs.size → Q .next s') :
    wpAny (model pw w) A (exec dfsStmt (sccEnv pm (.ref 20) doc L1)) Q E s := by
  rw [dfs_is, exec_def, scc_qual, scc_ann, defaultsOf_eq]
  refine wpAny_bind (wpAny_standAt (wpAny_bind (wpAny_holding ?_)))
  refine wpAny_bind (wpAny_pure (wpAny_bind (wpAny_holding (wpAny_pure (wpAny_holding (wpAny_bind (wpAny_pure ?_)))))))
  rw [makeFunction_eq]
  refine wpAny_bind (wpAny_pure (wpAny_bind (wpAny_pure (wpAny_bind (wpAny_pure ?_)))))
  unfold makeTail
  rw [scc_closure]
  refine wpAny_bind (wpAny_pure ?_)
  show wpAny _ _ (newTextTuple _ >>= _) _ _ s
  refine wpAny_bind (wpAny_newTextTuple ?_)
  generalize hs₁ : ({ s with heap := s.heap.push _ } : Shared) = s₁
  have K₁ : Keeps s s₁ := by subst hs₁; exact ⟨_, s.toks, rfl, fun _ _ e => Heap.get?_push_of_some _ e⟩
  have hz₁ : s₁.heap.objs.size = s.heap.objs.size + 1 := by subst hs₁; exact Heap.size_push ..
  have S₁ := S.keeps K₁
  have hk₁ : ∀ b o, s.heap.get? b = some o → s₁.heap.get? b = some o := by
    obtain ⟨h', tk, e, hk⟩ := K₁
    subst e; exact hk
  obtain ⟨o16, h16, rfl⟩ := S₁.get u16.mem
  have hcd := hch.keeps hk₁
  have hok : s₁.heap.IsCode 20 16 #[] := hcd.code h16 (by first | exact trivial | constructor | simp [TriplesOk])
  refine wpAny_bind (wpAny_functionCodeX (env := sccEnv pm (.ref 20) doc L1) rfl hok (hcd.tab h16) rfl fun c' h' tk hx hge hlt hok' hrec hT _ => ?_)
  have S₂ : St B Pk G Lb { s₁ with heap := h', toks := tk } := S₁.ext (s' := { s₁ with heap := h', toks := tk }) u16 hx ⟨_, hT.2, _, rfl⟩ rfl rfl rfl
  obtain ⟨bm, o, hbm, hne0, hneG, hneP, hbo, hcls, hdict, hdata⟩ := hb
  have hg' : h'.Ns mainGlobals mg := (hg.keeps hk₁).extBut hx (by decide)
  refine wpAny_bind (wpAny_builtinsFor (s := { s₁ with heap := h', toks := tk }) hg' hbm hne0 (hx _ _ hneP (hk₁ _ _ hbo)) hcls hdict hdata ?_)
  refine wpAny_bind (wpAny_nsGet (s := { s₁ with heap := h', toks := tk }) hg' ?_)
  show wpAny _ _ ((match docOf (fBody dfsStmt) with | some s => mkText s | none => pure Value.none) >>= _) _ _ _
  rw [scc_doc]
  refine wpAny_bind (wpAny_pure (wpAny_newObj_type ?_ (by size_fits)))
  have hsz : s.heap.objs.size ≤ h'.objs.size := by omega
  have S₃ := S₂.alloc (o := { cls := .type "function", data := .func (dfsFd (sccCells L1) (.ref s.heap.objs.size) (.ref c') ((mg "__name__").getD .none) .none) }) (P := fun _ => True) rfl trivial
  have S₃ := S₃.drop (List.sublist_cons_self _ _)
  refine wpAny_bind (wpAny_standAt (wpAny_bind (wpAny_bindName ?_)))
  obtain ⟨o, ho, hP⟩ := S₃.get (uD .none).mem
  refine wpAny_storeName_cell (env := sccEnv pm (.ref 20) doc L1) rfl rfl (c := L1 + 3) rfl ⟨o, ho, hP⟩ fun h₄ hc' hs₄ => wpAny_pure ?_
  have S₄ : St B Pk G (L1' (.ref h'.objs.size)) { s₁ with heap := h₄, toks := tk } := S₃.upd (s' := { s₁ with heap := h₄, toks := tk }) (uD (.ref h'.objs.size)) hs₄ (let ⟨o, h1, h2⟩ := hc'; ⟨o, h1, h2⟩) rfl rfl rfl
  refine h _ h'.objs.size (.ref s.heap.objs.size) (.ref c') ((mg "__name__").getD .none) hsz S₄ ?_ ⟨c', rfl, by omega⟩ ?_
  · obtain ⟨cc, oc, vs, tq, e1, hoc, hdc, hq⟩ := hrec
    refine ⟨_, (hs₄.2 _ ?_).trans (Heap.get?_push_size _ rfl), rfl, cc, oc, vs, tq, e1, (hs₄.2 _ ?_).trans (Heap.get?_push_of_some _ hoc), hdc, hq⟩
    · rintro e
      rw [show (h'.push _).get? (L1 + 3) = _ from e ▸ Heap.get?_push_size _ rfl] at ho
      cases ho; cases hP
    · rintro rfl
      rw [show (h'.push _).get? (L1 + 3) = _ from Heap.get?_push_of_some _ hoc] at ho
      cases ho
      rw [hP] at hdc; cases hdc
  · have : h₄.objs.size = h'.objs.size + 1 := hs₄.1.trans (Heap.size_push ..)
    show s.heap.objs.size ≤ h₄.objs.size
    omega
end
end Mine
end

section
open PySem PySem.W PyProof.Rows
set_option Elab.async false
namespace Mine
local macro_rules | `(tactic| walk_at "mem") => `(tactic| repeat (first | exact List.Mem.head _ | apply List.Mem.tail))
local macro_rules | `(tactic| walk_at "lg") => `(tactic| repeat (first | (with_reducible exact LG.head) | apply LG.tail))
local macro_rules | `(tactic| walk_at "upd") => `(tactic| repeat (first | exact Upd.head | apply Upd.tail))
local macro_rules | `(tactic| walk_at "ls") => `(tactic| repeat (first | (with_reducible exact LS.head) | apply LS.tail))

theorem DctP.new (w : World) : DctP w [] { cls := .type "dict", data := .dict #[] } := by
  obtain ⟨o, es, ep, ho, h⟩ := Heap.DictOf.new (knd := intKind pw w) ({} : Heap)
  rw [show (({} : Heap).push { cls := .type "dict", data := .dict #[] }).get? ({} : Heap).objs.size = _ from Heap.get?_push_size _ rfl] at ho
  cases ho
  exact ⟨es, ep, h⟩

section
variable {w : World} {A : Around} {s : Shared} {E : Value → Shared → Prop} {B : Shared} {Pk : Addr → Obj → Prop} {G : Array GenState → Prop} {La Lb : Ledger} {env : Env}
theorem s_dict {x : Str} {p' p pos : Pos} {c z : Addr} {v₀ : Option Value} {Q : Flow → Shared → Prop} (S : St B Pk G La s) (hz : s.heap.objs.size = z) (u : Upd La c (CellP v₀) (CellP (some (.ref z))) Lb)
    (h : ∀ s', St B Pk G ((z, DctP w []) :: Lb) s' → s'.heap.objs.size = z + 1 → Q .next s') (hc : env.cells.lookup x = some c := by rfl) (hk : env.scope.kind = .function := by rfl) (hl : env.kindOf x = some .cell := by rfl)
    (hs : swapsWith (.Dict [] [] p) (some (.Name x p')) pos.line env = pure false := by rfl) :
    wpAny (model pw w) A (exec (.Assign [.Name x p'] (.Dict [] [] p) pos) env) Q E s := by
  subst hz
  refine wpAny_Assign_Name (wpAny_Dict_empty ?_) hs
  have S₁ := S.alloc (o := { cls := .type "dict", data := .dict #[] }) (P := DctP w []) rfl (DctP.new w)
  obtain ⟨o, ho, hP⟩ := S₁.get (.tail _ u.mem)
  refine wpAny_storeName_cell hk hl hc ⟨o, ho, hP⟩ fun h' hc' hs => h _ ?_ ?_
  · obtain ⟨o', ho', hP'⟩ := hc'
    exact S₁.upd (s' := { s with heap := h' }) (.tail u) hs ⟨o', ho', hP'⟩ rfl rfl rfl
  · exact hs.1.trans (Heap.size_push ..)
theorem s_list {x : Str} {p' p pos : Pos} {c z : Addr} {v₀ : Option Value} {Q : Flow → Shared → Prop} (S : St B Pk G La s) (hz : s.heap.objs.size = z) (u : Upd La c (CellP v₀) (CellP (some (.ref z))) Lb)
    (h : ∀ s', St B Pk G ((z, LstP []) :: Lb) s' → s'.heap.objs.size = z + 1 → Q .next s') (hc : env.cells.lookup x = some c := by rfl) (hk : env.scope.kind = .function := by rfl) (hl : env.kindOf x = some .cell := by rfl)
    (hs : swapsWith (.List [] p) (some (.Name x p')) pos.line env = pure false := by rfl) :
    wpAny (model pw w) A (exec (.Assign [.Name x p'] (.List [] p) pos) env) Q E s := by
  subst hz
  refine wpAny_Assign_Name (wpAny_List_spliced (wpAny_items_nil ⟨by simp, ?_⟩)) hs
  have S₁ := S.alloc (o := { cls := .type "list", data := .seq ([] : List Value).toArray }) (P := LstP []) rfl ⟨0, rfl⟩
  obtain ⟨o, ho, hP⟩ := S₁.get (.tail _ u.mem)
  refine wpAny_storeName_cell hk hl hc ⟨o, ho, hP⟩ fun h' hc' hs => h _ ?_ ?_
  · obtain ⟨o', ho', hP'⟩ := hc'
    exact S₁.upd (s' := { s with heap := h' }) (.tail u) hs ⟨o', ho', hP'⟩ rfl rfl rfl
  · exact hs.1.trans (Heap.size_push ..)

/-- a cell's name, its cell standing fast -/
theorem ldcS {x : Str} {pos : Pos} {v : Value} {c : Addr} {Q : Value → Shared → Prop} (hcell : s.heap.IsCell c (some v)) (hc : env.cells.lookup x = some c) (h : Q v s)
    (hk : env.scope.kind = .function := by rfl) (hl : env.kindOf x = some .cell := by rfl) (hd : (x == ("__debug__" : Str)) = false := by decide) :
    wpAny (model pw w) A (eval (.Name x pos) env) Q E s := wpAny_Name (wpAny_loadName_cell hk hl hc hcell h) hd
end

/-- the contract of the whole search's generator: nc objects at the call, x0 behind it, z at the first waking; ob the generator's object -/
def PkS (nc x0 z ob : Nat) (a : Nat) (o : Obj) : Prop := a ≠ 16 ∧ (a < nc ∨ a = ob ∨ (x0 ≤ a ∧ a < z) ∨ (z + 4 ≤ a ∧ IsSeq o))
structure EvS (x0 z g : Nat) (s s' : Shared) : Prop where
  keep : ∀ (a : Nat) o, s.heap.get? a = some o → ¬ (x0 ≤ a ∧ a < z) → s'.heap.get? a = some o
  live : ∀ a o, s.heap.get? a = some o → ∃ o', s'.heap.get? a = some o'
  gens : ∀ i, g ≤ i → s'.gens[i]? = s.gens[i]?
  drawn : s'.drawn = s.drawn
  os : s'.os = s.os
  size : s'.heap.objs.size = s.heap.objs.size
def gnS (nc x0 z ob g d u : Nat) : Gn where
  g := g
  d := d
  u := u
  fin := fun s s' => St s (PkS nc x0 z ob) (GSf g s) [(16, TabO)] s'
  yld := fun y s s' v => ∃ D vals, v = .ref D ∧ NA vals y ∧ z + 4 ≤ D ∧ St s (PkS nc x0 z ob) (GSy g s) [(D, LstP vals), (16, TabO)] s'
  evo := EvS x0 z g
end Mine
end

section
open PySem PySem.W PyProof.Rows
set_option Elab.async false
namespace Mine
local macro_rules | `(tactic| walk_at "mem") => `(tactic| repeat (first | exact List.Mem.head _ | apply List.Mem.tail))
local macro_rules | `(tactic| walk_at "lg") => `(tactic| repeat (first | (with_reducible exact LG.head) | apply LG.tail))
local macro_rules | `(tactic| walk_at "upd") => `(tactic| repeat (first | exact Upd.head | apply Upd.tail))
local macro_rules | `(tactic| walk_at "ls") => `(tactic| repeat (first | (with_reducible exact LS.head) | apply LS.tail))

theorem St.keep0 {B s : Shared} {G : Array GenState → Prop} {L : Ledger} (S : St B KAll G L s) {a : Addr} {o : Obj} (e : B.heap.get? a = some o) : s.heap.get? a = some o := S.keep a o e trivial
/-- two ledgers of one state -/
theorem St.join {B s : Shared} {Pk : Addr → Obj → Prop} {G G' : Array GenState → Prop} {L L' L₂ : Ledger} (S : St B Pk G L s) (S' : St B Pk G' L' s) (hL : ∀ p ∈ L₂, p ∈ L ∨ p ∈ L') (hord : (L₂.map (·.1)).Pairwise (· > ·)) : St B Pk G L₂ s :=
  ⟨S.keep, fun p hp => (hL p hp).elim (S.own p) (S'.own p), fun p hp => (hL p hp).elim (S.led p) (S'.led p), hord, S.live, S.drawn, S.os, S.gens⟩

theorem stl' {M : Model} {A : Around} {E : Value → Shared → Prop} {env : Env} {B s : Shared} {Pk : Addr → Obj → Prop} {G : Array GenState → Prop} {L L' : Ledger} {x : Str} {v : Value} {ks : List Str} {vs vs' : List (Option Value)} {Q : Unit → Shared → Prop}
    (S : St B Pk G L s) (hL : Upd L env.locals (LocP ks vs) (LocP ks vs') L') (hv : LS ks vs x v vs') (hnd : ks.Nodup)
    (h : ∀ s', St B Pk G L' s' → Heap.SameBut env.locals s.heap s'.heap → Q () s')
    (hk : env.scope.kind = .function := by rfl) (hl : env.kindOf x = some .local := by rfl) : wpAny M A (storeName env x v) Q E s := by
  obtain ⟨m, hn, hm⟩ := S.ns hL.mem
  refine wpAny_storeName_local hl hn (fun h' hn' hs => h _ ?_ hs) (by rw [hk]; rfl)
  obtain ⟨o, ho, hN⟩ := ns_iff.mp hn'
  exact S.upd (s' := { s with heap := h', toks := s.toks + 1 }) hL hs ⟨o, ho, _, hN, hv.val hnd hm⟩ rfl rfl rfl
section
variable {C : Cx} {D : DF C} {Φ : Outcome → Shared → Prop}
abbrev ks2 : List Str := ["vertices", "v"]
theorem scc_drv {nc x0 z ob g d u : Nat} {Lp : Ledger} (hX : ∀ a : Nat, C.X a ↔ (x0 ≤ a ∧ a < z)) (h16 : (16, TabO) ∈ Lp) (hS : z + 4 ≤ C.nS) (hz : 16 < z) : C.Drv (gnS nc x0 z ob g d u) (PkS nc x0 z ob) ob Lp := by
  refine ⟨fun y s₀ s D vals S S' na h => ⟨D, vals, rfl, na, Nat.le_trans hS h, S.join S' (fun p hp => ?_) ?_⟩, fun s s' ev => ⟨fun a o e h _ => ev.keep a o e fun q => h ((hX a).mpr q), ev.live, ev.gens, ev.drawn, ev.os⟩⟩
  · simp only [List.mem_cons, List.not_mem_nil, or_false] at hp
    rcases hp with rfl | rfl
    · exact .inl (.head _)
    · exact .inr h16
  · have : 16 < D := by
      have := Nat.le_trans hS h
      exact Nat.lt_of_lt_of_le (by omega : 16 < z + 4) this
    simpa using this

def sccFor : Stmt := (fBody (stmtAt 1)).getD 5 (.Pass default)
theorem scc_loop {f : Nat} {target iter : Expr} {body : List Stmt} {pos : Pos} (hst : sccFor = .For target iter body [] pos) {pm doc : Value} {nc x0 z ob it lo g d u : Nat} {σ1 : Sx} {ov : List Value} {ord : List Nat}
    {kF lF pF kpF} (hX : ∀ a : Nat, C.X a ↔ (x0 ≤ a ∧ a < z)) (h4 : ∀ a : Nat, C.four a ↔ (z ≤ a ∧ a < z + 4)) (l0 : 16 < nc) (l1 : nc + 6 < ob) (l2 : ob < x0) (l3 : x0 ≤ z) (hS : z + 4 ≤ C.nS) (hit : C.nS ≤ it) (hd : d + (f + 1) ≤ 850) (hu : u + 5 * (f + 1) ≤ 9000)
    (hl : D.h0.PlainList lo ov.toArray) (hov : NA ov ord) (hc : D.c = sccCells nc) (hnc : ∀ a o, D.h0.get? a = some o → a ≠ nc)
    (cont : ∀ s₀ s, St s₀ (PkS nc x0 z ob) (GSf g s₀) [(16, TabO)] s → Cn C.w Φ (gnS nc x0 z ob g d u) [] s₀ (.func (fBody (stmtAt 1)) (sccEnv pm (.ref 20) doc nc)) [] (kF (.ok .next)) s) :
    ∀ (xs : List Nat) (k : Nat) (σ : Sx) (y1 : List (List Nat)) (s₀ s : Shared) (lv : Option Value), outerS (visitS D.n D.E f) xs σ = some (y1, σ1) → ord.drop k = xs → (g < s₀.gens.size ∧ ∃ o, s₀.heap.get? ob = some o) → SS D.h0 s.heap →
      St s₀ (PkS nc x0 z ob) (GSf g s₀) ((it, LitP lo k) :: C.L σ ++ [(nc, LocP ks2 [some (.ref lo), lv]), (16, TabO)]) s →
      Cn C.w Φ (gnS nc x0 z ob g d u) y1 s₀ (.forLoop target (.ref it) body [] (sccEnv pm (.ref 20) doc nc)) [⟨kF, lF, .func (fBody (stmtAt 1)) (sccEnv pm (.ref 20) doc nc), pF, kpF⟩] (denote table (.forLoop target (.ref it) body [] (sccEnv pm (.ref 20) doc nc))) s := by
  cases hst
  have hcX : D.c.X = nc + 5 := by rw [hc]; rfl
  have hcD : D.c.D = nc + 3 := by rw [hc]; rfl
  intro xs
  induction xs with
  | nil =>
    intro k σ y1 s₀ s lv hr hk hJ ks S
    have e : ([], σ) = (y1, σ1) := Option.some.inj hr
    obtain ⟨rfl, rfl⟩ := Prod.mk.inj e
    have hlen := hov.length
    refine Cn.forLoop (h := fun E => ?_)
    refine S_stop rfl S .head (PlainList.keeps hl ks) ?_ fun s' S' _ => Cn.done .next (cont s₀ s' ?_)
    · have := List.drop_eq_nil_iff.mp hk
      rw [List.getElem?_eq_none_iff]; omega
    · exact S'.drop (.cons _ (.cons _ (.cons _ (.cons _ (.cons _ (.cons _ (List.Sublist.refl _)))))))
  | cons x xs ihx =>
    intro k σ y1 s₀ s lv hr hk hJ ks S
    have hlen := hov.length
    have hkl : k < ord.length := by
      by_cases h : k < ord.length
      · exact h
      · rw [List.drop_eq_nil_of_le (by omega)] at hk; cases hk
    have hkx : ord[k] = x := by
      rw [List.drop_eq_getElem_cons hkl] at hk; exact (List.cons.inj hk).1
    have hk' : ord.drop (k + 1) = xs := by
      rw [List.drop_eq_getElem_cons hkl] at hk; exact (List.cons.inj hk).2
    obtain ⟨tx, htx⟩ := hov.get hkl
    rw [hkx] at htx
    have hne : ∀ a o, D.h0.get? a = some o → a ≠ it := fun a o e q => Nat.lt_irrefl C.nS (Nat.lt_of_le_of_lt hit (by rw [← q]; exact (D.st a o e).1))
    refine Cn.forLoop (h := fun E => ?_)
    refine S_next S .head (PlainList.keeps hl ks) htx fun s₁ S₁ hsb₁ => ?_
    refine wpAny_assign_Name (stl' S₁ (by walk_at "upd") (by walk_at "ls") (by decide) fun s₂ S₂ hsb₂ H' => ?_)
    have ks₂ : SS D.h0 s₂.heap := fun a o e => (hsb₂.2 a (hnc a o e)).trans ((hsb₁.2 a (hne a o e)).trans (ks a o e))
    refine .cons (.If fun E => wpAny_isTrue_Compare1 (ldl S₂ (by walk_at "mem") (by walk_at "lg") (ldcS (IsCell.keeps D.cX ks₂) (by rw [hcX]; rfl) ?_)))
    refine idx_notin (w := C.w) S₂ (a := C.F2) (l := σ.idx) (by walk_at "mem") D.sys2 (wpAny_truthy_bool ?_)
    have S₃ := S₂.tok (s₂.toks + 1)
    unfold outerS at hr
    cases hi : lookI σ.idx x with
    | some i =>
      rw [hi] at hr
      simp only [Option.isNone_some, Bool.false_eq_true, if_false] at hr ⊢
      exact .again rfl (ihx (k + 1) σ y1 s₀ _ _ hr hk' hJ ks₂ S₃)
    | none =>
      rw [hi] at hr
      simp only at hr
      cases hv : visitS D.n D.E f x σ with
      | none => rw [hv] at hr; cases hr
      | some p =>
        obtain ⟨z1, τ⟩ := p
        rw [hv] at hr
        simp only at hr
        cases hl2 : outerS (visitS D.n D.E f) xs τ with
        | none => rw [hl2] at hr; cases hr
        | some q =>
          obtain ⟨z2, τ2⟩ := q
          rw [hl2] at hr
          simp only at hr
          have hr' := Option.some.inj hr
          obtain ⟨rfl, rfl⟩ := Prod.mk.inj hr'
          simp only [Option.isNone_none, if_true]
          refine .cons (.ExprYF (call1 (ldcS (IsCell.keeps D.cD ks₂) (by rw [hcD]; rfl) (ldl S₃ (by walk_at "mem") (by walk_at "lg") ⟨?_, ?_⟩))))
          · obtain ⟨o, ho, hd', _⟩ := D.fn.keeps (h' := ({ s₂ with toks := s₂.toks + 1 } : Shared).heap) ks₂
            exact ⟨o, _, ho, hd'⟩
          refine d_call (D := D) ?_ ks₂ S₃ fun s₄ Lf₂ ob₂ hL2 hO2 hgen hgs Sx hk4 => ⟨ob₂, _, rfl, hgen, fun kk ll pp hkk => ?_⟩
          · show d + fd _ + 0 < 900
            simp only [fd, List.map_cons, List.map_nil, List.sum_cons, List.sum_nil]
            show d + (1 + 0) + 0 < 900
            omega
          have hsz : s₀.gens.size ≤ s₂.gens.size := S₃.gens.1.2
          have hgg : g < s₂.gens.size := Nat.lt_of_lt_of_le hJ.1 hsz
          have hobl : ob < s₂.heap.objs.size := by
            obtain ⟨o, ho⟩ := hJ.2
            obtain ⟨o', ho'⟩ := S₃.live _ _ ho
            exact Heap.lt_size ho'
          have hitl : it < s₂.heap.objs.size := S₃.lt (p := (it, _)) (.head _)
          have hL2 : s₂.heap.objs.size ≤ Lf₂ := hL2
          have hnL2 : C.nS ≤ Lf₂ := Nat.le_trans hit (Nat.le_trans (Nat.le_of_lt hitl) hL2)
          have hnO2 : C.nS ≤ ob₂ := Nat.le_trans hnL2 (Nat.le_of_lt hO2)
          have big : ∀ a, C.nS ≤ a → ¬ C.four a ∧ ¬ C.X a := fun a ha => ⟨fun q => Nat.lt_irrefl _ (Nat.lt_of_lt_of_le (D.low4 a q) ha), fun q => Nat.lt_irrefl _ (Nat.lt_of_lt_of_le (D.lowX a q) ha)⟩
          have hoit : ob < it := by omega
          have hgs4 : s₄.gens[s₂.gens.size]? = some (.fresh (D.cd Lf₂)) := by
            rw [hgs]; simp; rfl
          have hG4 : GSm g s₂.gens.size s₀ s₄.gens := by
            rw [hgs]
            refine ⟨⟨fun i hi => ?_, ?_⟩, fun i hi hi' y hy => ?_⟩
            · rw [Array.getElem?_push, if_neg (by show ¬ i = s₂.gens.size; omega)]
              exact S₃.gens.1.1 i hi
            · rw [Array.size_push]; show _ ≤ s₂.gens.size + 1; omega
            · rw [Array.getElem?_push, if_neg (by show ¬ i = s₂.gens.size; omega)] at hy
              exact S₃.gens.2 i hi y hy
          have Sy := Sx (GSm g s₂.gens.size s₀) hG4
          have Sz : St s₀ (PkS nc x0 z ob) (GSm g s₂.gens.size s₀) ((ob₂, GenK s₂.gens.size 0) :: [(it, LitP lo (k + 1)), (nc, LocP ks2 [some (.ref lo), some (.int (x : Int) tx)]), (16, TabO)]) s₄ := by
            refine Sy.drop ?_
            exact .cons_cons _ (.cons _ (.cons_cons _ (.cons _ (.cons _ (.cons _ (.cons _ (List.Sublist.refl _)))))))
          have ks₄ : SS D.h0 s₄.heap := fun a o e => hk4 a o (ks₂ a o e)
          refine yf_ok (J := fun s => g < s.gens.size ∧ ∃ o, s.heap.get? ob = some o) (P := gnS nc x0 z ob g d u) (Pk := PkS nc x0 z ob) (ob := ob) (n₂ := Lf₂) (d₂ := d + 1) (u₂ := u + 5) (σ₂ := τ) (h0 := D.h0)
            (Lp := [(it, LitP lo (k + 1)), (nc, LocP ks2 [some (.ref lo), some (.int (x : Int) tx)]), (16, TabO)])
            (Le := (ob₂, GenK s₂.gens.size 0) :: (it, LitP lo (k + 1)) :: C.L τ ++ [(nc, LocP ks2 [some (.ref lo), some (.int (x : Int) tx)]), (16, TabO)])
            (scc_drv hX (by walk_at "mem") hS (by omega)) ?_ (Nat.lt_of_lt_of_le hobl hL2) (Nat.le_of_lt hO2) hnL2 hgg ?_ ?_ ?_ ?_ D.st D.names.lim ?_ ?_ ?_ ?_ ?_ ?_ ?_ z1 (.fresh (D.cd Lf₂)) s₀ s₄ hJ Sz hgs4 ks₄ ?_
          · rintro a o ⟨h0, h⟩
            refine ⟨fun q => ?_, ?_⟩
            · obtain ⟨q1, q2⟩ := (h4 a).mp q
              rcases h with h | h | ⟨_, h⟩ | ⟨h, _⟩
              · omega
              · omega
              · omega
              · omega
            · have hz4 : z + 4 ≤ Lf₂ := Nat.le_trans hS hnL2
              rcases h with h | h | ⟨_, h⟩ | ⟨_, h⟩
              · exact .inl (Nat.lt_of_lt_of_le h (by omega))
              · exact .inl (by rw [h]; exact Nat.lt_of_lt_of_le hobl hL2)
              · exact .inl (Nat.lt_of_lt_of_le h (by omega))
              · exact .inr (.inr h)
          · intro p hp
            simp only [List.mem_cons, List.not_mem_nil, or_false] at hp
            rcases hp with rfl | rfl | rfl
            · exact Nat.lt_of_lt_of_le hitl hL2
            · show nc < Lf₂; omega
            · show 16 < Lf₂; omega
          · intro p hp
            simp only [List.mem_cons, List.not_mem_nil, or_false] at hp
            rcases hp with rfl | rfl | rfl | rfl
            · exact big _ hnO2
            · exact big _ hit
            · exact ⟨fun q => absurd ((h4 _).mp q).1 (by omega), fun q => absurd ((hX _).mp q).1 (by omega)⟩
            · exact ⟨fun q => absurd ((h4 _).mp q).1 (by omega), fun q => absurd ((hX _).mp q).1 (by omega)⟩
          · intro p hp
            simp only [List.mem_cons, List.not_mem_nil, or_false] at hp
            rcases hp with rfl | rfl | rfl | rfl
            · rintro o ho ⟨_, q | q | q | q⟩
              · have : ob₂ < nc := q; omega
              · have : ob₂ = ob := q; omega
              · have : ob₂ < z := q.2; omega
              · exact ho.notSeq q.2
            · rintro o ho ⟨_, q | q | q | q⟩
              · have : it < nc := q; omega
              · have : it = ob := q; omega
              · have : it < z := q.2; omega
              · exact ho.notSeq q.2
            · rintro o ho ⟨_, q | q | q | q⟩
              · have : nc < nc := q; omega
              · have : nc = ob := q; omega
              · have : x0 ≤ nc := q.1; omega
              · exact ho.notSeq q.2
            · rintro o ho ⟨q, _⟩
              exact q rfl
          · intro p hp
            simp only [List.mem_cons, List.not_mem_nil, or_false] at hp
            rcases hp with rfl | rfl | rfl | rfl
            · left; show ob < ob₂; omega
            · exact .inl hoit
            · right; left; show nc < C.nS; omega
            · right; left; show 16 < C.nS; omega
          · intro p hp
            simp only [List.cons_append, List.mem_cons, List.mem_append, List.not_mem_nil, or_false] at hp ⊢
            rcases hp with h | h | h | h | h
            · exact .inr (.inl h)
            · exact .inr (.inr (.inl h))
            · exact .inl h
            · exact .inr (.inr (.inr (.inl h)))
            · exact .inr (.inr (.inr (.inr h)))
          · have := (Sy.drop (L' := (ob₂, GenK s₂.gens.size 0) :: (it, LitP lo (k + 1)) :: C.L σ ++ [(nc, LocP ks2 [some (.ref lo), some (.int (x : Int) tx)]), (16, TabO)]) (.cons_cons _ (.cons _ (List.Sublist.refl _)))).ord
            exact this
          · simp only [fd, List.map_cons, List.map_nil, List.sum_cons, List.sum_nil]
            show d + (1 + 0) + 0 + 1 < 900
            omega
          · simp only [fd, List.map_cons, List.map_nil, List.sum_cons, List.sum_nil]
            show d + (1 + 0) + 0 ≤ d + 1
            omega
          · simp only [fu, List.map_cons, List.map_nil, List.sum_cons, List.sum_nil]
            show u + (3 + 0) + 0 + 2 ≤ u + 5
            omega
          · rintro s₀ s s'' ⟨h2, o, h3⟩ S ev
            refine ⟨?_, ?_⟩
            · have hlt : g < s.gens.size := Nat.lt_of_lt_of_le h2 S.gens.2
              have e : s''.gens[g]? = s.gens[g]? := ev.gens g (Nat.le_refl _)
              rw [Array.getElem?_eq_getElem hlt] at e
              exact (Array.getElem?_eq_some_iff.mp e).1
            · obtain ⟨o', h⟩ := S.live _ _ h3
              exact ev.live _ _ h
          · intro s₀' s' hJ' S' ks'
            rw [hkk]
            exact .again rfl (ihx (k + 1) τ z2 s₀' s' _ hl2 hk' hJ' ks' (S'.drop (List.sublist_cons_self _ _)))
          · intro s'' hE
            have hE : C.Ev ob₂ s₂.gens.size s₄ s'' := hE
            refine Cn.sg (fs := []) (dfs_ok f x tx σ z1 τ hv s₂.gens.size ob₂ Lf₂ (d + 1) (u + 5) _ hnL2 hO2 (by omega) (by omega) (show SS D.h0 s''.heap from D.ssEv ks₄ hE) ?_ ?_ ?_ ?_ ?_)
            · obtain ⟨o, ho, _⟩ := Sy.get (a := ob₂) (P := GenK s₂.gens.size 0) (.head _)
              exact hE.live _ _ ho
            · obtain ⟨o, ho, hP⟩ := Sy.get (a := Lf₂) (P := LocP ks4 [some (.int (x : Int) tx), none, none, none]) (.tail _ (.head _))
              exact ⟨o, hE.keep _ _ ho (big _ hnL2).2 (.inr (.inr hP.notFlds)), hP⟩
            · intro p hp
              obtain ⟨o, ho, hP⟩ := Sy.led p (.tail _ (.tail _ (.tail _ (List.mem_append_left _ hp))))
              exact ⟨o, hE.keep _ _ ho (D.x4 _ (C.L_four hp)) (.inl (D.low4 _ (C.L_four hp))), hP⟩
            · rw [setGen_size]
              have := hE.gens s₂.gens.size (Nat.le_refl _)
              rw [hgs4] at this
              exact (Array.getElem?_eq_some_iff.mp this).1
            · intro i hi y hy
              rw [setGen_get_ne (by omega), hE.gens i (Nat.le_of_lt hi), hgs, Array.getElem?_push, if_neg (by show ¬ i = s₂.gens.size; omega)] at hy
              have := (Array.getElem?_eq_some_iff.mp hy).1
              exact absurd (show i < s₂.gens.size from this) (by omega)
end
end Mine
end

section
open PySem PySem.W PyProof.Rows
set_option Elab.async false
namespace Mine
local macro_rules | `(tactic| walk_at "mem") => `(tactic| repeat (first | exact List.Mem.head _ | apply List.Mem.tail))
local macro_rules | `(tactic| walk_at "lg") => `(tactic| repeat (first | (with_reducible exact LG.head) | apply LG.tail))
local macro_rules | `(tactic| walk_at "upd") => `(tactic| repeat (first | exact Upd.head | apply Upd.tail))
local macro_rules | `(tactic| walk_at "ls") => `(tactic| repeat (first | (with_reducible exact LS.head) | apply LS.tail))

/-- what stands fast below the whole search -/
structure SF (w : World) (nc : Nat) where
  hC : Heap
  n : Nat
  E : Nat → List Nat
  dE : Addr
  lo : Addr
  ov : List Value
  ord : List Nat
  mg : Str → Option Value
  st : ∀ (a : Nat) o, hC.get? a = some o → a < nc ∧ a ≠ 16
  names : Names hC
  g : hC.Ns mainGlobals mg
  bat : hC.BuiltinsAt mg 16
  ch : CodeHd hC 20 16
  edges : EdgesOk w hC dE n E
  lst : hC.PlainList lo ov.toArray
  na : NA ov ord

theorem sccL_mem {L : Addr} {e i st x b d : Option Value} {vs : List (Option Value)} {p : Addr × OP} (h : p ∈ sccL L e i st x b d vs) : L ≤ p.1 ∧ p.1 ≤ L + 6 := by
  simp only [sccL, List.mem_cons, List.not_mem_nil, or_false] at h
  rcases h with rfl | rfl | rfl | rfl | rfl | rfl | rfl
  · exact ⟨Nat.le_add_right L 6, Nat.le_refl _⟩
  · exact ⟨Nat.le_add_right L 5, Nat.add_le_add_left (by decide : 5 ≤ 6) L⟩
  · exact ⟨Nat.le_add_right L 4, Nat.add_le_add_left (by decide : 4 ≤ 6) L⟩
  · exact ⟨Nat.le_add_right L 3, Nat.add_le_add_left (by decide : 3 ≤ 6) L⟩
  · exact ⟨Nat.le_add_right L 2, Nat.add_le_add_left (by decide : 2 ≤ 6) L⟩
  · exact ⟨Nat.le_add_right L 1, Nat.add_le_add_left (by decide : 1 ≤ 6) L⟩
  · exact ⟨Nat.le_refl L, Nat.le_add_right L 6⟩
theorem sccL_notSeq {L : Addr} {e i st x b d : Option Value} {vs : List (Option Value)} {p : Addr × OP} (h : p ∈ sccL L e i st x b d vs) : ∀ o, p.2 o → ¬ IsSeq o := by
  have cell : ∀ {v : Option Value} {o : Obj}, CellP v o → ¬ IsSeq o := fun {v o} h => by
    rintro ⟨xs, k, e⟩
    unfold CellP at h
    rw [h] at e; cases e
  simp only [sccL, List.mem_cons, List.not_mem_nil, or_false] at h
  rcases h with rfl | rfl | rfl | rfl | rfl | rfl | rfl
  all_goals first | exact fun o h => cell h | exact fun o h => h.notSeq

theorem St.imp {B s : Shared} {Pk : Addr → Obj → Prop} {G : Array GenState → Prop} {L L₂ : Ledger} (S : St B Pk G L s) (hL : ∀ p ∈ L₂, ∃ q ∈ L, q.1 = p.1 ∧ ∀ o, q.2 o → p.2 o) (hord : (L₂.map (·.1)).Pairwise (· > ·)) : St B Pk G L₂ s := by
  refine ⟨S.keep, fun p hp => ?_, fun p hp => ?_, hord, S.live, S.drawn, S.os, S.gens⟩
  · obtain ⟨q, hq, e, _⟩ := hL p hp
    rw [← e]; exact S.own q hq
  · obtain ⟨q, hq, e, h⟩ := hL p hp
    obtain ⟨o, ho, hP⟩ := S.led q hq
    exact ⟨o, e ▸ ho, h o hP⟩

def sccHid (nc x0 z : Nat) : List Addr := [nc, z, z + 1, z + 2, z + 3] ++ (List.range z).filter (fun a => decide (x0 ≤ a))
theorem sccHid_iff {nc x0 z a : Nat} : a ∈ sccHid nc x0 z ↔ a = nc ∨ (z ≤ a ∧ a < z + 4) ∨ (x0 ≤ a ∧ a < z) := by
  unfold sccHid
  simp only [List.cons_append, List.nil_append, List.mem_cons, List.mem_filter, List.mem_range, decide_eq_true_eq]
  omega

section
variable {w : World} {Φ : Outcome → Shared → Prop}
set_option maxHeartbeats 4000000 in
theorem scc_ok {nc x0 z ob g d u f : Nat} (F : SF w nc) {pm doc : Value} {ys : List (List Nat)} {σ1 : Sx} {s : Shared} (hz : s.heap.objs.size = z) (l0 : 16 < nc) (l1 : nc + 6 < ob) (l2 : ob < x0) (l3 : x0 ≤ z) (hd : d + (f + 1) ≤ 850) (hu : u + 5 * (f + 1) ≤ 9000)
    (hs : SS F.hC s.heap) (hL : ∀ p ∈ sccL nc (some (.ref F.dE)) none none none none none [some (.ref F.lo), none], ∃ o, s.heap.get? p.1 = some o ∧ p.2 o) (hob : ∃ o, s.heap.get? ob = some o) (h16 : ∃ o, s.heap.get? 16 = some o ∧ Tab0 o)
    (hg : g < s.gens.size) (hfin : ∀ i, g < i → ∀ y, s.gens[i]? = some y → y = .finished)
    (hrun : outerS (visitS F.n F.E f) F.ord ⟨[], [], [], []⟩ = some (ys, σ1)) :
    Cn w Φ (gnS nc x0 z ob g d u) ys s (.func (fBody (stmtAt 1)) (sccEnv pm (.ref 20) doc nc)) [] (denote table (.func (fBody (stmtAt 1)) (sccEnv pm (.ref 20) doc nc))) s := by
  have S : St s (PkS nc x0 z ob) (GSf g s) (sccL nc (some (.ref F.dE)) none none none none none [some (.ref F.lo), none] ++ [(16, Tab0)]) s := by
    refine ⟨fun _ _ e _ => e, fun p hp o e => ?_, fun p hp => ?_, ?_, fun _ o e => ⟨o, e⟩, rfl, rfl, ⟨⟨fun _ _ => rfl, Nat.le_refl _⟩, hfin⟩⟩
    · rcases List.mem_append.mp hp with h | h
      · obtain ⟨q1, q2⟩ := sccL_mem h
        obtain ⟨o', ho', hP⟩ := hL p h
        rw [e] at ho'
        cases ho'
        have hns := sccL_notSeq h o hP
        obtain ⟨a, Pa⟩ := p
        have q1 : nc ≤ a := q1
        have q2 : @LE.le Nat _ a (nc + 6) := q2
        rintro ⟨_, q | q | q | q⟩
        · have q : @LT.lt Nat _ a nc := q; omega
        · have q : @Eq Nat a ob := q; omega
        · have q : @LE.le Nat _ x0 a := q.1; omega
        · exact hns q.2
      · rw [List.mem_singleton.mp h]
        exact fun q => q.1 rfl
    · rcases List.mem_append.mp hp with h | h
      · exact hL p h
      · rw [List.mem_singleton.mp h]; exact h16
    · show ([nc + 6, nc + 5, nc + 4, nc + 3, nc + 2, nc + 1, nc, 16] : List Nat).Pairwise (· > ·)
      simp
      omega
  have kC : ∀ {G : Array GenState → Prop} {L : Ledger} {s' : Shared}, St s (PkS nc x0 z ob) G L s' → SS F.hC s'.heap := fun S' a o e => S'.keep a o (hs a o e) ⟨(F.st a o e).2, .inl (F.st a o e).1⟩
  show Cn w Φ _ ys s (.func (fBody (stmtAt 1)) (sccEnv pm (.ref 20) doc nc)) [] (denote table (.func (fBody (stmtAt 1)) (sccEnv pm (.ref 20) doc nc))) s
  refine .func fun H' => ?_
  refine Cn.stmt (s_dict (c := nc + 4) S hz (by walk_at "upd") fun s₁ S₁ z₁ => ⟨rfl, ?_⟩)
  refine Cn.stmt (s_list (c := nc + 6) S₁ z₁ (by walk_at "upd") fun s₂ S₂ z₂ => ⟨rfl, ?_⟩)
  refine Cn.stmt (s_dict (c := nc + 5) S₂ z₂ (by walk_at "upd") fun s₃ S₃ z₃ => ⟨rfl, ?_⟩)
  refine Cn.stmt (s_list (c := nc + 2) S₃ z₃ (by walk_at "upd") fun s₄ S₄ z₄ => ⟨rfl, ?_⟩)
  refine Cn.stmt (scc_def (L1 := nc) S₄ (by walk_at "upd") (fun v => by walk_at "upd") (F.g.keeps (kC S₄)) (F.ch.keeps (kC S₄)) (F.bat.keeps (kC S₄)) fun s₅ fD clT code pm' hfD S₅ hfn hcc hsz => ⟨rfl, ?_⟩)
  have hz4 : z + 4 ≤ s₅.heap.objs.size := by omega
  let C : Cx := { w := w, X := fun a => x0 ≤ (a : Nat) ∧ (a : Nat) < z, nS := s₅.heap.objs.size, F0 := z, F1 := z + 1, F2 := z + 2, F3 := z + 3, o01 := Nat.lt_succ_self _, o12 := Nat.lt_succ_self _, o23 := Nat.lt_succ_self _ }
  have h4 : ∀ a : Nat, C.four a ↔ (z ≤ a ∧ a < z + 4) := fun a => by
    show (@Eq Nat a z ∨ @Eq Nat a (z + 1) ∨ @Eq Nat a (z + 2) ∨ @Eq Nat a (z + 3)) ↔ _
    omega
  have up : ∀ (a : Nat) o, s₅.heap.get? a = some o → a ≠ nc → ¬ (z ≤ a ∧ a < z + 4) → ¬ (x0 ≤ a ∧ a < z) → (hideAll s₅.heap (sccHid nc x0 z)).get? a = some o := fun a o e h1 h2 h3 =>
    hideAll_get _ e fun q => (sccHid_iff.mp q).elim h1 fun q => q.elim h2 h3
  have down : ∀ (a : Nat) o, (hideAll s₅.heap (sccHid nc x0 z)).get? a = some o → s₅.heap.get? a = some o ∧ a ≠ nc ∧ ¬ (z ≤ a ∧ a < z + 4) ∧ ¬ (x0 ≤ a ∧ a < z) := fun a o e => by
    have hn : a ∉ sccHid nc x0 z := fun q => by rw [hideAll_none _ q] at e; cases e
    exact ⟨of_hideAll _ e, fun q => hn (sccHid_iff.mpr (.inl q)), fun q => hn (sccHid_iff.mpr (.inr (.inl q))), fun q => hn (sccHid_iff.mpr (.inr (.inr q)))⟩
  have kC5 : ∀ a o, F.hC.get? a = some o → (hideAll s₅.heap (sccHid nc x0 z)).get? a = some o := fun a o e => by
    obtain ⟨q1, q2⟩ := F.st a o e
    exact up a o (kC S₅ a o e) (by omega) (by omega) (by omega)
  have cell : ∀ {k : Nat} {v : Option Value}, 0 < k → k ≤ 6 → (∃ o, s₅.heap.get? (nc + k) = some o ∧ CellP v o) → (hideAll s₅.heap (sccHid nc x0 z)).IsCell (nc + k) v := fun {k v} h1 h2 ⟨o, h3, h4⟩ =>
    ⟨o, up _ o h3 (by omega) (by omega) (by omega), h4⟩
  obtain ⟨cc, ecc, hcc⟩ := hcc
  obtain ⟨of, hof, hdf, c₀, oc, vs, tq, ec₀, hoc, hdc, hq⟩ := id hfn
  have ecc' : c₀ = cc := by rw [ecc] at ec₀; cases ec₀; rfl
  have hcc' : z + 4 ≤ c₀ := by rw [ecc']; omega
  have hfD' : z + 4 ≤ fD := by omega
  let D : DF C :=
    { h0 := hideAll s₅.heap (sccHid nc x0 z), n := F.n, E := F.E, dE := F.dE, c := sccCells nc, fD := fD, clT := clT, code := code, pm := pm', doc := .none
      st := fun a o e => by
        obtain ⟨q1, q2, q3, q4⟩ := down a o e
        exact ⟨Heap.lt_size q1, q4, fun q => q3 ((h4 a).mp q)⟩
      lowX := fun a q => by
        have q : @LT.lt Nat _ a z := q.2
        show @LT.lt Nat _ a s₅.heap.objs.size
        omega
      low4 := fun a q => by
        have q := ((h4 a).mp q).2
        show @LT.lt Nat _ a s₅.heap.objs.size
        omega
      x4 := fun a q q' => by
        have q := ((h4 a).mp q).1
        have q' : @LT.lt Nat _ a z := q'.2
        omega
      names := F.names.keeps kC5
      edges := F.edges.keeps kC5
      cB := cell (by decide) (by decide) (S₅.get (a := nc + 2) (by walk_at "mem"))
      cD := cell (by decide) (by decide) (S₅.get (a := nc + 3) (by walk_at "mem"))
      cE := cell (by decide) (by decide) (S₅.get (a := nc + 1) (by walk_at "mem"))
      cI := cell (by decide) (by decide) (S₅.get (a := nc + 4) (by walk_at "mem"))
      cX := cell (by decide) (by decide) (S₅.get (a := nc + 5) (by walk_at "mem"))
      cS := cell (by decide) (by decide) (S₅.get (a := nc + 6) (by walk_at "mem"))
      fn := ⟨of, up _ _ hof (by omega) (by omega) (by omega), hdf, c₀, oc, vs, tq, ec₀, up _ _ hoc (by omega) (by omega) (by omega), hdc, hq⟩
      sys0 := by
        show ((z : Nat) == 1) = false
        rw [beq_eq_false_iff_ne]; omega
      sys2 := by
        show ((z + 2 : Nat) == 1) = false
        rw [beq_eq_false_iff_ne]; omega }
  have S₆ : St s (PkS nc x0 z ob) (GSf g s) (C.L ⟨[], [], [], []⟩ ++ [(nc, LocP ks2 [some (.ref F.lo), none]), (16, TabO)]) s₅ := by
    refine S₅.imp (fun p hp => ?_) ?_
    · simp only [Cx.L, List.cons_append, List.nil_append, List.mem_cons, List.not_mem_nil, or_false] at hp
      rcases hp with rfl | rfl | rfl | rfl | rfl | rfl
      · exact ⟨(z + 1 + 1 + 1, LstP []), by walk_at "mem", rfl, fun o h => ⟨[], NA.nil, h⟩⟩
      · exact ⟨(z + 1 + 1, DctP w []), by walk_at "mem", rfl, fun o h => ⟨[], h, .nil⟩⟩
      · exact ⟨(z + 1, LstP []), by walk_at "mem", rfl, fun o h => ⟨[], NA.nil, h⟩⟩
      · exact ⟨(z, DctP w []), by walk_at "mem", rfl, fun o h => ⟨[], h, rfl⟩⟩
      · exact ⟨(nc, LocP ks2 [some (.ref F.lo), none]), by walk_at "mem", rfl, fun o h => h⟩
      · exact ⟨(16, TabO), by walk_at "mem", rfl, fun o h => h⟩
    · show ([z + 3, z + 2, z + 1, z, nc, 16] : List Nat).Pairwise (· > ·)
      simp
      omega
  refine .cons (.For (ldl S₆ (by walk_at "mem") (by walk_at "lg") ?_))
  refine S_iter S₆ (PlainList.keeps F.lst (kC S₆)) fun it s₇ hit K₇ S₇ kk pp hkk => ?_
  refine scc_loop (D := D) (f := f) (σ1 := σ1) rfl (fun _ => Iff.rfl) h4 l0 l1 l2 l3 hz4 (Nat.le_of_eq hit.symm) hd hu (PlainList.keeps F.lst kC5) F.na rfl (fun a o e => (down a o e).2.1) ?_ F.ord 0 ⟨[], [], [], []⟩ ys s s₇ none hrun rfl ⟨hg, hob⟩ ?_ S₇
  · intro s₀' s' S'
    rw [hkk]
    exact Cn.fin S'
  · intro a o e
    obtain ⟨h', tk, e', hk⟩ := K₇
    subst e'
    exact hk _ _ (down a o e).1
end
end Mine
end

section
open PySem PySem.W PyProof.Rows
set_option Elab.async false
namespace Mine
local macro_rules | `(tactic| walk_at "mem") => `(tactic| repeat (first | exact List.Mem.head _ | apply List.Mem.tail))
local macro_rules | `(tactic| walk_at "lg") => `(tactic| repeat (first | (with_reducible exact LG.head) | apply LG.tail))
local macro_rules | `(tactic| walk_at "upd") => `(tactic| repeat (first | exact Upd.head | apply Upd.tail))
local macro_rules | `(tactic| walk_at "ls") => `(tactic| repeat (first | (with_reducible exact LS.head) | apply LS.tail))

section
variable {w : World} {Φ : Outcome → Shared → Prop} {α β : Type} {c : Code} {st : List Frame} {s : Shared} {d u : Nat}
theorem GG.onR {m : Sem α} {h : Value → Sem Unit} {K : α → Sem PySem.Fin} {H : Value → Sem PySem.Fin} {gd lv} (x : ∀ H', GG w Φ c st (m.wrap K H' gd lv) s) : GG w Φ c st ((m.onRaise h).wrap K H gd lv) s := by
  rw [Sem.onRaise_eq_wrap, Sem.wrap_wrap]; exact x _
theorem GG.onR0 {m : Sem PySem.Fin} {h : Value → Sem Unit} (x : ∀ H', GG w Φ c st (m.wrap .pure H' id id) s) : GG w Φ c st (m.onRaise h) s := by
  rw [Sem.onRaise_eq_wrap]; exact x _
theorem GG.held {m : Sem α} {vs : List Value} {K : α → Sem PySem.Fin} {H : Value → Sem PySem.Fin} {gd lv} (x : ∀ lv', GG w Φ c st (m.wrap K H gd lv') s) : GG w Φ c st ((holding vs m).wrap K H gd lv) s := by
  unfold holding
  split
  · exact x _
  · rw [Sem.keep_eq_wrap, Sem.wrap_wrap]; exact x _
theorem GG.attw {m : Sem α} {f : Except Value α → Sem β} {K : β → Sem PySem.Fin} {H : Value → Sem PySem.Fin} {gd lv}
    (x : ∀ gd' lv', GG w Φ c st (m.wrap (fun a => (f (.ok a)).wrap K H gd lv) (fun e => (f (.error e)).wrap K H gd lv) gd' lv') s) : GG w Φ c st ((m.attempt >>= f).wrap K H gd lv) s := by
  rw [Sem.bind_eq_wrap', Sem.wrap_wrap, Sem.attempt, Sem.tryCatch_eq_wrap, Sem.wrap_wrap, Sem.bind_eq_wrap, Sem.wrap_wrap]
  exact x _ _

theorem GG.pyN {P : Gn} {ys : List (List Nat)} {a : Addr} {gs : GenState} {K : Option Value → Sem PySem.Fin} {H : Value → Sem PySem.Fin} {gd lv} (hr : Rm d u st) (hd : d + c.weight + 1 < 900) (hl : s.heap.NoLimit)
    (ho : ∃ o, s.heap.get? a = some o ∧ GenO P.g o) (hg : s.gens[P.g]? = some gs) (hgo : GoesG w Φ P ys gs (s.setGen P.g .running)) (hdP : d + c.weight ≤ P.d) (huP : u + c.cUnits + 1 ≤ P.u)
    (hend : ys = [] → ∀ s' h', P.fin (s.setGen P.g .running) s' → (∀ b o, s'.heap.get? b = some o → h'.get? b = some o) → GG w Φ c st (K none) { s'.setGen P.g .finished with heap := h' })
    (hy : ∀ y ys', ys = y :: ys' → ∀ s' v gs', P.yld y (s.setGen P.g .running) s' v → (∀ s'', P.evo s' s'' → GoesG w Φ P ys' gs' s'') → gs'.status = .suspended → GG w Φ c st (K (some v)) (s'.setGen P.g gs')) :
    GG w Φ c st ((pyNext (.ref a)).wrap K H gd lv) s := by
  unfold pyNext
  refine GG.attw fun gd' lv' => GG.next hr hd hl ho hg hgo hdP huP (fun e s' x h' hf hk hx => ?_) fun y ys' e s' v gs' h1 h2 h3 => ?_
  · obtain ⟨o, ho, hc, _⟩ := hx
    show GG w Φ c st ((isInstance (.ref x) (.type "StopIteration") >>= _).wrap K H gd lv) _
    refine GG.bindw hr (wpAny_isInstance (T := "StopIteration") (b := true) ⟨o, ho, hc⟩ isSubtype_stop ?_)
    exact hend e s' h' hf hk
  · exact hy y ys' e s' v gs' h1 h2 h3
end

/-- the drinker's steps between two wakings of the search -/
theorem EvS.refl (x0 z g : Nat) (s : Shared) : EvS x0 z g s s := ⟨fun _ _ e _ => e, fun _ o e => ⟨o, e⟩, fun _ _ => rfl, rfl, rfl, rfl⟩
theorem EvS.turn {x0 z g : Nat} {s s₁ s₂ : Shared} (x : EvS x0 z g s s₁) {a : Nat} (hb : Heap.SameBut a s₁.heap s₂.heap) (hn : ∃ o, s₂.heap.get? a = some o) (h1 : x0 ≤ a) (h2 : a < z) (hg : s₂.gens = s₁.gens) (hd : s₂.drawn = s₁.drawn) (ho : s₂.os = s₁.os) : EvS x0 z g s s₂ := by
  refine ⟨fun b o e hX => ?_, fun b o e => ?_, fun i hi => by rw [hg]; exact x.gens i hi, hd.trans x.drawn, ho.trans x.os, hb.1.trans x.size⟩
  · have hne : b ≠ a := by
      rintro rfl
      exact hX ⟨h1, h2⟩
    exact (hb.2 b hne).trans (x.keep b o e hX)
  · by_cases hba : b = a
    · subst hba; exact hn
    · obtain ⟨o', e'⟩ := x.live b o e
      exact ⟨o', (hb.2 b hba).trans e'⟩
theorem EvS.wake {x0 z g : Nat} {s s₁ : Shared} {gs : GenState} (x : EvS x0 z g (s.setGen g gs) s₁) (hs : s.gens[g]? = some .running) : EvS x0 z g s (s₁.setGen g .running) := by
  have h1 : s₁.gens[g]? = some gs := by rw [x.gens g (Nat.le_refl _)]; exact setGen_get_self hs
  refine ⟨x.keep, x.live, fun i hi => ?_, x.drawn, x.os, x.size⟩
  by_cases h : i = g
  · subst h; rw [setGen_get_self h1, hs]
  · rw [setGen_get_ne h, x.gens i hi, setGen_get_ne h]

/-- the parts told so far, laid in the list acc -/
inductive Parts (h : Heap) (z : Nat) : List Value → List (List Nat) → Prop
  | nil : Parts h z [] []
  | cons {D : Addr} {vs : List Value} {y : List Nat} {l : List Value} {ys : List (List Nat)} : @LE.le Nat _ (z + 4) D → h.PlainList D vs.toArray → NA vs y → Parts h z l ys → Parts h z (.ref D :: l) (y :: ys)
theorem Parts.snoc {h : Heap} {z : Nat} {l : List Value} {ys : List (List Nat)} (x : Parts h z l ys) {D : Addr} {vs : List Value} {y : List Nat} (h1 : @LE.le Nat _ (z + 4) D) (h2 : h.PlainList D vs.toArray) (h3 : NA vs y) : Parts h z (l ++ [.ref D]) (ys ++ [y]) := by
  induction x with
  | nil => exact .cons h1 h2 h3 .nil
  | cons a b c _ ih => exact .cons a b c ih
theorem Parts.mono {h h' : Heap} {z : Nat} {l : List Value} {ys : List (List Nat)} (x : Parts h z l ys) (hk : ∀ (D : Nat) o, z + 4 ≤ D → IsSeq o → h.get? D = some o → h'.get? D = some o) : Parts h' z l ys := by
  induction x with
  | nil => exact .nil
  | cons a b c _ ih =>
    obtain ⟨n, e⟩ := b
    exact .cons a ⟨n, hk _ _ a ⟨_, _, rfl⟩ e⟩ c ih
theorem Parts.len {h : Heap} {z : Nat} {l : List Value} {ys : List (List Nat)} (x : Parts h z l ys) : l.length = ys.length := by
  induction x with
  | nil => rfl
  | cons _ _ _ _ ih => simp [ih]
end Mine
end

section
open PySem PySem.W PyProof.Rows
set_option Elab.async false
namespace Mine
local macro_rules | `(tactic| walk_at "mem") => `(tactic| repeat (first | exact List.Mem.head _ | apply List.Mem.tail))
local macro_rules | `(tactic| walk_at "lg") => `(tactic| repeat (first | (with_reducible exact LG.head) | apply LG.tail))
local macro_rules | `(tactic| walk_at "upd") => `(tactic| repeat (first | exact Upd.head | apply Upd.tail))
local macro_rules | `(tactic| walk_at "ls") => `(tactic| repeat (first | (with_reducible exact LS.head) | apply LS.tail))

theorem EvS.trans {x0 z g : Nat} {s s₁ s₂ : Shared} (x : EvS x0 z g s s₁) (y : EvS x0 z g s₁ s₂) : EvS x0 z g s s₂ :=
  ⟨fun a o e h => y.keep a o (x.keep a o e h) h, fun a o e => let ⟨o', e'⟩ := x.live a o e; y.live a o' e', fun i hi => (y.gens i hi).trans (x.gens i hi), y.drawn.trans x.drawn, y.os.trans x.os, y.size.trans x.size⟩

theorem stlH {M : Model} {A : Around} {E : Value → Shared → Prop} {env : Env} {B s : Shared} {Pk : Addr → Obj → Prop} {G : Array GenState → Prop} {L L' : Ledger} {x : Str} {v : Value} {ks : List Str} {vs vs' : List (Option Value)} {Q : Unit → Shared → Prop}
    (S : St B Pk G L s) (hL : Upd L env.locals (LocP ks vs) (LocP ks vs') L') (hv : LS ks vs x v vs') (hnd : ks.Nodup)
    (h : ∀ h' t, St B Pk G L' { s with heap := h', toks := t } → Heap.SameBut env.locals s.heap h' → Q () { s with heap := h', toks := t })
    (hk : env.scope.kind = .function := by rfl) (hl : env.kindOf x = some .local := by rfl) : wpAny M A (storeName env x v) Q E s := by
  obtain ⟨m, hn, hm⟩ := S.ns hL.mem
  refine wpAny_storeName_local hl hn (fun h' hn' hs => h _ _ ?_ hs) (by rw [hk]; rfl)
  obtain ⟨o, ho, hN⟩ := ns_iff.mp hn'
  exact S.upd (s' := { s with heap := h', toks := s.toks + 1 }) hL hs ⟨o, ho, _, hN, hv.val hnd hm⟩ rfl rfl rfl
def K16 : Addr → Obj → Prop := fun a _ => @Ne Nat a 16
section
variable {w : World} {Φ : Outcome → Shared → Prop} {c₁ : Code} {st : List Frame} {d u : Nat}
theorem drink {nc x0 z ob g d₂ u₂ acc cns : Nat} {x : Str} {px pe : Pos} {iter : Expr} {scope : Scope} {pos : Pos} {cenv : Env} {B : Shared} {Lw : Ledger} {kF : Result → Sem PySem.Fin} {gd : Bool} {lv p₁ kp}
    (hr : Rm d u st) (hB : B.heap.objs.size ≤ nc) (l0 : 16 < nc) (l1 : nc + 6 < ob) (l2 : ob < x0) (ha1 : x0 ≤ acc) (ha2 : acc < z) (hc1 : x0 ≤ cns) (hc2 : cns < z) (hLw : ∀ p ∈ Lw, @LT.lt Nat _ p.1 nc ∧ @Ne Nat p.1 16) (hloc : cenv.locals = cns) (hlim : B.heap.NoLimit)
    (hx : cenv.kindOf x = some .local) (hk : cenv.scope.kind = .function) (hdbg : (x == ("__debug__" : Str)) = false) (hiter : ∀ a, denote table (.compLoop (.ListComp (.Name x pe) [⟨.Name x px, iter, [], 0⟩] scope pos) 0 (.ref ob) a cenv) =
      (compTurn (.ListComp (.Name x pe) [⟨.Name x px, iter, [], 0⟩] scope pos) 0 (.ref ob) a cenv).onRaise (fun x => do noteFrame x cenv; theTreesLotGoes x))
    (hq : ∀ a, (Code.compLoop (.ListComp (.Name x pe) [⟨.Name x px, iter, [], 0⟩] scope pos) 0 (.ref ob) a cenv).weight = 0 ∧ (Code.compLoop (.ListComp (.Name x pe) [⟨.Name x px, iter, [], 0⟩] scope pos) 0 (.ref ob) a cenv).cUnits = 0)
    (hd : d + c₁.weight + 1 < 900) (hdP : d + c₁.weight ≤ d₂) (huP : u + c₁.cUnits + 1 ≤ u₂)
    {done ys : List (List Nat)} (cont : ∀ s' l v, St B K16 (fun _ => True) ((cns, LocP [x] [v]) :: (acc, LstP l) :: (ob, GenK g 0) :: Lw ++ [(16, TabO)]) s' → Parts s'.heap z l (done ++ ys) → (∀ i y, s'.gens[i]? = some y → i < g ∨ y = .finished) → GG w Φ c₁ st (kF (.ok .next)) s') :
    ∀ (zs : List (List Nat)) (ds : List (List Nat)) (gs : GenState) (l : List Value) (v : Option Value) (s : Shared), ds ++ zs = done ++ ys → ds.length + zs.length ≤ 1000 →
      St B K16 (fun _ => True) ((cns, LocP [x] [v]) :: (acc, LstP l) :: (ob, GenK g 0) :: Lw ++ [(16, TabO)]) s → Parts s.heap z l ds → s.gens[g]? = some gs →
      (∀ s'', EvS x0 z g s s'' → GoesG w Φ (gnS nc x0 z ob g d₂ u₂) zs gs (s''.setGen g .running)) →
      GG w Φ (.compLoop (.ListComp (.Name x pe) [⟨.Name x px, iter, [], 0⟩] scope pos) 0 (.ref ob) (.ref acc) cenv) (.ret kF none gd lv c₁ p₁ kp :: st)
        (denote table (.compLoop (.ListComp (.Name x pe) [⟨.Name x px, iter, [], 0⟩] scope pos) 0 (.ref ob) (.ref acc) cenv)) s := by
  have hr₁ := hr.ret kF gd lv c₁ p₁ kp
  have hPk : ∀ a o, B.heap.get? a = some o → K16 a o → PkS nc x0 z ob a o := fun a o e h => ⟨h, .inl (Nat.lt_of_lt_of_le (Heap.lt_size e) hB)⟩
  have ent : ∀ (v : Option Value) (l : List Value), ∀ p ∈ ((cns, LocP [x] [v]) :: (acc, LstP l) :: (ob, GenK g 0) :: Lw : Ledger), ∀ o, PkS nc x0 z ob p.1 o := by
    intro v l p hp o
    simp only [List.mem_cons] at hp
    rcases hp with rfl | rfl | rfl | hp
    · exact ⟨by show @Ne Nat cns 16; omega, .inr (.inr (.inl ⟨hc1, hc2⟩))⟩
    · exact ⟨by show @Ne Nat acc 16; omega, .inr (.inr (.inl ⟨ha1, ha2⟩))⟩
    · exact ⟨by show @Ne Nat ob 16; omega, .inr (.inl rfl)⟩
    · exact ⟨(hLw p hp).2, .inl (hLw p hp).1⟩
  have lim : ∀ {L : Ledger} {s : Shared}, St B K16 (fun _ => True) L s → s.heap.NoLimit := fun S => by
    obtain ⟨mc, hns, hnn⟩ := hlim
    exact ⟨mc, hns.at' fun o e => S.keep _ o e (by show @Ne Nat 2 16; decide), hnn⟩
  intro zs
  induction zs with
  | nil =>
    intro ds gs l v s hds hsz S hP hgs hI
    rw [hiter, compTurn_list1]
    refine GG.onR0 fun H' => GG.bindw hr₁ (wpAny_standAt (GG.assoc ?_))
    obtain ⟨og, hog, hGK⟩ := S.get (a := ob) (P := GenK g 0) (by walk_at "mem")
    refine GG.pyN (P := gnS nc x0 z ob g d₂ u₂) (ys := []) hr₁ ?_ (lim S) ⟨og, hog, hGK⟩ hgs (hI s (.refl ..)) ?_ ?_ (fun _ s' h' hf hk' => ?_) (fun y zs' e => nomatch e)
    · rw [(hq _).1]; omega
    · rw [(hq _).1]; exact hdP
    · rw [(hq _).2]; exact huP
    · have S' : St B K16 (fun _ => True) ((cns, LocP [x] [v]) :: (acc, LstP l) :: (ob, GenK g 0) :: Lw ++ [(16, TabO)]) s' := by
        refine S.comp (s₁ := s.setGen g .running) rfl rfl rfl hf hPk (fun p hp => ?_) S.ord trivial
        rcases List.mem_append.mp hp with h | h
        · exact .inr ⟨hp, fun o _ _ => ent v l p h o⟩
        · exact .inl h
      have S'' : St B K16 (fun _ => True) ((cns, LocP [x] [v]) :: (acc, LstP l) :: (ob, GenK g 0) :: Lw ++ [(16, TabO)]) { s'.setGen g .finished with heap := h' } := (St.regen (G' := fun _ => True) S' (x := (s'.setGen g .finished).gens) trivial).keeps ⟨h', _, rfl, hk'⟩
      refine GG.done .next (cont _ l v S'' ?_ ?_)
      · rw [← hds, List.append_nil]
        refine hP.mono fun D o h1 h2 h3 => hk' _ _ (hf.keep D o h3 ⟨by omega, .inr (.inr (.inr ⟨h1, h2⟩))⟩)
      · intro i y hy
        have hy : (s'.setGen g .finished).gens[i]? = some y := hy
        have hz := hf.gens
        by_cases e : i = g
        · subst e
          have h1 : s'.gens[i]? = some .running := by rw [hz.1.1 i (Nat.le_refl _)]; exact setGen_get_self hgs
          rw [setGen_get_self h1] at hy
          exact .inr (Option.some.inj hy).symm
        · rw [setGen_get_ne e] at hy
          by_cases h : i < g
          · exact .inl h
          · exact .inr (hz.2 i (by show g < i; omega) y hy)
  | cons y zs ih =>
    intro ds gs l v s hds hsz S hP hgs hI
    rw [hiter, compTurn_list1]
    refine GG.onR0 fun H' => GG.bindw hr₁ (wpAny_standAt (GG.assoc ?_))
    obtain ⟨og, hog, hGK⟩ := S.get (a := ob) (P := GenK g 0) (by walk_at "mem")
    refine GG.pyN (P := gnS nc x0 z ob g d₂ u₂) (ys := y :: zs) hr₁ ?_ (lim S) ⟨og, hog, hGK⟩ hgs (hI s (.refl ..)) ?_ ?_ (fun e => nomatch e) (fun y' zs' e s' vv gs' hy hev _ => ?_)
    · rw [(hq _).1]; omega
    · rw [(hq _).1]; exact hdP
    · rw [(hq _).2]; exact huP
    injection e with e1 e2
    subst e1 e2
    obtain ⟨D, vals, rfl, hna, hD, hf⟩ := hy
    have hrun : s'.gens[g]? = some .running := by rw [hf.gens.1 g (Nat.le_refl _)]; exact setGen_get_self hgs
    have S₀ : St B K16 (fun _ => True) ((cns, LocP [x] [v]) :: (acc, LstP l) :: (ob, GenK g 0) :: Lw ++ [(16, TabO)]) s' := by
      refine S.comp (s₁ := s.setGen g .running) rfl rfl rfl hf hPk (fun p hp => ?_) S.ord trivial
      rcases List.mem_append.mp hp with h | h
      · exact .inr ⟨hp, fun o _ _ => ent v l p h o⟩
      · exact .inl (.tail _ h)
    have S₁ : St B K16 (fun _ => True) ((cns, LocP [x] [v]) :: (acc, LstP l) :: (ob, GenK g 0) :: Lw ++ [(16, TabO)]) (s'.setGen g gs') := St.regen (G' := fun _ => True) S₀ (x := (s'.setGen g gs').gens) trivial
    have hP₁ : Parts (s'.setGen g gs').heap z l ds := hP.mono fun D o h1 h2 h3 => hf.keep D o h3 ⟨by omega, .inr (.inr (.inr ⟨h1, h2⟩))⟩
    obtain ⟨oD, hoD, nD, eD⟩ := hf.get (a := D) (P := LstP vals) (.head _)
    have hDl : (s'.setGen g gs').heap.PlainList D vals.toArray := ⟨nD, eD ▸ hoD⟩
    show GG w Φ _ _ ((letOwnedTupleGo (.Name x px) (.ref ob) (.ref D) >>= _).wrap _ _ _ _) (s'.setGen g gs')
    refine GG.bindw hr₁ (wpAny_of_eq (a := ()) rfl ?_)
    subst hloc
    refine GG.bindw hr₁ (wpAny_assign_Name (stlH (vs' := [some (.ref D)]) S₁ (.head) .head (by simp) (fun h₂ t₂ S₂ hsb₂ => ?_) hk hx))
    have S₂ : St B K16 (fun _ => True) ((cenv.locals, LocP [x] [some (.ref D)]) :: (acc, LstP l) :: (ob, GenK g 0) :: Lw ++ [(16, TabO)]) { s'.setGen g gs' with heap := h₂, toks := t₂ } := S₂
    have E₂ : EvS x0 z g (s'.setGen g gs') { s'.setGen g gs' with heap := h₂, toks := t₂ } := (EvS.refl ..).turn hsb₂ (let ⟨o, h, _⟩ := S₂.get (a := cenv.locals) (P := LocP [x] [some (.ref D)]) (.head _); ⟨o, h⟩) hc1 hc2 rfl rfl rfl
    have hne : ∀ (b : Nat), z + 4 ≤ b → b ≠ cenv.locals ∧ b ≠ acc := fun b hb => ⟨by omega, by omega⟩
    have hP₂ : Parts h₂ z l ds := hP₁.mono fun D o h1 _ h3 => (hsb₂.2 D (hne D h1).1).trans h3
    have hD₂ : h₂.PlainList D vals.toArray := by
      obtain ⟨n, e⟩ := hDl
      exact ⟨n, (hsb₂.2 D (hne D hD).1).trans e⟩
    refine GG.bindw hr₁ ?_
    refine wpAny_bind (ldl (v := .ref D) S₂ (.head _) .head ?_ hk hx hdbg)
    have hlen := hP.len
    refine wpAny_bind (wpAny_list_append_plain (S₂.lst (a := acc) (by walk_at "mem")) (fun h₃ hp hsb₃ => wpAny_pure ?_) (by simp only [List.size_toArray, sizeLine_eq, hlen]; simp at hsz; omega))
    have hp' : h₃.PlainList acc (l ++ [Value.ref D]).toArray := by
      obtain ⟨n, e⟩ := hp
      exact ⟨n, by rw [e]; simp⟩
    have S₃ : St B K16 (fun _ => True) ((cenv.locals, LocP [x] [some (.ref D)]) :: (acc, LstP (l ++ [.ref D])) :: (ob, GenK g 0) :: Lw ++ [(16, TabO)]) { s'.setGen g gs' with heap := h₃, toks := t₂ } :=
      S₂.upd (s' := { s'.setGen g gs' with heap := h₃, toks := t₂ }) (a := acc) (.tail .head) hsb₃ (lst_of hp') rfl rfl rfl
    have E₃ : EvS x0 z g (s'.setGen g gs') { s'.setGen g gs' with heap := h₃, toks := t₂ } := E₂.turn (s₂ := { s'.setGen g gs' with heap := h₃, toks := t₂ }) hsb₃ (let ⟨n, e⟩ := hp'; ⟨_, e⟩) ha1 ha2 rfl rfl rfl
    refine GG.again rfl (ih (ds ++ [y]) gs' (l ++ [.ref D]) (some (.ref D)) _ (by rw [List.append_assoc]; exact hds) (by simp at hsz ⊢; omega) S₃ ?_ (setGen_get_self (gs := .running) hrun) fun s'' hE => hev _ ((E₃.trans hE).wake hrun))
    have hD₃ : h₃.PlainList D vals.toArray := by
      obtain ⟨n, e⟩ := hD₂
      exact ⟨n, (hsb₃.2 D (hne D hD).2).trans e⟩
    exact (hP₂.mono fun D o h1 _ h3 => (hsb₃.2 D (hne D h1).2).trans h3).snoc hD hD₃ hna
end
end Mine
end

section
open PySem PySem.W PyProof.Rows
set_option Elab.async false
namespace Mine
local macro_rules | `(tactic| walk_at "mem") => `(tactic| repeat (first | exact List.Mem.head _ | apply List.Mem.tail))
local macro_rules | `(tactic| walk_at "lg") => `(tactic| repeat (first | (with_reducible exact LG.head) | apply LG.tail))
local macro_rules | `(tactic| walk_at "upd") => `(tactic| repeat (first | exact Upd.head | apply Upd.tail))
local macro_rules | `(tactic| walk_at "ls") => `(tactic| repeat (first | (with_reducible exact LS.head) | apply LS.tail))

/-- the heap without the code table -/
def hid16 (h : Heap) : Heap := hideAll h [16]
theorem hid16_get {h : Heap} {a : Nat} {o : Obj} (e : h.get? a = some o) (hn : a ≠ 16) : (hid16 h).get? a = some o := hideAll_get _ e (by simpa using hn)
theorem hid16_of {h : Heap} {a : Nat} {o : Obj} (e : (hid16 h).get? a = some o) : h.get? a = some o ∧ a ≠ 16 := ⟨of_hideAll _ e, fun q => by subst q; rw [show (hid16 h).get? 16 = none from hideAll_none _ (by simp)] at e; cases e⟩
theorem ns16 {h : Heap} {a : Nat} {m : Str → Option Value} (x : h.Ns a m) (hn : a ≠ 16) : (hid16 h).Ns a m := x.at' fun _ e => hid16_get e hn
theorem names16 {h : Heap} (x : Names h) : Names (hid16 h) :=
  ⟨let ⟨mc, a, b⟩ := x.lim; ⟨mc, ns16 a (by decide), b⟩, let ⟨mg, mb, a, b, c⟩ := x.ex; ⟨mg, mb, ns16 a (by decide), ns16 b (by decide), c⟩⟩
theorem plain16 {h : Heap} {l : Addr} {its : Array Value} (t : ∃ ps, h.get? 16 = some (tabObj ps)) (x : h.PlainList l its) : (hid16 h).PlainList l its := by
  obtain ⟨n, e⟩ := x
  obtain ⟨ps, t⟩ := t
  exact ⟨n, hid16_get e fun q => by subst q; rw [t] at e; cases e⟩
theorem dict16 {w : World} {h : Heap} {d : Addr} {kvs : List (Int × Value)} (t : ∃ ps, h.get? 16 = some (tabObj ps)) (x : h.DictOf (intKind pw w) d kvs) : (hid16 h).DictOf (intKind pw w) d kvs := by
  obtain ⟨o, es, ep, e, h1, h2, h3⟩ := x
  obtain ⟨ps, t⟩ := t
  have hn : (d : Nat) ≠ 16 := by
    rintro rfl
    rw [t] at e
    cases e
    cases h2
  exact ⟨o, es, ep, hid16_get e hn, h1, h2, h3⟩
theorem edges16 {w : World} {h : Heap} {d : Addr} {n : Nat} {E : Nat → List Nat} (t : ∃ ps, h.get? 16 = some (tabObj ps)) (x : EdgesOk w h d n E) : EdgesOk w (hid16 h) d n E := by
  obtain ⟨kvs, a, b, c⟩ := x
  exact ⟨kvs, dict16 t a, b, fun v hv => let ⟨l, vals, e, f, g⟩ := c v hv; ⟨l, vals, e, plain16 t f, g⟩⟩
theorem codeHd16 {h : Heap} {c P : Nat} (x : CodeHd h c P) (hn : c ≠ 16) : CodeHd (hid16 h) c P := by
  obtain ⟨o, vs, file, tf, flags, tg, inF, text, tt, e, r⟩ := x
  exact ⟨o, vs, file, tf, flags, tg, inF, text, tt, hid16_get e hn, r⟩
theorem bat16 {h : Heap} {mg : Str → Option Value} (x : h.BuiltinsAt mg 16) : (hid16 h).BuiltinsAt mg 16 := by
  obtain ⟨bm, o, a, b, c, d, e, r⟩ := x
  exact ⟨bm, o, a, b, c, d, hid16_get e d, r⟩

def lawB : List Stmt := fBody (stmtAt 7)
def lawFd (pm cd doc : Value) : FuncData := Calls.docDef "law" (fArgs (stmtAt 7)) (fBody (stmtAt 7)) (fScope (stmtAt 7)) pm cd doc
def lawEnv (pm cd doc : Value) (L : Addr) : Env := callEnvC (lawFd pm cd doc) L 80
theorem law_cells (L : Addr) (pm cd doc : Value) : (lawEnv pm cd doc L).cells = [(("levels" : Str), L + 9), (("place" : Str), L + 8), (("parts" : Str), L + 7), (("part" : Str), L + 6), (("reached" : Str), L + 5), (("number" : Str), L + 4), (("k" : Str), L + 3), (("edges" : Str), L + 2), (("size" : Str), L + 1)] := rfl
abbrev ksL : List Str := ["script", "order", "batches", "below"]

def lcP : Expr := match lawB.getD 6 (.Pass default) with
  | .Assign _ v _ => v
  | _ => default
end Mine
end

section
open PySem PySem.W PyProof.Rows
set_option Elab.async false
namespace Mine
local macro_rules | `(tactic| walk_at "mem") => `(tactic| repeat (first | exact List.Mem.head _ | apply List.Mem.tail))
local macro_rules | `(tactic| walk_at "lg") => `(tactic| repeat (first | (with_reducible exact LG.head) | apply LG.tail))
local macro_rules | `(tactic| walk_at "upd") => `(tactic| repeat (first | exact Upd.head | apply Upd.tail))
local macro_rules | `(tactic| walk_at "ls") => `(tactic| repeat (first | (with_reducible exact LS.head) | apply LS.tail))

def lcScopeP : Scope := match lcP with | .ListComp _ _ s _ => s | _ => default
def lcGensP : List Comprehension := match lcP with | .ListComp _ g _ _ => g | _ => []
def lcPosP : Pos := match lcP with | .ListComp _ _ _ p => p | _ => default
def lcIterP : Expr := match lcGensP with | [⟨_, i, _, _⟩] => i | _ => default
def lcPe : Pos := match lcP with | .ListComp (.Name _ p) _ _ _ => p | _ => default
def lcPx : Pos := match lcGensP with | [⟨.Name _ p, _, _, _⟩] => p | _ => default
theorem lcP_is : lcP = .ListComp (.Name "part" lcPe) [⟨.Name "part" lcPx, lcIterP, [], 0⟩] lcScopeP lcPosP := rfl
def lcPn : Pos := match lawB.getD 6 (.Pass default) with | .Assign [.Name _ p] _ _ => p | _ => default
def lcPs : Pos := match lawB.getD 6 (.Pass default) with | .Assign _ _ p => p | _ => default
theorem law6_is : lawB.getD 6 (.Pass default) = .Assign [.Name "parts" lcPn] lcP lcPs := rfl

section
variable {w : World} {Φ : Outcome → Shared → Prop} {c : Code} {st : List Frame} {d u : Nat} {s : Shared}
theorem Upd.app {l l' : Ledger} {a : Addr} {P P' : OP} (u : Upd l a P P' l') : ∀ L : Ledger, Upd (L ++ l) a P P' (L ++ l')
  | [] => u
  | _ :: L => .tail (u.app L)
theorem Upd.appL {l l' : Ledger} {a : Addr} {P P' : OP} (u : Upd l a P P' l') (R : Ledger) : Upd (l ++ R) a P P' (l' ++ R) := by
  induction u with
  | head => exact .head
  | tail _ ih => exact .tail ih
theorem comp_start {d u : Nat} {st : List Frame} {ob g : Nat} {acc : Value} {cenv : Env} (hr : Rm d u st) (hgen : s.heap.IsGen ob g) (loop : GG w Φ (.compLoop lcP 0 (.ref ob) acc cenv) st (denote table (.compLoop lcP 0 (.ref ob) acc cenv)) s) :
    GG w Φ (.compStart lcP 0 (.ref ob) acc cenv) st (denote table (.compStart lcP 0 (.ref ob) acc cenv)) s := by
  show GG w Φ _ _ ((compStart lcP 0 (.ref ob) acc cenv).onRaise _) s
  refine GG.onR0 fun H' => ?_
  unfold compStart
  show GG w Φ _ _ ((ask >>= fun x => if x.params.followText "comprehension-iter-twice" = true then _ else _).wrap _ H' id id) s
  refine GG.bindw hr (wpAny_askSetting ?_)
  split
  · exact GG.again rfl loop
  · show GG w Φ _ _ ((rule "comprehension.iter-twice" >>= fun _ => standAt _ >>= fun _ => pyIter (.ref ob) >>= fun x => PySem.again (.compLoop lcP 0 x acc _)).wrap _ H' id id) s
    refine GG.bindw hr (wpAny_rule (GG.bindw hr (wpAny_standAt (GG.bindw hr (wpAny_pyIter_gen hgen ?_)))))
    exact GG.again rfl loop
theorem law_parts (hr : Rm d u st) {pmL cdL docL pm doc : Value} {Lf lo dE f n : Nat} {E : Nat → List Nat} {ov : List Value} {ord : List Nat} {mg : Str → Option Value} {B : Shared} {Lw : Ledger} {Lw' : Value → Ledger} {vs : List (Option Value)} {ys : List (List Nat)} {σ1 : Sx}
    {K : Flow → Sem PySem.Fin} {H : Value → Sem PySem.Fin} {lv : List Value → List Value}
    (hd : d + c.weight + f + 2 ≤ 840) (hu : u + c.cUnits + 5 * (f + 1) + 10 ≤ 8990) (S : St B K16 (fun x => x = #[]) (Lw ++ [(16, Tab0)]) s) (hBs : B.heap.objs.size ≤ s.heap.objs.size) (hlim : B.heap.NoLimit)
    (hN : Names s.heap) (hg : s.heap.Ns mainGlobals mg) (hbat : s.heap.BuiltinsAt mg 16) (hch : CodeHd s.heap 20 16) (hfn : FnOk s.heap 21 (sccFd pm (.ref 20) doc)) (hE : EdgesOk w s.heap dE n E) (hlo : s.heap.PlainList lo ov.toArray) (hov : NA ov ord)
    (hrun : outerS (visitS n E f) ord ⟨[], [], [], []⟩ = some (ys, σ1)) (hys : ys.length ≤ 1000) (hloc : (Lf, LocP ksL vs) ∈ Lw ++ [(16, Tab0)]) (hord : LG ksL vs "order" (.ref lo)) (hcE : (Lf + 2, CellP (some (.ref dE))) ∈ Lw ++ [(16, Tab0)]) (hcP : ∀ v, Upd Lw (Lf + 7) (CellP none) (CellP (some v)) (Lw' v))
    (cont : ∀ s' acc z l, B.heap.objs.size ≤ acc → St B K16 (fun _ => True) ((acc, LstP l) :: Lw' (.ref acc) ++ [(16, TabO)]) s' → Parts s'.heap z l ys → (∀ (i : Nat) (y : GenState), s'.gens[i]? = some y → y = .finished) → GG w Φ c st (K .next) s') :
    GG w Φ c st ((exec (lawB.getD 6 (.Pass default)) (lawEnv pmL cdL docL Lf)).wrap K H id lv) s := by
  rw [law6_is, exec_Assign_Name _ _ _ _ _ (by rfl)]
  refine GG.bindw hr (wpAny_standAt (GG.assoc ?_))
  show GG w Φ c st ((comprehension lcP lcScopeP (lawEnv pmL cdL docL Lf) (firstIterPos lcGensP lcPosP) (newList []) false (eval lcIterP (lawEnv pmL cdL docL Lf))).wrap _ H id lv) s
  unfold comprehension
  obtain ⟨mg', mb, hg', hb, g1, g2, g3, g4, g5, gm, b1, b2, b3, b4, b5, b6, b7, b8⟩ := hN.ex
  refine GG.bindw hr (call2 (lglob hg' g1 (ldl S hloc hord (ldc S rfl hcE ⟨?_, ?_⟩))))
  · obtain ⟨o, h1, h2, _⟩ := hfn
    exact ⟨o, _, h1, h2⟩
  refine scc_call hfn (by show d + c.weight < 900; omega) hN.lim fun s₁ L ob hL hob hgen S₁ => ?_
  refine GG.bindw hr (wpAny_standAt (GG.bindw hr (wpAny_of_eq (a := .ref ob) rfl (GG.bindw hr (wpAny_holding (wpAny_pyIter_gen hgen ?_))))))
  have hg0 : s.gens = #[] := S.gens
  have hx0 : ob < s₁.heap.objs.size := S₁.lt (p := (ob, _)) (.head _)
  show GG w Φ c st ((newList [] >>= _).wrap _ H id lv) s₁
  refine GG.bindw hr (wpAny_newList ?_ (by simp))
  refine GG.bindw hr (wpAny_of_eq (a := []) rfl ?_)
  refine GG.bindw hr (wpAny_newFunctionEnv (by decide) (by simp) (fun h₃ hns hsb => ?_) rfl)
  dsimp only at hns hsb ⊢
  generalize hs₃ : ({ s₁ with heap := h₃, toks := s₁.toks + ([] : List (Str × Value)).length } : Shared) = s₃
  have k13 : ∀ a o, s₁.heap.get? a = some o → s₃.heap.get? a = some o := fun a o e => by
    subst hs₃
    have hlt := Heap.lt_size e
    exact (hsb.2 a (by rw [Heap.size_push]; exact Nat.ne_of_lt (Nat.lt_succ_of_lt hlt))).trans (Heap.get?_push_of_some _ (Heap.get?_push_of_some _ e))
  have hz₃ : s₃.heap.objs.size = s₁.heap.objs.size + 2 := by
    subst hs₃
    have := hsb.1
    rw [Heap.size_push, Heap.size_push] at this
    exact this
  have hcn : (s₁.heap.push { cls := .type "list", data := .seq #[] }).objs.size = s₁.heap.objs.size + 1 := Heap.size_push ..
  have hacc₀ : (s₁.heap.push { cls := .type "list", data := .seq #[] }).get? s₁.heap.objs.size = some { cls := .type "list", data := .seq #[] } := Heap.get?_push_size _ rfl
  have haccP : s₃.heap.PlainList s₁.heap.objs.size #[] := by
    subst hs₃
    exact ⟨0, (hsb.2 _ (by rw [hcn]; exact Nat.ne_of_lt (Nat.lt_succ_self _))).trans (Heap.get?_push_of_some _ hacc₀)⟩
  have S₂ := (S.called S₁ (G₂ := fun _ => True) (fun p hp => by
    rcases List.mem_cons.mp hp with rfl | hp
    · show s.heap.objs.size ≤ ob; omega
    · rw [← hL]; exact (sccL_mem hp).1) trivial).alloc (o := { cls := .type "list", data := .seq ([] : List Value).toArray }) (P := LstP []) rfl ⟨0, rfl⟩
  have S₃ : St B K16 (fun _ => True) ((s₁.heap.objs.size + 1, LocP ["part"] [none]) :: (s₁.heap.objs.size, LstP []) :: (ob, GenK s.gens.size 0) :: Lw ++ [(16, TabO)]) s₃ := by
    have hnsP : ∃ o, s₃.heap.get? (s₁.heap.objs.size + 1) = some o ∧ LocP ["part"] [none] o := by
      subst hs₃
      obtain ⟨o, ho, hN⟩ := ns_iff.mp hns
      exact ⟨o, by rw [← hcn]; exact ho, _, hN, rfl⟩
    obtain ⟨oc, hoc, hPc⟩ := hnsP
    have S₃ := S₂.new (s' := s₃) (a := s₁.heap.objs.size + 1) (by
      subst hs₃
      refine ⟨h₃, _, rfl, fun a o e => (hsb.2 a ?_).trans (Heap.get?_push_of_some _ e)⟩
      exact Nat.ne_of_lt (Heap.lt_size e)) (by show (s₁.heap.push _).objs.size ≤ _; rw [Heap.size_push]; exact Nat.le_refl _) hoc hPc
    have S₄ := S₃.drop (L' := (s₁.heap.objs.size + 1, LocP ["part"] [none]) :: (s₁.heap.objs.size, LstP []) :: (ob, GenK s.gens.size 0) :: (Lw ++ [(16, Tab0)])) (.cons_cons _ (.cons_cons _ (.cons_cons _ (List.sublist_append_right _ _))))
    exact S₄.weak (a := 16) (P := Tab0) (P' := TabO) (.tail (.tail (.tail (Upd.head.app Lw)))) fun o h => ⟨_, h⟩
  rw [hcn] at hns ⊢
  generalize hacc : s₁.heap.objs.size = acc at *
  refine GG.held fun lv' => GG.attw fun gd' lv'' => GG.held fun lv3 => ?_
  show GG w Φ c st (.call (.compStart lcP 0 (.ref ob) (.ref acc) (compEnvC lcScopeP [] (acc + 1) (lawEnv pmL cdL docL Lf))) none (gd' false) (lv3 []) _) s₃
  refine GG.call fun p => comp_start (hr.ret _ _ _ _ _ _) (hgen.keeps k13) ?_
  rw [lcP_is]
  subst hL
  have hnc : 16 < s.heap.objs.size := by
    obtain ⟨o, vs, _, _, _, _, _, _, _, e, _⟩ := hch
    have : @LT.lt Nat _ 20 s.heap.objs.size := Heap.lt_size e
    omega
  have h16s : ∃ ps, s.heap.get? 16 = some (tabObj ps) := by
    obtain ⟨o, ho, rfl⟩ := S.get (a := 16) (P := Tab0) (List.mem_append_right _ (.head _))
    exact ⟨_, ho⟩
  let F : SF w s.heap.objs.size :=
    { hC := hid16 s.heap, n := n, E := E, dE := dE, lo := lo, ov := ov, ord := ord, mg := mg
      st := fun a o e => ⟨Heap.lt_size (hid16_of e).1, (hid16_of e).2⟩
      names := names16 hN, g := ns16 hg (by decide), bat := bat16 hbat, ch := codeHd16 hch (by decide), edges := edges16 h16s hE, lst := plain16 h16s hlo, na := hov }
  refine drink (nc := s.heap.objs.size) (x0 := acc) (z := acc + 2) (ob := ob) (g := s.gens.size) (d₂ := d + c.weight) (u₂ := u + c.cUnits + 1) (acc := acc) (cns := acc + 1) (B := B) (Lw := Lw) (done := []) (ys := ys) hr hBs hnc hob hx0 (Nat.le_refl _) (by omega) (by omega) (by omega) ?_ rfl hlim rfl rfl rfl (fun _ => rfl) (fun _ => ⟨rfl, rfl⟩) (by omega) (Nat.le_refl _) (Nat.le_refl _) ?_ ys [] (.fresh (.func (fBody (stmtAt 1)) (sccEnv pm (.ref 20) doc s.heap.objs.size))) [] none s₃ rfl (by simpa using hys) S₃ .nil ?_ ?_
  · intro p hp
    refine ⟨S.lt (List.mem_append_left _ hp), ?_⟩
    have := S.ord
    rw [List.map_append, List.pairwise_append] at this
    have h := this.2.2 p.1 (List.mem_map_of_mem hp) 16 (by simp)
    exact Nat.ne_of_gt h
  · intro s' l v S' hP hgens
    show GG w Φ c st ((holding [.ref acc] (comprehension.letGo (compEnvC lcScopeP [] (acc + 1) (lawEnv pmL cdL docL Lf)) _ _) >>= fun _ => (pure (Value.ref acc) : Sem Value)).wrap _ H id lv') s'
    obtain ⟨oc, hoc, mc, hNc, _⟩ := S'.get (a := acc + 1) (P := LocP ["part"] [v]) (.head _)
    refine GG.bindw hr (wpAny_holding (wpAny_comp_letGo (cenv := compEnvC lcScopeP [] (acc + 1) (lawEnv pmL cdL docL Lf)) rfl _ s' mc (fun x hx _ => by have h1 : x ∈ [(("part" : Str), NameKind.local)] := hx; obtain rfl := List.mem_singleton.mp h1; rfl) (ns_iff.mpr ⟨oc, hoc, hNc⟩) fun h' m' hn' hs' => ?_))
    show GG w Φ c st ((standAt lcPn >>= fun _ => bindName (lawEnv pmL cdL docL Lf) "parts" (.ref acc) >>= fun _ => (pure Flow.next : Sem Flow)).wrap K H id lv) { s' with heap := h' }
    have S₅ : St B K16 (fun _ => True) ((acc, LstP l) :: Lw ++ [(16, TabO)]) { s' with heap := h' } := by
      refine (S'.upd (s' := { s' with heap := h' }) (P' := fun _ => True) .head hs' ?_ rfl rfl rfl).drop (.cons _ (.cons_cons _ (.cons _ (List.Sublist.refl _))))
      obtain ⟨o, ho, _⟩ := ns_iff.mp hn'
      exact ⟨o, ho, trivial⟩
    have uP : Upd ((acc, LstP l) :: Lw ++ [(16, TabO)]) (Lf + 7) (CellP none) (CellP (some (.ref acc))) ((acc, LstP l) :: Lw' (.ref acc) ++ [(16, TabO)]) := .tail ((hcP (.ref acc)).appL _)
    have hPm : ∀ {h₂ : Heap} {a : Nat}, a < acc + 2 → Heap.SameBut a h' h₂ → Parts h' (acc + 2) l ys → Parts h₂ (acc + 2) l ys := fun {h₂ a} h1 h2 h3 => h3.mono fun D o q _ e => (h2.2 D (by show ¬ @Eq Nat D a; have q : @LE.le Nat _ (acc + 2 + 4) D := q; omega)).trans e
    have hP₅ : Parts h' (acc + 2) l ys := hP.mono fun D o q _ e => (hs'.2 D (by show ¬ @Eq Nat D (acc + 1); have q : @LE.le Nat _ (acc + 2 + 4) D := q; omega)).trans e
    refine GG.bindw hr (wpAny_standAt (GG.bindw hr (wpAny_bindName ?_)))
    obtain ⟨o, ho, hPo⟩ := S₅.get uP.mem
    have hlt7 : Lf + 7 < s.heap.objs.size := S.lt (List.mem_append_left _ (hcP (.ref acc)).mem)
    refine wpAny_storeName_cell (env := lawEnv pmL cdL docL Lf) rfl rfl (c := Lf + 7) rfl ⟨o, ho, hPo⟩ fun h₂ hc' hs₂ => ?_
    refine cont { s' with heap := h₂ } acc (acc + 2) l (by omega) ?_ (hPm (by omega) hs₂ hP₅) fun i y hy => (hgens i y hy).elim (fun q => ?_) id
    · obtain ⟨o', ho', hP'⟩ := hc'
      exact S₅.upd (s' := { s' with heap := h₂ }) uP hs₂ ⟨o', ho', hP'⟩ rfl rfl rfl
    · rw [hg0] at q; simp at q
  · subst hs₃
    show s₁.gens[s.gens.size]? = _
    have : s₁.gens = _ := S₁.gens
    rw [this]; simp
  · intro s'' ev
    have kEv : ∀ (a : Nat) o, a < acc → s₁.heap.get? a = some o → s''.heap.get? a = some o := fun a o h e => ev.keep a o (k13 a o e) (by omega)
    have kS : ∀ (a : Nat) o, s.heap.get? a = some o → s''.heap.get? a = some o := fun a o e => kEv a o (by have : @LT.lt Nat _ a s.heap.objs.size := Heap.lt_size e; omega) (S₁.keep a o e trivial)
    refine Cn.sg (fs := []) (scc_ok F (ev.size.trans hz₃) hnc hob hx0 (by omega) (by omega) (by omega) (fun a o e => kS a o (hid16_of e).1) ?_ ?_ ?_ ?_ ?_ hrun)
    · intro p hp
      obtain ⟨o, ho, hP⟩ := S₁.led p (.tail _ hp)
      refine ⟨o, kEv _ o ?_ ho, hP⟩
      have h : @LE.le Nat _ p.1 (s.heap.objs.size + 6) := (sccL_mem hp).2
      exact Nat.lt_of_le_of_lt h (by omega)
    · obtain ⟨o, ho, _⟩ := S₁.get (a := ob) (P := GenK s.gens.size 0) (.head _)
      exact ⟨o, kEv _ o hx0 ho⟩
    · obtain ⟨o, ho, hP⟩ := S.get (a := 16) (P := Tab0) (List.mem_append_right _ (.head _))
      exact ⟨o, kS _ o ho, hP⟩
    · rw [setGen_size]
      have e := ev.gens s.gens.size (Nat.le_refl _)
      have e2 : s₃.gens[s.gens.size]? = some (.fresh (.func (fBody (stmtAt 1)) (sccEnv pm (.ref 20) doc s.heap.objs.size))) := by
        subst hs₃
        show s₁.gens[s.gens.size]? = _
        have : s₁.gens = _ := S₁.gens
        rw [this]; simp
      rw [e2] at e
      exact (Array.getElem?_eq_some_iff.mp e).1
    · intro i hi y hy
      rw [setGen_get_ne (by omega), ev.gens i (Nat.le_of_lt hi)] at hy
      subst hs₃
      have hy : s₁.gens[i]? = some y := hy
      have : s₁.gens = _ := S₁.gens
      rw [this, Array.getElem?_push, if_neg (by omega)] at hy
      have := (Array.getElem?_eq_some_iff.mp hy).1
      omega
end
end Mine
end

section
open PySem PySem.W PyProof.Rows
set_option Elab.async false
set_option maxRecDepth 100000
namespace Mine
local macro_rules | `(tactic| walk_at "mem") => `(tactic| repeat (first | exact List.Mem.head _ | apply List.Mem.tail))
local macro_rules | `(tactic| walk_at "lg") => `(tactic| repeat (first | (with_reducible exact LG.head) | apply LG.tail))
local macro_rules | `(tactic| walk_at "upd") => `(tactic| repeat (first | exact Upd.head | apply Upd.tail))
local macro_rules | `(tactic| walk_at "ls") => `(tactic| repeat (first | (with_reducible exact LS.head) | apply LS.tail))

/-- what law reads of the script -/
def atN (ns : List Int) (i : Nat) (d : Int) : Int := if (i : Int) < ns.length then ns.getD i 0 else d
def szN (ns : List Int) : Nat := 1 + (atN ns 0 4 % 7).toNat
def numN (ns : List Int) (k : Nat) : Nat := (atN ns (1 + k) ((5 * k + 3 : Nat) : Int) % 10000).toNat
def eN (ns : List Int) (k : Nat) : List Nat := (List.range (numN ns k % 4)).map fun j => numN ns k / 4 / szN ns ^ j % szN ns
def insN (ns : List Int) (k : Nat) : Nat := (atN ns (8 + k) (k : Int) % ((k + 1 : Nat) : Int)).toNat
theorem szN_pos (ns : List Int) : 1 ≤ szN ns := by unfold szN; omega
theorem szN_le (ns : List Int) : szN ns ≤ 7 := by
  unfold szN
  have := Int.emod_lt_of_pos (atN ns 0 4) (show (0 : Int) < 7 by decide)
  omega
theorem eN_lt (ns : List Int) (k : Nat) : ∀ x ∈ eN ns k, x < szN ns := by
  intro x hx
  obtain ⟨j, _, rfl⟩ := List.mem_map.mp hx
  exact Nat.mod_lt _ (szN_pos ns)
theorem insN_le (ns : List Int) (k : Nat) : insN ns k ≤ k := by
  unfold insN
  have := Int.emod_lt_of_pos (atN ns (8 + k) (k : Int)) (show (0 : Int) < ((k + 1 : Nat) : Int) by omega)
  omega

/-- law's frame with its cells -/
def lawL (Lf : Addr) (c9 c8 c7 c6 c5 c4 c3 c2 c1 : Option Value) (vs : List (Option Value)) : Ledger :=
  [(Lf + 9, CellP c9), (Lf + 8, CellP c8), (Lf + 7, CellP c7), (Lf + 6, CellP c6), (Lf + 5, CellP c5), (Lf + 4, CellP c4), (Lf + 3, CellP c3), (Lf + 2, CellP c2), (Lf + 1, CellP c1), (Lf, LocP ksL vs)]

/-- what the statements of law find in the heap at its entry -/
structure LawIn (h : Heap) (pmA cdA docA pmR cdR docR : Value) (scr : Addr) (vals : List Value) (ns : List Int) : Prop where
  nm : Names h
  fA : FnOk h 68 (lawAtFd pmA cdA docA)
  fR : FnOk h 75 (lawReachedFd pmR cdR docR)
  sc : h.IsList scr vals.toArray
  nsOk : IntsAre vals ns
  hlen : ns.length ≤ 63
theorem LawIn.keeps {h h' : Heap} {pmA cdA docA pmR cdR docR : Value} {scr : Addr} {vals : List Value} {ns : List Int} (x : LawIn h pmA cdA docA pmR cdR docR scr vals ns) (hk : ∀ b o, h.get? b = some o → h'.get? b = some o) : LawIn h' pmA cdA docA pmR cdR docR scr vals ns :=
  ⟨x.nm.keeps hk, x.fA.keeps hk, x.fR.keeps hk, IsList.keeps x.sc hk, x.nsOk, x.hlen⟩

section
variable {w : World} {A : Around} {E : Value → Shared → Prop} {B : Shared} {s : Shared} {pmL cdL docL pmA cdA docA pmR cdR docR : Value} {Lf scr : Addr} {vals : List Value} {ns : List Int}

theorem at_call {Q : Value → Shared → Prop} {k : Nat} {d : Int} {tk td : Tok} (I : LawIn s.heap pmA cdA docA pmR cdR docR scr vals ns) (hd : A.depth < 900)
    (h : ∀ t s', Keeps s s' → Q (.int (atN ns k d) t) s') : wpAny (model pw w) A (call (.ref 68) [.ref scr, .int (k : Int) tk, .int d td]) Q E s := by
  refine wpAny_call (lawAt_ok I.fA I.nm hd I.sc I.nsOk I.hlen (Int.natCast_nonneg k) fun t s' K => ?_)
  have := h t s' K
  unfold atN at this
  rw [Int.toNat_natCast]
  exact this

theorem law0 {Q : Flow → Shared → Prop} {c9 c8 c7 c6 c5 c4 c3 c2 c1 : Option Value} {vs : List (Option Value)} (S : St B KAll (EqG B) (lawL Lf c9 c8 c7 c6 c5 c4 c3 c2 c1 (some (.ref scr) :: vs)) s) (I : LawIn B.heap pmA cdA docA pmR cdR docR scr vals ns) (hd : A.depth < 800)
    (h : ∀ t s', St B KAll (EqG B) (lawL Lf c9 c8 c7 c6 c5 c4 c3 c2 (some (.int (szN ns : Nat) t)) (some (.ref scr) :: vs)) s' → Q .next s') :
    wpAny (model pw w) A (exec (lawB.getD 0 (.Pass default)) (lawEnv pmL cdL docL Lf)) Q E s := by
  unfold lawL at S h
  have Is := I.keeps S.hk
  obtain ⟨mg, mb, hg, hb, g1, g2, g3, g4, g5, gm, b1, b2, b3, b4, b5, b6, b7, b8⟩ := Is.nm.ex
  refine wpAny_Assign_Name (wpAny_BinOp (wpAny_Constant_int ?_))
  have S₁ := S.tok (s.toks + 1)
  refine wpAny_BinOp (call3 (lglob hg g4 (ldl S₁ (by walk_at "mem") (by walk_at "lg") (wpAny_Constant_int (wpAny_Constant_int ⟨?_, ?_⟩)))))
  · obtain ⟨o, h1, h2, _⟩ := Is.fA
    exact ⟨o, _, h1, h2⟩
  · have S₂ := S₁.tok (s.toks + 1 + 1 + 1)
    refine at_call (k := 0) (d := 4) (I.keeps S₂.hk) (by omega) fun t s₃ K₃ => wpAny_Constant_int ?_
    have S₃ := (S₂.keeps K₃).tok (s₃.toks + 1)
    refine i_mod (b := 7) (by decide) fun t' k' => ?_
    refine n_add (a := 1) fun t₄ k₄ => ?_
    have S₄ := (S₃.tok k').tok k₄
    exact stc S₄ rfl (by walk_at "upd") fun s₅ S₅ => h t₄ s₅ S₅

theorem law1 {Q : Flow → Shared → Prop} {c9 c8 c7 c6 c5 c4 c3 c2 c1 : Option Value} {vs : List (Option Value)} (S : St B KAll (EqG B) (lawL Lf c9 c8 c7 c6 c5 c4 c3 c2 c1 vs) s)
    (h : ∀ dE s', St B KAll (EqG B) ((dE, DctP w []) :: lawL Lf c9 c8 c7 c6 c5 c4 c3 (some (.ref dE)) c1 vs) s' → Q .next s') :
    wpAny (model pw w) A (exec (lawB.getD 1 (.Pass default)) (lawEnv pmL cdL docL Lf)) Q E s := by
  unfold lawL at S h
  refine wpAny_Assign_Name (wpAny_Dict_empty ?_)
  have S₁ := S.alloc (o := { cls := .type "dict", data := .dict #[] }) (P := DctP w []) rfl (by
    obtain ⟨o, ho, hp⟩ := dct_of (w := w) (Heap.DictOf.new (knd := intKind pw w) s.heap)
    rw [show (s.heap.push _).get? s.heap.objs.size = _ from Heap.get?_push_size _ rfl] at ho
    cases ho; exact hp)
  exact stc S₁ rfl (by walk_at "upd") fun s₂ S₂ => h _ s₂ S₂

theorem law3 {Q : Flow → Shared → Prop} {D : Ledger} {c9 c8 c7 c6 c5 c4 c3 c2 c1 : Option Value} {v0 v1 v2 v3 : Option Value} (S : St B KAll (EqG B) (D ++ lawL Lf c9 c8 c7 c6 c5 c4 c3 c2 c1 [v0, v1, v2, v3]) s)
    (h : ∀ lo s', St B KAll (EqG B) ((lo, LstP []) :: D ++ lawL Lf c9 c8 c7 c6 c5 c4 c3 c2 c1 [v0, some (.ref lo), v2, v3]) s' → Q .next s') :
    wpAny (model pw w) A (exec (lawB.getD 3 (.Pass default)) (lawEnv pmL cdL docL Lf)) Q E s := by
  unfold lawL at S h
  refine wpAny_Assign_Name (S_List (wpAny_items_nil ⟨_, _, _, _, S, by simp, fun lo s₁ _ _ S₁ => ?_⟩))
  refine stl S₁ (.tail (Upd.app (l := [_, _, _, _, _, _, _, _, _, _]) (by walk_at "upd") D)) (by walk_at "ls") (by decide) fun s₂ S₂ => h _ s₂ S₂
end
end Mine
end

section
open PySem PySem.W PyProof.Rows
set_option Elab.async false
set_option maxRecDepth 100000
namespace Mine
local macro_rules | `(tactic| walk_at "mem") => `(tactic| repeat (first | exact List.Mem.head _ | apply List.Mem.tail))
local macro_rules | `(tactic| walk_at "lg") => `(tactic| repeat (first | (with_reducible exact LG.head) | apply LG.tail))
local macro_rules | `(tactic| walk_at "upd") => `(tactic| repeat (first | exact Upd.head | apply Upd.tail))
local macro_rules | `(tactic| walk_at "ls") => `(tactic| repeat (first | (with_reducible exact LS.head) | apply LS.tail))

theorem valueAt_cons (x : Int × Value) (xs : List (Int × Value)) (k : Int) : valueAt (x :: xs) k = if x.1 = k then some x.2 else valueAt xs k := by
  by_cases h : x.1 = k <;> simp [valueAt, h]
theorem valueAt_map (k k' : Int) (v : Value) : ∀ kvs : List (Int × Value), valueAt (kvs.map fun kv => if kv.1 = k then (kv.1, v) else kv) k' = if k = k' then (valueAt kvs k').map (fun _ => v) else valueAt kvs k'
  | [] => by by_cases h : k = k' <;> simp [valueAt, h]
  | x :: xs => by
    rw [List.map_cons, valueAt_cons, valueAt_cons, valueAt_map k k' v xs]
    by_cases h1 : x.1 = k <;> by_cases h2 : k = k' <;> by_cases h3 : x.1 = k' <;> simp_all
theorem valueAt_snoc (k k' : Int) (v : Value) : ∀ kvs : List (Int × Value), valueAt (kvs ++ [(k, v)]) k' = match valueAt kvs k' with | some u => some u | none => if k = k' then some v else none
  | [] => by rw [List.nil_append, valueAt_cons]; rfl
  | x :: xs => by
    rw [List.cons_append, valueAt_cons, valueAt_cons, valueAt_snoc k k' v xs]
    by_cases h3 : x.1 = k' <;> simp [h3]
theorem valueAt_stored {kvs : List (Int × Value)} (k k' : Int) (v : Value) : valueAt (stored kvs k v) k' = if k = k' then some v else valueAt kvs k' := by
  unfold stored
  split
  · rename_i h
    have hs : (valueAt kvs k).isSome = true := by rw [← valueAt_any]; exact h
    rw [valueAt_map]
    by_cases hk : k = k'
    · subst hk
      obtain ⟨u, hu⟩ := Option.isSome_iff_exists.mp hs
      simp [hu]
    · simp [hk]
  · rename_i h
    have hs : valueAt kvs k = none := by
      cases e : valueAt kvs k with
      | none => rfl
      | some q => exact absurd (by rw [valueAt_any, e]; rfl) h
    rw [valueAt_snoc]
    by_cases hk : k = k'
    · subst hk; simp [hs]
    · cases valueAt kvs k' <;> simp [hk]
end Mine
end

section
open PySem PySem.W PyProof.Rows
set_option Elab.async false
set_option maxRecDepth 100000
namespace Mine
local macro_rules | `(tactic| walk_at "mem") => `(tactic| repeat (first | exact List.Mem.head _ | apply List.Mem.tail))
local macro_rules | `(tactic| walk_at "lg") => `(tactic| repeat (first | (with_reducible exact LG.head) | apply LG.tail))
local macro_rules | `(tactic| walk_at "upd") => `(tactic| repeat (first | exact Upd.head | apply Upd.tail))
local macro_rules | `(tactic| walk_at "ls") => `(tactic| repeat (first | (with_reducible exact LS.head) | apply LS.tail))

/-- what is let go of stands on in the base -/
theorem St.froze {B : Shared} {L L' : Ledger} {s : Shared} (S : St B KAll (EqG B) L s) (h : L'.Sublist L) :
    ∃ B', Sub B B' ∧ St B' KAll (EqG B') L' s ∧ ∀ a o, s.heap.get? a = some o → (∀ p ∈ L', p.1 ≠ a) → B'.heap.get? a = some o :=
  ⟨hb L' s, (S.drop h).sub, (S.drop h).rebase, fun _ _ e hn => hb_get e hn⟩
theorem St.above {B : Shared} {Pk : Addr → Obj → Prop} {G : Array GenState → Prop} {D L : Ledger} {a : Addr} {P : OP} {s : Shared} (S : St B Pk G (D ++ (a, P) :: L) s) : ∀ p ∈ D ++ L, p.1 ≠ a := fun p hp => by
  have ho := S.ord
  rw [List.map_append, List.map_cons, List.pairwise_append] at ho
  rcases List.mem_append.mp hp with hp | hp
  · exact Nat.ne_of_gt (ho.2.2 p.1 (List.mem_map_of_mem hp) a (.head _))
  · exact Nat.ne_of_lt ((List.pairwise_cons.mp ho.2.1).1 p.1 (List.mem_map_of_mem hp))

/-- a tuple's key -/
abbrev tk (w : World) := tupleKind (intKind pw w)
def zs (xs : List Nat) : List Int := xs.map fun (x : Nat) => (x : Int)
theorem zs_inj {a b : List Nat} (h : zs a = zs b) : a = b := by
  unfold zs at h
  exact (List.map_inj_right fun x y q => Int.ofNat.inj q).mp h
theorem key_of {w : World} {h : Heap} {xs : List Nat} {v : Value} (x : TupV h xs v) : ∃ a, v = .ref a ∧ IsTupleKey (intKind pw w) h (zs xs) a := by
  obtain ⟨l, vals, rfl, ⟨o, ho, n, rfl⟩, p⟩ := x
  refine ⟨l, rfl, _, _, _, ho, rfl, rfl, ?_⟩
  show PySem.ItemsAre _ _ vals
  clear ho
  induction p with
  | nil => exact .nil
  | cons hx _ ih => obtain ⟨t, rfl⟩ := hx; exact .cons (by simp [intKind, Value.isInt]) ih
/-- a dict with tuples for keys -/
def TdP (w : World) (xs : List (List Int × Addr × Value)) : OP := fun o => ∃ es ep, o.ExactDict ∧ o.data = .dict es ep ∧ es.toList = xs.map (entryOfKey (tk w)) ∧ (xs.map (·.1)).Nodup
def KeysIn (w : World) (h : Heap) (xs : List (List Int × Addr × Value)) : Prop := ∀ x ∈ xs, (tk w).is h x.1 x.2.1
theorem IsTupleKey.mono {w : World} {h h' : Heap} {ks : List Int} {a : Addr} (x : IsTupleKey (intKind pw w) h ks a) (hk : ∀ b o, h.get? b = some o → h'.get? b = some o) : IsTupleKey (intKind pw w) h' ks a :=
  let ⟨o, i, n, a, b⟩ := x; ⟨o, i, n, hk _ _ a, b⟩
theorem KeysIn.keeps {w : World} {h h' : Heap} {xs : List (List Int × Addr × Value)} (x : KeysIn w h xs) (hk : ∀ b o, h.get? b = some o → h'.get? b = some o) : KeysIn w h' xs :=
  fun y hy => Mine.IsTupleKey.mono (x y hy) hk

section
variable {w : World} {A : Around} {E : Value → Shared → Prop} {B : Shared} {Pk : Addr → Obj → Prop} {G : Array GenState → Prop} {L L' : Ledger} {s : Shared} {env : Env}

theorem St.td (S : St B Pk G L s) {d : Addr} {xs : List (List Int × Addr × Value)} (h : (d, TdP w xs) ∈ L) (hk : KeysIn w s.heap xs) : s.heap.DictOfH (tk w) d xs := by
  obtain ⟨o, ho, es, ep, h1, h2, h3, h4⟩ := S.get h
  exact ⟨o, es, ep, ho, h1, h2, h3, hk, h4⟩
theorem td_of {h : Heap} {d : Addr} {xs : List (List Int × Addr × Value)} (x : h.DictOfH (tk w) d xs) : ∃ o, h.get? d = some o ∧ TdP w xs o :=
  let ⟨o, es, ep, e, a, b, c, _, f⟩ := x; ⟨o, e, es, ep, a, b, c, f⟩
theorem S_settd {d a : Addr} {xs : List (List Int × Addr × Value)} {k : List Int} {v : Value} {Q : Unit → Shared → Prop} (S : St B Pk G L s) (u : Upd L d (TdP w xs) (TdP w (storedH xs k a v)) L') (hk : KeysIn w s.heap xs) (hkey : IsTupleKey (intKind pw w) s.heap k a)
    (hu : A.units + 10 < cLine) (hsz : xs.length ≤ 2 ^ 20) (h : ∀ s', St B Pk G L' s' → Q () s') : wpAny (model pw w) A (setItem (.ref d) (.ref a) v) Q E s := by
  refine wpAny_setItem_heap (knd := tk w) (by show A.in1.units < cLine; have : A.in1.units ≤ A.units + 3 := (by unfold Around.in1; simp); omega) hkey (S.td u.mem hk) (fun h' hm hs => ?_) (by rw [sizeLine_eq]; omega)
  exact h _ (S.upd (s' := { s with heap := h', toks := s.toks + (tk w).draws k }) u hs (td_of hm) rfl rfl rfl)
end

def prepFd (pm cd doc : Value) : FuncData := Calls.docDef "prepare_sccs" (fArgs (stmtAt 2)) (fBody (stmtAt 2)) (fScope (stmtAt 2)) pm cd doc
theorem prep_bind (a b pm cd doc : Value) : bindArgs (prepFd pm cd doc) ⟨[a, b], []⟩ = pure [(("sccs" : Str), a), (("edges" : Str), b)] := by with_unfolding_all rfl
abbrev ksP : List Str := ["sccs", "edges", "sccsmap", "scc", "scc_frozen", "v", "data", "deps", "x"]

/-- the parts that a part leads to -/
def depsG (prt : Nat → List Nat) (xs : List Nat) : List (List Nat) := xs.foldl (fun acc x => if prt x ∈ acc then acc else acc ++ [prt x]) []
def depsL (E : Nat → List Nat) (prt : Nat → List Nat) (xs : List Nat) : List (List Nat) := depsG prt (xs.flatMap E)
theorem depsG_snoc (prt : Nat → List Nat) (xs : List Nat) (x : Nat) : depsG prt (xs ++ [x]) = if prt x ∈ depsG prt xs then depsG prt xs else depsG prt xs ++ [prt x] := by
  unfold depsG; rw [List.foldl_append]; rfl

/-- what prepare_sccs gives -/
def PrepOk (h : Heap) (d : Addr) (xss : List (List Nat)) (E : Nat → List Nat) (prt : Nat → List Nat) : Prop :=
  (d == sysModules) = false ∧ ∃ es ep, RawD h d es ep ∧ Paired (fun xs (e : DictEntry) => TupV h xs e.key ∧ LsV TupV h (depsL E prt xs) e.val) xss es.toList

theorem paired_get {α β : Type} {F : α → β → Prop} {as : List α} {bs : List β} (p : Paired F as bs) : ∀ {i : Nat} {b : β}, bs[i]? = some b → ∃ a, as[i]? = some a ∧ F a b := by
  induction p with
  | nil => intro i b h; simp at h
  | cons hx _ ih =>
    intro i b h
    cases i with
    | zero => simp at h; subst h; exact ⟨_, rfl, hx⟩
    | succ i => exact ih (by simpa using h)
theorem tup_new {s : Shared} {h' : Heap} {vals : List Value} {xs : List Nat} (hv : NA vals xs) : TupV ({ s with heap := h'.push { cls := .type "tuple", data := .seq vals.toArray } } : Shared).heap xs (.ref h'.objs.size) :=
  ⟨_, vals, rfl, ⟨_, Heap.get?_push_size _ rfl, _, rfl⟩, na_paired hv⟩
theorem flatten_take {α : Type} {xss : List (List α)} {i : Nat} {xs : List α} (h : xss[i]? = some xs) : (xss.take (i + 1)).flatten = (xss.take i).flatten ++ xs := by
  rw [List.take_add_one, h, List.flatten_append]; simp
theorem sub_flatten {α : Type} {xs : List α} : ∀ {xss : List (List α)}, xs ∈ xss → xs.Sublist xss.flatten
  | y :: ys, h => by
    rw [List.flatten_cons]
    rcases List.mem_cons.mp h with rfl | h
    · exact List.sublist_append_left _ _
    · exact (sub_flatten h).trans (List.sublist_append_right _ _)
theorem nodup_parts {α : Type} : ∀ {xss : List (List α)}, xss.flatten.Nodup → (∀ xs ∈ xss, xs ≠ []) → xss.Nodup
  | [], _, _ => .nil
  | xs :: xss, h, hne => by
    rw [List.flatten_cons, List.nodup_append] at h
    refine List.nodup_cons.mpr ⟨fun hm => ?_, nodup_parts h.2.1 fun ys hy => hne ys (.tail _ hy)⟩
    cases xs with
    | nil => exact hne [] (.head _) rfl
    | cons x xs => exact h.2.2 x (.head _) x (List.mem_flatten.mpr ⟨_, hm, .head _⟩) rfl
theorem parts_length {α : Type} : ∀ {xss : List (List α)}, (∀ xs ∈ xss, xs ≠ []) → xss.length ≤ xss.flatten.length
  | [], _ => by simp
  | y :: ys, hne => by
    have h1 := parts_length fun xs hx => hne xs (.tail _ hx)
    have h2 : 1 ≤ y.length := List.length_pos_iff.mpr (hne y (.head _))
    simp only [List.length_cons, List.flatten_cons, List.length_append]
    omega
theorem depsG_length (prt : Nat → List Nat) (xs : List Nat) : (depsG prt xs).length ≤ xs.length := by
  have : ∀ (xs : List Nat) (acc : List (List Nat)), (xs.foldl (fun acc x => if prt x ∈ acc then acc else acc ++ [prt x]) acc).length ≤ acc.length + xs.length := by
    intro xs
    induction xs with
    | nil => intro acc; simp
    | cons x xs ih =>
      intro acc
      rw [List.foldl_cons]
      refine Nat.le_trans (ih _) ?_
      split <;> simp only [List.length_append, List.length_cons, List.length_nil] <;> omega
  simpa [depsG] using this xs []
theorem flatMap_length (E : Nat → List Nat) (hE : ∀ v, (E v).length ≤ 10) : ∀ xs : List Nat, (xs.flatMap E).length ≤ 10 * xs.length
  | [] => by simp
  | x :: xs => by
    have := flatMap_length E hE xs
    have := hE x
    simp only [List.flatMap_cons, List.length_append, List.length_cons]
    omega
/-- the dict's entries so far -/
def PP (h : Heap) (E : Nat → List Nat) (prt : Nat → List Nat) (yss : List (List Nat)) (xs : List (List Int × Addr × Value)) : Prop :=
  Paired (fun ys (x : List Int × Addr × Value) => x.1 = zs ys ∧ TupV h ys (.ref x.2.1) ∧ LsV TupV h (depsL E prt ys) x.2.2) yss xs
theorem PP.keysIn {w : World} {h : Heap} {E : Nat → List Nat} {prt : Nat → List Nat} {yss : List (List Nat)} {xs : List (List Int × Addr × Value)} (x : PP h E prt yss xs) : KeysIn w h xs := by
  unfold PP at x
  induction x with
  | nil => intro y hy; cases hy
  | cons a _ ih =>
    intro y hy
    rcases List.mem_cons.mp hy with rfl | hy
    · obtain ⟨e, t, _⟩ := a
      obtain ⟨b, q, k⟩ := key_of (w := w) t
      cases q
      rw [e]; exact k
    · exact ih y hy
theorem PP.keeps {h h' : Heap} {E : Nat → List Nat} {prt : Nat → List Nat} {yss : List (List Nat)} {xs : List (List Int × Addr × Value)} (x : PP h E prt yss xs) (hk : ∀ b o, h.get? b = some o → h'.get? b = some o) : PP h' E prt yss xs :=
  Mine.Paired.mono x fun _ _ ⟨a, b, c⟩ => ⟨a, stays_nat.tuple _ _ _ _ b hk, stays_nat.tuple.list _ _ _ _ c hk⟩
theorem PP.entries {w : World} {h : Heap} {E : Nat → List Nat} {prt : Nat → List Nat} {yss : List (List Nat)} {xs : List (List Int × Addr × Value)} (x : PP h E prt yss xs) :
    Paired (fun xs (e : DictEntry) => TupV h xs e.key ∧ LsV TupV h (depsL E prt xs) e.val) yss (xs.map (entryOfKey (tk w))) := by
  unfold PP at x
  induction x with
  | nil => exact .nil
  | cons a _ ih => exact .cons ⟨a.2.1, a.2.2⟩ ih
theorem PP.none {h : Heap} {E : Nat → List Nat} {prt : Nat → List Nat} {yss : List (List Nat)} {xs : List (List Int × Addr × Value)} (x : PP h E prt yss xs) {ys : List Nat} (hy : ys ∉ yss) : atKey xs (zs ys) = none := by
  unfold PP at x
  have : ∀ p ∈ xs, p.1 ≠ zs ys := by
    induction x with
    | nil => intro p hp; cases hp
    | cons a _ ih =>
      intro p hp
      rcases List.mem_cons.mp hp with rfl | hp
      · intro e
        rw [a.1] at e
        exact hy (by rw [← zs_inj e]; exact .head _)
      · exact ih (fun h => hy (.tail _ h)) p hp
  unfold atKey
  rw [List.find?_eq_none.mpr fun p hp => by simpa using this p hp]
  rfl
theorem take_snoc {α : Type} {xs : List α} {i : Nat} {x : α} (h : xs[i]? = some x) : xs.take (i + 1) = xs.take i ++ [x] := by rw [List.take_add_one, h]; rfl

/-- sccsmap tells the part's tuple of each place -/
def MapOk (h : Heap) (kvs : List (Int × Value)) (prt : Nat → List Nat) (vs : List Nat) : Prop :=
  kvs.length ≤ vs.length ∧ ∀ x ∈ vs, ∃ tv, valueAt kvs ((x : Nat) : Int) = some tv ∧ TupV h (prt x) tv

theorem prep_ok {w : World} {A : Around} {s : Shared} {pm cd doc : Value} {R : Result → Shared → Prop} {pl dE : Addr} {pv : List Value} {xss : List (List Nat)} {n : Nat} {E : Nat → List Nat} {prt : Nat → List Nat}
    (hf : FnOk s.heap 28 (prepFd pm cd doc)) (hN : Names s.heap) (hh : A.handled = none) (hd : A.depth < 900) (hu : A.units < 9000) (hE : EdgesOk w s.heap dE n E)
    (hpl : s.heap.PlainList pl pv.toArray) (hpv : Paired (NatsV s.heap) xss pv) (hnd : xss.flatten.Nodup) (hne : ∀ xs ∈ xss, xs ≠ []) (hlt : ∀ x ∈ xss.flatten, x < n) (hn : n ≤ 100) (hcl : ∀ v ∈ xss.flatten, ∀ o ∈ E v, o ∈ xss.flatten)
    (hprt : ∀ xs ∈ xss, ∀ v ∈ xs, prt v = xs) (hEl : ∀ v, (E v).length ≤ 10)
    (hR : ∀ d s', Keeps s s' → s.heap.get? d = none → PrepOk s'.heap d xss E prt → R (.ok (.ret (.ref d))) s') :
    codeAny (model pw w) A (.call (.ref 28) ⟨[.ref pl, .ref dE], []⟩) R s := by
  refine call_fn (ks := ksP) (vs := [some (.ref pl), some (.ref dE), none, none, none, none, none, none, none]) hf (by simp only [recursionLimit]; omega) hN.lim rfl (prep_bind _ _ _ _ _) rfl rfl (fun s₁ S => ?_)
  have hh' : (A.deeper (fnEnv (prepFd pm cd doc) s.heap.objs.size 28)).handled = none := hh
  generalize hLf : s.heap.objs.size = Lf at *
  have hd' : (A.deeper (fnEnv (prepFd pm cd doc) Lf 28)).units < 9010 := by rw [Around.deeper_units]; omega
  generalize hA' : A.deeper (fnEnv (prepFd pm cd doc) Lf 28) = A' at *
  show wpAny _ _ (execs (fBody (stmtAt 2)) _) _ _ _
  obtain ⟨mg, mb, hg, hb, g1, g2, g3, g4, g5, gm, b1, b2, b3, b4, b5, b6, b7, b8⟩ := hN.ex
  refine wpAny_execs_cons (wpAny_Assign_Name (wpAny_Dict_empty ?_))
  have S₁ := S.alloc (o := { cls := .type "dict", data := .dict #[] }) (P := DctP w []) rfl (by
    obtain ⟨o, ho, hp⟩ := dct_of (w := w) (Heap.DictOf.new (knd := intKind pw w) s₁.heap)
    rw [show (s₁.heap.push _).get? s₁.heap.objs.size = _ from Heap.get?_push_size _ rfl] at ho
    cases ho; exact hp)
  generalize hsm : s₁.heap.objs.size = sm at *
  refine stl S₁ (by walk_at "upd") (by walk_at "ls") (by decide) fun s₂ S₂ => ?_
  refine wpAny_execs_cons (wpAny_For (ldl S₂ (by walk_at "mem") (by walk_at "lg") (S_iter S₂ (PlainList.keeps hpl S₂.hk) fun it s₃ _ K₃ S₃ => ?_)))
  have hpl' : xss.length = pv.length := hpv.length
  refine forB (vals := pv) (it := it) hh' (fun i B D L => D = [] ∧ Sub s B ∧ ∃ kvs o1 o2 o3, L = [(sm, DctP w kvs), (Lf, LocP ksP [some (.ref pl), some (.ref dE), some (.ref sm), o1, o2, o3, none, none, none])] ∧ MapOk B.heap kvs prt (xss.take i).flatten)
    ?_ ?_ ?_ (D := []) ⟨rfl, Sub.refl s, [], none, none, none, rfl, by simp [MapOk]⟩ S₃
  · rintro i B D L s₄ ⟨rfl, hS, _⟩ S₄
    exact PlainList.keeps hpl fun b o e => S₄.hk b o (hS.keep b o e)
  · rintro i v B D L s₄ hv ⟨rfl, hS, kvs, o1, o2, o3, rfl, hM⟩ S₄
    obtain ⟨xs, hxs, l, vals, rfl, hl, hna⟩ := paired_get hpv hv
    have kB : ∀ b o, s.heap.get? b = some o → B.heap.get? b = some o := hS.keep
    refine wpAny_assign_Name (stl S₄ (by walk_at "upd") (by walk_at "ls") (by decide) fun s₅ S₅ => ?_)
    have kn : ∀ b o, s.heap.get? b = some o → s₅.heap.get? b = some o := fun b o e => S₅.hk b o (kB b o e)
    refine wpAny_execs_cons (wpAny_Assign_Name (call1 (lblt (hg.keeps kn) (gm _ (by decide)) (hb.keeps kn) b7 (ldl S₅ (by walk_at "mem") (by walk_at "lg") ⟨trivial, ?_⟩))))
    have hvl := (paired_na hna).length
    have hxl : xs ∈ xss := List.mem_of_getElem? hxs
    have hxn : xs.length ≤ n := nodup_length_le n xs (hnd.sublist (sub_flatten hxl)) fun x hx => hlt x (List.mem_flatten.mpr ⟨xs, hxl, hx⟩)
    refine call_tuple_list (PlainList.keeps hl kn).isList (fun h' hk' => ?_) (by rw [sizeLine_eq]; simp; omega)
    have K₆ : Keeps s₅ { s₅ with heap := h'.push { cls := .type "tuple", data := .seq vals.toArray } } := ⟨_, s₅.toks, rfl, fun b o e => Heap.get?_push_of_some _ (hk' b o e)⟩
    have S₆ := S₅.keeps K₆
    have hT := tup_new (s := s₅) (h' := h') (paired_na hna)
    have hTn : ∀ p ∈ ((it, LitP pl (i + 1)) :: [(sm, DctP w kvs), (Lf, LocP ksP [some (.ref pl), some (.ref dE), some (.ref sm), some (.ref l), o2, o3, none, none, none])] : Ledger), p.1 ≠ h'.objs.size := fun p hp => by
      obtain ⟨o, ho, _⟩ := S₅.led p hp
      exact Nat.ne_of_lt (Heap.lt_size (hk' _ _ ho))
    generalize hs₆ : ({ s₅ with heap := h'.push { cls := .type "tuple", data := .seq vals.toArray } } : Shared) = s₆ at *
    obtain ⟨B₆, hS₆, S₇, hfr⟩ := S₆.froze (List.Sublist.refl _)
    have hT₆ : TupV B₆.heap xs (.ref h'.objs.size) := by
      obtain ⟨l', vals', q, ⟨o, ho, hP⟩, hp⟩ := hT
      cases q
      exact ⟨_, vals', rfl, ⟨o, hfr _ _ ho fun p hp => hTn p hp, hP⟩, Mine.Paired.mono hp fun _ _ h => h⟩
    have hsB := hS.trans hS₆
    refine stl S₇ (by walk_at "upd") (by walk_at "ls") (by decide) fun s₇ S₇ => ?_
    refine wpAny_execs_cons (wpAny_For (ldl S₇ (by walk_at "mem") (by walk_at "lg") (S_iter S₇ (PlainList.keeps hl fun b o e => S₇.hk b o (hsB.keep b o e)) fun it2 s₈ _ K₈ S₈ => ?_)))
    refine forB (vals := vals) (it := it2) hh' (fun j B D L => B = B₆ ∧ D = [] ∧ ∃ kvs o3, L = (it, LitP pl (i + 1)) :: [(sm, DctP w kvs), (Lf, LocP ksP [some (.ref pl), some (.ref dE), some (.ref sm), some (.ref l), some (.ref h'.objs.size), o3, none, none, none])] ∧ MapOk B₆.heap kvs prt ((xss.take i).flatten ++ xs.take j))
      ?_ ?_ ?_ (D := []) ⟨rfl, rfl, kvs, o3, rfl, ?_⟩ S₈
    · rintro j B D L s₉ ⟨rfl, rfl, _⟩ S₉
      exact PlainList.keeps hl fun b o e => S₉.hk b o (hsB.keep b o e)
    · rintro j v B D L s₉ hv ⟨rfl, rfl, kvs, o3, rfl, hM⟩ S₉
      obtain ⟨x, hx, t, rfl⟩ := paired_get hna hv
      refine wpAny_assign_Name (stl S₉ (by walk_at "upd") (by walk_at "ls") (by decide) fun s₁₀ S₁₀ => ?_)
      refine wpAny_execs_cons (wpAny_Assign_Subscript (ldl S₁₀ (by walk_at "mem") (by walk_at "lg") (ldl S₁₀ (by walk_at "mem") (by walk_at "lg") (ldl S₁₀ (by walk_at "mem") (by walk_at "lg") ?_))))
      have hlen := hM.1
      have hfl : (xss.take i).flatten.length ≤ n := by
        refine nodup_length_le n _ (hnd.sublist ?_) fun x hx => hlt x ?_
        · conv => rhs; rw [← List.take_append_drop i xss, List.flatten_append]
          exact List.sublist_append_left _ _
        · obtain ⟨ys, h1, h2⟩ := List.mem_flatten.mp hx
          exact List.mem_flatten.mpr ⟨ys, List.mem_of_mem_take h1, h2⟩
      have hsl := stored_length_le kvs ((x : Nat) : Int) (.ref h'.objs.size)
      rw [List.length_append, List.length_take] at hlen
      refine S_setdct S₁₀ (kvs := kvs) (by walk_at "upd") (by omega) fun s₁₁ S₁₁ => wpAny_execs_nil ⟨rfl, B, [], _, ⟨rfl, rfl, _, _, rfl, ?_, fun y hy => ?_⟩, S₁₁⟩
      · have hj : j < xs.length := (List.getElem?_eq_some_iff.mp hx).1
        rw [List.length_append, List.length_take]
        omega
      · rw [valueAt_stored]
        by_cases e : x = y
        · subst e
          exact ⟨_, if_pos rfl, by rw [hprt xs hxl x (List.mem_of_getElem? hx)]; exact hT₆⟩
        · rw [if_neg (by omega)]
          rw [take_snoc hx] at hy
          refine hM.2 y ?_
          rcases List.mem_append.mp hy with h | h
          · exact List.mem_append_left _ h
          · rcases List.mem_append.mp h with h | h
            · exact List.mem_append_right _ h
            · rw [List.mem_singleton] at h; exact absurd h.symm e
    · rintro B D L s₉ ⟨rfl, rfl, kvs, o3, rfl, hM⟩ S₉
      refine wpAny_execs_nil ⟨rfl, B, [], _, ⟨rfl, hsB, kvs, _, _, _, rfl, ?_⟩, S₉⟩
      rw [flatten_take hxs]
      rw [show xs.take vals.length = xs from List.take_of_length_le (by omega)] at hM
      exact hM
    · rw [List.take_zero, List.append_nil]
      exact ⟨hM.1, fun x hx => let ⟨tv, a, b⟩ := hM.2 x hx; ⟨tv, a, stays_nat.tuple _ _ _ _ b hS₆.keep⟩⟩
  · rintro B D L s₄ ⟨rfl, hS, kvs, o1, o2, o3, rfl, hM⟩ S₄
    rw [List.take_of_length_le (by omega)] at hM
    replace S₄ : St B KAll (EqG B) [(sm, DctP w kvs), (Lf, LocP ksP [some (.ref pl), some (.ref dE), some (.ref sm), o1, o2, o3, none, none, none])] s₄ := S₄
    refine wpAny_execs_cons (wpAny_Assign_Name (wpAny_Dict_empty ?_))
    have S₅ := S₄.alloc (o := { cls := .type "dict", data := .dict #[] }) (P := TdP w []) rfl (by
      obtain ⟨o, ho, hp⟩ := td_of (w := w) (Heap.DictOfH.new (knd := tk w) s₄.heap)
      rw [show (s₄.heap.push _).get? s₄.heap.objs.size = _ from Heap.get?_push_size _ rfl] at ho
      cases ho; exact hp)
    generalize hdt : s₄.heap.objs.size = dt at *
    refine stl S₅ (by walk_at "upd") (by walk_at "ls") (by decide) fun s₆ S₆ => ?_
    obtain ⟨kve, hkv, hsys, hEv⟩ := hE
    refine wpAny_execs_cons (wpAny_For (ldl S₆ (by walk_at "mem") (by walk_at "lg") (S_iter S₆ (PlainList.keeps hpl fun b o e => S₆.hk b o (hS.keep b o e)) fun it' s₇ _ K₇ S₇ => ?_)))
    refine forB (vals := pv) (it := it') hh' (fun i B D L => D = [] ∧ Sub s B ∧ ∃ xs' o1 o3 o7 o8, L = [(dt, TdP w xs'), (sm, DctP w kvs), (Lf, LocP ksP [some (.ref pl), some (.ref dE), some (.ref sm), o1, o2, o3, some (.ref dt), o7, o8])] ∧ MapOk B.heap kvs prt xss.flatten ∧ PP B.heap E prt (xss.take i) xs')
      ?_ ?_ ?_ (D := []) ⟨rfl, hS, [], o1, o3, none, none, rfl, hM, .nil⟩ S₇
    · rintro i B D L s₄ ⟨rfl, hS, _⟩ S₄
      exact PlainList.keeps hpl fun b o e => S₄.hk b o (hS.keep b o e)
    · rintro i v B D L s₈ hv ⟨rfl, hS, xs', o1, o3, o7, o8, rfl, hM, hPP⟩ S₈
      obtain ⟨ys, hys, l, vals, rfl, hl, hna⟩ := paired_get hpv hv
      have hyl : ys ∈ xss := List.mem_of_getElem? hys
      have hyn : ys.length ≤ n := nodup_length_le n ys (hnd.sublist (sub_flatten hyl)) fun x hx => hlt x (List.mem_flatten.mpr ⟨ys, hyl, hx⟩)
      have hvl := (paired_na hna).length
      refine wpAny_assign_Name (stl S₈ (by walk_at "upd") (by walk_at "ls") (by decide) fun s₉ S₉ => ?_)
      refine wpAny_execs_cons (wpAny_Assign_Name (S_List (wpAny_items_nil ⟨_, _, _, _, S₉, by simp, fun dl s₁₀ _ _ S₁₀ => ?_⟩)))
      refine stl S₁₀ (by walk_at "upd") (by walk_at "ls") (by decide) fun s₁₁ S₁₁ => ?_
      refine wpAny_execs_cons (wpAny_For (ldl S₁₁ (by walk_at "mem") (by walk_at "lg") (S_iter S₁₁ (PlainList.keeps hl fun b o e => S₁₁.hk b o (hS.keep b o e)) fun it2 s₁₂ _ _ S₁₂ => ?_)))
      refine forB (vals := vals) (it := it2) hh' (fun j B' D L => B' = B ∧ D = [] ∧ ∃ tv o3 o8, L = [(dl, LstP tv), (it', LitP pl (i + 1)), (dt, TdP w xs'), (sm, DctP w kvs), (Lf, LocP ksP [some (.ref pl), some (.ref dE), some (.ref sm), some (.ref l), o2, o3, some (.ref dt), some (.ref dl), o8])] ∧ Paired (TupV B.heap) (depsG prt ((ys.take j).flatMap E)) tv)
        ?_ ?_ ?_ (D := []) ⟨rfl, rfl, [], o3, o8, rfl, .nil⟩ S₁₂
      · rintro j B' D L s₄ ⟨rfl, rfl, _⟩ S₄
        exact PlainList.keeps hl fun b o e => S₄.hk b o (hS.keep b o e)
      · rintro j v B' D L s₁₃ hv ⟨rfl, rfl, tv, o3, o8, rfl, hP⟩ S₁₃
        obtain ⟨x, hx, t, rfl⟩ := paired_get hna hv
        have hxf : x ∈ xss.flatten := List.mem_flatten.mpr ⟨ys, hyl, List.mem_of_getElem? hx⟩
        obtain ⟨le, ev, he1, he2, he3⟩ := hEv x (hlt x hxf)
        have kS : ∀ {s' : Shared} {L}, St B' KAll (EqG B') L s' → ∀ b o, s.heap.get? b = some o → s'.heap.get? b = some o := fun S b o e => S.hk b o (hS.keep b o e)
        refine wpAny_assign_Name (stl S₁₃ (by walk_at "upd") (by walk_at "ls") (by decide) fun s₁₄ S₁₄ => ?_)
        refine wpAny_execs_cons (wpAny_For (sub_any (ldl S₁₄ (by walk_at "mem") (by walk_at "lg") (ldl S₁₄ (by walk_at "mem") (by walk_at "lg") ⟨on_dct (hkv.keep (kS S₁₄)), ?_⟩))))
        refine get_dct (hkv.keep (kS S₁₄)) he1 ?_
        have S₁₅ := S₁₄.tok (s₁₄.toks + 1)
        refine S_iter S₁₅ (PlainList.keeps he2 (kS S₁₅)) fun it3 s₁₆ _ _ S₁₆ => ?_
        refine forB (vals := ev) (it := it3) hh' (fun k B'' D L => B'' = B' ∧ D = [] ∧ ∃ tv o8, L = [(it2, LitP l (j + 1)), (dl, LstP tv), (it', LitP pl (i + 1)), (dt, TdP w xs'), (sm, DctP w kvs), (Lf, LocP ksP [some (.ref pl), some (.ref dE), some (.ref sm), some (.ref l), o2, some (.int (x : Int) t), some (.ref dt), some (.ref dl), o8])] ∧ Paired (TupV B'.heap) (depsG prt ((ys.take j).flatMap E ++ (E x).take k)) tv)
          ?_ ?_ ?_ (D := []) ⟨rfl, rfl, tv, o8, rfl, by simpa using hP⟩ S₁₆
        · rintro k B'' D L s₄ ⟨rfl, rfl, _⟩ S₄
          exact PlainList.keeps he2 (kS S₄)
        · rintro k v B'' D L s₁₇ hv ⟨rfl, rfl, tv, o8, rfl, hP⟩ S₁₇
          obtain ⟨y, hy, ty, rfl⟩ := paired_get (na_paired (h := s.heap) he3) hv
          have hyf : y ∈ xss.flatten := hcl x hxf y (List.mem_of_getElem? hy)
          obtain ⟨tvy, hty, hTy⟩ := hM.2 y hyf
          refine wpAny_assign_Name (stl S₁₇ (by walk_at "upd") (by walk_at "ls") (by decide) fun s₁₈ S₁₈ => ?_)
          refine wpAny_execs_cons (wpAny_If (wpAny_isTrue_Compare1 ?_))
          refine sub_any (ldl S₁₈ (by walk_at "mem") (by walk_at "lg") (ldl S₁₈ (by walk_at "mem") (by walk_at "lg") ⟨on_dct (S₁₈.dct (by walk_at "mem")), ?_⟩))
          refine get_dct (S₁₈.dct (by walk_at "mem")) hty ?_
          have S₁₉ := S₁₈.tok (s₁₈.toks + 1)
          have hlen : tv.length ≤ 2000 := by
            rw [← hP.length]
            refine Nat.le_trans (depsG_length _ _) ?_
            have h1 := flatMap_length E hEl (ys.take j)
            have h2 := hEl x
            rw [List.length_append]
            rw [List.length_take] at *
            omega
          have htk : depsG prt ((ys.take j).flatMap E ++ (E x).take (k + 1)) = if prt y ∈ depsG prt ((ys.take j).flatMap E ++ (E x).take k) then depsG prt ((ys.take j).flatMap E ++ (E x).take k) else depsG prt ((ys.take j).flatMap E ++ (E x).take k) ++ [prt y] := by
            rw [take_snoc hy, ← List.append_assoc, depsG_snoc]
          refine ldl S₁₉ (by walk_at "mem") (by walk_at "lg") ?_
          refine notin_ls enc_pI.tuple rd_nat.tuple (a := prt y) (xs := depsG prt ((ys.take j).flatMap E ++ (E x).take k)) ⟨dl, tv, rfl, S₁₉.lst (by walk_at "mem"), Mine.Paired.mono hP fun _ _ h => stays_nat.tuple _ _ _ _ h S₁₉.hk⟩ (stays_nat.tuple _ _ _ _ hTy S₁₉.hk) (by simp only [cLine]; omega) (wpAny_truthy_bool (split_dec (fun hn' => ?_) fun hin => ?_))
          · refine wpAny_execs_cons (ex_append ?_)
            refine ldl S₁₉ (by walk_at "mem") (by walk_at "lg") ⟨dl, _, rfl, S₁₉.lst (by walk_at "mem"), ?_⟩
            refine sub_any (ldl S₁₉ (by walk_at "mem") (by walk_at "lg") (ldl S₁₉ (by walk_at "mem") (by walk_at "lg") ⟨on_dct (S₁₉.dct (by walk_at "mem")), ?_⟩))
            refine get_dct (S₁₉.dct (by walk_at "mem")) hty ?_
            refine S_append (S₁₉.tok _) (by walk_at "upd") (by omega) fun s₂₀ S₂₀ => ⟨rfl, wpAny_execs_nil (wpAny_execs_nil ⟨rfl, B'', [], _, ⟨rfl, rfl, _, _, rfl, ?_⟩, S₂₀⟩)⟩
            rw [htk, if_neg hn']
            exact hP.snoc hTy
          · refine wpAny_execs_nil (wpAny_execs_nil ⟨rfl, B'', [], _, ⟨rfl, rfl, _, _, rfl, ?_⟩, S₁₉⟩)
            rw [htk, if_pos (Decidable.not_not.mp hin)]
            exact hP
        · rintro B'' D L s₁₇ ⟨rfl, rfl, tv, o8, rfl, hP⟩ S₁₇
          refine wpAny_execs_nil ⟨rfl, B'', [], _, ⟨rfl, rfl, tv, _, _, rfl, ?_⟩, S₁₇⟩
          have := he3.length
          rw [show (E x).take ev.length = E x from List.take_of_length_le (by omega)] at hP
          rw [take_snoc hx, List.flatMap_append]
          simpa using hP
      · rintro B' D L s₁₃ ⟨rfl, rfl, tv, o3, o8, rfl, hP⟩ S₁₃
        replace S₁₃ : St B' KAll (EqG B') [(dl, LstP tv), (it', LitP pl (i + 1)), (dt, TdP w xs'), (sm, DctP w kvs), (Lf, LocP ksP [some (.ref pl), some (.ref dE), some (.ref sm), some (.ref l), o2, o3, some (.ref dt), some (.ref dl), o8])] s₁₃ := S₁₃
        have kn : ∀ b o, s.heap.get? b = some o → s₁₃.heap.get? b = some o := fun b o e => S₁₃.hk b o (hS.keep b o e)
        rw [show ys.take vals.length = ys from List.take_of_length_le (by omega)] at hP
        refine wpAny_execs_cons (wpAny_Assign_Subscript (ldl S₁₃ (by walk_at "mem") (by walk_at "lg") (ldl S₁₃ (by walk_at "mem") (by walk_at "lg") (call1 (lblt (hg.keeps kn) (gm _ (by decide)) (hb.keeps kn) b7 (ldl S₁₃ (by walk_at "mem") (by walk_at "lg") ⟨trivial, ?_⟩))))))
        refine call_tuple_list (PlainList.keeps hl kn).isList (fun h' hk' => ?_) (by rw [sizeLine_eq]; simp; omega)
        have K₁₄ : Keeps s₁₃ { s₁₃ with heap := h'.push { cls := .type "tuple", data := .seq vals.toArray } } := ⟨_, s₁₃.toks, rfl, fun b o e => Heap.get?_push_of_some _ (hk' b o e)⟩
        have S₁₄ := S₁₃.keeps K₁₄
        have hT := tup_new (s := s₁₃) (h' := h') (paired_na hna)
        have hTn : ∀ p ∈ ([(it', LitP pl (i + 1)), (dt, TdP w xs'), (sm, DctP w kvs), (Lf, LocP ksP [some (.ref pl), some (.ref dE), some (.ref sm), some (.ref l), o2, o3, some (.ref dt), some (.ref dl), o8])] : Ledger), p.1 ≠ h'.objs.size := fun p hp => by
          obtain ⟨o, ho, _⟩ := S₁₃.led p (.tail _ hp)
          exact Nat.ne_of_lt (Heap.lt_size (hk' _ _ ho))
        have hdl := S₁₃.above (D := []) (a := dl)
        generalize hs₁₄ : ({ s₁₃ with heap := h'.push { cls := .type "tuple", data := .seq vals.toArray } } : Shared) = s₁₄ at *
        obtain ⟨a, e, hka⟩ := key_of (w := w) hT
        cases e
        have hxl' : xs'.length ≤ n := by
          rw [← hPP.length]
          have h1 := parts_length hne
          have h2 := nodup_length_le n _ hnd hlt
          rw [List.length_take]; omega
        have hno : ys ∉ xss.take i := fun hm => by
          have hn2 := nodup_parts hnd hne
          have hi : i < xss.length := (List.getElem?_eq_some_iff.mp hys).1
          rw [← List.take_append_drop i xss, List.nodup_append] at hn2
          refine hn2.2.2 ys hm ys ?_ rfl
          rw [List.mem_iff_getElem?]
          exact ⟨0, by rw [List.getElem?_drop]; simpa using hys⟩
        obtain ⟨B₂, hS₂, S₁₅, hfr⟩ := S₁₄.froze (List.sublist_cons_self _ _)
        have hT₂ : TupV B₂.heap ys (.ref h'.objs.size) := by
          obtain ⟨l', vals', q, ⟨o, ho, hP⟩, hp⟩ := hT
          cases q
          exact ⟨_, vals', rfl, ⟨o, hfr _ _ ho fun p hp => hTn p hp, hP⟩, Mine.Paired.mono hp fun _ _ h => h⟩
        have hD₂ : LsV TupV B₂.heap (depsL E prt ys) (.ref dl) := by
          obtain ⟨m, hm⟩ := S₁₄.lst (a := dl) (vs := tv) (.head _)
          exact ⟨dl, tv, rfl, ⟨m, hfr _ _ hm hdl⟩, Mine.Paired.mono hP fun _ _ h => stays_nat.tuple _ _ _ _ h hS₂.keep⟩
        refine S_settd S₁₅ (xs := xs') (by walk_at "upd") ((hPP.keysIn.keeps hS₂.keep).keeps S₁₅.hk) hka (by simp only [cLine]; omega) (by omega) fun s₁₆ S₁₆ => ?_
        rw [storedH_new (hPP.none hno)] at S₁₆
        refine wpAny_execs_nil ⟨rfl, B₂, [], _, ⟨rfl, hS.trans hS₂, _, _, _, _, _, rfl, ⟨hM.1, fun x hx => let ⟨tv, a, b⟩ := hM.2 x hx; ⟨tv, a, stays_nat.tuple _ _ _ _ b hS₂.keep⟩⟩, ?_⟩, S₁₆⟩
        rw [take_snoc hys]
        exact (hPP.keeps hS₂.keep).snoc ⟨rfl, hT₂, hD₂⟩
    · rintro B D L s₈ ⟨rfl, hS, xs', o1, o3, o7, o8, rfl, hM, hPP⟩ S₈
      replace S₈ : St B KAll (EqG B) [(dt, TdP w xs'), (sm, DctP w kvs), (Lf, LocP ksP [some (.ref pl), some (.ref dE), some (.ref sm), o1, o2, o3, some (.ref dt), o7, o8])] s₈ := S₈
      rw [List.take_of_length_le (by omega)] at hPP
      refine wpAny_execs_cons (wpAny_Return_some (ldl S₈ (by walk_at "mem") (by walk_at "lg") ?_))
      have hdL : @LT.lt Nat _ Lf dt := (List.pairwise_cons.mp S₈.ord).1 Lf (by simp)
      have h28 : @LT.lt Nat _ 28 Lf := by
        obtain ⟨o, ho, _⟩ := hf
        exact hLf ▸ Heap.lt_size ho
      refine hR dt s₈ (hS.keeps S₈.done) (get?_of_ge (by rw [hLf]; exact Nat.le_of_lt hdL)) ⟨?_, ?_⟩
      · have : dt ≠ sysModules := by show ¬ @Eq Nat dt 1; omega
        simpa using this
      · obtain ⟨o, ho, es, ep, h1, h2, h3, h4⟩ := S₈.get (a := dt) (P := TdP w xs') (.head _)
        refine ⟨es, ep, ⟨o, ho, h1, h2⟩, ?_⟩
        rw [h3]
        exact (hPP.keeps S₈.hk).entries
end Mine
end

section
open PySem PySem.W PyProof.Rows
set_option Elab.async false
set_option maxRecDepth 100000
namespace Mine

/-- what is new over a state lies over all that it holds -/
theorem St.stack {B : Shared} {L L' : Ledger} {s s' : Shared} (S : St B KAll (EqG B) L s) (S' : St s KAll (EqG s) L' s') (h : ∀ p ∈ L', s.heap.objs.size ≤ p.1) : St B KAll (EqG B) (L' ++ L) s' := by
  refine ⟨fun b o e _ => S'.keep b o (S.keep b o e trivial) trivial, fun p hp o e => ?_, fun p hp => ?_, ?_, fun b o e => ⟨o, S'.keep b o (S.keep b o e trivial) trivial⟩, S'.drawn.trans S.drawn, S'.os.trans S.os, ?_⟩
  · rcases List.mem_append.mp hp with hp | hp
    · exact fun _ => S'.own p hp o (S.keep p.1 o e trivial) trivial
    · exact S.own p hp o e
  · rcases List.mem_append.mp hp with hp | hp
    · exact S'.led p hp
    · obtain ⟨o, ho, hP⟩ := S.led p hp
      exact ⟨o, S'.keep _ _ ho trivial, hP⟩
  · rw [List.map_append, List.pairwise_append]
    refine ⟨S'.ord, S.ord, fun a ha b hb => ?_⟩
    obtain ⟨p, hp, rfl⟩ := List.mem_map.mp ha
    obtain ⟨q, hq, rfl⟩ := List.mem_map.mp hb
    exact Nat.lt_of_lt_of_le (S.lt hq) (h p hp)
  · have h1 : s'.gens = s.gens := S'.gens
    have h2 : s.gens = B.gens := S.gens
    exact h1.trans h2

def clsBody : List Stmt := match stmtAt 3 with
  | .ClassDef _ _ _ b _ _ _ _ _ _ _ => b
  | _ => []
def clsAt (n : Nat) : Stmt := clsBody.getD n (.Pass default)
def initFd (pm cd doc : Value) : FuncData := methDef "__init__" "topsort.__init__" (fArgs (clsAt 0)) (fBody (clsAt 0)) (fScope (clsAt 0)) pm cd doc
def iterFd (pm cd doc : Value) : FuncData := methDef "__iter__" "topsort.__iter__" (fArgs (clsAt 1)) (fBody (clsAt 1)) (fScope (clsAt 1)) pm cd doc
def nextFd (pm cd doc : Value) : FuncData := methDef "__next__" "topsort.__next__" (fArgs (clsAt 2)) (fBody (clsAt 2)) (fScope (clsAt 2)) pm cd doc
theorem init_bind (a b pm cd doc : Value) : bindArgs (initFd pm cd doc) ⟨[a, b], []⟩ = pure [(("self" : Str), a), (("data" : Str), b)] := by with_unfolding_all rfl
theorem iter_bind (a pm cd doc : Value) : bindArgs (iterFd pm cd doc) ⟨[a], []⟩ = pure [(("self" : Str), a)] := by with_unfolding_all rfl
theorem next_bind (a pm cd doc : Value) : bindArgs (nextFd pm cd doc) ⟨[a], []⟩ = pure [(("self" : Str), a)] := by with_unfolding_all rfl

/-- the class as it stands at module level -/
structure TopoIn (h : Heap) : Prop where
  ex : ∃ mN, ClsAt h 57 56 mN ∧ mN "__init__" = some (.ref 40) ∧ mN "__iter__" = some (.ref 47) ∧ mN "__next__" = some (.ref 54) ∧
    (∀ x ∈ (["__setattr__", "__getattribute__", "__getattr__", "in_degree", "rev", "ready", "remaining"] : List Str), mN x = none)
  fi : ∃ pm cd doc, FnOk h 40 (initFd pm cd doc) ∧ ∃ o, h.get? 40 = some o ∧ o.cls = .type "function"
  ft : ∃ pm cd doc, FnOk h 47 (iterFd pm cd doc) ∧ ∃ o, h.get? 47 = some o ∧ o.cls = .type "function"
  fn : ∃ pm cd doc, FnOk h 54 (nextFd pm cd doc) ∧ ∃ o, h.get? 54 = some o ∧ o.cls = .type "function"
theorem TopoIn.keeps {h h' : Heap} (x : TopoIn h) (k : ∀ b o, h.get? b = some o → h'.get? b = some o) : TopoIn h' :=
  ⟨let ⟨m, a, b⟩ := x.ex; ⟨m, a.keeps k, b⟩, let ⟨a, b, c, d, o, e, f⟩ := x.fi; ⟨a, b, c, d.keeps k, o, k _ _ e, f⟩, let ⟨a, b, c, d, o, e, f⟩ := x.ft; ⟨a, b, c, d.keeps k, o, k _ _ e, f⟩, let ⟨a, b, c, d, o, e, f⟩ := x.fn; ⟨a, b, c, d.keeps k, o, k _ _ e, f⟩⟩

/-- the object's four attributes -/
def mA (i r y n : Option Value) : Str → Option Value := fun s => if s = "in_degree" then i else if s = "rev" then r else if s = "ready" then y else if s = "remaining" then n else none
def AtP (m : Str → Option Value) : OP := fun o => ∃ es ep, o.data = .dict es ep ∧ StrKeys es ∧ UniqKeys es ∧ ∀ name, nsFind es name = m name
theorem mA_within (i r y n : Option Value) : Within (mA i r y n) ["in_degree", "rev", "ready", "remaining"] := by
  intro s h
  unfold mA at h
  by_cases h1 : s = "in_degree"
  · subst h1; simp
  by_cases h2 : s = "rev"
  · subst h2; simp
  by_cases h3 : s = "ready"
  · subst h3; simp
  by_cases h4 : s = "remaining"
  · subst h4; simp
  simp [h1, h2, h3, h4] at h
theorem mA_i (i r y n : Option Value) (v : Value) : (fun s => if s = ("in_degree" : Str) then some v else mA i r y n s) = mA (some v) r y n := by
  funext s; unfold mA; split <;> rfl
theorem mA_r (i r y n : Option Value) (v : Value) : (fun s => if s = ("rev" : Str) then some v else mA i r y n s) = mA i (some v) y n := by
  funext s; unfold mA
  by_cases h : s = "rev"
  · subst h; rfl
  · rw [if_neg h, if_neg h, if_neg h]
theorem mA_y (i r y n : Option Value) (v : Value) : (fun s => if s = ("ready" : Str) then some v else mA i r y n s) = mA i r (some v) n := by
  funext s; unfold mA
  by_cases h : s = "ready"
  · subst h; rfl
  · rw [if_neg h, if_neg h, if_neg h]
theorem mA_n (i r y n : Option Value) (v : Value) : (fun s => if s = ("remaining" : Str) then some v else mA i r y n s) = mA i r y (some v) := by
  funext s; unfold mA
  by_cases h : s = "remaining"
  · subst h; rfl
  · rw [if_neg h, if_neg h, if_neg h]

/-- the object's body; its attributes lie in the dict at dx -/
def XObj (h : Heap) (x dx : Addr) : Prop := dx ≠ x ∧ ∃ o, h.get? x = some o ∧ o.cls = .ref 57 ∧ (∀ c, o.data ≠ .cls c) ∧ o.dict = some dx
theorem XObj.keeps {h h' : Heap} {x dx : Addr} (X : XObj h x dx) (k : ∀ b o, h.get? b = some o → h'.get? b = some o) : XObj h' x dx := let ⟨a, o, b, c⟩ := X; ⟨a, o, k _ _ b, c⟩
theorem XObj.inst {h : Heap} {x dx : Addr} {m : Str → Option Value} (X : XObj h x dx) (hd : ∃ o, h.get? dx = some o ∧ AtP m o) : h.Inst x 57 m := by
  obtain ⟨hne, o, a, b, c, d⟩ := X
  obtain ⟨od, e, es, ep, r⟩ := hd
  exact ⟨o, a, b, c, .inr ⟨dx, d, hne, od, es, ep, e, r⟩⟩

section
variable {prog : Program} {w : World} {A : Around} {E : Value → Shared → Prop} {B : Shared} {L L' : Ledger} {s : Shared} {env : Env} {x dx : Addr}

theorem get_at {m : Str → Option Value} {name : Str} {v : Value} {expr : Bool} {Q : Value → Shared → Prop} (T : TopoIn s.heap) (X : XObj s.heap x dx) (hm : ∃ o, s.heap.get? dx = some o ∧ AtP m o) (hv : m name = some v) (hh : handedOut v = pure v)
    (hx : name ∈ (["in_degree", "rev", "ready", "remaining"] : List Str)) (hB : typeLookup (.type "object") name = pure none) (h : Q v { s with toks := s.toks + 1 }) : wpAny (model prog w) A (getAttr (.ref x) name expr) Q E s := by
  obtain ⟨mN, C, c1, c2, c3, c4⟩ := T.ex
  obtain ⟨nm, q, bs, sn, sub, col, dd, k0, k1, k2, k3, k5, hC⟩ := C.obj
  obtain ⟨hp, g, d, t, os⟩ := s
  exact load_attr hC C.ns (c4 _ (by simp)) (c4 _ (by simp only [List.mem_cons] at hx ⊢; exact .inr (.inr (.inr hx)))) hB (X.inst hm) hv hh h

theorem set_at {m m' : Str → Option Value} {name : Str} {v : Value} {Q : Unit → Shared → Prop} (S : St B KAll (EqG B) L s) (T : TopoIn B.heap) (X : XObj B.heap x dx) (u : Upd L dx (AtP m) (AtP m') L') (hm' : (fun s => if s = name then some v else m s) = m') (hw : Within m ["in_degree", "rev", "ready", "remaining"])
    (hx : name ∈ (["in_degree", "rev", "ready", "remaining"] : List Str)) (hB : typeLookup (.type "object") name = pure none) (h : ∀ s', St B KAll (EqG B) L' s' → Q () s') : wpAny (model prog w) A (setAttr (.ref x) name v) Q E s := by
  obtain ⟨mN, C, c1, c2, c3, c4⟩ := (T.keeps S.hk).ex
  obtain ⟨nm, q, bs, sn, sub, col, dd, k0, k1, k2, k3, k5, hC⟩ := C.obj
  have Xs := X.keeps S.hk
  have hI := Xs.inst (S.get u.mem)
  obtain ⟨hne, ox, hox, hcx, hdx, hddx⟩ := Xs
  have hxC : x ≠ 57 := by
    rintro rfl
    rw [hC] at hox
    cases hox
    cases hcx
  obtain ⟨hp, g, d, t, os⟩ := s
  refine store_attr F.store_object hC C.ns (c4 _ (by simp)) (c4 _ (by simp only [List.mem_cons] at hx ⊢; exact .inr (.inr (.inr hx)))) hB hxC hI (fun h' tk' hI' hk hsame => ?_) hw (by rw [sizeLine_eq]; simp)
  rw [hm'] at hI'
  obtain ⟨o₁, ho₁, e1, e2, e3, e4⟩ := hsame ox hox
  have hoe : o₁ = ox := by
    have := e4 dx hddx
    obtain ⟨a, b, c, d⟩ := o₁
    obtain ⟨a', b', c', d'⟩ := ox
    simp only at e1 e2 e3 this hddx
    subst e1 e2 e3
    rw [this, ← hddx]
  refine h _ (S.turn (s' := ⟨h', g, d, tk', os⟩) u (fun b o hb e => ?_) ?_ rfl rfl rfl)
  · by_cases hbx : b = x
    · subst hbx
      rw [hox] at e; cases e
      exact hoe ▸ ho₁
    · exact hk b o hbx (fun o₀ d' e₀ ed => by
        rw [hox] at e₀; cases e₀
        rw [hddx] at ed; cases ed
        exact hb) e
  · obtain ⟨o', ho', _, _, hd'⟩ := hI'
    rw [ho₁] at ho'; cases ho'
    rcases hd' with ⟨hn, _⟩ | ⟨d', hd', _, od, es, ep, e, r⟩
    · rw [hoe, hddx] at hn; cases hn
    · rw [hoe, hddx] at hd'; cases hd'
      exact ⟨od, e, es, ep, r⟩

theorem lk_in_degree : typeLookup (.type "object") ("in_degree" : Str) = pure none := by rw [typeLookup_type, builtinLookup_eq_fast]; kernel_rfl
theorem lk_rev : typeLookup (.type "object") ("rev" : Str) = pure none := by rw [typeLookup_type, builtinLookup_eq_fast]; kernel_rfl
theorem lk_ready : typeLookup (.type "object") ("ready" : Str) = pure none := by rw [typeLookup_type, builtinLookup_eq_fast]; kernel_rfl
theorem lk_remaining : typeLookup (.type "object") ("remaining" : Str) = pure none := by rw [typeLookup_type, builtinLookup_eq_fast]; kernel_rfl

theorem own_sp {h : Heap} {name : Str} {f : Addr} (T : TopoIn h) (X : XObj h x dx) (hn : ∀ mN : Str → Option Value, mN "__init__" = some (.ref 40) → mN "__iter__" = some (.ref 47) → mN "__next__" = some (.ref 54) → mN name = some (.ref f)) (hf : ∃ o, h.get? f = some o ∧ o.cls = .type "function")
    (hB : ∃ y, typeLookup (.type "object") name = pure y) : h.OwnSpecial x 57 f "object" name := by
  obtain ⟨mN, C, c1, c2, c3, c4⟩ := T.ex
  obtain ⟨nm, q, bs, sn, sub, col, dd, k0, k1, k2, k3, k5, hC⟩ := C.obj
  obtain ⟨_, ox, hox, hcx, _⟩ := X
  obtain ⟨of, ho, hc⟩ := hf
  obtain ⟨y, hy⟩ := hB
  exact ⟨ox, of, nm, q, 56, bs, _, true, sn, sub, false, col, dd, k0, k1, k2, k3, k5, _, mN, y, hox, hcx, hC, C.ns, hn mN c1 c2 c3, ho, hc, F.mro_object, hy⟩
theorem lk_iter : typeLookup (.type "object") ("__iter__" : Str) = pure none := by rw [typeLookup_type, builtinLookup_eq_fast]; kernel_rfl
theorem lk_next : typeLookup (.type "object") ("__next__" : Str) = pure none := by rw [typeLookup_type, builtinLookup_eq_fast]; kernel_rfl
theorem sp_iter {h : Heap} (T : TopoIn h) (X : XObj h x dx) : h.OwnSpecial x 57 47 "object" "__iter__" := own_sp T X (fun _ _ b _ => b) (let ⟨_, _, _, _, a⟩ := T.ft; a) ⟨_, lk_iter⟩
theorem sp_next {h : Heap} (T : TopoIn h) (X : XObj h x dx) : h.OwnSpecial x 57 54 "object" "__next__" := own_sp T X (fun _ _ _ c => c) (let ⟨_, _, _, _, a⟩ := T.fn; a) ⟨_, lk_next⟩

theorem next_own {Q : Option Value → Shared → Prop} (X : s.heap.OwnSpecial x 57 54 "object" "__next__")
    (h : wpAny (model prog w) A (call (.ref 54) [.ref x]) (fun v s' => Q (some v) s') (fun e s' => s'.TypeIs e "StopIteration" ∧ Q none s') s) : wpAny (model prog w) A (pyNext (.ref x)) Q E s := by
  obtain ⟨hp, g, d, t, os⟩ := s
  unfold pyNext
  refine wpAny_bind (wpAny_attempt (wpAny_callSpecial?_own (name := Str.ofString "__next__") X (wpAny_mono h (fun v s' hq => wpAny_pure hq) fun e s' he => ?_)))
  exact wpAny_bind (wpAny_isInstance (T := "StopIteration") (b := true) he.1 isSubtype_stop (wpAny_pure he.2))

theorem iter_own {Q : Value → Shared → Prop} (X : s.heap.OwnSpecial x 57 47 "object" "__iter__")
    (h : wpAny (model prog w) A (call (.ref 47) [.ref x]) (fun v s' => v = .ref x ∧ s'.heap.OwnSpecial x 57 54 "object" "__next__" ∧ Q (.ref x) s') E s) : wpAny (model prog w) A (pyIter (.ref x)) Q E s := by
  obtain ⟨hp, g, d, t, os⟩ := s
  have X' := X
  obtain ⟨o, of, _, _, _, _, _, _, _, _, _, _, _, _, _, _, _, _, _, _, _, _, _, _, _, _, hfo, hfc, _, _⟩ := X'
  have fin : wpAny (model prog w) A (call (.ref 47) [.ref x] >>= fun v => pure (some v)) (fun r s' => r = some (.ref x) ∧ s'.heap.OwnSpecial x 57 54 "object" "__next__" ∧ Q (.ref x) s') E ⟨hp, g, d, t, os⟩ :=
    wpAny_bind (wpAny_mono h (fun v s' ⟨h1, h2⟩ => wpAny_pure ⟨by rw [h1], h2⟩) fun _ _ z => z)
  have one : ∀ refuse : Sem Value, wpAny (model prog w) A (callSpecialIfBoundUnlessNone? (.ref x) "__iter__" refuse) (fun r s' => r = some (.ref x) ∧ s'.heap.OwnSpecial x 57 54 "object" "__next__" ∧ Q (.ref x) s') E ⟨hp, g, d, t, os⟩ := by
    intro refuse
    simp only [callSpecialIfBoundUnlessNone?, bindSpecialIfBound?]
    refine wpAny_holding (wpAny_bind (wpAny_bind (wpAny_specialOf_own X ?_)))
    refine wpAny_bind (wpAny_askSetting (wpAny_ite ?_))
    have fin2 : wpAny (model prog w) A (if (Value.ref 47 == Value.none) = true then (refuse >>= fun v => pure (some v)) else (call (.ref 47) [.ref x] >>= fun v => pure (some v))) (fun r s' => r = some (.ref x) ∧ s'.heap.OwnSpecial x 57 54 "object" "__next__" ∧ Q (.ref x) s') E ⟨hp, g, d, t, os⟩ := by
      rw [if_neg (show ¬ ((Value.ref 47 == Value.none) = true) from Bool.false_ne_true)]
      exact fin
    split
    · exact wpAny_bind (wpAny_bindSpecial_def (s := ⟨hp, g, d, t, os⟩) hfo hfc (wpAny_pure (by exact fin2)))
    · exact wpAny_tryCatch (wpAny_bind (wpAny_bindSpecial_def (s := ⟨hp, g, d, t, os⟩) hfo hfc (wpAny_pure (by exact fin2))))
  unfold pyIter
  refine wpAny_bind (wpAny_specialOf_own X ?_)
  show wpAny (model prog w) A (callSpecialIfBoundUnlessNone? (.ref x) "__iter__" _ >>= _) Q E _
  refine wpAny_bind (wpAny_mono (one _) (fun r s' hr => ?_) fun _ _ z => z)
  obtain ⟨rfl, h2, h3⟩ := hr
  obtain ⟨hp', g', d', t', os'⟩ := s'
  exact wpAny_bind (wpAny_specialOf_own h2 (wpAny_pure h3))
end
end Mine
end

section
open PySem PySem.W PyProof.Rows
set_option Elab.async false
set_option maxRecDepth 100000
namespace Mine

/-- the dict in_degree: its entries, as far as laid -/
abbrev IgR := List (List Nat × Addr × Nat × Tok)
def igX (is : IgR) : List (List Int × Addr × Value) := is.map fun r => (zs r.1, r.2.1, Value.int ((r.2.2.1 : Nat) : Int) r.2.2.2)
structure InI (h : Heap) (ps : List (List Nat)) (deg : List Nat → Nat) (is : IgR) : Prop where
  keys : is.map (·.1) = ps
  all : ∀ r ∈ is, TupV h r.1 (.ref r.2.1) ∧ r.2.2.1 = deg r.1
/-- the dict rev with its lists -/
abbrev RvR := List (List Nat × Addr × Addr × List Value)
def rvX (rs : RvR) : List (List Int × Addr × Value) := rs.map fun r => (zs r.1, r.2.1, Value.ref r.2.2.1)
def rvL (rs : RvR) : Ledger := (rs.map fun r => (r.2.2.1, LstP r.2.2.2)).reverse
structure RevI (h : Heap) (ps : List (List Nat)) (rvf : List Nat → List (List Nat)) (rs : RvR) : Prop where
  keys : rs.map (·.1) = ps
  all : ∀ r ∈ rs, TupV h r.1 (.ref r.2.1) ∧ Paired (TupV h) (rvf r.1) r.2.2.2

theorem tup_keys {w : World} {h : Heap} {β : Type} {rs : List (List Nat × Addr × β)} {f : β → Value} (hr : ∀ r ∈ rs, TupV h r.1 (.ref r.2.1)) : KeysIn w h (rs.map fun r => (zs r.1, r.2.1, f r.2.2)) := by
  intro x hx
  obtain ⟨r, hr', rfl⟩ := List.mem_map.mp hx
  obtain ⟨b, q, k⟩ := key_of (w := w) (hr r hr')
  cases q
  exact k
theorem InI.keysIn {w : World} {h : Heap} {ps : List (List Nat)} {deg : List Nat → Nat} {is : IgR} (x : InI h ps deg is) : KeysIn w h (igX is) := tup_keys (f := fun p => Value.int ((p.1 : Nat) : Int) p.2) fun r hr => (x.all r hr).1
theorem RevI.keysIn {w : World} {h : Heap} {ps : List (List Nat)} {rvf : List Nat → List (List Nat)} {rs : RvR} (x : RevI h ps rvf rs) : KeysIn w h (rvX rs) := tup_keys (f := fun p => Value.ref p.1) fun r hr => (x.all r hr).1

theorem keys_none {β : Type} {rs : List (List Nat × Addr × β)} {f : β → Value} {ps : List (List Nat)} (hk : rs.map (·.1) = ps) {ys : List Nat} (hy : ys ∉ ps) : atKey (rs.map fun r => (zs r.1, r.2.1, f r.2.2)) (zs ys) = none := by
  unfold atKey
  rw [List.find?_eq_none.mpr fun p hp => by
    obtain ⟨r, hr, rfl⟩ := List.mem_map.mp hp
    simp only [decide_eq_true_eq]
    intro e
    exact hy (hk ▸ List.mem_map.mpr ⟨r, hr, zs_inj e⟩)]
  rfl
theorem keys_nodup {β : Type} {rs : List (List Nat × Addr × β)} {f : β → Value} {ps : List (List Nat)} (hk : rs.map (·.1) = ps) (hn : ps.Nodup) : ((rs.map fun r => (zs r.1, r.2.1, f r.2.2)).map (·.1)).Nodup := by
  rw [List.map_map, show ((fun x : List Int × Addr × Value => x.1) ∘ fun r : List Nat × Addr × β => (zs r.1, r.2.1, f r.2.2)) = zs ∘ (·.1) from rfl, ← List.map_map, hk]
  exact List.Pairwise.map _ (fun a b q e => q (zs_inj e)) hn
theorem keys_some {β : Type} {r1 r2 : List (List Nat × Addr × β)} {r : List Nat × Addr × β} {f : β → Value} {ps : List (List Nat)} (hk : (r1 ++ r :: r2).map (·.1) = ps) (hn : ps.Nodup) :
    atKey ((r1 ++ r :: r2).map fun r => (zs r.1, r.2.1, f r.2.2)) (zs r.1) = some (r.2.1, f r.2.2) :=
  atKey_of_get (keys_nodup hk hn) (i := r1.length) (by simp)

theorem range_filterMap {α : Type} (as : List α) (p : Nat → Bool) (q : α → Bool) (h : ∀ (i : Nat) a, as[i]? = some a → p i = q a) : ((List.range as.length).filter p).filterMap (fun i => as[i]?) = as.filter q := by
  have : ∀ k, k ≤ as.length → ((List.range k).filter p).filterMap (fun i => as[i]?) = (as.take k).filter q := by
    intro k
    induction k with
    | zero => intro _; simp
    | succ k ih =>
      intro hk
      have e : as[k]? = some as[k] := by simp [show k < as.length by omega]
      rw [List.range_succ, List.filter_append, List.filterMap_append, ih (by omega), List.take_add_one, List.filter_append, e]
      congr 1
      have hp := h k _ e
      by_cases hq : q as[k] = true
      · rw [hq] at hp; simp [hp, hq, e]
      · have hq' : q as[k] = false := by simpa using hq
        rw [hq'] at hp; simp [hp, hq']
  have := this as.length (Nat.le_refl _)
  rwa [List.take_of_length_le (Nat.le_refl _)] at this
theorem paired_filterMap {α : Type} {R : α → Value → Prop} {as : List α} {bs : List Value} (hp : Paired R as bs) {is : List Nat} {out : List Value} (ho : Paired (fun i y => bs[i]? = some y) is out) : Paired R (is.filterMap fun i => as[i]?) out := by
  induction ho with
  | nil => exact .nil
  | cons hx _ ih =>
    obtain ⟨a, ha, hR⟩ := paired_get hp hx
    rw [List.filterMap_cons, ha]
    exact .cons hR ih

section
variable {prog : Program} {w : World} {A : Around} {E : Value → Shared → Prop} {s : Shared}
theorem raw_of {knd : HeapKind prog w (List Int)} {h : Heap} {d : Addr} {xs : List (List Int × Addr × Value)} (x : h.DictOfH knd d xs) : ∃ es ep, RawD h d es ep ∧ es.size = xs.length := by
  obtain ⟨o, es, ep, e, h1, h2, h3, _⟩ := x
  exact ⟨es, ep, ⟨o, e, h1, h2⟩, by rw [← Array.length_toList, h3, List.length_map]⟩
end
end Mine
end

section
open PySem PySem.W PyProof.Rows
set_option Elab.async false
set_option maxRecDepth 100000
namespace Mine
local macro_rules | `(tactic| walk_at "mem") => `(tactic| repeat (first | exact List.Mem.head _ | apply List.Mem.tail))
local macro_rules | `(tactic| walk_at "lg") => `(tactic| repeat (first | (with_reducible exact LG.head) | apply LG.tail))
local macro_rules | `(tactic| walk_at "upd") => `(tactic| repeat (first | exact Upd.head | apply Upd.tail))
local macro_rules | `(tactic| walk_at "ls") => `(tactic| repeat (first | (with_reducible exact LS.head) | apply LS.tail))

section
variable {prog : Program} {w : World} {A : Around} {E : Value → Shared → Prop} {s : Shared}
theorem meets_len {d : Addr} {es : Array DictEntry} {ep : Nat} (hd : (d == sysModules) = false) :
    MeetsIn prog w (Builtin.«dict.__len__» ⟨[.ref d], []⟩) (fun _ R s => RawD s.heap d es ep ∧ R (.ok (.ret (.int es.size s.toks))) { s with toks := s.toks + 1 }) :=
  .of_wp fun A R s ⟨hm, h⟩ => by
    obtain ⟨o, ho, hc, hdat⟩ := hm
    show wpAny _ _ (dictSize d >>= _) _ _ s
    unfold dictSize
    refine wpAny_bind (wpAny_bind (wpAny_dictEntries ho hdat (wpAny_pure ?_)))
    show wpAny _ _ (Builtin.Dict.pendingCount d >>= _) _ _ s
    exact wpAny_bind (wpAny_pendingCount_other hd (wpAny_ret_mkInt (by rw [Nat.add_zero]; exact h)))
theorem len_raw {d : Addr} {es : Array DictEntry} {ep : Nat} {Q : Value → Shared → Prop} (hd : (d == sysModules) = false) (hm : RawD s.heap d es ep) (hfit : es.size ≤ 2 ^ 20)
    (h : ∀ t k, Q (.int es.size t) { s with toks := k }) : wpAny (model prog w) A (call (.builtin "len") [.ref d]) Q E s := by
  refine Calls.call_function_entry kind_len plain_len entry_len (args_len1 _) ?_
  unfold Builtin.«len»
  refine wpAny_bind (m := oneArg "len" _) (wpAny_pure ?_)
  refine wpAny_bind (m := callSpecial? (.ref d) (Str.ofString "__len__")) (wpAny_callSpecial?_slot (name := Str.ofString "__len__") hm.typeIs F.slot_dict_len
    (call_meetsIn F.slot_dict_len hm.typeIs F.entry_dict_len (F.args_dict_len_1 _) (meets_len hd) ⟨hm, ?_⟩))
  show wpAny _ _ _ _ _ { s with toks := s.toks + 1 }
  refine wpAny_bind (wpAny_holding (wpAny_pure ?_))
  refine wpAny_bind (wpAny_letGo ?_)
  show wpAny _ _ (if ((es.size : Nat) : Int) < 0 then _ else _) _ _ _
  rw [if_neg (by omega)]
  show wpAny _ _ (if ((es.size : Nat) : Int) ≥ 2 ^ 63 then _ else _) _ _ _
  rw [if_neg (by omega)]
  exact wpAny_bind (wpAny_mkInt (wpAny_pure ⟨_, rfl, h _ _⟩))
end

/-- the parts that a part leads to, but for itself -/
def dnOf (dl : List Nat → List (List Nat)) (xs : List Nat) : List (List Nat) := (dl xs).filter fun q => decide (q ≠ xs)
def rvOf (dl : List Nat → List (List Nat)) (ps : List (List Nat)) (ys : List Nat) : List (List Nat) := ps.filter fun q => decide (ys ∈ dnOf dl q)
def rdOf (dl : List Nat → List (List Nat)) (ps : List (List Nat)) : List (List Nat) := ps.filter fun q => decide (dnOf dl q = [])
/-- rev as it stands at the end -/
def RevF (w : World) (h : Heap) (rv : Addr) (ps : List (List Nat)) (rvf : List Nat → List (List Nat)) : Prop :=
  ∃ rs : RvR, h.DictOfH (tk w) rv (rvX rs) ∧ rs.map (·.1) = ps ∧ ∀ r ∈ rs, TupV h r.1 (.ref r.2.1) ∧ LsV TupV h (rvf r.1) (.ref r.2.2.1)

abbrev ksI : List Str := ["self", "data", "in_degree", "rev", "ready", "deps", "dep", "deg"]

theorem rvL_snoc (rs : RvR) (r : List Nat × Addr × Addr × List Value) : rvL (rs ++ [r]) = (r.2.2.1, LstP r.2.2.2) :: rvL rs := by simp [rvL]
theorem rvL_mid (r1 r2 : RvR) (r : List Nat × Addr × Addr × List Value) : rvL (r1 ++ r :: r2) = rvL r2 ++ (r.2.2.1, LstP r.2.2.2) :: rvL r1 := by simp [rvL]
theorem rvX_snoc (rs : RvR) (r : List Nat × Addr × Addr × List Value) : rvX (rs ++ [r]) = rvX rs ++ [(zs r.1, r.2.1, .ref r.2.2.1)] := by simp [rvX]
theorem igX_snoc (is : IgR) (r : List Nat × Addr × Nat × Tok) : igX (is ++ [r]) = igX is ++ [(zs r.1, r.2.1, .int ((r.2.2.1 : Nat) : Int) r.2.2.2)] := by simp [igX]
/-- rev as far as the loop over one part's parts has come -/
def rvJ (dl : List Nat → List (List Nat)) (ps : List (List Nat)) (ys : List Nat) (ds : List (List Nat)) (q : List Nat) : List (List Nat) := rvOf dl ps q ++ if q ∈ ds then [ys] else []
theorem rvOf_snoc (dl : List Nat → List (List Nat)) (ps : List (List Nat)) (ys q : List Nat) : rvOf dl (ps ++ [ys]) q = rvJ dl ps ys (dnOf dl ys) q := by
  unfold rvOf rvJ
  rw [List.filter_append]
  congr 1
  by_cases h : q ∈ dnOf dl ys <;> simp [h]
theorem rdOf_snoc (dl : List Nat → List (List Nat)) (ps : List (List Nat)) (ys : List Nat) : rdOf dl (ps ++ [ys]) = rdOf dl ps ++ if dnOf dl ys = [] then [ys] else [] := by
  unfold rdOf
  rw [List.filter_append]
  congr 1
  by_cases h : dnOf dl ys = [] <;> simp [h]
theorem on_td {w : World} {h : Shared} {d : Addr} {xs : List (List Int × Addr × Value)} (x : h.heap.DictOfH (tk w) d xs) : ∃ T id, typeLookup (.type T) "__getitem__" = pure (some (.builtin id)) ∧ h.TypeIs (.ref d) T :=
  ⟨_, _, slot_dict_getitem.lookup, x.typeIs⟩
/-- what lies under the loop's iterator -/
abbrev iL (w : World) (rdy rv ig Lf dx : Addr) (rdv : List Value) (xr xi : List (List Int × Addr × Value)) (c : Option Value) (vs : List (Option Value)) : Ledger :=
  [(rdy, LstP rdv), (rv, TdP w xr), (ig, TdP w xi), (Lf + 1, CellP c), (Lf, LocP ksI vs), (dx, AtP (mA none none none none))]

theorem init_ok {w : World} {A : Around} {B s : Shared} {R : Result → Shared → Prop} {x dx d : Addr} {es : Array DictEntry} {ep : Nat} {xss : List (List Nat)} {dl : List Nat → List (List Nat)}
    (T : TopoIn B.heap) (hN : Names B.heap) (X : XObj B.heap x dx) (S : St B KAll (EqG B) [(dx, AtP (mA none none none none))] s) (hdat : RawD B.heap d es ep) (hds : (d == sysModules) = false)
    (hit : Paired (fun xs (e : DictEntry) => TupV B.heap xs e.key ∧ LsV TupV B.heap (dl xs) e.val) xss es.toList) (hnd : xss.Nodup) (htop : ∀ (i : Nat) xs, xss[i]? = some xs → ∀ q ∈ dnOf dl xs, q ∈ xss.take i) (hdn : ∀ xs, (dl xs).Nodup)
    (hdl : ∀ xs, (dl xs).length ≤ 1000) (hn : xss.length ≤ 100) (hh : A.handled = none) (hd : A.depth < 900) (hu : A.units < 9000)
    (hR : ∀ s' ig rv rdy is t B', Sub B B' → St B' KAll (EqG B') [(ig, TdP w (igX is)), (dx, AtP (mA (some (.ref ig)) (some (.ref rv)) (some (.ref rdy)) (some (.int ((xss.length - (rdOf dl xss).length : Nat) : Int) t))))] s' →
      InI B'.heap xss (fun ys => (dnOf dl ys).length) is → RevF w B'.heap rv xss (rvOf dl xss) → LsV TupV B'.heap (rdOf dl xss) (.ref rdy) → @LT.lt Nat _ s.heap.objs.size rv → R (.ok (.ret .none)) s') :
    codeAny (model pw w) A (.call (.ref 40) ⟨[.ref x, .ref d], []⟩) R s := by
  obtain ⟨pm, cd, doc, ⟨o, ho, hdata, hcd⟩, _⟩ := T.fi
  refine codeAny_call_cells (body := fBody (clsAt 0)) (by simp only [recursionLimit]; omega) (S.hk _ _ ho) hdata (hN.lim.keeps S.hk) (hcd.keeps S.hk) rfl (init_bind _ _ _ _ _) rfl ?_ fun s₁ x₁ => ?_
  · intro q hq
    simp only [List.mem_cons, List.not_mem_nil, or_false] at hq
    rcases hq with rfl | rfl
    · exact .inl rfl
    · exact .inl rfl
  generalize hLf : s.heap.objs.size = Lf at *
  have S₁ : St s KAll (EqG s) [(Lf + 1, CellP none), (Lf, LocP ksI [some (.ref x), some (.ref d), none, none, none, none, none, none])] s₁ :=
    St.ofC x₁ (ks := ksI) (by
      show ([Lf + 1] : List Nat).Pairwise (· > ·)
      simp) (by
      intro q hq
      have hq : q ∈ [(("item" : Str), Lf + 1)] := hq
      rw [List.mem_singleton] at hq
      subst hq; rfl)
  have S₂ := S.stack S₁ (by
    intro p hp
    simp only [List.mem_cons, List.not_mem_nil, or_false] at hp
    rcases hp with rfl | rfl
    · show @LE.le Nat _ _ (Lf + 1); omega
    · show @LE.le Nat _ _ Lf; omega)
  replace S₂ : St B KAll (EqG B) [(Lf + 1, CellP none), (Lf, LocP ksI [some (.ref x), some (.ref d), none, none, none, none, none, none]), (dx, AtP (mA none none none none))] s₁ := S₂
  have hh' : (A.deeper (callEnvC (initFd pm cd doc) Lf 40)).handled = none := hh
  have hu' : (A.deeper (callEnvC (initFd pm cd doc) Lf 40)).units < 9010 := by rw [Around.deeper_units]; omega
  generalize hA' : A.deeper (callEnvC (initFd pm cd doc) Lf 40) = A' at *
  clear hA' S₁ x₁
  have h40 : @LT.lt Nat _ 40 Lf := by have := Heap.lt_size (S.hk _ _ ho); exact hLf ▸ this
  obtain ⟨mg, mb, hg, hb, g1, g2, g3, g4, g5, gm, b1, b2, b3, b4, b5, b6, b7, b8⟩ := hN.ex
  refine wpAny_execs_cons (wpAny_Assign_Name (wpAny_Dict_empty ?_))
  have nw : ∀ {s : Shared}, ∃ o, (s.heap.push { cls := .type "dict", data := .dict #[] }).get? s.heap.objs.size = some o ∧ TdP w [] o := fun {s} => td_of (Heap.DictOfH.new (knd := tk w) s.heap)
  have nw' : TdP w [] { cls := .type "dict", data := .dict #[] } := by
    obtain ⟨o, ho, hp⟩ := nw (s := s)
    rw [Heap.get?_push_size _ rfl] at ho
    cases ho; exact hp
  have S₃ := S₂.alloc (o := { cls := .type "dict", data := .dict #[] }) (P := TdP w []) rfl nw'
  generalize hig : s₁.heap.objs.size = ig at *
  refine stl S₃ (by walk_at "upd") (by walk_at "ls") (by decide) fun s₄ S₄ => ?_
  refine wpAny_execs_cons (wpAny_Assign_Name (wpAny_Dict_empty ?_))
  have S₅ := S₄.alloc (o := { cls := .type "dict", data := .dict #[] }) (P := TdP w []) rfl nw'
  generalize hrv : s₄.heap.objs.size = rv at *
  refine stl S₅ (by walk_at "upd") (by walk_at "ls") (by decide) fun s₆ S₆ => ?_
  refine wpAny_execs_cons (wpAny_Assign_Name (S_List (wpAny_items_nil ⟨_, _, _, _, S₆, by simp, fun rdy s₇ _ _ S₇ => ?_⟩)))
  refine stl S₇ (by walk_at "upd") (by walk_at "ls") (by decide) fun s₈ S₈ => ?_
  clear S₂ S₃ S₄ S₅ S₆ S₇
  have hrdy : rdy < s₈.heap.objs.size := S₈.lt (p := (rdy, _)) (.head _)
  have ho8 := S₈.ord
  have hrvLf : @LT.lt Nat _ Lf rv := (List.pairwise_cons.mp (List.pairwise_cons.mp ho8).2).1 Lf (by simp)
  have higLf : @LT.lt Nat _ Lf ig := (List.pairwise_cons.mp (List.pairwise_cons.mp (List.pairwise_cons.mp ho8).2).2).1 Lf (by simp)
  have hrvs : (rv == sysModules) = false := by
    have : rv ≠ sysModules := by show ¬ @Eq Nat rv 1; omega
    simpa using this
  have higs : (ig == sysModules) = false := by
    have : ig ≠ sysModules := by show ¬ @Eq Nat ig 1; omega
    simpa using this
  -- the loop
  refine wpAny_execs_cons (wpAny_For (wpAny_Call_method0_late rfl rfl (ldl S₈ (by walk_at "mem") (by walk_at "lg") ⟨"dict", _, F.plainAttrs_dict, F.slot_dict_items, F.type_dict_items, (hdat.keeps S₈.hk).typeIs, ?_, ?_⟩)))
  · intro a ha
    cases ha
    obtain ⟨o, e, hx, _⟩ := hdat.keeps S₈.hk
    exact ⟨o, e, hx.2.1⟩
  refine call_items (hdat.keeps S₈.hk) hds ?_
  have hV : ({ s₈ with heap := s₈.heap.push { cls := .type "dict_items", data := .fields #[.ref d] } } : Shared).heap.IsItemsView s₈.heap.objs.size d := ⟨_, Heap.get?_push_size _ rfl, rfl, rfl⟩
  have S₉ := (S₈.alloc (P := fun _ => True) (o := { cls := .type "dict_items", data := .fields #[.ref d] }) rfl trivial).drop (List.sublist_cons_self _ _)
  generalize ({ s₈ with heap := s₈.heap.push { cls := .type "dict_items", data := .fields #[.ref d] } } : Shared) = s₉ at *
  refine iter_items hV (hdat.keeps S₉.hk) ?_
  have S₁₀ := S₉.alloc (P := ItP d 0 es.size ep) (o := { cls := .type "dict_itemiterator", data := .fields #[.none, .bool false, .ref d, .int 0 0, .int es.size 0, .int ep 0, .none, .none] }) rfl ⟨_, _, rfl⟩
  generalize hit2 : s₉.heap.objs.size = it at *
  have hlen : xss.length = es.size := by rw [hit.length, Array.length_toList]
  refine forI hh' (fun i B' D L => B' = B ∧ ∃ is rs rdv c o5 o6 o7, D = rvL rs ∧ L = [(rdy, LstP rdv), (rv, TdP w (rvX rs)), (ig, TdP w (igX is)), (Lf + 1, CellP c), (Lf, LocP ksI [some (.ref x), some (.ref d), some (.ref ig), some (.ref rv), some (.ref rdy), o5, o6, o7]), (dx, AtP (mA none none none none))] ∧
      InI B.heap (xss.take i) (fun ys => (dnOf dl ys).length) is ∧ RevI B.heap (xss.take i) (rvOf dl (xss.take i)) rs ∧ Paired (TupV B.heap) (rdOf dl (xss.take i)) rdv)
    ?_ ?_ ?_ (D := []) (L := _) ⟨rfl, [], [], [], none, none, none, none, rfl, rfl, ⟨rfl, fun _ h => nomatch h⟩, ⟨rfl, fun _ h => nomatch h⟩, .nil⟩ S₁₀
  · rintro i B' D L s' ⟨rfl, _⟩ S'
    exact hdat.keeps S'.hk
  · rintro i e B' D L s₁₁ he ⟨rfl, is, rs, rdv, c, o5, o6, o7, rfl, rfl, hI, hV, hY⟩ S₁₁
    obtain ⟨ys, hys, hK, l, vals, hl, hlv, hds'⟩ := paired_get hit (i := i) (b := e) (by rw [Array.getElem?_toList]; exact he)
    obtain ⟨a, hka, hkey⟩ := key_of (w := w) hK
    obtain ⟨eh, ek, ev⟩ := e
    have hl : ev = .ref l := hl
    have hka : ek = .ref a := hka
    subst hl hka
    have hK : TupV B'.heap ys (.ref a) := hK
    have hn1 : atKey (igX is) (zs ys) = none := keys_none (β := Nat × Tok) (f := fun p => Value.int ((p.1 : Nat) : Int) p.2) hI.keys fun hm => (List.nodup_append.mp ((take_snoc hys : xss.take (i + 1) = xss.take i ++ [ys]) ▸ hnd.sublist (List.take_sublist _ _))).2.2 ys hm ys (by simp) rfl
    have hn2 : atKey (rvX rs) (zs ys) = none := keys_none (β := Addr × List Value) (f := fun p => Value.ref p.1) hV.keys fun hm => (List.nodup_append.mp ((take_snoc hys : xss.take (i + 1) = xss.take i ++ [ys]) ▸ hnd.sublist (List.take_sublist _ _))).2.2 ys hm ys (by simp) rfl
    have hil : i < xss.length := (List.getElem?_eq_some_iff.mp hys).1
    have htk : xss.take (i + 1) = xss.take i ++ [ys] := take_snoc hys
    have hnp : (xss.take i ++ [ys]).Nodup := htk ▸ hnd.sublist (List.take_sublist _ _)
    have hno : ys ∉ xss.take i := fun hm => (List.nodup_append.mp hnp).2.2 ys hm ys (by simp) rfl
    have hplen : (xss.take i).length ≤ 100 := by rw [List.length_take]; omega
    have hisl : is.length ≤ 100 := by rw [← List.length_map (f := fun r : List Nat × Addr × Nat × Tok => r.1), hI.keys]; exact hplen
    have hrsl : rs.length ≤ 100 := by rw [← List.length_map (f := fun r : List Nat × Addr × Addr × List Value => r.1), hV.keys]; exact hplen
    replace S₁₁ : St B' KAll (EqG B') (rvL rs ++ (it, ItP d (i + 1) es.size ep) :: iL w rdy rv ig Lf dx rdv (rvX rs) (igX is) c [some (.ref x), some (.ref d), some (.ref ig), some (.ref rv), some (.ref rdy), o5, o6, o7]) s₁₁ := S₁₁
    refine wpAny_assign_Name (stc S₁₁ (c := Lf + 1) rfl (Upd.over (l := _ :: iL ..) (by walk_at "upd") (rvL rs)) fun s₁₂ S₁₂ => ?_)
    refine wpAny_assign_Name (stl S₁₂ (Upd.over (l := _ :: iL ..) (by walk_at "upd") (rvL rs)) (by walk_at "ls") (by decide) fun s₁₃ S₁₃ => ?_)
    replace S₁₃ : St B' KAll (EqG B') (rvL rs ++ (it, ItP d (i + 1) es.size ep) :: iL w rdy rv ig Lf dx rdv (rvX rs) (igX is) (some (.ref a)) [some (.ref x), some (.ref d), some (.ref ig), some (.ref rv), some (.ref rdy), some (.ref l), o6, o7]) s₁₃ := S₁₃
    have mm : ∀ {p : Addr × OP} {l : Ledger}, p ∈ l → p ∈ rvL rs ++ l := fun h => List.mem_append_right _ h
    have hcell := S₁₃.get (a := Lf + 1) (P := CellP (some (.ref a))) (mm (by walk_at "mem"))
    have hdlen : (dl ys).length = vals.length := hds'.length
    refine wpAny_execs_cons (asg_loc (B := B') (Pk := KAll) (G := EqG B') (cl := [(("item" : Str), Lf + 1)]) (ks := ksI) (vs' := fun v => [some (.ref x), some (.ref d), some (.ref ig), some (.ref rv), some (.ref rdy), some v, o6, o7])
      (L := rvL rs ++ (it, ItP d (i + 1) es.size ep) :: iL w rdy rv ig Lf dx rdv (rvX rs) (igX is) (some (.ref a)) [some (.ref x), some (.ref d), some (.ref ig), some (.ref rv), some (.ref rdy), some (.ref l), o6, o7])
      (L' := fun v => rvL rs ++ (it, ItP d (i + 1) es.size ep) :: iL w rdy rv ig Lf dx rdv (rvX rs) (igX is) (some (.ref a)) [some (.ref x), some (.ref d), some (.ref ig), some (.ref rv), some (.ref rdy), some v, o6, o7]) rfl rfl ?_
      (fun v => Upd.over (.tail (.tail (.tail (.tail (.tail .head))))) (rvL rs)) (fun v => .tail (.tail (.tail (.tail (.tail .head))))))
    refine ldl S₁₃ (mm (by walk_at "mem")) (by walk_at "lg") ?_
    refine iter_list (s₀ := s₁₃) hh' (krefl _) (PlainList.keeps hlv S₁₃.hk).isList fun itv s₁₄ K₁₄ hz₁₄ W₁₄ => ?_
    refine ⟨s₁₃, vals.length, _, fun j => match (dl ys)[j]? with | some q => decide (q ≠ ys) | none => false, fun _ j y => vals[j]? = some y, W₁₄, by have := hdl ys; omega, Nat.le_of_lt hz₁₄, S₁₃, ⟨fun _ _ _ _ h _ => h, ?_, ?_⟩, ?_⟩
    · rintro j v s₃ E' hj hv hX hk
      obtain ⟨q, hq, hqv⟩ := paired_get hds' hv
      obtain ⟨oc, hoc, hPc⟩ := hcell
      have kB : ∀ b o, B'.heap.get? b = some o → s₃.heap.get? b = some o := fun b o e => hk b o (S₁₃.hk b o e)
      refine wpAny_tests_one (wpAny_isTrue_Compare1 (rdl hX (by walk_at "lg") (rdc (c := Lf + 1) rfl ⟨oc, hk _ _ hoc, hPc⟩ ?_)))
      refine ne_rd enc_pI.tuple rd_nat.tuple (a := q) (b := ys) (stays_nat.tuple _ _ _ _ hqv kB) (stays_nat.tuple _ _ _ _ hK kB) (by simp only [cLine]; omega) (wpAny_truthy_bool ⟨?_, krefl _⟩)
      rw [hq]
    · rintro j v s₃ E' hj hv _ hX hk
      exact rdl hX (by walk_at "lg") ⟨krefl _, hv⟩
    · intro dv s₁₅ out S₁₅ _ hP
      have hOut : Paired (TupV B'.heap) (dnOf dl ys) out := by
        have h1 := paired_filterMap hds' hP
        rw [← hdlen] at h1
        rw [range_filterMap (dl ys) _ (fun q => decide (q ≠ ys)) (fun i a h => by simp only [h])] at h1
        exact h1
      have holen : (dnOf dl ys).length = out.length := hOut.length
      have hol : out.length ≤ 1000 := by
        rw [← holen]
        refine Nat.le_trans (List.length_filter_le _ _) (hdl ys)
      have m5 : ∀ {p q : Addr × OP} {l : Ledger}, p ∈ l → p ∈ q :: (rvL rs ++ l) := fun h => .tail _ (mm h)
      have kB : ∀ {s' : Shared} {L : Ledger}, St B' KAll (EqG B') L s' → ∀ b o, B'.heap.get? b = some o → s'.heap.get? b = some o := fun S b o e => S.hk b o e
      -- deg = len(deps)
      refine wpAny_execs_cons (wpAny_Assign_Name (call1 (lblt (hg.keeps S₁₅.hk) (gm _ (by decide)) (hb.keeps S₁₅.hk) b1 (ldl S₁₅ (m5 (by walk_at "mem")) (by walk_at "lg") ⟨trivial, ?_⟩))))
      refine lenL (S₁₅.lst (.head _)).isList (by simp; omega) ?_
      have S₁₆ := S₁₅.tok (s₁₅.toks + 1 + 1)
      refine stl S₁₆ (.tail (Upd.over (l := _ :: iL ..) (by walk_at "upd") (rvL rs))) (by walk_at "ls") (by decide) fun s₁₇ S₁₇ => ?_
      -- in_degree[item] = deg
      rw [show ((out.toArray.size : Nat) : Int) = (((dnOf dl ys).length : Nat) : Int) by simp [holen]] at S₁₇
      refine wpAny_execs_cons (wpAny_Assign_Subscript (ldl S₁₇ (m5 (by walk_at "mem")) (by walk_at "lg") (ldl S₁₇ (m5 (by walk_at "mem")) (by walk_at "lg") (ldc S₁₇ (c := Lf + 1) rfl (m5 (by walk_at "mem")) ?_))))
      refine S_settd S₁₇ (xs := igX is) (.tail (Upd.over (l := _ :: iL ..) (by walk_at "upd") (rvL rs))) (hI.keysIn.keeps S₁₇.hk) (Mine.IsTupleKey.mono hkey S₁₇.hk) (by simp only [cLine]; omega) (by simp [igX]; omega) fun s₁₈ S₁₈ => ?_
      rw [storedH_new hn1] at S₁₈
      rw [show igX is ++ [(zs ys, a, Value.int (((dnOf dl ys).length : Nat) : Int) (s₁₅.toks + 1))] = igX (is ++ [(ys, a, (dnOf dl ys).length, s₁₅.toks + 1)]) from (igX_snoc is (ys, a, (dnOf dl ys).length, s₁₅.toks + 1)).symm] at S₁₈
      have hI' : InI B'.heap (xss.take (i + 1)) (fun ys => (dnOf dl ys).length) (is ++ [(ys, a, (dnOf dl ys).length, s₁₅.toks + 1)]) := ⟨by rw [List.map_append, hI.keys, htk]; rfl, fun r hr => by
        rcases List.mem_append.mp hr with hr | hr
        · exact hI.all r hr
        · rw [List.mem_singleton] at hr; subst hr; exact ⟨hK, rfl⟩⟩
      generalize is ++ [(ys, a, (dnOf dl ys).length, s₁₅.toks + 1)] = is' at S₁₈ hI'
      -- if deg == 0: ready.append(item)
      have hif : ∀ (Q : Flow → Shared → Prop) (E : Value → Shared → Prop) (st : Stmt), st = (match (fBody (clsAt 0)).getD 3 (.Pass default) with | .For _ _ b _ _ => b.getD 3 (.Pass default) | _ => .Pass default) →
          (∀ s' rdv', St B' KAll (EqG B') ((dv, LstP out) :: (rvL rs ++ (it, ItP d (i + 1) es.size ep) :: iL w rdy rv ig Lf dx rdv' (rvX rs) (igX is') (some (.ref a)) [some (.ref x), some (.ref d), some (.ref ig), some (.ref rv), some (.ref rdy), some (.ref dv), o6, some (.int (((dnOf dl ys).length : Nat) : Int) (s₁₅.toks + 1))])) s' →
            Paired (TupV B'.heap) (rdOf dl (xss.take (i + 1))) rdv' → Q .next s') →
          wpAny (model pw w) A' (exec st (callEnvC (initFd pm cd doc) Lf 40)) Q E s₁₈ := by
        rintro Q E st rfl hQ
        refine wpAny_If (wpAny_isTrue_Compare1 (ldl S₁₈ (m5 (by walk_at "mem")) (by walk_at "lg") (wpAny_Constant_int ?_)))
        have S₁₉ := S₁₈.tok (s₁₈.toks + 1)
        refine eq_rd enc_pI rd_nat (a := (dnOf dl ys).length) (b := 0) ⟨_, rfl⟩ ⟨_, rfl⟩ (by simp only [cLine]; omega) (wpAny_truthy_bool (split_dec (fun h0 => ?_) fun h0 => ?_))
        · have hnil : dnOf dl ys = [] := List.length_eq_zero_iff.mp h0
          refine wpAny_execs_cons (ex_append (ldl S₁₉ (m5 (by walk_at "mem")) (by walk_at "lg") ⟨rdy, _, rfl, S₁₉.lst (m5 (by walk_at "mem")), ldc S₁₉ (c := Lf + 1) rfl (m5 (by walk_at "mem")) ?_⟩))
          have hrl : rdv.length ≤ 100 := by rw [← hY.length]; exact Nat.le_trans (List.length_filter_le _ _) hplen
          refine S_append S₁₉ (.tail (Upd.over (l := _ :: iL ..) (by walk_at "upd") (rvL rs))) (by omega) fun s' S' => ⟨rfl, wpAny_execs_nil (hQ s' _ S' ?_)⟩
          rw [htk, rdOf_snoc, if_pos hnil]
          exact hY.snoc hK
        · have hnil : dnOf dl ys ≠ [] := fun e => h0 (by rw [e]; rfl)
          refine wpAny_execs_nil (hQ _ _ S₁₉ ?_)
          rw [htk, rdOf_snoc, if_neg hnil, List.append_nil]
          exact hY
      refine wpAny_execs_cons (hif _ _ _ rfl fun s₂₀ rdv' S₂₀ hY' => ?_)
      clear hif S₁₅ S₁₆ S₁₇ S₁₈
      -- if item not in rev: rev[item] = []
      refine wpAny_execs_cons (wpAny_If (wpAny_isTrue_Compare1 (ldc S₂₀ (c := Lf + 1) rfl (m5 (by walk_at "mem")) (ldl S₂₀ (m5 (by walk_at "mem")) (by walk_at "lg") ?_))))
      refine wpAny_notIn_heap (knd := tk w) (by show A'.in1.units < cLine; have : A'.in1.units ≤ A'.units + 3 := (by unfold Around.in1; simp); simp only [cLine]; omega) (Mine.IsTupleKey.mono hkey S₂₀.hk) hrvs (S₂₀.td (m5 (by walk_at "mem")) (hV.keysIn.keeps S₂₀.hk)) ?_
      rw [hn2]
      refine wpAny_truthy_bool ?_
      show wpAny _ _ _ _ _ _
      have S₂₁ := S₂₀.tok (s₂₀.toks + (tk w).draws (zs ys))
      refine wpAny_execs_cons (wpAny_Assign_Subscript (S_List (wpAny_items_nil ⟨_, _, _, _, S₂₁, by simp, fun nl s₂₂ _ _ S₂₂ => ?_⟩)))
      refine ldl S₂₂ (.tail _ (m5 (by walk_at "mem"))) (by walk_at "lg") (ldc S₂₂ (c := Lf + 1) rfl (.tail _ (m5 (by walk_at "mem"))) ?_)
      refine S_settd S₂₂ (xs := rvX rs) (.tail (.tail (Upd.over (l := _ :: iL ..) (by walk_at "upd") (rvL rs)))) (hV.keysIn.keeps S₂₂.hk) (Mine.IsTupleKey.mono hkey S₂₂.hk) (by simp only [cLine]; omega) (by simp [rvX]; omega) fun s₂₃ S₂₃ => wpAny_execs_nil ?_
      rw [storedH_new hn2] at S₂₃
      clear S₂₀ S₂₁ S₂₂
      -- for dep in deps
      have hrvJ : ∀ ds q, (rvJ dl (xss.take i) ys ds q).length ≤ 101 := fun ds q => by
        unfold rvJ rvOf
        rw [List.length_append]
        have h1 := List.length_filter_le (fun p => decide (q ∈ dnOf dl p)) (xss.take i)
        have h2 : (if q ∈ ds then [ys] else []).length ≤ 1 := by split <;> simp
        omega
      have hdsn : (dnOf dl ys).Nodup := (hdn ys).sublist List.filter_sublist
      have S₂₄ : St B' KAll (EqG B') ((nl, LstP []) :: (dv, LstP out) :: (rvL rs ++ (it, ItP d (i + 1) es.size ep) :: iL w rdy rv ig Lf dx rdv' (rvX (rs ++ [(ys, a, nl, [])])) (igX is') (some (.ref a)) [some (.ref x), some (.ref d), some (.ref ig), some (.ref rv), some (.ref rdy), some (.ref dv), o6, some (.int (((dnOf dl ys).length : Nat) : Int) (s₁₅.toks + 1))])) s₂₃ := by
        rw [rvX_snoc]; exact S₂₃
      clear S₂₃
      refine wpAny_execs_cons (wpAny_For (ldl S₂₄ (.tail _ (m5 (by walk_at "mem"))) (by walk_at "lg") (S_iter S₂₄ (S₂₄.lst (.tail _ (.head _))) fun it3 s₂₅ _ _ S₂₅ => ?_)))
      refine forB (vals := out) (it := it3) hh' (fun j B'' D L => B'' = B' ∧ D = [] ∧ ∃ rsj o6', L = (nl, LstP []) :: (dv, LstP out) :: (rvL rsj ++ (it, ItP d (i + 1) es.size ep) :: iL w rdy rv ig Lf dx rdv' (rvX (rsj ++ [(ys, a, nl, [])])) (igX is') (some (.ref a)) [some (.ref x), some (.ref d), some (.ref ig), some (.ref rv), some (.ref rdy), some (.ref dv), o6', some (.int (((dnOf dl ys).length : Nat) : Int) (s₁₅.toks + 1))]) ∧
        RevI B'.heap (xss.take i) (rvJ dl (xss.take i) ys ((dnOf dl ys).take j)) rsj) ?_ ?_ ?_ (D := []) ⟨rfl, rfl, rs, o6, rfl, hV.keys, fun r hr => ⟨(hV.all r hr).1, ?_⟩⟩ S₂₅
      · rintro j B'' D L s' ⟨rfl, rfl, rsj, o6', rfl, _⟩ S'
        exact S'.lst (.tail _ (.tail _ (.head _)))
      · rintro j v B'' D L s₂₆ hv ⟨rfl, rfl, rsj, o6', rfl, hJ⟩ S₂₆
        obtain ⟨q, hq, hqv⟩ := paired_get hOut hv
        obtain ⟨aq, rfl, hqk⟩ := key_of (w := w) hqv
        have hqp : q ∈ xss.take i := htop i ys hys q (List.mem_of_getElem? hq)
        obtain ⟨r, hr, hrq⟩ := List.mem_map.mp (hJ.keys ▸ hqp)
        obtain ⟨r1, r2, rfl⟩ := List.append_of_mem hr
        obtain ⟨rq, ra, rl, rvs⟩ := r
        have hrq : rq = q := hrq
        subst hrq
        have m6 : ∀ {p : Addr × OP} {l : Ledger}, p ∈ l → p ∈ (it3, LitP dv (j + 1)) :: (nl, LstP []) :: (dv, LstP out) :: (rvL (r1 ++ (rq, ra, rl, rvs) :: r2) ++ l) := fun h => .tail _ (.tail _ (.tail _ (List.mem_append_right _ h)))
        refine wpAny_assign_Name (stl S₂₆ (.tail (.tail (.tail (Upd.over (l := _ :: iL ..) (by walk_at "upd") (rvL _))))) (by walk_at "ls") (by decide) fun s₂₇ S₂₇ => ?_)
        have hkeys : ((r1 ++ (rq, ra, rl, rvs) :: (r2 ++ [(ys, a, nl, [])])).map (·.1)) = xss.take i ++ [ys] := by
          rw [← hJ.keys]; simp
        have hsome : atKey (rvX (r1 ++ (rq, ra, rl, rvs) :: (r2 ++ [(ys, a, nl, [])]))) (zs rq) = some (ra, .ref rl) := keys_some (β := Addr × List Value) (f := fun p => Value.ref p.1) hkeys hnp
        have eX : rvX (r1 ++ (rq, ra, rl, rvs) :: r2 ++ [(ys, a, nl, [])]) = rvX (r1 ++ (rq, ra, rl, rvs) :: (r2 ++ [(ys, a, nl, [])])) := by simp
        have hKI : KeysIn w B''.heap (rvX (r1 ++ (rq, ra, rl, rvs) :: (r2 ++ [(ys, a, nl, [])]))) := by
          refine tup_keys (β := Addr × List Value) (f := fun p => Value.ref p.1) fun r hr => ?_
          rw [← List.cons_append, ← List.append_assoc] at hr
          rcases List.mem_append.mp hr with hr | hr
          · exact (hJ.all r hr).1
          · rw [List.mem_singleton] at hr; subst hr; exact hK
        have hroom : (tk w).room A'.in1 := by show A'.in1.units < cLine; have : A'.in1.units ≤ A'.units + 3 := (by unfold Around.in1; simp); simp only [cLine]; omega
        rw [eX] at S₂₇
        have hDm := S₂₇.td (xs := rvX (r1 ++ (rq, ra, rl, rvs) :: (r2 ++ [(ys, a, nl, [])]))) (m6 (by walk_at "mem")) (hKI.keeps S₂₇.hk)
        refine wpAny_execs_cons (wpAny_If (wpAny_isTrue_Compare1 (ldl S₂₇ (m6 (by walk_at "mem")) (by walk_at "lg") (ldl S₂₇ (m6 (by walk_at "mem")) (by walk_at "lg") ?_))))
        refine wpAny_in_heap (knd := tk w) hroom (Mine.IsTupleKey.mono hqk S₂₇.hk) hrvs hDm ?_
        rw [hsome]
        refine wpAny_truthy_bool ?_
        show wpAny _ _ _ _ _ _
        have S₂₈ := S₂₇.tok (s₂₇.toks + (tk w).draws (zs rq))
        have hDm' := S₂₈.td (xs := rvX (r1 ++ (rq, ra, rl, rvs) :: (r2 ++ [(ys, a, nl, [])]))) (m6 (by walk_at "mem")) (hKI.keeps S₂₈.hk)
        refine wpAny_execs_cons (ex_append (sub_any (ldl S₂₈ (m6 (by walk_at "mem")) (by walk_at "lg") (ldl S₂₈ (m6 (by walk_at "mem")) (by walk_at "lg") ⟨on_td hDm', ?_⟩))))
        refine wpAny_getItem_heap (knd := tk w) hroom (Mine.IsTupleKey.mono hqk S₂₈.hk) hDm' hsome ?_
        have S₂₉ := S₂₈.tok (s₂₇.toks + (tk w).draws (zs rq) + (tk w).draws (zs rq))
        have ul : Upd (rvL (r1 ++ (rq, ra, rl, rvs) :: r2)) rl (LstP rvs) (LstP (rvs ++ [.ref a])) (rvL (r1 ++ (rq, ra, rl, rvs ++ [.ref a]) :: r2)) := by
          rw [rvL_mid, rvL_mid]; exact Upd.over Upd.head _
        refine ⟨rl, _, rfl, S₂₉.lst (.tail _ (.tail _ (.tail _ (List.mem_append_left _ ul.mem)))), ldc S₂₉ (c := Lf + 1) rfl (m6 (by walk_at "mem")) ?_⟩
        have hrall := hJ.all (rq, ra, rl, rvs) hr
        have hvl : rvs.length ≤ 101 := by rw [← hrall.2.length]; exact hrvJ _ _
        refine S_append S₂₉ (.tail (.tail (.tail (ul.appL _)))) (by omega) fun s₃₀ S₃₀ => ⟨rfl, wpAny_execs_nil (wpAny_execs_nil ⟨rfl, B'', [], _, ⟨rfl, rfl, r1 ++ (rq, ra, rl, rvs ++ [.ref a]) :: r2, some (.ref aq), rfl, ?_, ?_⟩, ?_⟩)⟩
        · rw [← hJ.keys]; simp
        · have hqn : rq ∉ (dnOf dl ys).take j := fun hm => by
            have h1 : (dnOf dl ys).take (j + 1) = (dnOf dl ys).take j ++ [rq] := take_snoc hq
            have h2 := h1 ▸ hdsn.sublist (List.take_sublist (j + 1) _)
            exact (List.nodup_append.mp h2).2.2 rq hm rq (by simp) rfl
          have hnk : (r1 ++ (rq, ra, rl, rvs) :: r2).map (·.1) |>.Nodup := by rw [hJ.keys]; exact hnd.sublist (List.take_sublist _ _)
          have other : ∀ r ∈ r1 ++ r2, r.1 ≠ rq := fun r hr' e => by
            rw [List.map_append, List.map_cons] at hnk
            obtain ⟨n1, n2, n3⟩ := List.nodup_append.mp hnk
            rcases List.mem_append.mp hr' with h | h
            · exact n3 r.1 (List.mem_map_of_mem h) rq (by simp) e
            · exact (List.nodup_cons.mp n2).1 (List.mem_map.mpr ⟨r, h, e⟩)
          have keep : ∀ r ∈ r1 ++ r2, TupV B''.heap r.1 (.ref r.2.1) ∧ Paired (TupV B''.heap) (rvJ dl (xss.take i) ys ((dnOf dl ys).take (j + 1)) r.1) r.2.2.2 := fun r hr' => by
            obtain ⟨h1, h2⟩ := hJ.all r (by
              rcases List.mem_append.mp hr' with h | h
              · exact List.mem_append_left _ h
              · exact List.mem_append_right _ (.tail _ h))
            refine ⟨h1, ?_⟩
            have hne := other r hr'
            have : rvJ dl (xss.take i) ys ((dnOf dl ys).take (j + 1)) r.1 = rvJ dl (xss.take i) ys ((dnOf dl ys).take j) r.1 := by
              unfold rvJ
              congr 1
              rw [take_snoc hq]
              by_cases h : r.1 ∈ (dnOf dl ys).take j <;> simp [h, hne]
            rw [this]; exact h2
          intro r hr'
          rcases List.mem_append.mp hr' with h | h
          · exact keep r (List.mem_append_left _ h)
          · rcases List.mem_cons.mp h with rfl | h
            · refine ⟨hrall.1, ?_⟩
              have : rvJ dl (xss.take i) ys ((dnOf dl ys).take (j + 1)) rq = rvJ dl (xss.take i) ys ((dnOf dl ys).take j) rq ++ [ys] := by
                unfold rvJ
                rw [take_snoc hq, if_neg hqn, if_pos (by simp), List.append_nil]
              rw [this]
              exact hrall.2.snoc hK
            · exact keep r (List.mem_append_right _ h)
        · have eX2 : rvX (r1 ++ (rq, ra, rl, rvs) :: (r2 ++ [(ys, a, nl, [])])) = rvX (r1 ++ (rq, ra, rl, rvs ++ [.ref a]) :: r2 ++ [(ys, a, nl, [])]) := by simp [rvX]
          rw [eX2] at S₃₀
          exact S₃₀
      · rintro B'' D L s₂₆ ⟨rfl, rfl, rsj, o6', rfl, hJ⟩ S₂₆
        rw [show (dnOf dl ys).take out.length = dnOf dl ys from List.take_of_length_le (by omega)] at hJ
        have S₂₇ := S₂₆.drop (L' := rvL (rsj ++ [(ys, a, nl, [])]) ++ (it, ItP d (i + 1) es.size ep) :: iL w rdy rv ig Lf dx rdv' (rvX (rsj ++ [(ys, a, nl, [])])) (igX is') (some (.ref a)) [some (.ref x), some (.ref d), some (.ref ig), some (.ref rv), some (.ref rdy), some (.ref dv), o6', some (.int (((dnOf dl ys).length : Nat) : Int) (s₁₅.toks + 1))])
          (by rw [rvL_snoc]; exact .cons_cons _ (.cons _ (List.Sublist.refl _)))
        refine wpAny_execs_nil ⟨rfl, B'', _, _, ⟨rfl, is', rsj ++ [(ys, a, nl, [])], rdv', _, _, _, _, rfl, rfl, hI', ⟨?_, fun r hr => ?_⟩, hY'⟩, S₂₇⟩
        · rw [List.map_append, hJ.keys, htk]; rfl
        · rw [htk, rvOf_snoc]
          rcases List.mem_append.mp hr with hr | hr
          · exact hJ.all r hr
          · rw [List.mem_singleton] at hr
            subst hr
            refine ⟨hK, ?_⟩
            have : rvJ dl (xss.take i) ys (dnOf dl ys) ys = [] := by
              unfold rvJ rvOf
              have h1 : ys ∉ dnOf dl ys := fun hm => by
                have := (List.mem_filter.mp hm).2
                simp at this
              rw [if_neg h1, List.append_nil, List.filter_eq_nil_iff]
              intro q hq hm
              rw [decide_eq_true_eq] at hm
              obtain ⟨k, hk⟩ := List.mem_iff_getElem?.mp hq
              have hki : k < i := by have := (List.getElem?_eq_some_iff.mp hk).1; rw [List.length_take] at this; omega
              rw [List.getElem?_take_of_lt hki] at hk
              have := htop k q hk ys hm
              have h2 : (xss.take k).Sublist (xss.take i) := by
                rw [show xss.take k = (xss.take i).take k by rw [List.take_take]; congr 1; omega]
                exact List.take_sublist _ _
              exact hno (h2.subset this)
            rw [this]; exact .nil
      · have := (hV.all r hr).2
        simpa [rvJ] using this
  · rintro B' D L s₁₁ ⟨rfl, is, rs, rdv, c, o5, o6, o7, rfl, rfl, hI, hV, hY⟩ S₁₁
    rw [List.take_of_length_le (by omega)] at hI hV hY
    replace S₁₁ : St B' KAll (EqG B') (rvL rs ++ iL w rdy rv ig Lf dx rdv (rvX rs) (igX is) c [some (.ref x), some (.ref d), some (.ref ig), some (.ref rv), some (.ref rdy), o5, o6, o7]) s₁₁ := S₁₁
    have mm : ∀ {p : Addr × OP} {l : Ledger}, p ∈ l → p ∈ rvL rs ++ l := fun h => List.mem_append_right _ h
    have hisl : is.length = xss.length := by rw [← List.length_map (f := fun r : List Nat × Addr × Nat × Tok => r.1), hI.keys]
    have hrdl : rdv.length = (rdOf dl xss).length := hY.length.symm
    have hrd2 : (rdOf dl xss).length ≤ xss.length := List.length_filter_le _ _
    refine wpAny_execs_cons (plainObj_wpAny_Assign_Attribute (ldl S₁₁ (mm (by walk_at "mem")) (by walk_at "lg") (ldl S₁₁ (mm (by walk_at "mem")) (by walk_at "lg") ?_)))
    refine set_at S₁₁ T X (Upd.over (l := iL ..) (.tail (.tail (.tail (.tail (.tail .head))))) (rvL rs)) (mA_i _ _ _ _ _) (mA_within _ _ _ _) (by simp) lk_in_degree fun s₁₂ S₁₂ => ?_
    refine wpAny_execs_cons (plainObj_wpAny_Assign_Attribute (ldl S₁₂ (mm (by walk_at "mem")) (by walk_at "lg") (ldl S₁₂ (mm (by walk_at "mem")) (by walk_at "lg") ?_)))
    refine set_at S₁₂ T X (Upd.over (.tail (.tail (.tail (.tail (.tail .head))))) (rvL rs)) (mA_r _ _ _ _ _) (mA_within _ _ _ _) (by simp) lk_rev fun s₁₃ S₁₃ => ?_
    refine wpAny_execs_cons (plainObj_wpAny_Assign_Attribute (ldl S₁₃ (mm (by walk_at "mem")) (by walk_at "lg") (ldl S₁₃ (mm (by walk_at "mem")) (by walk_at "lg") ?_)))
    refine set_at S₁₃ T X (Upd.over (.tail (.tail (.tail (.tail (.tail .head))))) (rvL rs)) (mA_y _ _ _ _ _) (mA_within _ _ _ _) (by simp) lk_ready fun s₁₄ S₁₄ => ?_
    obtain ⟨es', ep', hraw, hrs⟩ := raw_of (S₁₄.td (d := ig) (xs := igX is) (mm (by walk_at "mem")) (hI.keysIn.keeps S₁₄.hk))
    have hesz : es'.size = xss.length := by rw [hrs]; simp [igX, hisl]
    refine wpAny_execs_cons (plainObj_wpAny_Assign_Attribute (wpAny_BinOp (call1 (lblt (hg.keeps S₁₄.hk) (gm _ (by decide)) (hb.keeps S₁₄.hk) b1 (ldl S₁₄ (mm (by walk_at "mem")) (by walk_at "lg") ⟨trivial, ?_⟩)))))
    refine len_raw higs hraw (by omega) fun t₁ k₁ => ?_
    have S₁₅ := S₁₄.tok k₁
    refine call1 (lblt (hg.keeps S₁₅.hk) (gm _ (by decide)) (hb.keeps S₁₅.hk) b1 (ldl S₁₅ (mm (by walk_at "mem")) (by walk_at "lg") ⟨trivial, ?_⟩))
    refine lenL (S₁₅.lst (mm (.head _))).isList (by simp; omega) ?_
    have S₁₆ := S₁₅.tok (k₁ + 1 + 1)
    rw [show ((rdv.toArray.size : Nat) : Int) = (((rdOf dl xss).length : Nat) : Int) by simp [hrdl], hesz]
    refine n_sub hrd2 fun t₂ k₂ => ?_
    have S₁₇ := S₁₆.tok k₂
    refine ldl S₁₇ (mm (by walk_at "mem")) (by walk_at "lg") ?_
    refine set_at S₁₇ T X (Upd.over (.tail (.tail (.tail (.tail (.tail .head))))) (rvL rs)) (mA_n _ _ _ _ _) (mA_within _ _ _ _) (by simp) lk_remaining fun s₁₈ S₁₈ => wpAny_execs_nil ?_
    have hsub : ([(ig, TdP w (igX is)), (dx, AtP (mA (some (.ref ig)) (some (.ref rv)) (some (.ref rdy)) (some (.int ((xss.length - (rdOf dl xss).length : Nat) : Int) t₂))))] : Ledger).Sublist
        (rvL rs ++ [(rdy, LstP rdv), (rv, TdP w (rvX rs)), (ig, TdP w (igX is)), (Lf + 1, CellP c), (Lf, LocP ksI [some (.ref x), some (.ref d), some (.ref ig), some (.ref rv), some (.ref rdy), o5, o6, o7]), (dx, AtP (mA (some (.ref ig)) (some (.ref rv)) (some (.ref rdy)) (some (.int ((xss.length - (rdOf dl xss).length : Nat) : Int) t₂))))]) :=
      List.Sublist.trans (.cons _ (.cons _ (.cons_cons _ (.cons _ (.cons _ (.cons_cons _ .slnil)))))) (List.sublist_append_right _ _)
    have ho := S₁₈.ord
    rw [List.map_append, List.pairwise_append] at ho
    have hrvne : ∀ p ∈ ([(ig, TdP w (igX is)), (dx, AtP (mA (some (.ref ig)) (some (.ref rv)) (some (.ref rdy)) (some (.int ((xss.length - (rdOf dl xss).length : Nat) : Int) t₂))))] : Ledger), ∀ a, (@LT.lt Nat _ p.1 a) → p.1 ≠ a := fun p _ a h => Nat.ne_of_lt h
    obtain ⟨B₂, hS₂, S₁₉, hfr⟩ := S₁₈.froze hsub
    have rvge : ∀ p ∈ ([(ig, TdP w (igX is)), (dx, AtP (mA (some (.ref ig)) (some (.ref rv)) (some (.ref rdy)) (some (.int ((xss.length - (rdOf dl xss).length : Nat) : Int) t₂))))] : Ledger), @LT.lt Nat _ p.1 rv ∧ @LT.lt Nat _ p.1 rdy := fun p hp => by
      have q1 := List.pairwise_cons.mp ho.2.1
      have q2 := List.pairwise_cons.mp q1.2
      simp only [List.mem_cons, List.not_mem_nil, or_false] at hp
      rcases hp with rfl | rfl
      · exact ⟨q2.1 ig (by simp), q1.1 ig (by simp)⟩
      · exact ⟨q2.1 dx (by simp), q1.1 dx (by simp)⟩
    refine hR s₁₈ ig rv rdy is t₂ B₂ hS₂ S₁₉ ⟨hI.keys, fun r hr => ⟨stays_nat.tuple _ _ _ _ (hI.all r hr).1 hS₂.keep, (hI.all r hr).2⟩⟩ ⟨rs, ?_, hV.keys, fun r hr => ⟨stays_nat.tuple _ _ _ _ (hV.all r hr).1 hS₂.keep, ?_⟩⟩ ?_ ?_
    · obtain ⟨o, ho', es, ep, h1, h2, h3, h4⟩ := S₁₈.get (a := rv) (P := TdP w (rvX rs)) (mm (by walk_at "mem"))
      exact ⟨o, es, ep, hfr _ _ ho' fun p hp => Nat.ne_of_lt (rvge p hp).1, h1, h2, h3, hV.keysIn.keeps hS₂.keep, h4⟩
    · have hm : (r.2.2.1, LstP r.2.2.2) ∈ rvL rs := List.mem_reverse.mpr (List.mem_map.mpr ⟨r, hr, rfl⟩)
      obtain ⟨n, hn⟩ := S₁₈.lst (List.mem_append_left _ hm)
      refine ⟨_, _, rfl, ⟨n, hfr _ _ hn fun p hp => ?_⟩, Mine.Paired.mono (hV.all r hr).2 fun _ _ h => stays_nat.tuple _ _ _ _ h hS₂.keep⟩
      have h1 := ho.2.2 r.2.2.1 (List.mem_map_of_mem (f := (·.1)) hm) rdy (by simp)
      have h2 := (rvge p hp).2
      have h1' : @LT.lt Nat _ rdy r.2.2.1 := h1
      exact Nat.ne_of_lt (Nat.lt_trans h2 h1')
    · obtain ⟨n, hn⟩ := S₁₈.lst (a := rdy) (vs := rdv) (mm (.head _))
      exact ⟨_, _, rfl, ⟨n, hfr _ _ hn fun p hp => Nat.ne_of_lt (rvge p hp).2⟩, Mine.Paired.mono hY fun _ _ h => stays_nat.tuple _ _ _ _ h hS₂.keep⟩
    · exact hrvLf
end Mine
end

section
open PySem PySem.W PyProof.Rows
set_option Elab.async false
set_option maxRecDepth 100000
namespace Mine
local macro_rules | `(tactic| walk_at "mem") => `(tactic| repeat (first | exact List.Mem.head _ | apply List.Mem.tail))
local macro_rules | `(tactic| walk_at "lg") => `(tactic| repeat (first | (with_reducible exact LG.head) | apply LG.tail))
local macro_rules | `(tactic| walk_at "upd") => `(tactic| repeat (first | exact Upd.head | apply Upd.tail))
local macro_rules | `(tactic| walk_at "ls") => `(tactic| repeat (first | (with_reducible exact LS.head) | apply LS.tail))

/-- one step of Kahn's counting -/
def kstep (p : (List Nat → Nat) × List (List Nat)) (q : List Nat) : (List Nat → Nat) × List (List Nat) :=
  (fun y => if y = q then p.1 q - 1 else p.1 y, if p.1 q - 1 = 0 then p.2 ++ [q] else p.2)
def kfold (deg : List Nat → Nat) (qs : List (List Nat)) : (List Nat → Nat) × List (List Nat) := qs.foldl kstep (deg, [])
theorem kfold_snoc (deg : List Nat → Nat) (qs : List (List Nat)) (q : List Nat) : kfold deg (qs ++ [q]) = kstep (kfold deg qs) q := by unfold kfold; rw [List.foldl_append]; rfl

theorem St.again {B s s' : Shared} {L : Ledger} (S : St B KAll (EqG B) L s) (h1 : ∀ b o, B.heap.get? b = some o → s'.heap.get? b = some o) (h2 : ∀ p ∈ L, ∃ o, s'.heap.get? p.1 = some o ∧ p.2 o) (hd : s'.drawn = s.drawn) (ho : s'.os = s.os) (hg : s'.gens = s.gens) : St B KAll (EqG B) L s' :=
  ⟨fun b o e _ => h1 b o e, S.own, h2, S.ord, fun b o e => ⟨o, h1 b o e⟩, hd.trans S.drawn, ho.trans S.os, (show s'.gens = B.gens from hg.trans S.gens)⟩

abbrev ksN : List Str := ["self", "ready", "in_degree", "rev", "new_ready", "item", "dependent", "new_deg"]

/-- the call of a function without cells; it may raise -/
theorem call_fnR {prog : Program} {w : World} {A : Around} {s : Shared} {R : Result → Shared → Prop} {a : Addr} {fd : FuncData} {body : List Stmt} {args : List Value} {binds : List (Str × Value)} {ks : List Str} {vs : List (Option Value)}
    (hf : FnOk s.heap a fd) (hroom : A.depth < recursionLimit) (hlim : s.heap.NoLimit)
    (hbody : fd.body = .stmts body) (hbind : bindArgs fd ⟨args, []⟩ = pure binds)
    (hloc : (binds.all fun x => decide (fd.scope.names.lookup x.1 = some .local)) = true) (hks : ks.map (fun x => binds.reverse.lookup x) = vs)
    (h : ∀ s₁, St s KAll (EqG s) [(s.heap.objs.size, LocP ks vs)] s₁ →
      wpAny (model prog w) (A.deeper (fnEnv fd s.heap.objs.size a)) (execs body (fnEnv fd s.heap.objs.size a))
        (fun f s' => R (.ok (.ret (match f with | .ret v => v | _ => .none))) s')
        (fun e s' => wpAny (model prog w) (A.deeper (fnEnv fd s.heap.objs.size a)) (leaving (fnEnv fd s.heap.objs.size a) e) (fun _ s'' => R (.error e) s'') (fun e' s'' => R (.error e') s'') s') s₁)
    (hco : fd.scope.isCoroutine = false := by rfl) (hgen : fd.scope.isGenerator = false := by rfl) (hk : fd.scope.kind = .function := by rfl)
    (hcell : (fd.scope.names.all fun x => decide (x.2 ≠ .cell)) = true := by rfl) :
    codeAny (model prog w) A (.call (.ref a) ⟨args, []⟩) R s := by
  have hcell : ∀ x ∈ fd.scope.names, x.2 ≠ .cell := fun x hx => of_decide_eq_true (List.all_eq_true.mp hcell x hx)
  obtain ⟨o, ho, hdata, hcd⟩ := hf
  refine codeAny_call_function hroom ho hdata hco hgen hbody hcd ?_
  rw [hbind]
  refine wpAny_pure (wpAny_newFunctionEnv hcell (locs hloc) (fun h₁ hns hsb => ⟨hlim.fresh _ hsb, ?_⟩) hk)
  show codeAny _ _ (.func body (fnEnv fd s.heap.objs.size a)) _ _
  have hne : ∀ b o, s.heap.get? b = some o → b ≠ s.heap.objs.size := fun b o e => Nat.ne_of_lt (Heap.lt_size e)
  have S₁ : St s KAll (EqG s) [(s.heap.objs.size, LocP ks vs)] { s with heap := h₁, toks := s.toks + binds.length } := by
    obtain ⟨o', ho', hN⟩ := ns_iff.mp hns
    exact (St.start s KAll).new ⟨h₁, _, rfl, fun b o e => hsb.extBut b o (hne b o e) (Heap.get?_push_of_some _ e)⟩ (Nat.le_refl _) ho' ⟨_, hN, hks⟩
  exact codeAny_func (h _ S₁)

theorem led_one : ∀ {L : Ledger}, (L.map (·.1)).Pairwise (· > ·) → ∀ {p q : Addr × OP}, p ∈ L → q ∈ L → p.1 = q.1 → p = q
  | x :: l, h, p, q, hp, hq, e => by
    rw [List.map_cons] at h
    obtain ⟨h1, h2⟩ := List.pairwise_cons.mp h
    have e' : @Eq Nat p.1 q.1 := e
    rcases List.mem_cons.mp hp with hp' | hp'
    · rcases List.mem_cons.mp hq with hq' | hq'
      · rw [hp', hq']
      · have : @GT.gt Nat _ x.1 q.1 := h1 q.1 (List.mem_map_of_mem hq')
        rw [hp'] at e'
        omega
    · rcases List.mem_cons.mp hq with hq' | hq'
      · have : @GT.gt Nat _ x.1 p.1 := h1 p.1 (List.mem_map_of_mem hp')
        rw [hq'] at e'
        omega
      · exact led_one h2 hp' hq' e
theorem LocP.slots {ks : List Str} {vs : List (Option Value)} {o : Obj} {sl : Array (Option Value)} (x : LocP ks vs o) : LocP ks vs { o with slots := sl } := by
  obtain ⟨m, ⟨es, ep, h1, h2⟩, h3⟩ := x
  exact ⟨m, ⟨es, ep, h1, h2⟩, h3⟩
theorem LocP.noFields {ks : List Str} {vs : List (Option Value)} {o : Obj} (x : LocP ks vs o) : ∀ vs', o.data ≠ .fields vs' := by
  obtain ⟨m, ⟨es, ep, h1, h2⟩, h3⟩ := x
  intro vs' e
  rw [h1] at e; cases e

/-- StopIteration leaves a frame over one frame -/
theorem leave_stop {M : Model} {A : Around} {E : Value → Shared → Prop} {B s : Shared} {Q : Unit → Shared → Prop} {env fenv : Env} {Lf La e : Addr} {ks ks' : List Str} {vs vs' : List (Option Value)} {L : Ledger}
    (S : St B KAll (EqG B) ((Lf, LocP ks' vs') :: L) s) (hLa : (La, LocP ks vs) ∈ L) (hfr : A.frames = some [env, fenv]) (he1 : env.frame = some Lf) (he2 : env.scope.kind = .function) (hf1 : fenv.frame = some La) (hf2 : fenv.scope.kind = .function)
    {h' : Heap} (hm : Heap.MadeExc s.heap h' e "StopIteration" [])
    (h : ∀ s', St B KAll (EqG B) L s' → s'.TypeIs (.ref e) "StopIteration" → Q () s') : wpAny M A (leaving env (.ref e)) Q E { s with heap := h' } := by
  have S₆ : St B KAll (EqG B) ((Lf, LocP ks' vs') :: L) { s with heap := h' } := S.keeps ⟨h', s.toks, rfl, hm.keeps⟩
  obtain ⟨oL, hoL, hPL⟩ := S₆.get (a := Lf) (P := LocP ks' vs') (.head _)
  obtain ⟨oA, hoA, hPA⟩ := S₆.get (a := La) (P := LocP ks vs) (.tail _ hLa)
  obtain ⟨t, ht, _⟩ := hm.there
  refine wpAny_leaving_first (base := hideAll h' [Lf, La, e]) (s := { s with heap := h' }) hfr ⟨by rw [he2]; decide, ⟨Lf, oL, he1, hideAll_none _ (by simp), hoL, hPL.noFields⟩, by rw [hf2]; decide, ⟨La, oA, hf1, hideAll_none _ (by simp), hoA, hPA.noFields⟩, trivial⟩ he1 ht
    (fun b o hb => of_hideAll _ hb) (hideAll_none _ (by simp)) rfl rfl fun h₂ hL => ?_
  obtain ⟨hb, _, ⟨oe, vs₂, T, oT, ts, q1, q2, _⟩, hsl⟩ := hL
  have S₇ : St B KAll (EqG B) L { s with heap := h' } := S₆.drop (List.sublist_cons_self _ _)
  have hne : ∀ {b : Addr} {o : Obj}, s.heap.get? b = some o → b ≠ e := fun {b o} hbo q => by rw [q, hm.new] at hbo; cases hbo
  refine h _ (S₇.again (fun b o hbo => hb b o (hideAll_get _ (S₆.hk b o hbo) ?_)) (fun p hp => ?_) rfl rfl rfl) ⟨oe, q1, q2⟩
  · intro hmem
    simp only [List.mem_cons, List.not_mem_nil, or_false] at hmem
    rcases hmem with rfl | rfl | rfl
    · rw [get?_none_of S₆ (a := b) (P := LocP ks' vs') (.head _)] at hbo; cases hbo
    · rw [get?_none_of S₆ (a := b) (P := LocP ks vs) (.tail _ hLa)] at hbo; cases hbo
    · exact hne (S.hk b o hbo) rfl
  · by_cases hpa : p.1 = La
    · have e1 : p = (La, LocP ks vs) := led_one S₇.ord hp hLa hpa
      subst e1
      obtain ⟨sl, hsl'⟩ := hsl La oA hoA hPA.noFields
      exact ⟨_, hsl', hPA.slots⟩
    · obtain ⟨o, ho, hP⟩ := S₇.led p hp
      refine ⟨o, hb p.1 o (hideAll_get _ ho ?_), hP⟩
      intro hmem
      simp only [List.mem_cons, List.not_mem_nil, or_false] at hmem
      rcases hmem with h1 | h1 | h1
      · have h2 : @GT.gt Nat _ Lf p.1 := (List.pairwise_cons.mp S₆.ord).1 p.1 (List.mem_map_of_mem hp)
        have h1' : @Eq Nat p.1 Lf := h1
        omega
      · exact hpa h1
      · obtain ⟨o', ho', _⟩ := S.led p (.tail _ hp)
        exact hne ho' h1

theorem td_keeps {w : World} {h h' : Heap} {d : Addr} {xs : List (List Int × Addr × Value)} (x : h.DictOfH (tk w) d xs) (hk : ∀ b o, h.get? b = some o → h'.get? b = some o) : h'.DictOfH (tk w) d xs := by
  obtain ⟨o, es, ep, a, b, c, d, e, f⟩ := x
  exact ⟨o, es, ep, hk _ _ a, b, c, d, fun y hy => Mine.IsTupleKey.mono (e y hy) hk, f⟩
theorem igX_put {i1 i2 : IgR} {p : List Nat} {pa : Addr} {n m : Nat} {t u : Tok} (h : ∀ r ∈ i1 ++ i2, r.1 ≠ p) :
    (igX (i1 ++ (p, pa, n, t) :: i2)).map (putAt (zs p) (.int ((m : Nat) : Int) u)) = igX (i1 ++ (p, pa, m, u) :: i2) := by
  have other : ∀ l : IgR, (∀ r ∈ l, r.1 ≠ p) → (igX l).map (putAt (zs p) (.int ((m : Nat) : Int) u)) = igX l := by
    intro l hl
    induction l with
    | nil => rfl
    | cons r l ih =>
      have h1 := ih fun r hr => hl r (.tail _ hr)
      unfold igX at h1 ⊢
      rw [List.map_cons, List.map_cons, h1]
      congr 1
      unfold putAt
      rw [if_neg fun e => hl r (.head _) (zs_inj e)]
  have e1 := other i1 fun r hr => h r (List.mem_append_left _ hr)
  have e2 := other i2 fun r hr => h r (List.mem_append_right _ hr)
  unfold igX at e1 e2 ⊢
  rw [List.map_append, List.map_append, e1, List.map_cons, List.map_cons, e2, List.map_append, List.map_cons]
  congr 2
  unfold putAt
  rw [if_pos rfl]
theorem n_isub {prog : Program} {w : World} {A : Around} {E : Value → Shared → Prop} {s : Shared} {a b : Nat} {t u : Tok} {Q : Value → Shared → Prop} (hb : b ≤ a) (h : ∀ t k, Q (.int ((a - b : Nat) : Int) t) { s with toks := k }) : wpAny (model prog w) A (inplaceOp .Sub (.int (a : Int) t) (.int (b : Int) u)) Q E s :=
  AutoIntOps.isub_0 (by have := h s.toks (s.toks + 1); rw [Int.ofNat_sub hb] at this; exact this)
theorem InI.keeps {h h' : Heap} {ps : List (List Nat)} {deg : List Nat → Nat} {is : IgR} (x : InI h ps deg is) (hk : ∀ b o, h.get? b = some o → h'.get? b = some o) : InI h' ps deg is := ⟨x.keys, fun r hr => ⟨stays_nat.tuple _ _ _ _ (x.all r hr).1 hk, (x.all r hr).2⟩⟩
theorem RevF.keeps {w : World} {h h' : Heap} {rv : Addr} {ps : List (List Nat)} {rvf : List Nat → List (List Nat)} (x : RevF w h rv ps rvf) (hk : ∀ b o, h.get? b = some o → h'.get? b = some o) : RevF w h' rv ps rvf :=
  let ⟨rs, a, b, c⟩ := x; ⟨rs, td_keeps a hk, b, fun r hr => ⟨stays_nat.tuple _ _ _ _ (c r hr).1 hk, stays_nat.tuple.list _ _ _ _ (c r hr).2 hk⟩⟩
theorem kfold_length (deg : List Nat → Nat) (qs : List (List Nat)) : (kfold deg qs).2.length ≤ qs.length := by
  have : ∀ (qs : List (List Nat)) (p : (List Nat → Nat) × List (List Nat)), (qs.foldl kstep p).2.length ≤ p.2.length + qs.length := by
    intro qs
    induction qs with
    | nil => intro p; simp
    | cons q qs ih =>
      intro p
      rw [List.foldl_cons]
      refine Nat.le_trans (ih _) ?_
      have : (kstep p q).2.length ≤ p.2.length + 1 := by
        unfold kstep
        dsimp only
        split <;> simp
      simp only [List.length_cons]
      omega
  simpa [kfold] using this qs (deg, [])

/-- what the object holds -/
structure TopD (w : World) (B : Shared) (x dx ig rv rdy : Addr) (xss : List (List Nat)) (rvf : List Nat → List (List Nat)) (deg : List Nat → Nat) (ready : List (List Nat)) (is : IgR) : Prop where
  t : TopoIn B.heap
  n : Names B.heap
  x : XObj B.heap x dx
  i : InI B.heap xss deg is
  r : RevF w B.heap rv xss rvf
  y : LsV TupV B.heap ready (.ref rdy)

theorem TopD.keeps {w : World} {B B' : Shared} {x dx ig rv rdy : Addr} {xss : List (List Nat)} {rvf : List Nat → List (List Nat)} {deg : List Nat → Nat} {ready : List (List Nat)} {is : IgR} (D : TopD w B x dx ig rv rdy xss rvf deg ready is) (k : ∀ b o, B.heap.get? b = some o → B'.heap.get? b = some o) :
    TopD w B' x dx ig rv rdy xss rvf deg ready is :=
  ⟨D.t.keeps k, ⟨(D.n.keeps k).lim, (D.n.keeps k).ex⟩, D.x.keeps k, D.i.keeps k, D.r.keeps k, stays_nat.tuple.list _ _ _ _ D.y k⟩

theorem next_ok {w : World} {A : Around} {B s : Shared} {R : Result → Shared → Prop} {x dx ig rv rdy La : Addr} {xss : List (List Nat)} {rvf : List Nat → List (List Nat)} {deg : List Nat → Nat} {ready : List (List Nat)} {is : IgR} {rem : Nat} {t : Tok} {Lx Ly : Ledger} {fenv : Env} {ks : List Str} {vs : List (Option Value)}
    (D : TopD w B x dx ig rv rdy xss rvf deg ready is)
    (S : St B KAll (EqG B) (Lx ++ (ig, TdP w (igX is)) :: (dx, AtP (mA (some (.ref ig)) (some (.ref rv)) (some (.ref rdy)) (some (.int (rem : Int) t)))) :: Ly) s)
    (hnd : xss.Nodup) (hlen : xss.length ≤ 100) (hrl : ready.length ≤ 100) (hrv : ∀ q ∈ ready, q ∈ xss ∧ (rvf q).length ≤ 100 ∧ ∀ p ∈ rvf q, p ∈ xss)
    (hpos : ∀ pre q post, ready.flatMap rvf = pre ++ q :: post → 1 ≤ (kfold deg pre).1 q) (hnl : (kfold deg (ready.flatMap rvf)).2.length ≤ rem) (hrem : ready = [] → rem = 0)
    (hh : A.handled = none) (hd : A.depth < 900) (hu : A.units < 9000)
    (hfr : A.frames = some [fenv]) (hfk : fenv.scope.kind = .function) (hff : fenv.frame = some La) (hLa : (La, LocP ks vs) ∈ Lx ++ Ly)
    (hret : ready ≠ [] → ∀ s' B' nr is' t', Sub B B' → St B' KAll (EqG B') (Lx ++ (ig, TdP w (igX is')) :: (dx, AtP (mA (some (.ref ig)) (some (.ref rv)) (some (.ref nr)) (some (.int ((rem - (kfold deg (ready.flatMap rvf)).2.length : Nat) : Int) t')))) :: Ly) s' →
      TopD w B' x dx ig rv nr xss rvf (kfold deg (ready.flatMap rvf)).1 (kfold deg (ready.flatMap rvf)).2 is' → R (.ok (.ret (.ref rdy))) s')
    (hstop : ready = [] → ∀ s' e, St B KAll (EqG B) (Lx ++ (ig, TdP w (igX is)) :: (dx, AtP (mA (some (.ref ig)) (some (.ref rv)) (some (.ref rdy)) (some (.int (rem : Int) t)))) :: Ly) s' → s'.TypeIs e "StopIteration" → R (.error e) s') :
    codeAny (model pw w) A (.call (.ref 54) ⟨[.ref x], []⟩) R s := by
  obtain ⟨pm, cd, doc, hf, _⟩ := D.t.fn
  refine call_fnR (ks := ksN) (vs := [some (.ref x), none, none, none, none, none, none, none]) (hf.keeps S.hk) (by simp only [recursionLimit]; omega) (D.n.lim.keeps S.hk) rfl (next_bind _ _ _ _) rfl rfl (fun s₁ S₁ => ?_)
  generalize hLf : s.heap.objs.size = Lf at *
  have S₂ := S.stack S₁ (by
    intro p hp
    rw [List.mem_singleton] at hp
    subst hp
    show @LE.le Nat _ _ Lf
    omega)
  replace S₂ : St B KAll (EqG B) ((Lf, LocP ksN [some (.ref x), none, none, none, none, none, none, none]) :: (Lx ++ (ig, TdP w (igX is)) :: (dx, AtP (mA (some (.ref ig)) (some (.ref rv)) (some (.ref rdy)) (some (.int (rem : Int) t)))) :: Ly)) s₁ := S₂
  have hh' : (A.deeper (fnEnv (nextFd pm cd doc) Lf 54)).handled = none := hh
  have hu' : (A.deeper (fnEnv (nextFd pm cd doc) Lf 54)).units < 9010 := by rw [Around.deeper_units]; omega
  have hfr' : (A.deeper (fnEnv (nextFd pm cd doc) Lf 54)).frames = some [fnEnv (nextFd pm cd doc) Lf 54, fenv] := by
    show A.frames.map _ = _
    rw [hfr]; rfl
  generalize hA' : A.deeper (fnEnv (nextFd pm cd doc) Lf 54) = A' at *
  obtain ⟨mg, mb, hg, hb, g1, g2, g3, g4, g5, gm, b1, b2, b3, b4, b5, b6, b7, b8⟩ := D.n.ex
  have m1 : ∀ {p : Addr × OP} {l : Ledger}, p ∈ l → p ∈ (Lf, LocP ksN [some (.ref x), none, none, none, none, none, none, none]) :: Lx ++ l := fun h => .tail _ (List.mem_append_right _ h)
  -- ready = self.ready
  refine wpAny_execs_cons (wpAny_Assign_Name (Attribute_Name_ (ldl S₂ (.head _) (by walk_at "lg") ?_)))
  refine get_at (D.t.keeps S₂.hk) (D.x.keeps S₂.hk) (S₂.get (m1 (.tail _ (.head _)))) (v := .ref rdy) rfl rfl (by simp) lk_ready ?_
  refine stl (S₂.tok _) (.head) (by walk_at "ls") (by decide) fun s₃ S₃ => ?_
  have hfB : ∀ {s' : Shared} {L : Ledger}, St B KAll (EqG B) L s' → LsV TupV s'.heap ready (.ref rdy) := fun S => stays_nat.tuple.list _ _ _ _ D.y S.hk
  obtain ⟨l, yv, e, hyl, hyv⟩ := id D.y
  cases e
  have hylen : ready.length = yv.length := hyv.length
  by_cases hre : ready = []
  · -- the end
    have hy0 : yv = [] := by cases yv with
      | nil => rfl
      | cons _ _ => rw [hre] at hylen; simp at hylen
    subst hy0
    refine wpAny_execs_cons (wpAny_If (wpAny_isTrue_Not (wpAny_isTrue_value (ldl S₃ (.head _) (by walk_at "lg") ?_))))
    refine wpAny_truthy_list (PlainList.keeps hyl S₃.hk).isList (by simp) ?_
    show wpAny _ _ _ _ _ _
    have S₄ := S₃.tok (s₁.toks + 1 + 1 + 1)
    have S₄ := S₃.tok (s₃.toks + 1 + 1)
    refine wpAny_execs_cons (wpAny_Assert_holds (wpAny_isTrue_Compare1 (Attribute_Name_ (ldl S₄ (.head _) (by walk_at "lg") ?_))))
    refine get_at (D.t.keeps S₄.hk) (D.x.keeps S₄.hk) (S₄.get (a := dx) (P := AtP (mA (some (.ref ig)) (some (.ref rv)) (some (.ref rdy)) (some (.int (rem : Int) t)))) (.tail _ (List.mem_append_right _ (.tail _ (.head _))))) (v := .int (rem : Int) t) rfl rfl (by simp) lk_remaining ?_
    refine wpAny_Constant_int ?_
    have S₅ := S₄.tok (s₃.toks + 1 + 1 + 1 + 1)
    refine eq_rd enc_pI rd_nat (a := rem) (b := 0) ⟨_, rfl⟩ ⟨_, rfl⟩ (by simp only [cLine]; omega) (wpAny_truthy_bool ⟨by simpa using hrem hre, ?_⟩)
    refine wpAny_execs_cons (owsi_raiseC hh' (lblt (hg.keeps S₅.hk) (gm _ (by decide)) (hb.keeps S₅.hk) b8 ⟨rfl, rfl⟩) fun h' e hm => ?_)
    have hLa' : (La, LocP ks vs) ∈ Lx ++ (ig, TdP w (igX is)) :: (dx, AtP (mA (some (.ref ig)) (some (.ref rv)) (some (.ref rdy)) (some (.int (rem : Int) t)))) :: Ly := by
      rcases List.mem_append.mp hLa with h | h
      · exact List.mem_append_left _ h
      · exact List.mem_append_right _ (.tail _ (.tail _ h))
    exact leave_stop (env := fnEnv (nextFd pm cd doc) Lf 54) S₅ hLa' hfr' rfl rfl hff hfk hm fun s' S' hT => hstop hre s' _ S' hT
  · refine wpAny_execs_cons (wpAny_If (wpAny_isTrue_Not (wpAny_isTrue_value (ldl S₃ (.head _) (by walk_at "lg") ?_))))
    have hyne : yv.toArray.isEmpty = false := by
      cases yv with
      | nil => exact absurd (List.length_eq_zero_iff.mp hylen) hre
      | cons a b => rfl
    refine wpAny_truthy_list (PlainList.keeps hyl S₃.hk).isList (by simp; omega) ?_
    rw [hyne]
    show wpAny _ _ _ _ _ _
    refine wpAny_execs_nil ?_
    have S₄ := S₃.tok (s₃.toks + 1 + 1)
    have mdx : ∀ {p : Addr × OP} {m : Str → Option Value} {xi : List (List Int × Addr × Value)}, (dx, AtP m) ∈ p :: (Lx ++ (ig, TdP w xi) :: (dx, AtP m) :: Ly) := .tail _ (List.mem_append_right _ (.tail _ (.head _)))
    refine wpAny_execs_cons (wpAny_Assign_Name (Attribute_Name_ (ldl S₄ (.head _) (by walk_at "lg") ?_)))
    refine get_at (D.t.keeps S₄.hk) (D.x.keeps S₄.hk) (S₄.get (a := dx) (P := AtP (mA (some (.ref ig)) (some (.ref rv)) (some (.ref rdy)) (some (.int (rem : Int) t)))) mdx) (v := .ref ig) rfl rfl (by simp) lk_in_degree ?_
    refine stl (S₄.tok _) (.head) (by walk_at "ls") (by decide) fun s₅ S₅ => ?_
    refine wpAny_execs_cons (wpAny_Assign_Name (Attribute_Name_ (ldl S₅ (.head _) (by walk_at "lg") ?_)))
    refine get_at (D.t.keeps S₅.hk) (D.x.keeps S₅.hk) (S₅.get (a := dx) (P := AtP (mA (some (.ref ig)) (some (.ref rv)) (some (.ref rdy)) (some (.int (rem : Int) t)))) mdx) (v := .ref rv) rfl rfl (by simp) lk_rev ?_
    refine stl (S₅.tok _) (.head) (by walk_at "ls") (by decide) fun s₆ S₆ => ?_
    refine wpAny_execs_cons (wpAny_Assign_Name (S_List (wpAny_items_nil ⟨_, _, _, _, S₆, by simp, fun nr s₇ _ _ S₇ => ?_⟩)))
    refine stl S₇ (.tail .head) (by walk_at "ls") (by decide) fun s₈ S₈ => ?_
    clear S₃ S₄ S₅ S₆ S₇
    have hroom : (tk w).room A'.in1 := by show A'.in1.units < cLine; have : A'.in1.units ≤ A'.units + 3 := (by unfold Around.in1; simp); simp only [cLine]; omega
    obtain ⟨rs, hDr, hrk, hra⟩ := D.r
    refine wpAny_execs_cons (wpAny_For (ldl S₈ (.tail _ (.head _)) (by walk_at "lg") (S_iter S₈ (PlainList.keeps hyl S₈.hk) fun it s₉ _ _ S₉ => ?_)))
    refine forB (vals := yv) (it := it) hh' (fun i B' D' L => B' = B ∧ D' = [] ∧ ∃ nv is' o5 o6 o7, L = (nr, LstP nv) :: (Lf, LocP ksN [some (.ref x), some (.ref rdy), some (.ref ig), some (.ref rv), some (.ref nr), o5, o6, o7]) :: (Lx ++ (ig, TdP w (igX is')) :: (dx, AtP (mA (some (.ref ig)) (some (.ref rv)) (some (.ref rdy)) (some (.int (rem : Int) t)))) :: Ly) ∧
      InI B.heap xss (kfold deg ((ready.take i).flatMap rvf)).1 is' ∧ Paired (TupV B.heap) (kfold deg ((ready.take i).flatMap rvf)).2 nv) ?_ ?_ ?_ (D := []) ⟨rfl, rfl, [], is, none, none, none, rfl, D.i, .nil⟩ S₉
    · rintro i B' D' L s' ⟨rfl, _⟩ S'
      exact PlainList.keeps hyl S'.hk
    · rintro i v B' D' L s₁₀ hv ⟨rfl, rfl, nv, is', o5, o6, o7, rfl, hI, hN⟩ S₁₀
      obtain ⟨q, hq, hqv⟩ := paired_get hyv hv
      obtain ⟨aq, rfl, hqk⟩ := key_of (w := w) hqv
      obtain ⟨hqx, hql, hqp⟩ := hrv q (List.mem_of_getElem? hq)
      obtain ⟨r, hr, hrq⟩ := List.mem_map.mp (hrk ▸ hqx)
      obtain ⟨r1, r2, rfl⟩ := List.append_of_mem hr
      obtain ⟨rq, ra, rl, rvs⟩ := r
      have hrq : rq = q := hrq
      subst hrq
      have hsome : atKey (rvX (r1 ++ (rq, ra, rl, rvs) :: r2)) (zs rq) = some (ra, .ref rl) := keys_some (β := Addr × List Value) (f := fun p => Value.ref p.1) hrk hnd
      obtain ⟨_, l', rvals, e, hrl', hrp⟩ := hra (rq, ra, rl, rvs) hr
      cases e
      refine wpAny_assign_Name (stl S₁₀ (.tail (.tail .head)) (by walk_at "ls") (by decide) fun s₁₁ S₁₁ => ?_)
      refine wpAny_execs_cons (wpAny_For (sub_any (ldl S₁₁ (.tail _ (.tail _ (.head _))) (by walk_at "lg") (ldl S₁₁ (.tail _ (.tail _ (.head _))) (by walk_at "lg") ⟨on_td (td_keeps hDr S₁₁.hk), ?_⟩))))
      refine wpAny_getItem_heap (knd := tk w) hroom (Mine.IsTupleKey.mono hqk S₁₁.hk) (td_keeps hDr S₁₁.hk) hsome ?_
      have S₁₂ := S₁₁.tok (s₁₁.toks + (tk w).draws (zs rq))
      refine S_iter S₁₂ (PlainList.keeps hrl' S₁₂.hk) fun it2 s₁₃ _ _ S₁₃ => ?_
      have hrpl : (rvf rq).length = rvals.length := hrp.length
      refine forB (vals := rvals) (it := it2) hh' (fun j B'' D' L => B'' = B' ∧ D' = [] ∧ ∃ nv is' o6 o7, L = (it, LitP rdy (i + 1)) :: (nr, LstP nv) :: (Lf, LocP ksN [some (.ref x), some (.ref rdy), some (.ref ig), some (.ref rv), some (.ref nr), some (.ref aq), o6, o7]) :: (Lx ++ (ig, TdP w (igX is')) :: (dx, AtP (mA (some (.ref ig)) (some (.ref rv)) (some (.ref rdy)) (some (.int (rem : Int) t)))) :: Ly) ∧
        InI B'.heap xss (kfold deg ((ready.take i).flatMap rvf ++ (rvf rq).take j)).1 is' ∧ Paired (TupV B'.heap) (kfold deg ((ready.take i).flatMap rvf ++ (rvf rq).take j)).2 nv) ?_ ?_ ?_ (D := []) ⟨rfl, rfl, nv, is', o6, o7, rfl, by simpa using hI, by simpa using hN⟩ S₁₃
      · rintro j B'' D' L s' ⟨rfl, _⟩ S'
        exact PlainList.keeps hrl' S'.hk
      · rintro j v B'' D' L s₁₄ hv ⟨rfl, rfl, nv, is', o6, o7, rfl, hI, hN⟩ S₁₄
        obtain ⟨p, hp, hpv⟩ := paired_get hrp hv
        obtain ⟨ap, rfl, hpk⟩ := key_of (w := w) hpv
        have hpx : p ∈ xss := hqp p (List.mem_of_getElem? hp)
        obtain ⟨k, hk, hkp⟩ := List.mem_map.mp (hI.keys ▸ hpx)
        obtain ⟨i1, i2, rfl⟩ := List.append_of_mem hk
        obtain ⟨kp, ka, kn, kt⟩ := k
        have hkp : kp = p := hkp
        subst hkp
        have hk2 := (hI.all _ hk).2
        have hk2 : kn = (kfold deg ((ready.take i).flatMap rvf ++ (rvf rq).take j)).1 kp := hk2
        have hsplit : ready.flatMap rvf = ((ready.take i).flatMap rvf ++ (rvf rq).take j) ++ kp :: ((rvf rq).drop (j + 1) ++ (ready.drop (i + 1)).flatMap rvf) := by
          have e1 : ready = ready.take i ++ rq :: ready.drop (i + 1) := by
            obtain ⟨hi, e⟩ := List.getElem?_eq_some_iff.mp hq
            rw [← e, ← List.drop_eq_getElem_cons hi, List.take_append_drop]
          have e2 : rvf rq = (rvf rq).take j ++ kp :: (rvf rq).drop (j + 1) := by
            obtain ⟨hj, e⟩ := List.getElem?_eq_some_iff.mp hp
            rw [← e, ← List.drop_eq_getElem_cons hj, List.take_append_drop]
          conv => lhs; rw [e1, List.flatMap_append, List.flatMap_cons, e2]
          simp
        have hpos1 := hpos _ _ _ hsplit
        rw [← hk2] at hpos1
        have hks : kfold deg ((ready.take i).flatMap rvf ++ (rvf rq).take (j + 1)) = kstep (kfold deg ((ready.take i).flatMap rvf ++ (rvf rq).take j)) kp := by
          rw [take_snoc hp, ← List.append_assoc, kfold_snoc]
        have hsome2 : atKey (igX (i1 ++ (kp, ka, kn, kt) :: i2)) (zs kp) = some (ka, .int ((kn : Nat) : Int) kt) := keys_some (β := Nat × Tok) (f := fun p => Value.int ((p.1 : Nat) : Int) p.2) hI.keys hnd
        have mL : ∀ {p q r : Addr × OP} {l : Ledger} {pp : Addr × OP}, pp ∈ l → pp ∈ p :: q :: r :: (Lf, LocP ksN [some (.ref x), some (.ref rdy), some (.ref ig), some (.ref rv), some (.ref nr), some (.ref aq), some (.ref ap), o7]) :: (Lx ++ l) := fun h => .tail _ (.tail _ (.tail _ (.tail _ (List.mem_append_right _ h))))
        refine wpAny_assign_Name (stl S₁₄ (.tail (.tail (.tail .head))) (by walk_at "ls") (by decide) fun s₁₅ S₁₅ => ?_)
        have hDi := S₁₅.td (d := ig) (xs := igX (i1 ++ (kp, ka, kn, kt) :: i2)) (mL (.head _)) (hI.keysIn.keeps S₁₅.hk)
        refine wpAny_execs_cons (wpAny_Assign_Name (wpAny_BinOp (sub_any (ldl S₁₅ (.tail _ (.tail _ (.tail _ (.head _)))) (by walk_at "lg") (ldl S₁₅ (.tail _ (.tail _ (.tail _ (.head _)))) (by walk_at "lg") ⟨on_td hDi, ?_⟩)))))
        refine wpAny_getItem_heap (knd := tk w) hroom (Mine.IsTupleKey.mono hpk S₁₅.hk) hDi hsome2 ?_
        have S₁₆ := S₁₅.tok (s₁₅.toks + (tk w).draws (zs kp))
        refine wpAny_Constant_int (n_sub (b := 1) hpos1 fun t₁ k₁ => ?_)
        refine stl (S₁₆.tok k₁) (.tail (.tail (.tail .head))) (by walk_at "ls") (by decide) fun s₁₇ S₁₇ => ?_
        refine wpAny_execs_cons (wpAny_Assign_Subscript (ldl S₁₇ (.tail _ (.tail _ (.tail _ (.head _)))) (by walk_at "lg") (ldl S₁₇ (.tail _ (.tail _ (.tail _ (.head _)))) (by walk_at "lg") (ldl S₁₇ (.tail _ (.tail _ (.tail _ (.head _)))) (by walk_at "lg") ?_))))
        have hisl : (i1 ++ (kp, ka, kn, kt) :: i2).length = xss.length := by rw [← List.length_map (f := fun r : List Nat × Addr × Nat × Tok => r.1), hI.keys]
        refine S_settd S₁₇ (xs := igX (i1 ++ (kp, ka, kn, kt) :: i2)) (.tail (.tail (.tail (.tail (Upd.over .head Lx))))) (hI.keysIn.keeps S₁₇.hk) (Mine.IsTupleKey.mono hpk S₁₇.hk) (by simp only [cLine]; omega) (by unfold igX; rw [List.length_map]; omega) fun s₁₈ S₁₈ => ?_
        have hoth : ∀ r ∈ i1 ++ i2, r.1 ≠ kp := fun r hr' e => by
          have hn2 := hnd
          rw [← hI.keys, List.map_append, List.map_cons] at hn2
          obtain ⟨n1, n2, n3⟩ := List.nodup_append.mp hn2
          rcases List.mem_append.mp hr' with h | h
          · exact n3 r.1 (List.mem_map_of_mem h) kp (by simp) e
          · exact (List.nodup_cons.mp n2).1 (List.mem_map.mpr ⟨r, h, e⟩)
        rw [storedH_old hsome2, igX_put hoth] at S₁₈
        have hI' : InI B''.heap xss (kfold deg ((ready.take i).flatMap rvf ++ (rvf rq).take (j + 1))).1 (i1 ++ (kp, ka, kn - 1, t₁) :: i2) := by
          refine ⟨by rw [← hI.keys]; simp, fun r hr => ?_⟩
          rw [hks]
          have old : ∀ r ∈ i1 ++ i2, TupV B''.heap r.1 (.ref r.2.1) ∧ r.2.2.1 = (kstep (kfold deg ((ready.take i).flatMap rvf ++ (rvf rq).take j)) kp).1 r.1 := fun r hr => by
            obtain ⟨h1, h2⟩ := hI.all r (by
              rcases List.mem_append.mp hr with h | h
              · exact List.mem_append_left _ h
              · exact List.mem_append_right _ (.tail _ h))
            refine ⟨h1, ?_⟩
            unfold kstep
            show _ = if r.1 = kp then _ else _
            rw [if_neg (hoth r hr)]
            exact h2
          rcases List.mem_append.mp hr with h | h
          · exact old r (List.mem_append_left _ h)
          · rcases List.mem_cons.mp h with rfl | h
            · refine ⟨(hI.all _ hk).1, ?_⟩
              unfold kstep
              show kn - 1 = if kp = kp then _ else _
              rw [if_pos rfl, hk2]
            · exact old r (List.mem_append_right _ h)
        have hnvl : nv.length ≤ 20000 := by
          rw [← hN.length]
          refine Nat.le_trans (kfold_length _ _) ?_
          have h1 : ∀ l : List (List Nat), (∀ q ∈ l, q ∈ ready) → (l.flatMap rvf).length ≤ 100 * l.length := by
            intro l
            induction l with
            | nil => intro _; simp
            | cons a l ih =>
              intro h
              have := ih fun q hq => h q (.tail _ hq)
              have := (hrv a (h a (.head _))).2.1
              simp only [List.flatMap_cons, List.length_append, List.length_cons]
              omega
          have h2 := h1 (ready.take i) fun q hq => List.mem_of_mem_take hq
          rw [List.length_append, List.length_take]
          rw [List.length_take] at h2
          omega
        refine wpAny_execs_cons (wpAny_If (wpAny_isTrue_Compare1 (ldl S₁₈ (.tail _ (.tail _ (.tail _ (.head _)))) (by walk_at "lg") (wpAny_Constant_int ?_))))
        have S₁₉ := S₁₈.tok (s₁₈.toks + 1)
        refine eq_rd enc_pI rd_nat (a := kn - 1) (b := 0) ⟨_, rfl⟩ ⟨_, rfl⟩ (by simp only [cLine]; omega) (wpAny_truthy_bool (split_dec (fun h0 => ?_) fun h0 => ?_))
        · refine wpAny_execs_cons (ex_append (ldl S₁₉ (.tail _ (.tail _ (.tail _ (.head _)))) (by walk_at "lg") ⟨nr, _, rfl, S₁₉.lst (.tail _ (.tail _ (.head _))), ldl S₁₉ (.tail _ (.tail _ (.tail _ (.head _)))) (by walk_at "lg") ?_⟩))
          refine S_append S₁₉ (.tail (.tail .head)) (by omega) fun s₂₀ S₂₀ => ⟨rfl, wpAny_execs_nil (wpAny_execs_nil ⟨rfl, B'', [], _, ⟨rfl, rfl, _, _, _, _, rfl, hI', ?_⟩, S₂₀⟩)⟩
          rw [hks]
          unfold kstep
          rw [if_pos (by rw [← hk2]; exact h0)]
          exact hN.snoc hpv
        · refine wpAny_execs_nil (wpAny_execs_nil ⟨rfl, B'', [], _, ⟨rfl, rfl, _, _, _, _, rfl, hI', ?_⟩, S₁₉⟩)
          rw [hks]
          unfold kstep
          rw [if_neg (by rw [← hk2]; exact h0)]
          exact hN
      · rintro B'' D' L s₁₄ ⟨rfl, rfl, nv, is', o6, o7, rfl, hI, hN⟩ S₁₄
        refine wpAny_execs_nil ⟨rfl, B'', [], _, ⟨rfl, rfl, nv, is', _, _, _, rfl, ?_, ?_⟩, S₁₄⟩
        · rw [show (rvf rq).take rvals.length = rvf rq from List.take_of_length_le (by omega)] at hI
          rw [take_snoc hq, List.flatMap_append]
          simpa using hI
        · rw [show (rvf rq).take rvals.length = rvf rq from List.take_of_length_le (by omega)] at hN
          rw [take_snoc hq, List.flatMap_append]
          simpa using hN
    · rintro B' D' L s₁₀ ⟨rfl, rfl, nv, is', o5, o6, o7, rfl, hI, hN⟩ S₁₀
      rw [show ready.take yv.length = ready from List.take_of_length_le (by omega)] at hI hN
      replace S₁₀ : St B' KAll (EqG B') ((nr, LstP nv) :: (Lf, LocP ksN [some (.ref x), some (.ref rdy), some (.ref ig), some (.ref rv), some (.ref nr), o5, o6, o7]) :: (Lx ++ (ig, TdP w (igX is')) :: (dx, AtP (mA (some (.ref ig)) (some (.ref rv)) (some (.ref rdy)) (some (.int (rem : Int) t)))) :: Ly)) s₁₀ := S₁₀
      have hnvl := hN.length
      have hnv2 : nv.length ≤ 20000 := by
        rw [← hnvl]
        refine Nat.le_trans (kfold_length _ _) ?_
        have h1 : ∀ l : List (List Nat), (∀ q ∈ l, q ∈ ready) → (l.flatMap rvf).length ≤ 100 * l.length := by
          intro l
          induction l with
          | nil => intro _; simp
          | cons a l ih =>
            intro h
            have := ih fun q hq => h q (.tail _ hq)
            have := (hrv a (h a (.head _))).2.1
            simp only [List.flatMap_cons, List.length_append, List.length_cons]
            omega
        have h2 := h1 ready fun q hq => hq
        omega
      refine wpAny_execs_cons (wpAny_AugAssign_AttributeAny (ldl S₁₀ (.tail _ (.head _)) (by walk_at "lg") ?_))
      refine get_at (D.t.keeps S₁₀.hk) (D.x.keeps S₁₀.hk) (S₁₀.get (a := dx) (P := AtP (mA (some (.ref ig)) (some (.ref rv)) (some (.ref rdy)) (some (.int (rem : Int) t)))) (.tail _ mdx)) (v := .int (rem : Int) t) rfl rfl (by simp) lk_remaining ?_
      have S₁₁ := S₁₀.tok (s₁₀.toks + 1)
      refine call1 (lblt (hg.keeps S₁₁.hk) (gm _ (by decide)) (hb.keeps S₁₁.hk) b1 (ldl S₁₁ (.tail _ (.head _)) (by walk_at "lg") ⟨trivial, ?_⟩))
      refine lenL (S₁₁.lst (.head _)).isList (by simp; omega) ?_
      rw [show ((nv.toArray.size : Nat) : Int) = (((kfold deg (ready.flatMap rvf)).2.length : Nat) : Int) by simp [hnvl]]
      refine n_isub hnl fun t' k' => ?_
      have S₁₂ := S₁₁.tok k'
      refine set_at S₁₂ D.t D.x (.tail (.tail (Upd.over (.tail .head) Lx))) (mA_n _ _ _ _ _) (mA_within _ _ _ _) (by simp) lk_remaining fun s₁₃ S₁₃ => ?_
      refine wpAny_execs_cons (plainObj_wpAny_Assign_Attribute (ldl S₁₃ (.tail _ (.head _)) (by walk_at "lg") (ldl S₁₃ (.tail _ (.head _)) (by walk_at "lg") ?_)))
      refine set_at S₁₃ D.t D.x (.tail (.tail (Upd.over (.tail .head) Lx))) (mA_y _ _ _ _ _) (mA_within _ _ _ _) (by simp) lk_ready fun s₁₄ S₁₄ => ?_
      refine wpAny_execs_cons (wpAny_Return_some (ldl S₁₄ (.tail _ (.head _)) (by walk_at "lg") ?_))
      have hab := S₁₄.above (D := []) (a := nr)
      obtain ⟨B₂, hS₂, S₁₅, hfr2⟩ := S₁₄.froze (.cons _ (.cons _ (List.Sublist.refl _)))
      refine hret hre s₁₄ B₂ nr is' t' hS₂ S₁₅ ⟨D.t.keeps hS₂.keep, ⟨D.n.lim.keeps hS₂.keep, (D.n.keeps hS₂.keep).ex⟩, D.x.keeps hS₂.keep, hI.keeps hS₂.keep, RevF.keeps ⟨rs, hDr, hrk, hra⟩ hS₂.keep, ?_⟩
      obtain ⟨n, hn⟩ := S₁₄.lst (a := nr) (vs := nv) (.head _)
      exact ⟨_, _, rfl, ⟨n, hfr2 _ _ hn fun p hp => hab p (List.mem_append_right _ (.tail _ hp))⟩, Mine.Paired.mono hN fun _ _ h => stays_nat.tuple _ _ _ _ h hS₂.keep⟩
end Mine
end

section
open PySem PySem.W PyProof.Rows
set_option Elab.async false
set_option maxRecDepth 100000
namespace Mine

section
variable {prog : Program} {w : World} {A : Around} {E : Value → Shared → Prop} {s : Shared}
theorem collect_tup {l : Addr} {vs : List Value} {n : Nat} {Q : List Value → Shared → Prop} (hl : s.heap.get? l = some (seqObj "tuple" vs.toArray n))
    (h : Q vs { s with heap := (s.heap.push (seqObj "list" #[] 0)).update s.heap.objs.size (Obj.mapSeq (· ++ vs.toArray)) }) (hsz : vs.length ≤ sizeLine := by size_fits) :
    wpAny (model prog w) A (collect (.ref l)) Q E s := by
  unfold collect
  refine wpAny_bind (wpAny_runValue (codeAny_builtin entry_proto_collect' ?_))
  show wpAny _ _ (do again (.builtin "list.__iadd__" ⟨[← newList [], .ref l], []⟩)) _ _ s
  refine wpAny_bind (wpAny_newList (wpAny_pure ⟨Code.quiet_builtin _ (by decide +kernel), codeAny_builtin entry_list_iadd' ?_⟩))
  show wpAny _ _ (Builtin.List.listExtendWith (.ref s.heap.objs.size) (.ref l) (.ref s.heap.objs.size)) _ _ { s with heap := s.heap.push (seqObj "list" #[] 0) }
  unfold Builtin.List.listExtendWith
  have ho' : (s.heap.push (seqObj "list" #[] 0)).get? l = some (seqObj "tuple" vs.toArray n) := Heap.get?_push_of_some _ hl
  refine wpAny_bind (wpAny_typeOf (T := "tuple") ⟨_, ho', rfl⟩ ?_)
  rw [if_pos (by rw [show (Value.type "tuple" == Value.type "tuple") = true from rfl]; simp)]
  refine wpAny_bind (listItems_at ho' rfl ?_)
  refine wpAny_bind (listItems_at (xs := #[]) (n := 0) (Heap.get?_push_size _ rfl) rfl ?_)
  rw [if_neg (by simp)]
  refine wpAny_bind (listUpdate_at (xs := #[]) (n := 0) (Heap.get?_push_size _ rfl) rfl ?_ (Nat.zero_le _) (by show (#[] ++ vs.toArray).size ≤ sizeLine + 1; simp only [Array.size_append, List.size_toArray, List.length_nil]; omega))
  refine wpAny_pure ?_
  show wpAny (model prog w) A (do
      let o ← load s.heap.objs.size
      match o.data with
      | .seq xs _ => pure xs.toList
      | _ => unsupported "internal:collect") Q E { s with heap := (s.heap.push (seqObj "list" #[] 0)).update s.heap.objs.size (Obj.mapSeq (· ++ vs.toArray)) }
  refine wpAny_bind (wpAny_load (get?_update_seq (Heap.get?_push_size _ rfl) _) ?_)
  show wpAny _ _ (pure ((#[] : Array Value) ++ vs.toArray).toList) Q E _
  rw [show ((#[] : Array Value) ++ vs.toArray).toList = vs by simp]
  exact wpAny_pure h

theorem sorted_tup_ints {l : Addr} {vs : List Value} {ns : List Int} {n : Nat} {Q : Value → Shared → Prop} (hl : s.heap.get? l = some (seqObj "tuple" vs.toArray n)) (hI : IntsAre vs ns) (h64 : vs.length < 64)
    (h : ∀ (out : Array Value) (ns' : List Int), IntsAre out.toList ns' → ns'.Perm ns → ns'.Pairwise (· ≤ ·) → Q (.ref (s.heap.objs.size + 1)) { s with heap := sortedAll s.heap vs out }) :
    wpAny (model prog w) A (call (.builtin "sorted") [.ref l]) Q E s := by
  refine Calls.call_function_entry kind_sorted plain_sorted entry_sorted (args_sorted1 _) ?_
  unfold Builtin.«sorted»
  refine wpAny_bind (m := checkCount "sorted" 1 1 _) (wpAny_pure ?_)
  refine wpAny_bind (collect_tup hl ?_)
  refine wpAny_bind (wpAny_newList ?_)
  have hsz : ((s.heap.push (seqObj "list" #[] 0)).update s.heap.objs.size (Obj.mapSeq (· ++ vs.toArray))).objs.size = s.heap.objs.size + 1 := by
    rw [Heap.size_update, size_push']
  have hoL : (((s.heap.push (seqObj "list" #[] 0)).update s.heap.objs.size (Obj.mapSeq (· ++ vs.toArray))).push (seqObj "list" vs.toArray 0)).get? (s.heap.objs.size + 1) = some (seqObj "list" vs.toArray 0) := by
    rw [← hsz]; exact Heap.get?_push_size _ rfl
  show wpAny _ _ _ _ _ { s with heap := ((s.heap.push (seqObj "list" #[] 0)).update s.heap.objs.size (Obj.mapSeq (· ++ vs.toArray))).push (seqObj "list" vs.toArray 0) }
  rw [hsz]
  refine wpAny_bind (wpAny_holding (wpAny_call_entry slot_list_sort ⟨_, hoL, rfl⟩ entry_list_sort (list_sort_tree hoL hI h64 fun out ns' a1 a2 a3 => ⟨_, rfl, ?_⟩) (args_list_sort _)))
  exact wpAny_pure ⟨_, rfl, h out ns' a1 a2 a3⟩

/-- the places, sorted -/
def srt (xs : List Nat) : List Nat := xs.mergeSort (fun a b => decide (a ≤ b))
theorem srt_perm (xs : List Nat) : (srt xs).Perm xs := List.mergeSort_perm _ _
theorem srt_pair (xs : List Nat) : (srt xs).Pairwise (· ≤ ·) := by
  have := List.pairwise_mergeSort (le := fun a b : Nat => decide (a ≤ b)) (by intro a b c h1 h2; simp at *; omega) (by intro a b; simp; omega) xs
  exact this.imp fun h => by simpa using h
theorem perm_sorted_eq : ∀ {xs ys : List Nat}, xs.Perm ys → xs.Pairwise (· ≤ ·) → ys.Pairwise (· ≤ ·) → xs = ys
  | [], ys, h, _, _ => (List.nil_perm.mp h).symm ▸ rfl
  | x :: xs, [], h, _, _ => absurd h.length_eq (by simp)
  | x :: xs, y :: ys, h, h1, h2 => by
    have hx : x ∈ y :: ys := h.mem_iff.mp (.head _)
    have hy : y ∈ x :: xs := h.mem_iff.mpr (.head _)
    have h1' := List.pairwise_cons.mp h1
    have h2' := List.pairwise_cons.mp h2
    have e : x = y := by
      have a1 : y ≤ x := by rcases List.mem_cons.mp hx with r | r
                            · omega
                            · exact h2'.1 x r
      have a2 : x ≤ y := by rcases List.mem_cons.mp hy with r | r
                            · omega
                            · exact h1'.1 y r
      omega
    subst e
    rw [perm_sorted_eq (List.Perm.cons_inv h) h1'.2 h2'.2]
theorem srt_of {xs ys : List Nat} (h : ys.Perm xs) (h2 : ys.Pairwise (· ≤ ·)) : ys = srt xs := perm_sorted_eq (h.trans (srt_perm xs).symm) h2 (srt_pair xs)

/-- the value is a list of its own above z -/
def Abv {α : Type} (z : Nat) (R : Heap → α → Value → Prop) (h : Heap) (a : α) (v : Value) : Prop := R h a v ∧ ∀ l, v = .ref l → @LT.lt Nat _ z l

theorem sorted_list {l : Value} {xs : List Nat} {Q : Value → Shared → Prop} (hl : NatsV s.heap xs l) (h64 : xs.length < 64)
    (h : ∀ v s', Keeps s s' → Abv s.heap.objs.size NatsV s'.heap (srt xs) v → Q v s') : wpAny (model prog w) A (call (.builtin "sorted") [l]) Q E s :=
  sorted_nats hl h64 fun v s' ys K hv h1 h2 h3 => h v s' K ⟨by rw [← srt_of h1 h2]; exact hv, h3⟩
theorem sorted_tup {l : Value} {xs : List Nat} {Q : Value → Shared → Prop} (hl : TupV s.heap xs l) (h64 : xs.length < 64)
    (h : ∀ v s', Keeps s s' → Abv s.heap.objs.size NatsV s'.heap (srt xs) v → Q v s') : wpAny (model prog w) A (call (.builtin "sorted") [l]) Q E s := by
  obtain ⟨a, vals, rfl, ⟨o, ho, n, rfl⟩, hv⟩ := hl
  have hna := paired_na hv
  have hlen := hna.length
  refine sorted_tup_ints ho (ns := xs.map fun (x : Nat) => (x : Int)) hna (by omega) fun out ns' h1 h2 h3 => ?_
  have hnn : ∀ z ∈ ns', 0 ≤ z := fun z hz => by
    obtain ⟨x, _, rfl⟩ := List.mem_map.mp (h2.mem_iff.mp hz)
    exact Int.natCast_nonneg x
  have e : (ns'.map Int.toNat).map (fun (x : Nat) => (x : Int)) = ns' := by
    rw [List.map_map]
    conv => rhs; rw [← List.map_id ns']
    exact List.map_congr_left fun z hz => Int.toNat_of_nonneg (hnn z hz)
  have e3 : ns'.map Int.toNat = srt xs := by
    refine srt_of ?_ ?_
    · have := h2.map Int.toNat
      rw [List.map_map] at this
      have e2 : xs.map (Int.toNat ∘ fun (x : Nat) => (x : Int)) = xs := by
        conv => rhs; rw [← List.map_id xs]
        exact List.map_congr_left fun z _ => Int.toNat_natCast z
      rwa [e2] at this
    · rw [List.pairwise_map]
      exact h3.imp fun {a b} q => by omega
  refine h _ _ (k_sorted (out := out.toList)) ⟨⟨_, out.toList, rfl, at_sorted, na_paired ?_⟩, fun l q => by cases q; exact Nat.lt_succ_self _⟩
  rw [← e3]
  unfold NA
  rw [e]; exact h1
end
end Mine
end

section
open PySem PySem.W PyProof.Rows
set_option Elab.async false
set_option maxRecDepth 100000
namespace Mine

section
variable {prog : Program} {w : World} {A : Around} {E : Value → Shared → Prop} {h : Heap} {g : Array GenState} {d : Drawn} {t : Nat} {os : OsState}
variable {nm q : Str} {C N : Addr} {bs : List Value} {sn : List Str} {sub : List Value} {col : Option Bool} {dd : Option Addr} {k0 k1 k2 k3 k5 : Option Value} {newId : String}

/-- the heap with the new object; its dict lies just below it -/
abbrev objH (h : Heap) (C : Addr) : Heap := (h.push { cls := .type "dict", data := .dict #[] }).push { cls := .ref C, dict := some h.objs.size, data := .plain }

theorem type_call_obj (F : ObjNewFacts newId) {mN : Str → Option Value} {rest : List Value} {fI : Addr} {oI : Obj} {Q : PySem.Fin → Shared → Prop}
    (hC : h.get? C = some (excClassObj nm q C N bs [.type "object"] true sn sub false col dd k0 k1 k2 k3 k5 newId)) (hn : h.Ns N mN) (hi : mN "__init__" = some (.ref fI))
    (hfI : h.get? fI = some oI) (hfc : oI.cls = .type "function")
    (hq : wpAny (model prog w) A (call (.ref fI) (.ref (h.objs.size + 1) :: rest)) (fun r s' => r = .none ∧ Q (.done (.ret (.ref (h.objs.size + 1)))) s') E ⟨objH h C, g, d, t, os⟩) :
    wpAny (model prog w) A (Builtin.«type.__call__» ⟨.ref C :: rest, []⟩) Q E ⟨h, g, d, t, os⟩ := by
  have hmro : mroOf (.type "object") = pure [.type "object"] := by kernel_rfl
  have hlk : typeLookup (.type "object") "__init__" = pure (some (.builtin "object.__init__")) := by rw [typeLookup_type, builtinLookup_eq_fast]; kernel_rfl
  repeat (first | with_reducible refine wpAny_loadPart_at hC ?_ | with_reducible refine wpAny_madeBy_exc hC ?_ | wp_step)
  refine codeAny_call_builtin_code (Code.quiet_builtin _ F.quiet) (wpAny_check_obj_new F hC ?_)
  refine codeAny_obj_new F hC hn hi ?_
  show wpAny _ _ _ _ _ _
  have hC₁ : (objH h C).get? C = _ := Heap.get?_push_of_some _ (Heap.get?_push_of_some _ hC)
  have hfI₁ : (objH h C).get? fI = _ := Heap.get?_push_of_some _ (Heap.get?_push_of_some _ hfI)
  have hn₁ : (objH h C).Ns N mN := let ⟨o, es, ep, e, r⟩ := hn; ⟨o, es, ep, Heap.get?_push_of_some _ (Heap.get?_push_of_some _ e), r⟩
  have hget : (objH h C).get? (h.objs.size + 1) = some { cls := .ref C, dict := some h.objs.size, data := .plain } := by heap_get
  have hcC : (Value.ref C :: [Value.type "object"]).contains (.ref C) = true := by simp
  unfold isInstance
  repeat (first | with_reducible refine wpAny_loadPart_at hget ?_ | (with_reducible refine wpAny_isSubtype_exc hC₁ ?_; rw [hcC]) | wp_step)
  show wpAny _ _ (typeLookup (.ref C) _) _ _ _
  refine wpAny_typeLookup_exc hC₁ hn₁ hmro hlk ?_
  rw [hi]
  refine wpAny_holding (wpAny_bind ?_)
  unfold bindSpecial
  refine wpAny_bind (wpAny_typeOf (T := "function") ⟨_, hfI₁, hfc⟩ ?_)
  rw [if_pos (by decide)]
  refine wpAny_pure (wpAny_bind (wpAny_mono hq (fun r s' hr => ?_) fun _ _ x => x))
  obtain ⟨rfl, hQ⟩ := hr
  wp_walk
  exact hQ

theorem call_obj (F : ObjNewFacts newId) {mN : Str → Option Value} {rest : List Value} {fI : Addr} {oI : Obj} {Q : Value → Shared → Prop}
    (hC : h.get? C = some (excClassObj nm q C N bs [.type "object"] true sn sub false col dd k0 k1 k2 k3 k5 newId)) (hn : h.Ns N mN) (hi : mN "__init__" = some (.ref fI))
    (hfI : h.get? fI = some oI) (hfc : oI.cls = .type "function")
    (hq : wpAny (model prog w) (A.under (.builtin "type.__call__" ⟨.ref C :: rest, []⟩)) (call (.ref fI) (.ref (h.objs.size + 1) :: rest)) (fun r s' => r = .none ∧ Q (.ref (h.objs.size + 1)) s') E ⟨objH h C, g, d, t, os⟩) :
    wpAny (model prog w) A (call (.ref C) rest) Q E ⟨h, g, d, t, os⟩ := by
  have f1 := tc_lookup
  have f2 := tc_bind (.ref C)
  have hT : (⟨h, g, d, t, os⟩ : Shared).TypeIs (.ref C) "type" := ⟨_, hC, rfl⟩
  refine wpAny_call (codeAny_of_tree ?_)
  show wpAny _ _ (callAny (.ref C) _) _ _ _
  repeat (any_goals (first | assumption | with_reducible refine wpAny_loadPart_at hC ?_ | wp_step))
  refine ⟨rfl, ?_⟩
  exact codeAny_call_builtin_at (Code.quiet_builtin _ (by decide +kernel)) entry_typeCall (wpAny_check_type_call_sub hC (type_call_obj F hC hn hi hfI hfc hq))
end

/-- an inner ledger laid over an outer one -/
theorem St.merge {B₀ B' s s' : Shared} {L L' : Ledger} (S : St B₀ KAll (EqG B₀) L s) (S' : St B' KAll (EqG B') L' s') (hk : Sub s B') (hlt : ∀ p ∈ L', ∀ q ∈ L, @LT.lt Nat _ q.1 p.1) :
    ∃ B'', St B'' KAll (EqG B'') (L' ++ L) s' ∧ Sub B₀ B'' ∧ ∀ b o, B'.heap.get? b = some o → (∀ p ∈ L, p.1 ≠ b) → B''.heap.get? b = some o := by
  refine ⟨hb L B', ⟨fun b o e _ => S'.keep b o (of_hideAll _ e) trivial, fun p hp o e => ?_, fun p hp => ?_, ?_, fun b o e => ⟨o, S'.keep b o (of_hideAll _ e) trivial⟩, S'.drawn, S'.os, S'.gens⟩, ⟨fun b o e => ?_, ?_, ?_, ?_⟩, fun b o e h => hb_get e h⟩
  · rcases List.mem_append.mp hp with hp | hp
    · exact S'.own p hp o (of_hideAll _ e)
    · rw [show (hb L B').heap.get? p.1 = none from hideAll_none _ (List.mem_map_of_mem hp)] at e; cases e
  · rcases List.mem_append.mp hp with hp | hp
    · exact S'.led p hp
    · obtain ⟨o, ho, hP⟩ := S.led p hp
      exact ⟨o, S'.keep _ _ (hk.keep _ _ ho) trivial, hP⟩
  · rw [List.map_append, List.pairwise_append]
    refine ⟨S'.ord, S.ord, fun a ha b hb => ?_⟩
    obtain ⟨p, hp, rfl⟩ := List.mem_map.mp ha
    obtain ⟨q, hq, rfl⟩ := List.mem_map.mp hb
    exact hlt p hp q hq
  · exact hb_get (hk.keep _ _ (S.keep b o e trivial)) fun p hp q => S.own p hp o (q ▸ e) trivial
  · show B'.gens = B₀.gens
    have h1 : s.gens = B₀.gens := S.gens
    exact hk.gens.trans h1
  · exact hk.drawn.trans S.drawn
  · exact hk.os.trans S.os
end Mine
end

section
open PySem PySem.W PyProof.Rows
set_option Elab.async false
set_option maxRecDepth 100000
namespace Mine

/-- lists and tuples stand -/
def SeqK (h h' : Heap) : Prop := ∀ b o, h.get? b = some o → (∃ xs n, o.data = .seq xs n) → h'.get? b = some o
theorem tup_seq {h h' : Heap} {xs : List Nat} {v : Value} (x : TupV h xs v) (k : SeqK h h') : TupV h' xs v := by
  obtain ⟨l, vals, e, ⟨o, ho, n, e2⟩, p⟩ := x
  exact ⟨l, vals, e, ⟨o, k _ _ ho ⟨_, _, by rw [e2]⟩, n, e2⟩, p⟩
theorem lsv_seq {α : Type} {R : Heap → α → Value → Prop} {h h' : Heap} (hR : ∀ a v, R h a v → R h' a v) {xs : List α} {v : Value} (x : LsV R h xs v) (k : SeqK h h') : LsV R h' xs v := by
  obtain ⟨l, vals, e, ⟨n, ho⟩, p⟩ := x
  exact ⟨l, vals, e, ⟨n, k _ _ ho ⟨_, _, rfl⟩⟩, Mine.Paired.mono p hR⟩
/-- no list or tuple in the ledger -/
def NoSeq (L : Ledger) : Prop := ∀ p ∈ L, ∀ o, p.2 o → ∀ xs n, o.data ≠ .seq xs n
theorem cell_noseq {v : Option Value} : ∀ o, CellP v o → ∀ xs n, o.data ≠ .seq xs n := fun o h xs n e => by rw [show o.data = _ from h] at e; cases e
theorem loc_noseq {ks : List Str} {vs : List (Option Value)} : ∀ o, LocP ks vs o → ∀ xs n, o.data ≠ .seq xs n := fun o ⟨m, ⟨es, ep, h, _⟩, _⟩ xs n e => by rw [h] at e; cases e

theorem topsort_call {w : World} {A : Around} {E : Value → Shared → Prop} {B s : Shared} {L : Ledger} {d : Addr} {xss : List (List Nat)} {El : Nat → List Nat} {prt : Nat → List Nat} {Q : Value → Shared → Prop}
    (S : St B KAll (EqG B) L s) (T : TopoIn B.heap) (hN : Names B.heap) (hP : PrepOk s.heap d xss El prt) (hns : NoSeq L)
    (hnd : xss.Nodup) (htop : ∀ (i : Nat) xs, xss[i]? = some xs → ∀ q ∈ dnOf (depsL El prt) xs, q ∈ xss.take i) (hdn : ∀ xs, (depsL El prt xs).Nodup)
    (hdl : ∀ xs, (depsL El prt xs).length ≤ 1000) (hn : xss.length ≤ 100) (hh : A.handled = none) (hd : A.depth < 890) (hu : A.units < 8990)
    (h : ∀ s' B' x dx ig rv rdy is t, St B' KAll (EqG B') ((ig, TdP w (igX is)) :: (dx, AtP (mA (some (.ref ig)) (some (.ref rv)) (some (.ref rdy)) (some (.int ((xss.length - (rdOf (depsL El prt) xss).length : Nat) : Int) t)))) :: L) s' → Sub B B' →
      TopD w B' x dx ig rv rdy xss (rvOf (depsL El prt) xss) (fun ys => (dnOf (depsL El prt) ys).length) (rdOf (depsL El prt) xss) is → Q (.ref x) s') :
    wpAny (model pw w) A (call (.ref 57) [.ref d]) Q E s := by
  obtain ⟨mN, C, c1, c2, c3, c4⟩ := (T.keeps S.hk).ex
  obtain ⟨nm, q, bs, sn, sub, col, dd, k0, k1, k2, k3, k5, hC⟩ := C.obj
  obtain ⟨_, _, _, _, oI, hoI, hcI⟩ := (T.keeps S.hk).fi
  obtain ⟨hp, g, dr, tk', os⟩ := s
  refine call_obj F.objNew hC C.ns c1 hoI hcI ?_
  generalize hs : (⟨hp, g, dr, tk', os⟩ : Shared) = s at *
  have es : (⟨objH hp 57, g, dr, tk', os⟩ : Shared) = { s with heap := (s.heap.push { cls := .type "dict", data := .dict #[] }).push { cls := .ref 57, dict := some s.heap.objs.size, data := .plain } } := by subst hs; rfl
  have eh : hp = s.heap := by subst hs; rfl
  rw [es, eh]
  clear es
  have S₁ := (St.start s KAll).alloc (o := { cls := .type "dict", data := .dict #[] }) (P := AtP (mA none none none none)) rfl ⟨#[], 0, rfl, fun e he => absurd he (by simp), List.Pairwise.nil, fun name => by unfold mA; (repeat' split) <;> rfl⟩
  have S₂ : St s KAll (EqG s) [(s.heap.objs.size, AtP (mA none none none none))] { s with heap := (s.heap.push { cls := .type "dict", data := .dict #[] }).push { cls := .ref 57, dict := some s.heap.objs.size, data := .plain } } :=
    S₁.keeps ⟨_, _, rfl, fun _ _ e => Heap.get?_push_of_some _ e⟩
  have hX : XObj ({ s with heap := (s.heap.push { cls := .type "dict", data := .dict #[] }).push { cls := .ref 57, dict := some s.heap.objs.size, data := .plain } } : Shared).heap (s.heap.objs.size + 1) s.heap.objs.size := by
    refine ⟨Nat.ne_of_lt (Nat.lt_succ_self _), { cls := .ref 57, dict := some s.heap.objs.size, data := .plain }, ?_, rfl, fun c => by simp, rfl⟩
    have := Heap.get?_push_size (s.heap.push { cls := .type "dict", data := .dict #[] }) (o := { cls := .ref 57, dict := some s.heap.objs.size, data := .plain }) rfl
    rw [Heap.size_push] at this
    exact this
  have hzs : @LT.lt Nat _ (s.heap.objs.size + 1) ({ s with heap := (s.heap.push { cls := .type "dict", data := .dict #[] }).push { cls := .ref 57, dict := some s.heap.objs.size, data := .plain } } : Shared).heap.objs.size := by
    show _ < ((s.heap.push _).push _).objs.size
    rw [Heap.size_push, Heap.size_push]; omega
  generalize ({ s with heap := (s.heap.push { cls := .type "dict", data := .dict #[] }).push { cls := .ref 57, dict := some s.heap.objs.size, data := .plain } } : Shared) = s₂ at *
  have hXb : XObj (hb [(s.heap.objs.size, AtP (mA none none none none))] s₂).heap (s.heap.objs.size + 1) s.heap.objs.size := by
    obtain ⟨a, o, e, r⟩ := hX
    refine ⟨a, o, hb_get e fun p hp => ?_, r⟩
    rw [List.mem_singleton] at hp; subst hp
    exact Nat.ne_of_lt (Nat.lt_succ_self _)
  have hsub := S₂.sub
  have S₃ := S₂.rebase
  generalize hB₃ : hb [(s.heap.objs.size, AtP (mA none none none none))] s₂ = B₃ at *
  obtain ⟨hds, es', ep, hraw, hpair⟩ := hP
  have kBs : ∀ b o, B.heap.get? b = some o → B₃.heap.get? b = some o := fun b o e => hsub.keep b o (S.hk b o e)
  refine wpAny_call (init_ok (T.keeps kBs) ⟨(hN.keeps kBs).lim, (hN.keeps kBs).ex⟩ hXb S₃ (hraw.keeps hsub.keep) hds (Mine.Paired.mono hpair fun _ _ ⟨a, b⟩ => ⟨stays_nat.tuple _ _ _ _ a hsub.keep, stays_nat.tuple.list _ _ _ _ b hsub.keep⟩) hnd htop hdn hdl hn hh ?_ ?_ ?_)
  · show A.depth + _ < 900
    have : (Code.builtin "type.__call__" ⟨.ref 57 :: [.ref d], []⟩).weight = 1 := rfl
    rw [this]; omega
  · show A.units + _ < 9000
    have : (Code.builtin "type.__call__" ⟨.ref 57 :: [.ref d], []⟩).cUnits = 1 := rfl
    omega
  · intro s' ig rv rdy is t B' hS' S' hI hR hY hrv
    have hk : Sub s B' := hsub.trans hS'
    have hdx : @LT.lt Nat _ s.heap.objs.size ig := (List.pairwise_cons.mp S'.ord).1 s.heap.objs.size (by simp)
    obtain ⟨B'', S'', hS'', hmv⟩ := S.merge S' hk (fun p hp q hq => by
      have h1 : @LT.lt Nat _ q.1 s.heap.objs.size := S.lt hq
      simp only [List.mem_cons, List.not_mem_nil, or_false] at hp
      rcases hp with rfl | rfl
      · exact Nat.lt_trans h1 hdx
      · exact h1)
    have hseq : SeqK B'.heap B''.heap := fun b o hb ⟨xs, n, hd⟩ => hmv b o hb fun p hp e => by
      obtain ⟨o', ho', hPo⟩ := S.led p hp
      have := hk.keep _ _ ho'
      rw [e, hb] at this
      cases this
      exact hns p hp o hPo xs n hd
    have hbig : ∀ b o, B'.heap.get? b = some o → @LE.le Nat _ s.heap.objs.size b → B''.heap.get? b = some o := fun b o hb hle => hmv b o hb fun p hp e => by
      have h1 : @LT.lt Nat _ p.1 s.heap.objs.size := S.lt hp
      have h2 : @Eq Nat p.1 b := e
      omega
    refine ⟨rfl, h s' B'' (s.heap.objs.size + 1) s.heap.objs.size ig rv rdy is t S'' hS'' ⟨T.keeps hS''.keep, ⟨(hN.keeps hS''.keep).lim, (hN.keeps hS''.keep).ex⟩, ?_, ⟨hI.keys, fun r hr => ⟨tup_seq (hI.all r hr).1 hseq, (hI.all r hr).2⟩⟩, ?_, lsv_seq (fun a v x => tup_seq x hseq) hY hseq⟩⟩
    · obtain ⟨a, o, e, r⟩ := hXb
      exact ⟨a, o, hbig _ _ (hS'.keep _ _ e) (Nat.le_succ _), r⟩
    · obtain ⟨rs, ⟨o, es2, ep2, e, h1, h2, h3, h4, h5⟩, hk2, hall⟩ := hR
      refine ⟨rs, ⟨o, es2, ep2, hbig _ _ e ?_, h1, h2, h3, fun y hy => ?_, h5⟩, hk2, fun r hr => ⟨tup_seq (hall r hr).1 hseq, lsv_seq (fun a v x => tup_seq x hseq) (hall r hr).2 hseq⟩⟩
      · have hz : @LT.lt Nat _ s₂.heap.objs.size rv := hrv
        omega
      · obtain ⟨o', i, n, a, b, c, dd'⟩ := h4 y hy
        exact ⟨o', i, n, hseq _ _ a ⟨_, _, c⟩, b, c, dd'⟩
end Mine
end

section
open PySem PySem.W PyProof.Rows
set_option Elab.async false
set_option maxRecDepth 100000
namespace Mine
local macro_rules | `(tactic| walk_at "mem") => `(tactic| repeat (first | exact List.Mem.head _ | apply List.Mem.tail))
local macro_rules | `(tactic| walk_at "lg") => `(tactic| repeat (first | (with_reducible exact LG.head) | apply LG.tail))
local macro_rules | `(tactic| walk_at "upd") => `(tactic| repeat (first | exact Upd.head | apply Upd.tail))
local macro_rules | `(tactic| walk_at "ls") => `(tactic| repeat (first | (with_reducible exact LS.head) | apply LS.tail))

section
variable {prog : Program} {w : World} {A : Around} {E : Value → Shared → Prop} {env : Env} {s : Shared}
theorem call1c {h₀ : Heap} (T : TopoIn h₀) {id : Str} {p pos : Pos} {e : Expr} {Q : Value → Shared → Prop}
    (h : wpAny (model prog w) A (eval (.Name id p) env) (fun f s₁ => f = .ref 57 ∧ wpAny (model prog w) A (eval e env) (fun v s₂ => (∀ b o, h₀.get? b = some o → s₂.heap.get? b = some o) ∧ wpAny (model prog w) A (call (.ref 57) [v]) Q E s₂) E s₁) E s)
    (he : starEach [e] env = [(false, eval e env)] := by rfl) : wpAny (model prog w) A (eval (.Call (.Name id p) [e] [] pos) env) Q E s := by
  obtain ⟨mN, C, _⟩ := T.ex
  refine wpAny_Call_NameR (wpAny_mono h (fun f s₁ h₁ => ?_) fun _ _ e => e)
  obtain ⟨rfl, h₁⟩ := h₁
  have := callWith_cls (A := A) (E := E) (prog := prog) (w := w) (env := env) (pos := pos) (e := e) (rest := []) (Q := Q) C (s := s₁) (by
    rw [he]
    exact Calls.spliced_cons (wpAny_mono h₁ (fun v s₂ h₂ => Calls.spliced_nil h₂) fun _ _ e => e)) he rfl
  exact this

/-- iterating over the object gives the object -/
theorem iter_ok {B : Shared} {L : Ledger} {x dx : Addr} {Q : Value → Shared → Prop} (S : St B KAll (EqG B) L s) (T : TopoIn B.heap) (hN : Names B.heap) (X : XObj B.heap x dx) (hd : A.depth < 900) (h : ∀ s', St B KAll (EqG B) L s' → Q (.ref x) s') :
    wpAny (model pw w) A (pyIter (.ref x)) Q E s := by
  have T' := T.keeps S.hk
  have X' := X.keeps S.hk
  obtain ⟨pm, cd, doc, hf, _⟩ := T'.ft
  refine iter_own (sp_iter T' X') (wpAny_call (call_fn (ks := ["self"]) (vs := [some (.ref x)]) hf (by simp only [recursionLimit]; omega) (hN.keeps S.hk).lim rfl (iter_bind _ _ _ _) rfl rfl fun s₁ S₁ => ?_))
  show wpAny _ _ (execs (fBody (clsAt 1)) _) _ _ _
  refine wpAny_execs_cons (wpAny_Return_some (ldl S₁ (.head _) (by walk_at "lg") ?_))
  have K := S₁.done
  exact ⟨rfl, sp_next (T'.keeps (kget K)) (X'.keeps (kget K)), h _ (S.keeps K)⟩
end

theorem names_ok (scope : Scope) (h : (scope.names.all fun x => decide (x.2 = .local → scope.names.lookup x.1 = some .local)) = true) : ∀ x ∈ scope.names, x.2 = .local → scope.names.lookup x.1 = some .local :=
  fun x hx hl => of_decide_eq_true (List.all_eq_true.mp h x hx) hl

/-- Kahn's batches: from these counts, so many parts left and this batch in hand -/
inductive KS (xss : List (List Nat)) (rvf : List Nat → List (List Nat)) : (List Nat → Nat) → Nat → List (List Nat) → List (List (List Nat)) → Prop
  | nil {deg : List Nat → Nat} : KS xss rvf deg 0 [] []
  | cons {deg : List Nat → Nat} {rem : Nat} {ready : List (List Nat)} {Ks : List (List (List Nat))} : ready ≠ [] → ready.length ≤ 100 → (∀ q ∈ ready, q ∈ xss ∧ (rvf q).length ≤ 100 ∧ ∀ p ∈ rvf q, p ∈ xss) →
      (∀ pre q post, ready.flatMap rvf = pre ++ q :: post → 1 ≤ (kfold deg pre).1 q) → (kfold deg (ready.flatMap rvf)).2.length ≤ rem →
      KS xss rvf (kfold deg (ready.flatMap rvf)).1 (rem - (kfold deg (ready.flatMap rvf)).2.length) (kfold deg (ready.flatMap rvf)).2 Ks → KS xss rvf deg rem ready (ready :: Ks)

theorem paired_range {α : Type} {R : α → Value → Prop} {as : List α} {out : List Value} {n : Nat} (hp : Paired (fun i y => ∃ a, as[i]? = some a ∧ R a y) (List.range n) out) (hn : n = as.length) : Paired R as out := by
  have h : ∀ {is : List Nat} {out : List Value}, Paired (fun i y => ∃ a, as[i]? = some a ∧ R a y) is out → Paired R (is.filterMap fun i => as[i]?) out := fun {is out} p => by
    induction p with
    | nil => exact .nil
    | cons hx _ ih =>
      obtain ⟨a, ha, hR⟩ := hx
      rw [List.filterMap_cons, ha]
      exact .cons hR ih
  have h1 := h hp
  have h2 := range_filterMap as (fun _ => true) (fun _ => true) (fun _ _ _ => rfl)
  rw [List.filter_eq_self.mpr (fun _ _ => rfl), List.filter_eq_self.mpr (fun _ _ => rfl)] at h2
  rw [hn, h2] at h1
  exact h1
theorem paired_map {α β : Type} {R : β → Value → Prop} {f : α → β} {as : List α} {out : List Value} (p : Paired (fun a y => R (f a) y) as out) : Paired R (as.map f) out := by
  induction p with
  | nil => exact .nil
  | cons hx _ ih => exact .cons hx ih

section
variable {w : World} {A : Around} {E : Value → Shared → Prop} {B : Shared} {s : Shared} {pmL cdL docL pmP cdP docP : Value} {Lf : Addr}

theorem law9 {Q : Flow → Shared → Prop} {c9 c8 c6 c5 c4 c3 c1 v0 v1 v2 v3 : Option Value} {pl dE : Addr} {pv : List Value} {xss : List (List Nat)} {n : Nat} {El : Nat → List Nat} {prt : Nat → List Nat} {Kn : List (List (List Nat))}
    (S : St B KAll (EqG B) (lawL Lf c9 c8 (some (.ref pl)) c6 c5 c4 c3 (some (.ref dE)) c1 [v0, v1, v2, v3]) s) (hN : Names B.heap) (T : TopoIn B.heap) (hf : FnOk B.heap 28 (prepFd pmP cdP docP)) (hE : EdgesOk w B.heap dE n El)
    (hpl : B.heap.PlainList pl pv.toArray) (hpv : Paired (NatsV B.heap) xss pv) (hnd : xss.flatten.Nodup) (hne : ∀ xs ∈ xss, xs ≠ []) (hlt : ∀ x ∈ xss.flatten, x < n) (hn : n ≤ 60) (hcl : ∀ v ∈ xss.flatten, ∀ o ∈ El v, o ∈ xss.flatten)
    (hprt : ∀ xs ∈ xss, ∀ v ∈ xs, prt v = xs) (hEl : ∀ v, (El v).length ≤ 10)
    (htop : ∀ (i : Nat) xs, xss[i]? = some xs → ∀ q ∈ dnOf (depsL El prt) xs, q ∈ xss.take i) (hdn : ∀ xs, (depsL El prt xs).Nodup) (hdl : ∀ xs, (depsL El prt xs).length ≤ 1000)
    (hKS : KS xss (rvOf (depsL El prt) xss) (fun ys => (dnOf (depsL El prt) ys).length) (xss.length - (rdOf (depsL El prt) xss).length) (rdOf (depsL El prt) xss) Kn) (hKn : Kn.length ≤ 100)
    (hh : A.handled = none) (hd : A.depth < 800) (hu : A.units < 8900) (hfr : A.frames = some [lawEnv pmL cdL docL Lf])
    (h : ∀ s' B' bl, Sub B B' → St B' KAll (EqG B') (lawL Lf c9 c8 (some (.ref pl)) c6 c5 c4 c3 (some (.ref dE)) c1 [v0, v1, some (.ref bl), v3]) s' → LsV (LsV NatsV) B'.heap (Kn.map fun K => K.map srt) (.ref bl) → Q .next s') :
    wpAny (model pw w) A (exec (lawB.getD 9 (.Pass default)) (lawEnv pmL cdL docL Lf)) Q E s := by
  have hxl : xss.length ≤ 60 := Nat.le_trans (parts_length hne) (Nat.le_trans (nodup_length_le n _ hnd hlt) hn)
  show wpAny _ _ (exec (.Assign [.Name "batches" _] (.ListComp _ [⟨.Name "batch" _, _, [], 0⟩] _ _) _) _) _ _ _
  rw [exec_Assign_Name_used _ _ _ _ (by rfl)]
  refine wpAny_bind (wpAny_standAt (wpAny_bind ?_))
  show wpAny _ A (do let _ ← comprehension (.ListComp _ [⟨.Name "batch" _, _, [], 0⟩] _ _) _ (lawEnv pmL cdL docL Lf) _ (newList []) false (eval _ (lawEnv pmL cdL docL Lf)) (some (assign (.Name "batches" _) (lawEnv pmL cdL docL Lf)))) _ _ s
  refine wpAny_bind (wpAny_mono (wpAny_comprehension_free (Q := fun _ s' => Q .next s') rfl (by intro _; rfl) (cl := []) rfl rfl (names_ok _ rfl) ?_) (fun _ s' h => wpAny_pure (wpAny_pure h)) fun _ _ e => e)
  obtain ⟨mg, mb, hg, hb, g1, g2, g3, g4, g5, gm, b1, b2, b3, b4, b5, b6, b7, b8⟩ := hN.ex
  refine call1c T (lglob (hg.keeps S.hk) g3 ⟨rfl, call2 (lglob (hg.keeps S.hk) g2 (ldc S (c := Lf + 7) rfl (by unfold lawL; walk_at "mem") (ldc S (c := Lf + 2) rfl (by unfold lawL; walk_at "mem") ⟨?_, ?_⟩)))⟩)
  · obtain ⟨o, h1, h2, _⟩ := hf.keeps S.hk
    exact ⟨o, _, h1, h2⟩
  refine wpAny_call (prep_ok (hf.keeps S.hk) (hN.keeps S.hk) hh (by omega) (by omega) (hE.keeps S.hk) (PlainList.keeps hpl S.hk) (Mine.Paired.mono hpv fun _ _ x => stays_nat.list _ _ _ _ x S.hk) hnd hne hlt (by omega) hcl hprt hEl fun d s₁ K₁ _ hP => ?_)
  have S₁ := S.keeps K₁
  refine ⟨S₁.hk, topsort_call S₁ T hN hP ?_ (nodup_parts hnd hne) htop hdn hdl (by omega) hh (by omega) (by omega) fun s₂ B₂ x dx ig rv rdy is t S₂ hS₂ D₂ => ?_⟩
  · intro p hp
    unfold lawL at hp
    simp only [List.mem_cons, List.not_mem_nil, or_false] at hp
    rcases hp with rfl | rfl | rfl | rfl | rfl | rfl | rfl | rfl | rfl | rfl <;> first | exact cell_noseq | exact loc_noseq
  refine iter_ok S₂ D₂.t D₂.n D₂.x (by omega) fun s₃ S₃ => ?_
  refine wpAny_newList ?_ (by simp)
  refine newEnv_comp ?_
  have S₄ := S₃.alloc (o := { cls := .type "list", data := .seq ([] : List Value).toArray }) (P := LstP []) rfl ⟨0, rfl⟩
  have S₅ := S₄.alloc (o := { cls := .type "dict", data := .dict #[] }) (P := LocP ["batch"] [none]) rfl (by
    obtain ⟨o, ho, hN⟩ := ns_iff.mp (Heap.Ns.new s₃.heap (.type "dict"))
    rw [Heap.get?_push_size _ rfl] at ho
    cases ho; exact ⟨_, hN, rfl⟩)
  generalize hacc : s₃.heap.objs.size = acc at *
  generalize hC : ({ s₃ with heap := s₃.heap.push { cls := .type "list", data := .seq ([] : List Value).toArray } } : Shared).heap.objs.size = C at *
  have hroot : ∀ {s' : Shared}, St B₂ KAll (EqG B₂) ((C, LocP ["batch"] [none]) :: (acc, LstP []) :: (ig, TdP w (igX is)) :: (dx, AtP (mA (some (.ref ig)) (some (.ref rv)) (some (.ref rdy)) (some (.int ((xss.length - (rdOf (depsL El prt) xss).length : Nat) : Int) t)))) :: lawL Lf c9 c8 (some (.ref pl)) c6 c5 c4 c3 (some (.ref dE)) c1 [v0, v1, v2, v3]) s' →
      codeAny (model pw w) A (.compLoop (match lawB.getD 9 (.Pass default) with | .Assign _ v _ => v | _ => default) 0 (.ref x) (.ref acc) (cEnv (match lawB.getD 9 (.Pass default) with | .Assign _ (.ListComp _ _ s _) _ => s | _ => default) [] C (lawEnv pmL cdL docL Lf)))
        (compPost (model pw w) A E (some (assign (match lawB.getD 9 (.Pass default) with | .Assign [e] _ _ => e | _ => default) (lawEnv pmL cdL docL Lf))) (fun _ s' => Q .next s') (.ref acc) C) s' := by
    intro s' S'
    refine codeAny_compLoop_tests (fun k s' => ∃ B' rdy is t deg rem ready Ks dn out v, k = Ks.length ∧ Kn = dn ++ Ks ∧ KS xss (rvOf (depsL El prt) xss) deg rem ready Ks ∧ Sub B₂ B' ∧
      St B' KAll (EqG B') ((C, LocP ["batch"] [v]) :: (acc, LstP out) :: (ig, TdP w (igX is)) :: (dx, AtP (mA (some (.ref ig)) (some (.ref rv)) (some (.ref rdy)) (some (.int (rem : Int) t)))) :: lawL Lf c9 c8 (some (.ref pl)) c6 c5 c4 c3 (some (.ref dE)) c1 [v0, v1, v2, v3]) s' ∧
      TopD w B' x dx ig rv rdy xss (rvOf (depsL El prt) xss) deg ready is ∧ Paired (LsV NatsV B'.heap) (dn.map fun K => K.map srt) out) ?_ Kn.length ⟨B₂, rdy, is, t, _, _, _, Kn, [], [], none, rfl, rfl, hKS, Sub.refl B₂, S', D₂, .nil⟩
    rintro k s₆ ⟨B', rdy, is, t, deg, rem, ready, Ks, dn, out, v, rfl, hKd, hK, hS₆, S₆, D₆, hP₆⟩
    refine next_own (sp_next (D₆.t.keeps S₆.hk) (D₆.x.keeps S₆.hk)) (wpAny_call ?_)
    have hmemL : (Lf, LocP ksL [v0, v1, v2, v3]) ∈ [(C, LocP ["batch"] [v]), (acc, LstP out)] ++ lawL Lf c9 c8 (some (.ref pl)) c6 c5 c4 c3 (some (.ref dE)) c1 [v0, v1, v2, v3] := .tail _ (.tail _ (by unfold lawL; walk_at "mem"))
    have hxn := nodup_parts hnd hne
    cases hK with
    | nil =>
      refine next_ok (Lx := [(C, LocP ["batch"] [v]), (acc, LstP out)]) (La := Lf) (fenv := lawEnv pmL cdL docL Lf) D₆ S₆ hxn (by omega) (by simp) (fun q hq => nomatch hq) (fun pre q post e => by simp at e) (by simp [kfold]) (fun _ => rfl) hh (by omega) (by omega) hfr rfl rfl hmemL (fun h => absurd rfl h) (fun _ s₇ e S₇ hT => ⟨hT, ?_⟩)
      rw [List.append_nil] at hKd
      subst hKd
      show wpAny (model pw w) A (assign (.Name "batches" _) (lawEnv pmL cdL docL Lf) (.ref acc)) (fun _ s'' => ∃ m, s''.heap.Ns C m ∧ ∀ h', Heap.SameBut C s''.heap h' → Q .next { s'' with heap := h' }) E s₇
      replace S₇ : St B' KAll (EqG B') ((C, LocP ["batch"] [v]) :: (acc, LstP out) :: (ig, TdP w (igX is)) :: (dx, AtP (mA (some (.ref ig)) (some (.ref rv)) (some (.ref rdy)) (some (.int ((0 : Nat) : Int) t)))) :: lawL Lf c9 c8 (some (.ref pl)) c6 c5 c4 c3 (some (.ref dE)) c1 [v0, v1, v2, v3]) s₇ := S₇
      refine wpAny_assign_Name (stl S₇ (.tail (.tail (.tail (.tail (by unfold lawL; walk_at "upd"))))) (by walk_at "ls") (by decide) fun s₈ S₈ => ?_)
      obtain ⟨m, hm, _⟩ := S₈.ns (a := C) (ks := ["batch"]) (.head _)
      refine ⟨m, hm, fun h' hs' => ?_⟩
      have S₉ := (S₈.drop (List.sublist_cons_self _ _)).off (C := C) (h := h') (get?_none_of S₈ (.head _)) (S₈.above (D := [])) (fun b o hb e => (hs'.2 b hb).trans e)
      have hab := S₉.above (D := [])
      obtain ⟨B₃, hS₃, S₁₀, hfr'⟩ := S₉.froze (.cons _ (.cons _ (.cons _ (List.Sublist.refl _))))
      obtain ⟨na, hna⟩ := S₉.lst (a := acc) (vs := out) (.head _)
      exact h _ B₃ acc ((hS₂.trans hS₆).trans hS₃) S₁₀ ⟨acc, out, rfl, ⟨na, hfr' _ _ hna fun p hp => hab p (.tail _ (.tail _ hp))⟩, Mine.Paired.mono hP₆ fun _ _ y => stays_nat.list.list _ _ _ _ y hS₃.keep⟩
    | @cons _ _ _ Ks k1 k2 k3 k4 k5 k6 =>
      refine next_ok (Lx := [(C, LocP ["batch"] [v]), (acc, LstP out)]) (La := Lf) (fenv := lawEnv pmL cdL docL Lf) D₆ S₆ hxn (by omega) k2 k3 k4 k5 (fun e => absurd e k1) hh (by omega) (by omega) hfr rfl rfl hmemL (fun _ s₇ B₇ nr is' t' hS₇ S₇ D₇ => ?_) (fun e => absurd e k1)
      replace S₇ : St B₇ KAll (EqG B₇) ((C, LocP ["batch"] [v]) :: (acc, LstP out) :: (ig, TdP w (igX is')) :: (dx, AtP (mA (some (.ref ig)) (some (.ref rv)) (some (.ref nr)) (some (.int ((rem - (kfold deg (ready.flatMap (rvOf (depsL El prt) xss))).2.length : Nat) : Int) t')))) :: lawL Lf c9 c8 (some (.ref pl)) c6 c5 c4 c3 (some (.ref dE)) c1 [v0, v1, v2, v3]) s₇ := S₇
      refine wpAny_assign_Name (stl S₇ .head .head (by decide) fun s₈ S₈ => wpAny_tests_nil ?_)
      rw [if_pos rfl]
      obtain ⟨l, yv, e, hyl, hyv⟩ := stays_nat.tuple.list _ _ _ _ D₆.y hS₇.keep
      cases e
      have hyn : ready.length = yv.length := hyv.length
      refine lc_loc (cl := []) rfl ?_
      refine ldl S₈ (.head _) (by walk_at "lg") ?_
      refine iter_list (s₀ := s₈) hh (krefl _) (PlainList.keeps hyl S₈.hk).isList fun itv s₉ K₉ hz₉ W₉ => ?_
      refine ⟨s₈, yv.length, _, fun _ => true, fun h i y => ∃ q, ready[i]? = some q ∧ Abv (s₉.heap.objs.size + 1) NatsV h (srt q) y, W₉, by omega, Nat.le_of_lt hz₉, ⟨?_, fun _ _ _ _ _ _ _ _ => wpAny_tests_nil ⟨rfl, krefl _⟩, ?_⟩, ?_⟩
      · rintro h1 h2 i y ⟨q, hq, ⟨l, vals, e, hp, hv⟩, hl⟩ hk
        exact ⟨q, hq, ⟨l, vals, e, hp.at fun o e' => hk l o (hl l e) e', hv⟩, hl⟩
      · rintro i v' s₃' E' hi hv _ hX hk
        obtain ⟨q, hq, hqv⟩ := paired_get hyv hv
        have k7 : ∀ b o, B₇.heap.get? b = some o → s₃'.heap.get? b = some o := fun b o e => hk b o (S₈.hk b o e)
        have kB : ∀ b o, B.heap.get? b = some o → s₃'.heap.get? b = some o := fun b o e => k7 b o (hS₇.keep b o (hS₆.keep b o (hS₂.keep b o e)))
        have hXl : @LT.lt Nat _ (s₉.heap.objs.size + 1) s₃'.heap.objs.size := by obtain ⟨o, e, _⟩ := hX; exact Heap.lt_size e
        have hqx : q ∈ xss := (k3 q (List.mem_of_getElem? hq)).1
        have hql : q.length ≤ n := nodup_length_le n q (hnd.sublist (sub_flatten hqx)) fun z hz => hlt z (List.mem_flatten.mpr ⟨q, hqx, hz⟩)
        exact call1 (lblt (hg.keeps kB) (gm _ (by decide)) (hb.keeps kB) b3 (rdl hX (by walk_at "lg") ⟨trivial, sorted_tup (stays_nat.tuple _ _ _ _ hqv k7) (by omega) fun y s₄ K₄ hA => ⟨K₄, q, hq, hA.1, fun l e => Nat.lt_trans hXl (hA.2 l e)⟩⟩))
      · intro D s₁₀ out' K₁₀ hz hl hP
        have S₁₀ := S₈.keeps K₁₀
        obtain ⟨B₉, hS₉, S₁₁, hfr'⟩ := S₁₀.froze (List.Sublist.refl _)
        have hbig : ∀ a o, s₁₀.heap.get? a = some o → @LE.le Nat _ s₈.heap.objs.size a → B₉.heap.get? a = some o := fun a o e hle => hfr' a o e fun p hp q => by
          have h1 : @LT.lt Nat _ p.1 s₈.heap.objs.size := S₈.lt hp
          have h2 : @Eq Nat p.1 a := q
          omega
        have hval : LsV NatsV B₉.heap (ready.map srt) (.ref D) := by
          obtain ⟨m, hm⟩ := hl
          refine ⟨D, out', rfl, ⟨m, hbig _ _ hm hz⟩, ?_⟩
          rw [List.filter_eq_self.mpr (fun _ _ => rfl)] at hP
          have h1 := paired_range (as := ready) (R := fun q y => NatsV B₉.heap (srt q) y) (Mine.Paired.mono hP fun i y ⟨q, hq, ⟨⟨l, vals, e, ⟨m, hp⟩, hv⟩, hl⟩⟩ => ⟨q, hq, l, vals, e, ⟨m, hbig _ _ hp (by have := hl l e; omega)⟩, hv⟩) hyn.symm
          exact paired_map h1
        have hol : out.length ≤ 100 := by
          have h1 : (dn.map fun K => K.map srt).length = out.length := hP₆.length
          have h2 := congrArg List.length hKd
          rw [List.length_map] at h1
          rw [List.length_append] at h2
          omega
        refine S_append S₁₁ (.tail .head) (by omega) fun s₁₂ S₁₂ => ⟨Ks.length, by simp, B₉, nr, is', t', _, _, _, Ks, dn ++ [ready], out ++ [.ref D], _, rfl, by rw [hKd]; simp, k6, (hS₆.trans hS₇).trans hS₉, S₁₂, D₇.keeps hS₉.keep, ?_⟩
        rw [List.map_append]
        exact Paired.snoc (Mine.Paired.mono hP₆ fun _ _ y => stays_nat.list.list _ _ _ _ y fun b o e => hS₉.keep b o (hS₇.keep b o e)) hval
  exact codeAny_compStart_list (hroot S₅) (iter_ok S₅ D₂.t D₂.n D₂.x (by omega) fun s' S' => hroot S')
end
end Mine
end

section
open PySem PySem.W PyProof.Rows
set_option Elab.async false
set_option maxRecDepth 100000
namespace Mine
section
variable {prog : Program} {w : World} {A : Around} {E : Value → Shared → Prop} {R : Result → Shared → Prop} {s : Shared}

theorem comp2_turn0 (elt t0 i0 t1 i1 : Expr) (scope : Scope) (pos : Pos) (it acc : Value) (env : Env) :
    compTurn (.ListComp elt [⟨t0, i0, [], 0⟩, ⟨t1, i1, [], 0⟩] scope pos) 0 it acc env = (do
      standAt i0.pos
      match ← pyNext it with
      | none => pure (.done .next)
      | some v =>
        letOwnedTupleGo t0 it v
        assign t0 env v
        let x ← eval i1 env
        standAt i1.pos
        let x ← foldedSetIterable i1 env x
        let it' ← holding [x] (pyIter x)
        let _ ← runOwn (.compStart (.ListComp elt [⟨t0, i0, [], 0⟩, ⟨t1, i1, [], 0⟩] scope pos) 1 it' acc env) env
        again (.compLoop (.ListComp elt [⟨t0, i0, [], 0⟩, ⟨t1, i1, [], 0⟩] scope pos) 0 it acc env)) := by
  rfl
theorem comp2_turn1 (elt t0 i0 t1 i1 : Expr) (scope : Scope) (pos : Pos) (it acc : Value) (env : Env) :
    compTurn (.ListComp elt [⟨t0, i0, [], 0⟩, ⟨t1, i1, [], 0⟩] scope pos) 1 it acc env = (do
      standAt i1.pos
      match ← pyNext it with
      | none => pure (.done .next)
      | some v =>
        letOwnedTupleGo t1 it v
        assign t1 env v
        (do let _ ← call (.builtin "list.append") [acc, ← eval elt env])
        again (.compLoop (.ListComp elt [⟨t0, i0, [], 0⟩, ⟨t1, i1, [], 0⟩] scope pos) 1 it acc env)) := by rfl

/-- a comprehension over two clauses: the outer loop -/
theorem comp2_outer {elt t0 i0 t1 i1 : Expr} {scope : Scope} {pos : Pos} {it acc : Value} {env : Env} (I : Nat → Shared → Prop)
    (turn : ∀ n s, I n s → wpAny (model prog w) A (pyNext it) (fun r s₁ => match r with
      | none => R (.ok .next) s₁
      | some v => wpAny (model prog w) A (assign t0 env v) (fun _ s₂ => wpAny (model prog w) A (eval i1 env) (fun x s₃ => wpAny (model prog w) A (pyIter x) (fun it' s₄ =>
          codeAny (model prog w) A (.compStart (.ListComp elt [⟨t0, i0, [], 0⟩, ⟨t1, i1, [], 0⟩] scope pos) 1 it' acc env) (fun r s₅ => match r with
            | .ok _ => ∃ m, m < n ∧ I m s₅
            | .error e => cameBackBy (model prog w) A env (notedBy (model prog w) A env fun e s' => R (.error e) s') e s₅) s₄)
          (notedBy (model prog w) A env fun e s' => R (.error e) s') s₃) (notedBy (model prog w) A env fun e s' => R (.error e) s') s₂) (notedBy (model prog w) A env fun e s' => R (.error e) s') s₁) (notedBy (model prog w) A env fun e s' => R (.error e) s') s)
    (n : Nat) (h : I n s) (ht : ∀ v, letOwnedTupleGo t0 it v = pure () := by intro _; rfl) (hs : ∀ x, foldedSetIterable i1 env x = pure x := by intro _; rfl) :
    codeAny (model prog w) A (.compLoop (.ListComp elt [⟨t0, i0, [], 0⟩, ⟨t1, i1, [], 0⟩] scope pos) 0 it acc env) R s := by
  refine codeAny_loop rfl I (fun n s hI => ?_) n h
  show wpAny _ A ((compTurn (.ListComp elt [⟨t0, i0, [], 0⟩, ⟨t1, i1, [], 0⟩] scope pos) 0 it acc env).onRaise (fun x => do noteFrame x env; theTreesLotGoes x)) _ _ s
  refine wpAny_noted ?_
  rw [comp2_turn0]
  refine wpAny_bind (wpAny_standAt (wpAny_bind (wpAny_mono (turn n s hI) (fun r s₁ h₁ => ?_) fun _ _ h' => h')))
  cases r with
  | none => exact wpAny_pure h₁
  | some v =>
    refine wpAny_bind (wpAny_of_eq (ht v) ?_)
    refine wpAny_bind (wpAny_mono h₁ (fun _ s₂ h₂ => wpAny_bind (wpAny_mono h₂ (fun x s₃ h₃ => ?_) fun _ _ h' => h')) fun _ _ h' => h')
    refine wpAny_bind (wpAny_standAt (wpAny_bind (wpAny_of_eq (hs x) (wpAny_bind (wpAny_holding (wpAny_mono h₃ (fun it' s₄ h₄ => ?_) fun _ _ h' => h'))))))
    refine wpAny_bind (wpAny_runOwn (h := none) (codeAny_mono h₄ fun r s₅ hr => ?_))
    cases r with
    | ok f => exact wpAny_pure ⟨rfl, hr⟩
    | error e => exact hr
/-- the inner loop -/
theorem comp2_inner {elt t0 i0 t1 i1 : Expr} {scope : Scope} {pos : Pos} {it acc : Value} {env : Env} (I : Nat → Shared → Prop)
    (turn : ∀ n s, I n s → wpAny (model prog w) A (pyNext it) (fun r s₁ => match r with
      | none => R (.ok .next) s₁
      | some v => wpAny (model prog w) A (assign t1 env v) (fun _ s₂ => wpAny (model prog w) A (eval elt env) (fun x s₃ =>
          wpAny (model prog w) A (call (.builtin "list.append") [acc, x]) (fun _ s₄ => ∃ m, m < n ∧ I m s₄) (notedBy (model prog w) A env fun e s' => R (.error e) s') s₃)
          (notedBy (model prog w) A env fun e s' => R (.error e) s') s₂) (notedBy (model prog w) A env fun e s' => R (.error e) s') s₁) (notedBy (model prog w) A env fun e s' => R (.error e) s') s)
    (n : Nat) (h : I n s) (ht : ∀ v, letOwnedTupleGo t1 it v = pure () := by intro _; rfl) :
    codeAny (model prog w) A (.compLoop (.ListComp elt [⟨t0, i0, [], 0⟩, ⟨t1, i1, [], 0⟩] scope pos) 1 it acc env) R s := by
  refine codeAny_loop rfl I (fun n s hI => ?_) n h
  show wpAny _ A ((compTurn (.ListComp elt [⟨t0, i0, [], 0⟩, ⟨t1, i1, [], 0⟩] scope pos) 1 it acc env).onRaise (fun x => do noteFrame x env; theTreesLotGoes x)) _ _ s
  refine wpAny_noted ?_
  rw [comp2_turn1]
  refine wpAny_bind (wpAny_standAt (wpAny_bind (wpAny_mono (turn n s hI) (fun r s₁ h₁ => ?_) fun _ _ h' => h')))
  cases r with
  | none => exact wpAny_pure h₁
  | some v =>
    refine wpAny_bind (wpAny_of_eq (ht v) ?_)
    exact wpAny_bind (wpAny_mono h₁ (fun _ s₂ h₂ => wpAny_bind (wpAny_bind (wpAny_mono h₂ (fun x s₃ h₃ => wpAny_bind (wpAny_mono h₃
      (fun _ s₄ h₄ => wpAny_pure (wpAny_pure ⟨rfl, h₄⟩)) fun _ _ h' => h')) fun _ _ h' => h'))) fun _ _ h' => h')
theorem comp2_start {elt t0 i0 t1 i1 : Expr} {scope : Scope} {pos : Pos} {it acc : Value} {env : Env}
    (h0 : codeAny (model prog w) A (.compLoop (.ListComp elt [⟨t0, i0, [], 0⟩, ⟨t1, i1, [], 0⟩] scope pos) 1 it acc env) R s)
    (h : wpAny (model prog w) A (pyIter it) (fun it' s' => codeAny (model prog w) A (.compLoop (.ListComp elt [⟨t0, i0, [], 0⟩, ⟨t1, i1, [], 0⟩] scope pos) 1 it' acc env) R s')
      (notedBy (model prog w) A env fun x s' => R (.error x) s') s) :
    codeAny (model prog w) A (.compStart (.ListComp elt [⟨t0, i0, [], 0⟩, ⟨t1, i1, [], 0⟩] scope pos) 1 it acc env) R s := by
  refine codeAny_of_tree ?_
  show wpAny _ _ ((compStart (.ListComp elt [⟨t0, i0, [], 0⟩, ⟨t1, i1, [], 0⟩] scope pos) 1 it acc env).onRaise (fun x => do noteFrame x env; standAt theWindowsPlace)) _ _ s
  refine wpAny_notedAt ?_
  unfold compStart
  show wpAny _ _ (ask >>= _) _ _ s
  refine wpAny_bind (wpAny_askSetting (wpAny_ite ?_))
  split
  · first
      | exact wpAny_bind (wpAny_pure (wpAny_pure (And.intro rfl h0)))
      | exact wpAny_pure (And.intro rfl h0)
  · first
      | exact wpAny_bind (wpAny_rule (wpAny_bind (wpAny_standAt (wpAny_bind (wpAny_mono h (fun it' s' h' => wpAny_pure (And.intro rfl h')) fun _ _ x => x)))))
      | (refine wpAny_bind (wpAny_rule ?_); show wpAny _ _ (standAt i1.pos >>= _) _ _ s; exact wpAny_bind (wpAny_standAt (wpAny_bind (wpAny_mono h (fun it' s' h' => wpAny_pure (And.intro rfl h')) fun _ _ x => x))))
end
end Mine
end

section
open PySem PySem.W PyProof.Rows
set_option Elab.async false
set_option maxRecDepth 100000
namespace Mine
local macro_rules | `(tactic| walk_at "mem") => `(tactic| repeat (first | exact List.Mem.head _ | apply List.Mem.tail))
local macro_rules | `(tactic| walk_at "lg") => `(tactic| repeat (first | (with_reducible exact LG.head) | apply LG.tail))
local macro_rules | `(tactic| walk_at "upd") => `(tactic| repeat (first | exact Upd.head | apply Upd.tail))
local macro_rules | `(tactic| walk_at "ls") => `(tactic| repeat (first | (with_reducible exact LS.head) | apply LS.tail))

section
variable {w : World} {A : Around} {E : Value → Shared → Prop} {B : Shared} {s : Shared} {pmL cdL docL : Value} {Lf : Addr}

def lc7 : Expr := match lawB.getD 7 (.Pass default) with
  | .If (.Compare (.Call _ [e] _ _) _ _ _) _ _ _ => e
  | _ => default

theorem comp7 {Q : Value → Shared → Prop} {c9 c8 c6 c5 c4 c3 c2 c1 : Option Value} {vs : List (Option Value)} {pl : Addr} {pv : List Value} {xss : List (List Nat)}
    (S : St B KAll (EqG B) (lawL Lf c9 c8 (some (.ref pl)) c6 c5 c4 c3 c2 c1 vs) s) (hpl : B.heap.PlainList pl pv.toArray) (hpv : Paired (NatsV B.heap) xss pv) (hlen : xss.flatten.length ≤ 1000) (hh : A.handled = none)
    (h : ∀ s' acc out, St B KAll (EqG B) ((acc, LstP out) :: lawL Lf c9 c8 (some (.ref pl)) c6 c5 c4 c3 c2 c1 vs) s' → NA out xss.flatten → Q (.ref acc) s') :
    wpAny (model pw w) A (eval lc7 (lawEnv pmL cdL docL Lf)) Q E s := by
  show wpAny _ _ (eval (.ListComp _ [⟨.Name "part" _, _, [], 0⟩, ⟨.Name "place" _, _, [], 0⟩] _ _) _) _ _ _
  rw [eval_ListComp]
  refine wpAny_comprehension_free (use := none) rfl (by intro _; rfl) (cl := []) rfl rfl (names_ok _ rfl) ?_
  refine ldc S (c := Lf + 7) rfl (by unfold lawL; walk_at "mem") (S_iter S (PlainList.keeps hpl S.hk) fun it s₁ _ _ S₁ => ?_)
  refine wpAny_newList ?_ (by simp)
  refine newEnv_comp ?_
  have S₄ := S₁.alloc (o := { cls := .type "list", data := .seq ([] : List Value).toArray }) (P := LstP []) rfl ⟨0, rfl⟩
  have S₅ := S₄.alloc (o := { cls := .type "dict", data := .dict #[] }) (P := LocP ["part", "place"] [none, none]) rfl (by
    obtain ⟨o, ho, hN⟩ := ns_iff.mp (Heap.Ns.new s₁.heap (.type "dict"))
    rw [Heap.get?_push_size _ rfl] at ho
    cases ho; exact ⟨_, hN, rfl⟩)
  generalize hacc : s₁.heap.objs.size = acc at *
  generalize hC : ({ s₁ with heap := s₁.heap.push { cls := .type "list", data := .seq ([] : List Value).toArray } } : Shared).heap.objs.size = C at *
  have hlp : xss.length = pv.length := hpv.length
  have hroot : ∀ {s' : Shared}, St B KAll (EqG B) ((C, LocP ["part", "place"] [none, none]) :: (acc, LstP []) :: (it, LitP pl 0) :: lawL Lf c9 c8 (some (.ref pl)) c6 c5 c4 c3 c2 c1 vs) s' →
      codeAny (model pw w) A (.compLoop lc7 0 (.ref it) (.ref acc) (cEnv (match lc7 with | .ListComp _ _ s _ => s | _ => default) [] C (lawEnv pmL cdL docL Lf)))
        (compPost (model pw w) A E none Q (.ref acc) C) s' := by
    intro s' S'
    refine comp2_outer (fun k s' => ∃ i v1 v2 out, k = pv.length - i ∧ i ≤ pv.length ∧ St B KAll (EqG B) ((C, LocP ["part", "place"] [v1, v2]) :: (acc, LstP out) :: (it, LitP pl i) :: lawL Lf c9 c8 (some (.ref pl)) c6 c5 c4 c3 c2 c1 vs) s' ∧ NA out ((xss.take i).flatten)) ?_
      pv.length ⟨0, none, none, [], rfl, Nat.zero_le _, S', .nil⟩
    rintro k s₆ ⟨i, v1, v2, out, rfl, hi, S₆, hO⟩
    by_cases hlt : i < pv.length
    · have hx : pv[i]? = some pv[i] := by simp [hlt]
      refine S_next S₆ (.tail (.tail .head)) (PlainList.keeps hpl S₆.hk) hx fun s₇ S₇ _ => ?_
      obtain ⟨xs, hxs, l, vals, e, hl, hv⟩ := paired_get hpv hx
      refine wpAny_assign_Name (stl S₇ .head .head (by decide) fun s₈ S₈ => ?_)
      refine ldl S₈ (.head _) (by walk_at "lg") ?_
      rw [e] at S₈ ⊢
      refine S_iter S₈ (PlainList.keeps hl S₈.hk) fun it2 s₉ _ _ S₉ => ?_
      have hvl : xs.length = vals.length := hv.length
      have inner : ∀ {s' : Shared}, St B KAll (EqG B) ((it2, LitP l 0) :: (C, LocP ["part", "place"] [some (.ref l), v2]) :: (acc, LstP out) :: (it, LitP pl (i + 1)) :: lawL Lf c9 c8 (some (.ref pl)) c6 c5 c4 c3 c2 c1 vs) s' →
          codeAny (model pw w) A (.compLoop lc7 1 (.ref it2) (.ref acc) (cEnv (match lc7 with | .ListComp _ _ s _ => s | _ => default) [] C (lawEnv pmL cdL docL Lf)))
            (fun r s₅ => match r with
              | .ok _ => ∃ m, m < pv.length - i ∧ ∃ i v1 v2 out, m = pv.length - i ∧ i ≤ pv.length ∧ St B KAll (EqG B) ((C, LocP ["part", "place"] [v1, v2]) :: (acc, LstP out) :: (it, LitP pl i) :: lawL Lf c9 c8 (some (.ref pl)) c6 c5 c4 c3 c2 c1 vs) s₅ ∧ NA out ((xss.take i).flatten)
              | .error e => cameBackBy (model pw w) A (cEnv (match lc7 with | .ListComp _ _ s _ => s | _ => default) [] C (lawEnv pmL cdL docL Lf)) (notedBy (model pw w) A (cEnv (match lc7 with | .ListComp _ _ s _ => s | _ => default) [] C (lawEnv pmL cdL docL Lf)) fun e s' => compPost (model pw w) A E none Q (.ref acc) C (.error e) s') e s₅) s' := by
        intro s' S'
        refine comp2_inner (fun k s' => ∃ j v2 out, k = vals.length - j ∧ j ≤ vals.length ∧ St B KAll (EqG B) ((it2, LitP l j) :: (C, LocP ["part", "place"] [some (.ref l), v2]) :: (acc, LstP out) :: (it, LitP pl (i + 1)) :: lawL Lf c9 c8 (some (.ref pl)) c6 c5 c4 c3 c2 c1 vs) s' ∧ NA out ((xss.take i).flatten ++ xs.take j)) ?_
          vals.length ⟨0, v2, out, rfl, Nat.zero_le _, S', by simpa using hO⟩
        rintro k s₆ ⟨j, v2, out, rfl, hj, S₆, hO⟩
        by_cases hlt2 : j < vals.length
        · have hy : vals[j]? = some vals[j] := by simp [hlt2]
          refine S_next S₆ .head (PlainList.keeps hl S₆.hk) hy fun s₇ S₇ _ => ?_
          obtain ⟨x, hx, t, e⟩ := paired_get hv hy
          rw [e]
          refine wpAny_assign_Name (stl S₇ (.tail .head) (.tail .head) (by decide) fun s₈ S₈ => ?_)
          refine ldl S₈ (.tail _ (.head _)) (by walk_at "lg") ?_
          have hol := hO.length
          have hfl : ((xss.take i).flatten ++ xs.take j).length ≤ 1000 := by
            have h1 := flatten_take hxs
            have h2 : (xss.take (i + 1)).flatten.Sublist xss.flatten := by
              conv => rhs; rw [← List.take_append_drop (i + 1) xss, List.flatten_append]
              exact List.sublist_append_left _ _
            have h3 := h2.length_le
            rw [h1, List.length_append] at h3
            rw [List.length_append, List.length_take]
            omega
          refine S_append S₈ (.tail (.tail .head)) (by omega) fun s₉ S₉ => ⟨vals.length - (j + 1), by omega, j + 1, _, _, rfl, hlt2, S₉, ?_⟩
          rw [take_snoc hx, ← List.append_assoc]
          exact hO.snoc x t
        · have e : j = vals.length := by omega
          subst e
          refine S_stop hh S₆ .head (PlainList.keeps hl S₆.hk) (by simp) fun s₇ S₇ _ => ?_
          refine ⟨pv.length - (i + 1), by omega, i + 1, _, _, _, rfl, hlt, S₇.drop (List.sublist_cons_self _ _), ?_⟩
          rw [flatten_take hxs]
          rw [show xs.take vals.length = xs from List.take_of_length_le (by omega)] at hO
          exact hO
      exact comp2_start (inner S₉) (wpAny_pyIter_listiter (S₉.lit (.head _)) (inner S₉))
    · have e : i = pv.length := by omega
      subst e
      refine S_stop hh S₆ (.tail (.tail .head)) (PlainList.keeps hpl S₆.hk) (by simp) fun s₇ S₇ _ => ?_
      obtain ⟨m, hm, _⟩ := S₇.ns (a := C) (ks := ["part", "place"]) (.head _)
      refine ⟨m, hm, fun h' hs' => ?_⟩
      have S₉ := (S₇.drop (List.sublist_cons_self _ _)).off (C := C) (h := h') (get?_none_of S₇ (.head _)) (S₇.above (D := [])) (fun b o hb e => (hs'.2 b hb).trans e)
      rw [List.take_of_length_le (by omega)] at hO
      exact h _ acc out (S₉.drop (.cons_cons _ (.cons _ (List.Sublist.refl _)))) hO
  exact codeAny_compStart_list (hroot S₅) (wpAny_pyIter_listiter (S₅.lit (.tail _ (.tail _ (.head _)))) (hroot S₅))
end
end Mine
end

section
open PySem PySem.W PyProof.Rows
set_option Elab.async false
set_option maxRecDepth 100000
namespace Mine
local macro_rules | `(tactic| walk_at "mem") => `(tactic| repeat (first | exact List.Mem.head _ | apply List.Mem.tail))
local macro_rules | `(tactic| walk_at "lg") => `(tactic| repeat (first | (with_reducible exact LG.head) | apply LG.tail))
local macro_rules | `(tactic| walk_at "upd") => `(tactic| repeat (first | exact Upd.head | apply Upd.tail))
local macro_rules | `(tactic| walk_at "ls") => `(tactic| repeat (first | (with_reducible exact LS.head) | apply LS.tail))

theorem paired_items {F : Nat → Value → Prop} : ∀ (vs : List Value) (k : Nat), (∀ j v, vs[j]? = some v → F (k + j) v) → Paired F (List.range' k vs.length) vs
  | [], _, _ => .nil
  | v :: vs, k, h => by
    rw [List.length_cons, List.range'_succ]
    refine .cons (by simpa using h 0 v rfl) (paired_items vs (k + 1) fun j u hj => ?_)
    have := h (j + 1) u (by simpa using hj)
    rwa [show k + (j + 1) = k + 1 + j by omega] at this

section
variable {w : World} {A : Around} {E : Value → Shared → Prop} {B : Shared} {s : Shared} {pmL cdL docL : Value} {Lf : Addr}

theorem list_range {prog : Program} {s : Shared} {n : Nat} {t : Tok} {Q : Value → Shared → Prop} (hh : A.handled = none) (hn : n ≤ 2 ^ 20)
    (h : ∀ v s', Keeps s s' → NatsV s'.heap (List.range n) v → Q v s') :
    wpAny (model prog w) A (call (.type "range") [.int (n : Int) t]) (fun xv s₂ => wpAny (model prog w) A (call (.type "list") [xv]) Q E s₂) E s := by
  have hsz : Builtin.Range.rangeSize 0 (n : Int) 1 = (n : Int) := by rw [rangeSize_one]; split <;> omega
  refine call_range_1 ?_
  refine call_list_range (n := n) hh (IsRange.new ..) (small_one (by decide) (by decide) (by omega) (by omega)) hsz (by omega) fun h' tk acc' c' hk hl hI => ?_
  refine h _ _ ⟨h', tk, rfl, fun b o e => hk b o (Heap.get?_push_of_some _ e)⟩ ⟨_, acc'.toList, rfl, ⟨c', by rw [Array.toArray_toList]; exact hl⟩, ?_⟩
  have h1 := paired_items (F := NatV h') acc'.toList 0 fun j v hj => by
    obtain ⟨t, e⟩ := hI.2 j v (by rw [← Array.getElem?_toList]; exact hj)
    exact ⟨t, by rw [e]; congr 1; omega⟩
  rw [show acc'.toList.length = n by rw [Array.length_toList]; exact hI.1, ← List.range_eq_range'] at h1
  exact h1

theorem law7 {Q : Flow → Shared → Prop} {c9 c8 c6 c5 c4 c3 c2 : Option Value} {vs : List (Option Value)} {pl : Addr} {pv : List Value} {xss : List (List Nat)} {n : Nat} {tn : Tok}
    (S : St B KAll (EqG B) (lawL Lf c9 c8 (some (.ref pl)) c6 c5 c4 c3 c2 (some (.int (n : Int) tn)) vs) s) (hN : Names B.heap) (hpl : B.heap.PlainList pl pv.toArray) (hpv : Paired (NatsV B.heap) xss pv) (hlen : xss.flatten.length < 64) (hn : n ≤ 60)
    (hsort : srt xss.flatten = List.range n) (hh : A.handled = none) (hu : A.units < 8900)
    (h : ∀ s', St B KAll (EqG B) (lawL Lf c9 c8 (some (.ref pl)) c6 c5 c4 c3 c2 (some (.int (n : Int) tn)) vs) s' → Q .next s') :
    wpAny (model pw w) A (exec (lawB.getD 7 (.Pass default)) (lawEnv pmL cdL docL Lf)) Q E s := by
  obtain ⟨mg, mb, hg, hb, g1, g2, g3, g4, g5, gm, b1, b2, b3, b4, b5, b6, b7, b8⟩ := hN.ex
  refine wpAny_If (wpAny_isTrue_Compare1 (call1 (lblt (hg.keeps S.hk) (gm _ (by decide)) (hb.keeps S.hk) b3 ?_)))
  refine comp7 S hpl hpv (by omega) hh fun s₁ acc out S₁ hO => ⟨trivial, ?_⟩
  refine sorted_list ⟨acc, out, rfl, S₁.lst (.head _), na_paired hO⟩ hlen fun v s₂ K₂ hv => ?_
  have S₂ := (S₁.drop (List.sublist_cons_self _ _)).keeps K₂
  rw [hsort] at hv
  refine call1 (lblt (hg.keeps S₂.hk) (gm _ (by decide)) (hb.keeps S₂.hk) b4 (call1 (lblt (hg.keeps S₂.hk) (gm _ (by decide)) (hb.keeps S₂.hk) b2 (ldc S₂ (c := Lf + 1) rfl (by unfold lawL; walk_at "mem") ⟨trivial, ?_⟩))))
  refine wpAny_mono (list_range (E := E) (A := A) (prog := pw) (w := w) hh (by omega) fun v' s₃ K₃ hv' => ?_) (fun xv s' h' => ⟨trivial, h'⟩) fun _ _ e => e
  refine ne_rd enc_pI.list rd_nat.list (a := List.range n) (b := List.range n) (stays_nat.list _ _ _ _ hv.1 (kget K₃)) hv' (by simp only [cLine]; omega) (wpAny_truthy_bool ?_)
  rw [show decide (List.range n ≠ List.range n) = false by simp]
  show wpAny _ _ _ _ _ _
  exact wpAny_execs_nil (h _ (S₂.keeps K₃))
end
end Mine
end

section
open PySem PySem.W PyProof.Rows
set_option Elab.async false
set_option maxRecDepth 100000
namespace Mine

/-- the enumeration, at i -/
def EnP (it : Addr) (i : Nat) : OP := fun o => ∃ old, o = { cls := .type "enumerate", dict := none, data := .fields #[.none, .bool false, .ref it, rawInt ((i : Nat) : Int), .none, old], slots := #[] }

theorem St.redo {B s s' : Shared} {L L' : Ledger} (S : St B KAll (EqG B) L s) (hk : L'.map (·.1) = L.map (·.1)) (h1 : ∀ b o, B.heap.get? b = some o → s'.heap.get? b = some o) (h2 : ∀ p ∈ L', ∃ o, s'.heap.get? p.1 = some o ∧ p.2 o) (hd : s'.drawn = s.drawn) (ho : s'.os = s.os) (hg : s'.gens = s.gens) : St B KAll (EqG B) L' s' :=
  ⟨fun b o e _ => h1 b o e, fun p hp o e => by
    have : p.1 ∈ L.map (·.1) := hk ▸ List.mem_map_of_mem hp
    obtain ⟨q, hq, e'⟩ := List.mem_map.mp this
    exact S.own q hq o (e' ▸ e), h2, hk ▸ S.ord, fun b o e => ⟨o, h1 b o e⟩, hd.trans S.drawn, ho.trans S.os, (show s'.gens = B.gens from hg.trans S.gens)⟩

section
variable {prog : Program} {w : World} {A : Around} {E : Value → Shared → Prop} {R : Result → Shared → Prop} {B : Shared} {L : Ledger} {s : Shared} {env : Env}

theorem forE {n1 n2 : Str} {p1 p2 : Pos} {x1} {pt : Pos} {body : List Stmt} {e it l : Addr} {vals : List Value} (hh : A.handled = none) (J : Nat → Ledger → Prop)
    (hl : ∀ i L s, J i L → St B KAll (EqG B) ((e, EnP it i) :: (it, LitP l i) :: L) s → s.heap.PlainList l vals.toArray)
    (step : ∀ i v t L s, vals[i]? = some v → J i L → St B KAll (EqG B) ((e, EnP it (i + 1)) :: (it, LitP l (i + 1)) :: L) s →
      wpAny (model prog w) A (assign (.Name n1 p1) env (.int ((i : Nat) : Int) t)) (fun _ s₁ => wpAny (model prog w) A (assign (.Name n2 p2) env v) (fun _ s₂ => wpAny (model prog w) A (execs body env) (fun f s₃ => f = .next ∧ ∃ L', J (i + 1) L' ∧ St B KAll (EqG B) ((e, EnP it (i + 1)) :: (it, LitP l (i + 1)) :: L') s₃)
        (notedBy (model prog w) A env fun e s' => R (.error e) s') s₂) (notedBy (model prog w) A env fun e s' => R (.error e) s') s₁) (notedBy (model prog w) A env fun e s' => R (.error e) s') s)
    (done : ∀ L s, J vals.length L → St B KAll (EqG B) L s → R (.ok .next) s)
    (h0 : J 0 L) (S : St B KAll (EqG B) ((e, EnP it 0) :: (it, LitP l 0) :: L) s) :
    codeAny (model prog w) A (.forLoop (.Tuple [.Name n1 p1, .Name n2 p2] x1 pt) (.ref e) body [] env) R s := by
  refine codeAny_forLoop_any (fun n s => ∃ i L, n = vals.length - i ∧ i ≤ vals.length ∧ J i L ∧ St B KAll (EqG B) ((e, EnP it i) :: (it, LitP l i) :: L) s) ?_ vals.length ⟨0, L, rfl, Nat.zero_le _, h0, S⟩
  rintro n s ⟨i, L, rfl, hi, hj, S⟩
  have hl' := hl i L s hj S
  obtain ⟨o, ho, old, rfl⟩ := S.get (a := e) (P := EnP it i) (.head _)
  have hei : @LT.lt Nat _ it e := (List.pairwise_cons.mp S.ord).1 it (by simp)
  have hne : e ≠ it := Nat.ne_of_gt hei
  have hLn : ∀ p ∈ L, p.1 ≠ e ∧ p.1 ≠ it := fun p hp => by
    have q1 := List.pairwise_cons.mp S.ord
    have q2 := List.pairwise_cons.mp q1.2
    exact ⟨Nat.ne_of_lt (q1.1 p.1 (.tail _ (List.mem_map_of_mem hp))), Nat.ne_of_lt (q2.1 p.1 (List.mem_map_of_mem hp))⟩
  have hBn : ∀ b o, B.heap.get? b = some o → b ≠ e ∧ b ≠ it := fun b o hb => ⟨fun q => (by rw [q, get?_none_of S (a := e) (P := EnP it i) (.head _)] at hb; cases hb), fun q => (by rw [q, get?_none_of S (a := it) (P := LitP l i) (.tail _ (.head _))] at hb; cases hb)⟩
  by_cases hlt : i < vals.length
  · have hx : vals[i]? = some vals[i] := by simp [hlt]
    refine wpAny_pyNext_enum_item ho (S.lit (.tail _ (.head _))) hl'.isList (x := vals[i]) (by simp [hlt]) hne fun h₁ he₁ hit₁ ht₁ hz₁ hk₁ => ?_
    refine wpAny_letOwnedTupleGo_enum he₁ fun h₂ he₂ hs₂ => ?_
    replace hs₂ : Heap.SameBut e h₁ h₂ := hs₂
    have hil : @LT.lt Nat _ e s.heap.objs.size := Heap.lt_size ho
    have ht₂ : h₂.IsTuple s.heap.objs.size #[.int ((i : Nat) : Int) s.toks, vals[i]] := ⟨_, (hs₂.2 _ (Nat.ne_of_gt hil)).trans ht₁, rfl, _, rfl⟩
    refine wpAny_assign_Tuple hh ht₂ rfl rfl fun h₃ hx₃ => ?_
    replace hx₃ : Heap.ExtBut h₂.objs.size h₂ h₃ := hx₃
    have hz₂ : h₂.objs.size = s.heap.objs.size + 1 := hs₂.1.trans hz₁
    have up : ∀ b o, @LT.lt Nat _ b h₂.objs.size → h₂.get? b = some o → h₃.get? b = some o := fun b o hb e => hx₃ b o (Nat.ne_of_lt hb) e
    have keep : ∀ b o, b ≠ e → b ≠ it → s.heap.get? b = some o → h₃.get? b = some o := fun b o h1 h2 q => by
      have hbl : @LT.lt Nat _ b s.heap.objs.size := Heap.lt_size q
      exact up b o (by omega) ((hs₂.2 b h1).trans (hk₁ b o h1 h2 q))
    have S₃ : St B KAll (EqG B) ((e, EnP it (i + 1)) :: (it, LitP l (i + 1)) :: L) { s with heap := h₃, toks := s.toks + 1 } := by
      refine S.redo (s' := { s with heap := h₃, toks := s.toks + 1 }) rfl (fun b o hb => keep b o (hBn b o hb).1 (hBn b o hb).2 (S.hk b o hb)) (fun p hp => ?_) rfl rfl rfl
      rcases List.mem_cons.mp hp with rfl | hp
      · refine ⟨_, up e _ (by omega) he₂, vals[i], ?_⟩
        have : ((i + 1 : Nat) : Int) = (i : Int) + 1 := by push_cast; rfl
        rw [this]
      · rcases List.mem_cons.mp hp with rfl | hp
        · obtain ⟨oi, hoi, hc, hd⟩ := hit₁
          exact ⟨oi, up it _ (by omega) ((hs₂.2 it (Ne.symm hne)).trans hoi), hc, hd⟩
        · obtain ⟨o', ho', hP⟩ := S.led p (.tail _ (.tail _ hp))
          exact ⟨o', keep _ _ (hLn p hp).1 (hLn p hp).2 ho', hP⟩
    show wpAny _ A (do holding [vals[i]] (assign (.Name n1 p1) env (.int ((i : Nat) : Int) s.toks)); do holding [] (assign (.Name n2 p2) env vals[i]); pure ()) _ _ _
    refine wpAny_bind (wpAny_holding (wpAny_mono (step i _ s.toks L _ hx hj S₃) (fun _ s₄ h₄ => wpAny_bind (wpAny_holding (wpAny_mono h₄ (fun _ s₅ h₅ => wpAny_pure (wpAny_mono h₅ (fun f s₆ h₆ => ?_) fun _ _ e => e)) fun _ _ e => e))) fun _ _ e => e))
    obtain ⟨rfl, L', hj', S'⟩ := h₆
    exact ⟨vals.length - (i + 1), by omega, i + 1, L', rfl, hlt, hj', S'⟩
  · have q : i = vals.length := by omega
    subst q
    refine wpAny_pyNext_enum_end hh ho (S.lit (.tail _ (.head _))) hl'.isList (by simp) fun h₁ hx₁ => wpAny_execs_nil ?_
    replace hx₁ : Heap.ExtBut it s.heap h₁ := hx₁
    refine done L _ hj ((S.drop (L' := L) (.cons _ (.cons _ (List.Sublist.refl _)))).again (s' := { s with heap := h₁ }) (fun b o hb => hx₁ b o (hBn b o hb).2 (S.hk b o hb)) (fun p hp => ?_) rfl rfl rfl)
    obtain ⟨o', ho', hP⟩ := S.led p (.tail _ (.tail _ hp))
    exact ⟨o', hx₁ _ _ (hLn p hp).2 ho', hP⟩

/-- the iterator of an enumeration over a list -/
theorem S_enum {l : Addr} {vals : List Value} {Q : Value → Shared → Prop} (S : St B KAll (EqG B) L s) (hl : s.heap.PlainList l vals.toArray)
    (h : ∀ e it s', St B KAll (EqG B) ((e, EnP it 0) :: (it, LitP l 0) :: L) s' → Q (.ref e) s') :
    wpAny (model prog w) A (call (.type "enumerate") [.ref l]) (fun xv s₂ => wpAny (model prog w) A (pyIter xv) Q E s₂) E s := by
  refine call_enumerate_list hl.isList fun h' he hit hz hk => ?_
  refine wpAny_pyIter_enum (s := { s with heap := h' }) he (h _ s.heap.objs.size _ ?_)
  have S' : St B KAll (EqG B) L { s with heap := h' } := S.keeps ⟨h', s.toks, rfl, hk⟩
  refine ⟨S'.keep, fun p hp o q => ?_, fun p hp => ?_, ?_, S'.live, S'.drawn, S'.os, S'.gens⟩
  · rcases List.mem_cons.mp hp with rfl | hp
    · have : @LT.lt Nat _ (s.heap.objs.size + 1) s.heap.objs.size := Heap.lt_size (S.hk _ _ q)
      omega
    · rcases List.mem_cons.mp hp with rfl | hp
      · have : @LT.lt Nat _ s.heap.objs.size s.heap.objs.size := Heap.lt_size (S.hk _ _ q)
        omega
      · exact S.own p hp o q
  · rcases List.mem_cons.mp hp with rfl | hp
    · exact ⟨_, he, _, rfl⟩
    · rcases List.mem_cons.mp hp with rfl | hp
      · obtain ⟨o, ho, h1, h2⟩ := hit
        exact ⟨o, ho, h1, h2⟩
      · exact S'.led p hp
  · rw [List.map_cons, List.map_cons]
    refine List.pairwise_cons.mpr ⟨fun b hb => ?_, List.pairwise_cons.mpr ⟨fun b hb => ?_, S.ord⟩⟩
    · rcases List.mem_cons.mp hb with rfl | hb
      · exact Nat.lt_succ_self _
      · obtain ⟨p, hp, rfl⟩ := List.mem_map.mp hb
        exact Nat.lt_succ_of_lt (S.lt hp)
    · obtain ⟨p, hp, rfl⟩ := List.mem_map.mp hb
      exact S.lt hp
end
end Mine
end

section
open PySem PySem.W PyProof.Rows
set_option Elab.async false
set_option maxRecDepth 100000
namespace Mine
local macro_rules | `(tactic| walk_at "mem") => `(tactic| repeat (first | exact List.Mem.head _ | apply List.Mem.tail))
local macro_rules | `(tactic| walk_at "lg") => `(tactic| repeat (first | (with_reducible exact LG.head) | apply LG.tail))
local macro_rules | `(tactic| walk_at "upd") => `(tactic| repeat (first | exact Upd.head | apply Upd.tail))
local macro_rules | `(tactic| walk_at "ls") => `(tactic| repeat (first | (with_reducible exact LS.head) | apply LS.tail))

theorem NA.of_paired {f : Nat → Nat} {is : List Nat} {out : List Value} (h : Paired (fun i y => ∃ t, y = Value.int ((f i : Nat) : Int) t) is out) : NA out (is.map f) := by
  unfold NA
  induction h with
  | nil => exact .nil
  | cons a _ ih => obtain ⟨t, rfl⟩ := a; exact .cons _ t ih

section
variable {w : World} {A : Around} {E : Value → Shared → Prop} {B : Shared} {s : Shared} {pmL cdL docL pmA cdA docA pmR cdR docR : Value} {Lf scr : Addr} {vals : List Value} {ns : List Int}

def cl4 (Lf : Addr) : List (Str × Addr) := [(("size" : Str), Lf + 1), (("number" : Str), Lf + 4)]

/-- the edges made so far: their lists lie in the ledger D -/
def EdgesD (D : Ledger) (kvs : List (Int × Value)) (ns : List Int) (i : Nat) : Prop :=
  kvs.length ≤ i ∧ ∀ v < i, ∃ (l : Addr) (vals : List Value), valueAt kvs ((v : Nat) : Int) = some (.ref l) ∧ (l, LstP vals) ∈ D ∧ NA vals (eN ns v)

theorem law2 {Q : Flow → Shared → Prop} {c9 c8 c7 c6 c5 c4 c3 : Option Value} {vs : List (Option Value)} {dE : Addr} {tn : Tok}
    (S : St B KAll (EqG B) ((dE, DctP w []) :: lawL Lf c9 c8 c7 c6 c5 c4 c3 (some (.ref dE)) (some (.int (szN ns : Nat) tn)) (some (.ref scr) :: vs)) s) (I : LawIn B.heap pmA cdA docA pmR cdR docR scr vals ns) (hh : A.handled = none) (hd : A.depth < 800)
    (h : ∀ D kvs c4' c3' s', St B KAll (EqG B) (D ++ (dE, DctP w kvs) :: lawL Lf c9 c8 c7 c6 c5 c4' c3' (some (.ref dE)) (some (.int (szN ns : Nat) tn)) (some (.ref scr) :: vs)) s' → EdgesD D kvs ns (szN ns) → Q .next s') :
    wpAny (model pw w) A (exec (lawB.getD 2 (.Pass default)) (lawEnv pmL cdL docL Lf)) Q E s := by
  have hn := szN_le ns
  have hn1 := szN_pos ns
  have ho := S.ord
  refine wpAny_For (call1 ?_)
  have Is := I.keeps S.hk
  obtain ⟨mg, mb, hg, hb, g1, g2, g3, g4, g5, gm, b1, b2, b3, b4, b5, b6, b7, b8⟩ := Is.nm.ex
  refine lblt hg (gm _ (by decide)) hb b2 (ldc S (c := Lf + 1) rfl (by unfold lawL; walk_at "mem") ⟨trivial, S_range S (by omega) fun it s₁ K₁ S₁ => ?_⟩)
  refine forR (it := it) (n := szN ns) hh (fun i D L => ∃ c4' c3' kvs, L = (dE, DctP w kvs) :: lawL Lf c9 c8 c7 c6 c5 c4' c3' (some (.ref dE)) (some (.int (szN ns : Nat) tn)) (some (.ref scr) :: vs) ∧ EdgesD D kvs ns i)
    ?_ (fun D L s hJ S => ?_) (D := []) (L := _) ⟨c4, c3, [], rfl, ⟨by simp, fun v hv => absurd hv (Nat.not_lt_zero v)⟩⟩ S₁
  · rintro i t D L s₂ hi ⟨c4', c3', kvs, rfl, hE⟩ S₂
    refine wpAny_assign_Name (stc S₂ (c := Lf + 3) rfl (Upd.app (l := _ :: _ :: lawL ..) (by unfold lawL; walk_at "upd") D) fun s₃ S₃ => ?_)
    replace S₃ : St B KAll (EqG B) (D ++ (it, RitP (szN ns) (i + 1)) :: (dE, DctP w kvs) :: lawL Lf c9 c8 c7 c6 c5 c4' (some (.int (i : Nat) t)) (some (.ref dE)) (some (.int (szN ns : Nat) tn)) (some (.ref scr) :: vs)) s₃ := S₃
    have mm : ∀ {p : Addr × OP} {l : Ledger}, p ∈ l → p ∈ D ++ l := fun h => List.mem_append_right _ h
    have I₃ := I.keeps S₃.hk
    obtain ⟨mg, mb, hg, hb, g1, g2, g3, g4, g5, gm, b1, b2, b3, b4, b5, b6, b7, b8⟩ := I₃.nm.ex
    refine wpAny_execs_cons (wpAny_Assign_Name (wpAny_BinOp (call3 (lglob hg g4 (ldl S₃ (mm (by unfold lawL; walk_at "mem")) (by walk_at "lg") (wpAny_BinOp (wpAny_Constant_int ?_)))))))
    have S₄ := S₃.tok (s₃.toks + 1)
    refine ldc S₄ (c := Lf + 3) rfl (mm (by unfold lawL; walk_at "mem")) (n_add (a := 1) fun t₄ k₄ => wpAny_BinOp (wpAny_BinOp (wpAny_Constant_int ?_)))
    have S₅ := (S₄.tok k₄).tok (k₄ + 1)
    refine ldc S₅ (c := Lf + 3) rfl (mm (by unfold lawL; walk_at "mem")) (n_mul (a := 5) (.of_left (by decide)) fun t₅ k₅ => wpAny_Constant_int (n_add (b := 3) fun t₆ k₆ => ⟨?_, ?_⟩))
    · obtain ⟨o, h1, h2, _⟩ := I₃.fA
      exact ⟨o, _, h1, h2⟩
    have S₆ := ((S₅.tok k₅).tok (k₅ + 1)).tok k₆
    refine at_call (I.keeps S₆.hk) (by omega) fun t₇ s₇ K₇ => wpAny_Constant_int ?_
    have S₇ := (S₆.keeps K₇).tok (s₇.toks + 1)
    refine i_mod (b := 10000) (by decide) fun t₈ k₈ => ?_
    have S₈ := S₇.tok k₈
    refine stc S₈ (c := Lf + 4) rfl (Upd.app (l := _ :: _ :: lawL ..) (by unfold lawL; walk_at "upd") D) fun s₉ S₉ => ?_
    replace S₉ : St B KAll (EqG B) (D ++ (it, RitP (szN ns) (i + 1)) :: (dE, DctP w kvs) :: lawL Lf c9 c8 c7 c6 c5 (some (.int (numN ns i : Nat) t₈)) (some (.int (i : Nat) t)) (some (.ref dE)) (some (.int (szN ns : Nat) tn)) (some (.ref scr) :: vs)) s₉ := S₉
    obtain ⟨mg, mb, hg, hb, g1, g2, g3, g4, g5, gm, b1, b2, b3, b4, b5, b6, b7, b8⟩ := (I.keeps S₉.hk).nm.ex
    have c1m := S₉.get (a := Lf + 1) (P := CellP (some (.int (szN ns : Nat) tn))) (mm (by unfold lawL; walk_at "mem"))
    have c4m := S₉.get (a := Lf + 4) (P := CellP (some (.int (numN ns i : Nat) t₈))) (mm (by unfold lawL; walk_at "mem"))
    refine wpAny_execs_cons (wpAny_Assign_Subscript ?_)
    refine lc_loc (cl := cl4 Lf) rfl ?_
    refine call1 (lblt hg (gm _ (by decide)) hb b2 (wpAny_BinOp (ldc S₉ (c := Lf + 4) rfl (mm (by unfold lawL; walk_at "mem")) (wpAny_Constant_int ?_))))
    refine n_mod (b := 4) (by decide) fun t₁ k₁ => ⟨trivial, ?_⟩
    refine iter_range (s₀ := s₉) hh ⟨s₉.heap, k₁, rfl, fun _ _ e => e⟩ (by have := Nat.mod_lt (numN ns i) (show 0 < 4 by decide); omega) fun itj sj Kj hzj Wj => ?_
    refine ⟨s₉, _, _, fun _ => true, fun _ j y => ∃ t, y = .int ((numN ns i / 4 / szN ns ^ j % szN ns : Nat) : Int) t, Wj, ?_, Nat.le_of_lt hzj, ⟨fun _ _ _ _ h _ => h, fun _ _ _ _ _ _ _ _ => wpAny_tests_nil ⟨rfl, krefl _⟩, ?_⟩, ?_⟩
    · have := Nat.mod_lt (numN ns i) (show 0 < 4 by decide); omega
    · rintro j v s₃ E' hj ⟨tj, rfl⟩ _ hX hk
      have c1' : ∃ o, s₃.heap.get? (Lf + 1) = some o ∧ CellP (some (.int (szN ns : Nat) tn)) o := let ⟨o, e, q⟩ := c1m; ⟨o, hk _ _ e, q⟩
      have c4' : ∃ o, s₃.heap.get? (Lf + 4) = some o ∧ CellP (some (.int (numN ns i : Nat) t₈)) o := let ⟨o, e, q⟩ := c4m; ⟨o, hk _ _ e, q⟩
      have hj4 : j < 4 := Nat.lt_trans hj (Nat.mod_lt _ (by decide))
      refine wpAny_BinOp (wpAny_BinOp (wpAny_BinOp (rdc (c := Lf + 4) rfl c4' (wpAny_Constant_int (n_div (b := 4) (by decide) (by decide) fun ta ka => wpAny_BinOp (rdc (c := Lf + 1) rfl c1' (rdl hX (by walk_at "lg") (n_pow hn1 hn (by omega) fun tb kb =>
        n_div (Nat.pow_pos hn1) (by have : szN ns ^ j ≤ 7 ^ 3 := Nat.le_trans (Nat.pow_le_pow_left hn j) (Nat.pow_le_pow_right (by decide) (by omega)); omega) fun tc kc => rdc (c := Lf + 1) rfl c1' (n_mod hn1 fun td kd => ⟨?_, td, rfl⟩)))))))))
      exact ⟨s₃.heap, kd, rfl, fun _ _ e => e⟩
    · intro Dn s' out K' hDz hDl hP
      obtain ⟨od, hod, hPd⟩ := lst_of hDl
      have S' := S₉.new (P := LstP out) K' hDz hod hPd
      have hNA : NA out (eN ns i) := by
        have := NA.of_paired (f := fun j => numN ns i / 4 / szN ns ^ j % szN ns) hP
        rw [List.filter_eq_self.mpr (fun _ _ => rfl)] at this
        exact this
      refine ldc S' (c := Lf + 2) rfl (.tail _ (mm (by unfold lawL; walk_at "mem"))) (ldc S' (c := Lf + 3) rfl (.tail _ (mm (by unfold lawL; walk_at "mem"))) ?_)
      refine S_setdct S' (kvs := kvs) (.tail (Upd.app (l := _ :: _ :: lawL ..) (by walk_at "upd") D)) (by have := hE.1; omega) fun s'' S'' => ?_
      refine wpAny_execs_nil ⟨rfl, (Dn, LstP out) :: D, _, ⟨_, _, stored kvs ((i : Nat) : Int) (.ref Dn), rfl, ?_, fun v hv => ?_⟩, S''⟩
      · have := stored_length_le kvs ((i : Nat) : Int) (.ref Dn)
        have := hE.1
        omega
      · rw [valueAt_stored]
        by_cases e : v = i
        · subst e
          exact ⟨Dn, out, if_pos rfl, .head _, hNA⟩
        · obtain ⟨l, vals, h1, h2, h3⟩ := hE.2 v (by omega)
          exact ⟨l, vals, by rw [if_neg (by omega)]; exact h1, .tail _ h2, h3⟩
  · obtain ⟨c4', c3', kvs, rfl, hE⟩ := hJ
    exact h D kvs c4' c3' s S hE
end
end Mine
end

section
open PySem PySem.W PyProof.Rows
set_option Elab.async false
set_option maxRecDepth 100000
namespace Mine
local macro_rules | `(tactic| walk_at "mem") => `(tactic| repeat (first | exact List.Mem.head _ | apply List.Mem.tail))
local macro_rules | `(tactic| walk_at "lg") => `(tactic| repeat (first | (with_reducible exact LG.head) | apply LG.tail))
local macro_rules | `(tactic| walk_at "upd") => `(tactic| repeat (first | exact Upd.head | apply Upd.tail))
local macro_rules | `(tactic| walk_at "ls") => `(tactic| repeat (first | (with_reducible exact LS.head) | apply LS.tail))

def ordN (ns : List Int) : Nat → List Nat
  | 0 => []
  | i + 1 => (ordN ns i).take (insN ns i) ++ i :: (ordN ns i).drop (insN ns i)
theorem ordN_length (ns : List Int) : ∀ i, (ordN ns i).length = i
  | 0 => rfl
  | i + 1 => by
    have h1 := ordN_length ns i
    have h2 := insN_le ns i
    simp [ordN, h1]
    omega
theorem ordN_mem (ns : List Int) : ∀ i x, x ∈ ordN ns i ↔ x < i
  | 0, x => by simp [ordN]
  | i + 1, x => by
    have h1 := ordN_mem ns i x
    have h2 : x ∈ ordN ns i ↔ x ∈ (ordN ns i).take (insN ns i) ∨ x ∈ (ordN ns i).drop (insN ns i) := by
      rw [← List.mem_append, List.take_append_drop]
    simp only [ordN, List.mem_append, List.mem_cons]
    rw [show x < i + 1 ↔ x = i ∨ x < i by omega, ← h1, h2]
    constructor
    · rintro (h | h | h)
      · exact .inr (.inl h)
      · exact .inl h
      · exact .inr (.inr h)
    · rintro (h | h | h)
      · exact .inr (.inl h)
      · exact .inl h
      · exact .inr (.inr h)
theorem NA.take_drop {ov : List Value} {xs : List Nat} (h : NA ov xs) (j : Nat) : NA (ov.take j) (xs.take j) ∧ NA (ov.drop j) (xs.drop j) := by
  unfold NA at h ⊢
  generalize hm : (xs.map fun (x : Nat) => (x : Int)) = ms at h
  rw [List.map_take, List.map_drop, hm]
  clear hm
  induction h generalizing j with
  | nil => simpa using IntsAre.nil
  | cons n t h ih =>
    cases j with
    | zero => exact ⟨.nil, .cons n t h⟩
    | succ j => exact ⟨.cons n t (ih j).1, (ih j).2⟩
theorem NA.append {a b : List Value} {xs ys : List Nat} (h : NA a xs) (h' : NA b ys) : NA (a ++ b) (xs ++ ys) := by
  unfold NA at *
  rw [List.map_append]
  generalize (xs.map fun (x : Nat) => (x : Int)) = ms at h
  induction h with
  | nil => exact h'
  | cons n t _ ih => exact .cons n t ih
theorem NA.cons' {a : List Value} {xs : List Nat} (x : Nat) (t : Tok) (h : NA a xs) : NA (.int (x : Int) t :: a) (x :: xs) := IntsAre.cons _ t h

section
variable {w : World} {A : Around} {E : Value → Shared → Prop} {B : Shared} {s : Shared} {pmL cdL docL pmA cdA docA pmR cdR docR : Value} {Lf scr : Addr} {vals : List Value} {ns : List Int}

theorem law4 {Q : Flow → Shared → Prop} {D : Ledger} {c9 c8 c7 c6 c5 c4 c3 : Option Value} {v2 v3 : Option Value} {dE lo : Addr} {kvs : List (Int × Value)} {tn : Tok}
    (S : St B KAll (EqG B) ((lo, LstP []) :: D ++ (dE, DctP w kvs) :: lawL Lf c9 c8 c7 c6 c5 c4 c3 (some (.ref dE)) (some (.int (szN ns : Nat) tn)) [some (.ref scr), some (.ref lo), v2, v3]) s) (I : LawIn B.heap pmA cdA docA pmR cdR docR scr vals ns) (hh : A.handled = none) (hd : A.depth < 800)
    (h : ∀ ov c3' s', St B KAll (EqG B) ((lo, LstP ov) :: D ++ (dE, DctP w kvs) :: lawL Lf c9 c8 c7 c6 c5 c4 c3' (some (.ref dE)) (some (.int (szN ns : Nat) tn)) [some (.ref scr), some (.ref lo), v2, v3]) s' → NA ov (ordN ns (szN ns)) → Q .next s') :
    wpAny (model pw w) A (exec (lawB.getD 4 (.Pass default)) (lawEnv pmL cdL docL Lf)) Q E s := by
  have hn := szN_le ns
  have hn1 := szN_pos ns
  refine wpAny_For (call1 ?_)
  have Is := I.keeps S.hk
  obtain ⟨mg, mb, hg, hb, g1, g2, g3, g4, g5, gm, b1, b2, b3, b4, b5, b6, b7, b8⟩ := Is.nm.ex
  have mm : ∀ {p q : Addr × OP} {l : Ledger}, p ∈ l → p ∈ q :: D ++ l := fun h => .tail _ (List.mem_append_right _ h)
  refine lblt hg (gm _ (by decide)) hb b2 (ldc S (c := Lf + 1) rfl (mm (by unfold lawL; walk_at "mem")) ⟨trivial, S_range S (by omega) fun it s₁ K₁ S₁ => ?_⟩)
  refine forR (it := it) (n := szN ns) hh (fun i D' L => D' = [] ∧ ∃ c3' ov, L = (lo, LstP ov) :: D ++ (dE, DctP w kvs) :: lawL Lf c9 c8 c7 c6 c5 c4 c3' (some (.ref dE)) (some (.int (szN ns : Nat) tn)) [some (.ref scr), some (.ref lo), v2, v3] ∧ NA ov (ordN ns i))
    ?_ (fun D' L s hJ S => ?_) (D := []) (L := _) ⟨rfl, c3, [], rfl, .nil⟩ S₁
  · rintro i t D' L s₂ hi ⟨rfl, c3', ov, rfl, hov⟩ S₂
    refine wpAny_assign_Name (stc S₂ (c := Lf + 3) rfl (.tail (.tail (Upd.app (l := _ :: lawL ..) (by unfold lawL; walk_at "upd") D))) fun s₃ S₃ => ?_)
    replace S₃ : St B KAll (EqG B) ((it, RitP (szN ns) (i + 1)) :: (lo, LstP ov) :: D ++ (dE, DctP w kvs) :: lawL Lf c9 c8 c7 c6 c5 c4 (some (.int (i : Nat) t)) (some (.ref dE)) (some (.int (szN ns : Nat) tn)) [some (.ref scr), some (.ref lo), v2, v3]) s₃ := S₃
    have m3 : ∀ {p : Addr × OP} {l : Ledger}, p ∈ l → p ∈ (it, RitP (szN ns) (i + 1)) :: (lo, LstP ov) :: D ++ l := fun h => .tail _ (.tail _ (List.mem_append_right _ h))
    have I₃ := I.keeps S₃.hk
    obtain ⟨mg, mb, hg, hb, g1, g2, g3, g4, g5, gm, b1, b2, b3, b4, b5, b6, b7, b8⟩ := I₃.nm.ex
    have hlo := hov.length
    rw [ordN_length] at hlo
    refine wpAny_execs_cons (ex_insert (ldl S₃ (m3 (by unfold lawL; walk_at "mem")) (by walk_at "lg") ⟨lo, _, rfl, S₃.lst (.tail _ (.head _)), ?_⟩))
    refine wpAny_BinOp (call3 (lglob hg g4 (ldl S₃ (m3 (by unfold lawL; walk_at "mem")) (by walk_at "lg") (wpAny_BinOp (wpAny_Constant_int ?_)))))
    have S₄ := S₃.tok (s₃.toks + 1)
    refine ldc S₄ (c := Lf + 3) rfl (m3 (by unfold lawL; walk_at "mem")) (n_add (a := 8) fun t₄ k₄ => ?_)
    have S₅ := S₄.tok k₄
    refine ldc S₅ (c := Lf + 3) rfl (m3 (by unfold lawL; walk_at "mem")) ⟨?_, ?_⟩
    · obtain ⟨o, h1, h2, _⟩ := I₃.fA
      exact ⟨o, _, h1, h2⟩
    refine at_call (I.keeps S₅.hk) (by omega) fun t₇ s₇ K₇ => ?_
    have S₇ := S₅.keeps K₇
    refine wpAny_BinOp (ldc S₇ (c := Lf + 3) rfl (m3 (by unfold lawL; walk_at "mem")) (wpAny_Constant_int ?_))
    have S₈ := S₇.tok (s₇.toks + 1)
    refine n_add (b := 1) fun t₈ k₈ => i_mod (b := i + 1) (Nat.succ_pos i) fun t₉ k₉ => ?_
    have S₉ := (S₈.tok k₈).tok k₉
    refine ldc S₉ (c := Lf + 3) rfl (m3 (by unfold lawL; walk_at "mem")) ⟨ov, insN ns i, t₉, rfl, S₉.lst (.tail _ (.head _)), by rw [hlo]; exact insN_le ns i, by omega, fun s' hl hs hd ho hg => ?_⟩
    have S' := S₉.upd (s' := s') (.tail (.head (P' := LstP (ov.take (insN ns i) ++ .int (i : Nat) t :: ov.drop (insN ns i))))) hs (lst_of hl) hd ho hg
    exact wpAny_execs_nil ⟨rfl, [], _, ⟨rfl, _, _, rfl, (hov.take_drop (insN ns i)).1.append ((hov.take_drop (insN ns i)).2.cons' i t)⟩, S'⟩
  · obtain ⟨rfl, c3', ov, rfl, hov⟩ := hJ
    exact h ov c3' s S hov
end
end Mine
end

section
open PySem PySem.W PyProof.Rows
set_option Elab.async false
set_option maxRecDepth 100000
namespace Mine
local macro_rules | `(tactic| walk_at "mem") => `(tactic| repeat (first | exact List.Mem.head _ | apply List.Mem.tail))
local macro_rules | `(tactic| walk_at "lg") => `(tactic| repeat (first | (with_reducible exact LG.head) | apply LG.tail))
local macro_rules | `(tactic| walk_at "upd") => `(tactic| repeat (first | exact Upd.head | apply Upd.tail))
local macro_rules | `(tactic| walk_at "ls") => `(tactic| repeat (first | (with_reducible exact LS.head) | apply LS.tail))

/-- the list at y tells the places reached from i -/
def ReachV (n : Nat) (E : Nat → List Nat) (X : Nat) (h : Heap) (i : Nat) (y : Value) : Prop :=
  ∃ (l : Addr) (vals : List Value) (xs : List Nat), y = .ref l ∧ @LT.lt Nat _ X l ∧ h.PlainList l vals.toArray ∧ NA vals xs ∧ xs.Nodup ∧ (∀ x, x ∈ xs ↔ Reach E i x) ∧ ∀ x ∈ xs, x < n

section
variable {w : World} {A : Around} {E : Value → Shared → Prop} {B : Shared} {s : Shared} {pmL cdL docL pmA cdA docA pmR cdR docR : Value} {Lf scr : Addr} {vals : List Value} {ns : List Int}

theorem EdgesD.ok {D L : Ledger} {kvs : List (Int × Value)} {dE : Addr} {Pk : Addr → Obj → Prop} {G : Array GenState → Prop} (S : St B Pk G L s) (hD : ∀ p ∈ D, p ∈ L) (hd : (dE, DctP w kvs) ∈ L) (hs : (dE == sysModules) = false) (x : EdgesD D kvs ns (szN ns)) : EdgesOk w s.heap dE (szN ns) (eN ns) :=
  ⟨kvs, S.dct hd, hs, fun v hv => let ⟨l, vals, a, b, c⟩ := x.2 v hv; ⟨l, vals, a, S.lst (hD _ b), c⟩⟩

theorem law5 {Q : Flow → Shared → Prop} {D : Ledger} {ov : List Value} {c9 c8 c7 c6 c5 c4 c3 : Option Value} {vs : List (Option Value)} {dE lo : Addr} {kvs : List (Int × Value)} {tn : Tok}
    (S : St B KAll (EqG B) ((lo, LstP ov) :: D ++ (dE, DctP w kvs) :: lawL Lf c9 c8 c7 c6 c5 c4 c3 (some (.ref dE)) (some (.int (szN ns : Nat) tn)) vs) s) (hE : EdgesD D kvs ns (szN ns)) (hs : (dE == sysModules) = false)
    (I : LawIn B.heap pmA cdA docA pmR cdR docR scr vals ns) (hh : A.handled = none) (hd : A.depth < 800)
    (h : ∀ rl out X s', St B KAll (EqG B) ((rl, LstP out) :: (lo, LstP ov) :: D ++ (dE, DctP w kvs) :: lawL Lf c9 c8 c7 c6 (some (.ref rl)) c4 c3 (some (.ref dE)) (some (.int (szN ns : Nat) tn)) vs) s' → @LT.lt Nat _ (Lf + 9) X → Paired (ReachV (szN ns) (eN ns) X s'.heap) (List.range (szN ns)) out → Q .next s') :
    wpAny (model pw w) A (exec (lawB.getD 5 (.Pass default)) (lawEnv pmL cdL docL Lf)) Q E s := by
  have hn := szN_le ns
  have hn1 := szN_pos ns
  have mm : ∀ {p q : Addr × OP} {l : Ledger}, p ∈ l → p ∈ q :: D ++ l := fun h => .tail _ (List.mem_append_right _ h)
  have Is := I.keeps S.hk
  obtain ⟨mg, mb, hg, hb, g1, g2, g3, g4, g5, gm, b1, b2, b3, b4, b5, b6, b7, b8⟩ := Is.nm.ex
  have hEd := hE.ok (w := w) S (fun p hp => .tail _ (List.mem_append_left _ hp)) (mm (.head _)) hs
  have c2m := S.get (a := Lf + 2) (P := CellP (some (.ref dE))) (mm (by unfold lawL; walk_at "mem"))
  refine wpAny_Assign_Name ?_
  refine lc_loc (cl := [(("edges" : Str), Lf + 2)]) rfl ?_
  refine call1 (lblt hg (gm _ (by decide)) hb b2 (ldc S (c := Lf + 1) rfl (mm (by unfold lawL; walk_at "mem")) ⟨trivial, ?_⟩))
  refine iter_range (s₀ := s) hh (krefl _) (by omega) fun itj sj Kj hzj Wj => ?_
  refine ⟨s, _, _, fun _ => true, ReachV (szN ns) (eN ns) (sj.heap.objs.size + 1), Wj, by omega, Nat.le_of_lt hzj, ⟨?_, fun _ _ _ _ _ _ _ _ => wpAny_tests_nil ⟨rfl, krefl _⟩, ?_⟩, ?_⟩
  · rintro h h' i y ⟨l, vals, xs, a1, a2, a3, a4⟩ hk
    exact ⟨l, vals, xs, a1, a2, a3.at fun o e => hk l o a2 e, a4⟩
  · rintro j v s₃ E' hj ⟨tj, rfl⟩ _ hX hk
    have c2' : ∃ o, s₃.heap.get? (Lf + 2) = some o ∧ CellP (some (.ref dE)) o := let ⟨o, e, q⟩ := c2m; ⟨o, hk _ _ e, q⟩
    have hXl : @LT.lt Nat _ (sj.heap.objs.size + 1) s₃.heap.objs.size := by obtain ⟨o, e, _⟩ := hX; exact Heap.lt_size e
    have I₃ := Is.keeps hk
    refine call2 (lglob (hg.keeps hk) g5 (rdc (c := Lf + 2) rfl c2' (rdl hX (by walk_at "lg") ⟨?_, ?_⟩)))
    · obtain ⟨o, h1, h2, _⟩ := I₃.fR
      exact ⟨o, _, h1, h2⟩
    refine wpAny_call (lawReached_ok2 I₃.fR I₃.nm hh (by omega) (hEd.keeps hk) (by omega) (fun v hv o ho => eN_lt ns v o ho) hj fun l xs vals' s' K hl hp hna hnd hr hlt => ⟨K, l, vals', xs, rfl, Nat.lt_trans hXl hl, hp, hna, hnd, hr, hlt⟩)
  · intro rl s' out K' hz hl hP
    obtain ⟨od, hod, hPd⟩ := lst_of hl
    have S' := S.new (P := LstP out) K' hz hod hPd
    rw [List.filter_eq_self.mpr (fun _ _ => rfl)] at hP
    have hLX : @LT.lt Nat _ (Lf + 9) (sj.heap.objs.size + 1) := by
      have h1 : @LT.lt Nat _ (Lf + 9) s.heap.objs.size := S.lt (p := (Lf + 9, CellP c9)) (mm (by unfold lawL; walk_at "mem"))
      omega
    have u : Upd ((rl, LstP out) :: (lo, LstP ov) :: D ++ (dE, DctP w kvs) :: lawL Lf c9 c8 c7 c6 c5 c4 c3 (some (.ref dE)) (some (.int (szN ns : Nat) tn)) vs) (Lf + 5) (CellP c5) (CellP (some (.ref rl)))
        ((rl, LstP out) :: (lo, LstP ov) :: D ++ (dE, DctP w kvs) :: lawL Lf c9 c8 c7 c6 (some (.ref rl)) c4 c3 (some (.ref dE)) (some (.int (szN ns : Nat) tn)) vs) :=
      .tail (.tail (Upd.app (l := _ :: lawL ..) (by unfold lawL; walk_at "upd") D))
    obtain ⟨o, ho, hPo⟩ := S'.get u.mem
    refine wpAny_storeName_cell (env := lawEnv pmL cdL docL Lf) rfl rfl (c := Lf + 5) rfl ⟨o, ho, hPo⟩ fun h' hc' hs' => ?_
    refine h rl out (sj.heap.objs.size + 1) _ (S'.upd (s' := { s' with heap := h' }) u hs' hc' rfl rfl rfl) hLX (hP.mono ?_)
    rintro i y ⟨l, vals, xs, a1, a2, a3, a4⟩
    exact ⟨l, vals, xs, a1, a2, a3.at fun o e => hs'.extBut l o (by show ¬ @Eq Nat l (Lf + 5); omega) e, a4⟩
end
end Mine
end

section
open PySem PySem.W PyProof.Rows
set_option Elab.async false
set_option maxRecDepth 100000
namespace Mine
local macro_rules | `(tactic| walk_at "mem") => `(tactic| repeat (first | exact List.Mem.head _ | apply List.Mem.tail))
local macro_rules | `(tactic| walk_at "lg") => `(tactic| repeat (first | (with_reducible exact LG.head) | apply LG.tail))
local macro_rules | `(tactic| walk_at "upd") => `(tactic| repeat (first | exact Upd.head | apply Upd.tail))
local macro_rules | `(tactic| walk_at "ls") => `(tactic| repeat (first | (with_reducible exact LS.head) | apply LS.tail))

def body8 : List Stmt := match lawB.getD 8 (.Pass default) with
  | .For _ _ b _ _ => b
  | _ => []
def in8 : List Stmt := match body8.getD 0 (.Pass default) with
  | .For _ _ b _ _ => b
  | _ => []

/-- what law's later statements find in the base -/
structure LawC (h : Heap) (pl rl : Addr) (pv rvals : List Value) (xss rcs : List (List Nat)) (n : Nat) : Prop where
  nm : Names h
  pl : h.PlainList pl pv.toArray
  pv : Paired (NatsV h) xss pv
  rl : h.PlainList rl rvals.toArray
  rv : Paired (NatsV h) rcs rvals
  rn : rcs.length = n
  n60 : n ≤ 60
  rlt : ∀ r ∈ rcs, r.length ≤ 60
  xlt : ∀ xs ∈ xss, xs.length ≤ 60
  xl : xss.length ≤ 60
theorem LawC.keeps {h h' : Heap} {pl rl : Addr} {pv rvals : List Value} {xss rcs : List (List Nat)} {n : Nat} (x : LawC h pl rl pv rvals xss rcs n) (k : ∀ b o, h.get? b = some o → h'.get? b = some o) : LawC h' pl rl pv rvals xss rcs n :=
  ⟨x.nm.keeps k, PlainList.keeps x.pl k, Mine.Paired.mono x.pv fun _ _ y => stays_nat.list _ _ _ _ y k, PlainList.keeps x.rl k, Mine.Paired.mono x.rv fun _ _ y => stays_nat.list _ _ _ _ y k, x.rn, x.n60, x.rlt, x.xlt, x.xl⟩

theorem paired_at {α β : Type} {F : α → β → Prop} {as : List α} {bs : List β} (p : Paired F as bs) : ∀ {i : Nat} {a : α}, as[i]? = some a → ∃ b, bs[i]? = some b ∧ F a b := by
  induction p with
  | nil => intro i a h; simp at h
  | cons hx _ ih =>
    intro i a h
    cases i with
    | zero => simp at h; subst h; exact ⟨_, rfl, hx⟩
    | succ i => exact ih (by simpa using h)

section
variable {w : World} {A : Around} {E : Value → Shared → Prop} {B : Shared} {s : Shared} {pmL cdL docL : Value} {Lf : Addr} {pl rl : Addr} {pv rvals : List Value} {xss rcs : List (List Nat)} {n : Nat} {L : Ledger}

/-- reached[i] -/
theorem get_rc {prog : Program} {h : Heap} {i : Nat} {t : Tok} {r : List Nat} {Q : Value → Shared → Prop} (C : LawC h pl rl pv rvals xss rcs n) (hk : ∀ b o, h.get? b = some o → s.heap.get? b = some o) (hr : rcs[i]? = some r)
    (hQ : ∀ y, NatsV s.heap r y → Q y s) : wpAny (model prog w) A (getItem (.ref rl) (.int (i : Int) t)) Q E s := by
  obtain ⟨y, hy, hv⟩ := paired_at C.rv hr
  have hi : i < rvals.length := (List.getElem?_eq_some_iff.mp hy).1
  exact wpAny_getItem_list (PlainList.keeps C.rl hk).isList (Int.natCast_nonneg i) (by have := C.rv.length; have := C.rn; have := C.n60; omega) (by simpa using hy) (hQ y (stays_nat.list _ _ _ _ hv hk))

theorem if1 {Q : Flow → Shared → Prop} {p : Nat} {tp tn : Tok} {part : Value} {xs : List Nat} (S : St B KAll (EqG B) L s) (C : LawC B.heap pl rl pv rvals xss rcs n) (m8 : (Lf + 8, CellP (some (.int (p : Int) tp))) ∈ L) (m6 : (Lf + 6, CellP (some part)) ∈ L) (m5 : (Lf + 5, CellP (some (.ref rl))) ∈ L) (m1 : (Lf + 1, CellP (some (.int (n : Int) tn))) ∈ L)
    (hpart : NatsV B.heap xs part) (hxl : xs.length ≤ 60) (hp : p < n) (hck : srt xs = (List.range n).filter fun o => decide (o ∈ rcs.getD p [] ∧ p ∈ rcs.getD o [])) (hh : A.handled = none) (hu : A.units < 8900)
    (h : ∀ s', St B KAll (EqG B) L s' → Q .next s') : wpAny (model pw w) A (exec (in8.getD 0 (.Pass default)) (lawEnv pmL cdL docL Lf)) Q E s := by
  obtain ⟨mg, mb, hg, hb, g1, g2, g3, g4, g5, gm, b1, b2, b3, b4, b5, b6, b7, b8⟩ := C.nm.ex
  have hn := C.n60
  have hrl := C.rn
  refine wpAny_If (wpAny_isTrue_Compare1 (call1 (lblt (hg.keeps S.hk) (gm _ (by decide)) (hb.keeps S.hk) b3 (ldc S (c := Lf + 6) rfl m6 ⟨trivial, ?_⟩))))
  refine sorted_list (stays_nat.list _ _ _ _ hpart S.hk) (by omega) fun v s₂ K₂ hv => ?_
  have S₂ := S.keeps K₂
  refine lc_loc (cl := [(("reached" : Str), Lf + 5), (("place" : Str), Lf + 8)]) rfl ?_
  refine call1 (lblt (hg.keeps S₂.hk) (gm _ (by decide)) (hb.keeps S₂.hk) b2 (ldc S₂ (c := Lf + 1) rfl m1 ⟨trivial, ?_⟩))
  have d8 := S₂.get m8
  have d5 := S₂.get m5
  refine iter_range (s₀ := s₂) hh (krefl _) (by omega) fun itj sj Kj hzj Wj => ?_
  refine ⟨s₂, _, _, fun o => decide (o ∈ rcs.getD p [] ∧ p ∈ rcs.getD o []), fun _ i y => ∃ t, y = .int ((i : Nat) : Int) t, Wj, by omega, Nat.le_of_lt hzj, ⟨fun _ _ _ _ h _ => h, ?_, ?_⟩, ?_⟩
  · rintro o v' s₃ E' ho ⟨to, rfl⟩ hX hk
    have kB : ∀ b o, B.heap.get? b = some o → s₃.heap.get? b = some o := fun b o e => hk b o (S₂.hk b o e)
    have c8 : ∃ o, s₃.heap.get? (Lf + 8) = some o ∧ CellP (some (.int (p : Int) tp)) o := let ⟨o, e, q⟩ := d8; ⟨o, hk _ _ e, q⟩
    have c5 : ∃ o, s₃.heap.get? (Lf + 5) = some o ∧ CellP (some (.ref rl)) o := let ⟨o, e, q⟩ := d5; ⟨o, hk _ _ e, q⟩
    have hrp : rcs[p]? = some (rcs.getD p []) := by simp [hrl, hp]
    have hro : rcs[o]? = some (rcs.getD o []) := by simp [hrl, ho]
    refine wpAny_tests_one (wpAny_isTrue_BoolOp (wpAny_allTrue_And_cons (wpAny_isTrue_Compare1 (rdl hX (by walk_at "lg") (sub_any (rdc (c := Lf + 5) rfl c5 (rdc (c := Lf + 8) rfl c8 ⟨on_list (PlainList.keeps C.rl kB), ?_⟩)))))))
    refine get_rc C kB hrp fun y hy => ?_
    refine in_ls enc_pI rd_nat (a := o) hy ⟨_, rfl⟩ (by simp only [cLine]; omega) (wpAny_truthy_bool ?_)
    by_cases h1 : o ∈ rcs.getD p []
    · rw [decide_eq_true h1]
      show wpAny _ _ _ _ _ _
      refine wpAny_allTrue_And_cons (wpAny_isTrue_Compare1 (rdc (c := Lf + 8) rfl c8 (sub_any (rdc (c := Lf + 5) rfl c5 (rdl hX (by walk_at "lg") ⟨on_list (PlainList.keeps C.rl kB), ?_⟩)))))
      refine get_rc C kB hro fun y hy => ?_
      refine in_ls enc_pI rd_nat (a := p) hy ⟨_, rfl⟩ (by simp only [cLine]; omega) (wpAny_truthy_bool ?_)
      by_cases h2 : p ∈ rcs.getD o []
      · rw [decide_eq_true h2]
        exact wpAny_allTrue_And_nil ⟨by simp only [h1, h2, and_self, decide_true], krefl _⟩
      · rw [decide_eq_false h2]
        exact ⟨by simp only [h2, and_false, decide_false], krefl _⟩
    · rw [decide_eq_false h1]
      exact ⟨by simp only [h1, false_and, decide_false], krefl _⟩
  · rintro o v' s₃ E' ho ⟨to, rfl⟩ _ hX hk
    exact rdl hX (by walk_at "lg") ⟨krefl _, to, rfl⟩
  · intro D s' out K' hz hl hP
    have hna := na_paired (h := s'.heap) (NA.of_paired (f := id) hP)
    rw [List.map_id, ← hck] at hna
    refine ne_rd enc_pI.list rd_nat.list (a := srt xs) (b := srt xs) (stays_nat.list _ _ _ _ hv.1 (kget K')) ⟨D, out, rfl, hl, hna⟩ (by simp only [cLine]; omega) (wpAny_truthy_bool ?_)
    rw [show decide (srt xs ≠ srt xs) = false by simp]
    show wpAny _ _ _ _ _ _
    exact wpAny_execs_nil (h _ (S₂.keeps K'))
end
end Mine
end

section
open PySem PySem.W PyProof.Rows
set_option Elab.async false
set_option maxRecDepth 100000
namespace Mine
local macro_rules | `(tactic| walk_at "mem") => `(tactic| repeat (first | exact List.Mem.head _ | apply List.Mem.tail))
local macro_rules | `(tactic| walk_at "lg") => `(tactic| repeat (first | (with_reducible exact LG.head) | apply LG.tail))
local macro_rules | `(tactic| walk_at "upd") => `(tactic| repeat (first | exact Upd.head | apply Upd.tail))
local macro_rules | `(tactic| walk_at "ls") => `(tactic| repeat (first | (with_reducible exact LS.head) | apply LS.tail))

section
variable {prog : Program} {w : World} {A : Around} {E : Value → Shared → Prop} {s : Shared} {env : Env}
/-- x[:k] of a list -/
theorem slice_up {value upper : Expr} {p pos : Pos} {Q : Value → Shared → Prop}
    (h : wpAny (model prog w) A (eval value env) (fun o s₁ => wpAny (model prog w) A (eval upper env) (fun vu s₂ => ∃ (l : Addr) (vs : List Value) (k : Nat) (t : Tok), o = .ref l ∧ vu = .int ((k : Nat) : Int) t ∧ s₂.heap.PlainList l vs.toArray ∧ k ≤ vs.length ∧ vs.length ≤ 2 ^ 20 ∧
      ∀ D s₃, Keeps s₂ s₃ → s₂.heap.objs.size ≤ s₃.heap.objs.size → s₃.heap.PlainList D (vs.take k).toArray → Q (.ref D) s₃) E s₁) E s)
    (ht : ∀ o r, letTemporaryGo value o r = pure () := by intro _ _; rfl) :
    wpAny (model prog w) A (eval (.Subscript value (.Slice none (some upper) none p) pos) env) Q E s := by
  refine wpAny_Subscript_list_slice (wpAny_mono h (fun o s₁ h₁ => wpAny_evalPart_none (wpAny_evalPart_some (wpAny_mono h₁ (fun vu s₂ h₂ => ?_) fun _ _ e => e))) fun _ _ e => e) ht
  obtain ⟨l, vs, k, t, rfl, rfl, hl, hk, hsz, hQ⟩ := h₂
  refine ⟨l, vs.toArray, none, some k, rfl, hl.isList, by rw [sizeLine_eq]; simp; omega, .none, .int _ _, ?_⟩
  rw [slicePick_upto _ _ (by simpa using hk)]
  have e1 := Heap.get?_push_size (s₂.heap.push { cls := .type "slice", data := .fields #[.none, .int (k : Int) t, .none] }) (o := { cls := .type "list", data := .seq ((vs.toArray.toList.take k).toArray) }) rfl
  rw [Heap.size_push] at e1
  exact hQ _ _ ⟨_, s₂.toks, rfl, fun _ _ e => Heap.get?_push_of_some _ (Heap.get?_push_of_some _ e)⟩ (by show _ ≤ ((s₂.heap.push _).push _).objs.size; rw [Heap.size_push, Heap.size_push]; omega) ⟨0, by simpa using e1⟩
theorem paired_take {α β : Type} {F : α → β → Prop} {as : List α} {bs : List β} (p : Paired F as bs) : ∀ k : Nat, Paired F (as.take k) (bs.take k) := by
  induction p with
  | nil => intro k; simp; exact .nil
  | cons hx _ ih =>
    intro k
    cases k with
    | zero => exact .nil
    | succ k => exact .cons hx (ih k)
/-- the empty list -/
theorem nil_list {α : Type} {R : Heap → α → Value → Prop} {pos : Pos} {Q : Value → Shared → Prop} (h : ∀ v s', Keeps s s' → LsV R s'.heap [] v → Q v s') : wpAny (model prog w) A (eval (.List [] pos) env) Q E s :=
  S_List (wpAny_items_nil ⟨_, _, _, _, St.start s KAll, by simp, fun D s₂ K _ S => h _ _ K ⟨D, [], rfl, S.lst (.head _), .nil⟩⟩)
end

section
variable {w : World} {A : Around} {E : Value → Shared → Prop} {B : Shared} {s : Shared} {pmL cdL docL : Value} {Lf : Addr} {pl rl : Addr} {pv rvals : List Value} {xss rcs : List (List Nat)} {n : Nat} {L : Ledger}

theorem if2 {Q : Flow → Shared → Prop} {p k : Nat} {tp tk' : Tok} {part : Value} {xs : List Nat} (S : St B KAll (EqG B) L s) (C : LawC B.heap pl rl pv rvals xss rcs n) (m8 : (Lf + 8, CellP (some (.int (p : Int) tp))) ∈ L) (m7 : (Lf + 7, CellP (some (.ref pl))) ∈ L) (m6 : (Lf + 6, CellP (some part)) ∈ L) (m5 : (Lf + 5, CellP (some (.ref rl))) ∈ L)
    (m3 : (Lf + 3, CellP (some (.int (k : Int) tk'))) ∈ L) (hpart : NatsV B.heap xs part) (hp : p < n) (hk : k ≤ xss.length)
    (hck : ((rcs.getD p []).filter fun o => decide (o ∉ xs ∧ ((xss.take k).filter fun one => decide (o ∈ one)) = [])) = []) (hh : A.handled = none) (hu : A.units < 8900)
    (h : ∀ s', St B KAll (EqG B) L s' → Q .next s') : wpAny (model pw w) A (exec (in8.getD 1 (.Pass default)) (lawEnv pmL cdL docL Lf)) Q E s := by
  have hrl := C.rn
  have hxl := C.xl
  have hpv := C.pv.length
  have d8 := S.get m8
  have d7 := S.get m7
  have d6 := S.get m6
  have d3 := S.get m3
  have hrp : rcs[p]? = some (rcs.getD p []) := by simp [hrl, hp]
  have hrm : rcs.getD p [] ∈ rcs := List.mem_of_getElem? hrp
  have hr60 := C.rlt _ hrm
  refine wpAny_If (wpAny_isTrue_Compare1 ?_)
  refine lc_cell (cl := [(("parts" : Str), Lf + 7), (("part" : Str), Lf + 6), (("k" : Str), Lf + 3)]) rfl ?_
  refine sub_any (ldc S (c := Lf + 5) rfl m5 (ldc S (c := Lf + 8) rfl m8 ⟨on_list (PlainList.keeps C.rl S.hk), ?_⟩))
  refine get_rc C S.hk hrp fun y hy => ?_
  obtain ⟨l, vals, rfl, hl, hv⟩ := hy
  have hvl : (rcs.getD p []).length = vals.length := hv.length
  refine iter_list (s₀ := s) hh (krefl _) hl.isList fun itj sj Kj hzj Wj => ?_
  refine ⟨s, _, _, fun i => match (rcs.getD p [])[i]? with | some o => decide (o ∉ xs ∧ ((xss.take k).filter fun one => decide (o ∈ one)) = []) | none => false, fun _ i y => vals[i]? = some y, Wj, by omega, Nat.le_of_lt hzj, ⟨fun _ _ _ _ h _ => h, ?_, ?_⟩, ?_⟩
  · rintro i v' s₃ E' hi hvi hX hk'
    obtain ⟨o, ho, to, rfl⟩ := paired_get hv hvi
    have kB : ∀ b o, B.heap.get? b = some o → s₃.heap.get? b = some o := fun b o e => hk' b o (S.hk b o e)
    have c7 : ∃ o, s₃.heap.get? (Lf + 7) = some o ∧ CellP (some (.ref pl)) o := let ⟨o, e, q⟩ := d7; ⟨o, hk' _ _ e, q⟩
    have c6 : ∃ o, s₃.heap.get? (Lf + 6) = some o ∧ CellP (some part) o := let ⟨o, e, q⟩ := d6; ⟨o, hk' _ _ e, q⟩
    have c3 : ∃ o, s₃.heap.get? (Lf + 3) = some o ∧ CellP (some (.int (k : Int) tk')) o := let ⟨o, e, q⟩ := d3; ⟨o, hk' _ _ e, q⟩
    simp only [ho]
    refine wpAny_tests_one (wpAny_isTrue_BoolOp (wpAny_allTrue_And_cons (wpAny_isTrue_Compare1 (rdc (c := sj.heap.objs.size + 2) rfl hX (rdc (c := Lf + 6) rfl c6 ?_)))))
    refine notin_ls enc_pI rd_nat (a := o) (stays_nat.list _ _ _ _ hpart kB) ⟨_, rfl⟩ (by simp only [cLine]; omega) (wpAny_truthy_bool ?_)
    by_cases h1 : o ∉ xs
    · rw [decide_eq_true h1]
      show wpAny _ _ _ _ _ _
      refine wpAny_allTrue_And_cons (wpAny_isTrue_Compare1 ?_)
      refine lc_loc (cl := [(("other" : Str), sj.heap.objs.size + 2)]) rfl ?_
      refine slice_up (rdc (c := Lf + 7) rfl c7 (rdc (c := Lf + 3) rfl c3 ⟨pl, pv, k, tk', rfl, rfl, PlainList.keeps C.pl kB, by omega, by omega, fun D s₄ K₄ hz34 hD => ?_⟩))
      refine iter_list (s₀ := s₃) hh K₄ hD.isList fun iti si Ki hzi Wi => ?_
      refine ⟨s₃, _, _, fun j => match (xss.take k)[j]? with | some one => decide (o ∈ one) | none => false, fun _ j y => (pv.take k)[j]? = some y, Wi, by rw [List.length_take]; omega, Nat.le_trans hz34 (Nat.le_of_lt hzi), ⟨fun _ _ _ _ h _ => h, ?_, ?_⟩, ?_⟩
      · rintro j v'' s₅ E'' hj hvj hX' hk''
        have hpt : Paired (NatsV B.heap) (xss.take k) (pv.take k) := paired_take C.pv k
        obtain ⟨one, hone, hnv⟩ := paired_get hpt hvj
        simp only [hone]
        have hXs : ∃ o', s₅.heap.get? (sj.heap.objs.size + 2) = some o' ∧ CellP (some (.int (o : Int) to)) o' := let ⟨o, e, q⟩ := hX; ⟨o, hk'' _ _ e, q⟩
        refine wpAny_tests_one (wpAny_isTrue_Compare1 (rdc (c := sj.heap.objs.size + 2) rfl hXs (rdl hX' (by walk_at "lg") ?_)))
        exact in_ls enc_pI rd_nat (a := o) (stays_nat.list _ _ _ _ hnv fun b o e => hk'' b o (kB b o e)) ⟨_, rfl⟩ (by simp only [cLine]; omega) (wpAny_truthy_bool ⟨rfl, krefl _⟩)
      · rintro j v'' s₅ E'' hj hvj _ hX' hk''
        exact rdl hX' (by walk_at "lg") ⟨krefl _, hvj⟩
      · intro D' s₅ out K₅ _ hD' hP
        have hpt : Paired (NatsV B.heap) (xss.take k) (pv.take k) := paired_take C.pv k
        have h2 := paired_filterMap hpt hP
        rw [show (pv.take k).length = (xss.take k).length by rw [List.length_take, List.length_take, hpv]] at h2
        rw [range_filterMap (xss.take k) _ (fun one => decide (o ∈ one)) (fun i a h => by simp only [h])] at h2
        have hL : LsV NatsV s₅.heap ((xss.take k).filter fun one => decide (o ∈ one)) (.ref D') := ⟨D', out, rfl, hD', Mine.Paired.mono h2 fun _ _ y => stays_nat.list _ _ _ _ y fun b o e => kget K₅ b o (kB b o e)⟩
        refine nil_list (R := NatsV) fun v₆ s₆ K₆ hv₆ => ?_
        refine eq_rd enc_pI.list.list rd_nat.list.list (a := (xss.take k).filter fun one => decide (o ∈ one)) (b := []) (stays_nat.list.list _ _ _ _ hL (kget K₆)) hv₆ (by simp only [cLine]; omega) (wpAny_truthy_bool ?_)
        have K36 := ktrans K₅ K₆
        by_cases h3 : ((xss.take k).filter fun one => decide (o ∈ one)) = []
        · rw [decide_eq_true h3]
          exact wpAny_allTrue_And_nil ⟨by rw [decide_eq_true ⟨h1, h3⟩], K36⟩
        · rw [decide_eq_false h3]
          exact ⟨by rw [decide_eq_false fun q => h3 q.2], K36⟩
    · rw [decide_eq_false h1]
      exact ⟨by rw [decide_eq_false fun q => h1 q.1], krefl _⟩
  · rintro i v' s₃ E' hi hvi _ hX hk'
    exact rdc (c := sj.heap.objs.size + 2) rfl hX ⟨krefl _, hvi⟩
  · intro D s' out K' _ hl' hP
    have h2 := paired_filterMap hv hP
    rw [← hvl, range_filterMap (rcs.getD p []) _ (fun o => decide (o ∉ xs ∧ ((xss.take k).filter fun one => decide (o ∈ one)) = [])) (fun i a h => by simp only [h]), hck] at h2
    refine nil_list (R := NatV) fun v₆ s₆ K₆ hv₆ => ?_
    refine ne_rd enc_pI.list rd_nat.list (a := []) (b := []) (stays_nat.list _ _ _ _ ⟨D, out, rfl, hl', Mine.Paired.mono h2 fun _ _ y => y⟩ (kget K₆)) hv₆ (by simp only [cLine]; omega) (wpAny_truthy_bool ?_)
    show wpAny _ _ _ _ _ _
    exact wpAny_execs_nil (h _ (S.keeps (ktrans K' K₆)))
end
end Mine
end

section
open PySem PySem.W PyProof.Rows
set_option Elab.async false
set_option maxRecDepth 100000
namespace Mine
local macro_rules | `(tactic| walk_at "mem") => `(tactic| repeat (first | exact List.Mem.head _ | apply List.Mem.tail))
local macro_rules | `(tactic| walk_at "lg") => `(tactic| repeat (first | (with_reducible exact LG.head) | apply LG.tail))
local macro_rules | `(tactic| walk_at "upd") => `(tactic| repeat (first | exact Upd.head | apply Upd.tail))
local macro_rules | `(tactic| walk_at "ls") => `(tactic| repeat (first | (with_reducible exact LS.head) | apply LS.tail))

section
variable {w : World} {A : Around} {E : Value → Shared → Prop} {B : Shared} {s : Shared} {pmL cdL docL : Value} {Lf : Addr} {pl rl : Addr} {pv rvals : List Value} {xss rcs : List (List Nat)} {n : Nat}

theorem law8 {Q : Flow → Shared → Prop} {c9 c8 c6 c4 c3 c2 : Option Value} {vs : List (Option Value)} {tn : Tok}
    (S : St B KAll (EqG B) (lawL Lf c9 c8 (some (.ref pl)) c6 (some (.ref rl)) c4 c3 c2 (some (.int (n : Int) tn)) vs) s) (C : LawC B.heap pl rl pv rvals xss rcs n) (hmem : ∀ xs ∈ xss, ∀ p ∈ xs, p < n)
    (h8a : ∀ xs ∈ xss, ∀ p ∈ xs, srt xs = (List.range n).filter fun o => decide (o ∈ rcs.getD p [] ∧ p ∈ rcs.getD o []))
    (h8b : ∀ (k : Nat) xs, xss[k]? = some xs → ∀ p ∈ xs, ((rcs.getD p []).filter fun o => decide (o ∉ xs ∧ ((xss.take k).filter fun one => decide (o ∈ one)) = [])) = [])
    (hh : A.handled = none) (hu : A.units < 8900)
    (h : ∀ s' c8' c6' c3', St B KAll (EqG B) (lawL Lf c9 c8' (some (.ref pl)) c6' (some (.ref rl)) c4 c3' c2 (some (.int (n : Int) tn)) vs) s' → Q .next s') :
    wpAny (model pw w) A (exec (lawB.getD 8 (.Pass default)) (lawEnv pmL cdL docL Lf)) Q E s := by
  obtain ⟨mg, mb, hg, hb, g1, g2, g3, g4, g5, gm, b1, b2, b3, b4, b5, b6, b7, b8⟩ := C.nm.ex
  have hpl := C.pv.length
  have hxl := C.xl
  refine wpAny_For (call1 (lblt (hg.keeps S.hk) (gm _ (by decide)) (hb.keeps S.hk) b5 (ldc S (c := Lf + 7) rfl (by unfold lawL; walk_at "mem") ⟨trivial, S_enum S (PlainList.keeps C.pl S.hk) fun e it s₁ S₁ => ?_⟩)))
  refine forE (vals := pv) (e := e) (it := it) hh (fun i L => ∃ c8' c6' c3', L = lawL Lf c9 c8' (some (.ref pl)) c6' (some (.ref rl)) c4 c3' c2 (some (.int (n : Int) tn)) vs) ?_ ?_ ?_ ⟨c8, c6, c3, rfl⟩ S₁
  · rintro i L s' ⟨c8', c6', c3', rfl⟩ S'
    exact PlainList.keeps C.pl S'.hk
  · rintro i v t L s₂ hv ⟨c8', c6', c3', rfl⟩ S₂
    obtain ⟨xs, hxs, hpart⟩ := paired_get C.pv hv
    have hil : i < xss.length := (List.getElem?_eq_some_iff.mp hxs).1
    have hxm : xs ∈ xss := List.mem_of_getElem? hxs
    have hx60 := C.xlt xs hxm
    refine wpAny_assign_Name (stc S₂ (c := Lf + 3) rfl (.tail (.tail (by unfold lawL; walk_at "upd"))) fun s₃ S₃ => ?_)
    refine wpAny_assign_Name (stc S₃ (c := Lf + 6) rfl (.tail (.tail (by walk_at "upd"))) fun s₄ S₄ => ?_)
    replace S₄ : St B KAll (EqG B) ((e, EnP it (i + 1)) :: (it, LitP pl (i + 1)) :: lawL Lf c9 c8' (some (.ref pl)) (some v) (some (.ref rl)) c4 (some (.int ((i : Nat) : Int) t)) c2 (some (.int (n : Int) tn)) vs) s₄ := S₄
    obtain ⟨l, vals, rfl, hl, hna⟩ := id hpart
    have hvl : xs.length = vals.length := hna.length
    refine wpAny_execs_cons (wpAny_For (ldc S₄ (c := Lf + 6) rfl (.tail _ (.tail _ (by unfold lawL; walk_at "mem"))) (S_iter S₄ (PlainList.keeps hl S₄.hk) fun itp s₅ _ _ S₅ => ?_)))
    refine forL (vals := vals) hh (fun j L => ∃ c8', L = (e, EnP it (i + 1)) :: (it, LitP pl (i + 1)) :: lawL Lf c9 c8' (some (.ref pl)) (some (.ref l)) (some (.ref rl)) c4 (some (.int ((i : Nat) : Int) t)) c2 (some (.int (n : Int) tn)) vs) ?_ ?_ ?_ ⟨c8', rfl⟩ S₅
    · rintro j L s' ⟨c8', rfl⟩ S'
      exact PlainList.keeps hl S'.hk
    · rintro j u L s₆ hu' ⟨c8', rfl⟩ S₆
      obtain ⟨p, hp, tp, rfl⟩ := paired_get hna hu'
      have hpm : p ∈ xs := List.mem_of_getElem? hp
      refine wpAny_assign_Name (stc S₆ (c := Lf + 8) rfl (.tail (.tail (.tail (by unfold lawL; walk_at "upd")))) fun s₇ S₇ => ?_)
      refine wpAny_execs_cons (if1 S₇ C (p := p) (xs := xs) (.tail _ (.tail _ (.tail _ (by walk_at "mem")))) (.tail _ (.tail _ (.tail _ (by walk_at "mem")))) (.tail _ (.tail _ (.tail _ (by walk_at "mem")))) (.tail _ (.tail _ (.tail _ (by walk_at "mem")))) hpart hx60 (hmem xs hxm p hpm) (h8a xs hxm p hpm) hh hu fun s₈ S₈ => ?_)
      refine wpAny_execs_cons (if2 S₈ C (p := p) (k := i) (xs := xs) (.tail _ (.tail _ (.tail _ (by walk_at "mem")))) (.tail _ (.tail _ (.tail _ (by walk_at "mem")))) (.tail _ (.tail _ (.tail _ (by walk_at "mem")))) (.tail _ (.tail _ (.tail _ (by walk_at "mem")))) (.tail _ (.tail _ (.tail _ (by walk_at "mem")))) hpart (hmem xs hxm p hpm) (by omega) (h8b i xs hxs p hpm) hh hu fun s₉ S₉ => ?_)
      exact wpAny_execs_nil ⟨rfl, _, ⟨_, rfl⟩, S₉⟩
    · rintro L s₆ ⟨c8', rfl⟩ S₆
      exact wpAny_execs_nil ⟨rfl, _, ⟨_, _, _, rfl⟩, S₆⟩
  · rintro L s' ⟨c8', c6', c3', rfl⟩ S'
    exact h s' c8' c6' c3' S'
end
end Mine
end

section
open PySem PySem.W PyProof.Rows
set_option Elab.async false
set_option maxRecDepth 100000
namespace Mine
local macro_rules | `(tactic| walk_at "mem") => `(tactic| repeat (first | exact List.Mem.head _ | apply List.Mem.tail))
local macro_rules | `(tactic| walk_at "lg") => `(tactic| repeat (first | (with_reducible exact LG.head) | apply LG.tail))
local macro_rules | `(tactic| walk_at "upd") => `(tactic| repeat (first | exact Upd.head | apply Upd.tail))
local macro_rules | `(tactic| walk_at "ls") => `(tactic| repeat (first | (with_reducible exact LS.head) | apply LS.tail))

def mx (b : List Nat) : Nat := b.foldl max 0
theorem foldl_max : ∀ (b : List Nat) (a : Nat), (∀ x ∈ b, x ≤ b.foldl max a) ∧ a ≤ b.foldl max a ∧ (b.foldl max a = a ∨ b.foldl max a ∈ b)
  | [], a => ⟨fun _ h => (nomatch h), Nat.le_refl _, .inl rfl⟩
  | x :: b, a => by
    obtain ⟨h1, h2, h3⟩ := foldl_max b (max a x)
    rw [List.foldl_cons]
    refine ⟨fun y hy => ?_, by omega, ?_⟩
    · rcases List.mem_cons.mp hy with rfl | hy
      · omega
      · exact h1 y hy
    · rcases h3 with h3 | h3
      · rcases Nat.le_total a x with h | h
        · exact .inr (by rw [h3, Nat.max_eq_right h]; exact .head _)
        · exact .inl (by rw [h3, Nat.max_eq_left h])
      · exact .inr (.tail _ h3)
theorem mx_eq {b : List Nat} {M : Nat} (h1 : M ∈ b) (h2 : ∀ a ∈ b, a ≤ M) : M = mx b := by
  obtain ⟨q1, q2, q3⟩ := foldl_max b 0
  have a1 := q1 M h1
  unfold mx
  rcases q3 with q3 | q3
  · omega
  · have := h2 _ q3; omega

section
variable {prog : Program} {w : World} {A : Around} {E : Value → Shared → Prop} {s : Shared}
theorem max_nats {v : Value} {xs : List Nat} {Q : Value → Shared → Prop} (hh : A.handled = none) (hl : NatsV s.heap xs v) (hne : xs ≠ []) (h : ∀ t s', Keeps s s' → Q (.int ((mx xs : Nat) : Int) t) s') : wpAny (model prog w) A (call (.builtin "max") [v]) Q E s := by
  obtain ⟨l, vals, rfl, hp, hv⟩ := hl
  have hna : IntsAre vals (xs.map fun (x : Nat) => (x : Int)) := paired_na hv
  have hall := hna.allInts
  have hnum := hna.numsOf
  have hlen := (paired_na hv).length
  generalize hit : vals.toArray = items at *
  obtain ⟨ys, rfl⟩ := hall.items
  have hnum2 : ys.toList.map (·.1) = xs.map fun (x : Nat) => (x : Int) := by
    rw [← nums_intItems, ← hit]; exact hnum
  have hsz : ys.size = xs.length := by
    have := congrArg List.length hnum2
    simpa using this
  have hpos : 0 < xs.length := List.length_pos_iff.mpr hne
  refine max_intList hh hp.isList (by omega) fun v h' tk hv' hk => ?_
  obtain ⟨t, rfl⟩ := intItems_at hv'
  obtain ⟨q1, q2⟩ := argBest_gt (numAt ys) (ys.size - 1)
  have hat : ∀ j, j < xs.length → numAt ys j = ((xs.getD j 0 : Nat) : Int) := fun j hj => by
    rw [numAt_eq, hnum2]; simp [hj]
  have e : xs.getD (argBest (fun i j => decide (numAt ys i > numAt ys j)) (ys.size - 1)) 0 = mx xs := by
    refine mx_eq ?_ fun a ha => ?_
    · have hlt : argBest (fun i j => decide (numAt ys i > numAt ys j)) (ys.size - 1) < xs.length := by omega
      simp [hlt]
    · obtain ⟨j, hj, rfl⟩ := List.getElem_of_mem ha
      have := q2 j (by omega)
      rw [hat j hj, hat _ (by omega)] at this
      simp only [List.getD_eq_getElem?_getD, List.getElem?_eq_getElem hj, Option.getD_some] at this
      simp only [List.getD_eq_getElem?_getD]
      omega
  have := h t { s with heap := h', toks := tk } ⟨h', tk, rfl, hk⟩
  rw [← e, ← hat _ (by omega)] at this
  exact this
end

/-- the levels of the parts below a part -/
def belowL (rcs xss : List (List Nat)) (ls : List Nat) (xs : List Nat) : List Nat :=
  ((List.range ls.length).filter fun j => decide (((rcs.getD (xs.headD 0) []).filter fun o => decide (o ∈ xss.getD j [])) ≠ [])).map fun j => ls.getD j 0
def lvOne (rcs xss : List (List Nat)) (ls : List Nat) (xs : List Nat) : Nat := if belowL rcs xss ls xs = [] then 0 else 1 + mx (belowL rcs xss ls xs)
/-- the levels of the first i parts -/
def lvN (rcs xss : List (List Nat)) : Nat → List Nat
  | 0 => []
  | i + 1 => lvN rcs xss i ++ [lvOne rcs xss (lvN rcs xss i) (xss.getD i [])]
theorem lvN_length (rcs xss : List (List Nat)) : ∀ i, (lvN rcs xss i).length = i
  | 0 => rfl
  | i + 1 => by rw [lvN, List.length_append, lvN_length rcs xss i]; rfl

section
variable {w : World} {A : Around} {E : Value → Shared → Prop} {B : Shared} {s : Shared} {pmL cdL docL : Value} {Lf : Addr} {pl rl : Addr} {pv rvals : List Value} {xss rcs : List (List Nat)} {n : Nat}

theorem law10 {Q : Flow → Shared → Prop} {c9 c8 c7 c6 c5 c4 c3 c2 c1 : Option Value} {vs : List (Option Value)} (S : St B KAll (EqG B) (lawL Lf c9 c8 c7 c6 c5 c4 c3 c2 c1 vs) s)
    (h : ∀ lv s', St B KAll (EqG B) ((lv, LstP []) :: lawL Lf (some (.ref lv)) c8 c7 c6 c5 c4 c3 c2 c1 vs) s' → Q .next s') :
    wpAny (model pw w) A (exec (lawB.getD 10 (.Pass default)) (lawEnv pmL cdL docL Lf)) Q E s := by
  unfold lawL at S h
  refine wpAny_Assign_Name (S_List (wpAny_items_nil ⟨_, _, _, _, S, by simp, fun lv s₁ _ _ S₁ => ?_⟩))
  exact stc S₁ (c := Lf + 9) rfl (by walk_at "upd") fun s₂ S₂ => h lv s₂ S₂
end
end Mine
end

section
open PySem PySem.W PyProof.Rows
set_option Elab.async false
set_option maxRecDepth 100000
namespace Mine
local macro_rules | `(tactic| walk_at "mem") => `(tactic| repeat (first | exact List.Mem.head _ | apply List.Mem.tail))
local macro_rules | `(tactic| walk_at "lg") => `(tactic| repeat (first | (with_reducible exact LG.head) | apply LG.tail))
local macro_rules | `(tactic| walk_at "upd") => `(tactic| repeat (first | exact Upd.head | apply Upd.tail))
local macro_rules | `(tactic| walk_at "ls") => `(tactic| repeat (first | (with_reducible exact LS.head) | apply LS.tail))

theorem getD_some {α : Type} {as : List α} {i : Nat} {d : α} (h : i < as.length) : as[i]? = some (as.getD i d) := by
  rw [List.getD_eq_getElem?_getD, List.getElem?_eq_getElem h]; rfl

section
variable {w : World} {A : Around} {E : Value → Shared → Prop} {B : Shared} {s : Shared} {pmL cdL docL : Value} {Lf : Addr} {pl rl : Addr} {pv rvals : List Value} {xss rcs : List (List Nat)} {n : Nat}

theorem law11 {Q : Flow → Shared → Prop} {c8 c6 c4 c3 c2 c1 v0 v1 v2 v3 : Option Value} {lv : Addr}
    (S : St B KAll (EqG B) ((lv, LstP []) :: lawL Lf (some (.ref lv)) c8 (some (.ref pl)) c6 (some (.ref rl)) c4 c3 c2 c1 [v0, v1, v2, v3]) s) (C : LawC B.heap pl rl pv rvals xss rcs n) (hmem : ∀ xs ∈ xss, ∀ p ∈ xs, p < n) (hne : ∀ xs ∈ xss, xs ≠ [])
    (hh : A.handled = none) (hu : A.units < 8900)
    (h : ∀ s' c6' v3' lvv, St B KAll (EqG B) ((lv, LstP lvv) :: lawL Lf (some (.ref lv)) c8 (some (.ref pl)) c6' (some (.ref rl)) c4 c3 c2 c1 [v0, v1, v2, v3']) s' → NA lvv (lvN rcs xss xss.length) → Q .next s') :
    wpAny (model pw w) A (exec (lawB.getD 11 (.Pass default)) (lawEnv pmL cdL docL Lf)) Q E s := by
  obtain ⟨mg, mb, hg, hb, g1, g2, g3, g4, g5, gm, b1, b2, b3, b4, b5, b6, b7, b8⟩ := C.nm.ex
  have hpv := C.pv.length
  have hxl := C.xl
  have hrl := C.rn
  refine wpAny_For (ldc S (c := Lf + 7) rfl (by unfold lawL; walk_at "mem") (S_iter S (PlainList.keeps C.pl S.hk) fun it s₁ _ _ S₁ => ?_))
  refine forL (vals := pv) hh (fun i L => ∃ c6' v3' lvv, L = (lv, LstP lvv) :: lawL Lf (some (.ref lv)) c8 (some (.ref pl)) c6' (some (.ref rl)) c4 c3 c2 c1 [v0, v1, v2, v3'] ∧ NA lvv (lvN rcs xss i)) ?_ ?_ ?_ ⟨c6, v3, [], rfl, .nil⟩ S₁
  · rintro i L s' ⟨c6', v3', lvv, rfl, _⟩ S'
    exact PlainList.keeps C.pl S'.hk
  · rintro i v L s₂ hv ⟨c6', v3', lvv, rfl, hlv⟩ S₂
    obtain ⟨xs, hxs, l, vals, rfl, hl, hna⟩ := paired_get C.pv hv
    have hil : i < xss.length := (List.getElem?_eq_some_iff.mp hxs).1
    have hxm : xs ∈ xss := List.mem_of_getElem? hxs
    have hxg : xss.getD i [] = xs := by simp [hxs]
    have hlen := hlv.length
    rw [lvN_length] at hlen
    have hn0 := hne xs hxm
    have hx0 : 0 < xs.length := List.length_pos_iff.mpr hn0
    have hhd : xs.headD 0 = xs[0] := by cases xs with
      | nil => exact absurd rfl hn0
      | cons a b => rfl
    have hhn : xs.headD 0 < n := by rw [hhd]; exact hmem xs hxm _ (List.getElem_mem hx0)
    have hx60 := C.xlt xs hxm
    refine wpAny_assign_Name (stc S₂ (c := Lf + 6) rfl (.tail (.tail (by unfold lawL; walk_at "upd"))) fun s₃ S₃ => ?_)
    replace S₃ : St B KAll (EqG B) ((it, LitP pl (i + 1)) :: (lv, LstP lvv) :: lawL Lf (some (.ref lv)) c8 (some (.ref pl)) (some (.ref l)) (some (.ref rl)) c4 c3 c2 c1 [v0, v1, v2, v3']) s₃ := S₃
    have mm : ∀ {p q r : Addr × OP} {l : Ledger}, p ∈ l → p ∈ q :: r :: l := fun h => .tail _ (.tail _ h)
    refine wpAny_execs_cons (asg_cell (B := B) (Pk := KAll) (G := EqG B) (cl := [(("reached" : Str), Lf + 5), (("parts" : Str), Lf + 7), (("part" : Str), Lf + 6), (("levels" : Str), Lf + 9)]) (ks := ksL)
      (vs' := fun v => [v0, v1, v2, some v]) (L := (it, LitP pl (i + 1)) :: (lv, LstP lvv) :: lawL Lf (some (.ref lv)) c8 (some (.ref pl)) (some (.ref l)) (some (.ref rl)) c4 c3 c2 c1 [v0, v1, v2, v3'])
      (L' := fun v => (it, LitP pl (i + 1)) :: (lv, LstP lvv) :: lawL Lf (some (.ref lv)) c8 (some (.ref pl)) (some (.ref l)) (some (.ref rl)) c4 c3 c2 c1 [v0, v1, v2, some v]) rfl rfl ?_
      (fun v => .tail (.tail (by unfold lawL; walk_at "upd"))) (fun v => .tail (.tail (.tail .head))))
    refine call1 (lblt (hg.keeps S₃.hk) (gm _ (by decide)) (hb.keeps S₃.hk) b2 (call1 (lblt (hg.keeps S₃.hk) (gm _ (by decide)) (hb.keeps S₃.hk) b1 (ldc S₃ (c := Lf + 9) rfl (mm (by unfold lawL; walk_at "mem")) ⟨trivial, ?_⟩))))
    refine lenL (S₃.lst (.tail _ (.head _))).isList (by simp; omega) ⟨trivial, ?_⟩
    rw [show ((lvv.toArray.size : Nat) : Int) = ((i : Nat) : Int) by simp [hlen]]
    have d5 := S₃.get (a := Lf + 5) (P := CellP (some (.ref rl))) (mm (by unfold lawL; walk_at "mem"))
    have d7 := S₃.get (a := Lf + 7) (P := CellP (some (.ref pl))) (mm (by unfold lawL; walk_at "mem"))
    have d6 := S₃.get (a := Lf + 6) (P := CellP (some (.ref l))) (mm (by unfold lawL; walk_at "mem"))
    have d9 := S₃.get (a := Lf + 9) (P := CellP (some (.ref lv))) (mm (by unfold lawL; walk_at "mem"))
    have dlv := S₃.lst (a := lv) (vs := lvv) (.tail _ (.head _))
    refine iter_range (s₀ := s₃) hh ⟨s₃.heap, s₃.toks + 1 + 1, rfl, fun _ _ e => e⟩ (by omega) fun itj sj Kj hzj Wj => ?_
    refine ⟨s₃, _, _, fun j => decide (((rcs.getD (xs.headD 0) []).filter fun o => decide (o ∈ xss.getD j [])) ≠ []), fun _ j y => ∃ t, y = .int (((lvN rcs xss i).getD j 0 : Nat) : Int) t, Wj, by omega, Nat.le_of_lt hzj, S₃, ⟨fun _ _ _ _ h _ => h, ?_, ?_⟩, ?_⟩
    · rintro j v' s₄ E' hj ⟨tj, rfl⟩ hX hk'
      have kB : ∀ b o, B.heap.get? b = some o → s₄.heap.get? b = some o := fun b o e => hk' b o (S₃.hk b o e)
      have c7 : ∃ o, s₄.heap.get? (Lf + 7) = some o ∧ CellP (some (.ref pl)) o := let ⟨o, e, q⟩ := d7; ⟨o, hk' _ _ e, q⟩
      have c6 : ∃ o, s₄.heap.get? (Lf + 6) = some o ∧ CellP (some (.ref l)) o := let ⟨o, e, q⟩ := d6; ⟨o, hk' _ _ e, q⟩
      have c5 : ∃ o, s₄.heap.get? (Lf + 5) = some o ∧ CellP (some (.ref rl)) o := let ⟨o, e, q⟩ := d5; ⟨o, hk' _ _ e, q⟩
      have hrp : rcs[xs.headD 0]? = some (rcs.getD (xs.headD 0) []) := getD_some (by omega)
      have hr60 := C.rlt _ (List.mem_of_getElem? hrp)
      obtain ⟨pj, hpj, hjv⟩ := paired_at C.pv (i := j) (a := xss.getD j []) (by simp [show j < xss.length by omega])
      have hjl : j < pv.length := by omega
      refine wpAny_tests_one (wpAny_isTrue_Compare1 ?_)
      refine lc_loc (cl := [(("parts" : Str), Lf + 7), (("j" : Str), sj.heap.objs.size + 2)]) rfl ?_
      refine sub_any (rdc (c := Lf + 5) rfl c5 (sub_any (rdc (c := Lf + 6) rfl c6 (wpAny_Constant_int ⟨on_list (PlainList.keeps hl kB), ?_⟩))))
      refine item_nats (i := 0) (PlainList.keeps hl kB) (paired_na hna) hx0 (by omega) fun u => ⟨on_list (PlainList.keeps C.rl kB), ?_⟩
      rw [← hhd]
      refine get_rc (s := { s₄ with toks := s₄.toks + 1 }) C kB hrp fun y hy => ?_
      obtain ⟨ly, yvals, rfl, hly, hyv⟩ := hy
      have hyl : (rcs.getD (xs.headD 0) []).length = yvals.length := hyv.length
      refine iter_list (s₀ := s₄) hh ⟨s₄.heap, s₄.toks + 1, rfl, fun _ _ e => e⟩ hly.isList fun iti si Ki hzi Wi => ?_
      refine ⟨s₄, _, _, fun q => match (rcs.getD (xs.headD 0) [])[q]? with | some o => decide (o ∈ xss.getD j []) | none => false, fun _ q y => yvals[q]? = some y, Wi, by omega, Nat.le_of_lt hzi, ⟨fun _ _ _ _ h _ => h, ?_, ?_⟩, ?_⟩
      · rintro q v'' s₅ E'' hq hvq hX' hk''
        obtain ⟨o, ho, to, rfl⟩ := paired_get hyv hvq
        simp only [ho]
        have c7' : ∃ o, s₅.heap.get? (Lf + 7) = some o ∧ CellP (some (.ref pl)) o := let ⟨o, e, q⟩ := c7; ⟨o, hk'' _ _ e, q⟩
        have hXs : ∃ o', s₅.heap.get? (sj.heap.objs.size + 2) = some o' ∧ CellP (some (.int ((j : Nat) : Int) tj)) o' := let ⟨o, e, q⟩ := hX; ⟨o, hk'' _ _ e, q⟩
        have k5 : ∀ b o, B.heap.get? b = some o → s₅.heap.get? b = some o := fun b o e => hk'' b o (kB b o e)
        refine wpAny_tests_one (wpAny_isTrue_Compare1 (rdl hX' (by walk_at "lg") (sub_any (rdc (c := Lf + 7) rfl c7' (rdc (c := sj.heap.objs.size + 2) rfl hXs ⟨on_list (PlainList.keeps C.pl k5), ?_⟩)))))
        refine wpAny_getItem_list (PlainList.keeps C.pl k5).isList (Int.natCast_nonneg j) (by omega) (by simpa using hpj) ?_
        exact in_ls enc_pI rd_nat (a := o) (stays_nat.list _ _ _ _ hjv k5) ⟨_, rfl⟩ (by simp only [cLine]; omega) (wpAny_truthy_bool ⟨rfl, krefl _⟩)
      · rintro q v'' s₅ E'' hq hvq _ hX' hk''
        exact rdl hX' (by walk_at "lg") ⟨krefl _, hvq⟩
      · intro D' s₅ out K₅ _ hD' hP
        have h2 := paired_filterMap hyv hP
        rw [← hyl, range_filterMap (rcs.getD (xs.headD 0) []) _ (fun o => decide (o ∈ xss.getD j [])) (fun i a h => by simp only [h])] at h2
        refine nil_list (R := NatV) fun v₆ s₆ K₆ hv₆ => ?_
        refine ne_rd enc_pI.list rd_nat.list (a := (rcs.getD (xs.headD 0) []).filter fun o => decide (o ∈ xss.getD j [])) (b := []) (stays_nat.list _ _ _ _ ⟨D', out, rfl, hD', Mine.Paired.mono h2 fun _ _ y => y⟩ (kget K₆)) hv₆ (by simp only [cLine]; omega) (wpAny_truthy_bool ⟨rfl, ?_⟩)
        exact ktrans K₅ K₆
    · rintro j v' s₄ E' hj ⟨tj, rfl⟩ _ hX hk'
      have c9 : ∃ o, s₄.heap.get? (Lf + 9) = some o ∧ CellP (some (.ref lv)) o := let ⟨o, e, q⟩ := d9; ⟨o, hk' _ _ e, q⟩
      have hl9 := PlainList.keeps dlv hk'
      have hj2 : j < (lvN rcs xss i).length := by rw [lvN_length]; exact hj
      refine sub_any (rdc (c := Lf + 9) rfl c9 (rdc (c := sj.heap.objs.size + 2) rfl hX ⟨on_list hl9, ?_⟩))
      refine item_nats hl9 hlv hj2 (by rw [lvN_length]; omega) fun u => ⟨krefl _, u, ?_⟩
      rw [List.getD_eq_getElem?_getD, List.getElem?_eq_getElem hj2]; rfl
    · intro D s₄ out S₄ _ hP
      have hbl : NA out (belowL rcs xss (lvN rcs xss i) xs) := by
        have := NA.of_paired (f := fun j => (lvN rcs xss i).getD j 0) hP
        unfold belowL
        rw [lvN_length]
        exact this
      have hbN : NatsV s₄.heap (belowL rcs xss (lvN rcs xss i) xs) (.ref D) := ⟨D, out, rfl, S₄.lst (.head _), na_paired hbl⟩
      have m4 : ∀ {p q r t : Addr × OP} {l : Ledger}, p ∈ l → p ∈ q :: r :: t :: l := fun h => .tail _ (.tail _ (.tail _ h))
      refine wpAny_execs_cons (ex_append (ldc S₄ (c := Lf + 9) rfl (m4 (by unfold lawL; walk_at "mem")) ⟨lv, _, rfl, S₄.lst (.tail _ (.tail _ (.head _))), wpAny_IfExp (wpAny_isTrue_Compare1 (ldl S₄ (m4 (by unfold lawL; walk_at "mem")) (by walk_at "lg") (nil_list (R := NatV) fun v₆ s₆ K₆ hv₆ => ?_)))⟩))
      have S₆ := S₄.keeps K₆
      have fin : ∀ t (s₇ : Shared), St B KAll (EqG B) ((D, LstP out) :: (it, LitP pl (i + 1)) :: (lv, LstP lvv) :: lawL Lf (some (.ref lv)) c8 (some (.ref pl)) (some (.ref l)) (some (.ref rl)) c4 c3 c2 c1 [v0, v1, v2, some (.ref D)]) s₇ →
          ∀ (N : Value → Shared → Prop), wpAny (model pw w) A (call (.builtin "list.append") [.ref lv, .int ((lvOne rcs xss (lvN rcs xss i) xs : Nat) : Int) t]) (fun v s' => v = .none ∧ wpAny (model pw w) A (execs [] (lawEnv pmL cdL docL Lf)) (fun f s₃ => f = .next ∧ ∃ L', (∃ c6' v3' lvv, L' = (lv, LstP lvv) :: lawL Lf (some (.ref lv)) c8 (some (.ref pl)) c6' (some (.ref rl)) c4 c3 c2 c1 [v0, v1, v2, v3'] ∧ NA lvv (lvN rcs xss (i + 1))) ∧ St B KAll (EqG B) ((it, LitP pl (i + 1)) :: L') s₃) N s') N s₇ := by
        intro t s₇ S₇ N
        refine S_append S₇ (.tail (.tail .head)) (by omega) fun s₈ S₈ => ⟨rfl, wpAny_execs_nil ⟨rfl, _, ⟨_, _, _, rfl, ?_⟩, S₈.drop (List.sublist_cons_self _ _)⟩⟩
        rw [lvN, hxg]
        exact hlv.snoc _ t
      refine ne_rd enc_pI.list rd_nat.list (a := belowL rcs xss (lvN rcs xss i) xs) (b := []) (stays_nat.list _ _ _ _ hbN (kget K₆)) hv₆ (by simp only [cLine]; omega) (wpAny_truthy_bool ?_)
      by_cases hb0 : belowL rcs xss (lvN rcs xss i) xs = []
      · rw [show decide (belowL rcs xss (lvN rcs xss i) xs ≠ []) = false by simp [hb0]]
        show wpAny _ _ _ _ _ _
        have e : lvOne rcs xss (lvN rcs xss i) xs = 0 := by unfold lvOne; rw [if_pos hb0]
        have := fin s₆.toks _ (S₆.tok (s₆.toks + 1))
        rw [e] at this
        exact wpAny_Constant_int (this _)
      · rw [show decide (belowL rcs xss (lvN rcs xss i) xs ≠ []) = true by simp [hb0]]
        show wpAny _ _ _ _ _ _
        have e : lvOne rcs xss (lvN rcs xss i) xs = 1 + mx (belowL rcs xss (lvN rcs xss i) xs) := by unfold lvOne; rw [if_neg hb0]
        refine wpAny_BinOp (wpAny_Constant_int ?_)
        have S₇ := S₆.tok (s₆.toks + 1)
        have kB : ∀ b o, B.heap.get? b = some o → s₆.heap.get? b = some o := S₆.hk
        refine call1 (lblt (hg.keeps kB) (gm _ (by decide)) (hb.keeps kB) b6 (ldl S₇ (m4 (by unfold lawL; walk_at "mem")) (by walk_at "lg") ⟨trivial, ?_⟩))
        have hbN6 : NatsV s₆.heap (belowL rcs xss (lvN rcs xss i) xs) (.ref D) := stays_nat.list _ _ _ _ hbN (kget K₆)
        refine max_nats hh hbN6 hb0 fun t₁ s₈ K₈ => ?_
        have S₈ := S₇.keeps K₈
        refine n_add (a := 1) fun t₂ k₂ => ?_
        rw [← e]
        exact fin t₂ _ (S₈.tok k₂) _
  · rintro L s' ⟨c6', v3', lvv, rfl, hlv⟩ S'
    rw [← hpv] at hlv
    exact h s' c6' v3' lvv S' hlv
end
end Mine
end

section
open PySem PySem.W PyProof.Rows
set_option Elab.async false
set_option maxRecDepth 100000
namespace Mine
local macro_rules | `(tactic| walk_at "mem") => `(tactic| repeat (first | exact List.Mem.head _ | apply List.Mem.tail))
local macro_rules | `(tactic| walk_at "lg") => `(tactic| repeat (first | (with_reducible exact LG.head) | apply LG.tail))
local macro_rules | `(tactic| walk_at "upd") => `(tactic| repeat (first | exact Upd.head | apply Upd.tail))
local macro_rules | `(tactic| walk_at "ls") => `(tactic| repeat (first | (with_reducible exact LS.head) | apply LS.tail))

/-- lists sorted by their first items -/
def srtH (xs : List (List Nat)) : List (List Nat) := xs.mergeSort (fun a b => decide (a.headD 0 ≤ b.headD 0))
theorem srtH_perm (xs : List (List Nat)) : (srtH xs).Perm xs := List.mergeSort_perm _ _
theorem srtH_pair (xs : List (List Nat)) : (srtH xs).Pairwise (fun a b => a.headD 0 ≤ b.headD 0) := by
  have := List.pairwise_mergeSort (le := fun a b : List Nat => decide (a.headD 0 ≤ b.headD 0)) (by intro a b c h1 h2; simp only [decide_eq_true_eq] at *; omega) (by intro a b; simp only [Bool.or_eq_true, decide_eq_true_eq]; omega) xs
  exact this.imp fun h => by simpa using h
theorem perm_head_eq : ∀ {xs ys : List (List Nat)}, xs.Perm ys → xs.Pairwise (fun a b => a.headD 0 ≤ b.headD 0) → ys.Pairwise (fun a b => a.headD 0 ≤ b.headD 0) → (xs.map fun a => a.headD 0).Nodup → xs = ys
  | [], ys, h, _, _, _ => (List.nil_perm.mp h).symm ▸ rfl
  | x :: xs, [], h, _, _, _ => absurd h.length_eq (by simp)
  | x :: xs, y :: ys, h, h1, h2, hn => by
    have hx : x ∈ y :: ys := h.mem_iff.mp (.head _)
    have hy : y ∈ x :: xs := h.mem_iff.mpr (.head _)
    have h1' := List.pairwise_cons.mp h1
    have h2' := List.pairwise_cons.mp h2
    rw [List.map_cons, List.nodup_cons] at hn
    have e : x = y := by
      rcases List.mem_cons.mp hy with r | r
      · exact r.symm
      · rcases List.mem_cons.mp hx with q | q
        · exact q
        · have a1 := h1'.1 y r
          have a2 := h2'.1 x q
          exact absurd (List.mem_map.mpr ⟨y, r, (by omega : y.headD 0 = x.headD 0)⟩) hn.1
    subst e
    rw [perm_head_eq (List.Perm.cons_inv h) h1'.2 h2'.2 hn.2]
theorem srtH_of {xs ys : List (List Nat)} (h : ys.Perm xs) (h2 : ys.Pairwise fun a b => a.headD 0 ≤ b.headD 0) (hn : (xs.map fun a => a.headD 0).Nodup) : ys = srtH xs :=
  perm_head_eq (h.trans (srtH_perm xs).symm) h2 (srtH_pair xs) ((h.map _).nodup_iff.mpr hn)

section
variable {prog : Program} {w : World} {A : Around} {E : Value → Shared → Prop} {s : Shared}
theorem sorted_lists2 {a : Addr} {vals : List Value} {xss : List (List Nat)} {R : List Nat → Value → Prop} {Q : Value → Shared → Prop} (hR : ∀ x v, R x v → NatsV s.heap x v) (hp : s.heap.PlainList a vals.toArray) (hv : Paired R xss vals) (h64 : xss.length < 64) (hne : ∀ xs ∈ xss, xs ≠ []) (hd : (xss.map fun xs => xs.headD 0).Nodup) (hu : A.units + 50 < cLine)
    (h : ∀ D s' out, Keeps s s' → @LT.lt Nat _ s.heap.objs.size D → s'.heap.PlainList D out.toArray → Paired R (srtH xss) out → Q (.ref D) s') : wpAny (model prog w) A (call (.builtin "sorted") [.ref a]) Q E s := by
  have hlen := hv.length
  have hf : ∀ {as : List (List Nat)} {bs : List Value}, Paired R as bs → (∀ xs ∈ as, xs ≠ []) → bs.map (headOf s.heap) = as.map fun xs => ((xs.headD 0 : Nat) : Int) := fun {as bs} p => by
    induction p with
    | nil => intro _; rfl
    | cons hx _ ih =>
      intro hn
      rw [List.map_cons, List.map_cons, ih fun xs hm => hn xs (.tail _ hm), (head_of (hR _ _ hx) (hn _ (.head _))).2]
  have hr : ∀ {as : List (List Nat)} {bs : List Value}, Paired R as bs → (∀ xs ∈ as, xs ≠ []) → ∀ v ∈ bs, RkV (headOf s.heap) s.heap v := fun {as bs} p => by
    induction p with
    | nil => intro _ v hv; cases hv
    | cons hx _ ih =>
      intro hn v hv
      rcases List.mem_cons.mp hv with rfl | hv
      · exact (head_of (hR _ _ hx) (hn _ (.head _))).1
      · exact ih (fun xs hm => hn xs (.tail _ hm)) v hv
  refine sorted_rank (f := headOf s.heap) hp.isList (hr hv hne) ?_ hu (by omega) fun out ⟨h1, h2⟩ => ?_
  · rw [hf hv hne, show (fun xs : List Nat => ((xs.headD 0 : Nat) : Int)) = (fun (x : Nat) => (x : Int)) ∘ fun xs => xs.headD 0 from rfl, ← List.map_map]
    exact List.Pairwise.map _ (fun a b q e => q (Int.ofNat.inj e)) hd
  · obtain ⟨yss, q1, q2⟩ := paired_perm h1 hv
    have hne' : ∀ xs ∈ yss, xs ≠ [] := fun xs hm => hne xs (q1.mem_iff.mp hm)
    have e : yss = srtH xss := by
      refine srtH_of q1 ?_ hd
      refine paired_pairwise q2 h2 fun a a' b b' m1 m2 x1 x2 q => ?_
      rw [(head_of (hR _ _ x1) (hne' _ m1)).2, (head_of (hR _ _ x2) (hne' _ m2)).2] at q
      omega
    subst e
    exact h _ _ out (k_sorted (out := out)) (Nat.lt_succ_self _) at_sorted q2
end

section
variable {w : World} {A : Around} {E : Value → Shared → Prop} {B : Shared} {s : Shared} {pmL cdL docL : Value} {Lf : Addr} {pl rl : Addr} {pv rvals : List Value} {xss rcs : List (List Nat)} {n : Nat}

theorem law12 {Q : Flow → Shared → Prop} {c8 c7 c6 c5 c4 c3 c2 c1 v0 v1 v3 : Option Value} {lv bl : Addr} {lvv bv : List Value} {lvs : List Nat}
    (S : St B KAll (EqG B) ((lv, LstP lvv) :: lawL Lf (some (.ref lv)) c8 c7 c6 c5 c4 c3 c2 c1 [v0, v1, some (.ref bl), v3]) s) (hN : Names B.heap) (hb : B.heap.PlainList bl bv.toArray) (hbv : bv.length ≤ 100) (hlv : NA lvv lvs) (hne : lvs ≠ []) (hck : bv.length = 1 + mx lvs)
    (hh : A.handled = none) (hu : A.units < 8900)
    (h : ∀ s', St B KAll (EqG B) ((lv, LstP lvv) :: lawL Lf (some (.ref lv)) c8 c7 c6 c5 c4 c3 c2 c1 [v0, v1, some (.ref bl), v3]) s' → Q .next s') :
    wpAny (model pw w) A (exec (lawB.getD 12 (.Pass default)) (lawEnv pmL cdL docL Lf)) Q E s := by
  obtain ⟨mg, mb, hg, hbu, g1, g2, g3, g4, g5, gm, b1, b2, b3, b4, b5, b6, b7, b8⟩ := hN.ex
  refine wpAny_If (wpAny_isTrue_Compare1 (call1 (lblt (hg.keeps S.hk) (gm _ (by decide)) (hbu.keeps S.hk) b1 (ldl S (.tail _ (by unfold lawL; walk_at "mem")) (by walk_at "lg") ⟨trivial, ?_⟩))))
  refine lenL (PlainList.keeps hb S.hk).isList (by simp; omega) (wpAny_BinOp (wpAny_Constant_int ?_))
  have S₁ := S.tok (s.toks + 1 + 1 + 1)
  refine call1 (lblt (hg.keeps S₁.hk) (gm _ (by decide)) (hbu.keeps S₁.hk) b6 (ldc S₁ (c := Lf + 9) rfl (.tail _ (by unfold lawL; walk_at "mem")) ⟨trivial, ?_⟩))
  refine max_nats hh ⟨lv, lvv, rfl, S₁.lst (.head _), na_paired hlv⟩ hne fun t₁ s₂ K₂ => n_add (a := 1) fun t₂ k₂ => ?_
  have S₂ := (S₁.keeps K₂).tok k₂
  refine ne_rd enc_pI rd_nat (a := bv.length) (b := 1 + mx lvs) ⟨_, by simp; rfl⟩ ⟨_, rfl⟩ (by simp only [cLine]; omega) (wpAny_truthy_bool ?_)
  rw [show decide (bv.length ≠ 1 + mx lvs) = false by simp [hck]]
  show wpAny _ _ _ _ _ _
  exact wpAny_execs_nil (h _ S₂)
end
end Mine
end

section
open PySem PySem.W PyProof.Rows
set_option Elab.async false
set_option maxRecDepth 100000
namespace Mine
local macro_rules | `(tactic| walk_at "mem") => `(tactic| repeat (first | exact List.Mem.head _ | apply List.Mem.tail))
local macro_rules | `(tactic| walk_at "lg") => `(tactic| repeat (first | (with_reducible exact LG.head) | apply LG.tail))
local macro_rules | `(tactic| walk_at "upd") => `(tactic| repeat (first | exact Upd.head | apply Upd.tail))
local macro_rules | `(tactic| walk_at "ls") => `(tactic| repeat (first | (with_reducible exact LS.head) | apply LS.tail))

/-- the parts of one level, each sorted -/
def rightL (lvs : List Nat) (xss : List (List Nat)) (i : Nat) : List (List Nat) := ((List.range xss.length).filter fun j => decide (lvs.getD j 0 = i)).map fun j => srt (xss.getD j [])

section
variable {w : World} {A : Around} {E : Value → Shared → Prop} {B : Shared} {s : Shared} {pmL cdL docL : Value} {Lf : Addr} {pl : Addr} {pv : List Value} {xss : List (List Nat)}

theorem law13 {Q : Flow → Shared → Prop} {c8 c6 c5 c4 c3 c2 c1 v0 v1 v3 : Option Value} {lv bl : Addr} {lvv bv : List Value} {lvs : List Nat} {Kn : List (List (List Nat))}
    (S : St B KAll (EqG B) ((lv, LstP lvv) :: lawL Lf (some (.ref lv)) c8 (some (.ref pl)) c6 c5 c4 c3 c2 c1 [v0, v1, some (.ref bl), v3]) s) (hN : Names B.heap) (hpl : B.heap.PlainList pl pv.toArray) (hpv : Paired (NatsV B.heap) xss pv) (hxl : xss.length ≤ 60) (hx60 : ∀ xs ∈ xss, xs.length ≤ 60)
    (hbl : B.heap.PlainList bl bv.toArray) (hbv : Paired (LsV NatsV B.heap) (Kn.map fun K => K.map srt) bv) (hKl : Kn.length ≤ 60) (hlv : NA lvv lvs) (hll : lvs.length = xss.length)
    (hK1 : ∀ K ∈ Kn, K.length ≤ 60 ∧ (∀ xs ∈ K.map srt, xs ≠ []) ∧ ((K.map srt).map fun xs => xs.headD 0).Nodup)
    (hR1 : ∀ i, (∀ xs ∈ rightL lvs xss i, xs ≠ []) ∧ ((rightL lvs xss i).map fun xs => xs.headD 0).Nodup)
    (hck : (Kn.map fun K => srtH (K.map srt)) = (List.range Kn.length).map fun i => srtH (rightL lvs xss i))
    (hh : A.handled = none) (hu : A.units < 8900) (h : ∀ s', St B KAll (EqG B) ((lv, LstP lvv) :: lawL Lf (some (.ref lv)) c8 (some (.ref pl)) c6 c5 c4 c3 c2 c1 [v0, v1, some (.ref bl), v3]) s' → Q (.ret (.bool true)) s') :
    wpAny (model pw w) A (exec (lawB.getD 13 (.Pass default)) (lawEnv pmL cdL docL Lf)) Q E s := by
  obtain ⟨mg, mb, hg, hb, g1, g2, g3, g4, g5, gm, b1, b2, b3, b4, b5, b6, b7, b8⟩ := hN.ex
  have hbl' : Kn.length = bv.length := by rw [← hbv.length, List.length_map]
  have hpl' := hpv.length
  have hlvl := hlv.length
  refine wpAny_Return_some (wpAny_Compare1 ?_)
  -- the left
  refine lc_loc (cl := []) rfl ?_
  refine ldl S (.tail _ (by unfold lawL; walk_at "mem")) (by walk_at "lg") ?_
  refine iter_list (s₀ := s) hh (krefl _) (PlainList.keeps hbl S.hk).isList fun itj sj Kj hzj Wj => ?_
  refine ⟨s, bv.length, _, fun _ => true, fun h i y => ∃ K, Kn[i]? = some K ∧ ∃ l vals, y = .ref l ∧ @LT.lt Nat _ (sj.heap.objs.size + 1) l ∧ h.PlainList l vals.toArray ∧ Paired (NatsV B.heap) (srtH (K.map srt)) vals, Wj, by omega, Nat.le_of_lt hzj, ⟨?_, fun _ _ _ _ _ _ _ _ => wpAny_tests_nil ⟨rfl, krefl _⟩, ?_⟩, ?_⟩
  · rintro h1 h2 i y ⟨K, hK, l, vals, e, hl, hp, hv⟩ hk
    exact ⟨K, hK, l, vals, e, hl, hp.at fun o e' => hk l o hl e', hv⟩
  · rintro i v' s₃ E' hi hv _ hX hk
    obtain ⟨a, ha, l, vals, rfl, hlv', hna⟩ := paired_get hbv hv
    rw [List.getElem?_map] at ha
    obtain ⟨K, hK, rfl⟩ := Option.map_eq_some_iff.mp ha
    obtain ⟨k1, k2, k3⟩ := hK1 K (List.mem_of_getElem? hK)
    have kB : ∀ b o, B.heap.get? b = some o → s₃.heap.get? b = some o := fun b o e => hk b o (S.hk b o e)
    have hXl : @LT.lt Nat _ (sj.heap.objs.size + 1) s₃.heap.objs.size := by obtain ⟨o, e, _⟩ := hX; exact Heap.lt_size e
    exact call1 (lblt (hg.keeps kB) (gm _ (by decide)) (hb.keeps kB) b3 (rdl hX (by walk_at "lg") ⟨trivial, sorted_lists2 (R := NatsV B.heap) (fun x v y => stays_nat.list _ _ _ _ y kB) (PlainList.keeps hlv' kB) hna (by rw [List.length_map]; omega) k2 k3 (by simp only [cLine]; omega)
      fun D s₄ out K₄ hlt hp hv => ⟨K₄, K, hK, D, out, rfl, Nat.lt_trans hXl hlt, hp, hv⟩⟩))
  · intro DL s₁ outL K₁ _ hlL hPL
    rw [List.filter_eq_self.mpr (fun _ _ => rfl)] at hPL
    have hleft : LsV (LsV NatsV) s₁.heap (Kn.map fun K => srtH (K.map srt)) (.ref DL) := by
      have h1 := paired_range (as := Kn) (R := fun K y => LsV NatsV s₁.heap (srtH (K.map srt)) y) (Mine.Paired.mono hPL fun i y ⟨K, hK, l, vals, e, _, hp, hv⟩ => ⟨K, hK, l, vals, e, hp, Mine.Paired.mono hv fun _ _ y => stays_nat.list _ _ _ _ y fun b o e => kget K₁ b o (S.hk b o e)⟩) hbl'.symm
      exact ⟨DL, outL, rfl, hlL, paired_map h1⟩
    have S₁ := S.keeps K₁
    -- the right
    refine lc_cell (cl := [(("parts" : Str), Lf + 7), (("levels" : Str), Lf + 9)]) rfl ?_
    refine call1 (lblt (hg.keeps S₁.hk) (gm _ (by decide)) (hb.keeps S₁.hk) b2 (call1 (lblt (hg.keeps S₁.hk) (gm _ (by decide)) (hb.keeps S₁.hk) b1 (ldl S₁ (.tail _ (by unfold lawL; walk_at "mem")) (by walk_at "lg") ⟨trivial, ?_⟩))))
    refine lenL (PlainList.keeps hbl S₁.hk).isList (by simp; omega) ⟨trivial, ?_⟩
    have d7 := S₁.get (a := Lf + 7) (P := CellP (some (.ref pl))) (.tail _ (by unfold lawL; walk_at "mem"))
    have d9 := S₁.get (a := Lf + 9) (P := CellP (some (.ref lv))) (.tail _ (by unfold lawL; walk_at "mem"))
    have dlv := S₁.lst (a := lv) (vs := lvv) (.head _)
    rw [show ((bv.toArray.size : Nat) : Int) = ((Kn.length : Nat) : Int) by simp [hbl']]
    refine iter_range (s₀ := s₁) hh ⟨s₁.heap, s₁.toks + 1 + 1, rfl, fun _ _ e => e⟩ (by omega) fun itk sk Kk hzk Wk => ?_
    refine ⟨s₁, _, _, fun _ => true, fun h i y => ∃ D vals, y = .ref D ∧ @LT.lt Nat _ (sk.heap.objs.size + 2) D ∧ h.PlainList D vals.toArray ∧ Paired (fun a v => NatsV h a v ∧ ∀ l, v = .ref l → @LT.lt Nat _ (sk.heap.objs.size + 2) l) (srtH (rightL lvs xss i)) vals, Wk, by omega, Nat.le_of_lt hzk, ⟨?_, fun _ _ _ _ _ _ _ _ => wpAny_tests_nil ⟨rfl, krefl _⟩, ?_⟩, ?_⟩
    · rintro h1 h2 i y ⟨D, vals, e, hl, hp, hv⟩ hk
      exact ⟨D, vals, e, hl, hp.at fun o e' => hk D o hl e', Mine.Paired.mono hv fun a v ⟨⟨l, vs, e, hp', hv'⟩, hl'⟩ => ⟨⟨l, vs, e, hp'.at fun o e' => hk l o (hl' l e) e', hv'⟩, hl'⟩⟩
    · rintro i v' s₃ E' hi ⟨ti, rfl⟩ _ hX hk
      have kB : ∀ b o, B.heap.get? b = some o → s₃.heap.get? b = some o := fun b o e => hk b o (S₁.hk b o e)
      have c7 : ∃ o, s₃.heap.get? (Lf + 7) = some o ∧ CellP (some (.ref pl)) o := let ⟨o, e, q⟩ := d7; ⟨o, hk _ _ e, q⟩
      have c9 : ∃ o, s₃.heap.get? (Lf + 9) = some o ∧ CellP (some (.ref lv)) o := let ⟨o, e, q⟩ := d9; ⟨o, hk _ _ e, q⟩
      have hl9 := PlainList.keeps dlv hk
      have hXl : @LT.lt Nat _ (sk.heap.objs.size + 2) s₃.heap.objs.size := by obtain ⟨o, e, _⟩ := hX; exact Heap.lt_size e
      refine call1 (lblt (hg.keeps kB) (gm _ (by decide)) (hb.keeps kB) b3 ?_)
      refine lc_loc (cl := [(("parts" : Str), Lf + 7), (("levels" : Str), Lf + 9), (("level" : Str), sk.heap.objs.size + 2)]) rfl ?_
      refine call1 (lblt (hg.keeps kB) (gm _ (by decide)) (hb.keeps kB) b2 (call1 (lblt (hg.keeps kB) (gm _ (by decide)) (hb.keeps kB) b1 (rdc (c := Lf + 7) rfl c7 ⟨trivial, ?_⟩))))
      refine lenL (PlainList.keeps hpl kB).isList (by simp; omega) ⟨trivial, ?_⟩
      rw [show ((pv.toArray.size : Nat) : Int) = ((xss.length : Nat) : Int) by simp [hpl']]
      refine iter_range (s₀ := s₃) hh ⟨s₃.heap, s₃.toks + 1 + 1, rfl, fun _ _ e => e⟩ (by omega) fun iti si Ki hzi Wi => ?_
      refine ⟨s₃, _, _, fun j => decide (lvs.getD j 0 = i), fun h j y => Abv (si.heap.objs.size + 1) NatsV h (srt (xss.getD j [])) y, Wi, by omega, Nat.le_of_lt hzi, ⟨?_, ?_, ?_⟩, ?_⟩
      · rintro h1 h2 j y ⟨⟨l, vs, e, hp', hv'⟩, hl'⟩ hk2
        exact ⟨⟨l, vs, e, hp'.at fun o e' => hk2 l o (hl' l e) e', hv'⟩, hl'⟩
      · rintro j v'' s₅ E'' hj ⟨tj, rfl⟩ hX' hk2
        have c9' : ∃ o, s₅.heap.get? (Lf + 9) = some o ∧ CellP (some (.ref lv)) o := let ⟨o, e, q⟩ := c9; ⟨o, hk2 _ _ e, q⟩
        have hXs : ∃ o', s₅.heap.get? (sk.heap.objs.size + 2) = some o' ∧ CellP (some (.int ((i : Nat) : Int) ti)) o' := let ⟨o, e, q⟩ := hX; ⟨o, hk2 _ _ e, q⟩
        have hl9' := PlainList.keeps hl9 hk2
        have hj2 : j < lvs.length := by omega
        refine wpAny_tests_one (wpAny_isTrue_Compare1 (sub_any (rdc (c := Lf + 9) rfl c9' (rdl hX' (by walk_at "lg") ⟨on_list hl9', ?_⟩))))
        refine item_nats hl9' hlv hj2 (by omega) fun u => (rdc (c := sk.heap.objs.size + 2) rfl hXs ?_)
        refine eq_rd enc_pI rd_nat (a := lvs[j]) (b := i) ⟨_, rfl⟩ ⟨_, rfl⟩ (by simp only [cLine]; omega) (wpAny_truthy_bool ⟨?_, krefl _⟩)
        rw [List.getD_eq_getElem?_getD, List.getElem?_eq_getElem hj2]; rfl
      · rintro j v'' s₅ E'' hj ⟨tj, rfl⟩ _ hX' hk2
        have c7' : ∃ o, s₅.heap.get? (Lf + 7) = some o ∧ CellP (some (.ref pl)) o := let ⟨o, e, q⟩ := c7; ⟨o, hk2 _ _ e, q⟩
        have k5 : ∀ b o, B.heap.get? b = some o → s₅.heap.get? b = some o := fun b o e => hk2 b o (kB b o e)
        have hXl' : @LT.lt Nat _ (si.heap.objs.size + 1) s₅.heap.objs.size := by obtain ⟨o, e, _⟩ := hX'; exact Heap.lt_size e
        obtain ⟨pj, hpj, hjv⟩ := paired_at hpv (i := j) (a := xss.getD j []) (getD_some hj)
        have hjm : xss.getD j [] ∈ xss := List.mem_of_getElem? (getD_some (d := []) hj)
        have hj60 := hx60 _ hjm
        refine call1 (lblt (hg.keeps k5) (gm _ (by decide)) (hb.keeps k5) b3 (sub_any (rdc (c := Lf + 7) rfl c7' (rdl hX' (by walk_at "lg") ⟨on_list (PlainList.keeps hpl k5), ?_⟩))))
        refine wpAny_getItem_list (PlainList.keeps hpl k5).isList (Int.natCast_nonneg j) (by omega) (by simpa using hpj) ⟨trivial, ?_⟩
        exact sorted_list (stays_nat.list _ _ _ _ hjv k5) (by omega) fun y s₆ K₆ hA => ⟨K₆, hA.1, fun l e => Nat.lt_trans hXl' (hA.2 l e)⟩
      · intro D₂ s₄ out₂ K₄ hzD hl₂ hP₂
        have hzi' : s₃.heap.objs.size < si.heap.objs.size := hzi
        have hXi : @LT.lt Nat _ (sk.heap.objs.size + 2) (si.heap.objs.size + 1) := by omega
        have h1 : Paired (fun a v => NatsV s₄.heap a v ∧ ∀ l, v = .ref l → @LT.lt Nat _ (sk.heap.objs.size + 2) l) (rightL lvs xss i) out₂ := by
          unfold rightL
          exact paired_map (R := fun a v => NatsV s₄.heap a v ∧ ∀ l, v = .ref l → @LT.lt Nat _ (sk.heap.objs.size + 2) l) (Mine.Paired.mono hP₂ fun j y ⟨q1, q2⟩ => ⟨q1, fun l e => Nat.lt_trans hXi (q2 l e)⟩)
        obtain ⟨r1, r2⟩ := hR1 i
        have hrl : (rightL lvs xss i).length ≤ 60 := by
          unfold rightL
          rw [List.length_map]
          refine Nat.le_trans (List.length_filter_le _ _) (by simpa using hxl)
        refine ⟨trivial, sorted_lists2 (fun x v y => y.1) hl₂ h1 (by omega) r1 r2 (by simp only [cLine]; omega) fun D₃ s₅ out₃ K₅ hlt hp hv => ⟨ktrans K₄ K₅, D₃, out₃, rfl, ?_, hp, Mine.Paired.mono hv fun a v ⟨q1, q2⟩ => ⟨stays_nat.list _ _ _ _ q1 (kget K₅), q2⟩⟩⟩
        have h34 : @LT.lt Nat _ (sk.heap.objs.size + 2) s₄.heap.objs.size := by
          obtain ⟨o, e, _⟩ := hX
          exact Heap.lt_size (kget K₄ _ _ e)
        exact Nat.lt_trans h34 hlt
    · intro DR s₂ outR K₂ _ hlR hPR
      rw [List.filter_eq_self.mpr (fun _ _ => rfl)] at hPR
      have hright : LsV (LsV NatsV) s₂.heap ((List.range Kn.length).map fun i => srtH (rightL lvs xss i)) (.ref DR) :=
        ⟨DR, outR, rfl, hlR, paired_map (Mine.Paired.mono hPR fun i y ⟨D, vals, e, _, hp, hv⟩ => ⟨D, vals, e, hp, Mine.Paired.mono hv fun _ _ z => z.1⟩)⟩
      refine eq_rd enc_pI.list.list.list rd_nat.list.list.list (a := Kn.map fun K => srtH (K.map srt)) (b := (List.range Kn.length).map fun i => srtH (rightL lvs xss i)) (stays_nat.list.list.list _ _ _ _ hleft (kget K₂)) hright (by simp only [cLine]; omega) ?_
      rw [decide_eq_true hck]
      exact h _ (S₁.keeps K₂)
end
end Mine
end

section
set_option Elab.async false
namespace Mine
/-! the plain law of the search: what visitS tells are the strong components, each behind all that it reaches -/
theorem Reach.trans {E : Nat → List Nat} {a b c : Nat} (x : Reach E a b) (y : Reach E b c) : Reach E a c := by
  induction y with
  | refl => exact x
  | step _ h ih => exact .step ih h
theorem Reach.edge {E : Nat → List Nat} {a b : Nat} (h : b ∈ E a) : Reach E a b := .step (.refl a) h

theorem lookI_none {l : List (Nat × Nat)} {v : Nat} : lookI l v = none ↔ v ∉ l.map (·.1) := by
  unfold lookI
  induction l with
  | nil => simp
  | cons a l ih =>
    obtain ⟨k, i⟩ := a
    rw [List.lookup_cons]
    cases e : (v == k) with
    | true => simp [eq_of_beq e]
    | false =>
      have : v ≠ k := by simpa using e
      simp [ih, this]
theorem lookI_append_old {l : List (Nat × Nat)} {v i w j : Nat} (h : lookI l v = some i) : lookI (l ++ [(w, j)]) v = some i := by
  unfold lookI at h ⊢
  induction l with
  | nil => cases h
  | cons a l ih =>
    obtain ⟨k, m⟩ := a
    rw [List.lookup_cons] at h
    rw [List.cons_append, List.lookup_cons]
    cases e : (v == k) with
    | true => rw [e] at h; exact h
    | false => rw [e] at h; exact ih h
theorem lookI_append_new {l : List (Nat × Nat)} {v j : Nat} (h : lookI l v = none) : lookI (l ++ [(v, j)]) v = some j := by
  unfold lookI at h ⊢
  induction l with
  | nil => simp
  | cons a l ih =>
    obtain ⟨k, m⟩ := a
    rw [List.lookup_cons] at h
    rw [List.cons_append, List.lookup_cons]
    cases e : (v == k) with
    | true => rw [e] at h; cases h
    | false => rw [e] at h; exact ih h
theorem lookI_append_ne {l : List (Nat × Nat)} {u v j : Nat} (h : u ≠ v) : lookI (l ++ [(v, j)]) u = lookI l u := by
  unfold lookI
  induction l with
  | nil =>
    have : (u == v) = false := by simpa using h
    simp [List.lookup, this]
  | cons a l ih =>
    obtain ⟨k, m⟩ := a
    rw [List.cons_append, List.lookup_cons, List.lookup_cons]
    cases e : (u == k) with
    | true => rfl
    | false => exact ih
theorem mem_addI {l : List Nat} {x y : Nat} : y ∈ addI l x ↔ y ∈ l ∨ y = x := by
  unfold addI
  split
  · rename_i h
    constructor
    · exact .inl
    · rintro (h' | rfl)
      · exact h'
      · exact h
  · simp
theorem mem_foldI {xs : List Nat} : ∀ {l : List Nat} {y : Nat}, y ∈ xs.foldl addI l ↔ y ∈ l ∨ y ∈ xs := by
  induction xs with
  | nil => intro l y; simp
  | cons x xs ih =>
    intro l y
    rw [List.foldl_cons, ih, mem_addI, List.mem_cons]
    constructor
    · rintro ((h | h) | h)
      · exact .inl h
      · exact .inr (.inl h)
      · exact .inr (.inr h)
    · rintro (h | h | h)
      · exact .inl (.inl h)
      · exact .inl (.inr h)
      · exact .inr h
theorem nodup_foldI {xs : List Nat} : ∀ {l : List Nat}, l.Nodup → (xs.foldl addI l).Nodup := by
  induction xs with
  | nil => intro l h; exact h
  | cons x xs ih =>
    intro l h
    rw [List.foldl_cons]
    refine ih ?_
    unfold addI
    split
    · exact h
    · rename_i hx
      rw [List.nodup_append]
      refine ⟨h, by simp, ?_⟩
      intro a ha b hb
      rw [List.mem_singleton] at hb
      subst hb
      rintro rfl
      exact hx ha

/-- the state of the search is sound; of a place a on the stack the ways P a are done -/
structure Inv (n : Nat) (E : Nat → List Nat) (σ : Sx) (P : Nat → List Nat) : Prop where
  nd : σ.stk.Nodup
  vis : ∀ v, (lookI σ.idx v).isSome = true ↔ (v ∈ σ.stk ∨ v ∈ σ.idn)
  pos : ∀ (p v : Nat), σ.stk[p]? = some v → lookI σ.idx v = some p
  disj : ∀ v ∈ σ.stk, v ∉ σ.idn
  clo : ∀ a ∈ σ.idn, ∀ c ∈ E a, c ∈ σ.idn
  bdec : σ.bnd.Pairwise (· > ·)
  blt : ∀ b ∈ σ.bnd, b < σ.stk.length
  bot : σ.stk ≠ [] → 0 ∈ σ.bnd
  conn : ∀ (p q a b : Nat), σ.stk[p]? = some a → σ.stk[q]? = some b → p ≤ q → Reach E a b
  seg : ∀ (p q a b : Nat), σ.stk[p]? = some a → σ.stk[q]? = some b → p ≤ q → (∀ x ∈ σ.bnd, ¬ (p < x ∧ x ≤ q)) → Reach E b a
  edg : ∀ (p a : Nat), σ.stk[p]? = some a → ∀ c ∈ P a, c ∈ σ.idn ∨ ∃ q : Nat, σ.stk[q]? = some c ∧ ∀ x ∈ σ.bnd, x ≤ p → x ≤ q
  knd : (σ.idx.map (·.1)).Nodup
  klt : ∀ k ∈ σ.idx.map (·.1), k < n
  ind : σ.idn.Nodup

theorem Inv.mono {n : Nat} {E : Nat → List Nat} {σ : Sx} {P P' : Nat → List Nat} (x : Inv n E σ P) (h : ∀ a ∈ σ.stk, ∀ c ∈ P' a, c ∈ P a) : Inv n E σ P' :=
  { x with edg := fun p a ha c hc => x.edg p a ha c (h a (List.mem_of_getElem? ha) c hc) }

theorem Inv.lt {n : Nat} {E : Nat → List Nat} {σ : Sx} {P : Nat → List Nat} (x : Inv n E σ P) {v : Nat} (h : v ∈ σ.stk ∨ v ∈ σ.idn) : v < n := by
  have h1 := (x.vis v).mpr h
  refine x.klt v ?_
  cases e : lookI σ.idx v with
  | none => rw [e] at h1; cases h1
  | some i =>
    by_cases hm : v ∈ σ.idx.map (·.1)
    · exact hm
    · rw [lookI_none.mpr hm] at e; cases e

theorem Inv.lens {n : Nat} {E : Nat → List Nat} {σ : Sx} {P : Nat → List Nat} (x : Inv n E σ P) : σ.idx.length ≤ n ∧ σ.stk.length ≤ n ∧ σ.bnd.length ≤ n ∧ σ.idn.length ≤ n := by
  have h1 := nodup_length_le n _ x.knd x.klt
  have h2 := nodup_length_le n _ x.nd fun v hv => x.lt (.inl hv)
  have h3 := nodup_length_le n _ x.ind fun v hv => x.lt (.inr hv)
  refine ⟨by simpa using h1, h2, ?_, h3⟩
  refine Nat.le_trans (nodup_length_le σ.stk.length _ ?_ x.blt) h2
  exact x.bdec.imp fun h => Nat.ne_of_gt h
theorem Inv.ok {n : Nat} {E : Nat → List Nat} {σ : Sx} {P : Nat → List Nat} (x : Inv n E σ P) (hn : n < 1000) : okS σ = true := by
  obtain ⟨h1, h2, h3, h4⟩ := x.lens
  unfold okS
  simp only [Bool.and_eq_true, decide_eq_true_eq]
  omega

/-- a list of parts, told in this order: each is strongly connected, closed but for what was told before -/
inductive Ord (E : Nat → List Nat) : (Nat → Prop) → List (List Nat) → Prop
  | nil {I : Nat → Prop} : Ord E I []
  | cons {I : Nat → Prop} {y : List Nat} {ys : List (List Nat)} : y ≠ [] → y.Nodup → (∀ a ∈ y, ¬ I a) → (∀ a ∈ y, ∀ b ∈ y, Reach E a b) → (∀ a ∈ y, ∀ c ∈ E a, I c ∨ c ∈ y) → Ord E (fun v => I v ∨ v ∈ y) ys → Ord E I (y :: ys)
theorem Ord.congr {E : Nat → List Nat} {I J : Nat → Prop} {ys : List (List Nat)} (x : Ord E I ys) (h : ∀ v, I v ↔ J v) : Ord E J ys := by
  have : I = J := funext fun v => propext (h v)
  exact this ▸ x
theorem Ord.append {E : Nat → List Nat} {I : Nat → Prop} {ys zs : List (List Nat)} (x : Ord E I ys) (y : Ord E (fun v => I v ∨ v ∈ ys.flatten) zs) : Ord E I (ys ++ zs) := by
  induction x with
  | nil => exact y.congr fun v => by simp
  | cons h1 h2 h3 h4 h5 _ ih =>
    refine .cons h1 h2 h3 h4 h5 (ih (y.congr fun v => ?_))
    simp only [List.flatten_cons, List.mem_append]
    constructor
    · rintro (h | h | h)
      · exact .inl (.inl h)
      · exact .inl (.inr h)
      · exact .inr h
    · rintro ((h | h) | h)
      · exact .inl h
      · exact .inr (.inl h)
      · exact .inr (.inr h)

/-- what a visit leaves -/
structure Post (n : Nat) (E : Nat → List Nat) (σ σ' : Sx) (ys : List (List Nat)) : Prop where
  pre : σ.stk <+: σ'.stk
  suf : σ'.bnd <:+ σ.bnd
  old : ∀ u, (lookI σ.idx u).isSome = true → (lookI σ'.idx u).isSome = true
  len : σ.idx.length ≤ σ'.idx.length
  idn : ∀ u, u ∈ σ'.idn ↔ u ∈ σ.idn ∨ u ∈ ys.flatten
  ord : Ord E (· ∈ σ.idn) ys
end Mine
end

section
set_option Elab.async false
namespace Mine
variable {n : Nat} {E : Nat → List Nat}

theorem get_snoc {l : List Nat} {v p a : Nat} : (l ++ [v])[p]? = some a ↔ l[p]? = some a ∨ (p = l.length ∧ a = v) := by
  by_cases h : p < l.length
  · rw [List.getElem?_append_left h]
    constructor
    · exact .inl
    · rintro (h' | ⟨h', _⟩)
      · exact h'
      · omega
  · rw [List.getElem?_append_right (by omega)]
    by_cases e : p = l.length
    · subst e
      simp
      constructor
      · intro h'; exact h'.symm
      · intro h'; exact h'.symm
    · constructor
      · intro h'
        rw [List.getElem?_eq_none (by simp only [List.length_singleton]; omega)] at h'
        cases h'
      · rintro (h' | h')
        · rw [List.getElem?_eq_none (by omega)] at h'; cases h'
        · exact absurd h'.1 e
theorem get_lt {l : List Nat} {p a : Nat} (h : l[p]? = some a) : p < l.length := (List.getElem?_eq_some_iff.mp h).1

/-- a new place is entered -/
theorem Inv.enter {σ : Sx} {P : Nat → List Nat} (x : Inv n E σ P) {v : Nat} (hv : lookI σ.idx v = none) (hvn : v < n) (hr : ∀ a ∈ σ.stk, Reach E a v) : Inv n E (enterS v σ) (fun u => if u = v then [] else P u) := by
  have hnv : v ∉ σ.stk ∧ v ∉ σ.idn := by
    refine ⟨fun h => ?_, fun h => ?_⟩
    · have := (x.vis v).mpr (.inl h); rw [hv] at this; cases this
    · have := (x.vis v).mpr (.inr h); rw [hv] at this; cases this
  refine ⟨?_, fun u => ?_, fun p u h => ?_, fun u h => ?_, x.clo, ?_, fun b hb => ?_, fun _ => ?_, fun p q a b ha hb hpq => ?_, fun p q a b ha hb hpq hx => ?_, fun p a ha c hc => ?_, ?_, fun k hk => ?_, x.ind⟩
  · show (σ.stk ++ [v]).Nodup
    rw [List.nodup_append]
    refine ⟨x.nd, by simp, ?_⟩
    intro a ha b hb
    rw [List.mem_singleton] at hb
    subst hb
    rintro rfl
    exact hnv.1 ha
  · show (lookI (σ.idx ++ [(v, σ.stk.length)]) u).isSome = true ↔ (u ∈ σ.stk ++ [v] ∨ u ∈ σ.idn)
    by_cases e : u = v
    · subst e
      rw [lookI_append_new hv]
      simp
    · rw [lookI_append_ne e, x.vis u]
      simp [e]
  · have h : (σ.stk ++ [v])[p]? = some u := h
    show lookI (σ.idx ++ [(v, σ.stk.length)]) u = some p
    rcases get_snoc.mp h with h | ⟨rfl, rfl⟩
    · exact lookI_append_old (x.pos p u h)
    · exact lookI_append_new hv
  · have h : u ∈ σ.stk ++ [v] := h
    rcases List.mem_append.mp h with h | h
    · exact x.disj u h
    · rw [List.mem_singleton.mp h]; exact hnv.2
  · show (σ.stk.length :: σ.bnd).Pairwise (· > ·)
    exact List.pairwise_cons.mpr ⟨fun b hb => x.blt b hb, x.bdec⟩
  · show b < (σ.stk ++ [v]).length
    rw [List.length_append, List.length_singleton]
    rcases List.mem_cons.mp hb with rfl | hb
    · omega
    · have := x.blt b hb; omega
  · show 0 ∈ σ.stk.length :: σ.bnd
    by_cases e : σ.stk = []
    · rw [e]; exact .head _
    · exact .tail _ (x.bot e)
  · rcases get_snoc.mp ha with ha' | ⟨e1, e2⟩
    · rcases get_snoc.mp hb with hb' | ⟨e3, e4⟩
      · exact x.conn p q a b ha' hb' hpq
      · rw [e4]; exact hr a (List.mem_of_getElem? ha')
    · rcases get_snoc.mp hb with hb' | ⟨e3, e4⟩
      · have := get_lt hb'; omega
      · rw [e2, e4]; exact .refl _
  · rcases get_snoc.mp hb with hb' | ⟨rfl, rfl⟩
    · rcases get_snoc.mp ha with ha' | ⟨e1, e2⟩
      · exact x.seg p q a b ha' hb' hpq fun y hy => hx y (.tail _ hy)
      · have := get_lt hb'; omega
    · rcases get_snoc.mp ha with ha' | ⟨rfl, rfl⟩
      · have := get_lt ha'
        exact absurd ⟨this, Nat.le_refl _⟩ (hx _ (.head _))
      · exact .refl _
  · have ha : (σ.stk ++ [v])[p]? = some a := ha
    rcases get_snoc.mp ha with ha | ⟨rfl, rfl⟩
    · have hne : a ≠ v := fun e => hnv.1 (e ▸ List.mem_of_getElem? ha)
      rw [if_neg hne] at hc
      rcases x.edg p a ha c hc with h | ⟨q, hq, h⟩
      · exact .inl h
      · refine .inr ⟨q, get_snoc.mpr (.inl hq), fun y hy hyp => ?_⟩
        rcases List.mem_cons.mp hy with rfl | hy
        · have := get_lt ha; omega
        · exact h y hy hyp
    · rw [if_pos rfl] at hc; cases hc
  · show ((σ.idx ++ [(v, σ.stk.length)]).map (·.1)).Nodup
    rw [List.map_append, List.nodup_append]
    refine ⟨x.knd, by simp, ?_⟩
    intro a ha b hb
    simp only [List.map_cons, List.map_nil, List.mem_singleton] at hb
    subst hb
    rintro rfl
    exact (lookI_none.mp hv) ha
  · have hk : k ∈ (σ.idx ++ [(v, σ.stk.length)]).map (·.1) := hk
    rw [List.map_append, List.mem_append] at hk
    rcases hk with hk | hk
    · exact x.klt k hk
    · simp only [List.map_cons, List.map_nil, List.mem_singleton] at hk
      subst hk; exact hvn

theorem popR_spec {i : Nat} : ∀ {l : List Nat}, l.Pairwise (· > ·) → 0 ∈ l → ∃ b, popR i l = some b ∧ b <:+ l ∧ (∀ x ∈ b, x ≤ i) ∧ (∀ x ∈ l, x ≤ i → x ∈ b)
  | [], _, h => nomatch h
  | x :: l, hp, h0 => by
    obtain ⟨h1, h2⟩ := List.pairwise_cons.mp hp
    unfold popR
    by_cases c : i < x
    · rw [if_pos c]
      have h0' : 0 ∈ l := by
        rcases List.mem_cons.mp h0 with h | h
        · omega
        · exact h
      obtain ⟨b, e1, e2, e3, e4⟩ := popR_spec (i := i) h2 h0'
      refine ⟨b, e1, e2.trans (List.suffix_cons _ _), e3, fun y hy hyi => ?_⟩
      rcases List.mem_cons.mp hy with rfl | hy
      · omega
      · exact e4 y hy hyi
    · rw [if_neg c]
      refine ⟨_, rfl, List.suffix_refl _, fun y hy => ?_, fun y hy _ => hy⟩
      rcases List.mem_cons.mp hy with rfl | hy
      · omega
      · have := h1 y hy; omega

/-- a way back into the stack: boundaries fall -/
theorem Inv.pop {σ : Sx} {P : Nat → List Nat} (x : Inv n E σ P) {v w i k0 : Nat} {b : List Nat} (hv : σ.stk[k0]? = some v) (htop : ∀ y ∈ σ.bnd, y ≤ k0) (hw : σ.stk[i]? = some w) (he : w ∈ E v)
    (hs : b <:+ σ.bnd) (h2 : ∀ y ∈ σ.bnd, y ≤ i → y ∈ b) (h0 : 0 ∈ b) : Inv n E { σ with bnd := b } P := by
  refine ⟨x.nd, x.vis, x.pos, x.disj, x.clo, x.bdec.sublist hs.sublist, fun y hy => x.blt y (hs.subset hy), fun _ => h0, x.conn, fun p q a c ha hc hpq hx => ?_, fun p a ha c hc => ?_, x.knd, x.klt, x.ind⟩
  · by_cases hold : ∀ y ∈ σ.bnd, ¬ (p < y ∧ y ≤ q)
    · exact x.seg p q a c ha hc hpq hold
    · -- a boundary fell between p and q
      simp only [Classical.not_forall, Classical.not_not] at hold
      obtain ⟨y, hy, hy1, hy2⟩ := hold
      have hyi : i < y := by
        by_cases c : i < y
        · exact c
        · exact absurd ⟨hy1, hy2⟩ (hx y (h2 y hy (by omega)))
      -- from q to v
      have r1 : Reach E c v := by
        by_cases hqk : q ≤ k0
        · exact x.conn q k0 c v hc hv hqk
        · refine x.seg k0 q v c hv hc (by omega) fun z hz hz' => ?_
          have := htop z hz; omega
      -- from w down to p
      have r2 : Reach E w a := by
        by_cases hip : i ≤ p
        · exact x.conn i p w a hw ha hip
        · refine x.seg p i a w ha hw (by omega) fun z hz hz' => ?_
          exact hx z (h2 z hz hz'.2) ⟨hz'.1, by omega⟩
      exact (r1.trans (.edge he)).trans r2
  · rcases x.edg p a ha c hc with h | ⟨q, hq, h⟩
    · exact .inl h
    · exact .inr ⟨q, hq, fun y hy hyp => h y (hs.subset hy) hyp⟩
/-- one more way of v is done -/
theorem Inv.done {σ : Sx} {P : Nat → List Nat} (x : Inv n E σ P) {v w k0 : Nat} {pre : List Nat} (hv : σ.stk[k0]? = some v) (hP : P v = pre) (hw : w ∈ σ.idn ∨ ∃ q : Nat, σ.stk[q]? = some w ∧ ∀ y ∈ σ.bnd, y ≤ k0 → y ≤ q) :
    Inv n E σ (fun u => if u = v then pre ++ [w] else P u) := by
  refine { x with edg := fun p a ha c hc => ?_ }
  by_cases e : a = v
  · subst e
    rw [if_pos rfl] at hc
    have hpk : p = k0 := by
      have h1 := x.pos p a ha
      have h2 := x.pos k0 a hv
      rw [h1] at h2; exact Option.some.inj h2
    subst hpk
    rcases List.mem_append.mp hc with hc | hc
    · exact x.edg p a ha c (hP ▸ hc)
    · rw [List.mem_singleton.mp hc]; exact hw
  · rw [if_neg e] at hc
    exact x.edg p a ha c hc
end Mine
end

section
set_option Elab.async false
namespace Mine
variable {n : Nat} {E : Nat → List Nat}

theorem get_take {l : List Nat} {k p a : Nat} : (l.take k)[p]? = some a ↔ p < k ∧ l[p]? = some a := by
  by_cases h : p < k
  · rw [List.getElem?_take_of_lt h]; simp [h]
  · rw [List.getElem?_eq_none (by rw [List.length_take]; omega)]
    simp [h]
theorem mem_drop_iff {l : List Nat} {k a : Nat} : a ∈ l.drop k ↔ ∃ p : Nat, k ≤ p ∧ l[p]? = some a := by
  rw [List.mem_iff_getElem?]
  constructor
  · rintro ⟨i, h⟩
    rw [List.getElem?_drop] at h
    exact ⟨k + i, by omega, h⟩
  · rintro ⟨p, h1, h2⟩
    refine ⟨p - k, ?_⟩
    rw [List.getElem?_drop, show k + (p - k) = p by omega]
    exact h2

/-- the top segment is told -/
theorem Inv.emit {σ : Sx} {P : Nat → List Nat} (x : Inv n E σ P) {k0 : Nat} {bs : List Nat} (hb : σ.bnd = k0 :: bs) (hle : k0 < σ.stk.length) (hfin : ∀ (p a : Nat), σ.stk[p]? = some a → k0 ≤ p → ∀ c ∈ E a, c ∈ P a) :
    Inv n E ⟨σ.idx, σ.stk.take k0, bs, (σ.stk.drop k0).foldl addI σ.idn⟩ P ∧
      (∀ a ∈ σ.stk.drop k0, ∀ b ∈ σ.stk.drop k0, Reach E a b) ∧ (∀ a ∈ σ.stk.drop k0, ∀ c ∈ E a, c ∈ σ.idn ∨ c ∈ σ.stk.drop k0) := by
  have hdec := x.bdec
  rw [hb] at hdec
  obtain ⟨hd1, hd2⟩ := List.pairwise_cons.mp hdec
  have hclo : ∀ a ∈ σ.stk.drop k0, ∀ c ∈ E a, c ∈ σ.idn ∨ c ∈ σ.stk.drop k0 := by
    intro a ha c hc
    obtain ⟨p, hp, hpa⟩ := mem_drop_iff.mp ha
    rcases x.edg p a hpa c (hfin p a hpa hp c hc) with h | ⟨q, hq, h⟩
    · exact .inl h
    · exact .inr (mem_drop_iff.mpr ⟨q, h k0 (by rw [hb]; exact .head _) hp, hq⟩)
  have hcon : ∀ a ∈ σ.stk.drop k0, ∀ b ∈ σ.stk.drop k0, Reach E a b := by
    intro a ha b hb'
    obtain ⟨p, hp, hpa⟩ := mem_drop_iff.mp ha
    obtain ⟨q, hq, hqb⟩ := mem_drop_iff.mp hb'
    by_cases h : p ≤ q
    · exact x.conn p q a b hpa hqb h
    · refine x.seg q p b a hqb hpa (by omega) fun y hy hy' => ?_
      rw [hb] at hy
      rcases List.mem_cons.mp hy with rfl | hy
      · omega
      · have := hd1 y hy; omega
  have hsplit : ∀ u, u ∈ σ.stk ↔ u ∈ σ.stk.take k0 ∨ u ∈ σ.stk.drop k0 := fun u => by
    rw [← List.mem_append, List.take_append_drop]
  refine ⟨⟨x.nd.sublist (List.take_sublist _ _), fun v => ?_, fun p v h => x.pos p v (get_take.mp h).2, fun v hv => ?_, fun a ha c hc => ?_, hd2, fun b hb' => ?_, fun hne => ?_, fun p q a b ha hb' hpq => x.conn p q a b (get_take.mp ha).2 (get_take.mp hb').2 hpq,
    fun p q a b ha hb' hpq hx => x.seg p q a b (get_take.mp ha).2 (get_take.mp hb').2 hpq fun y hy hy' => ?_, fun p a ha c hc => ?_, x.knd, x.klt, nodup_foldI x.ind⟩, hcon, hclo⟩
  · show (lookI σ.idx v).isSome = true ↔ (v ∈ σ.stk.take k0 ∨ v ∈ (σ.stk.drop k0).foldl addI σ.idn)
    rw [x.vis v, hsplit, mem_foldI]
    constructor
    · rintro ((h | h) | h)
      · exact .inl h
      · exact .inr (.inr h)
      · exact .inr (.inl h)
    · rintro (h | h | h)
      · exact .inl (.inl h)
      · exact .inr h
      · exact .inl (.inr h)
  · have hv : v ∈ σ.stk.take k0 := hv
    intro h
    have h : v ∈ (σ.stk.drop k0).foldl addI σ.idn := h
    rcases mem_foldI.mp h with h | h
    · exact x.disj v ((hsplit v).mpr (.inl hv)) h
    · obtain ⟨p, hp, hpv⟩ := mem_drop_iff.mp h
      obtain ⟨q, hq⟩ := List.mem_iff_getElem?.mp hv
      obtain ⟨hq1, hq2⟩ := get_take.mp hq
      have h1 := x.pos p v hpv
      have h2 := x.pos q v hq2
      rw [h1] at h2
      have := Option.some.inj h2
      omega
  · have ha : a ∈ (σ.stk.drop k0).foldl addI σ.idn := ha
    show c ∈ (σ.stk.drop k0).foldl addI σ.idn
    rw [mem_foldI] at ha ⊢
    rcases ha with ha | ha
    · exact .inl (x.clo a ha c hc)
    · exact hclo a ha c hc
  · show b < (σ.stk.take k0).length
    have := hd1 b hb'
    rw [List.length_take]; omega
  · have h0 := x.bot (fun e => by rw [e] at hle; simp at hle)
    rw [hb] at h0
    rcases List.mem_cons.mp h0 with h | h
    · exfalso
      refine hne ?_
      show σ.stk.take k0 = []
      rw [← h]; rfl
    · exact h
  · rw [hb] at hy
    rcases List.mem_cons.mp hy with rfl | hy
    · have := (get_take.mp hb').1; omega
    · exact hx y hy hy'
  · obtain ⟨hp, ha⟩ := get_take.mp ha
    show c ∈ (σ.stk.drop k0).foldl addI σ.idn ∨ ∃ q : Nat, (σ.stk.take k0)[q]? = some c ∧ ∀ y ∈ bs, y ≤ p → y ≤ q
    rw [mem_foldI]
    rcases x.edg p a ha c hc with h | ⟨q, hq, h⟩
    · exact .inl (.inl h)
    · by_cases hqk : q < k0
      · exact .inr ⟨q, get_take.mpr ⟨hqk, hq⟩, fun y hy hyp => h y (by rw [hb]; exact .tail _ hy) hyp⟩
      · exact .inl (.inr (mem_drop_iff.mpr ⟨q, by omega, hq⟩))

theorem Post.trans {σ σ1 σ2 : Sx} {ys zs : List (List Nat)} (x : Post n E σ σ1 ys) (y : Post n E σ1 σ2 zs) : Post n E σ σ2 (ys ++ zs) := by
  refine ⟨x.pre.trans y.pre, y.suf.trans x.suf, fun u h => y.old u (x.old u h), Nat.le_trans x.len y.len, fun u => ?_, x.ord.append (y.ord.congr fun v => x.idn v)⟩
  rw [y.idn, x.idn, List.flatten_append, List.mem_append, or_assoc]
theorem Post.refl (σ : Sx) : Post n E σ σ [] := ⟨List.prefix_refl _, List.suffix_refl _, fun _ h => h, Nat.le_refl _, fun u => by simp, .nil⟩

theorem get_prefix {l m : List Nat} (h : l <+: m) {p a : Nat} (e : l[p]? = some a) : m[p]? = some a := by
  obtain ⟨t, rfl⟩ := h
  rw [List.getElem?_append_left (get_lt e)]; exact e

def VisitOk (n : Nat) (E : Nat → List Nat) (f : Nat) : Prop := ∀ (σ : Sx) (P : Nat → List Nat) (v : Nat), Inv n E σ P → lookI σ.idx v = none → v < n → (∀ a ∈ σ.stk, Reach E a v) → n ≤ f + σ.idx.length →
  ∃ ys σ', visitS n E f v σ = some (ys, σ') ∧ Inv n E σ' (fun u => if lookI σ.idx u = none then E u else P u) ∧ Post n E σ σ' ys ∧ (lookI σ'.idx v).isSome = true

theorem loop_spec (hE : ∀ v < n, ∀ c ∈ E v, c < n) {f : Nat} (ih : VisitOk n E f) : ∀ (ws pre : List Nat) (σ : Sx) (P : Nat → List Nat) (v k0 : Nat), Inv n E σ P → σ.stk[k0]? = some v → (∀ y ∈ σ.bnd, y ≤ k0) → P v = pre → E v = pre ++ ws → n ≤ f + σ.idx.length → v < n →
    ∃ ys σ', loopS (visitS n E f) ws σ = some (ys, σ') ∧ Inv n E σ' (fun u => if lookI σ.idx u = none then E u else if u = v then E v else P u) ∧ Post n E σ σ' ys := by
  intro ws
  induction ws with
  | nil =>
    intro pre σ P v k0 x hv _ hP hE' _ _
    refine ⟨[], σ, rfl, x.mono fun a ha c hc => ?_, .refl σ⟩
    have hs := (x.vis a).mpr (.inl ha)
    rw [if_neg (fun e => by rw [e] at hs; cases hs)] at hc
    by_cases e : a = v
    · subst e
      rw [if_pos rfl, hE', List.append_nil] at hc
      exact hP ▸ hc
    · rw [if_neg e] at hc; exact hc
  | cons w ws ihw =>
    intro pre σ P v k0 x hv htop hP hE' hf hvn
    have hwE : w ∈ E v := by rw [hE']; simp
    have hvs : (lookI σ.idx v).isSome = true := (x.vis v).mpr (.inl (List.mem_of_getElem? hv))
    have hEv : E v = (pre ++ [w]) ++ ws := by rw [hE']; simp
    -- the rest, from a state in which the way to w is done
    have rest : ∀ (σ1 : Sx) (P1 : Nat → List Nat) (y1 : List (List Nat)), Inv n E σ1 P1 → Post n E σ σ1 y1 → (∀ u, (u ≠ v → lookI σ.idx u = none → (lookI σ1.idx u).isSome = true → P1 u = E u) ∧ (u ≠ v → lookI σ.idx u ≠ none → P1 u = P u) ∧ (u = v → P1 u = pre)) →
        (w ∈ σ1.idn ∨ ∃ q : Nat, σ1.stk[q]? = some w ∧ ∀ y ∈ σ1.bnd, y ≤ k0 → y ≤ q) →
        ∃ ys σ', loopS (visitS n E f) ws σ1 = some (ys, σ') ∧ Inv n E σ' (fun u => if lookI σ.idx u = none then E u else if u = v then E v else P u) ∧ Post n E σ σ' (y1 ++ ys) := by
      intro σ1 P1 y1 x1 po hP1 hw
      have hv1 := get_prefix po.pre hv
      obtain ⟨ys, σ', h1, h2, h3⟩ := ihw (pre ++ [w]) σ1 _ v k0 (x1.done hv1 ((hP1 v).2.2 rfl) hw) hv1 (fun y hy => htop y (po.suf.subset hy)) (if_pos rfl) hEv (by have := po.len; omega) hvn
      refine ⟨ys, σ', h1, h2.mono fun a ha c hc => ?_, po.trans h3⟩
      by_cases ea : a = v
      · subst ea
        rw [if_neg (fun e => by rw [e] at hvs; cases hvs), if_pos rfl] at hc
        have := po.old a hvs
        rw [if_neg (fun e => by rw [e] at this; cases this), if_pos rfl]
        exact hc
      · by_cases e0 : lookI σ.idx a = none
        · rw [if_pos e0] at hc
          by_cases e1 : lookI σ1.idx a = none
          · rw [if_pos e1]; exact hc
          · rw [if_neg e1, if_neg ea, if_neg ea, (hP1 a).1 ea e0 (Option.isSome_iff_ne_none.mpr e1)]
            exact hc
        · rw [if_neg e0, if_neg ea] at hc
          have := po.old a (Option.isSome_iff_ne_none.mpr e0)
          rw [if_neg (fun e => by rw [e] at this; cases this), if_neg ea, if_neg ea, (hP1 a).2.1 ea e0]
          exact hc
    have hPsame : ∀ u, (u ≠ v → lookI σ.idx u = none → (lookI σ.idx u).isSome = true → P u = E u) ∧ (u ≠ v → lookI σ.idx u ≠ none → P u = P u) ∧ (u = v → P u = pre) := fun u =>
      ⟨fun _ e1 e2 => (by rw [e1] at e2; cases e2), fun _ _ => rfl, fun e => e ▸ hP⟩
    unfold loopS
    cases hi : lookI σ.idx w with
    | none =>
      simp only
      obtain ⟨y1, σ1, h1, h2, h3, h4⟩ := ih σ P w x hi (hE v hvn w hwE) (fun a ha => by
        obtain ⟨p, hp⟩ := List.mem_iff_getElem?.mp ha
        refine Reach.trans ?_ (.edge hwE)
        by_cases hpk : p ≤ k0
        · exact x.conn p k0 a v hp hv hpk
        · refine x.seg k0 p v a hv hp (by omega) fun y hy hy' => ?_
          have := htop y hy; omega) hf
      rw [h1]
      simp only
      have hw1 : w ∈ σ1.idn ∨ ∃ q : Nat, σ1.stk[q]? = some w ∧ ∀ y ∈ σ1.bnd, y ≤ k0 → y ≤ q := by
        rcases (h2.vis w).mp h4 with h | h
        · obtain ⟨q, hq⟩ := List.mem_iff_getElem?.mp h
          refine .inr ⟨q, hq, fun y _ hyk => ?_⟩
          by_cases hql : q < σ.stk.length
          · have e : σ.stk[q]? = some w := by
              obtain ⟨t, ht⟩ := h3.pre
              rw [← ht, List.getElem?_append_left hql] at hq
              exact hq
            have := (x.vis w).mpr (.inl (List.mem_of_getElem? e))
            rw [hi] at this; cases this
          · have := get_lt hv; omega
        · exact .inl h
      have hPv : (if lookI σ.idx v = none then E v else P v) = pre := by
        rw [if_neg (fun e => by rw [e] at hvs; cases hvs)]
        exact hP
      obtain ⟨ys, σ', r1, r2, r3⟩ := rest σ1 _ y1 h2 h3 (fun u => ⟨fun _ e0 _ => if_pos e0, fun _ e0 => if_neg e0, fun e => e ▸ hPv⟩) hw1
      rw [r1]
      exact ⟨_, _, rfl, r2, r3⟩
    | some i =>
      simp only
      by_cases hwi : w ∈ σ.idn
      · rw [if_pos hwi]
        obtain ⟨ys, σ', r1, r2, r3⟩ := rest σ P [] x (.refl σ) hPsame (.inl hwi)
        exact ⟨ys, σ', r1, r2, r3⟩
      · rw [if_neg hwi]
        have hws : σ.stk[i]? = some w := by
          rcases (x.vis w).mp (by rw [hi]; rfl) with h | h
          · obtain ⟨q, hq⟩ := List.mem_iff_getElem?.mp h
            have := x.pos q w hq
            rw [hi] at this
            rw [Option.some.inj this]; exact hq
          · exact absurd h hwi
        have h0 := x.bot (fun e => by rw [e] at hv; cases hv)
        obtain ⟨b, e1, e2, e3, e4⟩ := popR_spec (i := i) x.bdec h0
        rw [e1]
        simp only
        have x1 := x.pop hv htop hws hwE e2 e4 (e4 0 h0 (Nat.zero_le _))
        have po : Post n E σ { σ with bnd := b } [] := ⟨List.prefix_refl _, e2, fun _ h => h, Nat.le_refl _, fun u => by simp, .nil⟩
        obtain ⟨ys, σ', r1, r2, r3⟩ := rest { σ with bnd := b } P [] x1 po hPsame (.inr ⟨i, hws, fun y hy _ => e3 y hy⟩)
        exact ⟨ys, σ', r1, r2, r3⟩
end Mine
end

section
set_option Elab.async false
namespace Mine
variable {n : Nat} {E : Nat → List Nat}

theorem suffix_cons_head {b : Nat} {bs cs : List Nat} (h : b :: bs <:+ b :: cs) (hd : ∀ x ∈ cs, x < b) : bs = cs := by
  rcases List.suffix_cons_iff.mp h with e | e
  · exact (List.cons.inj e).2
  · have := hd b (e.subset (.head _)); omega
theorem suffix_cons_ne {a b : Nat} {bs cs : List Nat} (h : b :: bs <:+ a :: cs) (hne : b ≠ a) : b :: bs <:+ cs := by
  rcases List.suffix_cons_iff.mp h with e | e
  · exact absurd (List.cons.inj e).1 hne
  · exact e

theorem visit_spec (hE : ∀ v < n, ∀ c ∈ E v, c < n) (hn : n < 1000) : ∀ f, VisitOk n E f := by
  intro f
  induction f with
  | zero =>
    intro σ P v x hv hvn _ hf
    exfalso
    have h1 := nodup_length_le n (v :: σ.idx.map (·.1)) (List.nodup_cons.mpr ⟨lookI_none.mp hv, x.knd⟩) (fun k hk => by
      rcases List.mem_cons.mp hk with rfl | hk
      · exact hvn
      · exact x.klt k hk)
    simp at h1
    omega
  | succ f ih =>
    intro σ P v x hv hvn hr hf
    have x0 := x.enter hv hvn hr
    have hg0 : (enterS v σ).stk[σ.stk.length]? = some v := by
      show (σ.stk ++ [v])[σ.stk.length]? = some v
      exact get_snoc.mpr (.inr ⟨rfl, rfl⟩)
    have hl0 : (enterS v σ).idx.length = σ.idx.length + 1 := by simp [enterS]
    obtain ⟨y1, σ1, h1, h2, h3⟩ := loop_spec hE ih (E v) [] (enterS v σ) _ v σ.stk.length x0 hg0 (fun y hy => by
      rcases List.mem_cons.mp hy with rfl | hy
      · exact Nat.le_refl _
      · exact Nat.le_of_lt (x.blt y hy)) (if_pos rfl) rfl (by omega) hvn
    have hvis0 : ∀ u, u ≠ v → lookI (enterS v σ).idx u = lookI σ.idx u := fun u hu => lookI_append_ne hu
    have hvv : (lookI (enterS v σ).idx v).isSome = true := by
      show (lookI (σ.idx ++ [(v, σ.stk.length)]) v).isSome = true
      rw [lookI_append_new hv]; rfl
    have hg1 := get_prefix h3.pre hg0
    have hpre : σ.stk <+: σ1.stk := (List.prefix_append _ _).trans h3.pre
    have hsuf : σ1.bnd <:+ σ.stk.length :: σ.bnd := h3.suf
    have hlk : lookI σ1.idx v = some σ.stk.length := h2.pos _ _ hg1
    have hlen1 := get_lt hg1
    have hne1 : σ1.bnd ≠ [] := fun e => by
      have := h2.bot (fun e => by rw [e] at hlen1; simp at hlen1)
      rw [e] at this; cases this
    -- what is done of the ways, said as it is wanted
    have hPeq : ∀ a ∈ σ1.stk, ∀ c ∈ (if lookI σ.idx a = none then E a else P a), c ∈ (if lookI (enterS v σ).idx a = none then E a else if a = v then E v else if a = v then [] else P a) := by
      intro a _ c hc
      by_cases ea : a = v
      · subst ea
        rw [if_pos hv] at hc
        rw [if_neg (fun e => by rw [e] at hvv; cases hvv), if_pos rfl]
        exact hc
      · rw [hvis0 a ea]
        by_cases e0 : lookI σ.idx a = none
        · rw [if_pos e0] at hc ⊢; exact hc
        · rw [if_neg e0] at hc ⊢
          rw [if_neg ea, if_neg ea]; exact hc
    have x1 := h2.mono hPeq
    have hnew : ∀ (p a : Nat), σ1.stk[p]? = some a → σ.stk.length ≤ p → lookI σ.idx a = none := by
      intro p a hpa hp
      cases e : lookI σ.idx a with
      | none => rfl
      | some i =>
        exfalso
        rcases (x.vis a).mp (by rw [e]; rfl) with h | h
        · obtain ⟨q, hq⟩ := List.mem_iff_getElem?.mp h
          have q1 := h2.pos q a (get_prefix hpre hq)
          have q2 := h2.pos p a hpa
          rw [q1] at q2
          have := Option.some.inj q2
          have := get_lt hq
          omega
        · exact h2.disj a (List.mem_of_getElem? hpa) ((h3.idn a).mpr (.inl h))
    have hold : ∀ u, (lookI σ.idx u).isSome = true → (lookI σ1.idx u).isSome = true := fun u hu => h3.old u (by
      by_cases e : u = v
      · subst e; exact hvv
      · rw [hvis0 u e]; exact hu)
    have run : ∀ y2 σ2, exitS v σ1 = some (y2, σ2) → visitS n E (f + 1) v σ = some (y1 ++ y2, σ2) := by
      intro y2 σ2 he
      unfold visitS
      rw [if_pos (by rw [x.ok hn, hv]; simpa using hvn), h1]
      simp only
      rw [if_pos (h2.ok hn), he]
    cases hb : σ1.bnd with
    | nil => exact absurd hb hne1
    | cons b bs =>
      by_cases hbk : b = σ.stk.length
      · subst hbk
        have hbs : bs = σ.bnd := suffix_cons_head (hb ▸ hsuf) x.blt
        obtain ⟨z1, z2, z3⟩ := x1.emit hb hlen1 (fun p a hpa hp c hc => by rw [if_pos (hnew p a hpa hp)]; exact hc)
        have htake : σ1.stk.take σ.stk.length = σ.stk := by
          obtain ⟨t, ht⟩ := hpre
          rw [← ht, List.take_left]
        have hex : exitS v σ1 = some ([σ1.stk.drop σ.stk.length], ⟨σ1.idx, σ1.stk.take σ.stk.length, bs, (σ1.stk.drop σ.stk.length).foldl addI σ1.idn⟩) := by
          unfold exitS
          rw [hb, hlk]
          simp only
          rw [if_pos trivial, if_pos (Nat.le_of_lt hlen1)]
        refine ⟨_, _, run _ _ hex, z1, ⟨?_, ?_, hold, by have := h3.len; show σ.idx.length ≤ σ1.idx.length; omega, fun u => ?_, ?_⟩, ?_⟩
        · show σ.stk <+: σ1.stk.take σ.stk.length
          rw [htake]; exact List.prefix_refl _
        · show bs <:+ σ.bnd
          rw [hbs]; exact List.suffix_refl _
        · show u ∈ (σ1.stk.drop σ.stk.length).foldl addI σ1.idn ↔ _
          rw [mem_foldI, h3.idn, List.flatten_append, List.mem_append, or_assoc]
          simp [enterS]
        · refine h3.ord.append (.cons ?_ (h2.nd.sublist (List.drop_sublist _ _)) (fun a ha h => ?_) z2 (fun a ha c hc => ?_) .nil)
          · intro e
            have := mem_drop_iff.mpr ⟨_, Nat.le_refl _, hg1⟩
            rw [e] at this; cases this
          · refine h2.disj a (List.mem_of_mem_drop ha) ((h3.idn a).mpr h)
          · rcases z3 a ha c hc with h | h
            · exact .inl ((h3.idn c).mp h)
            · exact .inr h
        · show (lookI σ1.idx v).isSome = true
          rw [hlk]; rfl
      · have hex : exitS v σ1 = some ([], σ1) := by
          unfold exitS
          rw [hb, hlk]
          simp only
          rw [if_neg hbk]
        have hs : σ1.bnd <:+ σ.bnd := by rw [hb]; exact suffix_cons_ne (hb ▸ hsuf) hbk
        refine ⟨_, _, run _ _ hex, x1, ⟨hpre, hs, hold, by have := h3.len; omega, fun u => ?_, ?_⟩, by rw [hlk]; rfl⟩
        · rw [List.append_nil]; exact h3.idn u
        · rw [List.append_nil]; exact h3.ord

theorem outer_spec (hE : ∀ v < n, ∀ c ∈ E v, c < n) (hn : n < 1000) {f : Nat} (hf : n ≤ f) : ∀ (ws : List Nat) (σ : Sx) (P : Nat → List Nat), Inv n E σ P → σ.stk = [] → (∀ w ∈ ws, w < n) →
    ∃ ys σ', outerS (visitS n E f) ws σ = some (ys, σ') ∧ (∃ P', Inv n E σ' P') ∧ Post n E σ σ' ys ∧ σ'.stk = [] ∧ ∀ w ∈ ws, w ∈ σ'.idn := by
  intro ws
  induction ws with
  | nil => intro σ P x hs _; exact ⟨[], σ, rfl, ⟨P, x⟩, .refl σ, hs, fun w hw => (nomatch hw)⟩
  | cons w ws ih =>
    intro σ P x hs hw
    unfold outerS
    cases hi : lookI σ.idx w with
    | some i =>
      obtain ⟨ys, σ', h1, h2, h3, h4, h5⟩ := ih σ P x hs fun u hu => hw u (.tail _ hu)
      refine ⟨ys, σ', h1, h2, h3, h4, fun u hu => ?_⟩
      rcases List.mem_cons.mp hu with rfl | hu
      · rcases (x.vis u).mp (by rw [hi]; rfl) with h | h
        · rw [hs] at h; cases h
        · exact (h3.idn u).mpr (.inl h)
      · exact h5 u hu
    | none =>
      obtain ⟨y1, σ1, h1, h2, h3, h4⟩ := visit_spec hE hn f σ P w x hi (hw w (.head _)) (fun a ha => by rw [hs] at ha; cases ha) (by omega)
      have hb0 : σ.bnd = [] := by
        cases e : σ.bnd with
        | nil => rfl
        | cons b bs =>
          have := x.blt b (by rw [e]; exact .head _)
          rw [hs] at this; cases this
      have hs1 : σ1.stk = [] := by
        cases e : σ1.stk with
        | nil => rfl
        | cons a as =>
          have h0 := h2.bot (by rw [e]; simp)
          have := h3.suf.subset h0
          rw [hb0] at this; cases this
      obtain ⟨ys, σ', r1, r2, r3, r4, r5⟩ := ih σ1 _ h2 hs1 fun u hu => hw u (.tail _ hu)
      simp only
      rw [h1]
      simp only
      rw [r1]
      refine ⟨_, _, rfl, r2, h3.trans r3, r4, fun u hu => ?_⟩
      rcases List.mem_cons.mp hu with rfl | hu
      · rcases (h2.vis u).mp h4 with h | h
        · rw [hs1] at h; cases h
        · exact (r3.idn u).mpr (.inl h)
      · exact r5 u hu

/-- the whole search -/
theorem search_spec (hE : ∀ v < n, ∀ c ∈ E v, c < n) (hn : n < 1000) {f : Nat} (hf : n ≤ f) {ord : List Nat} (h1 : ∀ w ∈ ord, w < n) (h2 : ∀ w < n, w ∈ ord) :
    ∃ ys σ', outerS (visitS n E f) ord ⟨[], [], [], []⟩ = some (ys, σ') ∧ Ord E (fun _ => False) ys ∧ ∀ w, w ∈ ys.flatten ↔ w < n := by
  have x : Inv n E ⟨[], [], [], []⟩ (fun _ => []) := by
    refine ⟨.nil, fun v => ?_, fun p v h => ?_, fun v h => (nomatch h), fun a h => (nomatch h), .nil, fun b h => (nomatch h), fun h => absurd rfl h, fun p q a b h => ?_, fun p q a b h => ?_, fun p a h => ?_, .nil, fun k h => (nomatch h), .nil⟩
    · simp [lookI]
    · simp at h
    · simp at h
    · simp at h
    · simp at h
  obtain ⟨ys, σ', r1, ⟨P', r2⟩, r3, r4, r5⟩ := outer_spec hE hn hf ord _ _ x rfl h1
  refine ⟨ys, σ', r1, r3.ord.congr fun v => by simp, fun w => ?_⟩
  have := r3.idn w
  simp only [List.not_mem_nil, false_or] at this
  rw [← this]
  exact ⟨fun h => r2.lt (.inr h), fun h => r5 w (h2 w h)⟩
end Mine
end

section
set_option Elab.async false
set_option maxRecDepth 100000
namespace Mine

theorem len_sub {α : Type} : ∀ {l m : List α}, l.Nodup → (∀ x ∈ l, x ∈ m) → l.length ≤ m.length
  | [], m, _, _ => Nat.zero_le _
  | a :: l, m, h, hs => by
    obtain ⟨s, t, rfl⟩ := List.append_of_mem (hs a (.head _))
    obtain ⟨h1, h2⟩ := List.nodup_cons.mp h
    have := len_sub (m := s ++ t) h2 fun x hx => by
      have := hs x (.tail _ hx)
      simp only [List.mem_append, List.mem_cons] at this ⊢
      rcases this with q | rfl | q
      · exact .inl q
      · exact absurd hx h1
      · exact .inr q
    simp only [List.length_cons, List.length_append] at this ⊢
    omega
theorem take_get {α : Type} {l : List α} {k p : Nat} {a : α} : (l.take k)[p]? = some a ↔ p < k ∧ l[p]? = some a := by
  rw [List.getElem?_take]
  split
  · simp_all
  · simp_all; omega
theorem perm_of_mem {α : Type} [DecidableEq α] {l m : List α} (h1 : l.Nodup) (h2 : m.Nodup) (h : ∀ x, x ∈ l ↔ x ∈ m) : l.Perm m :=
  (List.perm_ext_iff_of_nodup h1 h2).mpr h

/-- the parts, as the search told them -/
structure Scc (E : Nat → List Nat) (n : Nat) (ys : List (List Nat)) : Prop where
  nd : ys.flatten.Nodup
  ne : ∀ xs ∈ ys, xs ≠ []
  all : ∀ w, w ∈ ys.flatten ↔ w < n
  mutu : ∀ xs ∈ ys, ∀ a ∈ xs, ∀ b ∈ xs, Reach E a b
  back : ∀ (i : Nat) xs, ys[i]? = some xs → ∀ a ∈ xs, ∀ c ∈ E a, c ∈ xs ∨ ∃ zs ∈ ys.take i, c ∈ zs

theorem ord_scc {E : Nat → List Nat} {I : Nat → Prop} {ys : List (List Nat)} (x : Ord E I ys) :
    ys.flatten.Nodup ∧ (∀ a ∈ ys.flatten, ¬ I a) ∧ (∀ xs ∈ ys, xs ≠ []) ∧ (∀ xs ∈ ys, ∀ a ∈ xs, ∀ b ∈ xs, Reach E a b) ∧
    ∀ (i : Nat) xs, ys[i]? = some xs → ∀ a ∈ xs, ∀ c ∈ E a, I c ∨ c ∈ xs ∨ ∃ zs ∈ ys.take i, c ∈ zs := by
  induction x with
  | nil => exact ⟨.nil, fun a h => (nomatch h), fun a h => (nomatch h), fun a h => (nomatch h), fun i xs h => by simp at h⟩
  | @cons I y ys h1 h2 h3 h4 h5 _ ih =>
    obtain ⟨a1, a2, a3, a4, a5⟩ := ih
    refine ⟨?_, ?_, ?_, ?_, ?_⟩
    · rw [List.flatten_cons, List.nodup_append]
      exact ⟨h2, a1, fun a ha b hb e => a2 b hb (.inr (e ▸ ha))⟩
    · intro a ha
      rw [List.flatten_cons, List.mem_append] at ha
      rcases ha with ha | ha
      · exact h3 a ha
      · exact fun h => a2 a ha (.inl h)
    · intro xs hx
      rcases List.mem_cons.mp hx with rfl | hx
      · exact h1
      · exact a3 xs hx
    · intro xs hx
      rcases List.mem_cons.mp hx with rfl | hx
      · exact h4
      · exact a4 xs hx
    · intro i xs hi a ha c hc
      cases i with
      | zero =>
        simp only [List.getElem?_cons_zero, Option.some.injEq] at hi
        subst hi
        rcases h5 a ha c hc with h | h
        · exact .inl h
        · exact .inr (.inl h)
      | succ i =>
        simp only [List.getElem?_cons_succ] at hi
        rcases a5 i xs hi a ha c hc with (h | h) | h | ⟨zs, hz, h⟩
        · exact .inl h
        · exact .inr (.inr ⟨y, by simp, h⟩)
        · exact .inr (.inl h)
        · exact .inr (.inr ⟨zs, by simp [hz], h⟩)

theorem scc_of {E : Nat → List Nat} {n : Nat} {ys : List (List Nat)} (x : Ord E (fun _ => False) ys) (h : ∀ w, w ∈ ys.flatten ↔ w < n) : Scc E n ys := by
  obtain ⟨a1, _, a3, a4, a5⟩ := ord_scc x
  exact ⟨a1, a3, h, a4, fun i xs hi a ha c hc => (a5 i xs hi a ha c hc).resolve_left id⟩

/-- one place stands in one part -/
theorem flat_inj {α : Type} : ∀ {ys : List (List α)}, ys.flatten.Nodup → ∀ {i j : Nat} {xs zs : List α} {a : α}, ys[i]? = some xs → ys[j]? = some zs → a ∈ xs → a ∈ zs → i = j
  | [], _, i, j, xs, zs, a, hi, _, _, _ => by simp at hi
  | y :: ys, h, i, j, xs, zs, a, hi, hj, ha, hb => by
    rw [List.flatten_cons, List.nodup_append] at h
    obtain ⟨_, h2, h3⟩ := h
    cases i with
    | zero =>
      cases j with
      | zero => rfl
      | succ j =>
        simp only [List.getElem?_cons_zero, Option.some.injEq] at hi
        simp only [List.getElem?_cons_succ] at hj
        subst hi
        exact absurd rfl (h3 a ha a (List.mem_flatten.mpr ⟨zs, List.mem_of_getElem? hj, hb⟩))
    | succ i =>
      cases j with
      | zero =>
        simp only [List.getElem?_cons_zero, Option.some.injEq] at hj
        simp only [List.getElem?_cons_succ] at hi
        subst hj
        exact absurd rfl (h3 a hb a (List.mem_flatten.mpr ⟨xs, List.mem_of_getElem? hi, ha⟩))
      | succ j =>
        simp only [List.getElem?_cons_succ] at hi hj
        rw [flat_inj h2 hi hj ha hb]

/-- the part in which v stands -/
def ptOf (ys : List (List Nat)) (v : Nat) : List Nat := (ys.find? fun xs => decide (v ∈ xs)).getD []

section
variable {E : Nat → List Nat} {n : Nat} {ys : List (List Nat)} (S : Scc E n ys)
include S
theorem Scc.nodup : ys.Nodup := nodup_parts S.nd S.ne
theorem Scc.len : ys.length ≤ n := by
  refine Nat.le_trans (parts_length S.ne) ?_
  have := len_sub (m := List.range n) S.nd fun x hx => List.mem_range.mpr ((S.all x).mp hx)
  simpa using this
theorem Scc.lt {xs : List Nat} (h : xs ∈ ys) {a : Nat} (ha : a ∈ xs) : a < n := (S.all a).mp (List.mem_flatten.mpr ⟨xs, h, ha⟩)
theorem Scc.xlen {xs : List Nat} (h : xs ∈ ys) : xs.length ≤ n := by
  have := len_sub (m := List.range n) (S.nd.sublist (sub_flatten h)) fun x hx => List.mem_range.mpr (S.lt h hx)
  simpa using this
theorem Scc.at {a : Nat} (h : a < n) : ∃ (i : Nat) (xs : List Nat), ys[i]? = some xs ∧ a ∈ xs := by
  obtain ⟨xs, h1, h2⟩ := List.mem_flatten.mp ((S.all a).mpr h)
  obtain ⟨i, hi⟩ := List.mem_iff_getElem?.mp h1
  exact ⟨i, xs, hi, h2⟩
theorem Scc.idx {i j : Nat} {xs zs : List Nat} {a : Nat} (hi : ys[i]? = some xs) (hj : ys[j]? = some zs) (ha : a ∈ xs) (hb : a ∈ zs) : i = j := flat_inj S.nd hi hj ha hb
theorem Scc.uniq {xs zs : List Nat} {a : Nat} (hx : xs ∈ ys) (hz : zs ∈ ys) (ha : a ∈ xs) (hb : a ∈ zs) : xs = zs := by
  obtain ⟨i, hi⟩ := List.mem_iff_getElem?.mp hx
  obtain ⟨j, hj⟩ := List.mem_iff_getElem?.mp hz
  have := S.idx hi hj ha hb
  subst this
  rw [hi] at hj
  exact Option.some.inj hj
theorem Scc.pt {xs : List Nat} (hx : xs ∈ ys) {a : Nat} (ha : a ∈ xs) : ptOf ys a = xs := by
  unfold ptOf
  cases e : ys.find? fun xs => decide (a ∈ xs) with
  | none =>
    have := List.find?_eq_none.mp e xs hx
    simp [ha] at this
  | some zs =>
    have h1 := List.find?_some e
    have h2 := List.mem_of_find?_eq_some e
    exact S.uniq h2 hx (by simpa using h1) ha
omit S in
theorem Scc.pt_mem (v : Nat) : ptOf ys v ∈ ys ++ [[]] := by
  unfold ptOf
  cases e : ys.find? fun xs => decide (v ∈ xs) with
  | none => simp
  | some zs => exact List.mem_append_left _ (List.mem_of_find?_eq_some e)

/-- what is reached stands in no later part -/
theorem Scc.reach {a b : Nat} (r : Reach E a b) : ∀ {i : Nat} {xs : List Nat}, ys[i]? = some xs → a ∈ xs → ∃ j zs, j ≤ i ∧ ys[j]? = some zs ∧ b ∈ zs := by
  induction r with
  | refl => intro i xs hi ha; exact ⟨i, xs, Nat.le_refl _, hi, ha⟩
  | step _ hc ih =>
    intro i xs hi ha
    obtain ⟨j, zs, h1, h2, h3⟩ := ih hi ha
    rcases S.back j zs h2 _ h3 _ hc with h | ⟨us, hu, h⟩
    · exact ⟨j, zs, h1, h2, h⟩
    · obtain ⟨k, hk⟩ := List.mem_iff_getElem?.mp hu
      obtain ⟨hk1, hk2⟩ := take_get.mp hk
      exact ⟨k, us, by omega, hk2, h⟩
omit S in
/-- the first way out of a part -/
theorem Scc.exit {a b : Nat} (r : Reach E a b) {xs : List Nat} (ha : a ∈ xs) : b ∉ xs → ∃ v ∈ xs, ∃ x ∈ E v, x ∉ xs ∧ Reach E x b := by
  induction r with
  | refl => exact fun h => absurd ha h
  | @step b c r hc ih =>
    intro h
    by_cases hb : b ∈ xs
    · exact ⟨b, hb, c, hc, h, .refl c⟩
    · obtain ⟨v, hv, x, hx, h1, h2⟩ := ih hb
      exact ⟨v, hv, x, hx, h1, .step h2 hc⟩
theorem Scc.same {i : Nat} {xs : List Nat} (hi : ys[i]? = some xs) {p o : Nat} (hp : p ∈ xs) : o ∈ xs ↔ Reach E p o ∧ Reach E o p := by
  refine ⟨fun ho => ⟨S.mutu xs (List.mem_of_getElem? hi) p hp o ho, S.mutu xs (List.mem_of_getElem? hi) o ho p hp⟩, fun ⟨h1, h2⟩ => ?_⟩
  obtain ⟨j, zs, q1, q2, q3⟩ := S.reach h1 hi hp
  obtain ⟨k, us, r1, r2, r3⟩ := S.reach h2 q2 q3
  have := S.idx hi r2 hp r3
  have : i = j := by omega
  subst this
  rw [hi] at q2
  cases Option.some.inj q2
  exact q3
end

/-- what the lists of reached places tell -/
structure Rcs (E : Nat → List Nat) (n : Nat) (rcs : List (List Nat)) : Prop where
  len : rcs.length = n
  lt : ∀ i < n, ∀ x ∈ rcs.getD i [], x < n
  is : ∀ i < n, ∀ x, x ∈ rcs.getD i [] ↔ Reach E i x

section
variable {E : Nat → List Nat} {n : Nat} {ys rcs : List (List Nat)}
theorem chk7 (S : Scc E n ys) : srt ys.flatten = List.range n := by
  refine (srt_of (perm_of_mem List.nodup_range S.nd fun x => ?_) ?_).symm
  · rw [List.mem_range, S.all]
  · exact List.pairwise_le_range
theorem chk8a (S : Scc E n ys) (R : Rcs E n rcs) : ∀ xs ∈ ys, ∀ p ∈ xs, srt xs = (List.range n).filter fun o => decide (o ∈ rcs.getD p [] ∧ p ∈ rcs.getD o []) := by
  intro xs hx p hp
  obtain ⟨i, hi⟩ := List.mem_iff_getElem?.mp hx
  refine (srt_of (perm_of_mem (List.nodup_range.filter _) (S.nd.sublist (sub_flatten hx)) fun o => ?_) (List.pairwise_le_range.filter _)).symm
  rw [List.mem_filter, List.mem_range, decide_eq_true_eq]
  constructor
  · rintro ⟨h, h1, h2⟩
    exact (S.same hi hp).mpr ⟨(R.is p (S.lt hx hp) o).mp h1, (R.is o h p).mp h2⟩
  · intro h
    obtain ⟨h1, h2⟩ := (S.same hi hp).mp h
    have ho := S.lt hx h
    exact ⟨ho, (R.is p (S.lt hx hp) o).mpr h1, (R.is o ho p).mpr h2⟩
theorem chk8b (S : Scc E n ys) (R : Rcs E n rcs) : ∀ (k : Nat) xs, ys[k]? = some xs → ∀ p ∈ xs, ((rcs.getD p []).filter fun o => decide (o ∉ xs ∧ ((ys.take k).filter fun one => decide (o ∈ one)) = [])) = [] := by
  intro k xs hk p hp
  rw [List.filter_eq_nil_iff]
  intro o ho h
  rw [decide_eq_true_eq] at h
  have hx := List.mem_of_getElem? hk
  obtain ⟨j, zs, h1, h2, h3⟩ := S.reach ((R.is p (S.lt hx hp) o).mp ho) hk hp
  by_cases e : j = k
  · subst e
    rw [hk] at h2
    cases Option.some.inj h2
    exact h.1 h3
  · have : zs ∈ ys.take k := List.mem_of_getElem? (take_get.mpr ⟨by omega, h2⟩)
    have := List.filter_eq_nil_iff.mp h.2 zs this
    simp [h3] at this

theorem mem_depsG {prt : Nat → List Nat} {xs : List Nat} {z : List Nat} : z ∈ depsG prt xs ↔ ∃ x ∈ xs, prt x = z := by
  have : ∀ (xs : List Nat) (acc : List (List Nat)), z ∈ xs.foldl (fun acc x => if prt x ∈ acc then acc else acc ++ [prt x]) acc ↔ z ∈ acc ∨ ∃ x ∈ xs, prt x = z := by
    intro xs
    induction xs with
    | nil => intro acc; simp
    | cons x xs ih =>
      intro acc
      rw [List.foldl_cons, ih]
      split
      · rename_i h
        constructor
        · rintro (h1 | ⟨y, h1, h2⟩)
          · exact .inl h1
          · exact .inr ⟨y, .tail _ h1, h2⟩
        · rintro (h1 | ⟨y, h1, h2⟩)
          · exact .inl h1
          · rcases List.mem_cons.mp h1 with rfl | h1
            · exact .inl (h2 ▸ h)
            · exact .inr ⟨y, h1, h2⟩
      · rename_i h
        rw [List.mem_append, List.mem_singleton]
        constructor
        · rintro ((h1 | h1) | ⟨y, h1, h2⟩)
          · exact .inl h1
          · exact .inr ⟨x, .head _, h1.symm⟩
          · exact .inr ⟨y, .tail _ h1, h2⟩
        · rintro (h1 | ⟨y, h1, h2⟩)
          · exact .inl (.inl h1)
          · rcases List.mem_cons.mp h1 with rfl | h1
            · exact .inl (.inr h2.symm)
            · exact .inr ⟨y, h1, h2⟩
  simpa [depsG] using this xs []
theorem nodup_depsG {prt : Nat → List Nat} {xs : List Nat} : (depsG prt xs).Nodup := by
  have : ∀ (xs : List Nat) (acc : List (List Nat)), acc.Nodup → (xs.foldl (fun acc x => if prt x ∈ acc then acc else acc ++ [prt x]) acc).Nodup := by
    intro xs
    induction xs with
    | nil => intro acc h; exact h
    | cons x xs ih =>
      intro acc h
      rw [List.foldl_cons]
      refine ih _ ?_
      split
      · exact h
      · rename_i hn
        rw [List.nodup_append]
        refine ⟨h, by simp, fun a ha b hb e => ?_⟩
        rw [List.mem_singleton] at hb
        exact hn (by rw [← hb, ← e]; exact ha)
  exact this xs [] .nil
theorem deps_len (S : Scc E n ys) (xs : List Nat) : (depsL E (ptOf ys) xs).length ≤ n + 1 := by
  have h1 := len_sub (m := ys ++ [[]]) (nodup_depsG (prt := ptOf ys) (xs := xs.flatMap E)) fun z hz => by
    obtain ⟨x, _, rfl⟩ := mem_depsG.mp hz
    exact Scc.pt_mem x
  rw [List.length_append] at h1
  have := S.len
  show (depsG _ _).length ≤ _
  simp only [List.length_cons, List.length_nil] at h1
  omega
theorem mem_dn (S : Scc E n ys) {i : Nat} {xs : List Nat} (hi : ys[i]? = some xs) {q : List Nat} : q ∈ dnOf (depsL E (ptOf ys)) xs ↔ q ∈ ys.take i ∧ ∃ v ∈ xs, ∃ x ∈ E v, x ∈ q := by
  unfold dnOf depsL
  rw [List.mem_filter, mem_depsG, decide_eq_true_eq]
  have hx := List.mem_of_getElem? hi
  constructor
  · rintro ⟨⟨x, h1, rfl⟩, h2⟩
    obtain ⟨v, hv, hxv⟩ := List.mem_flatMap.mp h1
    rcases S.back i xs hi v hv x hxv with h | ⟨zs, hz, h⟩
    · exact absurd (S.pt hx h) h2
    · rw [S.pt (List.mem_of_mem_take hz) h]
      exact ⟨hz, v, hv, x, hxv, h⟩
  · rintro ⟨h1, v, hv, x, hx1, hx2⟩
    refine ⟨⟨x, List.mem_flatMap.mpr ⟨v, hv, hx1⟩, S.pt (List.mem_of_mem_take h1) hx2⟩, fun e => ?_⟩
    subst e
    obtain ⟨k, hk⟩ := List.mem_iff_getElem?.mp h1
    obtain ⟨hk1, hk2⟩ := take_get.mp hk
    have := S.idx hk2 hi hx2 hx2
    omega
theorem dn_nodup (prt : Nat → List Nat) (xs : List Nat) : (dnOf (depsL E prt) xs).Nodup := nodup_depsG.filter _
end
end Mine
end

section
set_option Elab.async false
set_option maxRecDepth 100000
namespace Mine

/-- what one turn of the batches does to the counts -/
theorem kfold_spec (deg : List Nat → Nat) : ∀ (m : Nat) (l : List (List Nat)), l.length = m → (∀ q ∈ l, l.count q ≤ deg q) →
    (∀ q, (kfold deg l).1 q = deg q - l.count q) ∧ (kfold deg l).2.Nodup ∧ ∀ q, q ∈ (kfold deg l).2 ↔ q ∈ l ∧ l.count q = deg q := by
  intro m
  induction m with
  | zero =>
    intro l hl _
    cases l with
    | nil => exact ⟨fun q => by simp [kfold], by simp [kfold], fun q => by simp [kfold]⟩
    | cons => simp at hl
  | succ m ih =>
    intro l hl hc
    have hne : l ≠ [] := fun e => by subst e; simp at hl
    obtain ⟨t, a, rfl⟩ : ∃ t a, l = t ++ [a] := ⟨l.dropLast, l.getLast hne, (List.dropLast_concat_getLast hne).symm⟩
    have hcount : ∀ q, (t ++ [a]).count q = t.count q + if a = q then 1 else 0 := fun q => by
      rw [List.count_append, List.count_singleton]
      by_cases e : a = q <;> simp [e]
    obtain ⟨h1, h2, h3⟩ := ih t (by simpa using hl) fun q hq => by
      have := hc q (List.mem_append_left _ hq)
      rw [hcount] at this
      omega
    have ha := hc a (by simp)
    rw [hcount, if_pos rfl] at ha
    rw [kfold_snoc]
    unfold kstep
    have hna : a ∉ (kfold deg t).2 := fun h => by
      have := ((h3 a).mp h).2
      omega
    refine ⟨fun q => ?_, ?_, fun q => ?_⟩
    · show (if q = a then (kfold deg t).1 a - 1 else (kfold deg t).1 q) = _
      rw [hcount]
      split
      · rename_i e
        subst e
        rw [h1, if_pos rfl]
        omega
      · rename_i e
        rw [h1, if_neg fun q => e q.symm]
        omega
    · show (if (kfold deg t).1 a - 1 = 0 then (kfold deg t).2 ++ [a] else (kfold deg t).2).Nodup
      split
      · rw [List.nodup_append]
        exact ⟨h2, by simp, fun x hx y hy e => hna (by rw [List.mem_singleton] at hy; rw [← hy, ← e]; exact hx)⟩
      · exact h2
    · show q ∈ (if (kfold deg t).1 a - 1 = 0 then (kfold deg t).2 ++ [a] else (kfold deg t).2) ↔ _
      rw [hcount, List.mem_append, List.mem_singleton]
      by_cases e : q = a
      · subst e
        rw [if_pos rfl, h1]
        split
        · rename_i h0
          simp only [List.mem_append, List.mem_singleton, or_true, true_and, true_iff]
          omega
        · rename_i h0
          constructor
          · exact fun h => absurd h hna
          · rintro ⟨_, h⟩
            omega
      · have : q ∈ (if (kfold deg t).1 a - 1 = 0 then (kfold deg t).2 ++ [a] else (kfold deg t).2) ↔ q ∈ (kfold deg t).2 := by
          split
          · rw [List.mem_append, List.mem_singleton]
            exact ⟨fun h => h.resolve_right e, .inl⟩
          · exact Iff.rfl
        rw [this, h3, if_neg (show ¬ a = q from fun q => e q.symm), Nat.add_zero]
        constructor
        · rintro ⟨x, y⟩; exact ⟨.inl x, y⟩
        · rintro ⟨x | x, y⟩
          · exact ⟨x, y⟩
          · exact absurd x e

theorem kfold_pos {deg : List Nat → Nat} {l : List (List Nat)} (hc : ∀ q ∈ l, l.count q ≤ deg q) : ∀ pre q post, l = pre ++ q :: post → 1 ≤ (kfold deg pre).1 q := by
  rintro pre q post rfl
  have h1 : ∀ q' ∈ pre, pre.count q' ≤ deg q' := fun q' h => by
    have := hc q' (List.mem_append_left _ h)
    rw [List.count_append] at this
    omega
  rw [(kfold_spec deg _ pre rfl h1).1]
  have := hc q (by simp)
  rw [List.count_append, List.count_cons_self] at this
  omega

theorem count_flat {rv : List Nat → List (List Nat)} {q : List Nat} : ∀ {ps : List (List Nat)}, (∀ p ∈ ps, (rv p).Nodup) → (ps.flatMap rv).count q = (ps.filter fun p => decide (q ∈ rv p)).length
  | [], _ => rfl
  | p :: ps, h => by
    rw [List.flatMap_cons, List.count_append, count_flat fun p hp => h p (.tail _ hp), List.filter_cons]
    by_cases e : q ∈ rv p
    · rw [if_pos (by simpa using e), List.length_cons, (h p (.head _)).count, if_pos e]
      omega
    · rw [if_neg (by simpa using e), List.count_eq_zero.mpr e]
      omega
theorem filter_split {α : Type} (f : α → Nat) (k : Nat) : ∀ l : List α, (l.filter fun q => decide (k ≤ f q)).length = (l.filter fun q => decide (f q = k)).length + (l.filter fun q => decide (k + 1 ≤ f q)).length
  | [] => rfl
  | a :: l => by
    have := filter_split f k l
    simp only [List.filter_cons]
    by_cases h1 : f a = k
    · rw [if_pos (by simp; omega), if_pos (by simp [h1]), if_neg (by simp; omega)]
      simp only [List.length_cons]; omega
    · by_cases h2 : k + 1 ≤ f a
      · rw [if_pos (by simp; omega), if_neg (by simp [h1]), if_pos (by simpa using h2)]
        simp only [List.length_cons]; omega
      · rw [if_neg (by simp; omega), if_neg (by simp [h1]), if_neg (by simpa using h2)]
        exact this

/-- parts, to what they lead, and their levels -/
structure Lev (ps : List (List Nat)) (dl : List Nat → List (List Nat)) (L : List Nat → Nat) : Prop where
  nd : ps.Nodup
  sz : ps.length ≤ 100
  dn : ∀ q ∈ ps, (dnOf dl q).Nodup
  sub : ∀ q ∈ ps, ∀ p ∈ dnOf dl q, p ∈ ps
  dec : ∀ q ∈ ps, ∀ p ∈ dnOf dl q, L p < L q
  tight : ∀ q ∈ ps, 0 < L q → ∃ p ∈ dnOf dl q, L p + 1 = L q

section
variable {ps : List (List Nat)} {dl : List Nat → List (List Nat)} {L : List Nat → Nat} (X : Lev ps dl L)
include X
theorem Lev.gap {k : Nat} (h : ∀ q ∈ ps, L q ≠ k) : ∀ m, ∀ q ∈ ps, L q = m → m < k := by
  intro m
  induction m with
  | zero =>
    intro q hq e
    have := h q hq
    omega
  | succ m ih =>
    intro q hq e
    obtain ⟨p, hp, e2⟩ := X.tight q hq (by omega)
    have h1 := ih p (X.sub q hq p hp) (by omega)
    have := h q hq
    omega

theorem Lev.kahn : ∀ (f k : Nat) (deg : List Nat → Nat) (rem : Nat) (ready : List (List Nat)), (∀ q ∈ ps, L q < k + f) → (∀ q ∈ ps, deg q = ((dnOf dl q).filter fun p => decide (k ≤ L p)).length) →
    rem = (ps.filter fun q => decide (k + 1 ≤ L q)).length → ready.Perm (ps.filter fun q => decide (L q = k)) →
    ∃ Kn, KS ps (rvOf dl ps) deg rem ready Kn ∧ (∀ (i : Nat) K, Kn[i]? = some K → K.Perm (ps.filter fun q => decide (L q = k + i))) ∧ (∀ q ∈ ps, L q < k + Kn.length) ∧ (Kn ≠ [] → ∃ q ∈ ps, L q + 1 = k + Kn.length) := by
  intro f
  have hempty : ∀ (k : Nat) (deg : List Nat → Nat) (rem : Nat) (ready : List (List Nat)), (∀ q ∈ ps, L q < k) → rem = (ps.filter fun q => decide (k + 1 ≤ L q)).length → ready.Perm (ps.filter fun q => decide (L q = k)) →
      ∃ Kn, KS ps (rvOf dl ps) deg rem ready Kn ∧ (∀ (i : Nat) K, Kn[i]? = some K → K.Perm (ps.filter fun q => decide (L q = k + i))) ∧ (∀ q ∈ ps, L q < k + Kn.length) ∧ (Kn ≠ [] → ∃ q ∈ ps, L q + 1 = k + Kn.length) := by
    intro k deg rem ready h hrem hr
    have e1 : (ps.filter fun q => decide (k + 1 ≤ L q)) = [] := List.filter_eq_nil_iff.mpr fun q hq => by
      have := h q hq
      simp; omega
    have e2 : (ps.filter fun q => decide (L q = k)) = [] := List.filter_eq_nil_iff.mpr fun q hq => by
      have := h q hq
      simp; omega
    rw [e1] at hrem
    rw [e2] at hr
    have := hr.eq_nil
    subst this
    subst hrem
    exact ⟨[], .nil, fun i K h => by simp at h, by simpa using h, fun h => absurd rfl h⟩
  induction f with
  | zero => intro k deg rem ready h _ hrem hr; exact hempty k deg rem ready (by simpa using h) hrem hr
  | succ f ih =>
    intro k deg rem ready h hdeg hrem hr
    by_cases hne : ready = []
    · refine hempty k deg rem ready (fun q hq => X.gap (fun q' hq' e => ?_) _ q hq rfl) hrem hr
      have : q' ∈ ready := hr.mem_iff.mpr (List.mem_filter.mpr ⟨hq', by simpa using e⟩)
      rw [hne] at this
      cases this
    have hmr : ∀ q, q ∈ ready ↔ q ∈ ps ∧ L q = k := fun q => by rw [hr.mem_iff, List.mem_filter, decide_eq_true_eq]
    have hmv : ∀ p q, q ∈ rvOf dl ps p ↔ q ∈ ps ∧ p ∈ dnOf dl q := fun p q => by unfold rvOf; rw [List.mem_filter, decide_eq_true_eq]
    have hnv : ∀ p, (rvOf dl ps p).Nodup := fun p => X.nd.filter _
    have hcnt : ∀ q ∈ ps, (ready.flatMap (rvOf dl ps)).count q = ((dnOf dl q).filter fun p => decide (L p = k)).length := by
      intro q hq
      rw [count_flat fun p _ => hnv p]
      have hrn : ready.Nodup := hr.nodup_iff.mpr (X.nd.filter _)
      refine (perm_of_mem (hrn.filter _) ((X.dn q hq).filter _) fun p => ?_).length_eq
      rw [List.mem_filter, List.mem_filter, decide_eq_true_eq, decide_eq_true_eq, hmr, hmv]
      exact ⟨fun ⟨⟨_, a⟩, _, b⟩ => ⟨b, a⟩, fun ⟨a, b⟩ => ⟨⟨X.sub q hq p a, b⟩, hq, a⟩⟩
    have hl : ∀ q ∈ ready.flatMap (rvOf dl ps), q ∈ ps := fun q hq => by
      obtain ⟨p, _, h2⟩ := List.mem_flatMap.mp hq
      exact ((hmv p q).mp h2).1
    have hle : ∀ q ∈ ready.flatMap (rvOf dl ps), (ready.flatMap (rvOf dl ps)).count q ≤ deg q := fun q hq => by
      rw [hcnt q (hl q hq), hdeg q (hl q hq), filter_split L k]
      omega
    obtain ⟨k1, k2, k3⟩ := kfold_spec deg _ _ rfl hle
    have hnew : (kfold deg (ready.flatMap (rvOf dl ps))).2.Perm (ps.filter fun q => decide (L q = k + 1)) := by
      refine perm_of_mem k2 (X.nd.filter _) fun q => ?_
      rw [k3, List.mem_filter, decide_eq_true_eq]
      constructor
      · rintro ⟨h1, h2⟩
        have hq := hl q h1
        refine ⟨hq, ?_⟩
        rw [hcnt q hq, hdeg q hq, filter_split L k] at h2
        have e : ((dnOf dl q).filter fun p => decide (k + 1 ≤ L p)) = [] := List.eq_nil_of_length_eq_zero (by omega)
        obtain ⟨p, hp, h3⟩ := List.mem_flatMap.mp h1
        have hpd := ((hmv p q).mp h3).2
        have hlt := X.dec q hq p hpd
        have hpk := ((hmr p).mp hp).2
        obtain ⟨p', hp', h4⟩ := X.tight q hq (by omega)
        have := List.filter_eq_nil_iff.mp e p' hp'
        simp only [decide_eq_true_eq] at this
        omega
      · rintro ⟨hq, h1⟩
        obtain ⟨p, hp, h2⟩ := X.tight q hq (by omega)
        refine ⟨List.mem_flatMap.mpr ⟨p, (hmr p).mpr ⟨X.sub q hq p hp, by omega⟩, (hmv p q).mpr ⟨hq, hp⟩⟩, ?_⟩
        rw [hcnt q hq, hdeg q hq, filter_split L k]
        have e : ((dnOf dl q).filter fun p => decide (k + 1 ≤ L p)) = [] := List.filter_eq_nil_iff.mpr fun p hp => by
          have := X.dec q hq p hp
          simp; omega
        rw [e]; rfl
    have hsp := filter_split L (k + 1) ps
    have hnl := hnew.length_eq
    have hrl := hr.length_eq
    have hfl : ∀ p : List Nat → Bool, (ps.filter p).length ≤ ps.length := fun p => List.length_filter_le _ _
    obtain ⟨Ks, r1, r2, r3, r4⟩ := ih (k + 1) (kfold deg (ready.flatMap (rvOf dl ps))).1 (rem - (kfold deg (ready.flatMap (rvOf dl ps))).2.length) _ (fun q hq => by have := h q hq; omega)
      (fun q hq => by
        rw [k1, hcnt q hq, hdeg q hq, filter_split L k]
        omega) (by omega) hnew
    refine ⟨ready :: Ks, .cons hne (by have := hfl fun q => decide (L q = k); have := X.sz; omega) (fun q hq => ⟨((hmr q).mp hq).1, by have := hfl fun q' => decide (q ∈ dnOf dl q'); have := X.sz; unfold rvOf; omega, fun p hp => ((hmv q p).mp hp).1⟩)
      (kfold_pos hle) (by omega) r1, fun i K hK => ?_, fun q hq => by have := r3 q hq; simp only [List.length_cons]; omega, fun _ => ?_⟩
    · cases i with
      | zero =>
        simp only [List.getElem?_cons_zero, Option.some.injEq] at hK
        subst hK
        exact hr
      | succ i =>
        simp only [List.getElem?_cons_succ] at hK
        have := r2 i K hK
        rw [show k + 1 + i = k + (i + 1) by omega] at this
        exact this
    · by_cases e : Ks = []
      · subst e
        cases ready with
        | nil => exact absurd rfl hne
        | cons q qs => exact ⟨q, ((hmr q).mp (.head _)).1, by rw [((hmr q).mp (.head _)).2]; rfl⟩
      · obtain ⟨q, hq, h1⟩ := r4 e
        exact ⟨q, hq, by simp only [List.length_cons]; omega⟩

theorem Lev.start : ∃ Kn, KS ps (rvOf dl ps) (fun q => (dnOf dl q).length) (ps.length - (rdOf dl ps).length) (rdOf dl ps) Kn ∧ (∀ (i : Nat) K, Kn[i]? = some K → K.Perm (ps.filter fun q => decide (L q = i))) ∧ (∀ q ∈ ps, L q < Kn.length) ∧ (Kn ≠ [] → ∃ q ∈ ps, L q + 1 = Kn.length) := by
  have e0 : rdOf dl ps = ps.filter fun q => decide (L q = 0) := by
    unfold rdOf
    refine List.filter_congr fun q hq => ?_
    by_cases e : L q = 0
    · rw [decide_eq_true e, decide_eq_true_eq]
      cases h : dnOf dl q with
      | nil => rfl
      | cons p t =>
        have := X.dec q hq p (by rw [h]; exact .head _)
        omega
    · rw [decide_eq_false e, decide_eq_false_iff_not]
      intro h
      obtain ⟨p, hp, _⟩ := X.tight q hq (by omega)
      rw [h] at hp
      cases hp
  have hsp := filter_split L 0 ps
  have h0 : (ps.filter fun q => decide (0 ≤ L q)) = ps := List.filter_eq_self.mpr fun q _ => by simp
  rw [h0] at hsp
  -- a bound on the levels
  have hb : ∀ l : List (List Nat), ∃ M, ∀ q ∈ l, L q < M := by
    intro l
    induction l with
    | nil => exact ⟨0, fun q h => (nomatch h)⟩
    | cons a l ih =>
      obtain ⟨M, hM⟩ := ih
      refine ⟨M + L a + 1, fun q hq => ?_⟩
      rcases List.mem_cons.mp hq with rfl | hq
      · omega
      · have := hM q hq; omega
  obtain ⟨M, hM⟩ := hb ps
  obtain ⟨Kn, h1, h2, h3, h4⟩ := X.kahn M 0 (fun q => (dnOf dl q).length) (ps.length - (rdOf dl ps).length) (rdOf dl ps) (by simpa using hM)
    (fun q _ => by rw [List.filter_eq_self.mpr fun p _ => by simp]) (by rw [e0]; simp only [Nat.zero_add] at hsp ⊢; omega) (by rw [e0])
  exact ⟨Kn, h1, fun i K hK => by have := h2 i K hK; rwa [Nat.zero_add] at this, by simpa using h3, fun h => by simpa using h4 h⟩
end
end Mine
end

section
set_option Elab.async false
set_option maxRecDepth 100000
namespace Mine

def ixOf : List (List Nat) → List Nat → Nat
  | [], _ => 0
  | y :: ys, q => if y = q then 0 else ixOf ys q + 1
theorem ix_at : ∀ {ys : List (List Nat)}, ys.Nodup → ∀ {i : Nat} {q : List Nat}, ys[i]? = some q → ixOf ys q = i
  | [], _, i, q, h => by simp at h
  | y :: ys, hn, i, q, h => by
    obtain ⟨h1, h2⟩ := List.nodup_cons.mp hn
    unfold ixOf
    cases i with
    | zero =>
      simp only [List.getElem?_cons_zero, Option.some.injEq] at h
      rw [if_pos h]
    | succ i =>
      simp only [List.getElem?_cons_succ] at h
      rw [if_neg fun e => h1 (by rw [e]; exact List.mem_of_getElem? h), ix_at h2 h]

/-- the level of the part at j -/
def levI (rcs ys : List (List Nat)) (j : Nat) : Nat := lvOne rcs ys (lvN rcs ys j) (ys.getD j [])
theorem lvN_get (rcs ys : List (List Nat)) : ∀ {m j : Nat}, j < m → (lvN rcs ys m)[j]? = some (levI rcs ys j)
  | 0, j, h => by omega
  | m + 1, j, h => by
    unfold lvN
    by_cases e : j < m
    · rw [List.getElem?_append_left (by rw [lvN_length]; exact e), lvN_get rcs ys e]
    · have : j = m := by omega
      subst this
      rw [List.getElem?_append_right (by rw [lvN_length]; exact Nat.le_refl _), lvN_length, Nat.sub_self]
      rfl
theorem lvN_getD (rcs ys : List (List Nat)) {m j : Nat} (h : j < m) : (lvN rcs ys m).getD j 0 = levI rcs ys j := by
  rw [List.getD_eq_getElem?_getD, lvN_get rcs ys h]; rfl
theorem mem_below {rcs ys : List (List Nat)} {i a : Nat} {xs : List Nat} : a ∈ belowL rcs ys (lvN rcs ys i) xs ↔ ∃ j, j < i ∧ (∃ o ∈ rcs.getD (xs.headD 0) [], o ∈ ys.getD j []) ∧ levI rcs ys j = a := by
  unfold belowL
  rw [List.mem_map, lvN_length]
  constructor
  · rintro ⟨j, h1, rfl⟩
    obtain ⟨h2, h3⟩ := List.mem_filter.mp h1
    have hj := List.mem_range.mp h2
    rw [decide_eq_true_eq] at h3
    refine ⟨j, hj, ?_, (lvN_getD rcs ys hj).symm⟩
    obtain ⟨o, ho⟩ := List.exists_mem_of_ne_nil _ h3
    obtain ⟨h4, h5⟩ := List.mem_filter.mp ho
    exact ⟨o, h4, by simpa using h5⟩
  · rintro ⟨j, hj, ⟨o, h1, h2⟩, rfl⟩
    refine ⟨j, List.mem_filter.mpr ⟨List.mem_range.mpr hj, ?_⟩, lvN_getD rcs ys hj⟩
    rw [decide_eq_true_eq]
    intro e
    exact List.filter_eq_nil_iff.mp e o h1 (decide_eq_true h2)
theorem mx_mem {b : List Nat} : mx b ∈ b ∨ (mx b = 0 ∧ ∀ x ∈ b, x = 0) := by
  obtain ⟨h1, _, h3⟩ := foldl_max b 0
  rcases h3 with h3 | h3
  · exact .inr ⟨h3, fun x hx => by have := h1 x hx; unfold mx at *; omega⟩
  · exact .inl h3
theorem mx_mem' {b : List Nat} (h : b ≠ []) : mx b ∈ b := by
  rcases mx_mem (b := b) with q | ⟨q1, q2⟩
  · exact q
  · cases b with
    | nil => exact absurd rfl h
    | cons x b =>
      rw [q1, ← q2 x (.head _)]
      exact .head _
theorem le_mx {b : List Nat} {x : Nat} (h : x ∈ b) : x ≤ mx b := (foldl_max b 0).1 x h

section
variable {E : Nat → List Nat} {n : Nat} {ys rcs : List (List Nat)} (S : Scc E n ys) (R : Rcs E n rcs)
include S R
omit R in
theorem head_mem {xs : List Nat} (h : xs ∈ ys) : xs.headD 0 ∈ xs := by
  cases xs with
  | nil => exact absurd rfl (S.ne [] h)
  | cons a b => exact .head _
/-- a later part that reaches an earlier one stands higher -/
theorem lev_lt {i j : Nat} {xs zs : List Nat} {a b : Nat} (hi : ys[i]? = some xs) (hj : ys[j]? = some zs) (hlt : j < i) (ha : a ∈ xs) (hb : b ∈ zs) (hr : Reach E a b) : levI rcs ys j < levI rcs ys i := by
  have hx := List.mem_of_getElem? hi
  have hh := head_mem S hx
  have hm : levI rcs ys j ∈ belowL rcs ys (lvN rcs ys i) xs := mem_below.mpr ⟨j, hlt, ⟨b, (R.is _ (S.lt hx hh) b).mpr ((S.mutu xs hx _ hh a ha).trans hr), by rw [List.getD_eq_getElem?_getD, hj]; exact hb⟩, rfl⟩
  have hg : ys.getD i [] = xs := by rw [List.getD_eq_getElem?_getD, hi]; rfl
  have e : levI rcs ys i = 1 + mx (belowL rcs ys (lvN rcs ys i) xs) := by
    unfold levI lvOne
    rw [hg, if_neg fun e => by rw [e] at hm; cases hm]
  have := le_mx hm
  omega
theorem lev_tight {i : Nat} {xs : List Nat} (hi : ys[i]? = some xs) (h : 0 < levI rcs ys i) : ∃ j zs, j < i ∧ ys[j]? = some zs ∧ (∃ v ∈ xs, ∃ x ∈ E v, x ∈ zs) ∧ levI rcs ys j + 1 = levI rcs ys i := by
  have hx := List.mem_of_getElem? hi
  have hh := head_mem S hx
  have hg : ys.getD i [] = xs := by rw [List.getD_eq_getElem?_getD, hi]; rfl
  by_cases e : belowL rcs ys (lvN rcs ys i) xs = []
  · unfold levI lvOne at h
    rw [hg, if_pos e] at h
    omega
  have e2 : levI rcs ys i = 1 + mx (belowL rcs ys (lvN rcs ys i) xs) := by
    show lvOne _ _ _ _ = _
    unfold lvOne
    rw [hg, if_neg e]
  obtain ⟨j, hj, ⟨o, ho1, ho2⟩, h3⟩ := mem_below.mp (mx_mem' e)
  have hil : i < ys.length := (List.getElem?_eq_some_iff.mp hi).1
  have hjs : ys[j]? = some (ys.getD j []) := getD_some (by omega)
  have hro := (R.is _ (S.lt hx hh) o).mp ho1
  have hon : o ∉ xs := fun q => by have := S.idx hi hjs q ho2; omega
  obtain ⟨v, hv, x, hxv, hxn, hxo⟩ := Scc.exit hro hh hon
  rcases S.back i xs hi v hv x hxv with q | ⟨zs, hz, hxz⟩
  · exact absurd q hxn
  obtain ⟨k, hk⟩ := List.mem_iff_getElem?.mp hz
  obtain ⟨hk1, hk2⟩ := take_get.mp hk
  have h4 := lev_lt S R hi hk2 hk1 hv hxz (.edge hxv)
  obtain ⟨m, us, m1, m2, m3⟩ := S.reach hxo hk2 hxz
  have := S.idx m2 hjs m3 ho2
  subst this
  refine ⟨k, zs, hk1, hk2, ⟨v, hv, x, hxv, hxz⟩, ?_⟩
  by_cases e3 : m = k
  · subst e3; omega
  · have h5 := lev_lt S R hk2 m2 (by omega) hxz m3 hxo
    omega


theorem levP (hn : n ≤ 100) : Lev ys (depsL E (ptOf ys)) (fun q => levI rcs ys (ixOf ys q)) := by
  refine ⟨S.nodup, Nat.le_trans S.len hn, fun q _ => dn_nodup _ _, fun q hq p hp => ?_, fun q hq p hp => ?_, fun q hq h => ?_⟩
  · obtain ⟨i, hi⟩ := List.mem_iff_getElem?.mp hq
    exact List.mem_of_mem_take ((mem_dn S hi).mp hp).1
  · obtain ⟨i, hi⟩ := List.mem_iff_getElem?.mp hq
    obtain ⟨h1, v, hv, x, hxv, hxp⟩ := (mem_dn S hi).mp hp
    obtain ⟨j, hj⟩ := List.mem_iff_getElem?.mp h1
    obtain ⟨hj1, hj2⟩ := take_get.mp hj
    show levI rcs ys (ixOf ys p) < levI rcs ys (ixOf ys q)
    rw [ix_at S.nodup hi, ix_at S.nodup hj2]
    exact lev_lt S R hi hj2 hj1 hv hxp (.edge hxv)
  · obtain ⟨i, hi⟩ := List.mem_iff_getElem?.mp hq
    replace h : 0 < levI rcs ys (ixOf ys q) := h
    rw [ix_at S.nodup hi] at h
    obtain ⟨j, zs, h1, h2, h3, h4⟩ := lev_tight S R hi h
    refine ⟨zs, (mem_dn S hi).mpr ⟨List.mem_of_getElem? (take_get.mpr ⟨h1, h2⟩), h3⟩, ?_⟩
    show levI rcs ys (ixOf ys zs) + 1 = levI rcs ys (ixOf ys q)
    rw [ix_at S.nodup hi, ix_at S.nodup h2]
    exact h4

omit R in
theorem heads_nodup {K : List (List Nat)} (hK : K.Nodup) (hs : ∀ q ∈ K, q ∈ ys) : ((K.map srt).map fun xs => xs.headD 0).Nodup := by
  rw [List.map_map]
  refine List.pairwise_map.mpr (List.Pairwise.imp_of_mem (fun {a b} ha hb hab e => ?_) hK)
  have hd : ∀ q ∈ K, (srt q).headD 0 ∈ q := fun q hq => by
    have h1 := S.ne q (hs q hq)
    have h2 := srt_perm q
    cases h : srt q with
    | nil => rw [h] at h2; exact absurd (List.nil_perm.mp h2) h1
    | cons x t => rw [h] at h2; exact h2.mem_iff.mp (.head _)
  have e' : (srt a).headD 0 = (srt b).headD 0 := e
  exact hab (S.uniq (hs a ha) (hs b hb) (hd a ha) (e' ▸ hd b hb))
omit R in
theorem srts_ne {K : List (List Nat)} (hs : ∀ q ∈ K, q ∈ ys) : ∀ xs ∈ K.map srt, xs ≠ [] := by
  intro xs hx e
  obtain ⟨q, hq, rfl⟩ := List.mem_map.mp hx
  have h2 := srt_perm q
  rw [e] at h2
  exact S.ne q (hs q hq) (List.nil_perm.mp h2)

omit R in
theorem right_eq (i : Nat) : rightL (lvN rcs ys ys.length) ys i = (ys.filter fun q => decide (levI rcs ys (ixOf ys q) = i)).map srt := by
  have hy : ys = (List.range ys.length).map fun j => ys.getD j [] := by
    refine List.ext_getElem? fun k => ?_
    rw [List.getElem?_map]
    by_cases h : k < ys.length
    · rw [List.getElem?_range h, getD_some (d := []) h]; rfl
    · rw [List.getElem?_eq_none (by omega), List.getElem?_eq_none (by simpa using h)]; rfl
  unfold rightL
  conv => rhs; rw [hy]
  rw [List.filter_map, List.map_map]
  congr 1
  refine List.filter_congr fun j hj => ?_
  have hj' := List.mem_range.mp hj
  show decide (_ = _) = decide (levI rcs ((List.range ys.length).map fun j => ys.getD j []) (ixOf ((List.range ys.length).map fun j => ys.getD j []) (ys.getD j [])) = i)
  rw [← hy, ix_at S.nodup (getD_some (d := []) hj'), lvN_getD rcs ys hj']

/-- the plain law -/
theorem plain (hn : n ≤ 60) (hn0 : 0 < n) : ∃ Kn, KS ys (rvOf (depsL E (ptOf ys)) ys) (fun q => (dnOf (depsL E (ptOf ys)) q).length) (ys.length - (rdOf (depsL E (ptOf ys)) ys).length) (rdOf (depsL E (ptOf ys)) ys) Kn ∧
    Kn.length ≤ 60 ∧ lvN rcs ys ys.length ≠ [] ∧ Kn.length = 1 + mx (lvN rcs ys ys.length) ∧
    (∀ K ∈ Kn, K.length ≤ 60 ∧ (∀ xs ∈ K.map srt, xs ≠ []) ∧ ((K.map srt).map fun xs => xs.headD 0).Nodup) ∧
    (∀ i, (∀ xs ∈ rightL (lvN rcs ys ys.length) ys i, xs ≠ []) ∧ ((rightL (lvN rcs ys ys.length) ys i).map fun xs => xs.headD 0).Nodup) ∧
    (Kn.map fun K => srtH (K.map srt)) = (List.range Kn.length).map fun i => srtH (rightL (lvN rcs ys ys.length) ys i) := by
  obtain ⟨Kn, h1, h2, h3, h4⟩ := (levP S R (by omega)).start
  have hlen := S.len
  obtain ⟨i0, x0, hx0, _⟩ := S.at hn0
  have hx0m := List.mem_of_getElem? hx0
  have hl0 : 0 < ys.length := List.length_pos_iff.mpr fun e => by rw [e] at hx0m; cases hx0m
  have hlv : lvN rcs ys ys.length ≠ [] := fun e => by
    have := lvN_length rcs ys ys.length
    rw [e] at this
    simp at this
    omega
  have hK0 : Kn ≠ [] := fun e => by
    have := h3 x0 hx0m
    rw [e] at this
    simp at this
  obtain ⟨q0, hq0, hq1⟩ := h4 hK0
  obtain ⟨i1, hi1⟩ := List.mem_iff_getElem?.mp hq0
  rw [ix_at S.nodup hi1] at hq1
  have hi1l : i1 < ys.length := (List.getElem?_eq_some_iff.mp hi1).1
  have hmx : Kn.length = 1 + mx (lvN rcs ys ys.length) := by
    have a1 := le_mx (List.mem_of_getElem? (lvN_get rcs ys hi1l))
    obtain ⟨j, hj⟩ := List.mem_iff_getElem?.mp (mx_mem' hlv)
    have hjl : j < ys.length := by
      have := (List.getElem?_eq_some_iff.mp hj).1
      rwa [lvN_length] at this
    rw [lvN_get rcs ys hjl] at hj
    have hjs : ys[j]? = some (ys.getD j []) := getD_some hjl
    have := h3 _ (List.mem_of_getElem? hjs)
    rw [ix_at S.nodup hjs, Option.some.inj hj] at this
    omega
  have hsub : ∀ K ∈ Kn, K.Nodup ∧ ∀ q ∈ K, q ∈ ys := fun K hK => by
    obtain ⟨i, hi⟩ := List.mem_iff_getElem?.mp hK
    have := h2 i K hi
    exact ⟨this.nodup_iff.mpr (S.nodup.filter _), fun q hq => (List.mem_filter.mp (this.mem_iff.mp hq)).1⟩
  have hRs : ∀ i, ∀ q ∈ ys.filter fun q => decide (levI rcs ys (ixOf ys q) = i), q ∈ ys := fun i q hq => (List.mem_filter.mp hq).1
  refine ⟨Kn, h1, ?_, hlv, hmx, fun K hK => ⟨?_, srts_ne S (hsub K hK).2, heads_nodup S (hsub K hK).1 (hsub K hK).2⟩, fun i => ?_, ?_⟩
  · -- as many levels as parts at most
    have hlev : ∀ j, j < ys.length → levI rcs ys j ≤ j := by
      intro j
      induction j using Nat.strongRecOn with
      | _ j ih =>
        intro hj
        by_cases e : 0 < levI rcs ys j
        · obtain ⟨k, zs, k1, k2, _, k4⟩ := lev_tight S R (getD_some (d := []) hj) e
          have := ih k k1 (by omega)
          omega
        · omega
    have := hlev i1 hi1l
    omega
  · have := len_sub (m := ys) (hsub K hK).1 (hsub K hK).2
    omega
  · rw [right_eq S]
    exact ⟨srts_ne S (hRs i), heads_nodup S (S.nodup.filter _) (hRs i)⟩
  · refine List.ext_getElem? fun i => ?_
    rw [List.getElem?_map, List.getElem?_map]
    by_cases h : i < Kn.length
    · have hi : Kn[i]? = some Kn[i] := List.getElem?_eq_getElem h
      rw [List.getElem?_range h, hi]
      show some _ = some _
      congr 1
      have hp := h2 i _ hi
      have hm := List.mem_of_getElem? hi
      refine srtH_of ((srtH_perm _).trans ?_) (srtH_pair _) ?_
      · rw [right_eq S]; exact hp.map _
      · rw [right_eq S]; exact heads_nodup S (S.nodup.filter _) (hRs i)
    · rw [List.getElem?_eq_none (by omega), List.getElem?_eq_none (by simpa using h)]; rfl
end
end Mine
end

section
open PySem PySem.W PyProof.Rows
set_option Elab.async false
set_option maxRecDepth 100000
namespace Mine

theorem fn_of {K : Frag} {h : Heap} (X : K.In h) {a : Addr} {fd : FuncData} {o : Obj} (hl : K.lookup a = some o) (hd : o.data = .func fd) (hc : codeIn K fd.code fd.qualname = true) : FnOk h a fd :=
  ⟨o, X _ _ hl, hd, codeRec_of X hc⟩
theorem ns_of {K : Frag} {h : Heap} (X : K.In h) {a : Addr} {o : Obj} {es : Array DictEntry} {ep : Nat} (hl : K.lookup a = some o) (hd : o.data = .dict es ep) (hs : (es.toList.all fun e => match e.key with | .str _ _ => true | _ => false) = true) : h.Ns a (nsFind es) := by
  refine ⟨o, es, ep, X _ _ hl, hd, fun e he => ?_, fun _ => rfl⟩
  have := List.all_eq_true.mp hs e (Array.mem_def.mp he)
  split at this
  · exact ⟨_, _, by assumption⟩
  · cases this

section
variable {P : Params} {h : Heap} (X : (hd.heap_39 P).In h)
include X
theorem f21 : ∃ pm doc, FnOk h 21 (sccFd pm (.ref 20) doc) := ⟨_, _, fn_of X rfl rfl rfl⟩
theorem f28 : ∃ pm cd doc, FnOk h 28 (prepFd pm cd doc) := ⟨_, _, _, fn_of X rfl rfl rfl⟩
theorem f68 : ∃ pm cd doc, FnOk h 68 (lawAtFd pm cd doc) := ⟨_, _, _, fn_of X rfl rfl rfl⟩
theorem f75 : ∃ pm cd doc, FnOk h 75 (lawReachedFd pm cd doc) := ⟨_, _, _, fn_of X rfl rfl rfl⟩
theorem f80 : ∃ pm cd doc, FnOk h 80 (lawFd pm cd doc) := ⟨_, _, _, fn_of X rfl rfl rfl⟩
theorem c20 : CodeHd h 20 16 := codeHd_of_K X rfl
theorem fTopo : TopoIn h := by
  refine ⟨⟨_, ⟨⟨_, _, _, _, _, _, _, _, _, _, _, _, X 57 _ rfl⟩, ns_of (a := 56) X rfl rfl rfl⟩, rfl, rfl, rfl, ?_⟩, ?_, ?_, ?_⟩
  · intro x hx
    simp only [List.mem_cons, List.not_mem_nil, or_false] at hx
    rcases hx with rfl | rfl | rfl | rfl | rfl | rfl | rfl <;> rfl
  · exact ⟨_, _, _, fn_of X rfl rfl rfl, _, X 40 _ rfl, rfl⟩
  · exact ⟨_, _, _, fn_of X rfl rfl rfl, _, X 47 _ rfl, rfl⟩
  · exact ⟨_, _, _, fn_of X rfl rfl rfl, _, X 54 _ rfl, rfl⟩
end
end Mine
end

section
open PySem PySem.W PyProof.Rows
set_option Elab.async false
set_option maxRecDepth 100000
namespace Mine

/-- what is around, the frames known -/
def ardF (d u : Nat) (c : Code) (l : List Env) : Around := ⟨none, d + c.weight, some l, none, u + c.cUnits⟩
theorem Rm.in_ardF {d u : Nat} {st : List Frame} (h : Rm d u st) {c : Code} {l : List Env} (he : c.envs ++ envsOf (st.map Frame.where_) = l) : (Ctx.of c st).In (ardF d u c l) := by
  have h1 : (Ctx.of c st).handled = (ardF d u c l).handled := h.hd
  have h2 : frameCount (Ctx.of c st).below + (Ctx.of c st).code.weight ≤ (ardF d u c l).depth := Nat.add_le_add_right h.dep _
  have h3 : ∀ l', (ardF d u c l).frames = some l' → (Ctx.of c st).code.envs ++ envsOf (Ctx.of c st).below = l' := fun _ hl => by cases hl; exact he
  have h4 : ∀ g, (ardF d u c l).guards = some g → (Ctx.of c st).code.guards ++ guardsOf (Ctx.of c st).below = g := fun _ hg => nomatch hg
  have h5 : (Ctx.of c st).units ≤ (ardF d u c l).units := by
    show c.cUnits + unitsOf _ ≤ u + c.cUnits
    have := h.un
    simp only [Ctx.of]; omega
  exact And.intro h1 (And.intro h2 (And.intro h3 (And.intro h4 h5)))

section
variable {w : World} {Φ : Outcome → Shared → Prop} {α : Type} {c : Code} {st : List Frame} {s : Shared} {d u : Nat}
theorem GG.wrapF (hr : Rm d u st) {l : List Env} (he : c.envs ++ envsOf (st.map Frame.where_) = l) {m : Sem α} {K : α → Sem PySem.Fin} {H : Value → Sem PySem.Fin} {gd lv}
    (h : wpAny (model pw w) (ardF d u c l) m (fun a s' => GG w Φ c st (K a) s') (fun x s' => GG w Φ c st (H x) s') s) : GG w Φ c st (m.wrap K H gd lv) s :=
  fun p => good_wrap K H gd lv m (h _ p (hr.in_ardF he)) (fun _ p' _ h' => h' p') fun _ p' _ h' => h' p'
theorem GG.tree (hr : Rm d u st) {t : Sem PySem.Fin}
    (h : wpAny (model pw w) (ard d u c) t (fun a s' => GG w Φ c st (.pure a) s') (fun x s' => GG w Φ c st (.raise x) s') s) : GG w Φ c st t s := by
  have e : t = t >>= Sem.pure := (Sem.bind_pure t).symm
  rw [e]; exact GG.bind hr h

/-- a def with cells is called: to its body's code -/
theorem GG.call_cells {a : Addr} {o : Obj} {fd : FuncData} {body : List Stmt} {vals : List Value} {binds : List (Str × Value)} (hr : Rm d u st) (hroom : d + (Code.call (.ref a) ⟨vals, []⟩).weight < recursionLimit)
    (ho : s.heap.get? a = some o) (hdata : o.data = .func fd) (hlim : s.heap.NoLimit) (hcd : s.heap.CodeRec fd.code fd.qualname)
    (hbody : fd.body = .stmts body) (hbind : bindArgs fd ⟨vals, []⟩ = pure binds) (hclo : fd.closure = [])
    (hkind : ∀ x ∈ binds, fd.scope.names.lookup x.1 = some .local ∨ (fd.scope.names.lookup x.1 = some .cell ∧ ((cellsFrom (s.heap.objs.size + 1) fd.scope.names []).lookup x.1).isSome = true))
    (h : ∀ s₁, InCallC s (callEnvC fd s.heap.objs.size a).locals (bindL (callEnvC fd s.heap.objs.size a).kindOf binds fun _ => none) (callEnvC fd s.heap.objs.size a).cells
        (bindC (callEnvC fd s.heap.objs.size a).kindOf binds fun _ => none) s₁ →
      GG w Φ (.func body (callEnvC fd s.heap.objs.size a)) st (denote table (.func body (callEnvC fd s.heap.objs.size a))) s₁)
    (hco : fd.scope.isCoroutine = false := by rfl) (hgen : fd.scope.isGenerator = false := by rfl) (hk : fd.scope.kind = .function := by rfl) :
    GG w Φ (.call (.ref a) ⟨vals, []⟩) st (denote table (.call (.ref a) ⟨vals, []⟩)) s := by
  refine GG.tree hr ?_
  show wpAny _ _ (callAny (.ref a) ⟨vals, []⟩) _ _ s
  simp only [callAny]
  refine wpAny_bind (wpAny_load ho ?_)
  obtain ⟨c, oc, vs, tq, hc, hoc, hdc, hq⟩ := hcd
  simp only [hdata, callFunction, hco, hgen, hbody, hc]
  refine wpAny_bind (m := field (.ref c) 1) (wpAny_field hoc hdc hq (wpAny_bind (wpAny_pure ?_)))
  rw [hbind, hclo]
  refine wpAny_bind (wpAny_pure (wpAny_bind (wpAny_newFunctionEnv_cells hk hkind fun env he s' x => ?_)))
  rw [← hc] at he
  subst he
  refine wpAny_bind (wpAny_enterFrame (hlim.keeps x.toInCall.keep) hroom (wpAny_pure ?_))
  refine GG.again rfl ?_
  have := h s' x
  exact this

/-- the body of a def -/
theorem GG.func {body : List Stmt} {env : Env} (hr : Rm d u st) (h : ∀ H', GG w Φ (.func body env) st ((execs body env).wrap (fun f => match f with | .ret v => ret v | _ => ret .none) H' id id) s) :
    GG w Φ (.func body env) st (denote table (.func body env)) s := by
  show GG w Φ _ st (do point; match ← (execs body env).onRaise (leaving env) with | .ret v => ret v | _ => ret .none) s
  refine GG.bind hr (wpAny_point ?_)
  refine GG.assoc0 (GG.onR fun H' => ?_)
  exact h H'

/-- one statement that ends quietly -/
theorem GG.stmt (hr : Rm d u st) {x : Stmt} {r : List Stmt} {env : Env} {K : Flow → Sem PySem.Fin} {H : Value → Sem PySem.Fin} {gd lv}
    (h : wpAny (model pw w) (ard d u c) (exec x env) (fun f s' => f = .next ∧ GG w Φ c st ((execs r env).wrap K H gd lv) s') (fun x s' => GG w Φ c st (H x) s') s) :
    GG w Φ c st ((execs (x :: r) env).wrap K H gd lv) s := by
  rw [execs]
  refine GG.bindw hr (wpAny_mono h (fun f s' ⟨e, h'⟩ => ?_) fun _ _ e => e)
  subst e
  exact h'
/-- one statement that does not -/
theorem GG.loud {x : Stmt} {r : List Stmt} {env : Env} {K : Flow → Sem PySem.Fin} {H : Value → Sem PySem.Fin} {gd lv}
    (h : ∀ K', (∀ s', GG w Φ c st ((execs r env).wrap K H gd lv) s' → GG w Φ c st (K' .next) s') → GG w Φ c st ((exec x env).wrap K' H gd lv) s) :
    GG w Φ c st ((execs (x :: r) env).wrap K H gd lv) s := by
  rw [execs]
  exact GG.assoc (h _ fun s' h' => h')
end

/-- the end of the run -/
theorem GG.halt {w : World} {Φ : Outcome → Shared → Prop} {c : Code} {s : Shared} {f : Flow} (hg : leftWithCleanup s.gens = false) (h : Φ (.done f) s) : GG w Φ c [] (.pure (.done f)) s := by
  intro p
  refine .halt (o := .done f) (s' := s) ?_ h
  unfold stepJ calmJ
  rw [show Thread.calm ⟨.pure (.done f), c, p, []⟩ = true from rfl, Bool.true_or, if_pos rfl]
  simp [PySem.stepK, PySem.step, PySem.finish, hg]
theorem rm0 : Rm 0 0 [] := ⟨rfl, rfl, Nat.le_refl _, Nat.le_refl _⟩
end Mine
end

section
open PySem PySem.W PyProof.Rows
set_option Elab.async false
set_option maxRecDepth 100000
namespace Mine

def lawT : List Stmt := [lawB.getD 7 (.Pass default), lawB.getD 8 (.Pass default), lawB.getD 9 (.Pass default), lawB.getD 10 (.Pass default), lawB.getD 11 (.Pass default), lawB.getD 12 (.Pass default), lawB.getD 13 (.Pass default)]
theorem lawB_is : lawB = lawB.getD 0 (.Pass default) :: lawB.getD 1 (.Pass default) :: lawB.getD 2 (.Pass default) :: lawB.getD 3 (.Pass default) :: lawB.getD 4 (.Pass default) :: lawB.getD 5 (.Pass default) :: lawB.getD 6 (.Pass default) :: lawT := rfl

section
variable {w : World} {A : Around} {E : Value → Shared → Prop} {B : Shared} {s : Shared} {pmL cdL docL pmP cdP docP : Value} {Lf : Addr} {pl rl dE : Addr} {pv rvals : List Value} {ys rcs : List (List Nat)} {n : Nat} {El : Nat → List Nat}

theorem law_rest {Q : Flow → Shared → Prop} {c9 c8 c6 c4 c3 v0 v1 v2 v3 : Option Value} {tn : Tok}
    (S : St B KAll (EqG B) (lawL Lf c9 c8 (some (.ref pl)) c6 (some (.ref rl)) c4 c3 (some (.ref dE)) (some (.int (n : Int) tn)) [v0, v1, v2, v3]) s) (C : LawC B.heap pl rl pv rvals ys rcs n) (T : TopoIn B.heap)
    (hf : FnOk B.heap 28 (prepFd pmP cdP docP)) (hE : EdgesOk w B.heap dE n El) (X : Scc El n ys) (R : Rcs El n rcs) (hn0 : 0 < n) (hEl : ∀ v, (El v).length ≤ 10) (hElt : ∀ v, ∀ o ∈ El v, o < n)
    (hh : A.handled = none) (hd : A.depth < 800) (hu : A.units < 8900) (hfr : A.frames = some [lawEnv pmL cdL docL Lf])
    (h : ∀ s' B', Sub B B' → (∀ b o, B'.heap.get? b = some o → s'.heap.get? b = some o) → s'.gens = B'.gens → s'.os = B'.os → Q (.ret (.bool true)) s') :
    wpAny (model pw w) A (execs lawT (lawEnv pmL cdL docL Lf)) Q E s := by
  have hn := C.n60
  have hyn := X.len
  obtain ⟨Kn, k1, k2, k3, k4, k5, k6, k7⟩ := plain X R hn hn0
  have hfn : ys.flatten.length ≤ n := by
    have := len_sub (m := List.range n) X.nd fun x hx => List.mem_range.mpr ((X.all x).mp hx)
    simpa using this
  unfold lawT
  refine wpAny_execs_cons (law7 S C.nm C.pl C.pv (by omega) hn (chk7 X) hh hu fun s₁ S₁ => ?_)
  refine wpAny_execs_cons (law8 S₁ C (fun xs hx p hp => X.lt hx hp) (chk8a X R) (chk8b X R) hh hu fun s₂ c8' c6' c3' S₂ => ?_)
  refine wpAny_execs_cons (law9 S₂ C.nm T hf hE C.pl C.pv X.nd X.ne (fun x hx => (X.all x).mp hx) hn (fun v _ o ho => (X.all o).mpr (hElt v o ho)) (prt := ptOf ys) (fun xs hx v hv => X.pt hx hv) hEl
    (fun i xs hi q hq => ((mem_dn X hi).mp hq).1) (fun _ => nodup_depsG) (fun xs => Nat.le_trans (deps_len X xs) (by omega)) k1 (by omega) hh hd hu hfr fun s₃ B' bl hS' S₃ hb => ?_)
  have C' := C.keeps hS'.keep
  obtain ⟨_, bv, e, hbl, hbv⟩ := hb
  cases e
  have hbl' : bv.length = Kn.length := by rw [← hbv.length, List.length_map]
  refine wpAny_execs_cons (law10 S₃ fun lv s₄ S₄ => ?_)
  refine wpAny_execs_cons (law11 S₄ C' (fun xs hx p hp => X.lt hx hp) X.ne hh hu fun s₅ c6'' v3' lvv S₅ hlv => ?_)
  refine wpAny_execs_cons (law12 S₅ C'.nm hbl (by omega) hlv k3 (by omega) hh hu fun s₆ S₆ => ?_)
  refine wpAny_execs_cons (law13 S₆ C'.nm C'.pl C'.pv C'.xl C'.xlt hbl hbv k2 hlv (lvN_length _ _ _) k5 k6 k7 hh hu fun s₇ S₇ => ?_)
  exact h s₇ B' hS' S₇.hk S₇.gens S₇.os
end
end Mine
end

section
open PySem PySem.W PyProof.Rows
set_option Elab.async false
set_option maxRecDepth 100000
namespace Mine
local macro_rules | `(tactic| walk_at "mem") => `(tactic| repeat (first | exact List.Mem.head _ | apply List.Mem.tail))
local macro_rules | `(tactic| walk_at "lg") => `(tactic| repeat (first | (with_reducible exact LG.head) | apply LG.tail))
local macro_rules | `(tactic| walk_at "upd") => `(tactic| repeat (first | exact Upd.head | apply Upd.tail))
local macro_rules | `(tactic| walk_at "ls") => `(tactic| repeat (first | (with_reducible exact LS.head) | apply LS.tail))

theorem rebase_of {L : Ledger} {s : Shared} (hl : ∀ p ∈ L, ∃ o, s.heap.get? p.1 = some o ∧ p.2 o) (ho : (L.map (·.1)).Pairwise (· > ·)) : St (hb L s) KAll (EqG (hb L s)) L s :=
  ⟨fun b o e _ => of_hideAll _ e, fun p hp o e => (by rw [show (hb L s).heap.get? p.1 = none from hideAll_none _ (List.mem_map_of_mem hp)] at e; cases e), hl, ho, fun b o e => ⟨o, of_hideAll _ e⟩, rfl, rfl, rfl⟩
theorem hb_seq {L : Ledger} {s : Shared} (hl : ∀ p ∈ L, ∃ o, s.heap.get? p.1 = some o ∧ p.2 o) (hn : NoSeq L) : SeqK s.heap (hb L s).heap := fun b o e ⟨xs, n, hd⟩ => hb_get e fun p hp q => by
  obtain ⟨o', ho', hP⟩ := hl p hp
  rw [q, e] at ho'
  cases ho'
  exact hn p hp o hP xs n hd
theorem plain_seq {h h' : Heap} {l : Addr} {its : Array Value} (x : h.PlainList l its) (k : SeqK h h') : h'.PlainList l its := let ⟨n, e⟩ := x; ⟨n, k _ _ e ⟨_, _, rfl⟩⟩
theorem nats_seq {h h' : Heap} {xs : List Nat} {v : Value} (x : NatsV h xs v) (k : SeqK h h') : NatsV h' xs v := lsv_seq (h := h) (h' := h') (R := NatV) (fun _ _ y => y) x k
theorem seq16 {h : Heap} (t : ∃ ps, h.get? 16 = some (tabObj ps)) : SeqK h (hid16 h) := fun b o e ⟨xs, n, hd⟩ => hid16_get e fun q => by
  obtain ⟨ps, t⟩ := t
  rw [q, t] at e
  cases e
  cases hd
theorem lawL_noseq {Lf : Addr} {c9 c8 c7 c6 c5 c4 c3 c2 c1 : Option Value} {vs : List (Option Value)} : NoSeq (lawL Lf c9 c8 c7 c6 c5 c4 c3 c2 c1 vs) := by
  intro p hp
  unfold lawL at hp
  simp only [List.mem_cons, List.not_mem_nil, or_false] at hp
  rcases hp with rfl | rfl | rfl | rfl | rfl | rfl | rfl | rfl | rfl | rfl <;> first | exact cell_noseq | exact loc_noseq
/-- the lists of reached places -/
theorem rcs_of {n : Nat} {E : Nat → List Nat} {X : Nat} {h : Heap} {is : List Nat} {out : List Value} (p : Paired (ReachV n E X h) is out) :
    ∃ rcs : List (List Nat), rcs.length = is.length ∧ Paired (NatsV h) rcs out ∧ ∀ (j i : Nat) r, is[j]? = some i → rcs[j]? = some r → r.Nodup ∧ (∀ x, x ∈ r ↔ Reach E i x) ∧ ∀ x ∈ r, x < n := by
  induction p with
  | nil => exact ⟨[], rfl, .nil, fun j i r h => by simp at h⟩
  | cons hx _ ih =>
    obtain ⟨rcs, h1, h2, h3⟩ := ih
    obtain ⟨l, vals, xs, e, _, hp, hna, a1, a2, a3⟩ := hx
    refine ⟨xs :: rcs, by simp [h1], .cons ⟨l, vals, e, hp, na_paired hna⟩ h2, fun j i r hi hr => ?_⟩
    cases j with
    | zero =>
      simp only [List.getElem?_cons_zero, Option.some.injEq] at hi hr
      subst hi hr
      exact ⟨a1, a2, a3⟩
    | succ j =>
      simp only [List.getElem?_cons_succ] at hi hr
      exact h3 j i r hi hr
theorem parts_paired {h : Heap} {z : Nat} {l : List Value} {ys : List (List Nat)} (x : Parts h z l ys) : Paired (NatsV h) ys l := by
  induction x with
  | nil => exact .nil
  | cons _ a b _ ih => exact .cons ⟨_, _, rfl, a, na_paired b⟩ ih
theorem eN_len (ns : List Int) (v : Nat) : (eN ns v).length ≤ 10 := by
  unfold eN
  rw [List.length_map, List.length_range]
  omega
end Mine
end

section
open PySem PySem.W PyProof.Rows
set_option Elab.async false
set_option maxRecDepth 100000
namespace Mine
local macro_rules | `(tactic| walk_at "mem") => `(tactic| repeat (first | exact List.Mem.head _ | apply List.Mem.tail))
local macro_rules | `(tactic| walk_at "lg") => `(tactic| repeat (first | (with_reducible exact LG.head) | apply LG.tail))
local macro_rules | `(tactic| walk_at "upd") => `(tactic| repeat (first | exact Upd.head | apply Upd.tail))
local macro_rules | `(tactic| walk_at "ls") => `(tactic| repeat (first | (with_reducible exact LS.head) | apply LS.tail))

theorem hb_os (L : Ledger) (s : Shared) : (hb L s).os = s.os := rfl
theorem hb_gens (L : Ledger) (s : Shared) : (hb L s).gens = s.gens := rfl
/-- what law finds at its call -/
structure Ent (P : Params) (h : Heap) (scr : Addr) (vals : List Value) (ns : List Int) : Prop where
  kx : (hd.heap_39 P).In h
  tb : h.get? 16 = some (tabObj #[])
  nm : Names h
  bat : ∃ mg, h.Ns mainGlobals mg ∧ h.BuiltinsAt mg 16
  sc : h.IsList scr vals.toArray
  nsOk : IntsAre vals ns
  len : ns.length ≤ 63

section
variable {w : World} {Φ : Outcome → Shared → Prop} {c : Code} {st : List Frame} {d u : Nat} {P : Params} {s₁ s : Shared} {scr Lf : Addr} {vals : List Value} {ns : List Int} {pmL cdL docL : Value} {K : Flow → Sem PySem.Fin} {H : Value → Sem PySem.Fin} {lv : List Value → List Value}

/-- what is left to show at the end -/
def Fin1 (w : World) (Φ : Outcome → Shared → Prop) (c : Code) (st : List Frame) (s₁ : Shared) (K : Flow → Sem PySem.Fin) : Prop :=
  ∀ s', OldK s₁.heap s'.heap → s'.os = s₁.os → (∀ (i : Nat) (y : GenState), s'.gens[i]? = some y → y = .finished) → GG w Φ c st (K (.ret (.bool true))) s'


theorem body_late (N : Ent P s₁.heap scr vals ns) (hr : Rm d u st) (hdp : d + c.weight ≤ 700) (hu : u + c.cUnits ≤ 8000) (hfr : c.envs ++ envsOf (st.map Frame.where_) = [lawEnv pmL cdL docL Lf])
    (h80 : 80 < s₁.heap.objs.size) (hg1 : s₁.gens = #[]) {D : Ledger} {c9 c8 c6 c4 c3 v2 v3 : Option Value} {dE lo rl : Addr} {kvs : List (Int × Value)} {ov out : List Value} {tn : Tok} {X : Nat}
    (S : St s₁ KAll (EqG s₁) ((rl, LstP out) :: (lo, LstP ov) :: D ++ (dE, DctP w kvs) :: lawL Lf c9 c8 none c6 (some (.ref rl)) c4 c3 (some (.ref dE)) (some (.int (szN ns : Nat) tn)) [some (.ref scr), some (.ref lo), v2, v3]) s)
    (hLf : Lf = s₁.heap.objs.size) (hE : EdgesD D kvs ns (szN ns)) (hov : NA ov (ordN ns (szN ns))) (hP : Paired (ReachV (szN ns) (eN ns) X s.heap) (List.range (szN ns)) out) (hF : Fin1 w Φ c st s₁ K) :
    GG w Φ c st ((execs (lawB.getD 6 (.Pass default) :: lawT) (lawEnv pmL cdL docL Lf)).wrap K H id lv) s := by
  have hn := szN_le ns
  have hn1 := szN_pos ns
  let L6 : Ledger := lawL Lf c9 c8 none c6 (some (.ref rl)) c4 c3 (some (.ref dE)) (some (.int (szN ns : Nat) tn)) [some (.ref scr), some (.ref lo), v2, v3]
  let LD : Ledger := (rl, LstP out) :: (lo, LstP ov) :: D ++ [(dE, DctP w kvs)]
  have eL : (rl, LstP out) :: (lo, LstP ov) :: D ++ (dE, DctP w kvs) :: L6 = LD ++ L6 := by simp [LD]
  have S' : St s₁ KAll (EqG s₁) (LD ++ L6) s := eL ▸ S
  have hord := S'.ord
  rw [List.map_append, List.pairwise_append] at hord
  have habove : ∀ p ∈ LD, ∀ q ∈ L6, q.1 ≠ p.1 := fun p hp q hq => Nat.ne_of_lt (hord.2.2 p.1 (List.mem_map_of_mem hp) q.1 (List.mem_map_of_mem hq))
  have S6 := S'.drop (List.sublist_append_right LD L6)
  have hsub := S6.sub
  have S7 := S6.rebase
  -- the edges in the new base
  have hdE : (dE == sysModules) = false := by
    have h1 : @LT.lt Nat _ Lf dE := hord.2.2 dE (by simp [LD]) Lf (by simp [L6, lawL])
    have : dE ≠ 1 := by
      have : @LT.lt Nat _ 80 Lf := by rw [hLf]; exact h80
      intro q
      rw [q] at h1
      exact absurd (Nat.lt_trans this h1) (by decide)
    exact beq_eq_false_iff_ne.mpr this
  have hEd6 : EdgesOk w (hb L6 s).heap dE (szN ns) (eN ns) := by
    have Q := rebase_of (L := LD) (s := hb L6 s) (fun p hp => by
      obtain ⟨o, ho, hPo⟩ := S'.led p (List.mem_append_left _ hp)
      exact ⟨o, hb_get ho (habove p hp), hPo⟩) hord.1
    exact hE.ok Q (fun p hp => List.mem_append_left _ (.tail _ (.tail _ hp))) (by simp [LD]) hdE
  have hEds : EdgesOk w s.heap dE (szN ns) (eN ns) := hEd6.keeps fun b o e => of_hideAll _ e
  have hsq6 : SeqK s.heap (hb L6 s).heap := hb_seq S6.led lawL_noseq
  have h16 : (hb L6 s).heap.get? 16 = some (tabObj #[]) := hsub.keep _ _ N.tb
  have h16e : ∃ ps, (hb L6 s).heap.get? 16 = some (tabObj ps) := ⟨_, h16⟩
  obtain ⟨rcs, hrc1, hrc2, hrc3⟩ := rcs_of hP
  have hLf16 : ∀ p ∈ L6, @LT.lt Nat _ 16 p.1 := by
    intro p hp
    have h1 : @LT.lt Nat _ 80 Lf := by rw [hLf]; exact h80
    simp only [L6, lawL, List.mem_cons, List.not_mem_nil, or_false] at hp
    rcases hp with rfl | rfl | rfl | rfl | rfl | rfl | rfl | rfl | rfl | rfl <;> (show 16 < _; omega)
  have S8 : St (hb L6 s) K16 (fun x => x = #[]) (L6 ++ [(16, Tab0)]) s := by
    refine ⟨fun b o e _ => S7.keep b o e trivial, fun p hp o e => ?_, fun p hp => ?_, ?_, S7.live, S7.drawn, S7.os, ?_⟩
    · rcases List.mem_append.mp hp with hp | hp
      · exact absurd trivial (S7.own p hp o e)
      · rw [List.mem_singleton] at hp; subst hp
        exact fun q => q rfl
    · rcases List.mem_append.mp hp with hp | hp
      · exact S7.led p hp
      · rw [List.mem_singleton] at hp; subst hp
        exact ⟨_, S.hk _ _ N.tb, rfl⟩
    · rw [List.map_append, List.pairwise_append]
      refine ⟨S7.ord, by simp, fun a ha b hb => ?_⟩
      obtain ⟨p, hp, rfl⟩ := List.mem_map.mp ha
      simp only [List.map_cons, List.map_nil, List.mem_singleton] at hb
      subst hb
      exact hLf16 p hp
    · exact (show s.gens = s₁.gens from S.gens).trans hg1
  -- the search
  obtain ⟨ys, σ1, hrun, hord1, hys⟩ := search_spec (n := szN ns) (E := eN ns) (fun v _ o ho => eN_lt ns v o ho) (by omega) (f := szN ns) (Nat.le_refl _) (ord := ordN ns (szN ns)) (fun x hx => (ordN_mem ns _ x).mp hx) (fun x hx => (ordN_mem ns _ x).mpr hx)
  have X1 : Scc (eN ns) (szN ns) ys := scc_of hord1 hys
  have R1 : Rcs (eN ns) (szN ns) rcs := by
    rw [List.length_range] at hrc1
    have key : ∀ i < szN ns, (rcs.getD i []).Nodup ∧ (∀ x, x ∈ rcs.getD i [] ↔ Reach (eN ns) i x) ∧ ∀ x ∈ rcs.getD i [], x < szN ns := fun i hi => hrc3 i i _ (List.getElem?_range hi) (getD_some (by omega))
    exact ⟨hrc1, fun i hi => (key i hi).2.2, fun i hi => (key i hi).2.1⟩
  have hrl60 : ∀ r ∈ rcs, r.length ≤ 60 := by
    intro r hr
    obtain ⟨j, hj⟩ := List.mem_iff_getElem?.mp hr
    have hjl : j < szN ns := by
      have := (List.getElem?_eq_some_iff.mp hj).1
      rw [hrc1, List.length_range] at this
      exact this
    obtain ⟨a1, _, a3⟩ := hrc3 j j r (List.getElem?_range hjl) hj
    have := len_sub (m := List.range (szN ns)) a1 fun x hx => List.mem_range.mpr (a3 x hx)
    rw [List.length_range] at this
    omega
  obtain ⟨pm, doc, f21'⟩ := f21 (N.kx.keeps S.hk)
  obtain ⟨mg, hmg, hbat⟩ := N.bat
  have hbat' : s.heap.BuiltinsAt mg 16 := let ⟨bm, o, a, b, c, d, e, r⟩ := hbat; ⟨bm, o, a, b, c, d, S.hk _ _ e, r⟩
  refine GG.loud fun K' hK' => ?_
  refine law_parts (Lw := L6) (Lw' := fun v => lawL Lf c9 c8 (some v) c6 (some (.ref rl)) c4 c3 (some (.ref dE)) (some (.int (szN ns : Nat) tn)) [some (.ref scr), some (.ref lo), v2, v3]) (f := szN ns) (n := szN ns) (E := eN ns) (vs := [some (.ref scr), some (.ref lo), v2, v3]) hr
    (by omega) (by omega) S8 (by show (hideAll _ _).objs.size ≤ _; rw [hideAll_size]; exact Nat.le_refl _) (N.nm.keeps hsub.keep).lim (N.nm.keeps S.hk) (hmg.keeps S.hk) hbat' (c20 (N.kx.keeps S.hk)) f21' hEds
    (S.lst (a := lo) (vs := ov) (.tail _ (.head _))) hov hrun (by have := X1.len; omega) (List.mem_append_left _ (by simp only [L6]; unfold lawL; walk_at "mem")) (by walk_at "lg") (List.mem_append_left _ (by simp only [L6]; unfold lawL; walk_at "mem"))
    (fun v => by simp only [L6]; unfold lawL; walk_at "upd") fun s' acc z l hza S9 hPt hgs => hK' _ ?_
  let L7 : Ledger := lawL Lf c9 c8 (some (.ref acc)) c6 (some (.ref rl)) c4 c3 (some (.ref dE)) (some (.int (szN ns : Nat) tn)) [some (.ref scr), some (.ref lo), v2, v3]
  have hL7 : ∀ p ∈ L7, p ∈ ((acc, LstP l) :: L7 ++ [(16, TabO)] : Ledger) := fun p hp => List.mem_append_left _ (.tail _ hp)
  have hled : ∀ p ∈ L7, ∃ o, s'.heap.get? p.1 = some o ∧ p.2 o := fun p hp => S9.led p (hL7 p hp)
  have S10 : St (hb L7 s') KAll (EqG (hb L7 s')) L7 s' := rebase_of hled (by
    have := S9.ord
    rw [List.map_append, List.pairwise_append] at this
    exact (List.pairwise_cons.mp this.1).2)
  have hsq7 : SeqK s'.heap (hb L7 s').heap := hb_seq hled lawL_noseq
  have kB : ∀ b o, b ≠ 16 → (hb L6 s).heap.get? b = some o → (hb L7 s').heap.get? b = some o := fun b o hne e => hb_get (S9.keep b o e hne) fun p hp q => by
    subst q
    exact S9.own p (hL7 p hp) o e hne
  have kH : ∀ b o, (hid16 (hb L6 s).heap).get? b = some o → (hb L7 s').heap.get? b = some o := fun b o e => kB b o (hid16_of e).2 (hid16_of e).1
  have KX' : (hd.heap_39 P).In (hb L7 s').heap := fun a o e => kB a o (by
    rintro rfl
    have : (hd.heap_39 P).lookup 16 = none := rfl
    rw [this] at e
    cases e) (hsub.keep _ _ (N.kx a o e))
  obtain ⟨pmP, cdP, docP, f28'⟩ := f28 KX'
  have C : LawC (hb L7 s').heap acc rl l out ys rcs (szN ns) := by
    refine ⟨(names16 (N.nm.keeps hsub.keep)).keeps kH, plain_seq (S9.lst (a := acc) (vs := l) (.head _)) hsq7, Mine.Paired.mono (parts_paired hPt) fun _ _ y => nats_seq y hsq7,
      PlainList.keeps (plain16 h16e (plain_seq (S.lst (a := rl) (vs := out) (.head _)) hsq6)) kH, Mine.Paired.mono hrc2 fun _ _ y => ?_, R1.len, by omega, hrl60, fun xs hx => ?_, ?_⟩
    · exact stays_nat.list _ _ _ _ (nats_seq (nats_seq y hsq6) (seq16 h16e)) kH
    · have := X1.xlen hx; omega
    · have := X1.len; omega
  refine GG.wrapF hr hfr (law_rest S10 C (fTopo KX') f28' ((edges16 h16e hEd6).keeps kH) X1 R1 hn1 (eN_len ns) (fun v o ho => eN_lt ns v o ho) rfl (by show d + c.weight < 800; omega) (by show u + c.cUnits < 8900; omega) rfl fun s'' B' hS' hk hgg hoo => ?_)
  refine hF s'' ?_ ?_ ?_
  · have hkeep : ∀ b o, b ≠ 16 → s₁.heap.get? b = some o → s''.heap.get? b = some o := fun b o hne e => hk b o (hS'.keep b o (kB b o hne (hsub.keep b o e)))
    obtain ⟨o16, ho16, ps, rfl⟩ := S9.led (16, TabO) (List.mem_append_right _ (.head _))
    have ht : s''.heap.get? 16 = some (tabObj ps) := hk _ _ (hS'.keep _ _ (hb_get ho16 fun p hp q => by
      have := S9.ord
      rw [List.map_append, List.pairwise_append] at this
      have h1 : @GT.gt Nat _ p.1 16 := this.2.2 p.1 (List.mem_map_of_mem (.tail _ hp)) 16 (by simp)
      rw [q] at h1
      exact absurd h1 (by decide)))
    have hct : isCodeTable s₁.heap 16 := by
      obtain ⟨o, vs, _, _, _, _, _, _, _, e1, e2, e3, e4, _⟩ := c20 N.kx
      exact ⟨20, o, vs, e1, e2, e3, e4⟩
    refine ⟨fun b o e => ?_, fun b o e => ?_⟩
    · by_cases hb : b = 16
      · subst hb
        rw [N.tb] at e
        cases e
        exact .inr (.inl ⟨hct, rfl, #[], ps, rfl, by rw [ht]; simp [tabObj]⟩)
      · exact .inl (hkeep b o hb e)
    · by_cases hb : b = 16
      · subst hb; exact ⟨_, ht⟩
      · exact ⟨o, hkeep b o hb e⟩
  · have e1 : s''.os = (hb L7 s').os := hoo.trans hS'.os
    have e2 : (hb L7 s').os = s'.os := hb_os L7 s'
    have e3 : (hb L6 s).os = s₁.os := hsub.os
    have e4 : s'.os = (hb L6 s).os := S9.os
    rw [e1, e2, e4, e3]
  · intro i y hy
    have e2 : (hb L7 s').gens = s'.gens := hb_gens L7 s'
    rw [hgg, hS'.gens, e2] at hy
    exact hgs i y hy
end
end Mine
end

section
open PySem PySem.W PyProof.Rows
set_option Elab.async false
set_option maxRecDepth 100000
namespace Mine
local macro_rules | `(tactic| walk_at "mem") => `(tactic| repeat (first | exact List.Mem.head _ | apply List.Mem.tail))

section
variable {w : World} {Φ : Outcome → Shared → Prop} {c : Code} {st : List Frame} {d u : Nat} {P : Params} {s₁ s : Shared} {scr Lf : Addr} {vals : List Value} {ns : List Int} {pmL cdL docL : Value} {K : Flow → Sem PySem.Fin} {H : Value → Sem PySem.Fin} {lv : List Value → List Value}

theorem body_all (N : Ent P s₁.heap scr vals ns) (hr : Rm d u st) (hdp : d + c.weight ≤ 700) (hu : u + c.cUnits ≤ 8000) (hfr : c.envs ++ envsOf (st.map Frame.where_) = [lawEnv pmL cdL docL Lf])
    (h80 : 80 < s₁.heap.objs.size) (hg1 : s₁.gens = #[]) (hLf : Lf = s₁.heap.objs.size)
    (S : St s₁ KAll (EqG s₁) (lawL Lf none none none none none none none none none [some (.ref scr), none, none, none]) s) (hF : Fin1 w Φ c st s₁ K) :
    GG w Φ c st ((execs lawB (lawEnv pmL cdL docL Lf)).wrap K H id lv) s := by
  obtain ⟨pmA, cdA, docA, fA⟩ := f68 N.kx
  obtain ⟨pmR, cdR, docR, fR⟩ := f75 N.kx
  have I : LawIn s₁.heap pmA cdA docA pmR cdR docR scr vals ns := ⟨N.nm, fA, fR, N.sc, N.nsOk, N.len⟩
  have hd8 : (ard d u c).depth < 800 := by show d + c.weight < 800; omega
  have hLD : ∀ {dE : Addr} {PE : OP} {D : Ledger} {L : Ledger} {s : Shared}, St s₁ KAll (EqG s₁) (D ++ (dE, PE) :: L) s → dE = dE := fun _ => rfl
  rw [lawB_is]
  refine GG.stmt hr (law0 S I hd8 fun t0 sA SA => ⟨rfl, ?_⟩)
  refine GG.stmt hr (law1 (w := w) SA fun dE sB SB => ⟨rfl, ?_⟩)
  refine GG.stmt hr (law2 SB I rfl hd8 fun D kvs c4 c3 sC SC hE => ⟨rfl, ?_⟩)
  rw [List.append_cons] at SC
  refine GG.stmt hr (law3 SC fun lo sD SD => ⟨rfl, ?_⟩)
  have e1 : ∀ L : Ledger, (lo, LstP []) :: (D ++ [(dE, DctP w kvs)]) ++ L = (lo, LstP []) :: D ++ (dE, DctP w kvs) :: L := fun L => by simp
  rw [e1] at SD
  refine GG.stmt hr (law4 SD I rfl hd8 fun ov c3' sE SE hov => ⟨rfl, ?_⟩)
  have hdE : (dE == sysModules) = false := by
    have ho := SE.ord
    have h1 : @LT.lt Nat _ Lf dE := by
      rw [List.cons_append, List.map_cons, List.pairwise_cons, List.map_append, List.pairwise_append] at ho
      have h2 := ho.2.2.1
      rw [List.map_cons, List.pairwise_cons] at h2
      exact h2.1 Lf (by simp [lawL])
    have h3 : @LT.lt Nat _ 80 Lf := by rw [hLf]; exact h80
    have : dE ≠ 1 := by
      intro q
      rw [q] at h1
      exact absurd (Nat.lt_trans h3 h1) (by decide)
    exact beq_eq_false_iff_ne.mpr this
  refine GG.stmt hr (law5 SE hE hdE I rfl hd8 fun rl out X sF SF hX hP => ⟨rfl, ?_⟩)
  exact body_late N hr hdp hu hfr h80 hg1 SF hLf hE hov hP hF
end

theorem law_bind (a pm cd doc : Value) : bindArgs (lawFd pm cd doc) ⟨[a], []⟩ = pure [(("script" : Str), a)] := by with_unfolding_all rfl
/-- the call of law -/
theorem call_law {w : World} {Φ : Outcome → Shared → Prop} {P : Params} {s₁ : Shared} {scr : Addr} {vals : List Value} {ns : List Int} {mg : Str → Option Value} (N : Ent P s₁.heap scr vals ns) (hg1 : s₁.gens = #[]) (hmg : s₁.heap.Ns mainGlobals mg) (hl : mg "law" = some (.ref 80))
    (hΦ : ∀ s', OldK s₁.heap s'.heap → s'.os = s₁.os → (∀ (i : Nat) (y : GenState), s'.gens[i]? = some y → y = .finished) → Φ (.done (.ret (.bool true))) s') :
    GG w Φ (.builtin "claim.caller" {}) [] (callTree "law" [.ref scr]) s₁ := by
  obtain ⟨pmL, cdL, docL, o, ho, hdat, hcd⟩ := f80 N.kx
  have h80 : 80 < s₁.heap.objs.size := Heap.lt_size ho
  unfold callTree
  refine GG.bind rm0 (wpAny_nsGet hmg ?_)
  rw [hl]
  show GG w Φ _ [] (PySem.call (.ref 80) [.ref scr] >>= fun v => ret v) s₁
  refine GG.assoc0 (GG.call fun p => ?_)
  have hwc : (Code.builtin "claim.caller" {}).weight ≤ 301 := by decide +kernel
  have huc : (Code.builtin "claim.caller" {}).cUnits ≤ 4 := by decide +kernel
  refine GG.call_cells (body := lawB) (rm0.ret _ _ _ _ _ _) (by show 0 + _ + 0 < _; simp only [recursionLimit]; omega) ho hdat N.nm.lim hcd rfl (law_bind _ _ _ _) rfl ?_ fun s x => ?_
  · intro q hq
    rw [List.mem_singleton] at hq
    subst hq
    exact .inl rfl
  have S := St.ofC x (ks := ksL) (by
    show ([s₁.heap.objs.size + 9, s₁.heap.objs.size + 8, s₁.heap.objs.size + 7, s₁.heap.objs.size + 6, s₁.heap.objs.size + 5, s₁.heap.objs.size + 4, s₁.heap.objs.size + 3, s₁.heap.objs.size + 2, s₁.heap.objs.size + 1] : List Nat).Pairwise (· > ·)
    simp) (by
    intro q hq
    replace hq : q ∈ [(("levels" : Str), s₁.heap.objs.size + 9), (("place" : Str), s₁.heap.objs.size + 8), (("parts" : Str), s₁.heap.objs.size + 7), (("part" : Str), s₁.heap.objs.size + 6), (("reached" : Str), s₁.heap.objs.size + 5), (("number" : Str), s₁.heap.objs.size + 4), (("k" : Str), s₁.heap.objs.size + 3), (("edges" : Str), s₁.heap.objs.size + 2), (("size" : Str), s₁.heap.objs.size + 1)] := hq
    simp only [List.mem_cons, List.not_mem_nil, or_false] at hq
    rcases hq with rfl | rfl | rfl | rfl | rfl | rfl | rfl | rfl | rfl <;> rfl)
  replace S : St s₁ KAll (EqG s₁) (lawL s₁.heap.objs.size none none none none none none none none none [some (.ref scr), none, none, none]) s := S
  refine GG.func (rm0.ret _ _ _ _ _ _) fun H' => ?_
  refine body_all N (rm0.ret _ _ _ _ _ _) (by show 0 + _ + 1 ≤ _; omega) (by show 0 + _ + 3 ≤ _; omega) rfl h80 hg1 rfl S fun s' h1 h2 h3 => ?_
  refine GG.done (.ret (.bool true)) (GG.halt ?_ (hΦ s' h1 h2 h3))
  unfold leftWithCleanup
  rw [Array.any_eq_false]
  intro i hi
  rw [h3 i _ (Array.getElem?_eq_getElem hi)]
  simp
end Mine
end

open PySem PySem.W PyProof.Rows
set_option Elab.async false
set_option maxRecDepth 100000
namespace Mine

theorem mg_of {K : Frag} {h : Heap} (X : K.In h) {a : Addr} {o : Obj} {es : Array DictEntry} {ep : Nat} {m : Str → Option Value} (hm : h.Ns a m) (hl : K.lookup a = some o) (hd : o.data = .dict es ep) (x : Str) : m x = nsFind es x := by
  obtain ⟨o', es', ep', e, e2, _, e3⟩ := hm
  rw [X _ _ hl] at e
  cases e
  rw [hd] at e2
  cases e2
  exact (e3 x).symm
theorem mg_at {P : Params} {h : Heap} (X : (hd.heap_39 P).In h) {m : Str → Option Value} (hm : h.Ns mainGlobals m) : m "strongly_connected_components" = some (.ref 21) ∧ m "prepare_sccs" = some (.ref 28) ∧ m "topsort" = some (.ref 57) ∧ m "_law_at" = some (.ref 68) ∧ m "_law_reached" = some (.ref 75) ∧
    (∀ x ∈ (["len", "range", "sorted", "list", "enumerate", "max", "tuple", "StopIteration"] : List Str), m x = none) ∧ m "law" = some (.ref 80) ∧ m "__builtins__" = some (.ref 4) := by
  have key := fun x => mg_of X hm rfl rfl x
  refine ⟨(key _).trans rfl, (key _).trans rfl, (key _).trans rfl, (key _).trans rfl, (key _).trans rfl, fun x hx => ?_, (key _).trans rfl, (key _).trans rfl⟩
  simp only [List.mem_cons, List.not_mem_nil, or_false] at hx
  rcases hx with rfl | rfl | rfl | rfl | rfl | rfl | rfl | rfl <;> exact (key _).trans rfl

theorem ent_of {P : Params} {h : Heap} {p : Program} {loose : List Str} {mean : ExcName → Option Value} {mg mb : Str → Option Value} {scr : Addr} {vals : List Value} {ns : List Int} (X : (hd.heap_39 P).In h) (T : Top p loose mean mg mb h) (ht : h.get? 16 = some (tabObj #[]))
    (hs : h.IsList scr vals.toArray) (hi : IntsAre vals ns) (hl : ns.length ≤ 63) : Ent P h scr vals ns := by
  obtain ⟨g1, g2, g3, g4, g5, g6, g7, g8⟩ := mg_at X T.g
  have bb : ∀ x : Str, x ≠ "__name__" → mb x = bootBuiltins x := T.builtins
  refine ⟨X, ht, ⟨T.nolimit, mg, mb, T.g, T.b, g1, g2, g3, g4, g5, g6, ?_⟩, ⟨mg, T.g, ?_⟩, hs, hi, hl⟩
  · exact ⟨(bb _ (by decide)).trans rfl, (bb _ (by decide)).trans rfl, (bb _ (by decide)).trans rfl, (bb _ (by decide)).trans rfl, (bb _ (by decide)).trans rfl, (bb _ (by decide)).trans rfl, (bb _ (by decide)).trans rfl, (bb _ (by decide)).trans rfl⟩
  · obtain ⟨bm, ob, b1, b2, b3, b4, b5, b6⟩ := T.bmain
    rw [g8] at b1
    cases b1
    exact ⟨4, ob, g8, b2, by decide, by decide, b3, b4, b5, b6⟩
end Mine
set_option maxHeartbeats 8000000 in
theorem PySem.Challenge.cw_ft0015_01_holds : PySem.Challenge.rw_ft0015_01.Holds := by
  refine Mine.hd ?_
  intro w s₀ s₁ mg mb G Y fa o pm cd doc dV kV ho hdd hcd hD hmg hg args vals as hpre hlay hrd hwl hlo
  have KX := km_in_of Y
  have KT := km_tabs_of Y
  clear Y
  refine Ground.open G ?_
  intro T B D TE TW
  clear hdd B D TE TW hcd ho hD
  wrow_args hpre hlay hrd hwl hlo
  rename_i ns _ _ _ _ _ _ _ scr vs _ hl _ _ _ hi _ hlen _
  have N := Mine.ent_of KX T (KT 16 (.head _)) hl hi (by omega)
  refine Mine.call_law N hg T.g (Mine.mg_at KX T.g).2.2.2.2.2.2.1 (fun s' h1 h2 h3 => ?_) _
  refine ⟨.bool true, rfl, .inl ⟨.bool true, .bool true, [], rfl, fun cls => rfl, .bool true, by wrow_post, fun _ => ⟨List.nodup_nil, fun a h => nomatch h⟩⟩, h1, h2, fun y hy => ?_⟩
  obtain ⟨i, hi, rfl⟩ := Array.getElem_of_mem hy
  rw [h3 i _ (Array.getElem?_eq_getElem hi)]
  rfl
