import PyProof.Rows.All
import Wide.All
import OpenK.AllK
import Wide.FinOn
import Lean
import PySem.Challenge.RW_te0076_05
open PySem PySem.W PyProof.Rows
set_option Elab.async false
set_option linter.all false
set_option genInjectivity false
set_option genSizeOf false
set_option genSizeOfSpec false
set_option genCtorIdx false
set_option compiler.extract_closed false
set_option bootstrap.genMatcherCode false
section
set_option tactic.hygienic false
open PySem PySem.W PyProof.Rows PySem.Calls PySem.Spec
namespace Mine.Internal
noncomputable abbrev Led := List (Addr × Obj)

theorem wp_weaken {α : Type} {M : Model} {A A' : Around} {t : Sem α} {Q : α → Shared → Prop} {E : Value → Shared → Prop} {s : Shared}
    (h1 : A.handled = A'.handled) (h2 : A.depth ≤ A'.depth) (h3 : A'.frames = A.frames) (h4 : A'.guards = none) (h5 : A.units ≤ A'.units)
    (h : wpAny M A' t Q E s) : wpAny M A t Q E s := fun Γ p hΓ =>
  h Γ p ⟨hΓ.1.trans h1, Nat.le_trans hΓ.2.1 h2, fun l hl => hΓ.2.2.1 l (h3 ▸ hl), fun g hg => (by rw [h4] at hg; cases hg), Nat.le_trans hΓ.2.2.2.2 h5⟩


structure Later (s s' : Shared) : Prop where
  toks : s.toks ≤ s'.toks
  size : s.heap.objs.size ≤ s'.heap.objs.size
  dead : ∀ a, a < s.heap.objs.size → s.heap.get? a = none → s'.heap.get? a = none
theorem Later.refl (s : Shared) : Later s s := ⟨Nat.le_refl _, Nat.le_refl _, fun _ _ h => h⟩
theorem Later.trans {a b c : Shared} (x : Later a b) (y : Later b c) : Later a c :=
  ⟨Nat.le_trans x.toks y.toks, Nat.le_trans x.size y.size, fun i h1 h2 => y.dead i (Nat.lt_of_lt_of_le h1 x.size) (x.dead i h1 h2)⟩
theorem Later.same {s s' : Shared} (h1 : s'.toks = s.toks) (h2 : s'.heap = s.heap) : Later s s' := ⟨by rw [h1]; exact Nat.le_refl _, by rw [h2]; exact Nat.le_refl _, fun a _ h => by rw [h2]; exact h⟩
theorem Later.via {s s1 s' : Shared} (ih : Later s1 s') (h1 : s1.toks = s.toks) (h2 : s1.heap = s.heap) : Later s s' := (Later.same h1 h2).trans ih
theorem Later.upd {s : Shared} {a : Addr} {f : Obj → Obj} (h : (s.heap.get? a).isSome = true) : Later s { s with heap := s.heap.update a f } :=
  ⟨Nat.le_refl _, Nat.le_of_eq (Heap.size_after_update ..).symm, fun b _ hb => by
    have hne : a ≠ b := fun e => by rw [e, hb] at h; cases h
    exact (Heap.get?_update_other s.heap f hne).trans hb⟩
theorem Later.push {s : Shared} {o : Obj} : Later s { s with heap := s.heap.push o } := by
  refine ⟨Nat.le_refl _, by rw [Heap.size_push]; exact Nat.le_succ _, fun b hlt hb => ?_⟩
  show (s.heap.push o).get? b = none
  cases q : (s.heap.push o).get? b with
  | none => rfl
  | some x =>
    obtain ⟨q1, q2⟩ := Heap.get?_some_iff.mp q
    have hne : b ≠ s.heap.objs.size := Nat.ne_of_lt hlt
    have q3 : s.heap.objs[b]? = some x := by
      have e : (s.heap.push o).objs = s.heap.objs.push o := by cases s.heap; rfl
      rw [e, Array.getElem?_push, if_neg hne] at q1
      exact q1
    have : s.heap.get? b = some x := Heap.get?_some_iff.mpr ⟨q3, q2⟩
    rw [hb] at this; cases this
theorem Later.tick {s : Shared} : Later s { s with toks := s.toks + 1 } := ⟨Nat.le_succ _, Nat.le_refl _, fun _ _ h => h⟩
theorem runs_later {M : Model} {Γ : PySem.Ctx} {p : Pos} {t : Sem Fin} {fs : List Frame} {s s' : Shared} {e : End} (h : Runs M Γ p t fs s e s') : Later s s' := by
  induction h with
  | done => exact .refl _
  | raise => exact .refl _
  | again _ _ ih => exact ih
  | rule _ ih => exact ih
  | «at» _ ih => exact ih
  | load _ _ ih => exact ih
  | update h _ ih => exact (Later.upd h).trans ih
  | loadIfAlive _ ih => exact ih
  | point _ ih => exact ih
  | alloc _ ih => exact Later.push.trans ih
  | fresh _ ih => exact Later.tick.trans ih
  | ask _ ih => exact ih
  | choose _ _ ih => exact Later.via ih rfl rfl
  | os _ ih => exact Later.via ih rfl rfl
  | handled _ ih => exact ih
  | genState _ _ ih => exact ih
  | stack _ ih => exact ih
  | thread _ ih => exact ih
  | newGen _ ih => exact Later.via ih rfl rfl
  | call _ _ i1 i2 => exact i1.trans i2
  | callSusp _ i1 => exact i1
  | yield => exact .refl _
  | resumeFresh _ _ _ _ i1 i2 => exact Later.via (i1.trans (Later.via i2 rfl rfl)) rfl rfl
  | resumeSuspended _ _ _ _ i1 i2 => exact Later.via (i1.trans (Later.via i2 rfl rfl)) rfl rfl
  | resumeJustStarted _ _ _ ih => exact ih
  | resumeThrowFresh _ _ ih => exact Later.via ih rfl rfl
  | resumeRunning _ _ ih => exact ih
  | resumeFinished _ _ ih => exact ih
  | segRet _ _ i1 i2 => exact i1.trans i2
  | segGen _ _ i1 i2 => exact i1.trans (Later.via i2 rfl rfl)
  | segSuspOut _ _ i1 => exact i1
  | segSuspGen _ _ _ _ i1 i2 => exact i1.trans (Later.via i2 rfl rfl)
noncomputable abbrev topA (D U : Nat) (env : Env) (outer : List Env) : Around := { handled := none, depth := D, frames := some (env :: outer), guards := none, units := U }

noncomputable abbrev CPost := Value → Led → Led → Prop
noncomputable def noF (P : Value → Led → Prop) : CPost := fun v fr l => fr = [] ∧ P v l
noncomputable def CEnd (g : Heap) (lo : Led) (Post : CPost) (s₁ : Shared) (v : Value) (s' : Shared) : Prop :=
  ∃ L' m' fr l' h' tk', s' = { s₁ with heap := h', toks := tk' } ∧ Fr g L' h' m' ∧ News g L' h' (fr ++ l') ∧ (∀ p ∈ fr, ∀ q ∈ lo, p.1 ≠ q.1) ∧ Post v fr l'

theorem cend {g : Heap} {lo : Led} {P : Value → Led → Prop} {s₁ : Shared} {v : Value} {L' : Addr} {m' : Str → Option Value} {l l' : Led} {h' : Heap} {tk' : Nat}
    (F : Fr g L' h' m') (N : News g L' h' l') (hs : ∀ p ∈ l, p ∈ l') (hp : P v l) : CEnd g lo (noF P) s₁ v { s₁ with heap := h', toks := tk' } :=
  ⟨L', m', [], l, h', tk', rfl, F, fun p hp => N p (hs p hp), (fun _ h => nomatch h), rfl, hp⟩
theorem cendF {g : Heap} {lo : Led} {P : CPost} {s₁ : Shared} {v : Value} {L' : Addr} {m' : Str → Option Value} {fr l l' : Led} {h' : Heap} {tk' : Nat}
    (F : Fr g L' h' m') (N : News g L' h' l') (hs : ∀ p ∈ fr ++ l, p ∈ l') (hf : ∀ p ∈ fr, ∀ q ∈ lo, p.1 ≠ q.1) (hp : P v fr l) : CEnd g lo P s₁ v { s₁ with heap := h', toks := tk' } :=
  ⟨L', m', fr, l, h', tk', rfl, F, fun p hp => N p (hs p hp), hf, hp⟩

theorem code_weaken {M : Model} {A A' : Around} {c : Code} {R : Result → Shared → Prop} {s : Shared}
    (h1 : A.handled = A'.handled) (h2 : A.depth ≤ A'.depth) (h3 : A'.frames = A.frames) (h4 : A'.guards = none) (h5 : A.units ≤ A'.units)
    (h : codeAny M A' c R s) : codeAny M A c R s := fun Γ p hc hΓ =>
  h Γ p hc ⟨hΓ.1.trans h1, Nat.le_trans hΓ.2.1 h2, fun l hl => hΓ.2.2.1 l (h3 ▸ hl), fun g hg => (by rw [h4] at hg; cases hg), Nat.le_trans hΓ.2.2.2.2 h5⟩

noncomputable def CtrC (prog : Program) (w : World) (K : Frag) (TP : Heap → Prop) (D U : Nat) (f : Value) (args : Args) (l : Led) (Post : CPost) : Prop :=
  ∀ (A A₀ : Around) (base h₀ : Heap) (env : Env) (outer : List Env) (L : Addr) (m : Str → Option Value) (s : Shared) (R : Result → Shared → Prop) (rest : Led),
    Below A₀ base outer h₀ → Fr h₀ L s.heap m → K.In h₀ → News h₀ L s.heap (l ++ rest) → TP h₀ →
    A.frames = some (env :: outer) → env.frame = some L → env.scope.kind = .function → A.handled = none → A.depth ≤ D → A.units ≤ U →
    (∀ p ∈ rest, ∀ q ∈ l, p.1 ≠ q.1) →
    (∀ v fr l' h' tk', Post v fr l' → s.toks ≤ tk' → (∀ p ∈ fr, ∀ r ∈ l ++ rest, @LT.lt Nat _ r.1 p.1) → Fr h₀ L h' m → News h₀ L h' (fr ++ l' ++ rest) → R (.ok (.ret v)) { s with heap := h', toks := tk' }) →
    codeAny (model prog w) A (.call f args) R s

noncomputable def Ctr (prog : Program) (w : World) (K : Frag) (TP : Heap → Prop) (D U : Nat) (t : Sem Value) (l : Led) (Post : CPost) : Prop :=
  ∀ (A A₀ : Around) (base h₀ : Heap) (env : Env) (outer : List Env) (L : Addr) (m : Str → Option Value) (s : Shared) (Q E : Value → Shared → Prop) (rest : Led),
    Below A₀ base outer h₀ → Fr h₀ L s.heap m → K.In h₀ → News h₀ L s.heap (l ++ rest) → TP h₀ →
    A.frames = some (env :: outer) → env.frame = some L → env.scope.kind = .function → A.handled = none → A.depth ≤ D → A.units ≤ U →
    (∀ p ∈ rest, ∀ q ∈ l, p.1 ≠ q.1) →
    (∀ v fr l' h' tk', Post v fr l' → s.toks ≤ tk' → (∀ p ∈ fr, ∀ r ∈ l ++ rest, @LT.lt Nat _ r.1 p.1) → Fr h₀ L h' m → News h₀ L h' (fr ++ l' ++ rest) → Q v { s with heap := h', toks := tk' }) →
    wpAny (model prog w) A t Q E s

theorem CtrC.call {prog : Program} {w : World} {K : Frag} {TP : Heap → Prop} {D U : Nat} {f : Value} {pos : List Value} {kw : List (Str × Value)} {l : Led} {Post : CPost}
    (C : CtrC prog w K TP D U f ⟨pos, kw⟩ l Post) : Ctr prog w K TP D U (PySem.call f pos kw) l Post := by
  intro A A₀ base h₀ env outer L m s Q E rest B F X N T hA hf hke hh hd hu hne hQ
  exact wpAny_call (C A A₀ base h₀ env outer L m s _ rest B F X N T hA hf hke hh hd hu hne hQ)
theorem CtrC.bound {prog : Program} {w : World} {K : Frag} {TP : Heap → Prop} {D U : Nat} {f self : Value} {q : Addr} {pos : List Value} {kw : List (Str × Value)} {l : Led} {Post : CPost}
    (C : CtrC prog w K TP D U f ⟨self :: pos, kw⟩ l Post) (hql : ∀ p ∈ l, q ≠ p.1) :
    Ctr prog w K TP D U (PySem.call (.ref q) pos kw) ((q, methodObj f self) :: l) (fun v fr l' => ∃ l'', l' = (q, methodObj f self) :: l'' ∧ Post v fr l'') := by
  intro A A₀ base h₀ env outer L m s Q E rest B F X N T hA hf hke hh hd hu hne hQ
  have N2 : News h₀ L s.heap (l ++ (q, methodObj f self) :: rest) := fun p hp => N p (by
    simp only [List.cons_append, List.mem_append, List.mem_cons] at hp ⊢
    rcases hp with h | h | h
    · exact .inr (.inl h)
    · exact .inl h
    · exact .inr (.inr h))
  refine wpAny_call (method_call (N (q, methodObj f self) (List.mem_append_left _ (List.mem_cons_self ..))).1 (C A A₀ base h₀ env outer L m s _ ((q, methodObj f self) :: rest) B F X N2 T hA hf hke hh hd hu (fun p hp r hr => ?_) (fun v fr l' h' tk' hp ht hfr F' N' => ?_)))
  · rcases List.mem_cons.mp hp with rfl | hp
    · exact hql r hr
    · exact hne p hp r (List.mem_cons_of_mem _ hr)
  · refine hQ v fr ((q, methodObj f self) :: l') h' tk' ⟨l', rfl, hp⟩ ht (fun p hp r hr => hfr p hp r ?_) F' (fun p hp => N' p ?_)
    · simp only [List.cons_append, List.mem_append, List.mem_cons] at hr ⊢
      rcases hr with h | h | h
      · exact .inr (.inl h)
      · exact .inl h
      · exact .inr (.inr h)
    · simp only [List.cons_append, List.mem_append, List.mem_cons] at hp ⊢
      rcases hp with (h | h | h) | h
      · exact .inl (.inl h)
      · exact .inr (.inl h)
      · exact .inl (.inr h)
      · exact .inr (.inr h)

theorem fresh_gt {s s' : Shared} {h₀ : Heap} {L : Addr} {l rest fr : Led} (lat : Later s s') (N : News h₀ L s.heap (l ++ rest)) (hn : ∀ p ∈ fr, ∀ o, (hideAll s.heap (l.map (·.1))).get? p.1 = some o → False)
    (hh : ∀ p ∈ fr, s'.heap.get? p.1 ≠ none) (hfr : ∀ p ∈ fr, ∀ q ∈ l, p.1 ≠ q.1) : ∀ p ∈ fr, ∀ r ∈ l ++ rest, @LT.lt Nat _ r.1 p.1 := fun p hp r hr => by
  refine Nat.lt_of_lt_of_le (Heap.lt_size (N r hr).1) (Nat.le_of_not_lt fun q => hh p hp (lat.dead p.1 q ?_))
  cases q : s.heap.get? p.1 with
  | none => rfl
  | some o =>
    refine (hn p hp o (hideAll_get (l.map (·.1)) q fun hm => ?_)).elim
    obtain ⟨z, hz, e⟩ := List.mem_map.mp hm
    exact hfr p hp z hz e.symm
theorem ctr_intro1 {prog : Program} {w : World} {K : Frag} {TP : Heap → Prop} {D U : Nat} {l : Led} {Post : CPost}
    {name qual : Str} {params : Arguments} {body : List Stmt} {scope : Scope} {dV kV doc pm cdv ct oc : Value} {an od : Option Addr} {osl : Array (Option Value)} {f : Addr} {pos : List Value} {kw : List (Str × Value)} {binds : List (Str × Value)}
    (hT : ∀ h h' : Heap, TP h → h.StaysIn h' → TP h') (hlim : ∀ h : Heap, TP h → h.NoLimit)
    (ho : K.lookup f = some ⟨oc, od, .func (fnOf name qual params body scope dV kV doc pm an cdv ct), osl⟩) (hcd : codeIn K cdv qual = true) (hD : D < recursionLimit)
    (hbind : ∀ s : Shared, K.In s.heap → BindsTo s (fnOf name qual params body scope dV kV doc pm an cdv ct) ⟨pos, kw⟩ binds) (hloc : ∀ y ∈ binds, scope.names.lookup y.1 = some .local)
    (h : ∀ (A : Around) (base g : Heap) (env : Env) (outer : List Env) (L' : Addr) (h₁ : Heap) (s : Shared) (tk : Nat),
      Below A base (env :: outer) g → Fr g L' h₁ (fun y => binds.reverse.lookup y) → K.In g → News g L' h₁ l → TP g → (∀ p ∈ l, p.1 < L') → @LE.le Nat _ binds.length tk →
      wpAny (model prog w) ((topA D (U + 1) env outer).deeper (envOf qual scope L' f cdv)) (execs body (envOf qual scope L' f cdv))
        (fun fl s' => CEnd g l Post s (match fl with | .ret v => v | _ => .none) s') (fun _ _ => False) { s with heap := h₁, toks := tk })
    (hcell : ∀ x ∈ scope.names, x.2 ≠ .cell) (hco : scope.isCoroutine = false) (hgen : scope.isGenerator = false) (hk : scope.kind = .function) :
    CtrC prog w K TP D U (.ref f) ⟨pos, kw⟩ l Post := by
  intro A A₀ base h₀ env outer L m s R rest B F X N T hA hf hke hh hd hu hne hQ
  have Ns : News h₀ L s.heap l := fun p hp => N p (List.mem_append_left _ hp)
  refine code_weaken (A' := topA D U env outer) hh hd hA.symm rfl hu ?_
  have hA' : (topA D U env outer).frames = some (env :: outer) := rfl
  obtain ⟨FG, BG, st, lv⟩ := groundX (A := topA D U env outer) (R := fun _ _ => True) B F Ns hA' hf hke
  have X' : K.In s.heap := X.keeps F.keep
  have key : codeAny (model prog w) (topA D U env outer) (.call (.ref f) ⟨pos, kw⟩) (fun r s' => ∃ v, r = .ok (.ret v) ∧ CEnd (hideAll s.heap (l.map (·.1))) l Post s v s') s := by
    refine codeAny_call_def (fd := fnOf name qual params body scope dV kV doc pm an cdv ct) (body := body) (binds := binds) hD (X' _ _ ho) rfl ((hlim _ T).keeps F.keep) (codeRec_of X' hcd) rfl (hbind s X') hcell hloc (fun h₁ hns hk₁ => ?_) hco hgen hk
    have key := h (topA D U env outer) base (hideAll s.heap (l.map (·.1))) env outer s.heap.objs.size h₁ s (s.toks + binds.length) BG
      ⟨hns, fun b o e => hk₁ b o (of_hideAll _ e), Nat.le_of_eq (hideAll_size _ _)⟩ (X.keeps st)
      (fun p hp => ⟨hk₁ _ _ (Ns p hp).1, Nat.ne_of_lt (Heap.lt_size (Ns p hp).1), hideAll_none _ (List.mem_map_of_mem hp)⟩) (hT _ _ T st) (fun p hp => Heap.lt_size (Ns p hp).1) (Nat.le_add_left _ _)
    exact wpAny_mono (wp_weaken (A' := (topA D (U + 1) env outer).deeper (envOf qual scope s.heap.objs.size f cdv)) rfl (Nat.le_refl _) rfl rfl (by show U + 3 ≤ U + 1 + 3; omega) key) (fun fl s' hl => ⟨_, rfl, hl⟩) fun _ _ y => y.elim
  intro Γ p hc hΓ
  obtain ⟨r, s', hr, v, rfl, L', m', fr, l', h', tk', rfl, F', N', hfr, hp⟩ := key Γ p hc hΓ
  have hlat : Later s _ := runs_later hr
  refine ⟨_, _, hr, ?_⟩
  obtain ⟨oL, es, ep, hL, r⟩ := FG.ns
  have keep : ∀ b o, h₀.get? b = some o → h'.get? b = some o := fun b o e => F'.keep b o (st b o e)
  refine hQ _ fr l' h' tk' hp hlat.toks ?_ ⟨⟨oL, es, ep, F'.keep L oL hL, r⟩, keep, F.above⟩ (fun p hp => ?_)
  · refine fresh_gt hlat N (fun p hp o q => ?_) (fun p hp q => ?_) hfr
    · have := (N' p (List.mem_append_left _ hp)).2.2; rw [q] at this; cases this
    · have := (N' p (List.mem_append_left _ hp)).1; rw [q] at this; cases this
  rcases List.mem_append.mp hp with hp | hp
  · refine ⟨(N' p hp).1, fun q => ?_, ?_⟩
    · have := (N' p hp).2.2; rw [q, hL] at this; cases this
    · cases q : h₀.get? p.1 with
      | none => rfl
      | some o => have := (N' p hp).2.2; rw [st _ _ q] at this; cases this
  · have q := N p (List.mem_append_right _ hp)
    refine ⟨F'.keep _ _ (hideAll_get _ q.1 fun hm => ?_), q.2.1, q.2.2⟩
    obtain ⟨z, hz, e⟩ := List.mem_map.mp hm
    exact hne p hp z hz e.symm

inductive Del (p : Addr × Obj) : Led → Led → Prop
  | head {r} : Del p (p :: r) r
  | tail {q r r'} : Del p r r' → Del p (q :: r) (q :: r')
theorem Del.mem {p : Addr × Obj} {l r : Led} (h : Del p l r) : ∀ x, x = p ∨ x ∈ r → x ∈ l := by
  induction h with
  | head => intro x hx; rcases hx with rfl | hx; exact .head _; exact .tail _ hx
  | tail _ ih => intro x hx; rcases hx with rfl | hx; exact .tail _ (ih _ (.inl rfl)); cases hx with | head => exact .head _ | tail _ hx => exact .tail _ (ih _ (.inr hx))
inductive Tl (T : Led) : Led → Led → Prop
  | nil : Tl T T []
  | app {o} : Tl T (o ++ T) o
  | cons {e N cs} : Tl T N cs → Tl T (e :: N) (e :: cs)
theorem Tl.eq {T N cs : Led} (t : Tl T N cs) : N = cs ++ T := by
  induction t with
  | nil => rfl
  | app => rfl
  | cons _ ih => rw [ih]; rfl
inductive Take : Led → Led → Led → Prop
  | nil {l} : Take [] l l
  | cons {p ps l l' r} : Del p l l' → Take ps l' r → Take (p :: ps) l r
  | all {T N cs} : Tl T N cs → Take T N cs
theorem Take.news {l c rest : Led} (t : Take l c rest) {h₀ h : Heap} {L : Addr} (N : News h₀ L h c) : News h₀ L h (l ++ rest) := by
  intro p hp
  refine N p ?_
  induction t with
  | nil => simpa using hp
  | all q => rw [q.eq]; rcases List.mem_append.mp hp with hp | hp; exact List.mem_append_right _ hp; exact List.mem_append_left _ hp
  | cons d _ ih =>
    refine d.mem p ?_
    rcases List.mem_append.mp hp with hp | hp
    · cases hp with
      | head => exact .inl rfl
      | tail _ hp => exact .inr (ih (fun q hq => N q (d.mem q (.inr hq))) (List.mem_append_left _ hp))
    · exact .inr (ih (fun q hq => N q (d.mem q (.inr hq))) (List.mem_append_right _ hp))
end Mine.Internal

end
section
set_option tactic.hygienic false
open PySem PySem.W PyProof.Rows
namespace Mine.Internal
noncomputable def Srt : List Addr → Prop
  | [] => True
  | a :: l => (∀ b ∈ l, @LT.lt Nat _ b a) ∧ Srt l
inductive Aft : List Addr → Addr → Addr → Prop
  | here {a b : Addr} {l : List Addr} : b ∈ l → Aft (a :: l) a b
  | there {x a b : Addr} {l : List Addr} : Aft l a b → Aft (x :: l) a b
inductive Apart : List Addr → Addr → Addr → Prop
  | l {a b : Addr} {l : List Addr} : b ∈ l → Apart (a :: l) a b
  | r {a b : Addr} {l : List Addr} : a ∈ l → Apart (b :: l) a b
  | t {x a b : Addr} {l : List Addr} : Apart l a b → Apart (x :: l) a b
theorem Srt.lt {l : List Addr} {a b : Addr} (S : Srt l) (h : Aft l a b) : @LT.lt Nat _ b a := by
  induction h with
  | here h => exact S.1 _ h
  | there _ ih => exact ih S.2
theorem Srt.ne {l : List Addr} {a b : Addr} (S : Srt l) (h : Apart l a b) : @Ne Nat a b := by
  induction h with
  | l h => exact Nat.ne_of_gt (S.1 _ h)
  | r h => exact Nat.ne_of_lt (S.1 _ h)
  | t _ ih => exact ih S.2
theorem Srt.tl {a : Addr} {l : List Addr} (S : Srt (a :: l)) : Srt l := S.2
theorem Srt.grow {t d : Addr} {l : List Addr} (S : Srt (t :: l)) (h : @LT.lt Nat _ t d) : Srt (d :: t :: l) :=
  ⟨fun b hb => by
    rcases List.mem_cons.mp hb with rfl | hb
    · exact h
    · exact Nat.lt_trans (S.1 b hb) h, S⟩
theorem Srt.six {sd st rce dd ds er : Addr} (h : @LT.lt Nat _ sd st ∧ @LT.lt Nat _ st rce ∧ @LT.lt Nat _ rce dd ∧ @LT.lt Nat _ dd ds ∧ @LT.lt Nat _ ds er) : Srt [er, ds, dd, rce, st, sd] := by
  obtain ⟨h1, h2, h3, h4, h5⟩ := h
  have S0 : Srt [sd] := ⟨fun _ h => (nomatch h), trivial⟩
  exact ((((S0.grow h1).grow h2).grow h3).grow h4).grow h5
theorem Srt.two {a b : Addr} (h : @LT.lt Nat _ a b) : Srt [b, a] := by
  have S0 : Srt [a] := ⟨fun _ h => (nomatch h), trivial⟩
  exact S0.grow h
end Mine.Internal
namespace Mine.Internal
end Mine.Internal

end
section
set_option tactic.hygienic false
open PySem PySem.W PyProof.Rows PySem.Calls PySem.Spec PyProof.V
namespace Mine.Internal
noncomputable abbrev tupO (vs : List Value) : Obj := { cls := .type "tuple", data := .seq vs.toArray }
structure Hold (p : Prop) : Prop where
  out : p
theorem hold {p : Prop} (h : Hold p) : p := h.out
theorem fit63 {n : Nat} (h : n ≤ 1048576) : (n : Int) < 9223372036854775808 := by omega
section
variable {prog : Program} {w : World} {A : Around} {E : Value → Shared → Prop} {s : Shared} {value slice : Expr} {x : Str} {t u : Tok} {i : Int} {c : Nat} {Q : Value → Shared → Prop}
theorem sub_chr (h0 : 0 ≤ i) (h1 : i < 9223372036854775808) (hc : x.cps[i.toNat]? = some c) (h : Q (.str ⟨#[c]⟩ s.toks) { s with toks := s.toks + 1 })
    (hs : subscripted slice false (.str x t) (.int i u) = operate [.str x t, .int i u] (getItem (.str x t) (.int i u)) := by with_unfolding_all rfl)
    (ht : ∀ r, letTemporaryGo value (.str x t) r = pure () := by intro _; with_unfolding_all rfl) :
    wpAny (model prog w) A (subscriptTail value slice (.str x t) (.int i u)) Q E s := by
  obtain ⟨k, rfl⟩ := Int.eq_ofNat_of_zero_le h0
  simp only [Int.toNat_natCast] at hc
  have hk : k < x.cps.size := by
    obtain ⟨hk, _⟩ := Array.getElem?_eq_some_iff.mp hc
    exact hk
  have hkz : (k : Int) < (x.cps.size : Int) := by omega
  have hn : ¬ ((k : Int) < 0) := by omega
  have e : Txt.charAt x (k : Int) = some c := by
    have e1 : seqIndex? (k : Int) x.length = some k := by
      unfold seqIndex?
      simp [Str.length, hn, hk]
    unfold Txt.charAt
    rw [e1]; exact hc
  have e2 : Txt.item x (k : Int) = ⟨#[c]⟩ := by unfold Txt.item; rw [e]; rfl
  refine item_str (fitsSsize_of (N := 9223372036854775808) (by omega) (by omega) (Int.le_refl _)) (by omega) (by show (k : Int) < (x.cps.size : Int); omega) (fun _ => ?_) hs ht
  rw [e2]; exact h
theorem sub_last (h0 : i = -1) (h1 : 1 ≤ x.length) (h2 : x.length < 9223372036854775808) (h : ∀ c, x.cps.toList.getLast? = some c → Q (.str ⟨#[c]⟩ s.toks) { s with toks := s.toks + 1 })
    (hs : subscripted slice false (.str x t) (.int i u) = operate [.str x t, .int i u] (getItem (.str x t) (.int i u)) := by with_unfolding_all rfl)
    (ht : ∀ r, letTemporaryGo value (.str x t) r = pure () := by intro _; with_unfolding_all rfl) :
    wpAny (model prog w) A (subscriptTail value slice (.str x t) (.int i u)) Q E s := by
  subst h0
  have hlen : x.cps.toList.length = x.length := by simp [Str.length]
  obtain ⟨c, hc⟩ : ∃ c, x.cps.toList.getLast? = some c := by
    cases q : x.cps.toList.getLast? with
    | some c => exact ⟨c, rfl⟩
    | none => rw [List.getLast?_eq_none_iff] at q; rw [q] at hlen; exact absurd (hlen ▸ h1) (by decide)
  have hi : x.cps[x.length - 1]? = some c := by
    rw [List.getLast?_eq_getElem?] at hc
    rw [hlen] at hc
    simpa using hc
  have e2 : Txt.item x (-1) = ⟨#[c]⟩ := by
    unfold Txt.item Txt.charAt
    have e1 : seqIndex? (-1) x.length = some (x.length - 1) := by
      unfold seqIndex?
      obtain ⟨k, hk⟩ : ∃ k, x.length = k + 1 := ⟨x.length - 1, (Nat.sub_add_cancel h1).symm⟩
      rw [hk]
      have b : (-1 : Int) + ((k + 1 : Nat) : Int) = (k : Int) := by rw [Int.natCast_add, Int.add_comm]; exact Int.add_sub_cancel (k : Int) 1
      have b2 : (k : Int) < ((k + 1 : Nat) : Int) := Int.ofNat_lt.mpr (Nat.lt_succ_self k)
      simp only [show ((-1 : Int) < 0) = True from by decide, if_true, b, Int.natCast_nonneg, b2, and_self, Int.toNat_natCast, Nat.add_sub_cancel]
      rfl
    rw [e1]
    show (⟨#[(x.cps[x.length - 1]?).getD 0]⟩ : Str) = _
    rw [hi]; rfl
  refine item_str (fitsSsize_of (N := 9223372036854775808) (by omega) (by omega) (Int.le_refl _)) (by omega) (by omega) (fun _ => ?_) hs ht
  rw [e2]; exact h c hc
open Builtin Builtin.Str in
theorem gives_count4 (x y : Str) (i j : Int) (t u v v' : Tok) : Gives («str.count» ⟨[.str x t, .str y u, .int i v, .int j v'], []⟩) (.int (occurrences x y (fromIndex x.length i) (min (fromIndex x.length j) x.length) (x.length + 1)).length) := by
  show Gives (retInt (occurrences x y (fromIndex x.length i) (min (fromIndex x.length j) x.length) (x.length + 1)).length) _
  exact .of_eq rfl
open Builtin Builtin.Str in
theorem gives_rfind4 (x y : Str) (i j : Int) (t u v v' : Tok) : Gives («str.rfind» ⟨[.str x t, .str y u, .int i v, .int j v'], []⟩) (.int (match lastOccurrence x y (fromIndex x.length i) (min (fromIndex x.length j) x.length) with | some i => (i : Int) | none => -1)) := by
  show Gives (match lastOccurrence x y (fromIndex x.length i) (min (fromIndex x.length j) x.length) with | some i => retInt i | none => (do rule "str.rfind.not-found"; retInt (-1))) _
  cases lastOccurrence x y (fromIndex x.length i) (min (fromIndex x.length j) x.length) with
  | none => exact .rule (.of_eq rfl)
  | some k => exact .of_eq rfl
open Builtin Builtin.Str in
noncomputable def countTo (x y : Str) (i j : Int) : Int := (occurrences x y (fromIndex x.length i) (min (fromIndex x.length j) x.length) (x.length + 1)).length
open Builtin Builtin.Str in
noncomputable def rfindTo (x y : Str) (i j : Int) : Int := match lastOccurrence x y (fromIndex x.length i) (min (fromIndex x.length j) x.length) with | some i => (i : Int) | none => -1
section
variable {y : Str} {j : Int} {v v' : Tok}
theorem count4 (hq : Q (.int (countTo x y i j) s.toks) { s with toks := s.toks + 1 }) : wpAny (model prog w) A (call (.builtin "str.count") [.str x t, .str y u, .int i v, .int j v']) Q E s :=
  call_gives F.slot_str_count (typeIs_str _ _ _) F.entry_str_count (F.args_str_count_4 _ _ _ _) (gives_count4 x y i j t u v v') hq
theorem rfind4 (hq : Q (.int (rfindTo x y i j) s.toks) { s with toks := s.toks + 1 }) : wpAny (model prog w) A (call (.builtin "str.rfind") [.str x t, .str y u, .int i v, .int j v']) Q E s :=
  call_gives F.slot_str_rfind (typeIs_str _ _ _) F.entry_str_rfind (F.args_str_rfind_4 _ _ _ _) (gives_rfind4 x y i j t u v v') hq
end
theorem method_nobool : typeLookup (.type "method") "__bool__" = pure none := by rw [typeLookup_type, builtinLookup_eq_fast]; kernel_rfl
theorem method_nolen : typeLookup (.type "method") "__len__" = pure none := by rw [typeLookup_type, builtinLookup_eq_fast]; kernel_rfl
theorem truthy_meth {q : Addr} {f self : Value} {h₀ : Heap} {L : Addr} {news : List (Addr × Obj)} {Q : Bool → Shared → Prop} (N : News h₀ L s.heap news) (hq : (q, methodObj f self) ∈ news) (h : Q true s) :
    wpAny (model prog w) A (truthy (.ref q)) Q E s := by
  have ty : Looks (model prog w) s.heap (typeOf (.ref q)) (.type "method") := (Looks.ld (part := none) (N _ hq).1).andThen .now
  unfold truthy
  refine wpAny_bind (m := callSpecial? (.ref q) (Str.ofString "__bool__")) (wpAny_bind (wpAny_bind (ty.here ((Looks.of_pure method_nobool).here (wpAny_pure ?_)))))
  refine wpAny_bind (wpAny_bind (ty.here ((Looks.of_pure method_nolen).here ?_)))
  exact wpAny_pure h
theorem last_lt {src x : Str} {k B c : Nat} (hs : ∀ c ∈ src.cps.toList, c < B) (hx : x.cps.toList = src.cps.toList.drop k) (hc : x.cps.toList.getLast? = some c) : c < B := by
  refine hs c (List.mem_of_mem_drop (i := k) ?_)
  rw [← hx]; exact List.mem_of_getLast? hc
open Builtin Builtin.Str in
theorem replaceM {x y z : Str} {t u v : Tok} (hu : @Ne Nat u 0) (hv : @Ne Nat v 0) (huv : @Ne Nat u v) (hyz : (y == z) = false) (hx : x.length ≤ 1048576) (hz : z.length ≤ 14)
    (hq : ∀ t' k, s.toks ≤ k → Q (.str (Txt.replace x y z) t') { s with toks := k }) : wpAny (model prog w) A (call (.builtin "str.replace") [.str x t, .str y u, .str z v]) Q E s := by
  have h1 : (x.length + 1) * z.length ≤ (x.length + 1) * 14 := Nat.mul_le_mul_left _ hz
  have hb : x.length + (x.length + 1) * z.length ≤ 16777216 := by omega
  have e : (2 : Nat) ^ 24 = 16777216 := by decide
  have hl : tooLong (x.length + (occurrences x y 0 x.length (x.length + 1)).length * z.length) = false := by
    have h1 := StrLaws.occ_length_le x y 0 x.length (x.length + 1)
    have h2 : (occurrences x y 0 x.length (x.length + 1)).length * z.length ≤ (x.length + 1) * z.length := Nat.mul_le_mul_right _ h1
    unfold tooLong sizeLine
    exact decide_eq_false (by omega)
  refine call_gives F.slot_str_replace (typeIs_str _ _ _) F.entry_str_replace (F.args_str_replace_3 _ _ _)
    (gives_str_replace x y z t u v fun _ => ⟨by simp [hu, hv], by simp [huv], hyz, hl⟩) ?_
  have hq' := hq
  unfold Txt.replace at hq'
  cases hc : ((occurrences x y 0 x.length (x.length + 1)).isEmpty || (y.length == 0 && z.length == 0))
  · rw [hc] at hq'
    simp only [Bool.false_eq_true, if_false] at hq' ⊢
    exact ⟨fits_replaced y hb, hq' _ _ (Nat.le_succ _)⟩
  · rw [hc] at hq'
    simp only [if_true] at hq' ⊢
    exact hq' t s.toks (Nat.le_refl _)
end
end Mine.Internal

end
section
set_option tactic.hygienic false
open PySem PySem.W PyProof.Rows PySem.Calls PySem.Spec PyProof.V
namespace Mine.Internal
open Builtin Builtin.Str

noncomputable def clipI (n : Nat) (i : Int) : Nat := (max 0 (min (if i < 0 then i + n else i) n)).toNat
noncomputable def sliceLo (n : Nat) : Option Int → Nat | none => 0 | some i => clipI n i
noncomputable def sliceHi (n : Nat) : Option Int → Nat | none => n | some i => clipI n i
theorem sliceLo_n {n : Nat} : sliceLo n none = 0 := rfl
theorem sliceLo_s {n : Nat} {i : Int} : sliceLo n (some i) = clipI n i := rfl
theorem sliceHi_n {n : Nat} : sliceHi n none = n := rfl
theorem sliceHi_s {n : Nat} {i : Int} : sliceHi n (some i) = clipI n i := rfl
theorem clipI_le (n : Nat) (i : Int) : clipI n i ≤ n := Int.toNat_le.mpr (Int.max_le.mpr ⟨Int.natCast_nonneg n, Int.min_le_right _ _⟩)
theorem sliceLo_le (n : Nat) (o : Option Int) : sliceLo n o ≤ n := by cases o; exact Nat.zero_le _; exact clipI_le _ _
theorem sliceHi_le (n : Nat) (o : Option Int) : sliceHi n o ≤ n := by cases o; exact Nat.le_refl _; exact clipI_le _ _
theorem indices_gen (l u : Option Int) (n : Nat) : strSliceIndices l u 1 n = (List.range (sliceHi n u - sliceLo n l)).map (fun k => sliceLo n l + k) := by
  have key : ∀ a b : Int, 0 ≤ a → 0 ≤ b → sliceRange a b 1 = (List.range (b.toNat - a.toNat)).map (fun k => a.toNat + k) := by
    intro a b ha hb
    obtain ⟨a, rfl⟩ := Int.eq_ofNat_of_zero_le ha
    obtain ⟨b, rfl⟩ := Int.eq_ofNat_of_zero_le hb
    unfold sliceRange
    simp only [show ((1 : Int) > 0) = True from by simp, if_true, Int.toNat_natCast]
    by_cases hlt : (a : Int) < b
    · have e3 : (((b : Int) - a + 1 - 1) / 1).toNat = b - a := by rw [Int.ediv_one, Int.add_sub_cancel, Int.toNat_sub]
      simp only [hlt, if_true, e3]
      refine List.map_congr_left fun k _ => ?_
      rw [Int.one_mul]
      exact Int.toNat_natCast (a + k)
    · have : b - a = 0 := Nat.sub_eq_zero_of_le (Int.ofNat_le.mp (Int.not_lt.mp hlt))
      simp [hlt, this]
  cases l <;> cases u <;> (unfold strSliceIndices; simp only [show ((1 : Int) > 0) = True from by simp, if_true]; rw [key _ _ (by first | exact Int.le_max_left _ _ | exact Int.le_refl 0 | exact Int.natCast_nonneg _) (by first | exact Int.le_max_left _ _ | exact Int.le_refl 0 | exact Int.natCast_nonneg _)]; simp [sliceLo_n, sliceLo_s, sliceHi_n, sliceHi_s, clipI])
set_option tactic.hygienic true
theorem slice_gen (x : Str) (l u : Option Int) : Txt.slice x l u = ⟨((x.cps.toList.drop (sliceLo x.length l)).take (sliceHi x.length u - sliceLo x.length l)).toArray⟩ := by
  have hl := sliceLo_le x.length l
  have hu := sliceHi_le x.length u
  have e : (strSliceIndices l u 1 x.length).filterMap (x.cps[·]?) = (x.cps.toList.drop (sliceLo x.length l)).take (sliceHi x.length u - sliceLo x.length l) := by
    rw [indices_gen]
    by_cases h : sliceLo x.length l ≤ sliceHi x.length u
    · have h := StrLaws.picks x.cps.toList (sliceHi x.length u - sliceLo x.length l) (sliceLo x.length l) (by have e : x.cps.toList.length = x.length := (by simp [Str.length]); omega)
      simpa using h
    · have h0 : sliceHi x.length u - sliceLo x.length l = 0 := by omega
      rw [h0]; simp
  unfold Txt.slice
  rw [e]
  split
  · rename_i hc
    have hc' : (strSliceIndices l u 1 x.length).length = x.length := by simpa using hc
    rw [indices_gen] at hc'
    simp only [List.length_map, List.length_range] at hc'
    have h0 : sliceLo x.length l = 0 := by omega
    have h1 : sliceHi x.length u = x.length := by omega
    rw [h0, h1]
    refine Str.ext' ?_
    show x.cps = _
    rw [List.drop_zero, Nat.sub_zero, List.take_of_length_le (by simp [Str.length])]
  · rfl
set_option tactic.hygienic false
theorem maxmin (a n : Nat) : (max 0 (min (a : Int) (n : Int))).toNat = min a n := by
  rcases Nat.le_total a n with h | h
  · rw [Int.min_eq_left (Int.ofNat_le.mpr h), Nat.min_eq_left h, Int.max_eq_right (Int.natCast_nonneg a), Int.toNat_natCast]
  · rw [Int.min_eq_right (Int.ofNat_le.mpr h), Nat.min_eq_right h, Int.max_eq_right (Int.natCast_nonneg n), Int.toNat_natCast]
theorem clip_nat (n a : Nat) : clipI n (a : Int) = min a n := by
  unfold clipI
  rw [if_neg (Int.not_lt.mpr (Int.natCast_nonneg a)), maxmin]
theorem drop_min {l : List Nat} {a b n : Nat} (hn : l.length = n) : (l.drop (min a n)).take (min b n - min a n) = (l.drop a).take (b - a) := by
  subst hn
  rw [← List.drop_take, ← List.drop_take, ← List.take_eq_take_min]
  rcases Nat.le_total a l.length with h | h
  · rw [Nat.min_eq_left h]
  · rw [Nat.min_eq_right h, List.drop_of_length_le (by rw [List.length_take]; exact Nat.min_le_right _ _), List.drop_of_length_le (by rw [List.length_take]; exact Nat.le_trans (Nat.min_le_right _ _) h)]
theorem cps_len (x : Str) : x.cps.toList.length = x.length := Array.length_toList
theorem slice_ss {x : Str} {i j : Int} (h0 : 0 ≤ i) (h1 : i ≤ j) : Txt.slice x (some i) (some j) = ⟨((x.cps.toList.drop i.toNat).take (j - i).toNat).toArray⟩ := by
  obtain ⟨a, rfl⟩ := Int.eq_ofNat_of_zero_le h0
  obtain ⟨b, rfl⟩ := Int.eq_ofNat_of_zero_le (Int.le_trans h0 h1)
  rw [slice_gen]
  refine Str.ext' (congrArg List.toArray ?_)
  simp only [sliceLo_n, sliceLo_s, sliceHi_n, sliceHi_s, clip_nat]
  rw [drop_min (cps_len x), Int.toNat_natCast, Int.toNat_sub]
theorem slice_sn {x : Str} {i : Int} (h0 : 0 ≤ i) : Txt.slice x (some i) none = ⟨(x.cps.toList.drop i.toNat).toArray⟩ := by
  obtain ⟨a, rfl⟩ := Int.eq_ofNat_of_zero_le h0
  rw [slice_gen]
  refine Str.ext' (congrArg List.toArray ?_)
  simp only [sliceLo_n, sliceLo_s, sliceHi_n, sliceHi_s, clip_nat, Int.toNat_natCast]
  have q := drop_min (a := a) (b := x.length) (cps_len x)
  rw [Nat.min_self] at q
  rw [q, List.take_of_length_le (by rw [List.length_drop, cps_len]; exact Nat.le_refl _)]
theorem clip_m1 (n : Nat) : clipI n (-1) = n - 1 := by
  unfold clipI
  rw [if_pos (by decide)]
  cases n with
  | zero => rfl
  | succ n => rw [show (-1 : Int) + ((n + 1 : Nat) : Int) = (n : Int) from by rw [Int.natCast_add, Int.add_comm]; exact Int.add_sub_cancel (n : Int) 1, maxmin, Nat.min_eq_left (Nat.le_succ n)]; rfl
theorem slice_last {x : Str} {j : Int} (h0 : j = -1) : Txt.slice x none (some j) = ⟨x.cps.toList.dropLast.toArray⟩ := by
  subst h0
  rw [slice_gen]
  refine Str.ext' (congrArg List.toArray ?_)
  simp only [sliceLo_n, sliceLo_s, sliceHi_n, sliceHi_s, List.drop_zero, Nat.sub_zero]
  rw [List.dropLast_eq_take, cps_len, clip_m1]
theorem slice_len_le {x : Str} {l u : Option Int} {n : Nat} (h : x.length ≤ n) : (Txt.slice x l u).length ≤ n := Nat.le_trans (Txt.slice_le x l u) h
end Mine.Internal

end
section
set_option tactic.hygienic false
open PySem PySem.W PyProof.Rows PySem.Calls PySem.Spec PyProof.V
namespace Mine.Internal
open Builtin Builtin.Str
noncomputable def repS (y z : List Nat) : Nat → List Nat → List Nat
  | _, [] => []
  | k + 1, _ :: r => repS y z k r
  | 0, c :: r => if y.isPrefixOf (c :: r) then z ++ repS y z (y.length - 1) r else c :: repS y z 0 r
theorem repS_n {y z : List Nat} {k : Nat} : repS y z k [] = [] := by cases k <;> rfl
theorem repS_s {y z : List Nat} {k c : Nat} {r : List Nat} : repS y z (k + 1) (c :: r) = repS y z k r := rfl
theorem repS_z {y z : List Nat} {c : Nat} {r : List Nat} : repS y z 0 (c :: r) = if y.isPrefixOf (c :: r) then z ++ repS y z (y.length - 1) r else c :: repS y z 0 r := rfl
theorem repS_drop (y z : List Nat) : ∀ (k : Nat) (l : List Nat), repS y z k l = repS y z 0 (l.drop k)
  | 0, l => rfl
  | k + 1, [] => by simp [repS_n]
  | k + 1, c :: r => by rw [repS_s, List.drop_succ_cons]; exact repS_drop y z k r
noncomputable def scanF (hit : Nat → Bool) (w : Nat) : Nat → Nat → Nat → List Nat
  | 0, _, _ => []
  | n + 1, i, free => if free ≤ i ∧ hit i = true then i :: scanF hit w n (i + 1) (i + w) else scanF hit w n (i + 1) free
noncomputable def hitAt (x y : Str) (i : Nat) : Bool := decide (i + y.length ≤ x.length) && subAt x y i
theorem scanF_s {hit : Nat → Bool} {w n i free : Nat} : scanF hit w (n + 1) i free = if free ≤ i ∧ hit i = true then i :: scanF hit w n (i + 1) (i + w) else scanF hit w n (i + 1) free := rfl
theorem fold_scan (x y : Str) (limit : Nat) : ∀ (n i free : Nat) (F : Array Nat), F.size + n ≤ limit →
    (forIn (List.range' i n) (F, free) (StrLaws.occBody x y x.length limit)).run.fst.toList = F.toList ++ scanF (hitAt x y) y.length n i free
  | 0, i, free, F, _ => (List.append_nil _).symm
  | n + 1, i, free, F, h => by
    rw [List.range'_succ, List.forIn_cons]
    unfold StrLaws.occBody
    rw [scanF_s]
    by_cases hc : free ≤ i ∧ hitAt x y i = true
    · have h2 := hc.2
      unfold hitAt at h2
      simp only [Bool.and_eq_true, decide_eq_true_eq] at h2
      have c1 : ((F.size < limit ∧ free ≤ i) ∧ i + y.length ≤ x.length) ∧ subAt x y i = true := ⟨⟨⟨by omega, hc.1⟩, h2.1⟩, h2.2⟩
      rw [if_pos hc]
      simp only [c1, if_true, and_self, pure_bind]
      have ih := fold_scan x y limit n (i + 1) (i + y.length) (F.push i) (by simp; omega)
      unfold StrLaws.occBody at ih
      rw [ih]; simp
    · have c1 : ¬ (((F.size < limit ∧ free ≤ i) ∧ i + y.length ≤ x.length) ∧ subAt x y i = true) := by
        rintro ⟨⟨⟨_, a⟩, b⟩, c⟩
        exact hc ⟨a, by unfold hitAt; simp [b, c]⟩
      rw [if_neg hc]
      simp only [c1, if_false, pure_bind]
      have ih := fold_scan x y limit n (i + 1) free F (by omega)
      unfold StrLaws.occBody at ih
      rw [ih]
theorem hit_iff {x y : Str} (hy : 1 ≤ y.length) (i : Nat) : hitAt x y i = y.cps.toList.isPrefixOf (x.cps.toList.drop i) := by
  unfold hitAt
  rw [StrLaws.subAt_eq]
  have hyl : y.cps.toList.length = y.length := by simp [Str.length]
  have hxl : x.cps.toList.length = x.length := by simp [Str.length]
  rw [Bool.eq_iff_iff]
  simp only [Bool.and_eq_true, decide_eq_true_eq, beq_iff_eq, List.isPrefixOf_iff_prefix]
  constructor
  · rintro ⟨_, h⟩
    rw [← h]; exact List.take_prefix _ _
  · intro h
    have hle := h.length_le
    rw [List.length_drop, hyl, hxl] at hle
    exact ⟨by omega, by rw [← hyl]; exact (List.prefix_iff_eq_take.mp h).symm⟩
theorem parts_rep {x y : Str} (z : Str) (hy : 1 ≤ y.length) : ∀ (n i free a : Nat), i + n = x.length + 1 → a ≤ x.length → (free ≤ i → a ≤ i) → (i < free → a = free) → free ≤ x.length →
    (Str.join z (StrLaws.partsFrom x y.length a (scanF (hitAt x y) y.length n i free))).cps.toList = (x.cps.toList.drop a).take (max i free - a) ++ repS y.cps.toList z.cps.toList 0 (x.cps.toList.drop (max i free)) := by
  intro n
  induction n with
  | zero =>
    intro i free a h1 h2 h3 h4 h5
    have hxl : x.cps.toList.length = x.length := by simp [Str.length]
    have hi : i = x.length + 1 := h1
    subst hi
    have q1 : x.cps.toList.drop (x.length + 1) = [] := List.drop_of_length_le (by rw [hxl]; exact Nat.le_succ _)
    rw [Nat.max_eq_left (Nat.le_trans h5 (Nat.le_succ _)), q1]
    show (strSub x a x.length).cps.toList = _ ++ []
    rw [StrLaws.strSub_toList, List.append_nil, List.take_of_length_le (by rw [List.length_drop, hxl]; exact Nat.le_refl _), List.take_of_length_le (by rw [List.length_drop, hxl]; exact Nat.sub_le_sub_right (Nat.le_succ _) _)]
  | succ n ih0 =>
    intro i free a h1 h2 h3 h4 h5
    have hxl : x.cps.toList.length = x.length := by simp [Str.length]
    have hxs : x.cps.size = x.length := rfl
    rw [scanF_s]
    by_cases hc : free ≤ i ∧ hitAt x y i = true
    · rw [if_pos hc]
      have hp := hc.2
      rw [hit_iff hy] at hp
      have hle : i + y.length ≤ x.length := by
        have := hc.2; unfold hitAt at this; simp only [Bool.and_eq_true, decide_eq_true_eq] at this; exact this.1
      have ih := ih0 (i + 1) (i + y.length) (i + y.length) ((Nat.add_right_comm i 1 n).trans h1) hle (fun h => h) (fun _ => rfl) hle
      rw [Nat.max_eq_right (Nat.add_le_add_left hy i), Nat.sub_self, List.take_zero, List.nil_append] at ih
      obtain ⟨p, r, e⟩ := StrLaws.partsFrom_ne x y.length (i + y.length) (scanF (hitAt x y) y.length n (i + 1) (i + y.length))
      have ej : Str.join z (strSub x a i :: StrLaws.partsFrom x y.length (i + y.length) (scanF (hitAt x y) y.length n (i + 1) (i + y.length))) = strSub x a i ++ z ++ Str.join z (StrLaws.partsFrom x y.length (i + y.length) (scanF (hitAt x y) y.length n (i + 1) (i + y.length))) := by
        rw [e]; rfl
      show (Str.join z (strSub x a i :: StrLaws.partsFrom x y.length (i + y.length) _)).cps.toList = _
      rw [ej]
      simp only [Str.cps_append, Array.toList_append, StrLaws.strSub_toList]
      rw [ih]
      rw [Nat.max_eq_left hc.1, List.append_assoc]
      congr 1
      obtain ⟨c, t, ed⟩ : ∃ c t, x.cps.toList.drop i = c :: t := by
        cases q : x.cps.toList.drop i with
        | cons c t => exact ⟨c, t, rfl⟩
        | nil => exact absurd (List.drop_eq_nil_iff.mp q) (Nat.not_le.mpr (by rw [hxl]; exact Nat.lt_of_lt_of_le (Nat.lt_add_of_pos_right hy) hle))
      rw [ed] at hp ⊢
      rw [repS_z, if_pos hp, repS_drop _ _ (y.cps.toList.length - 1) t]
      congr 1
      have hyl : y.cps.toList.length = y.length := by simp [Str.length]
      have e3 : t = x.cps.toList.drop (i + 1) := by
        have := congrArg List.tail ed
        rw [List.tail_drop] at this; exact this.symm
      rw [e3, List.drop_drop, hyl]
      rw [Nat.add_assoc, Nat.add_sub_cancel' hy]
    · rw [if_neg hc]
      have ih := ih0 (i + 1) free a ((Nat.add_right_comm i 1 n).trans h1) h2 (fun h => (Nat.lt_or_ge i free).elim (fun hf => by rw [h4 hf]; exact h) (fun hf => Nat.le_succ_of_le (h3 hf))) (fun h => h4 (Nat.lt_of_succ_lt h)) h5
      rw [ih]
      by_cases hf : i < free
      · rw [Nat.max_eq_right hf, Nat.max_eq_right (Nat.le_of_lt hf)]
      · have hfi := Nat.le_of_not_lt hf
        rw [Nat.max_eq_left (Nat.le_succ_of_le hfi), Nat.max_eq_left hfi]
        have hnp : ¬ (y.cps.toList.isPrefixOf (x.cps.toList.drop i) = true) := fun h => hc ⟨hfi, by rw [hit_iff hy]; exact h⟩
        have hai : a ≤ i := h3 hfi
        clear ih h1 h3 h4 hc
        by_cases hi : i < x.length
        · obtain ⟨c, t, ed⟩ : ∃ c t, x.cps.toList.drop i = c :: t := by
            cases q : x.cps.toList.drop i with
            | cons c t => exact ⟨c, t, rfl⟩
            | nil => exact absurd (List.drop_eq_nil_iff.mp q) (Nat.not_le.mpr (by rw [hxl]; exact hi))
          have e3 : x.cps.toList.drop (i + 1) = t := by
            have := congrArg List.tail ed
            rw [List.tail_drop] at this; exact this
          rw [ed] at hnp
          rw [ed, repS_z, if_neg hnp, e3]
          have e4 : (x.cps.toList.drop a).take (i + 1 - a) = (x.cps.toList.drop a).take (i - a) ++ [c] := by
            have e5 : i + 1 - a = (i - a) + 1 := Nat.succ_sub hai
            rw [e5, List.take_add_one, List.getElem?_drop]
            have e6 : x.cps.toList[a + (i - a)]? = some c := by
              have : (x.cps.toList.drop i)[0]? = some c := by rw [ed]; rfl
              rw [List.getElem?_drop] at this
              rw [← this, Nat.add_sub_cancel' hai]; rfl
            rw [e6]; rfl
          rw [e4]; simp
        · have q1 : x.cps.toList.drop (i + 1) = [] := List.drop_of_length_le (by omega)
          have q2 : x.cps.toList.drop i = [] := List.drop_of_length_le (by omega)
          rw [q1, q2, List.take_of_length_le (i := i + 1 - a) (by rw [List.length_drop]; omega), List.take_of_length_le (i := i - a) (by rw [List.length_drop]; omega)]
set_option tactic.hygienic true
theorem replace_toList (x y z : Str) (hy : 1 ≤ y.length) : (Txt.replace x y z).cps.toList = repS y.cps.toList z.cps.toList 0 x.cps.toList := by
  have hs : occurrences x y 0 x.length (x.length + 1) = scanF (hitAt x y) y.length (x.length + 1) 0 0 := by
    rw [StrLaws.occ_eq]
    have := fold_scan x y (x.length + 1) (x.length + 1) 0 0 #[] (by simp)
    simpa using this
  have key := parts_rep (x := x) z hy (x.length + 1) 0 0 0 (Nat.zero_add _) (Nat.zero_le _) (fun _ => Nat.le_refl _) (fun h => absurd h (by omega)) (Nat.zero_le _)
  simp only [Nat.max_self, Nat.sub_self, List.take_zero, List.nil_append, List.drop_zero] at key
  unfold Txt.replace
  split
  · rename_i hc
    have hempty : (occurrences x y 0 x.length (x.length + 1)).isEmpty = true := by
      simp only [Bool.or_eq_true, Bool.and_eq_true, beq_iff_eq] at hc
      rcases hc with h | h
      · exact h
      · omega
    rw [hs] at hempty
    have h0 : scanF (hitAt x y) y.length (x.length + 1) 0 0 = [] := List.isEmpty_iff.mp hempty
    rw [h0] at key
    rw [← key]
    show x.cps.toList = (strSub x 0 x.length).cps.toList
    rw [StrLaws.sub_whole]
  · rw [StrLaws.glued_eq_join, hs, StrLaws.partsBetween_eq]
    exact key
set_option tactic.hygienic false
noncomputable def mendL (l : List Nat) : List Nat := repS [13] [10] 0 (repS [13, 10] [10] 0 l)
noncomputable abbrev mendS (x : Str) : Str := Txt.replace (Txt.replace x (Str.ofString "\x0d\n") (Str.ofString "\n")) (Str.ofString "\x0d") (Str.ofString "\n")
theorem mendS_toList (x : Str) : (mendS x).cps.toList = mendL x.cps.toList := by
  have a : (Str.ofString "\x0d\n").cps.toList = [13, 10] := by decide +kernel
  have b : (Str.ofString "\n").cps.toList = [10] := by decide +kernel
  have c : (Str.ofString "\x0d").cps.toList = [13] := by decide +kernel
  unfold mendS mendL
  rw [replace_toList _ _ _ (by decide +kernel), replace_toList _ _ _ (by decide +kernel), a, b, c]
theorem rs_ar {z y q r : Nat} (h : z ≤ y) (h1 : q ≤ r - (y - 1)) (h2 : y ≤ r + 1) (h3 : 1 ≤ y) : z + q ≤ r + 1 := by
  refine Nat.le_trans (Nat.add_le_add h h1) ?_
  have h4 : y - 1 ≤ r := Nat.sub_le_of_le_add h2
  have h5 : y = (y - 1) + 1 := (Nat.sub_add_cancel h3).symm
  rw [Nat.add_comm y, h5, ← Nat.add_assoc, Nat.add_sub_cancel, Nat.sub_add_cancel h4]
  exact Nat.le_refl _
set_option tactic.hygienic true
theorem repS_len {y z : List Nat} (h : z.length ≤ y.length) (hy : y ≠ []) : ∀ (l : List Nat) (k : Nat), (repS y z k l).length ≤ l.length - k
  | [], k => by simp [repS_n]
  | c :: r, k + 1 => by rw [repS_s]; have := repS_len h hy r k; simp; omega
  | c :: r, 0 => by
    rw [repS_z]
    split
    · rename_i hp
      have h1 := repS_len h hy r (y.length - 1)
      have h2 := (List.isPrefixOf_iff_prefix.mp hp).length_le
      have h3 : 1 ≤ y.length := by cases y with | nil => exact absurd rfl hy | cons _ _ => simp
      simp only [List.length_append, List.length_cons] at h2 ⊢
      exact rs_ar h h1 h2 h3
    · have := repS_len h hy r 0
      simp only [List.length_cons]; omega
set_option tactic.hygienic false
theorem replace_len {x y z : Str} (hy : 1 ≤ y.length) (hz : z.length ≤ y.length) : (Txt.replace x y z).length ≤ x.length := by
  have e : ∀ s : Str, s.length = s.cps.toList.length := fun s => by simp [Str.length]
  rw [e, replace_toList x y z hy, e x]
  refine Nat.le_trans (repS_len (by rw [← e, ← e]; exact hz) ?_ _ 0) (Nat.sub_le _ _)
  intro h0; rw [e, h0] at hy; simp at hy
end Mine.Internal

end
section
set_option tactic.hygienic false
open PyProof.V PySem PySem.W PyProof.Rows PySem.Calls PySem.Spec
namespace Mine.Internal
section
variable {prog : Program} {w : World} {A : Around} {E : Value → Shared → Prop} {s : Shared}
theorem eqBool_str_none {x : Str} {t : Tok} {Q : Bool → Shared → Prop} (h : Q false s) : wpAny (model prog w) A (eqBool (.str x t) .none) Q E s := by
  unfold eqBool
  refine wpAny_holding ?_
  have hab : ¬ (Value.str x t == Value.none) = true := fun e => by have := eq_of_beq e; cases this
  rw [if_neg hab]
  exact wpAny_bind (EqNone.eq_str_none (wpAny_truthy_bool h))
theorem tuple_contains_none {t : Addr} {items : Array Value} {ys : List Str} {P : Fin → Shared → Prop} (ht : IsTup s.heap t items) (hi : StrsAre items.toList ys)
    (h : P (.done (.ret (.bool false))) s) : wpAny (model prog w) A (Builtin.«tuple.__contains__» ⟨[.ref t, .none], []⟩) P E s := by
  show wpAny _ _ (Builtin.Tuple.tupleItemsOf (.ref t) >>= _) _ _ s
  refine wpAny_bind (tupleItemsOf_ ht ?_)
  refine wpAny_bind (forIn_array_ _ (fun rest b s' => b.1 = none ∧ s' = s ∧ ∃ ms, StrsAre rest ms) _ ?_ ?_ items _ ⟨rfl, rfl, ys, hi⟩)
  · rintro y rest b s' ⟨hb, rfl, ms, hm⟩
    cases hm with
    | cons n tk hm' => exact wpAny_bind (eqBool_str_none (wpAny_pure ⟨rfl, rfl, _, hm'⟩))
  · rintro ⟨b1, b2⟩ s' ⟨hb, rfl, ms, hm⟩
    simp only at hb
    subst hb
    exact wpAny_pure h
theorem in_tuple_none {t : Addr} {items : Array Value} {ys : List Str} {Q : Value → Shared → Prop} (ht : IsTup s.heap t items) (hi : StrsAre items.toList ys)
    (h : Q (.bool false) s) : wpAny (model prog w) A (compareOp .In .none (.ref t)) Q E s := by
  show wpAny _ _ (do return .bool (← contains (.ref t) .none)) Q E s
  refine wpAny_bind ?_
  unfold contains
  refine wpAny_holding ?_
  refine wpAny_bind (wpAny_specialOf ht.typeIs slot_tuple_contains.lookup ?_)
  rw [if_neg (by decide)]
  exact wpAny_bind (wpAny_callSpecialUnlessNone?_slot (name := Str.ofString "__contains__") ht.typeIs slot_tuple_contains
    (wpAny_call_entry slot_tuple_contains ht.typeIs entry_tuple_contains (tuple_contains_none ht hi ⟨_, rfl, wpAny_truthy_bool (wpAny_pure h)⟩) (args_tuple_contains _ _)))
theorem K_tup {K : Frag} {h₀ : Heap} {L q : Addr} {m : Str → Option Value} {od : Option Addr} {items : Array Value} {n : Nat} {osl : Array (Option Value)} (F : Fr h₀ L s.heap m) (X : K.In h₀)
    (hk : K.lookup q = some ⟨.type "tuple", od, .seq items n, osl⟩) : IsTup s.heap q items := ⟨_, F.keep _ _ (X _ _ hk), rfl, n, rfl⟩
theorem in_tupK {K : Frag} {h₀ : Heap} {L q : Addr} {m : Str → Option Value} {od : Option Addr} {items : Array Value} {n : Nat} {osl : Array (Option Value)} {ys : List Str} {al : Nat → Bool} {c : Nat} {u : Tok} {Q : Value → Shared → Prop}
    (F : Fr h₀ L s.heap m) (X : K.In h₀) (hk : K.lookup q = some ⟨.type "tuple", od, .seq items n, osl⟩) (hi : StrsAre items.toList ys) (he : ∀ c : Nat, ys.any (· == ⟨#[c]⟩) = al c)
    (h : Q (.bool (al c)) s) : wpAny (model prog w) A (compareOp .In (.str ⟨#[c]⟩ u) (.ref q)) Q E s := in_tuple_strs (K_tup F X hk) hi (by rw [he]; exact h)
theorem in_tupK_none {K : Frag} {h₀ : Heap} {L q : Addr} {m : Str → Option Value} {od : Option Addr} {items : Array Value} {n : Nat} {osl : Array (Option Value)} {ys : List Str} {Q : Value → Shared → Prop}
    (F : Fr h₀ L s.heap m) (X : K.In h₀) (hk : K.lookup q = some ⟨.type "tuple", od, .seq items n, osl⟩) (hi : StrsAre items.toList ys)
    (h : Q (.bool false) s) : wpAny (model prog w) A (compareOp .In .none (.ref q)) Q E s := in_tuple_none (K_tup F X hk) hi h
end
noncomputable def alD (hex : Bool) (c : Nat) : Bool := decide (48 ≤ c ∧ c ≤ 57) || (hex && (decide (65 ≤ c ∧ c ≤ 70) || decide (97 ≤ c ∧ c ≤ 102)))
theorem chr_eq (d c : Nat) : ((⟨#[d]⟩ : Str) == ⟨#[c]⟩) = decide (c = d) := by
  rw [Bool.eq_iff_iff, beq_iff_eq, decide_eq_true_iff]
  constructor
  · intro h; injection h with h; have := congrArg Array.toList h; simp at this; exact this.symm
  · rintro rfl; rfl
theorem chr_any (c : Nat) : ∀ L : List Nat, (L.map (fun d => (⟨#[d]⟩ : Str))).any (· == ⟨#[c]⟩) = decide (c ∈ L)
  | [] => by simp
  | d :: r => by rw [List.map_cons, List.any_cons, chr_any c r, chr_eq]; simp [List.mem_cons]
theorem alD_far {c : Nat} (b : Bool) (h : 128 ≤ c) : alD b c = false := by
  have h1 : ¬ c ≤ 57 := Nat.not_le.mpr (Nat.lt_of_lt_of_le (by decide) h)
  have h2 : ¬ c ≤ 70 := Nat.not_le.mpr (Nat.lt_of_lt_of_le (by decide) h)
  have h3 : ¬ c ≤ 102 := Nat.not_le.mpr (Nat.lt_of_lt_of_le (by decide) h)
  simp [alD, h1, h2, h3]
theorem alD_any {b : Bool} {L : List Nat} (hL : ∀ d ∈ L, d < 128) (hb : ∀ c : Nat, c < 128 → decide (c ∈ L) = alD b c) (c : Nat) : (L.map (fun d => (⟨#[d]⟩ : Str))).any (· == ⟨#[c]⟩) = alD b c := by
  rw [chr_any]
  by_cases h : c < 128
  · exact hb c h
  · rw [alD_far b (Nat.not_lt.mp h)]
    exact decide_eq_false fun hc => h (hL c hc)
theorem dec_any (c : Nat) : ([⟨#[48]⟩, ⟨#[49]⟩, ⟨#[50]⟩, ⟨#[51]⟩, ⟨#[52]⟩, ⟨#[53]⟩, ⟨#[54]⟩, ⟨#[55]⟩, ⟨#[56]⟩, ⟨#[57]⟩] : List Str).any (· == ⟨#[c]⟩) = alD false c :=
  alD_any (L := [48, 49, 50, 51, 52, 53, 54, 55, 56, 57]) (by decide +kernel) (by decide +kernel) c
theorem hex_any (c : Nat) : ([⟨#[48]⟩, ⟨#[49]⟩, ⟨#[50]⟩, ⟨#[51]⟩, ⟨#[52]⟩, ⟨#[53]⟩, ⟨#[54]⟩, ⟨#[55]⟩, ⟨#[56]⟩, ⟨#[57]⟩, ⟨#[97]⟩, ⟨#[98]⟩, ⟨#[99]⟩, ⟨#[100]⟩, ⟨#[101]⟩, ⟨#[102]⟩, ⟨#[65]⟩, ⟨#[66]⟩, ⟨#[67]⟩, ⟨#[68]⟩, ⟨#[69]⟩, ⟨#[70]⟩] : List Str).any (· == ⟨#[c]⟩) = alD true c :=
  alD_any (L := [48, 49, 50, 51, 52, 53, 54, 55, 56, 57, 97, 98, 99, 100, 101, 102, 65, 66, 67, 68, 69, 70]) (by decide +kernel) (by decide +kernel) c
noncomputable def latin : List Nat := [8364, 129, 8218, 402, 8222, 8230, 8224, 8225, 710, 8240, 352, 8249, 338, 141, 381, 143, 144, 8216, 8217, 8220, 8221, 8226, 8211, 8212, 732, 8482, 353, 8250, 339, 157, 382, 376]
noncomputable def replC (n : Nat) : Nat := if n = 0 then 65533 else if n = 13 then 13 else latin.getD (n - 128) 0
noncomputable def replT : List (Int × PyData) := [(0, .str ⟨#[65533]⟩), (13, .str ⟨#[13]⟩), (128, .str ⟨#[8364]⟩), (129, .str ⟨#[129]⟩), (130, .str ⟨#[8218]⟩), (131, .str ⟨#[402]⟩), (132, .str ⟨#[8222]⟩), (133, .str ⟨#[8230]⟩), (134, .str ⟨#[8224]⟩), (135, .str ⟨#[8225]⟩), (136, .str ⟨#[710]⟩), (137, .str ⟨#[8240]⟩), (138, .str ⟨#[352]⟩), (139, .str ⟨#[8249]⟩), (140, .str ⟨#[338]⟩), (141, .str ⟨#[141]⟩), (142, .str ⟨#[381]⟩), (143, .str ⟨#[143]⟩), (144, .str ⟨#[144]⟩), (145, .str ⟨#[8216]⟩), (146, .str ⟨#[8217]⟩), (147, .str ⟨#[8220]⟩), (148, .str ⟨#[8221]⟩), (149, .str ⟨#[8226]⟩), (150, .str ⟨#[8211]⟩), (151, .str ⟨#[8212]⟩), (152, .str ⟨#[732]⟩), (153, .str ⟨#[8482]⟩), (154, .str ⟨#[353]⟩), (155, .str ⟨#[8250]⟩), (156, .str ⟨#[339]⟩), (157, .str ⟨#[157]⟩), (158, .str ⟨#[382]⟩), (159, .str ⟨#[376]⟩)]
noncomputable def inRepl (z : Int) : Bool := decide (z = 0 ∨ z = 13 ∨ (128 ≤ z ∧ z ≤ 159))
noncomputable def surr (z : Int) : Bool := decide ((55296 ≤ z ∧ z ≤ 57343) ∨ 1114111 < z)
noncomputable def nonchL : List Int := [11, 65534, 65535, 131070, 131071, 196606, 196607, 262142, 262143, 327678, 327679, 393214, 393215, 458750, 458751, 524286, 524287, 589822, 589823, 655358, 655359, 720894, 720895, 786430, 786431, 851966, 851967, 917502, 917503, 983038, 983039, 1048574, 1048575, 1114110, 1114111]
noncomputable def nonch (z : Int) : Bool := KTD.inNums z nonchL
noncomputable def fltZ (z : Int) : Bool := decide ((1 ≤ z ∧ z ≤ 8) ∨ (14 ≤ z ∧ z ≤ 31) ∨ (127 ≤ z ∧ z ≤ 159) ∨ (64976 ≤ z ∧ z ≤ 65007)) || nonch z
noncomputable def sgZ (z : Int) : Nat := if inRepl z then replC z.toNat else if surr z then 65533 else z.toNat
noncomputable def ftZ (z : Int) : Bool := inRepl z || surr z || fltZ z
theorem inKeys_iff (z : Int) : ∀ tab : List (Int × PyData), KTD.inKeys z tab = true ↔ z ∈ tab.map (·.1)
  | [] => by rw [show KTD.inKeys z ([] : List (Int × PyData)) = false from rfl]; simp
  | p :: r => by rw [show KTD.inKeys z (p :: r) = (decide (z = p.1) || KTD.inKeys z r) from rfl]; simp [inKeys_iff z r]
theorem repl_keys : replT.map (·.1) = 0 :: 13 :: (List.range 32).map (fun k : Nat => (k : Int) + 128) := by decide +kernel
theorem repl_in (z : Int) : KTD.inKeys z replT = inRepl z := by
  rw [Bool.eq_iff_iff, inKeys_iff, repl_keys, inRepl, decide_eq_true_iff, List.mem_cons, List.mem_cons]
  refine or_congr_right (or_congr_right ⟨fun h => ?_, fun h => ?_⟩)
  · obtain ⟨k, hk, e⟩ := List.mem_map.mp h
    have := List.mem_range.mp hk
    omega
  · exact List.mem_map.mpr ⟨(z - 128).toNat, List.mem_range.mpr (by omega), by omega⟩
noncomputable def isStr1 (o : Option PyData) (c : Nat) : Bool := match o with | some (.str s) => s == ⟨#[c]⟩ | _ => false
theorem isStr1_is {o : Option PyData} {c : Nat} (h : isStr1 o c = true) : o = some (.str ⟨#[c]⟩) := by
  rcases o with _ | d
  · exact absurd h Bool.false_ne_true
  · cases d with
    | str s => rw [eq_of_beq (show (s == ⟨#[c]⟩) = true from h)]
    | _ => exact absurd h Bool.false_ne_true
theorem repl_at (z : Int) (h : inRepl z = true) : KTD.datumAt z replT = some (.str ⟨#[replC z.toNat]⟩) := by
  have h' : z = 0 ∨ z = 13 ∨ (128 ≤ z ∧ z ≤ 159) := by simpa [inRepl] using h
  have : ∀ k : Nat, k < 32 → isStr1 (KTD.datumAt ((k : Int) + 128) replT) (replC (k + 128)) = true := by decide +kernel
  rcases h' with h | h | h
  · subst h; exact isStr1_is (by decide +kernel)
  · subst h; exact isStr1_is (by decide +kernel)
  · obtain ⟨k, hk⟩ := Int.le.dest h.1
    have hk : z = ((k : Int) + 128) := by rw [← hk, Int.add_comm]
    subst hk
    have hl : k < 32 := Int.ofNat_lt.mp (Int.lt_of_add_lt_add_right (Int.lt_of_le_of_lt h.2 (by decide : (159 : Int) < 32 + 128)))
    exact isStr1_is (this k hl)
section
variable {prog : Program} {w : World} {A : Around} {E : Value → Shared → Prop} {s : Shared} {K : Frag} {h₀ : Heap} {L q : Addr} {m : Str → Option Value} {z : Int} {u : Tok}
theorem in_repl {Q : Value → Shared → Prop} (F : Fr h₀ L s.heap m) (X : K.In h₀) (hk : KTD.keyedLook (fun b => K.lookup b) q replT = true) (h : ∀ b, b = inRepl z → Q (.bool b) { s with toks := s.toks + 1 }) :
    wpAny (model prog w) A (compareOp .In (.int z u) (.ref q)) Q E s := KTD.in_keyed (kt_keyed_in X hk) F.keep (h _ (repl_in z))
theorem item_repl {value slice : Expr} {Q : Value → Shared → Prop} (F : Fr h₀ L s.heap m) (X : K.In h₀) (hk : KTD.keyedLook (fun b => K.lookup b) q replT = true) (hz : inRepl z = true) (h : ∀ t, Q (.str ⟨#[replC z.toNat]⟩ t) { s with toks := s.toks + 1 })
    (hs : subscripted slice false (.ref q) (.int z u) = operate [.ref q, .int z u] (getItem (.ref q) (.int z u)) := by with_unfolding_all rfl) (hg : ∀ r, letTemporaryGo value (.ref q) r = pure () := by intro _; with_unfolding_all rfl) :
    wpAny (model prog w) A (subscriptTail value slice (.ref q) (.int z u)) Q E s :=
  item_intTab ((kt_keyed_in X hk).keep F.keep prog w) (by rw [KTD.lookup_keyed]; exact repl_at z hz) (fun v hv => by obtain ⟨t, rfl⟩ := PyProof.V.Flat.str_inv hv; exact h t) hs hg
end
noncomputable def tokT : List (Str × PyData) := [(Str.ofString "Doctype", .int 0), (Str.ofString "Characters", .int 1), (Str.ofString "SpaceCharacters", .int 2), (Str.ofString "StartTag", .int 3), (Str.ofString "EndTag", .int 4), (Str.ofString "EmptyTag", .int 5), (Str.ofString "Comment", .int 6), (Str.ofString "ParseError", .int 7)]
theorem tokT_nodup : (tokT.map (·.1)).Nodup := by decide +kernel
section
variable {prog : Program} {w : World} {A : Around} {E : Value → Shared → Prop} {s : Shared} {K : Frag} {h₀ : Heap} {L q : Addr} {m : Str → Option Value} {u : Tok}
theorem item_tok {value slice : Expr} {Q : Value → Shared → Prop} {x : Str} (i : Int) (F : Fr h₀ L s.heap m) (X : K.In h₀) (e : KTD.tabLook KTD.flatLooks (fun b => K.lookup b) q tokT = true)
    (hh : KTD.hashesOf (fun b => K.lookup b) q = tokT.map fun p => (PySem.strKind prog w).hash p.1) (hl : lookup (.str x) (tokT.map fun p => (PyData.str p.1, p.2)) = some (.int i))
    (h : ∀ t, Q (.int i t) { s with toks := s.toks + 1 })
    (hs : subscripted slice false (.ref q) (.str x u) = operate [.ref q, .str x u] (getItem (.ref q) (.str x u)) := by with_unfolding_all rfl) (hg : ∀ r, letTemporaryGo value (.ref q) r = pure () := by intro _; with_unfolding_all rfl) :
    wpAny (model prog w) A (subscriptTail value slice (.ref q) (.str x u)) Q E s := by
  obtain ⟨lo, kvs, ⟨o, es, ep, ho, r⟩, hf⟩ := kt_tab_in prog w X e tokT_nodup hh
  exact item_strTab ⟨lo, kvs, ⟨o, es, ep, F.keep _ _ ho, r⟩, hf⟩ hl (fun v hv => by obtain ⟨t, rfl⟩ := PyProof.V.Flat.int_inv hv; exact h t) hs hg
end
theorem data_ints {ns : List Int} : ∀ {vs : List Value}, DataAre vs (ns.map PyData.int) → IntsAre vs ns := by
  induction ns with
  | nil => intro vs h; cases h; exact .nil
  | cons n ns ih =>
    intro vs h
    cases h with
    | cons h r => obtain ⟨t, e⟩ := IsDatum.int h; subst e; exact .cons _ t (ih r)
structure MeetH (g : Heap) (L : Addr) (m : Str → Option Value) (news : List (Addr × Obj)) (b0 : Bool) (s : Shared) (b : Bool) (s' : Shared) : Prop where
  val : b = b0
  st : ∃ h' k, s' = { s with heap := h', toks := k } ∧ Fr g L h' m ∧ News g L h' news
section
variable {prog : Program} {w : World} {A : Around} {E : Value → Shared → Prop} {s : Shared} {g : Heap} {L : Addr} {m : Str → Option Value} {news : List (Addr × Obj)}
theorem wp_meetH {t : Sem Bool} {Q : Bool → Shared → Prop} (b0 : Bool) (_ : Fr g L s.heap m) (_ : News g L s.heap news) (hq : ∀ h' k, Fr g L h' m → News g L h' news → Q b0 { s with heap := h', toks := k }) (hw : wpAny (model prog w) A t (MeetH g L m news b0 s) E s) : wpAny (model prog w) A t Q E s :=
  wpAny_mono hw (fun b s' h => by obtain ⟨rfl, h', k, rfl, F', N'⟩ := h; exact hq h' k F' N') (fun _ _ h => h)
theorem meetH_end {b0 b : Bool} {h' : Heap} {k : Nat} (F : Fr g L h' m) (N : News g L h' news) (hb : b = b0) : MeetH g L m news b0 s b { s with heap := h', toks := k } := ⟨hb, h', k, rfl, F, N⟩
theorem tuple_ints {env : Env} {elts : List Expr} {k : Nat} {pos : Pos} {ns : List Int} {Q : Value → Shared → Prop} (F : Fr g L s.heap m) (N : News g L s.heap news) (hl : tupLitsOf elts = some (ns.map PyData.int)) (hsz : ns.length ≤ sizeLine)
    (h : ∀ h' a tk items, Fr g L h' m → News g L h' news → IsTup h' a items → IntsAre items.toList ns → Q (.ref a) { s with heap := h', toks := tk }) : wpAny (model prog w) A (eval (.Tuple elts k pos) env) Q E s := by
  refine Tuple_ (spliced_lits elts _ s _ hl fun vs tk hvs => ?_)
  have hi := data_ints hvs
  have hlen : vs.length ≤ sizeLine := by rw [hi.length]; exact hsz
  refine newTuple_N (s := { s with toks := tk }) F N (fun h' F' N' => ?_) hlen
  exact h h' _ tk vs.toArray F' (fun p hp => N' p (List.mem_cons_of_mem _ hp)) ⟨_, (N' _ (List.mem_cons_self ..)).1, rfl, _, rfl⟩ hi
theorem in_nums {q : Addr} {z : Int} {u : Tok} {Q : Value → Shared → Prop} {ns : List Int} {items : Array Value} (ht : IsTup s.heap q items) (hi : IntsAre items.toList ns) (h : Q (.bool (KTD.inNums z ns)) s) :
    wpAny (model prog w) A (compareOp .In (.int z u) (.ref q)) Q E s := in_tuple_ints ht hi (by rw [KTD.any_nums]; exact h)
end
theorem flt_a {z : Int} (h : 1 ≤ z ∧ z ≤ 8 ∨ 14 ≤ z ∧ z ≤ 31 ∨ 127 ≤ z ∧ z ≤ 159 ∨ 64976 ≤ z ∧ z ≤ 65007) : fltZ z = true := by
  unfold fltZ; rw [decide_eq_true h]; rfl
theorem surr_t {z : Int} (h : 55296 ≤ z ∧ z ≤ 57343 ∨ 1114111 < z) : true = surr z := (decide_eq_true h).symm
theorem surr_f {z : Int} (h : ¬ (55296 ≤ z ∧ z ≤ 57343 ∨ 1114111 < z)) : false = surr z := (decide_eq_false h).symm
theorem flt_n {z : Int} (h : KTD.inNums z nonchL = true) : true = fltZ z := by
  unfold fltZ nonch; rw [h, Bool.or_true]
theorem flt_0 {z : Int} (h : ¬ (1 ≤ z ∧ z ≤ 8 ∨ 14 ≤ z ∧ z ≤ 31 ∨ 127 ≤ z ∧ z ≤ 159 ∨ 64976 ≤ z ∧ z ≤ 65007)) (hn : KTD.inNums z nonchL = false) : false = fltZ z := by
  unfold fltZ nonch; rw [decide_eq_false h, hn]; rfl
end Mine.Internal

end
section
set_option tactic.hygienic false
open PySem PySem.W PyProof.Rows PySem.Calls PySem.Spec PySem.NumText
set_option maxRecDepth 100000
namespace Mine.Internal
noncomputable def figV (c : Nat) : Nat := if 48 ≤ c ∧ c ≤ 57 then c - 48 else if 97 ≤ c ∧ c ≤ 122 then c - 87 else c - 55
noncomputable def numV (b : Nat) (ds : List Nat) : Nat := ds.foldl (fun acc c => acc * b + figV c) 0
noncomputable def baseOf (hex : Bool) : Nat := if hex then 16 else 10
theorem alD_cases {hex : Bool} {c : Nat} (h : alD hex c = true) : (48 ≤ c ∧ c ≤ 57) ∨ (hex = true ∧ ((65 ≤ c ∧ c ≤ 70) ∨ (97 ≤ c ∧ c ≤ 102))) := by
  simp only [alD, Bool.or_eq_true, Bool.and_eq_true, decide_eq_true_iff] at h
  exact h
theorem al_lt103 {hex : Bool} {c : Nat} (h : alD hex c = true) : c < 103 := by
  rcases alD_cases h with h | ⟨_, h | h⟩
  · exact Nat.lt_of_le_of_lt h.2 (by decide)
  · exact Nat.lt_of_le_of_lt h.2 (by decide)
  · exact Nat.lt_of_le_of_lt h.2 (by decide)
theorem digit_al103 : ∀ c : Nat, c < 103 → ∀ hex : Bool, alD hex c = true → digit? c = some (figV c) ∧ figV c < baseOf hex := by decide +kernel
theorem digit_al {hex : Bool} {c : Nat} (h : alD hex c = true) : digit? c = some (figV c) ∧ figV c < baseOf hex := digit_al103 c (al_lt103 h) hex h
theorem al_not103 : ∀ c : Nat, c < 103 → ∀ hex : Bool, alD hex c = true → (c == 120 || c == 88) = false ∧ (c == 111 || c == 79) = false := by decide +kernel
theorem step_al {hex : Bool} {c : Nat} (h : alD hex c = true) (p : Array Nat × Bool) : NumText.step (baseOf hex) p c = some (p.1.push (figV c), true) := by
  obtain ⟨h1, h2⟩ := digit_al h
  have h3 : c ≠ 95 := by rcases alD_cases h with h | ⟨_, h | h⟩ <;> omega
  unfold NumText.step
  rw [if_neg (by simpa using h3), h1]
  simp [h2]
theorem fold_al {hex : Bool} : ∀ (ds : List Nat) (p : Array Nat × Bool), (∀ d ∈ ds, alD hex d = true) → ds.foldlM (NumText.step (baseOf hex)) p = some (p.1 ++ (ds.map figV).toArray, p.2 || !ds.isEmpty)
  | [], p, _ => by simp
  | c :: r, p, h => by
    rw [List.foldlM_cons, step_al (h c (List.mem_cons_self ..))]
    show r.foldlM _ _ = _
    rw [fold_al r _ (fun d hd => h d (List.mem_cons_of_mem _ hd))]
    simp
theorem digits_al {hex : Bool} {ds : List Nat} (h : ∀ d ∈ ds, alD hex d = true) (hne : ds ≠ []) : digits? (baseOf hex) ds = some (ds.map figV).toArray := by
  unfold digits?
  rw [fold_al ds _ h]
  cases ds with
  | nil => exact absurd rfl hne
  | cons c r => simp
theorem blank_al {hex : Bool} {c : Nat} (h : alD hex c = true) : blank c = false := by
  unfold blank
  rcases alD_cases h with h | ⟨_, h | h⟩ <;> (simp; omega)
theorem drop_al {hex : Bool} : ∀ {ds : List Nat}, (∀ d ∈ ds, alD hex d = true) → ds.dropWhile blank = ds
  | [], _ => rfl
  | c :: r, h => by rw [List.dropWhile_cons, blank_al (h c (List.mem_cons_self ..))]; rfl
theorem sign_al {hex : Bool} {ds : List Nat} (h : ∀ d ∈ ds, alD hex d = true) : sign ds = (false, ds) := by
  cases ds with
  | nil => rfl
  | cons c r =>
    have h0 := alD_cases (h c (List.mem_cons_self ..))
    have h1 : c ≠ 45 := by clear h; omega
    have h2 : c ≠ 43 := by clear h h1; omega
    delta sign sign.match_1
    exact (dif_neg h1).trans (dif_neg h2)
theorem prefix_al {hex : Bool} {ds : List Nat} (h : ∀ d ∈ ds, alD hex d = true) : prefix? ds = none ∨ prefix? ds = some 2 := by
  rcases ds with _ | ⟨c0, _ | ⟨c, r⟩⟩
  · exact .inl rfl
  · by_cases h0 : c0 = 48
    · subst h0; exact .inl rfl
    · refine .inl ?_
      delta prefix? prefix?.match_1
      exact dif_neg h0
  · by_cases h0 : c0 = 48
    · subst h0
      have hc := h c (List.mem_cons_of_mem _ (List.mem_cons_self ..))
      have e := al_not103 c (al_lt103 hc) hex hc
      show (if (c == 120 || c == 88) = true then some 16 else if (c == 111 || c == 79) = true then some 8 else if (c == 98 || c == 66) = true then some 2 else none) = none ∨ (if (c == 120 || c == 88) = true then some 16 else if (c == 111 || c == 79) = true then some 8 else if (c == 98 || c == 66) = true then some 2 else none) = some 2
      rw [if_neg (by rw [e.1]; decide), if_neg (by rw [e.2]; decide)]
      by_cases h2 : (c == 98 || c == 66) = true
      · exact .inr (if_pos h2)
      · exact .inl (if_neg h2)
    · refine .inl ?_
      delta prefix? prefix?.match_1
      exact dif_neg h0
theorem based_al {hex : Bool} {ds : List Nat} (h : ∀ d ∈ ds, alD hex d = true) : based (baseOf hex) ds = (baseOf hex, false, ds) := by
  have hb : (baseOf hex == 0) = false := by cases hex <;> rfl
  have hn : (baseOf hex == 2) = false := by cases hex <;> rfl
  unfold based
  rcases prefix_al h with e | e <;> rw [e]
  · show (if (baseOf hex == 0) = true then _ else _) = _
    rw [hb]; rfl
  · show (if (baseOf hex == 0 || baseOf hex == 2) = true then _ else _) = _
    rw [hb, hn]; rfl
theorem foldl_figs (b : Nat) : ∀ (ds : List Nat) (a : Nat), (ds.map figV).foldl (fun acc d => acc * b + d) a = ds.foldl (fun acc c => acc * b + figV c) a
  | [], _ => rfl
  | c :: r, a => foldl_figs b r _
theorem judge_al {hex : Bool} {ds : List Nat} (hl : ds.length ≤ 640) : judge 0 false (baseOf hex) false (some (ds.map figV).toArray) = (int_private% "Numeral.value") ((numV (baseOf hex) ds : Nat) : Int) := by
  unfold judge
  have h1 : (![2, 4, 8, 16, 32].contains (baseOf hex) && (0 : Nat) != 0 && decide ((ds.map figV).toArray.size > 0)) = false := by simp
  have h2 : (baseOf hex == 10 && decide ((ds.map figV).toArray.size > 6000)) = false := by
    rw [decide_eq_false (by rw [List.size_toArray, List.length_map]; exact Nat.not_lt.mpr (Nat.le_trans hl (by decide))), Bool.and_false]
  simp only [h1, h2, Bool.false_eq_true, if_false, Bool.false_and]
  rw [show (ds.map figV).toArray.foldl (fun acc d => acc * baseOf hex + d) 0 = numV (baseOf hex) ds from by
    rw [List.foldl_toArray]; exact foldl_figs (baseOf hex) ds 0]
theorem read_al {hex : Bool} {ds : List Nat} (h : ∀ d ∈ ds, alD hex d = true) (hne : ds ≠ []) (hl : ds.length ≤ 640) :
    (int_private% "readNumeral") 0 (baseOf hex) ds = (int_private% "Numeral.value") ((numV (baseOf hex) ds : Nat) : Int) := by
  rw [readNumeral_eq, drop_al h, sign_al h]
  dsimp only
  rw [based_al h]
  dsimp only
  rw [drop_al (hex := hex) (fun d hd => h d (List.mem_reverse.mp hd)), List.reverse_reverse, digits_al h hne, judge_al hl]
theorem wp_textB {M : Model} {A : Around} {E : Value → Shared → Prop} {s : Shared} {Q : Value → Shared → Prop} {v : Value} {text : List Nat} {n : Int} {b : Nat}
    (hs : (text.takeWhile (· != 0)).length ≤ 640) (hr : (int_private% "readNumeral") 0 b (text.takeWhile (· != 0)) = (int_private% "Numeral.value") n)
    (ha : ((text.takeWhile (· != 0)).length == text.length) = true) (h : Q (.int n s.toks) { s with toks := s.toks + 1 }) :
    wpAny M A ((int_private% "intFromText") v text b) Q E s := by
  obtain ⟨hp, g, d, tk, os⟩ := s
  repeat (any_goals (first
    | assumption
    | (with_reducible refine wpAny_ite_true (decide_eq_true hs) ?_)
    | (with_reducible refine wpAny_ite_true (decide_eq_true ha) ?_)
    | wp_step))
  all_goals (try rw [hr])
  all_goals (try dsimp only)
  repeat (any_goals (first
    | assumption
    | (with_reducible refine wpAny_ite_true (decide_eq_true hs) ?_)
    | (with_reducible refine wpAny_ite_true (decide_eq_true ha) ?_)
    | wp_step))
theorem take_al {hex : Bool} : ∀ {ds : List Nat}, (∀ d ∈ ds, alD hex d = true) → ds.takeWhile (· != 0) = ds
  | [], _ => rfl
  | c :: r, h => by
    have hc : (c != 0) = true := by have := alD_cases (h c (List.mem_cons_self ..)); simp; omega
    rw [List.takeWhile_cons, hc]
    show c :: r.takeWhile _ = _
    rw [take_al (fun d hd => h d (List.mem_cons_of_mem _ hd))]
theorem all_al {hex : Bool} {ds : List Nat} (h : ∀ d ∈ ds, alD hex d = true) : (ds.toArray.all (· < 128)) = true := by
  rw [List.all_toArray, List.all_eq_true]
  intro d hd
  have := alD_cases (h d hd)
  simp; omega
structure HidB (hex : Bool) (ds : List Nat) : Prop where
  h : ∀ d ∈ ds, alD hex d = true
  ne : ds ≠ []
  len : ds.length ≤ 640
theorem wp_textH {hex : Bool} {ds : List Nat} (k : HidB hex ds) {M : Model} {A : Around} {E : Value → Shared → Prop} {s : Shared} {Q : Value → Shared → Prop} {v : Value} {b : Nat} {text : List Nat} (ht : text = ds) (hb : b = baseOf hex)
    (h : Q (.int (numV (baseOf hex) ds : Nat) s.toks) { s with toks := s.toks + 1 }) : wpAny M A ((int_private% "intFromText") v text b) Q E s := by
  rw [ht]; subst hb
  refine wp_textB (n := (numV (baseOf hex) ds : Nat)) ?_ ?_ ?_ h
  · rw [take_al k.h]; exact k.len
  · rw [take_al k.h]; exact read_al k.h k.ne k.len
  · rw [take_al k.h]; exact beq_self_eq_true _
set_option maxHeartbeats 4000000 in
theorem gives_textB {hex : Bool} {ds : List Nat} {u v : Tok} {b : Int} (k : HidB hex ds) (hb : b = (baseOf hex : Nat)) :
    Gives (Builtin.«int.__new__» ⟨[.type "int", .str ⟨ds.toArray⟩ u, .int b v], []⟩) (.int (numV (baseOf hex) ds : Nat)) :=
  .of_wp fun M A E s Q h => by
    obtain ⟨hp, g, d, tk, os⟩ := s
    have f1 := F.conv_sub_int
    have f2 := F.madeHere_int
    have f6 : typeOf (.str ⟨ds.toArray⟩ u) = pure (.type "str") := rfl
    have hall := all_al k.h
    have hbt : b.toNat = baseOf hex := by rw [hb]; rfl
    have hbase : decide (((b != 0 && decide (b < 2)) || decide (b > 36)) = true) = false := by subst hb; cases hex <;> rfl
    have hall' : decide ((ds.toArray.all (· < 128)) = true) = true := decide_eq_true hall
    repeat (any_goals (first
      | assumption
      | ((with_reducible show wpAny _ _ ((int_private% "intFromText") _ _ _) _ _ _); refine wp_textH k (by rw [if_pos hall]) hbt ?_)
      | (with_reducible refine wpAny_ite_true hall' ?_)
      | (with_reducible refine wpAny_ite_false hbase ?_)
      | wp_step))
    all_goals exact ⟨_, rfl, h⟩
theorem typeCall_int_2 (a b : Value) : checkTypeCall "int" ⟨[a, b], []⟩ = pure () := by kernel_rfl
theorem newCall_int_2 (a b : Value) : checkBuiltinCall "int.__new__" ⟨[.type "int", a, b], []⟩ = pure () := by kernel_rfl
theorem toList_app (x y : Str) : (x ++ y).cps.toList = x.cps.toList ++ y.cps.toList := by
  show (x.cps ++ y.cps).toList = _
  rw [Array.toList_append]
theorem join_flat : ∀ ys : List Str, (Txt.join (Str.ofString "") ys).cps.toList = (ys.map (·.cps.toList)).flatten := by
  intro ys
  show (Builtin.Str.glued _ ys).cps.toList = _
  rw [StrLaws.glued_eq_join]
  have e0 : (Str.ofString "").cps.toList = [] := by decide +kernel
  induction ys with
  | nil => rfl
  | cons x r ih =>
    cases r with
    | nil => simp [Str.join]
    | cons y r =>
      rw [Str.join, toList_app, toList_app, ih, e0]
      · simp
      · intro h; cases h
section
variable {prog : Program} {w : World} {A : Around} {E : Value → Shared → Prop} {s : Shared} {Q : Value → Shared → Prop}
theorem call_int_B {hex : Bool} {ds : List Nat} {u v : Tok} {b : Int} (k : HidB hex ds) (hb : b = (baseOf hex : Nat)) (h : Q (.int (numV (baseOf hex) ds : Nat) s.toks) { s with toks := s.toks + 1 }) :
    wpAny (model prog w) A (call (.type "int") [.str ⟨ds.toArray⟩ u, .int b v]) Q E s :=
  callType_new F.called_int F.newNe_int (typeCall_int_2 _ _) (newCall_int_2 _ _) (fun obj => F.args_object_init_3 obj _ _) F.entry_int_new (gives_textB k hb).meets (show (Made.int (numV (baseOf hex) ds : Nat)).post _ s from ⟨rfl, h⟩)
theorem call_int_Z {hex : Bool} {ds : List Nat} {u v : Tok} {b z : Int} (k : HidB hex ds) (hb : b = (baseOf hex : Nat)) (hz : ((numV (baseOf hex) ds : Nat) : Int) = z) (h : Q (.int z s.toks) { s with toks := s.toks + 1 }) :
    wpAny (model prog w) A (call (.type "int") [.str ⟨ds.toArray⟩ u, .int b v]) Q E s := call_int_B k hb (by rw [hz]; exact h)
theorem sum_ones (f : Nat → Str) (hf : ∀ d, (f d).length = 1) : ∀ ds : List Nat, ((ds.map f).map (·.length)).sum = ds.length
  | [] => rfl
  | c :: r => by simp only [List.map_cons, List.sum_cons, hf, sum_ones f hf r, List.length_cons]; omega
theorem join_chs {g : Nat → Str} (hg : ∀ d, g d = ⟨#[d]⟩) {D : Addr} {vs : List Value} {ds : List Nat} {t : Tok} (hl : s.heap.IsList D vs.toArray) (hi : StrsAre vs (ds.map g)) (hn : ds.length ≤ 100000)
    (h : ∀ t' k, Q (.str ⟨ds.toArray⟩ t') { s with toks := k }) : wpAny (model prog w) A (call (.builtin "str.join") [.str (Str.ofString "") t, .ref D]) Q E s := by
  refine join_listW hl hi (by decide) ?_ (fun t' k => ?_)
  · rw [sum_ones g (fun d => by rw [hg]; rfl), List.length_map]; omega
  · have e : Txt.join (Str.ofString "") (ds.map g) = ⟨ds.toArray⟩ := by
      refine Str.ext' (Array.toList_inj.mp ?_)
      rw [join_flat, List.map_map]
      have : ∀ ds : List Nat, (ds.map ((·.cps.toList) ∘ g)).flatten = ds := by
        intro ds
        induction ds with
        | nil => rfl
        | cons c r ih => rw [List.map_cons, List.flatten_cons, ih, Function.comp, hg]; rfl
      exact this ds
    rw [e]; exact h t' k
end
end Mine.Internal

end
section
set_option tactic.hygienic false
open PySem PySem.W PyProof.Rows PySem.Calls PySem.Spec PyProof.V
namespace Mine.Internal
noncomputable abbrev sdict (P : Params) (k0 k1 k2 k3 k4 k5 k6 k7 k8 k9 : Tok) (rce nl ds : Addr) (chunk : Str) (tc : Tok) (size : Int) (ts : Tok) (off : Int) (to : Tok) (er : Addr) (pl : Int) (tl : Tok) (pc : Int) (tp : Tok) (buf : Value) : List DictEntry :=
  [⟨PyData.keyHash P "reportCharacterErrors", .str "reportCharacterErrors" k0, .ref rce⟩,
   ⟨PyData.keyHash P "newLines", .str "newLines" k1, .ref nl⟩,
   ⟨PyData.keyHash P "dataStream", .str "dataStream" k2, .ref ds⟩,
   ⟨PyData.keyHash P "chunk", .str "chunk" k3, .str chunk tc⟩,
   ⟨PyData.keyHash P "chunkSize", .str "chunkSize" k4, .int size ts⟩,
   ⟨PyData.keyHash P "chunkOffset", .str "chunkOffset" k5, .int off to⟩,
   ⟨PyData.keyHash P "errors", .str "errors" k6, .ref er⟩,
   ⟨PyData.keyHash P "prevNumLines", .str "prevNumLines" k7, .int pl tl⟩,
   ⟨PyData.keyHash P "prevNumCols", .str "prevNumCols" k8, .int pc tp⟩,
   ⟨PyData.keyHash P "_bufferedCharacter", .str "_bufferedCharacter" k9, buf⟩]
noncomputable abbrev tdict (P : Params) (j0 j1 : Tok) (src : Str) (tsr : Tok) (place : Int) (tpl : Tok) : List DictEntry :=
  [⟨PyData.keyHash P "text", .str "text" j0, .str src tsr⟩, ⟨PyData.keyHash P "place", .str "place" j1, .int place tpl⟩]
structure St where
  chunk : Str
  tc : Tok
  size : Int
  ts : Tok
  off : Int
  to : Tok
  pl : Int
  tl : Tok
  pc : Int
  tp : Tok
  buf : Value
  pend : List Nat
  place : Int
  tpl : Tok
  es : List Value
  n : Nat
noncomputable def BufIs (buf : Value) (p : List Nat) : Prop := (buf = .none ∧ p = []) ∨ (∃ t, buf = .str ⟨#[13]⟩ t ∧ p = [13])
noncomputable def Hist (src : Str) (pl pc : Int) (r : List Nat) : Prop := ∃ P0 : List Nat, (10 ∉ P0 → pl = 0 ∧ pc = P0.length) ∧ P0 ++ r = mendL src.cps.toList
structure St.ok (src : Str) (x : St) : Prop where
  csize : x.size = x.chunk.length
  off0 : 0 ≤ x.off
  off1 : x.off ≤ x.size
  clen : x.chunk.length ≤ 10000
  place0 : 0 ≤ x.place
  place1 : x.place ≤ src.length
  slen : src.length ≤ 10000
  bufis : BufIs x.buf x.pend
  bud : x.es.length + (src.length - x.place.toNat) + x.pend.length ≤ 50000
  sur : ∀ c ∈ src.cps.toList, c < 55296
  pendat : x.pend ≠ [] → x.place = src.length
  hist : Hist src x.pl x.pc (x.chunk.cps.toList ++ mendL (x.pend ++ src.cps.toList.drop x.place.toNat))
noncomputable def St.rem (src : Str) (x : St) : List Nat := x.chunk.cps.toList.drop x.off.toNat ++ mendL (x.pend ++ src.cps.toList.drop x.place.toNat)
noncomputable abbrev kdict (P : Params) (m0 m1 m2 m3 m4 m5 m6 m7 : Tok) (st : Addr) (v1 v2 v3 v4 v5 v6 : Value) (tq : Addr) : List DictEntry :=
  [⟨PyData.keyHash P "stream", .str "stream" m0, .ref st⟩,
   ⟨PyData.keyHash P "parser", .str "parser" m1, v1⟩,
   ⟨PyData.keyHash P "escapeFlag", .str "escapeFlag" m2, v2⟩,
   ⟨PyData.keyHash P "lastFourChars", .str "lastFourChars" m3, v3⟩,
   ⟨PyData.keyHash P "state", .str "state" m4, v4⟩,
   ⟨PyData.keyHash P "escape", .str "escape" m5, v5⟩,
   ⟨PyData.keyHash P "currentToken", .str "currentToken" m6, v6⟩,
   ⟨PyData.keyHash P "tokenQueue", .str "tokenQueue" m7, .ref tq⟩]
noncomputable def chS (c : Nat) : Str := ⟨#[c]⟩
structure Cn where
  x : St
  vs : List Value
  n : Nat
  cv : Value
noncomputable def CvIs (src : Str) (x : St) (cv : Value) (r : List Nat) : Prop :=
  (cv = .none ∧ r = [] ∧ x.rem src = []) ∨ ∃ (c : Nat) (t : Tok), cv = .str ⟨#[c]⟩ t ∧ r = c :: x.rem src ∧ 1 ≤ x.off ∧ x.chunk.cps[(x.off - 1).toNat]? = some c
structure Cn.ok (src : Str) (al : Nat → Bool) (L : List Nat) (c : Cn) : Prop where
  sok : c.x.ok src
  ex : ∃ ds r, StrsAre c.vs (ds.map chS) ∧ (∀ d ∈ ds, al d = true) ∧ L = ds ++ r ∧ CvIs src c.x c.cv r
noncomputable def posL (chunk : Str) (o pl : Int) : Int := pl + countTo chunk (Str.ofString "\n") 0 o
noncomputable def posC (chunk : Str) (o pc : Int) : Int := if rfindTo chunk (Str.ofString "\n") 0 o = -1 then pc + o else o - (rfindTo chunk (Str.ofString "\n") 0 o + 1)
inductive RPost (w : World) (st sd : Addr) (k0 k1 k2 k3 k4 k5 k6 k7 k8 k9 : Tok) (rce nl ds er dd : Addr) (j0 j1 : Tok) (src : Str) (tsr : Tok) (x : St) : Value → List (Addr × Obj) → Prop
  | mk (x' : St) (b : Bool) (ok : x'.ok src) (h0 : x'.off = 0) (hr : x'.rem src = mendL (x.pend ++ src.cps.toList.drop x.place.toNat)) (h1 : b = true → 1 ≤ x'.size) (h2 : b = false → x'.rem src = []) (hpl : x'.pl = posL x.chunk x.size x.pl) (hpc : x'.pc = posC x.chunk x.size x.pc) :
    RPost w st sd k0 k1 k2 k3 k4 k5 k6 k7 k8 k9 rce nl ds er dd j0 j1 src tsr x (.bool b) [(st, instObj 166 sd), (sd, dictOf (sdict w.params k0 k1 k2 k3 k4 k5 k6 k7 k8 k9 rce nl ds x'.chunk x'.tc x'.size x'.ts x'.off x'.to er x'.pl x'.tl x'.pc x'.tp x'.buf) 10), (ds, instObj 73 dd), (dd, dictOf (tdict w.params j0 j1 src tsr x'.place x'.tpl) 2), (rce, methodObj (.ref 148) (.ref st)), (er, W.listOf x'.es.toArray x'.n)]
noncomputable abbrev kdict7 (P : Params) (m0 m1 m2 m3 m4 m5 m6 : Tok) (st : Addr) (v1 v2 v3 v4 v5 v6 : Value) : List DictEntry :=
  [⟨PyData.keyHash P "stream", .str "stream" m0, .ref st⟩,
   ⟨PyData.keyHash P "parser", .str "parser" m1, v1⟩,
   ⟨PyData.keyHash P "escapeFlag", .str "escapeFlag" m2, v2⟩,
   ⟨PyData.keyHash P "lastFourChars", .str "lastFourChars" m3, v3⟩,
   ⟨PyData.keyHash P "state", .str "state" m4, v4⟩,
   ⟨PyData.keyHash P "escape", .str "escape" m5, v5⟩,
   ⟨PyData.keyHash P "currentToken", .str "currentToken" m6, v6⟩]
inductive TinitP (w : World) (src : Str) (tsr : Tok) (za zd : Addr) : Obj → List (Addr × Obj) → Prop
  | mk (st sd : Addr) (k0 k1 k2 k3 k4 k5 k6 k7 k8 k9 : Tok) (rce nl ds er dd : Addr) (j0 j1 : Tok) (x : St) (m0 m1 m2 m3 m4 m5 m6 : Tok) (v1 v2 v3 v4 v5 v6 : Value)
    (ho : @LT.lt Nat _ sd st ∧ @LT.lt Nat _ st rce ∧ @LT.lt Nat _ rce dd ∧ @LT.lt Nat _ dd ds ∧ @LT.lt Nat _ ds er) (ok : x.ok src) (hrem : x.rem src = mendL src.cps.toList) :
    TinitP w src tsr za zd (W.dictOf (kdict7 w.params m0 m1 m2 m3 m4 m5 m6 st v1 v2 v3 v4 v5 v6) 7) [(st, instObj 166 sd), (sd, dictOf (sdict w.params k0 k1 k2 k3 k4 k5 k6 k7 k8 k9 rce nl ds x.chunk x.tc x.size x.ts x.off x.to er x.pl x.tl x.pc x.tp x.buf) 10), (ds, instObj 73 dd), (dd, dictOf (tdict w.params j0 j1 src tsr x.place x.tpl) 2), (rce, methodObj (.ref 148) (.ref st)), (er, W.listOf x.es.toArray x.n)]

end Mine.Internal

end
section
set_option tactic.hygienic false
open PySem PySem.W PyProof.Rows PySem.Calls PySem.Spec PyProof.V
namespace Mine.Internal
open Builtin Builtin.Str
theorem occ_no {x y : Str} {lo hi lim : Nat} (h : ∀ i, i + y.length ≤ hi → subAt x y i = false) : occurrences x y lo hi lim = [] := by
  rw [StrLaws.occ_eq]
  have key : ∀ l : List Nat, (forIn (m := Id) l ((#[] : Array Nat), lo) (StrLaws.occBody x y hi lim)) = pure (#[], lo) := by
    intro l
    induction l with
    | nil => rfl
    | cons a l ih =>
      have e : StrLaws.occBody x y hi lim a (#[], lo) = pure (.yield (#[], lo)) := by
        unfold StrLaws.occBody
        rw [if_neg]
        rintro ⟨⟨_, h1⟩, h2⟩
        rw [h a h1] at h2; cases h2
      rw [List.forIn_cons, e]; exact ih
  rw [key]; rfl
theorem last_no {x y : Str} {lo hi : Nat} (h : ∀ i, i + y.length ≤ hi → subAt x y i = false) : lastOccurrence x y lo hi = none := by
  rw [StrLaws.last_eq]
  have key : ∀ l : List Nat, (forIn (m := Id) l (none : Option Nat) (StrLaws.lastBody x y hi)) = pure none := by
    intro l
    induction l with
    | nil => rfl
    | cons a l ih =>
      have e : StrLaws.lastBody x y hi a none = pure (.yield none) := by
        unfold StrLaws.lastBody
        rw [if_neg]
        rintro ⟨h1, h2⟩
        rw [h a h1] at h2; cases h2
      rw [List.forIn_cons, e]; exact ih
  rw [key]; rfl
theorem nl_no {x : Str} {n : Nat} (h : 10 ∉ x.cps.toList.take n) {i : Nat} (hi : i + (Str.ofString "\n").length ≤ n) : subAt x (Str.ofString "\n") i = false := by
  have e : (Str.ofString "\n") = ⟨#[10]⟩ := by decide +kernel
  rw [e] at hi ⊢
  have hi : i + 1 ≤ n := hi
  unfold subAt
  rw [beq_eq_false_iff_ne]
  intro q
  have q1 := congrArg (·[0]?) q
  simp only [Array.getElem?_extract] at q1
  have hl : (⟨#[10]⟩ : Str).length = 1 := rfl
  rw [hl] at q1
  by_cases hb : i < x.cps.size
  · have q2 : x.cps[i]? = some 10 := by
      rw [if_pos (by omega)] at q1
      exact q1
    refine h (List.mem_of_getElem? (i := i) ?_)
    rw [List.getElem?_take, if_pos (by omega), Array.getElem?_toList]; exact q2
  · rw [if_neg (by omega)] at q1; cases q1
end Mine.Internal
namespace Mine.Internal
open Builtin Builtin.Str
theorem count_no {x : Str} {o : Int} (h0 : 0 ≤ o) (h : 10 ∉ x.cps.toList.take o.toNat) : countTo x (Str.ofString "\n") 0 o = 0 := by
  unfold countTo
  rw [occ_no (fun i hi => nl_no h (Nat.le_trans hi (Nat.le_trans (Nat.min_le_left _ _) (by unfold fromIndex; split <;> omega))))]; rfl
theorem rfind_no {x : Str} {o : Int} (h0 : 0 ≤ o) (h : 10 ∉ x.cps.toList.take o.toNat) : rfindTo x (Str.ofString "\n") 0 o = -1 := by
  unfold rfindTo
  rw [last_no (fun i hi => nl_no h (Nat.le_trans hi (Nat.le_trans (Nat.min_le_left _ _) (by unfold fromIndex; split <;> omega))))]
theorem pos_no {x : Str} {o pl pc : Int} (h0 : 0 ≤ o) (h : 10 ∉ x.cps.toList.take o.toNat) : posL x o pl = pl ∧ posC x o pc = pc + o := by
  unfold posL posC
  rw [count_no h0 h, rfind_no h0 h, if_pos rfl]
  exact ⟨Int.add_zero _, rfl⟩
theorem hist_step {src chunk : Str} {pl pc size : Int} {R : List Nat} (h : Hist src pl pc (chunk.cps.toList ++ R)) (hs : size = chunk.length) : Hist src (posL chunk size pl) (posC chunk size pc) R := by
  obtain ⟨P0, h1, h2⟩ := h
  refine ⟨P0 ++ chunk.cps.toList, fun hn => ?_, by rw [List.append_assoc]; exact h2⟩
  obtain ⟨e1, e2⟩ := h1 (fun h => hn (List.mem_append_left _ h))
  have ht : 10 ∉ chunk.cps.toList.take size.toNat := fun h => hn (List.mem_append_right _ (List.mem_of_mem_take h))
  have q := pos_no (pl := pl) (pc := pc) (by rw [hs]; exact Int.natCast_nonneg _ : 0 ≤ size) ht
  rw [q.1, q.2, e1, e2, List.length_append, cps_len, hs]
  exact ⟨rfl, (Int.natCast_add _ _).symm⟩
end Mine.Internal

end
section
set_option tactic.hygienic false
open PySem PySem.W PyProof.Rows PySem.Calls PySem.Spec PyProof.V
namespace Mine.Internal
theorem Take.sub {l c rest : Led} (t : Take l c rest) : ∀ p ∈ l, p ∈ c := by
  induction t with
  | nil => intro p hp; cases hp
  | all q => intro p hp; rw [q.eq]; exact List.mem_append_right _ hp
  | cons d _ ih =>
    intro p hp
    refine d.mem p ?_
    cases hp with
    | head => exact .inl rfl
    | tail _ hp => exact .inr (ih p hp)
theorem CtrC.mono {prog : Program} {w : World} {K : Frag} {TP : Heap → Prop} {D U : Nat} {f : Value} {args : Args} {l : Led} {Post Post' : CPost}
    (hp : ∀ v fr l, Post v fr l → Post' v fr l) (C : CtrC prog w K TP D U f args l Post) : CtrC prog w K TP D U f args l Post' := by
  intro A A₀ base h₀ env outer L m s R rest B F X N T hA hf hke hh hd hu hne hQ
  exact C A A₀ base h₀ env outer L m s R rest B F X N T hA hf hke hh hd hu hne (fun v fr l' h' tk' h => hQ v fr l' h' tk' (hp _ _ _ h))
noncomputable def mendF : Bool → List Nat → List Nat
  | _, [] => []
  | f, c :: r => if c = 10 ∧ f = true then mendF false r else if c = 13 then 10 :: mendF true r else c :: mendF false r
theorem mendF_n {f : Bool} : mendF f [] = [] := rfl
theorem mendF_c {f : Bool} {c : Nat} {r : List Nat} : mendF f (c :: r) = if c = 10 ∧ f = true then mendF false r else if c = 13 then 10 :: mendF true r else c :: mendF false r := rfl
theorem mendF_flag {r : List Nat} (h : ∀ t, r ≠ 10 :: t) : mendF true r = mendF false r := by
  cases r with
  | nil => rfl
  | cons c t =>
    have hc : c ≠ 10 := fun e => h t (by rw [e])
    simp [mendF_c, hc]
theorem mendL_eq : ∀ (n : Nat) (l : List Nat), l.length ≤ n → mendL l = mendF false l
  | _, [], _ => rfl
  | 0, c :: r, h => by simp at h
  | n + 1, [c], _ => by
    by_cases hc : c = 13
    · subst hc; decide
    · have hc' : ¬ 13 = c := fun e => hc e.symm
      simp [mendL, repS_n, repS_z, mendF_n, mendF_c, hc, hc', List.isPrefixOf]
  | n + 1, c :: d :: r, h => by
    have h1 : (d :: r).length ≤ n := by simp at h ⊢; omega
    have h2 : r.length ≤ n := by simp at h ⊢; omega
    have i1 := mendL_eq n (d :: r) h1
    have i2 := mendL_eq n r h2
    unfold mendL at i1 i2 ⊢
    by_cases hc : c = 13
    · subst hc
      by_cases hd : d = 10
      · subst hd
        have e : repS [13, 10] [10] 0 (13 :: 10 :: r) = 10 :: repS [13, 10] [10] 0 r := by simp [repS_n, repS_s, repS_z, List.isPrefixOf]
        rw [e]
        have e2 : ∀ t, repS [13] [10] 0 (10 :: t) = 10 :: repS [13] [10] 0 t := fun t => by simp [repS_n, repS_s, repS_z, List.isPrefixOf]
        rw [e2, i2]
        simp [mendF_n, mendF_c]
      · have hd' : ¬ 10 = d := fun e => hd e.symm
        have e : repS [13, 10] [10] 0 (13 :: d :: r) = 13 :: repS [13, 10] [10] 0 (d :: r) := by rw [repS_z, if_neg (by simp [List.isPrefixOf, hd'])]
        have e2 : ∀ t, repS [13] [10] 0 (13 :: t) = 10 :: repS [13] [10] 0 t := fun t => by simp [repS_n, repS_s, repS_z, List.isPrefixOf]
        rw [e, e2, i1]
        have e3 : mendF false (13 :: d :: r) = 10 :: mendF true (d :: r) := by simp [mendF_n, mendF_c]
        rw [e3, mendF_flag (fun t e => hd (List.cons.inj e).1)]
    · have hc' : ¬ 13 = c := fun e => hc e.symm
      have e : repS [13, 10] [10] 0 (c :: d :: r) = c :: repS [13, 10] [10] 0 (d :: r) := by rw [repS_z, if_neg (by simp [List.isPrefixOf, hc'])]
      have e2 : ∀ t, repS [13] [10] 0 (c :: t) = c :: repS [13] [10] 0 t := fun t => by rw [repS_z, if_neg (by simp [List.isPrefixOf, hc'])]
      have e3 : mendF false (c :: d :: r) = c :: mendF false (d :: r) := by simp [mendF_c, hc]
      rw [e, e2, i1, e3]
theorem mendL_F (l : List Nat) : mendL l = mendF false l := mendL_eq l.length l (Nat.le_refl _)
theorem mendF_cr : ∀ (y : List Nat) (f : Bool), mendF f (y ++ [13]) = mendF f y ++ [10]
  | [], f => by cases f <;> rfl
  | c :: r, f => by
    have i := mendF_cr r
    simp only [List.cons_append, mendF_c]
    split
    · exact i _
    · split
      · rw [i]; rfl
      · rw [i]; rfl
set_option tactic.hygienic true
theorem mendF_ne {l : List Nat} (h : l ≠ []) : mendF false l ≠ [] := by
  cases l with
  | nil => exact absurd rfl h
  | cons c r => simp only [mendF_c]; split; (rename_i q; simp at q); split <;> simp
set_option tactic.hygienic false
theorem len_toList (x : Str) : x.cps.toList.length = x.length := by simp [Str.length]
theorem rd_ar {e' e y p x p0 r : Nat} {s : Nat} (hl : e' ≤ e + y) (hyy : x = y + p) (hxx : x = p0 + r) (hes : e + r + p0 ≤ s) : e' + 0 + p ≤ s := by
  have h : y + p = p0 + r := hyy.symm.trans hxx
  clear hyy hxx
  omega
theorem rd_fin {src x y : Str} {p0 pend' : List Nat} {place p' off : Int} {buf' : Value} {es es' : List Value}
    (h0 : 0 ≤ place) (hs : src.length ≤ 10000) (hsu : ∀ c ∈ src.cps.toList, c < 55296)
    (hes : es.length + (src.length - place.toNat) + p0.length ≤ 50000)
    (hx : x.cps.toList = p0 ++ src.cps.toList.drop place.toNat) (hxl : x.length ≤ 10000) (hp' : p' = src.length)
    (hy : x.cps.toList = y.cps.toList ++ pend') (hb : BufIs buf' pend') (hl : es'.length ≤ es.length + y.length) (hoff : off = 0) : ∀ tc ts to pl tl pc tp tpl n,
    (Hist src pl pc (mendL (p0 ++ src.cps.toList.drop place.toNat)) → St.ok src ⟨mendS y, tc, (mendS y).length, ts, off, to, pl, tl, pc, tp, buf', pend', p', tpl, es', n⟩) ∧
    St.rem src ⟨mendS y, tc, (mendS y).length, ts, off, to, pl, tl, pc, tp, buf', pend', p', tpl, es', n⟩ = mendL (p0 ++ src.cps.toList.drop place.toNat) ∧
    (1 ≤ y.length → 1 ≤ ((mendS y).length : Int)) := by
  intro tc ts to pl tl pc tp tpl n
  subst hoff
  have hxx : x.length = p0.length + (src.length - place.toNat) := by
    rw [← len_toList, hx, List.length_append, List.length_drop, len_toList]
  have hyy : x.length = y.length + pend'.length := by rw [← len_toList, hy, List.length_append, len_toList]
  have hm : (mendS y).length ≤ y.length := Nat.le_trans (replace_len (by decide +kernel) (by decide +kernel)) (replace_len (by decide +kernel) (by decide +kernel))
  have hd : src.cps.toList.drop (p'.toNat) = [] := List.drop_of_length_le (by rw [len_toList, hp', Int.toNat_natCast]; exact Nat.le_refl _)
  have hrem : (mendS y).cps.toList ++ mendL (pend' ++ src.cps.toList.drop p'.toNat) = mendL (p0 ++ src.cps.toList.drop place.toNat) := by
    rw [hd, List.append_nil, ← hx, hy, mendS_toList, mendL_F, mendL_F, mendL_F]
    rcases hb with ⟨_, h⟩ | ⟨_, _, h⟩
    · subst h; simp [mendF_n, mendF_c]
    · subst h
      rw [mendF_cr]; rfl
  have hz : src.length - p'.toNat = 0 := by rw [hp', Int.toNat_natCast, Nat.sub_self]
  refine ⟨fun hh => ⟨rfl, Int.le_refl _, Int.natCast_nonneg _, Nat.le_trans hm (Nat.le_trans (Nat.le_trans (Nat.le_add_right _ _) (Nat.le_of_eq hyy.symm)) hxl), hp' ▸ Int.natCast_nonneg _, Int.le_of_eq hp', hs, hb, by dsimp only; rw [hz]; exact rd_ar hl hyy hxx hes, hsu, fun _ => hp', hrem ▸ hh⟩, hrem, ?_⟩
  · intro h1
    have : y.cps.toList ≠ [] := fun e => by have := len_toList y; rw [e] at this; simp at this; omega
    have h2 := mendF_ne this
    rw [← mendL_F, ← mendS_toList] at h2
    have h3 : (mendS y).length ≠ 0 := fun e => h2 (List.length_eq_zero_iff.mp (by rw [len_toList]; exact e))
    omega
theorem rd_none {src x : Str} {place p' size off : Int} {chunk : Str} {es : List Value}
    (h0 : 0 ≤ place) (hs : src.length ≤ 10000) (hsu : ∀ c ∈ src.cps.toList, c < 55296)
    (hes : es.length + (src.length - place.toNat) + ([] : List Nat).length ≤ 50000)
    (hx : x.cps.toList = src.cps.toList.drop place.toNat) (hp' : p' = src.length) (hn : x.length = 0) (hoff : off = 0) (hsize : size = 0) (hch : chunk = Str.ofString "") : ∀ tc ts to pl tl pc tp tpl n,
    (Hist src pl pc (mendL (src.cps.toList.drop place.toNat)) → St.ok src ⟨chunk, tc, size, ts, off, to, pl, tl, pc, tp, .none, [], p', tpl, es, n⟩) ∧
    St.rem src ⟨chunk, tc, size, ts, off, to, pl, tl, pc, tp, .none, [], p', tpl, es, n⟩ = [] ∧ mendL (src.cps.toList.drop place.toNat) = [] := by
  intro tc ts to pl tl pc tp tpl n
  subst hoff; subst hsize; subst hch
  have hl : (Str.ofString "").length = 0 := by decide +kernel
  have hc : (Str.ofString "").cps.toList = [] := by decide +kernel
  have hd : src.cps.toList.drop (p'.toNat) = [] := List.drop_of_length_le (by rw [len_toList, hp', Int.toNat_natCast]; exact Nat.le_refl _)
  have hx0 : x.cps.toList = [] := List.length_eq_zero_iff.mp (by rw [len_toList]; exact hn)
  have hm : mendL (src.cps.toList.drop place.toNat) = [] := by rw [← hx, hx0]; rfl
  refine ⟨fun hh => ⟨by dsimp only; rw [hl]; rfl, Int.le_refl _, Int.le_refl _, by dsimp only; rw [hl]; decide, hp' ▸ Int.natCast_nonneg _, Int.le_of_eq hp', hs, .inl ⟨rfl, rfl⟩, ?_, hsu, fun h => absurd rfl h, by dsimp only; rw [hd, hc]; rw [hm] at hh; exact hh⟩, ?_, hm⟩
  · have hxx : x.length = src.length - place.toNat := by
      rw [← len_toList, hx, List.length_drop, len_toList]
    have hz : src.length - p'.toNat = 0 := by rw [hp', Int.toNat_natCast, Nat.sub_self]
    dsimp only; rw [hz]; exact Nat.le_trans (Nat.add_le_add_right (Nat.add_le_add_left (Nat.zero_le _) _) _) hes
  · unfold St.rem; dsimp only; rw [hd, hc]; rfl
theorem rd_fin0 {src x y : Str} {pend' : List Nat} {place p' : Int} {buf' : Value} {es es' : List Value}
    (h0 : 0 ≤ place) (hs : src.length ≤ 10000) (hsu : ∀ c ∈ src.cps.toList, c < 55296)
    (hes : es.length + (src.length - place.toNat) + ([] : List Nat).length ≤ 50000)
    (hx : x.cps.toList = src.cps.toList.drop place.toNat) (hxl : x.length ≤ 10000) (hp' : p' = src.length)
    (hy : x.cps.toList = y.cps.toList ++ pend') (hb : BufIs buf' pend') (hl : es'.length ≤ es.length + y.length) (hy1 : 1 ≤ y.length) : ∀ tc ts to pl tl pc tp tpl n,
    (Hist src pl pc (mendL (src.cps.toList.drop place.toNat)) → St.ok src ⟨mendS y, tc, (mendS y).length, ts, 0, to, pl, tl, pc, tp, buf', pend', p', tpl, es', n⟩) ∧
    St.rem src ⟨mendS y, tc, (mendS y).length, ts, 0, to, pl, tl, pc, tp, buf', pend', p', tpl, es', n⟩ = mendL (src.cps.toList.drop place.toNat) ∧
    1 ≤ ((mendS y).length : Int) := fun tc ts to pl tl pc tp tpl n =>
  have h := rd_fin (off := 0) h0 hs hsu hes (hx.trans (List.nil_append _).symm) hxl hp' hy hb hl rfl tc ts to pl tl pc tp tpl n
  ⟨h.1, h.2.1, h.2.2 hy1⟩
theorem c13 {c d : Nat} {l : List Nat} (h : (c : Int) = 13) (h1 : l.getLast? = some c) (h2 : l.getLast? = some d) : d = 13 := by
  rw [h1] at h2; cases h2; omega
theorem cut_len {x y : Str} {c : Nat} (hy : x.cps.toList = y.cps.toList ++ [c]) (h : 1 < (x.length : Int)) : 1 ≤ y.length := by
  have := congrArg List.length hy
  rw [List.length_append, len_toList, len_toList] at this
  simp only [List.length_cons, List.length_nil] at this
  omega
theorem last_cut {x : Str} {j : Int} {c : Nat} (hj : j = -1) (hc : x.cps.toList.getLast? = some c) : x.cps.toList = (Txt.slice x none (some j)).cps.toList ++ [c] := by
  rw [slice_last hj]
  show _ = x.cps.toList.dropLast ++ [c]
  have hne : x.cps.toList ≠ [] := fun e => by rw [e] at hc; cases hc
  have := List.dropLast_concat_getLast hne
  rw [List.getLast?_eq_some_getLast hne] at hc
  rw [← Option.some.inj hc]; exact this.symm
theorem St.ok.at {src : Str} {x : St} (ok : x.ok src) (h : x.off < x.size) : ∃ c, x.chunk.cps[x.off.toNat]? = some c := by
  have h1 := ok.off0; have h2 := ok.csize
  have h3 : x.off.toNat < x.chunk.cps.size := by simp only [Str.length] at h2; omega
  exact ⟨x.chunk.cps[x.off.toNat], Array.getElem?_eq_getElem h3⟩
theorem St.ok.small {src : Str} {x : St} (ok : x.ok src) : x.off < 9223372036854775808 := by
  have h1 := ok.off1; have h2 := ok.csize; have h3 := ok.clen; omega
theorem getq {x : Str} {k c : Nat} (hc : x.cps[k]? = some c) : x.cps.toList[k]? = some c := by rw [Array.getElem?_toList]; exact hc
theorem drop_at {l : List Nat} {k c : Nat} (hc : l[k]? = some c) : l.drop k = c :: l.drop (k + 1) := by
  obtain ⟨h, e⟩ := List.getElem?_eq_some_iff.mp hc
  rw [List.drop_eq_getElem_cons h, e]
theorem rem_step {src : Str} {x : St} (ok : x.ok src) {c : Nat} (hc : x.chunk.cps[x.off.toNat]? = some c) {o : Int} (ho : o = x.off + 1) : ∀ to, ∀ t : Tok, 
    St.ok src { x with off := o, to := to } ∧ x.rem src = c :: St.rem src { x with off := o, to := t } ∧ 1 ≤ o ∧ x.chunk.cps[(o - 1).toNat]? = some c := by
  intro to t
  subst ho
  have h1 := ok.off0; have h2 := ok.csize; have h4 := ok.off1
  have h3 : x.off.toNat < x.chunk.cps.size := (Array.getElem?_eq_some_iff.mp hc).1
  have h5 : x.off < x.size := by rw [h2]; exact (Int.toNat_lt h1).mp h3
  have e1 : (x.off + 1).toNat = x.off.toNat + 1 := Int.toNat_add h1 (by decide)
  have e2 : (x.off + 1 - 1).toNat = x.off.toNat := by rw [Int.add_sub_cancel]
  refine ⟨⟨ok.csize, Int.le_trans h1 (Int.le_of_lt (Int.lt_succ _)), h5, ok.clen, ok.place0, ok.place1, ok.slen, ok.bufis, ok.bud, ok.sur, ok.pendat, ok.hist⟩, ?_, Int.add_le_add_right h1 1, by rw [e2]; exact hc⟩
  unfold St.rem
  dsimp only
  rw [e1, drop_at (getq hc), List.cons_append]
theorem rem_end {src : Str} {x : St} (ok : x.ok src) (h : x.size ≤ x.off) : x.rem src = mendL (x.pend ++ src.cps.toList.drop x.place.toNat) := by
  unfold St.rem
  have h1 := ok.off0; have h2 := ok.csize
  rw [List.drop_of_length_le (by rw [len_toList]; omega), List.nil_append]
theorem rem_back {src : Str} {x : St} (ok : x.ok src) {c : Nat} (h1 : 1 ≤ x.off) (hc : x.chunk.cps[(x.off - 1).toNat]? = some c) {o : Int} (ho : o = x.off - 1) : ∀ to t : Tok,
    St.ok src { x with off := o, to := to } ∧ St.rem src { x with off := o, to := t } = c :: x.rem src := by
  intro to t
  subst ho
  have h4 := ok.off1
  have h0 : 0 ≤ x.off - 1 := Int.sub_nonneg.mpr h1
  have e1 : x.off.toNat = (x.off - 1).toNat + 1 := (congrArg Int.toNat (Int.sub_add_cancel x.off 1)).symm.trans (Int.toNat_add h0 (by decide : (0 : Int) ≤ 1))
  refine ⟨⟨ok.csize, h0, Int.le_trans (Int.sub_le_self _ (by decide)) h4, ok.clen, ok.place0, ok.place1, ok.slen, ok.bufis, ok.bud, ok.sur, ok.pendat, ok.hist⟩, ?_⟩
  unfold St.rem
  dsimp only
  rw [drop_at (getq hc), ← e1, List.cons_append]
section
variable {prog : Program} {w : World} {A : Around} {E : Value → Shared → Prop} {s : Shared} {value slice : Expr} {src : Str} {x : St} {t u : Tok} {Q : Value → Shared → Prop}
theorem sub_st (ok : x.ok src) (h : x.off < x.size) (hq : ∀ c, x.chunk.cps[x.off.toNat]? = some c → Q (.str ⟨#[c]⟩ s.toks) { s with toks := s.toks + 1 })
    (hs : subscripted slice false (.str x.chunk t) (.int x.off u) = operate [.str x.chunk t, .int x.off u] (getItem (.str x.chunk t) (.int x.off u)) := by with_unfolding_all rfl)
    (ht : ∀ r, letTemporaryGo value (.str x.chunk t) r = pure () := by intro _; with_unfolding_all rfl) :
    wpAny (model prog w) A (subscriptTail value slice (.str x.chunk t) (.int x.off u)) Q E s := by
  obtain ⟨c, hc⟩ := ok.at h
  exact sub_chr ok.off0 ok.small hc (hq c hc) hs ht
end
theorem rd_cr {src : Str} {place p' : Int} {es es' : List Value} (h0 : 0 ≤ place) (hs : src.length ≤ 10000) (hsu : ∀ c ∈ src.cps.toList, c < 55296)
    (hes : es.length + (src.length - place.toNat) + ([13] : List Nat).length ≤ 50000) (hpl : place = src.length) (hp' : p' = src.length)
    (hl : es'.length ≤ es.length + (Str.ofString "\x0d").length) : ∀ tc ts to pl tl pc tp tpl n,
    (Hist src pl pc (mendL (13 :: src.cps.toList.drop place.toNat)) → St.ok src ⟨Str.ofString "\n", tc, (Str.ofString "\n").length, ts, 0, to, pl, tl, pc, tp, .none, [], p', tpl, es', n⟩) ∧
    St.rem src ⟨Str.ofString "\n", tc, (Str.ofString "\n").length, ts, 0, to, pl, tl, pc, tp, .none, [], p', tpl, es', n⟩ = mendL (13 :: src.cps.toList.drop place.toNat) ∧
    1 ≤ ((Str.ofString "\n").length : Int) := by
  intro tc ts to pl tl pc tp tpl n
  have l1 : (Str.ofString "\n").length = 1 := by decide +kernel
  have l2 : (Str.ofString "\x0d").length = 1 := by decide +kernel
  have c1 : (Str.ofString "\n").cps.toList = [10] := by decide +kernel
  rw [l2] at hl
  have hd : src.cps.toList.drop (p'.toNat) = [] := List.drop_of_length_le (by rw [len_toList, hp', Int.toNat_natCast]; exact Nat.le_refl _)
  have hd2 : src.cps.toList.drop (place.toNat) = [] := List.drop_of_length_le (by rw [len_toList, hpl, Int.toNat_natCast]; exact Nat.le_refl _)
  have hz : src.length - p'.toNat = 0 := by rw [hp', Int.toNat_natCast, Nat.sub_self]
  simp only [List.length_cons, List.length_nil] at hes
  have hrem : (Str.ofString "\n").cps.toList ++ mendL ([] ++ src.cps.toList.drop p'.toNat) = mendL (13 :: src.cps.toList.drop place.toNat) := by
    rw [hd, hd2, c1, mendL_F, mendL_F]
    rfl
  exact ⟨fun hh => ⟨rfl, Int.le_refl _, Int.natCast_nonneg _, by dsimp only; rw [l1]; decide, hp' ▸ Int.natCast_nonneg _, Int.le_of_eq hp', hs, .inl ⟨rfl, rfl⟩, by dsimp only [List.length_nil]; rw [hz]; exact Nat.le_trans hl (Nat.le_trans (Nat.add_le_add_right (Nat.le_add_right _ _) _) hes), hsu, fun h => absurd rfl h, hrem ▸ hh⟩, hrem, by rw [l1]; decide⟩
theorem CtrC.frame {prog : Program} {w : World} {K : Frag} {TP : Heap → Prop} {D U : Nat} {f : Value} {args : Args} {l e : Led} {Post : CPost}
    (C : CtrC prog w K TP D U f args l Post) (hd : ∀ p ∈ e, ∀ q ∈ l, p.1 ≠ q.1) : CtrC prog w K TP D U f args (l ++ e) (fun v fr l' => ∃ l'', l' = l'' ++ e ∧ Post v fr l'') := by
  intro A A₀ base h₀ env outer L m s R rest B F X N T hA hf hke hh hdp hu hne hQ
  rw [List.append_assoc] at N
  refine C A A₀ base h₀ env outer L m s R (e ++ rest) B F X N T hA hf hke hh hdp hu (fun p hp q hq => ?_) (fun v fr l' h' tk' h ht hfr F' N' => ?_)
  · rcases List.mem_append.mp hp with hp | hp
    · exact hd p hp q hq
    · exact hne p hp q (List.mem_append_left _ hq)
  · refine hQ v fr (l' ++ e) h' tk' ⟨l', rfl, h⟩ ht (fun p hp r hr => hfr p hp r (by rw [← List.append_assoc]; exact hr)) F' ?_
    rw [show fr ++ (l' ++ e) ++ rest = fr ++ l' ++ (e ++ rest) from by simp [List.append_assoc]]
    exact N'
noncomputable def Cn.mu (src : Str) (c : Cn) : Nat := (c.x.rem src).length + (match c.cv with | .none => 0 | _ => 1)
theorem Cn.start {src : Str} {al : Nat → Bool} {L : List Nat} {x y : St} {v : Value} (ok : y.ok src) (hL : x.rem src = L) (hv : CvIs src y v (x.rem src)) : Cn.ok src al L ⟨y, [], 0, v⟩ :=
  ⟨ok, [], L, .nil, (fun _ h => nomatch h), rfl, (by rw [← hL]; exact hv)⟩
theorem mendF_len : ∀ (l : List Nat) (f : Bool), (mendF f l).length ≤ l.length
  | [], _ => Nat.le_refl _
  | c :: r, f => by
    have i1 := mendF_len r false
    have i2 := mendF_len r true
    simp only [mendF_c]
    split
    · simp only [List.length_cons]; omega
    · split <;> (simp only [List.length_cons]; omega)
theorem St.ok.remlen {src : Str} {x : St} (ok : x.ok src) : (x.rem src).length ≤ 20001 := by
  have h1 := ok.clen; have h2 := ok.slen
  have h3 : x.pend.length ≤ 1 := by rcases ok.bufis with ⟨_, h⟩ | ⟨_, _, h⟩ <;> rw [h] <;> simp
  have h4 := mendF_len (x.pend ++ src.cps.toList.drop x.place.toNat) false
  unfold St.rem
  rw [mendL_F, List.length_append, List.length_drop, len_toList]
  rw [List.length_append, List.length_drop, len_toList] at h4
  exact Nat.le_trans (Nat.add_le_add (Nat.le_trans (Nat.sub_le _ _) h1) (Nat.le_trans h4 (Nat.add_le_add h3 (Nat.le_trans (Nat.sub_le _ _) h2)))) (by decide)
theorem strs_len {vs : List Value} {ys : List Str} (h : StrsAre vs ys) : vs.length = ys.length := by
  induction h with
  | nil => rfl
  | cons _ _ _ ih => rw [List.length_cons, List.length_cons, ih]
theorem strs_snoc {vs : List Value} {ys : List Str} (y : Str) (t : Tok) (h : StrsAre vs ys) : StrsAre (vs ++ [.str y t]) (ys ++ [y]) := by
  induction h with
  | nil => exact .cons y t .nil
  | cons y' t' _ ih => exact .cons y' t' ih
theorem span_uq {al : Nat → Bool} : ∀ {ds r ds0 r0 : List Nat}, ds ++ r = ds0 ++ r0 → (∀ d ∈ ds, al d = true) → (∀ d ∈ ds0, al d = true) → (∀ c t, r = c :: t → al c = false) → (∀ c t, r0 = c :: t → al c = false) → ds = ds0 ∧ r = r0
  | [], r, [], r0, h, _, _, _, _ => ⟨rfl, h⟩
  | [], r, d :: ds0, r0, h, _, h2, h3, _ => by
    have := h3 d (ds0 ++ r0) h
    rw [h2 d (List.mem_cons_self ..)] at this; cases this
  | d :: ds, r, [], r0, h, h1, _, _, h4 => by
    have := h4 d (ds ++ r) h.symm
    rw [h1 d (List.mem_cons_self ..)] at this; cases this
  | d :: ds, r, d' :: ds0, r0, h, h1, h2, h3, h4 => by
    injection h with e h
    have := span_uq h (fun x hx => h1 x (List.mem_cons_of_mem _ hx)) (fun x hx => h2 x (List.mem_cons_of_mem _ hx)) h3 h4
    exact ⟨by rw [e, this.1], this.2⟩
theorem Cn.vlen {src : Str} {x : St} {L ds r : List Nat} {vs : List Value} (ok : x.ok src) (hL : x.rem src = L) (h : L = ds ++ r) (hv : StrsAre vs (ds.map chS)) : vs.length ≤ 100000 := by
  have h1 := ok.remlen
  rw [hL, h, List.length_append] at h1
  rw [strs_len hv, List.length_map]
  omega
structure MeetW {σ : Type} (g : Heap) (L : Addr) (s : Shared) (Led : σ → List (Addr × Obj)) (ps : σ → List (Str × Value)) (stored : List Str) (m₀ : Str → Option Value) (X : σ → Prop) (f : Flow) (s' : Shared) : Prop where
  fl : f = .next
  st : ∃ (c : σ) (u : Str → Option Value) (h' : Heap) (k : Nat), s' = { s with heap := h', toks := k } ∧ Fr g L h' (kstB (fun z => if stored.contains z then u z else m₀ z) (ps c)) ∧ News g L h' (Led c) ∧ X c
section
variable {prog : Program} {w : World} {A : Around} {E : Value → Shared → Prop} {Q : Flow → Shared → Prop} {s : Shared} {env : Env} {g : Heap} {L : Addr} {σ : Type}
theorem meetW_end {Led : σ → List (Addr × Obj)} {ps : σ → List (Str × Value)} {stored : List Str} {m₀ : Str → Option Value} {X : σ → Prop} {h' : Heap} {k : Nat} {news : List (Addr × Obj)} (c : σ) (u : Str → Option Value)
    (F : Fr g L h' (kstB (fun z => if stored.contains z then u z else m₀ z) (ps c))) (N : News g L h' news) (hn : ∀ p ∈ Led c, p ∈ news) (x : X c) : MeetW g L s Led ps stored m₀ X .next { s with heap := h', toks := k } :=
  ⟨rfl, c, u, h', k, rfl, F, fun p hp => N p (hn p hp), x⟩
theorem ksw_meet {test : Expr} {body : List Stmt} {pos : Pos} {m₀ : Str → Option Value} (Led : σ → List (Addr × Obj)) (ps : σ → List (Str × Value)) (stored : List Str) (P X : σ → Prop) (μ : σ → Nat) (c₀ : σ)
    (F : Fr g L s.heap m₀) (N : News g L s.heap (Led c₀)) (hk : ∀ p ∈ ps c₀, m₀ p.1 = some p.2) (hp : P c₀)
    (hq : ∀ (c : σ) (u : Str → Option Value) h k, X c → Fr g L h (kstB (fun z => if stored.contains z then u z else m₀ z) (ps c)) → News g L h (Led c) → Q .next { s with heap := h, toks := k })
    (turn : ∀ (c : σ) (u : Str → Option Value) h tk, P c → Fr g L h (kstB (fun z => if stored.contains z then u z else m₀ z) (ps c)) → News g L h (Led c) →
      wpAny (model prog w) A (isTrue test env (eval test env)) (fun b s₂ =>
        if b = true then wpAny (model prog w) A (execs body env) (KswPost g L s Led ps (fun _ => True) stored m₀ P μ (MeetW g L s Led ps stored m₀ X) c) E s₂ else MeetW g L s Led ps stored m₀ X .next s₂) E { s with heap := h, toks := tk })
    (hE : PassesOwn (model prog w) A env E := by passes_own) :
    wpAny (model prog w) A (exec (.While test body [] pos) env) Q E s := by
  refine wpAny_mono (ksw_while Led ps (fun _ => True) stored P μ c₀ F N trivial hk hp (Q := MeetW g L s Led ps stored m₀ X) (fun c u h tk _ hp' F' N' => turn c u h tk hp' F' N') hE) (fun f s' h => ?_) (fun _ _ e => e)
  obtain ⟨hf, c, u, h', k, hs, F', N', x⟩ := h
  rw [hf, hs]
  exact hq c u h' k x F' N'
end
noncomputable def CnX (src : Str) (ds0 r0 : List Nat) (c : Cn) : Prop := c.x.ok src ∧ StrsAre c.vs (ds0.map chS) ∧ CvIs src c.x c.cv r0
theorem cnx_of {src : Str} {al : Nat → Bool} {ds0 r0 us rr : List Nat} {c : Cn} (h0 : ∀ d ∈ ds0, al d = true) (hr0 : ∀ c t, r0 = c :: t → al c = false) (sok : c.x.ok src) (hv : StrsAre c.vs (us.map chS)) (hu : ∀ d ∈ us, al d = true)
    (hL : ds0 ++ r0 = us ++ rr) (hc : CvIs src c.x c.cv rr) (hx : ∀ c t, rr = c :: t → al c = false) : CnX src ds0 r0 c := by
  obtain ⟨e1, e2⟩ := span_uq hL.symm hu h0 hx hr0
  subst e1; subst e2
  exact ⟨sok, hv, hc⟩
theorem cn_more {src : Str} {al : Nat → Bool} {L us : List Nat} {x y : St} {vs : List Value} {n n' : Nat} {c1 : Nat} {t1 : Tok} {v : Value} (oky : y.ok src) (hv : StrsAre vs (us.map chS)) (hu : ∀ d ∈ us, al d = true) (hc1 : al c1 = true)
    {rr : List Nat} (hL : L = us ++ rr) (e : rr = c1 :: x.rem src) (hcv : CvIs src y v (x.rem src)) : Cn.ok src al L ⟨y, vs ++ [.str ⟨#[c1]⟩ t1], n', v⟩ ∧ Cn.mu src ⟨y, vs ++ [.str ⟨#[c1]⟩ t1], n', v⟩ < Cn.mu src ⟨x, vs, n, .str ⟨#[c1]⟩ t1⟩ := by
  refine ⟨⟨oky, us ++ [c1], x.rem src, ?_, ?_, ?_, hcv⟩, ?_⟩
  · rw [List.map_append]; exact strs_snoc _ _ hv
  · intro d hd
    rcases List.mem_append.mp hd with h | h
    · exact hu d h
    · rw [List.mem_singleton.mp h]; exact hc1
  · rw [hL, e]; simp
  · rcases hcv with ⟨e1, e2, e3⟩ | ⟨c, t, e1, e2, _⟩
    · subst e1
      simp only [Cn.mu]; rw [e2, e3]; simp
    · subst e1
      simp only [Cn.mu]; rw [e2]; simp
end Mine.Internal

end
section
set_option tactic.hygienic false
open PySem PySem.W PyProof.Rows PySem.Calls PySem.Spec
namespace Mine.Internal
noncomputable def InitP (C x dx : Addr) (P : Addr → Addr → Obj → Led → Prop) : CPost := fun v fr l => v = .none ∧ ∃ d, l = [(x, instObj C dx), (dx, d)] ∧ P x dx d fr
noncomputable def ClsP (C : Addr) (P : Addr → Addr → Obj → Led → Prop) : CPost := fun v fr l => l = [] ∧ ∃ x dx d fr', @LT.lt Nat _ dx x ∧ (∀ p ∈ fr', @LT.lt Nat _ x p.1) ∧ v = .ref x ∧ fr = fr' ++ [(x, instObj C dx), (dx, d)] ∧ P x dx d fr'
theorem CtrC.cls {prog : Program} {w : World} {K : Frag} {TP : Heap → Prop} {D U : Nat} {C fI : Addr} {pos : List Value} {kw : List (Str × Value)} {P : Addr → Addr → Obj → Led → Prop}
    (hm : makesIn K C = true) (hi : findIn K (.ref C) "__init__" = some (some (.ref fI))) (hf : isFn K (.ref fI) = true)
    (c : ∀ x dx, @LT.lt Nat _ dx x → CtrC prog w K TP (D + 1) (U + 9) (.ref fI) ⟨.ref x :: pos, kw⟩ [(x, instObj C dx), (dx, dictOf [] 0)] (InitP C x dx P)) :
    Ctr prog w K TP D U (PySem.call (.ref C) pos kw) [] (ClsP C P) := by
  intro A A₀ base h₀ env outer L m s Q E rest B F X N T hA hf' hke hh hd hu hne hQ
  refine call_cls (news := rest) F X N hm hi hf fun x dx h' F' N' l1 l2 => ?_
  refine c x dx l2 _ A₀ base h₀ env outer L m { s with heap := h' } _ rest B F' X N' T hA hf' hke hh (Nat.succ_le_succ hd) (by have e : (Code.builtin "type.__call__" ⟨Value.ref C :: pos, kw⟩).cUnits ≤ 9 := Nat.le_of_ble_eq_true rfl; show _ ≤ _; simp only [Around.under]; omega) ?_ ?_
  · intro p hp q hq
    have h1 : @LT.lt Nat _ p.1 dx := l1 p hp
    simp only [List.mem_cons, List.not_mem_nil, or_false] at hq
    rcases hq with rfl | rfl
    · exact Nat.ne_of_lt (Nat.lt_trans h1 l2)
    · exact Nat.ne_of_lt h1
  · intro v fr l' h2 tk' hp ht hfr F2 N2
    obtain ⟨rfl, d, rfl, hp⟩ := hp
    refine ⟨rfl, hQ _ (fr ++ [(x, instObj C dx), (dx, d)]) [] h2 tk' ⟨rfl, x, dx, d, fr, l2, fun p hp => hfr p hp _ (.head _), rfl, rfl, hp⟩ ht ?_ F2 (fun p hp => N2 p (by simpa using hp))⟩
    intro p hp r hr
    have hr' : @LT.lt Nat _ r.1 dx := l1 r hr
    rcases List.mem_append.mp hp with hp | hp
    · exact hfr p hp r (List.mem_append_right _ hr)
    · simp only [List.mem_cons, List.not_mem_nil, or_false] at hp
      rcases hp with rfl | rfl
      · exact Nat.lt_trans hr' l2
      · exact hr'
end Mine.Internal

end
section
set_option tactic.hygienic false
open PySem PySem.W PyProof.Rows PySem.Calls PySem.Spec PyProof.V
namespace Mine.Internal
structure Ks where
  st : Addr
  sd : Addr
  k0 : Tok
  k1 : Tok
  k2 : Tok
  k3 : Tok
  k4 : Tok
  k5 : Tok
  k6 : Tok
  k7 : Tok
  k8 : Tok
  k9 : Tok
  rce : Addr
  nl : Addr
  ds : Addr
  er : Addr
  dd : Addr
  j0 : Tok
  j1 : Tok
  src : Str
  tsr : Tok
noncomputable def Ks.ord (K : Ks) : Prop := @LT.lt Nat _ K.sd K.st ∧ @LT.lt Nat _ K.st K.rce ∧ @LT.lt Nat _ K.rce K.dd ∧ @LT.lt Nat _ K.dd K.ds ∧ @LT.lt Nat _ K.ds K.er
@[irreducible] noncomputable def Ks.led (w : World) (K : Ks) (x : St) : Led :=
  [(K.st, instObj 166 K.sd), (K.sd, dictOf (sdict w.params K.k0 K.k1 K.k2 K.k3 K.k4 K.k5 K.k6 K.k7 K.k8 K.k9 K.rce K.nl K.ds x.chunk x.tc x.size x.ts x.off x.to K.er x.pl x.tl x.pc x.tp x.buf) 10),
   (K.ds, instObj 73 K.dd), (K.dd, dictOf (tdict w.params K.j0 K.j1 K.src K.tsr x.place x.tpl) 2), (K.rce, methodObj (.ref 148) (.ref K.st)), (K.er, W.listOf x.es.toArray x.n)]
theorem Ks.led_eq (w : World) (K : Ks) (x : St) : K.led w x =
  [(K.st, instObj 166 K.sd), (K.sd, dictOf (sdict w.params K.k0 K.k1 K.k2 K.k3 K.k4 K.k5 K.k6 K.k7 K.k8 K.k9 K.rce K.nl K.ds x.chunk x.tc x.size x.ts x.off x.to K.er x.pl x.tl x.pc x.tp x.buf) 10),
   (K.ds, instObj 73 K.dd), (K.dd, dictOf (tdict w.params K.j0 K.j1 K.src K.tsr x.place x.tpl) 2), (K.rce, methodObj (.ref 148) (.ref K.st)), (K.er, W.listOf x.es.toArray x.n)] := by
  unfold Ks.led; rfl
theorem Take.blk {w : World} {K : Ks} {x : St} {N cs : Led} (t : Tl (K.led w x) N cs) : Take (K.led w x) N cs := .all t
theorem Ks.between {w : World} {K : Ks} {x : St} (o : K.ord) : ∀ q ∈ K.led w x, @LE.le Nat _ K.sd q.1 ∧ @LE.le Nat _ q.1 K.er := by
  obtain ⟨h1, h2, h3, h4, h5⟩ := o
  unfold Ks.led
  simp only [List.forall_mem_cons]
  have a2 := Nat.lt_trans h1 h2; have a3 := Nat.lt_trans a2 h3; have a4 := Nat.lt_trans a3 h4; have a5 := Nat.lt_trans a4 h5; have b2 := Nat.lt_trans h4 h5; have b3 := Nat.lt_trans h3 b2; have b4 := Nat.lt_trans h2 b3
  refine ⟨?_, ?_, ?_, ?_, ?_, ?_, fun _ h => nomatch h⟩ <;> constructor <;> first | exact Nat.le_refl _ | exact Nat.le_of_lt (by assumption)
noncomputable def Outs (K : Ks) (es : Led) : Prop := ∀ p ∈ es, @LT.lt Nat _ p.1 K.sd ∨ @LT.lt Nat _ K.er p.1
theorem Outs.nil {K : Ks} : Outs K [] := fun _ h => nomatch h
theorem Outs.lo {K : Ks} {a : Addr} {o : Obj} {es : Led} (h : @LT.lt Nat _ a K.sd) (r : Outs K es) : Outs K ((a, o) :: es) := fun p hp => by
  cases hp with
  | head => exact .inl h
  | tail _ hp => exact r p hp
theorem Outs.hi {K : Ks} {a : Addr} {o : Obj} {es : Led} (h : @LT.lt Nat _ K.er a) (r : Outs K es) : Outs K ((a, o) :: es) := fun p hp => by
  cases hp with
  | head => exact .inr h
  | tail _ hp => exact r p hp
theorem Outs.ne {w : World} {K : Ks} {x : St} {es : Led} (h : Outs K es) (o : K.ord) : ∀ p ∈ es, ∀ q ∈ K.led w x, @Ne Nat p.1 q.1 := fun p hp q hq e => by
  obtain ⟨h1, h2⟩ := Ks.between (w := w) (x := x) o q hq
  rcases h p hp with h | h
  · exact absurd (Nat.lt_of_lt_of_le h h1) (by rw [e]; exact Nat.lt_irrefl _)
  · exact absurd (Nat.lt_of_le_of_lt h2 h) (by rw [e]; exact Nat.lt_irrefl _)
theorem Ks.ne_all {w : World} {K : Ks} {x : St} {a : Addr} (o : K.ord) (h : @LT.lt Nat _ a K.sd ∨ @LT.lt Nat _ K.er a) : ∀ q ∈ K.led w x, q.1 ≠ a := fun q hq e =>
  Outs.ne (es := [(a, instObj 0 0)]) (fun p hp => by cases List.mem_singleton.mp hp; exact h) o _ (.head _) q hq e.symm
theorem ne_by {a d : Addr} {o : Obj} {l : Led} (h : ∀ p ∈ l, p.1 < d) (m : (a, o) ∈ l) : @Ne Nat a d := Nat.ne_of_lt (h _ m)
theorem ne_by' {a d : Addr} {o : Obj} {l : Led} (h : ∀ p ∈ l, p.1 < d) (m : (a, o) ∈ l) : @Ne Nat d a := Nat.ne_of_gt (h _ m)
theorem Ks.lo_hi (K : Ks) (o : K.ord) : @LT.lt Nat _ K.sd K.er := by
  obtain ⟨h1, h2, h3, h4, h5⟩ := o
  exact Nat.lt_trans h1 (Nat.lt_trans h2 (Nat.lt_trans h3 (Nat.lt_trans h4 h5)))
theorem Ks.er_lt {w : World} {K : Ks} {x : St} {d : Addr} {N : Led} (h : ∀ p ∈ N, p.1 < d) (s : ∀ p ∈ K.led w x, p ∈ N) : @LT.lt Nat _ K.er d :=
  h (K.er, W.listOf x.es.toArray x.n) (s _ (by rw [Ks.led_eq]; exact .tail _ (.tail _ (.tail _ (.tail _ (.tail _ (.head _)))))))
theorem tail_ne {w : World} {K : Ks} {x : St} {d : Addr} {N o : Led} (h : ∀ p ∈ N, p.1 < d) (s : ∀ p ∈ o, p ∈ N) (k : K.ord) (hd : @LT.lt Nat _ d K.sd ∨ @LT.lt Nat _ K.er d) : ∀ q ∈ o ++ K.led w x, q.1 ≠ d := fun q hq => by
  rcases List.mem_append.mp hq with hq | hq
  · exact Nat.ne_of_lt (h q (s q hq))
  · exact Ks.ne_all k hd q hq
theorem Tl.lt {T N cs : Led} {d : Addr} (h : ∀ p ∈ N, p.1 < d) (t : Tl T N cs) : ∀ p ∈ cs, @LT.lt Nat _ p.1 d := fun p hp => h p (by rw [t.eq]; exact List.mem_append_left _ hp)
structure Kz where
  za : Addr
  zd : Addr
  m0 : Tok
  m1 : Tok
  m2 : Tok
  m3 : Tok
  m4 : Tok
  m5 : Tok
  m6 : Tok
  v1 : Value
  v2 : Value
  v3 : Value
  v4 : Value
  v5 : Value
  v6 : Value
noncomputable abbrev Kz.kd (w : World) (Z : Kz) (st : Addr) (m7 : Tok) (tq : Addr) : Obj := dictOf (kdict w.params Z.m0 Z.m1 Z.m2 Z.m3 Z.m4 Z.m5 Z.m6 m7 st Z.v1 Z.v2 Z.v3 Z.v4 Z.v5 Z.v6 tq) 8
noncomputable abbrev Kz.kd7 (w : World) (Z : Kz) (st : Addr) : Obj := dictOf (kdict7 w.params Z.m0 Z.m1 Z.m2 Z.m3 Z.m4 Z.m5 Z.m6 st Z.v1 Z.v2 Z.v3 Z.v4 Z.v5 Z.v6) 7
theorem Srt.five {K : Ks} {Z : Kz} {tq : Addr} (h : K.ord) (k : @LT.lt Nat _ Z.zd Z.za ∧ @LT.lt Nat _ Z.za K.sd ∧ @LT.lt Nat _ K.er tq) : Srt [tq, K.er, K.sd, Z.za, Z.zd] := by
  obtain ⟨h1, h2, h3, h4, h5⟩ := h
  obtain ⟨k1, k2, k3⟩ := k
  have S0 : Srt [Z.zd] := ⟨fun _ h => (nomatch h), trivial⟩
  exact (((S0.grow k1).grow k2).grow (Nat.lt_trans h1 (Nat.lt_trans h2 (Nat.lt_trans h3 (Nat.lt_trans h4 h5))))).grow k3
theorem one_lt_tq5 {K : Ks} {Z : Kz} {tq : Addr} (h : K.ord) (k : @LT.lt Nat _ Z.zd Z.za ∧ @LT.lt Nat _ Z.za K.sd ∧ @LT.lt Nat _ K.er tq) : @LT.lt Nat _ 1 tq := by
  obtain ⟨h1, h2, h3, h4, h5⟩ := h
  have e1 : @LT.lt Nat _ 0 K.st := Nat.lt_of_le_of_lt (Nat.zero_le K.sd) h1
  have e2 : @LT.lt Nat _ 1 K.rce := Nat.lt_of_le_of_lt e1 h2
  exact Nat.lt_trans e2 (Nat.lt_trans h3 (Nat.lt_trans h4 (Nat.lt_trans h5 k.2.2)))
section
variable {prog : Program} {w : World} {A : Around} {E : Value → Shared → Prop} {s : Shared} {Kf : Frag} {L : Addr} {h₀ : Heap} {m : Str → Option Value}
theorem meth_blk {K : Ks} {x : St} {nl rest : Led} {name : Str} {f : Addr} {pl : Sem Bool} {Q : Value × List Value → Shared → Prop} (F : Fr h₀ L s.heap m) (X₀ : Kf.In h₀) (N : News h₀ L s.heap nl) (tk : Take (K.led w x) nl rest)
    (hg : plainGet Kf 166 name = true) (hf : findIn Kf (.ref 166) name = some (some (.ref f))) (ht : isFn Kf (.ref f) = true)
    (hl : getL name (sdict w.params K.k0 K.k1 K.k2 K.k3 K.k4 K.k5 K.k6 K.k7 K.k8 K.k9 K.rce K.nl K.ds x.chunk x.tc x.size x.ts x.off x.to K.er x.pl x.tl x.pc x.tp x.buf) = some none)
    (h : Q (.ref f, [.ref K.st]) s) : wpAny (model prog w) A (getMethod (.ref K.st) name pl) Q E s := by
  have N2 : News h₀ L s.heap (K.led w x) := fun p hp => N p (tk.sub p hp)
  rw [Ks.led_eq] at N2
  exact method_inst F X₀ (InstAt.of_news N2 (.head _) (.tail _ (.head _))) hg hf ht hl h
end
end Mine.Internal

end
section
set_option tactic.hygienic false
open PySem PySem.W PyProof.Rows PySem.Calls PySem.Spec PyProof.V
namespace Mine.Internal
theorem ok_start {src : Str} (hs : src.length ≤ 10000) (hsu : ∀ c ∈ src.cps.toList, c < 55296) {tc ts to tl tp tpl : Tok} {n : Nat} :
    St.ok src ⟨Str.ofString "", tc, 0, ts, 0, to, 0, tl, 0, tp, .none, [], 0, tpl, [], n⟩ := by
  have hl : (Str.ofString "").length = 0 := by decide +kernel
  exact ⟨by dsimp only; rw [hl]; rfl, Int.le_refl _, Int.le_refl _, by dsimp only; omega, Int.le_refl _, by dsimp only; omega, hs, .inl ⟨rfl, rfl⟩, by simp only [List.length_nil]; omega, hsu, fun h => absurd rfl h, ⟨[], fun _ => ⟨rfl, rfl⟩, by rw [show (Str.ofString "").cps.toList = [] from by decide +kernel]; rfl⟩⟩
theorem rem_start {src : Str} (_ : src.length ≤ 10000) {tc ts to tl tp tpl : Tok} {n : Nat} :
    St.rem src ⟨Str.ofString "", tc, 0, ts, 0, to, 0, tl, 0, tp, .none, [], 0, tpl, [], n⟩ = mendL src.cps.toList := by
  have hc : (Str.ofString "").cps.toList = [] := by decide +kernel
  unfold St.rem
  dsimp only
  rw [hc]
  rfl

theorem al_f {b : Bool} (h : (b == false) = true) : b = false := by cases b <;> first | rfl | cases h
theorem al_t {b : Bool} (h : (b == false) = false) : b = true := by cases b <;> first | rfl | cases h
structure Cu where
  x : St
  vs : List Value
  n : Nat
noncomputable def flat (ws : List Str) : List Nat := (ws.map (·.cps.toList)).flatten
theorem flat_snoc (ws : List Str) (y : Str) : flat (ws ++ [y]) = flat ws ++ y.cps.toList := by simp [flat]
structure Cu.ok (src : Str) (al : Nat → Bool) (L : List Nat) (c : Cu) : Prop where
  sok : c.x.ok src
  ex : ∃ ws, StrsAre c.vs ws ∧ L = flat ws ++ c.x.rem src ∧ (∀ d ∈ flat ws, al d = false) ∧ c.vs.length + 2 * (c.x.rem src).length + (if c.x.off = c.x.size then 1 else 0) ≤ 2 * L.length + 1
structure CuX (src : Str) (al : Nat → Bool) (L : List Nat) (c : Cu) : Prop where
  sok : c.x.ok src
  vl : c.vs.length ≤ 100000
  ex : ∃ ws, StrsAre c.vs ws ∧ L = flat ws ++ c.x.rem src ∧ (∀ d ∈ flat ws, al d = false) ∧ (∀ d t, c.x.rem src = d :: t → al d = true)
noncomputable def Cu.mu (src : Str) (c : Cu) : Nat := 2 * (c.x.rem src).length + (if c.x.off = c.x.size then 1 else 0)
theorem Cu.start {src : Str} {al : Nat → Bool} {x : St} (ok : x.ok src) : Cu.ok src al (x.rem src) ⟨x, [], 0⟩ :=
  ⟨ok, [], .nil, rfl, (fun _ h => nomatch h), by simp only [List.length_nil]; split <;> omega⟩
theorem Cu.vlen {src : Str} {L : List Nat} {m k : Nat} {x : St} (ok : x.ok src) (hL : x.rem src = L) (h : m + 2 * k + b ≤ 2 * L.length + 1) : m ≤ 50000 := by
  have := ok.remlen; rw [hL] at this; omega
structure RunTo (al : Nat → Bool) (x : St) (e : Int) : Prop where
  lo : x.off ≤ e
  hi : e ≤ x.size
  all : ∀ k : Nat, x.off ≤ k → (k : Int) < e → ∀ d, x.chunk.cps[k]? = some d → al d = false
theorem RunTo.start {src : Str} {al : Nat → Bool} {x : St} (ok : x.ok src) : RunTo al x x.off := ⟨Int.le_refl _, ok.off1, fun k h1 h2 => by omega⟩
theorem RunTo.step {al : Nat → Bool} {x : St} {e : Int} (h0 : 0 ≤ x.off) (r : RunTo al x e) {c : Nat} (hc : x.chunk.cps[e.toNat]? = some c) (ha : al c = false) (he : e < x.size) : RunTo al x (e + 1) :=
  ⟨by have := r.lo; omega, by omega, fun k h1 h2 d hd => by
    have hlo := r.lo
    rcases (show (k : Int) < e ∨ e ≤ k by omega) with h | h
    · exact r.all k h1 h d hd
    · have : k = e.toNat := by omega
      rw [this, hc] at hd; cases hd; exact ha⟩
theorem St.ok.at2 {src : Str} {x : St} (ok : x.ok src) {e : Int} (h0 : 0 ≤ e) (h : e < x.size) : ∃ c, x.chunk.cps[e.toNat]? = some c := by
  have h2 := ok.csize
  have h3 : e.toNat < x.chunk.cps.size := by simp only [Str.length] at h2; omega
  exact ⟨x.chunk.cps[e.toNat], Array.getElem?_eq_getElem h3⟩
theorem run_stop {al : Nat → Bool} {ys0 : List Str} (hal0 : ∀ c : Nat, ys0.any (· == ⟨#[c]⟩) = al c) (x : St) (e : Int) {c : Nat} (hc : x.chunk.cps[e.toNat]? = some c) (h : ((ys0.any fun z => z == ⟨#[c]⟩) == false) = false) (h2 : e ≤ x.size) (h3 : e ≠ x.size) :
    ∃ d, x.chunk.cps[e.toNat]? = some d ∧ al d = true ∧ e < x.size := ⟨c, hc, (hal0 c).symm.trans (al_t h), by omega⟩
theorem lo_at {a : Int} {i : Nat} (h0 : 0 ≤ a) : a ≤ ((a.toNat + i : Nat) : Int) := by
  rw [Int.natCast_add, Int.toNat_of_nonneg h0]; exact Int.le_add_of_nonneg_right (Int.natCast_nonneg i)
theorem hi_at {a e : Int} {i : Nat} (h0 : 0 ≤ a) (h : i < (e - a).toNat) : ((a.toNat + i : Nat) : Int) < e := by
  rw [Int.natCast_add, Int.toNat_of_nonneg h0]; exact Int.add_lt_of_lt_sub_left (Int.lt_toNat.mp h)
theorem to_at {a e : Int} (h0 : 0 ≤ a) (h : a ≤ e) : e.toNat = a.toNat + (e - a).toNat := by
  rw [← Int.toNat_add h0 (Int.sub_nonneg.mpr h), Int.add_comm, Int.sub_add_cancel]
theorem len_at {a e : Int} {n : Nat} (h0 : 0 ≤ a) (h : a ≤ e) (he : e = (n : Int)) : n - a.toNat = (e - a).toNat := by
  have h1 := to_at h0 h
  have h2 : n = a.toNat + (e - a).toNat := by rw [← h1, he, Int.toNat_natCast]
  exact Nat.sub_eq_of_eq_add (h2.trans (Nat.add_comm _ _))
theorem RunTo.take {src : Str} {al : Nat → Bool} {x : St} {e : Int} (ok : x.ok src) (r : RunTo al x e) :
    (∀ d ∈ (x.chunk.cps.toList.drop x.off.toNat).take (e - x.off).toNat, al d = false) ∧ x.rem src = (x.chunk.cps.toList.drop x.off.toNat).take (e - x.off).toNat ++ St.rem src { x with off := e } := by
  have h0 := ok.off0; have h1 := r.lo; have h2 := r.hi; have h3 := ok.csize
  constructor
  · intro d hd
    obtain ⟨i, hi, e1⟩ := List.mem_iff_getElem.mp hd
    rw [List.length_take, List.length_drop, len_toList] at hi
    have : x.chunk.cps[x.off.toNat + i]? = some d := by
      rw [← Array.getElem?_toList, ← e1, List.getElem_take, List.getElem_drop, List.getElem?_eq_getElem]
    exact r.all (x.off.toNat + i) (lo_at h0) (hi_at h0 (Nat.lt_of_lt_of_le hi (Nat.min_le_left _ _))) d this
  · unfold St.rem
    dsimp only
    rw [← List.append_assoc]
    congr 1
    rw [to_at h0 h1, ← List.drop_drop, List.take_append_drop]
theorem St.ok.to {src : Str} {x : St} (ok : x.ok src) {e : Int} (h0 : 0 ≤ e) (h1 : e ≤ x.size) (t : Tok) : St.ok src { x with off := e, to := t } :=
  ⟨ok.csize, h0, h1, ok.clen, ok.place0, ok.place1, ok.slen, ok.bufis, ok.bud, ok.sur, ok.pendat, ok.hist⟩
theorem rem_at {src : Str} {x : St} {e : Int} {c : Nat} (hc : x.chunk.cps[e.toNat]? = some c) : ∃ t, St.rem src { x with off := e } = c :: t := by
  unfold St.rem
  dsimp only
  rw [drop_at (getq hc)]
  exact ⟨_, rfl⟩
theorem cux_stop {src : Str} {al : Nat → Bool} {L : List Nat} {x : St} {vs : List Value} {n : Nat} {ws : List Str} {c : Nat} (ok : x.ok src) (hv : StrsAre vs ws) (hL : L = flat ws ++ x.rem src) (ha : ∀ d ∈ flat ws, al d = false)
    (hc : x.chunk.cps[x.off.toNat]? = some c) (hs : al c = true) (hvl : vs.length ≤ 50000) : CuX src al L ⟨x, vs, n⟩ := by
  refine ⟨ok, by dsimp only; omega, ws, hv, hL, ha, fun d t h => ?_⟩
  obtain ⟨t', h'⟩ := rem_at (src := src) hc
  have : c :: t' = d :: t := h'.symm.trans h
  injection this with e; rw [← e]; exact hs
theorem cux_run {src : Str} {al : Nat → Bool} {L : List Nat} {x : St} {vs : List Value} {n : Nat} {ws : List Str} {c : Nat} {e : Int} {t1 t2 : Tok} (ok : x.ok src) (hv : StrsAre vs ws) (hL : L = flat ws ++ x.rem src) (ha : ∀ d ∈ flat ws, al d = false)
    (r : RunTo al x e) (hc : x.chunk.cps[e.toNat]? = some c) (hs : al c = true) (hvl : vs.length ≤ 50000) : CuX src al L ⟨{ x with off := e, to := t2 }, vs ++ [.str (Txt.slice x.chunk (some x.off) (some e)) t1], n⟩ := by
  have h0 := ok.off0; have h1 := r.lo
  obtain ⟨q1, q2⟩ := r.take ok
  have e1 : (Txt.slice x.chunk (some x.off) (some e)).cps.toList = (x.chunk.cps.toList.drop x.off.toNat).take (e - x.off).toNat := by rw [slice_ss h0 h1]
  refine ⟨ok.to (by omega) r.hi t2, by dsimp only; rw [List.length_append, List.length_singleton]; omega, ws ++ [_], strs_snoc _ _ hv, ?_, ?_, fun d t h => ?_⟩
  · rw [flat_snoc, e1, hL, q2, List.append_assoc]; rfl
  · intro d hd
    rw [flat_snoc, e1] at hd
    rcases List.mem_append.mp hd with hd | hd
    · exact ha d hd
    · exact q1 d hd
  · obtain ⟨t', h'⟩ := rem_at (src := src) hc
    have : c :: t' = d :: t := h'.symm.trans h
    injection this with e; rw [← e]; exact hs
theorem cu_end {src : Str} {al : Nat → Bool} {L : List Nat} {x y : St} {vs : List Value} {n : Nat} {ws : List Str} {e : Int} {t1 : Tok} (ok : x.ok src) (hv : StrsAre vs ws) (hL : L = flat ws ++ x.rem src) (ha : ∀ d ∈ flat ws, al d = false)
    (r : RunTo al x e) (he : e = x.size) (hy : y.ok src) (hyr : y.rem src = mendL (x.pend ++ src.cps.toList.drop x.place.toNat)) :
    ∃ ws', StrsAre (vs ++ [.str (Txt.slice x.chunk (some x.off) none) t1]) ws' ∧ L = flat ws' ++ y.rem src ∧ (∀ d ∈ flat ws', al d = false) ∧ (x.rem src).length = (x.size - x.off).toNat + (y.rem src).length := by
  have h0 := ok.off0; have h1 := r.lo; have h3 := ok.csize
  obtain ⟨q1, q2⟩ := r.take ok
  have e1 : (Txt.slice x.chunk (some x.off) none).cps.toList = x.chunk.cps.toList.drop x.off.toNat := by rw [slice_sn h0]
  have e2 : (x.chunk.cps.toList.drop x.off.toNat).take (e - x.off).toNat = x.chunk.cps.toList.drop x.off.toNat := List.take_of_length_le (Nat.le_of_eq (by rw [List.length_drop, len_toList]; exact len_at h0 h1 (he.trans h3)))
  rw [e2] at q1
  refine ⟨ws ++ [_], strs_snoc _ _ hv, ?_, ?_, ?_⟩
  · rw [flat_snoc, e1, hL, hyr, List.append_assoc]; rfl
  · intro d hd
    rw [flat_snoc, e1] at hd
    rcases List.mem_append.mp hd with hd | hd
    · exact ha d hd
    · exact q1 d hd
  · rw [hyr]; unfold St.rem; rw [List.length_append, List.length_drop, len_toList, len_at h0 (he ▸ h1) h3]
theorem cu_ar1 {v xr yr L : Nat} {o s : Int} (hb : v + 2 * xr + (if o = s then 1 else 0) ≤ 2 * L + 1) (q : xr = (s - o).toNat + yr) (h : o ≤ s) : v + 1 + 2 * yr + 0 ≤ 2 * L + 1 := by
  by_cases e : o = s
  · rw [if_pos e] at hb; omega
  · have h1 : 1 ≤ (s - o).toNat := Int.lt_toNat.mpr (Int.sub_pos_of_lt (Int.lt_iff_le_and_ne.mpr ⟨h, e⟩))
    clear h e; omega
theorem cu_ar2 {xr yr : Nat} {o s : Int} (q : xr = (s - o).toNat + yr) (h : o ≤ s) : 2 * yr + 0 < 2 * xr + (if o = s then 1 else 0) := by
  by_cases e : o = s
  · rw [if_pos e]; omega
  · have h1 : 1 ≤ (s - o).toNat := Int.lt_toNat.mpr (Int.sub_pos_of_lt (Int.lt_iff_le_and_ne.mpr ⟨h, e⟩))
    rw [if_neg e]; clear h e; omega
theorem cu_next {src : Str} {al : Nat → Bool} {L : List Nat} {x y : St} {vs : List Value} {n : Nat} {ws : List Str} {e : Int} {t1 : Tok} (ok : x.ok src) (hv : StrsAre vs ws) (hL : L = flat ws ++ x.rem src) (ha : ∀ d ∈ flat ws, al d = false)
    (hb : vs.length + 2 * (x.rem src).length + (if x.off = x.size then 1 else 0) ≤ 2 * L.length + 1)
    (r : RunTo al x e) (he : e = x.size) (hy : y.ok src) (hyr : y.rem src = mendL (x.pend ++ src.cps.toList.drop x.place.toNat)) (hy0 : y.off = 0) (hy1 : 1 ≤ y.size) :
    Cu.ok src al L ⟨y, vs ++ [.str (Txt.slice x.chunk (some x.off) none) t1], n⟩ ∧ ∀ m, Cu.mu src ⟨y, vs ++ [.str (Txt.slice x.chunk (some x.off) none) t1], n⟩ < Cu.mu src ⟨x, vs, m⟩ := by
  obtain ⟨ws', q1, q2, q3, q4⟩ := cu_end (n := 0) (t1 := t1) ok hv hL ha r he hy hyr
  have h4 := ok.off1
  have hs : ¬ y.off = y.size := fun e => absurd (hy0.symm.trans e ▸ hy1) (by decide)
  refine ⟨⟨hy, ws', q1, q2, q3, ?_⟩, fun m => ?_⟩
  · dsimp only
    rw [if_neg hs, List.length_append, List.length_singleton]
    exact cu_ar1 hb q4 h4
  · unfold Cu.mu
    dsimp only
    rw [if_neg hs]
    exact cu_ar2 q4 h4
theorem cux_end {src : Str} {al : Nat → Bool} {L : List Nat} {x y : St} {vs : List Value} {n : Nat} {ws : List Str} {e : Int} {t1 : Tok} (ok : x.ok src) (hv : StrsAre vs ws) (hL : L = flat ws ++ x.rem src) (ha : ∀ d ∈ flat ws, al d = false)
    (r : RunTo al x e) (he : e = x.size) (hy : y.ok src) (hyr : y.rem src = mendL (x.pend ++ src.cps.toList.drop x.place.toNat)) (hy0 : y.rem src = []) (hvl : vs.length ≤ 50000) :
    CuX src al L ⟨y, vs ++ [.str (Txt.slice x.chunk (some x.off) none) t1], n⟩ := by
  obtain ⟨ws', q1, q2, q3, q4⟩ := cu_end (n := 0) (t1 := t1) ok hv hL ha r he hy hyr
  exact ⟨hy, by dsimp only; rw [List.length_append, List.length_singleton]; omega, ws', q1, q2, q3, fun d t h => by dsimp only at h; rw [hy0] at h; cases h⟩
section
variable {prog : Program} {w : World} {A : Around} {E : Value → Shared → Prop} {s : Shared} {h₀ : Heap} {L : Addr} {m : Str → Option Value} {news : List (Addr × Obj)}
theorem meetW_fin {σ : Type} {g : Heap} {Led : σ → List (Addr × Obj)} {ps : σ → List (Str × Value)} {stored : List Str} {m₀ m' : Str → Option Value} {X : σ → Prop} {h' : Heap} {k : Nat} {news : List (Addr × Obj)} (c : σ)
    (F : Fr g L h' m') (N : News g L h' news) (hn : ∀ p ∈ Led c, p ∈ news) (hk : ∀ p ∈ ps c, m' p.1 = some p.2) (hr : ∀ z, (∀ p ∈ ps c, z ≠ p.1) → stored.contains z = false → m' z = m₀ z) (x : X c) : MeetW g L s Led ps stored m₀ X .next { s with heap := h', toks := k } :=
  meetW_end c m' (ksw_fr hk hr F) N hn x
theorem flat_sum : ∀ ws : List Str, (ws.map (·.length)).sum = (flat ws).length
  | [] => rfl
  | y :: r => by
    have := flat_sum r
    rw [List.map_cons, List.sum_cons, this]
    show y.length + _ = (flat ([y] ++ r)).length
    rw [show flat ([y] ++ r) = y.cps.toList ++ flat r from by simp [flat], List.length_append, len_toList]
theorem join_flats {D : Addr} {vs : List Value} {ws : List Str} {t : Tok} {Q : Value → Shared → Prop} (hl : s.heap.IsList D vs.toArray) (hi : StrsAre vs ws) (hn : vs.length ≤ 100000) (hm : (flat ws).length ≤ 100000)
    (h : ∀ t' k, Q (.str ⟨(flat ws).toArray⟩ t') { s with toks := k }) : wpAny (model prog w) A (call (.builtin "str.join") [.str (Str.ofString "") t, .ref D]) Q E s := by
  refine join_listW hl hi (by decide) ?_ (fun t' k => ?_)
  · rw [flat_sum, ← strs_len hi]; omega
  · have e : Txt.join (Str.ofString "") ws = ⟨(flat ws).toArray⟩ := Str.ext' (Array.toList_inj.mp (join_flat ws))
    rw [e]; exact h t' k
theorem sub_st2 {src : Str} {x : St} {value slice : Expr} {t u : Tok} {e : Int} {Q : Value → Shared → Prop} (ok : x.ok src) (h0 : 0 ≤ e) (h : e < x.size) (hq : ∀ c, x.chunk.cps[e.toNat]? = some c → Q (.str ⟨#[c]⟩ s.toks) { s with toks := s.toks + 1 })
    (hs : subscripted slice false (.str x.chunk t) (.int e u) = operate [.str x.chunk t, .int e u] (getItem (.str x.chunk t) (.int e u)) := by with_unfolding_all rfl)
    (ht : ∀ r, letTemporaryGo value (.str x.chunk t) r = pure () := by intro _; with_unfolding_all rfl) :
    wpAny (model prog w) A (subscriptTail value slice (.str x.chunk t) (.int e u)) Q E s := by
  obtain ⟨c, hc⟩ := ok.at2 h0 h
  have := ok.csize; have := ok.clen
  exact sub_chr h0 (by omega) hc (hq c hc) hs ht
end
theorem CuX.vlen {src : Str} {x : St} {ws : List Str} {y : St} (ok : x.ok src) (hL : x.rem src = flat ws ++ y.rem src) : (flat ws).length ≤ 100000 := by
  have := ok.remlen; rw [hL, List.length_append] at this; omega
end Mine.Internal

end
section
set_option tactic.hygienic false
open PySem PySem.W PyProof.Rows PySem.Calls PySem.Spec PyProof.V
namespace Mine.Internal
theorem surr_le {z : Int} (h : surr z = false) : z ≤ 1114111 := by
  have := of_decide_eq_false h; omega
structure FaultO (prog : Program) (w : World) (z : Int) (b : Addr) (oa ob : Obj) : Prop where
  tok : ∃ t1 t2, oa.IsDictOf (PySem.strKind prog w) [(Str.ofString "type", .int 7 t1), (Str.ofString "data", .str (Str.ofString "illegal-codepoint-for-numeric-entity") t2), (Str.ofString "datavars", .ref b)]
  vars : ∃ t, ob.IsDictOf (PySem.strKind prog w) [(Str.ofString "charAsInt", .int z t)]
noncomputable def PlainO (prog : Program) (w : World) (n : Str) (oc : Obj) : Prop := ∃ t1 t2, oc.IsDictOf (PySem.strKind prog w) [(Str.ofString "type", .int 7 t1), (Str.ofString "data", .str n t2)]
noncomputable def semiN : Str := Str.ofString "numeric-entity-without-semicolon"
theorem not_mods {a : Addr} (h : @LT.lt Nat _ 1 a) : (a == sysModules) = false := beq_eq_false_iff_ne.mpr (Nat.ne_of_gt h)
structure Adds (prog : Program) (w : World) (z : Int) (semi : Bool) (a b c : Addr) (oa ob oc : Obj) (adds : List Value) : Prop where
  eq : adds = (if ftZ z = true then [.ref a] else []) ++ (if semi = true then [.ref c] else [])
  flt : ftZ z = true → FaultO prog w z b oa ob
  sem : semi = true → PlainO prog w semiN oc
  loF : ftZ z = true → (a == sysModules) = false ∧ (b == sysModules) = false
  loS : semi = true → (c == sysModules) = false
theorem rep_of {z : Int} (h : inRepl z = true) : sgZ z = replC z.toNat ∧ ftZ z = true := by simp [sgZ, ftZ, h]
theorem surr_of {z : Int} (h0 : inRepl z = false) (h : surr z = true) : sgZ z = 65533 ∧ ftZ z = true := by simp [sgZ, ftZ, h0, h]
theorem flt_of {z : Int} (h0 : inRepl z = false) (h1 : surr z = false) (h : fltZ z = true) : sgZ z = z.toNat ∧ ftZ z = true := by simp [sgZ, ftZ, h0, h1, h]
theorem nof_of {z : Int} (h0 : inRepl z = false) (h1 : surr z = false) (h : fltZ z = false) : sgZ z = z.toNat ∧ ftZ z = false := by simp [sgZ, ftZ, h0, h1, h]
noncomputable def afterNum (r : List Nat) : List Nat := match r with | 59 :: t => t | r => r
noncomputable def semiB (r : List Nat) : Bool := match r with | 59 :: _ => false | _ => true
theorem semi_nil : afterNum [] = [] ∧ semiB [] = true := ⟨rfl, rfl⟩
theorem semi_yes {r t : List Nat} {c : Nat} (hr : r = c :: t) (h : c = 59) : afterNum r = t ∧ semiB r = false := by subst hr; subst h; exact ⟨rfl, rfl⟩
theorem semi_no {r t : List Nat} {c : Nat} (hr : r = c :: t) (h : c ≠ 59) : afterNum r = c :: t ∧ semiB r = true := by
  subst hr
  constructor
  · delta afterNum afterNum.match_1; exact dif_neg h
  · delta semiB afterNum.match_1; exact dif_neg h
end Mine.Internal
namespace Mine.Internal
theorem ne59 {c : Nat} (h : ((⟨#[c]⟩ : Str) != Str.ofString ";") = true) : c ≠ 59 := by
  rintro rfl
  exact absurd h (by decide +kernel)
theorem eq59 {c : Nat} (h : ((⟨#[c]⟩ : Str) != Str.ofString ";") = false) : c = 59 := by
  have h1 : (⟨#[c]⟩ : Str) = Str.ofString ";" := by simpa using h
  have h2 : (Str.ofString ";") = ⟨#[59]⟩ := by decide +kernel
  rw [h2] at h1
  injection h1 with h1
  have := congrArg Array.toList h1
  simpa using this
theorem sem_n {r : List Nat} (e : r = []) : afterNum r = [] ∧ semiB r = true := by subst e; exact semi_nil
theorem sem_c {r t : List Nat} {c : Nat} (e : r = c :: t) (h : ((⟨#[c]⟩ : Str) != Str.ofString ";") = true) : afterNum r = c :: t ∧ semiB r = true := semi_no e (ne59 h)
theorem sem_s {r t : List Nat} {c : Nat} (e : r = c :: t) (h : ((⟨#[c]⟩ : Str) != Str.ofString ";") = false) : afterNum r = t ∧ semiB r = false := semi_yes e (eq59 h)
theorem ufffd : Str.ofString "�" = ⟨#[65533]⟩ := by decide +kernel
end Mine.Internal
namespace Mine.Internal
noncomputable def lb1 (z : Int) : Bool := decide (z = 0 ∨ (55296 ≤ z ∧ z ≤ 57343) ∨ 1114111 < z)
noncomputable def lb3 (z : Int) : Bool := decide (z < 9 ∨ z = 11 ∨ (13 ≤ z ∧ z ≤ 31) ∨ z = 127 ∨ (64976 ≤ z ∧ z ≤ 65007) ∨ 65533 < z % 65536)
theorem lb1_t {z : Int} (h : z = 0 ∨ (55296 ≤ z ∧ z ≤ 57343) ∨ 1114111 < z) : true = lb1 z := (decide_eq_true h).symm
theorem lb1_f {z : Int} (h : ¬ (z = 0 ∨ (55296 ≤ z ∧ z ≤ 57343) ∨ 1114111 < z)) : false = lb1 z := (decide_eq_false h).symm
theorem lb3_t {z : Int} (h : z < 9 ∨ z = 11 ∨ (13 ≤ z ∧ z ≤ 31) ∨ z = 127 ∨ (64976 ≤ z ∧ z ≤ 65007) ∨ 65533 < z % 65536) : true = lb3 z := (decide_eq_true h).symm
theorem lb3_f {z : Int} (h : ¬ (z < 9 ∨ z = 11 ∨ (13 ≤ z ∧ z ≤ 31) ∨ z = 127 ∨ (64976 ≤ z ∧ z ≤ 65007) ∨ 65533 < z % 65536)) : false = lb3 z := (decide_eq_false h).symm
theorem inNums_iff (z : Int) : ∀ ns : List Int, KTD.inNums z ns = true ↔ z ∈ ns
  | [] => by rw [show KTD.inNums z [] = false from rfl]; simp
  | n :: r => by rw [show KTD.inNums z (n :: r) = (decide (z = n) || KTD.inNums z r) from rfl]; simp [inNums_iff z r]
theorem nonch_iff {z : Int} (h0 : 0 ≤ z) (h1 : z ≤ 1114111) : nonch z = true ↔ (z = 11 ∨ 65533 < z % 65536) := by
  unfold nonch
  rw [inNums_iff]
  constructor
  · exact (by decide +kernel : ∀ n ∈ nonchL, n = 11 ∨ 65533 < n % 65536) z
  · rintro (h | h)
    · subst h; decide +kernel
    · have q : ∀ q : Nat, q < 17 → (65536 * (q : Int) + 65534) ∈ nonchL ∧ (65536 * (q : Int) + 65535) ∈ nonchL := by decide +kernel
      have q1 := q (z / 65536).toNat (by omega)
      have e : z = 65536 * ((z / 65536).toNat : Int) + 65534 ∨ z = 65536 * ((z / 65536).toNat : Int) + 65535 := by omega
      rcases e with e | e
      · rw [e]; exact q1.1
      · rw [e]; exact q1.2
theorem lb1_of {z : Int} (h : lb1 z = true) : sgZ z = 65533 ∧ ftZ z = true := by
  have h := of_decide_eq_true h
  by_cases e : z = 0
  · subst e; decide +kernel
  · have h2 : surr z = true := decide_eq_true (by omega)
    have h3 : inRepl z = false := decide_eq_false (by omega)
    exact surr_of h3 h2
theorem lb1_le {z : Int} (h : lb1 z = false) : z ≤ 1114111 := by
  have := of_decide_eq_false h; omega
theorem lat_of {z : Int} (h1 : 128 ≤ z) (h2 : z ≤ 159) : sgZ z = latin.getD (z.toNat - 128) 0 ∧ ftZ z = true := by
  have h3 : inRepl z = true := decide_eq_true (by omega)
  obtain ⟨a, b⟩ := rep_of h3
  refine ⟨a.trans ?_, b⟩
  unfold replC
  rw [if_neg (by omega), if_neg (by omega)]
theorem lb34 {z : Int} (h0 : 0 ≤ z) (h1 : lb1 z = false) (h2 : ¬ (128 ≤ z ∧ z ≤ 159)) : sgZ z = z.toNat ∧ ftZ z = lb3 z := by
  have q := of_decide_eq_false h1
  have hs : surr z = false := decide_eq_false (fun h => q (.inr h))
  have hz := lb1_le h1
  by_cases e : z = 13
  · subst e; decide +kernel
  · have h3 : inRepl z = false := decide_eq_false (fun h => h.elim (fun h => q (.inl h)) (fun h => h.elim e h2))
    refine ⟨by simp [sgZ, h3, hs], ?_⟩
    simp only [ftZ, h3, hs, Bool.false_or, fltZ]
    rw [Bool.eq_iff_iff, Bool.or_eq_true, nonch_iff h0 hz, decide_eq_true_iff]
    unfold lb3
    rw [decide_eq_true_iff]
    have hz0 : z ≠ 0 := fun e => q (.inl e)
    clear q hs hz h3 h1
    constructor
    · rintro ((h | h | h | h) | (h | h))
      · exact .inl (by omega)
      · exact .inr (.inr (.inl ⟨by omega, h.2⟩))
      · exact .inr (.inr (.inr (.inl (by omega))))
      · exact .inr (.inr (.inr (.inr (.inl h))))
      · exact .inr (.inl h)
      · exact .inr (.inr (.inr (.inr (.inr h))))
    · rintro (h | h | h | h | h | h)
      · exact .inl (.inl (by omega))
      · exact .inr (.inl h)
      · exact .inl (.inr (.inl ⟨by omega, h.2⟩))
      · exact .inl (.inr (.inr (.inl (by omega))))
      · exact .inl (.inr (.inr (.inr h)))
      · exact .inr (.inr h)
theorem lb3_of {z : Int} (h0 : 0 ≤ z) (h1 : lb1 z = false) (h2 : ¬ (128 ≤ z ∧ z ≤ 159)) {b : Bool} (h3 : lb3 z = b) : sgZ z = z.toNat ∧ ftZ z = b := by
  have := lb34 h0 h1 h2; rw [h3] at this; exact this
end Mine.Internal
namespace Mine.Internal
theorem lb3_ft {z : Int} (h0 : 0 ≤ z) (h : 65533 < z.fmod 65536) : true = lb3 z := lb3_t (.inr (.inr (.inr (.inr (.inr (by rw [Int.fmod_eq_emod_of_nonneg z (by decide)] at h; exact h))))))
theorem lb3_ff {z : Int} (h0 : 0 ≤ z) (h2 : ¬ (z < 9 ∨ z = 11 ∨ (13 ≤ z ∧ z ≤ 31) ∨ z = 127 ∨ (64976 ≤ z ∧ z ≤ 65007))) (h : ¬ 65533 < z.fmod 65536) : false = lb3 z := lb3_f (by
  rw [Int.fmod_eq_emod_of_nonneg z (by decide)] at h
  intro g
  rcases g with g | g | g | g | g | g
  · exact h2 (.inl g)
  · exact h2 (.inr (.inl g))
  · exact h2 (.inr (.inr (.inl g)))
  · exact h2 (.inr (.inr (.inr (.inl g))))
  · exact h2 (.inr (.inr (.inr (.inr g))))
  · exact h g)
theorem item_lat {x : Str} {z : Int} (h1 : 128 ≤ z) (h2 : z ≤ 159) (hx : x.cps.toList = latin) : Txt.item x (z - 128) = ⟨#[latin.getD (z.toNat - 128) 0]⟩ := by
  have e : x = ⟨latin.toArray⟩ := Str.ext' (by rw [← hx])
  subst e
  have : ∀ k : Nat, k < 32 → (Txt.item (⟨latin.toArray⟩ : Str) ((k : Nat) : Int) == ⟨#[latin.getD k 0]⟩) = true := by decide +kernel
  have q := this (z.toNat - 128) (by omega)
  rw [show ((z.toNat - 128 : Nat) : Int) = z - 128 from by omega] at q
  exact eq_of_beq q
theorem ls_f {prog : Program} {w : World} {z : Int} {g h : Heap} {L : Addr} {m : Str → Option Value} {s : Shared} {tk n1 : Nat} {D lf a b : Addr} {oa ob : Obj} {x0 : Str} {t : Tok}
    (F : Fr g L h m) (N : News g L h [(D, tupO [.str x0 t, .ref lf]), (lf, W.listOf [Value.ref a].toArray n1), (b, ob), (a, oa)]) (hx : x0 = ⟨#[sgZ z]⟩) (hf : ftZ z = true) (f : FaultO prog w z b oa ob) (la : (a == sysModules) = false) (lb : (b == sysModules) = false) :
    CEnd g [] (fun v fr l => l = [] ∧ ∃ (q lf a b : Addr) (oa ob : Obj) (faults : List Value) (n : Nat) (t : Tok), v = .ref q ∧ fr = [(q, tupO [.str ⟨#[sgZ z]⟩ t, .ref lf]), (lf, W.listOf faults.toArray n), (a, oa), (b, ob)] ∧ faults = (if ftZ z = true then [.ref a] else []) ∧ FaultO prog w z b oa ob ∧ (a == sysModules) = false ∧ (b == sysModules) = false) s (.ref D) { s with heap := h, toks := tk } := by
  subst hx
  refine cendF (fr := [(D, tupO [.str ⟨#[sgZ z]⟩ t, .ref lf]), (lf, W.listOf [Value.ref a].toArray n1), (a, oa), (b, ob)]) (l := []) F N ?_ (fun _ _ _ h => nomatch h) ⟨rfl, D, lf, a, b, oa, ob, [.ref a], n1, t, rfl, rfl, by rw [if_pos hf], f, la, lb⟩
  repeat' (first | exact List.forall_mem_nil _ | exact List.Mem.head _ | refine List.Mem.tail _ ?_ | refine List.forall_mem_cons.mpr ⟨?_, ?_⟩)
theorem ls_n {prog : Program} {w : World} {z : Int} {g h : Heap} {L : Addr} {m : Str → Option Value} {s : Shared} {tk n1 : Nat} {D lf a b : Addr} {oa ob : Obj} {x0 : Str} {t : Tok}
    (F : Fr g L h m) (N : News g L h [(D, tupO [.str x0 t, .ref lf]), (lf, W.listOf [].toArray n1), (b, ob), (a, oa)]) (hx : x0 = ⟨#[sgZ z]⟩) (hf : ftZ z = false) (f : FaultO prog w z b oa ob) (la : (a == sysModules) = false) (lb : (b == sysModules) = false) :
    CEnd g [] (fun v fr l => l = [] ∧ ∃ (q lf a b : Addr) (oa ob : Obj) (faults : List Value) (n : Nat) (t : Tok), v = .ref q ∧ fr = [(q, tupO [.str ⟨#[sgZ z]⟩ t, .ref lf]), (lf, W.listOf faults.toArray n), (a, oa), (b, ob)] ∧ faults = (if ftZ z = true then [.ref a] else []) ∧ FaultO prog w z b oa ob ∧ (a == sysModules) = false ∧ (b == sysModules) = false) s (.ref D) { s with heap := h, toks := tk } := by
  subst hx
  refine cendF (fr := [(D, tupO [.str ⟨#[sgZ z]⟩ t, .ref lf]), (lf, W.listOf [].toArray n1), (a, oa), (b, ob)]) (l := []) F N ?_ (fun _ _ _ h => nomatch h) ⟨rfl, D, lf, a, b, oa, ob, [], n1, t, rfl, rfl, by rw [hf]; rfl, f, la, lb⟩
  repeat' (first | exact List.forall_mem_nil _ | exact List.Mem.head _ | refine List.Mem.tail _ ?_ | refine List.forall_mem_cons.mpr ⟨?_, ?_⟩)
end Mine.Internal
namespace Mine.Internal
end Mine.Internal

end
section
set_option tactic.hygienic false
open PySem PySem.W PyProof.Rows PySem.Calls PySem.Spec PyProof.V
namespace Mine.Internal
inductive Kd where
  | tok (ty : Int) (x : Str)
  | num (z : Int)
noncomputable def TokO (prog : Program) (w : World) (ty : Int) (x : Str) (o : Obj) : Prop := ∃ t1 t2, o.IsDictOf (PySem.strKind prog w) [(Str.ofString "type", .int ty t1), (Str.ofString "data", .str x t2)]
noncomputable def KdO (prog : Program) (w : World) (fl : Led) : Kd → Value → Prop
  | .tok ty x, v => ∃ a o, v = .ref a ∧ (a, o) ∈ fl ∧ (a == sysModules) = false ∧ TokO prog w ty x o
  | .num z, v => ∃ a oa b ob, v = .ref a ∧ (a, oa) ∈ fl ∧ (b, ob) ∈ fl ∧ (a == sysModules) = false ∧ (b == sysModules) = false ∧ FaultO prog w z b oa ob
inductive QIs (prog : Program) (w : World) (fl : Led) : List Value → List Kd → Prop
  | nil : QIs prog w fl [] []
  | cons {v : Value} {vs : List Value} {k : Kd} {ks : List Kd} : KdO prog w fl k v → QIs prog w fl vs ks → QIs prog w fl (v :: vs) (k :: ks)
section
variable {prog : Program} {w : World} {A : Around} {E : Value → Shared → Prop} {s : Shared} {h₀ : Heap} {L : Addr} {news : List (Addr × Obj)}
theorem KdO.mono {fl fl' : Led} (h : ∀ p ∈ fl, p ∈ fl') {k : Kd} {v : Value} (q : KdO prog w fl k v) : KdO prog w fl' k v := by
  cases k with
  | tok ty x => obtain ⟨a, o, e, m, r⟩ := q; exact ⟨a, o, e, h _ m, r⟩
  | num z => obtain ⟨a, oa, b, ob, e, m1, m2, r⟩ := q; exact ⟨a, oa, b, ob, e, h _ m1, h _ m2, r⟩
theorem QIs.mono {fl fl' : Led} (h : ∀ p ∈ fl, p ∈ fl') {vs : List Value} {ks : List Kd} (q : QIs prog w fl vs ks) : QIs prog w fl' vs ks := by
  induction q with
  | nil => exact .nil
  | cons k _ ih => exact .cons (k.mono h) ih
theorem QIs.app {fl : Led} {vs vs' : List Value} {ks ks' : List Kd} (q : QIs prog w fl vs ks) (q' : QIs prog w fl vs' ks') : QIs prog w fl (vs ++ vs') (ks ++ ks') := by
  induction q with
  | nil => exact q'
  | cons k _ ih => exact .cons k ih
theorem QIs.len {fl : Led} {vs : List Value} {ks : List Kd} (q : QIs prog w fl vs ks) : vs.length = ks.length := by
  induction q with
  | nil => rfl
  | cons _ _ ih => rw [List.length_cons, List.length_cons, ih]
end
section
variable {prog : Program} {w : World} {h : Heap} {h₀ : Heap} {L : Addr} {nl : List (Addr × Obj)}
theorem not_list {knd : KeyKind prog w Str} {vs : Array Value} {n : Nat} {ds : List (Str × Value)} (d : (W.listOf vs n).IsDictOf knd ds) : False := by
  obtain ⟨xs, p, -, hd, -⟩ := d
  cases hd
theorem gt_of {tq c : Addr} {oc : Obj} {vs : Array Value} {n : Nat} {knd : KeyKind prog w Str} {ds : List (Str × Value)} (N : News h₀ L h nl) (hq : (tq, W.listOf vs n) ∈ nl) (hc : (c, oc) ∈ nl) (d : oc.IsDictOf knd ds) (le : @LE.le Nat _ tq c) : @LT.lt Nat _ tq c := by
  refine Nat.lt_of_le_of_ne le fun e => ?_
  have e : tq = c := e
  subst e
  have h1 := (N _ hq).1
  have h2 := (N _ hc).1
  rw [h1] at h2
  cases h2
  exact not_list d
set_option tactic.hygienic true
theorem cne_fl {tq a b c : Addr} {oa ob oc : Obj} {z : Int} {sb : Bool} {qs adds : List Value} {n : Nat} (N : News h₀ L h nl) (hq : (tq, W.listOf qs.toArray n) ∈ nl) (ha : (a, oa) ∈ nl) (hb : (b, ob) ∈ nl) (hc : (c, oc) ∈ nl)
    (le : @LE.le Nat _ tq a ∧ @LE.le Nat _ tq b ∧ @LE.le Nat _ tq c) (A : Adds prog w z sb a b c oa ob oc adds) :
    ∃ fl : Led, (∀ p ∈ fl, p ∈ nl) ∧ (∀ p ∈ fl, @LT.lt Nat _ tq p.1) ∧ QIs prog w fl adds ((if ftZ z = true then [.num z] else []) ++ (if sb = true then [.tok 7 semiN] else [])) := by
  refine ⟨(if ftZ z = true then [(a, oa), (b, ob)] else []) ++ (if sb = true then [(c, oc)] else []), ?_, ?_, ?_⟩
  · intro p hp
    rcases List.mem_append.mp hp with hp | hp
    · split at hp
      · simp only [List.mem_cons, List.not_mem_nil, or_false] at hp
        rcases hp with rfl | rfl
        · exact ha
        · exact hb
      · cases hp
    · split at hp
      · cases List.mem_singleton.mp hp; exact hc
      · cases hp
  · intro p hp
    rcases List.mem_append.mp hp with hp | hp
    · split at hp
      · rename_i q
        obtain ⟨⟨t1, t2, d1⟩, ⟨t3, d2⟩⟩ := A.flt q
        simp only [List.mem_cons, List.not_mem_nil, or_false] at hp
        rcases hp with rfl | rfl
        · exact gt_of N hq ha d1 le.1
        · exact gt_of N hq hb d2 le.2.1
      · cases hp
    · split at hp
      · rename_i q
        obtain ⟨t1, t2, d1⟩ := A.sem q
        cases List.mem_singleton.mp hp; exact gt_of N hq hc d1 le.2.2
      · cases hp
  · rw [A.eq]
    refine QIs.app ?_ ?_
    · by_cases q : ftZ z = true
      · simp only [if_pos q]
        exact .cons ⟨a, oa, b, ob, rfl, .head _, .tail _ (.head _), (A.loF q).1, (A.loF q).2, A.flt q⟩ .nil
      · simp only [if_neg q]; exact .nil
    · by_cases q : sb = true
      · simp only [if_pos q]
        exact .cons ⟨c, oc, rfl, List.mem_append_right _ (.head _), A.loS q, A.sem q⟩ .nil
      · simp only [if_neg q]; exact .nil
set_option tactic.hygienic false
end
noncomputable def numKs (z : Int) (sb : Bool) : List Kd := (if ftZ z = true then [.num z] else []) ++ (if sb = true then [.tok 7 semiN] else [])
theorem Take.sup {l c rest : Led} (t : Take l c rest) : ∀ p ∈ c, p ∈ l ++ rest := by
  induction t with
  | nil => intro p hp; exact hp
  | all q => intro p hp; rw [q.eq] at hp; rcases List.mem_append.mp hp with h | h; exact List.mem_append_right _ h; exact List.mem_append_left _ h
  | cons d _ ih =>
    intro p hp
    have : ∀ {q : Addr × Obj} {l l' : Led}, Del q l l' → ∀ p ∈ l, p = q ∨ p ∈ l' := by
      intro q l l' d
      induction d with
      | head => intro p hp; exact List.mem_cons.mp hp
      | tail _ ih => intro p hp; rcases List.mem_cons.mp hp with rfl | hp; exact .inr (.head _); rcases ih p hp with h | h; exact .inl h; exact .inr (.tail _ h)
    rcases this d p hp with rfl | h
    · exact .head _
    · exact .tail _ (ih p h)
end Mine.Internal

end
section
set_option tactic.hygienic false
open PySem PySem.W PyProof.Rows PySem.Calls PySem.Spec PyProof.V
namespace Mine.Internal
noncomputable def CneP (prog : Program) (w : World) (K : Ks) (Z : Kz) (m7 : Tok) (tq : Addr) (qs : List Value) (z : Int) (r0 : List Nat) : CPost := fun v fr l =>
  ∃ (x' : St) (adds : List Value) (n' : Nat) (t : Tok), x'.ok K.src ∧ v = .str ⟨#[sgZ z]⟩ t ∧ x'.rem K.src = afterNum r0 ∧ QIs prog w fr adds (numKs z (semiB r0)) ∧
    l = (Z.za, instObj 762 Z.zd) :: (Z.zd, Z.kd w K.st m7 tq) :: (tq, W.listOf (qs ++ adds).toArray n') :: K.led w x'
theorem lo_le {w : World} {K : Ks} {Z : Kz} {tq : Addr} {x : St} {o1 o2 o3 : Obj} (ho : K.ord) (hk : @LT.lt Nat _ Z.zd Z.za ∧ @LT.lt Nat _ Z.za K.sd ∧ @LT.lt Nat _ K.er tq) : ∀ q ∈ (Z.za, o1) :: (Z.zd, o2) :: (tq, o3) :: K.led w x, @LE.le Nat _ q.1 tq := by
  have e := K.lo_hi ho
  obtain ⟨h1, h2, h3⟩ := hk
  have hz : @LT.lt Nat _ Z.za tq := Nat.lt_trans h2 (Nat.lt_trans e h3)
  intro q hq
  rcases List.mem_cons.mp hq with rfl | hq
  · exact Nat.le_of_lt hz
  rcases List.mem_cons.mp hq with rfl | hq
  · exact Nat.le_of_lt (Nat.lt_trans h1 hz)
  rcases List.mem_cons.mp hq with rfl | hq
  · exact Nat.le_refl _
  exact Nat.le_of_lt (Nat.lt_of_le_of_lt (Ks.between ho q hq).2 h3)
theorem cne_end {prog : Program} {w : World} {K : Ks} {Z : Kz} {m7 : Tok} {tq : Addr} {qs ql : List Value} {z : Int} {r0 : List Nat} {g h : Heap} {L : Addr} {m : Str → Option Value} {s : Shared} {nl rest : Led} {tk n1 : Nat} {x y : St} {t : Tok} {a b c : Addr} {oa ob oc o1 o2 o3 : Obj} {adds : List Value} (ho : K.ord) (hk : @LT.lt Nat _ Z.zd Z.za ∧ @LT.lt Nat _ Z.za K.sd ∧ @LT.lt Nat _ K.er tq)
    (F : Fr g L h m) (N : News g L h nl) (hql : ql = qs ++ adds) (ht : Take ((Z.za, instObj 762 Z.zd) :: (Z.zd, Z.kd w K.st m7 tq) :: (tq, W.listOf ql.toArray n1) :: K.led w y) nl rest)
    (ma : (a, oa) ∈ nl) (mb : (b, ob) ∈ nl) (mc : (c, oc) ∈ nl) (ok : y.ok K.src) (hrem : y.rem K.src = afterNum r0) (la : @LE.le Nat _ tq a) (lb : @LE.le Nat _ tq b) (lc : @LE.le Nat _ tq c) (had : Adds prog w z (semiB r0) a b c oa ob oc adds) :
    CEnd g ((Z.za, o1) :: (Z.zd, o2) :: (tq, o3) :: K.led w x) (CneP prog w K Z m7 tq qs z r0) s (.str ⟨#[sgZ z]⟩ t) { s with heap := h, toks := tk } := by
  subst hql
  have q := ht.sub
  obtain ⟨fl, h1, h2, h3⟩ := cne_fl N (q _ (.tail _ (.tail _ (.head _)))) ma mb mc ⟨la, lb, lc⟩ had
  refine cendF (fr := fl) F N ?_ (fun p hp r hr e => ?_) ⟨y, adds, n1, t, ok, rfl, hrem, h3, rfl⟩
  · intro p hp
    rcases List.mem_append.mp hp with hp | hp
    · exact h1 p hp
    · exact q p hp
  · exact Nat.lt_irrefl _ (Nat.lt_of_le_of_lt (lo_le ho hk r hr) (e ▸ h2 p hp))

end Mine.Internal

end
section
set_option tactic.hygienic false
open PySem PySem.W PyProof.Rows PySem.Calls PySem.Spec PyProof.V
namespace Mine.Internal
section
variable {prog : Program} {w : World} {A : Around} {E : Value → Shared → Prop} {s : Shared} {g : Heap} {L : Addr} {m : Str → Option Value} {news : List (Addr × Obj)}
structure MeetV (g : Heap) (L : Addr) (m : Str → Option Value) (news : List (Addr × Obj)) (P : Value → Prop) (s : Shared) (v : Value) (s' : Shared) : Prop where
  val : P v
  st : ∃ (h' : Heap) (k : Nat), s' = { s with heap := h', toks := k } ∧ Fr g L h' m ∧ News g L h' news
theorem wp_meetV {t : Sem Value} {Q : Value → Shared → Prop} (P : Value → Prop) (_ : Fr g L s.heap m) (_ : News g L s.heap news) (hq : ∀ v h' k, P v → Fr g L h' m → News g L h' news → Q v { s with heap := h', toks := k })
    (hw : wpAny (model prog w) A t (MeetV g L m news P s) E s) : wpAny (model prog w) A t Q E s :=
  wpAny_mono hw (fun v s' ⟨hv, h', k, e, F, N⟩ => by subst e; exact hq v h' k hv F N) (fun _ _ e => e)
theorem meetV_end {P : Value → Prop} {v : Value} {h' : Heap} {k : Nat} {news' : List (Addr × Obj)} (F : Fr g L h' m) (N : News g L h' news') (hn : ∀ p ∈ news, p ∈ news') (hv : P v) : MeetV g L m news P s v { s with heap := h', toks := k } := ⟨hv, h', k, rfl, F, fun p hp => N p (hn p hp)⟩
end
end Mine.Internal
namespace Mine.Internal
theorem ints_len {vs : List Value} {ns : List Int} (h : IntsAre vs ns) : vs.length = ns.length := by
  induction h with
  | nil => rfl
  | cons _ _ _ ih => rw [List.length_cons, List.length_cons, ih]
end Mine.Internal

end
section
set_option tactic.hygienic false
open PySem PySem.W PyProof.Rows PySem.Calls PySem.Spec PyProof.V
namespace Mine.Internal
end Mine.Internal
namespace Mine.Internal
section
variable {prog : Program} {w : World} {A : Around} {E : Value → Shared → Prop} {s : Shared} {g : Heap} {L : Addr} {m : Str → Option Value} {news : List (Addr × Obj)}
end
end Mine.Internal
namespace Mine.Internal
end Mine.Internal
namespace Mine.Internal
section
variable {prog : Program} {w : World} {A : Around} {E : Value → Shared → Prop} {s : Shared} {g : Heap} {L : Addr} {m : Str → Option Value} {news : List (Addr × Obj)}
theorem add_fs {lf l2 : Addr} {fs ys : List Value} {n1 n2 : Nat} {Q : Value → Shared → Prop} (F : Fr g L s.heap m) (N : News g L s.heap news) (h1 : (lf, W.listOf fs.toArray n1) ∈ news) (h2 : (l2, W.listOf ys.toArray n2) ∈ news) (hf : fs.length + ys.length ≤ 100)
    (h : ∀ D h', Fr g L h' m → News g L h' ((D, W.listOf (fs ++ ys).toArray 0) :: news) → (∀ p ∈ news, p.1 < D) → Q (.ref D) { s with heap := h' }) :
    wpAny (model prog w) A (binaryOp .Add (.ref lf) (.ref l2)) Q E s :=
  kmk_add_lit F N (News.isList N h1) (News.isList N h2) (by simp) h (by rw [sizeLine_eq]; simp; omega)
theorem fs_len {z : Int} {fs : List Value} {a : Addr} (h : fs = if ftZ z = true then [.ref a] else []) : fs.length ≤ 1 := by subst h; split <;> simp
end
end Mine.Internal
namespace Mine.Internal
end Mine.Internal
namespace Mine.Internal
section
variable {prog : Program} {w : World} {A : Around} {E : Value → Shared → Prop} {Q : Flow → Shared → Prop} {s : Shared} {env : Env} {h₀ : Heap} {x : Str} {body : List Stmt} {m₀ : Str → Option Value}
end
end Mine.Internal
namespace Mine.Internal
section
variable {prog : Program} {w : World} {A : Around} {E : Value → Shared → Prop} {s : Shared} {hex cl : Bool} {z b : Int} {x p tl : Str} {t u : Tok} {Q : Value → Shared → Prop}
end
end Mine.Internal

end
section
set_option tactic.hygienic false
open PySem PySem.W PyProof.Rows PySem.Calls PySem.Spec PyProof.V
namespace Mine.Internal
noncomputable def EqW (prog : Program) (w : World) (A : Around) (s : Shared) (v y : Value) : Prop :=
  ∀ (E : Value → Shared → Prop) (Q : Bool → Shared → Prop), Q true s → wpAny (model prog w) A (eqBool v y) Q E s
section
variable {prog : Program} {w : World} {A : Around} {E : Value → Shared → Prop} {s : Shared}
theorem EqW.int {z : Int} {t u : Tok} : EqW prog w A s (.int z t) (.int z u) := fun E Q hq => by
  have q := keq_flat (A := A) (s := s) (Flat.int z t) (Flat.int z u) prog w E Q
  refine q ?_
  simpa [PyData.eqv] using hq
theorem EqW.str {x : Str} {t u : Tok} : EqW prog w A s (.str x t) (.str x u) := fun E Q hq => by
  have q := keq_flat (A := A) (s := s) (Flat.str x t) (Flat.str x u) prog w E Q
  refine q ?_
  simpa [PyData.eqv] using hq
theorem wp_else {M : Model} {α : Type} {c : Prop} [Decidable c] {a b : Sem α} {A : Around} {Q : α → Shared → Prop} {E : Value → Shared → Prop} {s : Shared} (h : ¬ c) (k : wpAny M A b Q E s) : wpAny M A (if c then a else b) Q E s := by
  rw [if_neg h]; exact k
theorem wp_then {M : Model} {α : Type} {c : Prop} [Decidable c] {a b : Sem α} {A : Around} {Q : α → Shared → Prop} {E : Value → Shared → Prop} {s : Shared} (h : c) (k : wpAny M A a Q E s) : wpAny M A (if c then a else b) Q E s := by
  rw [if_pos h]; exact k
theorem wp_shows {M : Model} {A : Around} {Q : Unit → Shared → Prop} {E : Value → Shared → Prop} {s : Shared} {a : Addr} (h : (a == sysModules) = false) (k : Q () s) : wpAny M A (Builtin.Dict.showsAll a) Q E s := by
  unfold Builtin.Dict.showsAll
  exact wp_else (by rw [h]; exact Bool.false_ne_true) (wpAny_pure k)
theorem found_at {α β : Type} {ys : Array α} {P : α → Bool} {f : α → β} {y : β} (h : (ys.toList.find? P).map f = some y) : ∃ (j : Nat) (hj : j < ys.size), ys.findIdx? P = some j ∧ f ys[j] = y := by
  cases hj : ys.findIdx? P with
  | none =>
    rw [Array.findIdx?_eq_none_iff] at hj
    rw [List.find?_eq_none.mpr (fun z hz => by simp [hj z (by simpa using hz)])] at h
    cases h
  | some j =>
    obtain ⟨hjl, hj1, hj2⟩ := Array.findIdx?_eq_some_iff_getElem.mp hj
    refine ⟨j, hjl, rfl, ?_⟩
    have : ys.toList.find? P = some ys[j] := by
      rw [List.find?_eq_some_iff_getElem]
      exact ⟨hj1, j, by simpa using hjl, by simp, fun i hi => by simpa using hj2 i hi⟩
    rw [this] at h
    exact Option.some.inj h
theorem turn_at {K : Type} [DecidableEq K] {knd : KeyKind prog w K} {ka kb : List (K × Value)} {xs : Array DictEntry} {x : Nat} (hp : Pairs knd xs.toList ka) (hk : KeysOf knd xs)
    (hv : ∀ (i : Nat) k v, ka[i]? = some (k, v) → ∃ y, valueAt kb k = some y ∧ EqW prog w A s v y) (hx : x < xs.size) :
    ∃ k2 y, ∃ _ : valueAt kb k2 = some y, xs[x].hash = knd.hash k2 ∧ knd.is k2 xs[x].key = true ∧ EqW prog w A s xs[x].val y := by
  have hx2 : x < ka.length := by rw [← hp.length]; simpa using hx
  have e2 : ka[x]? = some (ka[x].1, ka[x].2) := by rw [List.getElem?_eq_getElem hx2]
  have hh := hp.get? (i := x) (e := xs[x]) (by rw [Array.getElem?_toList, Array.getElem?_eq_getElem hx]) e2
  obtain ⟨k2, hk3, hh'⟩ := hk xs[x] (Array.getElem_mem hx)
  obtain rfl := knd.inj _ _ _ hk3 hh.1
  obtain ⟨y, hy, heq⟩ := hv x _ _ e2
  exact ⟨_, y, hy, hh', hh.1, hh.2 ▸ heq⟩
theorem pairs_alike {K : Type} [DecidableEq K] {knd : KeyKind prog w K} {nm : String} {a b : Addr} {ka kb : List (K × Value)} {Q : Bool → Shared → Prop}
    (ha : (a == sysModules) = false) (hb : (b == sysModules) = false) (da : s.heap.DictOf knd a ka) (db : s.heap.DictOf knd b kb) (hl : ka.length = kb.length)
    (hv : ∀ (i : Nat) k v, ka[i]? = some (k, v) → ∃ y, valueAt kb k = some y ∧ EqW prog w A s v y) (h : Q true s) :
    wpAny (model prog w) A (Builtin.Dict.samePairs nm a b) Q E s := by
  obtain ⟨o, xs, p, ho, -, hd, hk, hp, -⟩ := da
  obtain ⟨o2, ys, p2, ho2, -, hd2, hk2, hp2, -⟩ := db
  have n1 : xs.size = ka.length := by rw [← Array.length_toList, hp.length]
  have n2 : ys.size = kb.length := by rw [← Array.length_toList, hp2.length]
  have hsz : xs.size = ys.size := by rw [n1, n2, hl]
  unfold Builtin.Dict.samePairs
  refine wpAny_bind (wp_shows ha (wpAny_bind (wp_shows hb (wpAny_bind (wpAny_dictEntries ho hd (wpAny_bind (wpAny_dictEntries ho2 hd2 (wp_else ?_ ?_))))))))
  · rw [hsz]; exact fun h => by simp at h
  refine wpAny_bind (wpAny_dictEpoch ho hd (wpAny_bind ?_))
  rw [Std.Legacy.Range.forIn_eq_forIn_range']
  refine wpAny_forIn_list _ (fun rest q s' => s' = s ∧ q = (none, ()) ∧ ∀ x ∈ rest, x < xs.size) _ ?turn ?fin _ _ ⟨rfl, rfl, ?start⟩
  case start =>
    intro x hx
    rw [List.mem_range'] at hx
    obtain ⟨i, hi, e⟩ := hx
    simp only [Std.Legacy.Range.size] at hi
    simp at e hi
    omega
  case fin => rintro q s' ⟨rfl, rfl, -⟩; exact wpAny_pure h
  case turn =>
    intro x rest q s' hI
    cases hI.1
    cases hI.2.1
    have hr := hI.2.2
    clear hI
    have hx : x < xs.size := hr x (.head _)
    refine Exists.elim (turn_at hp hk hv hx) fun k2 hE => Exists.elim hE fun y hF => Exists.elim hF fun hy hT => ?_
    clear hE hF
    refine wpAny_bind (wpAny_dictEntries ho hd ?_)
    rw [Array.getElem?_eq_getElem hx]
    show wpAny _ _ (holding [xs[x].key, xs[x].val] _ >>= _) _ _ _
    rw [hT.1]
    refine wpAny_bind (wpAny_holding (wpAny_bind (wpAny_dictFind_of hT.2.1 ho2 hd2 hk2 ?_)))
    refine Exists.elim (found_at ((hp2.find k2).trans hy)) fun j hj1 => Exists.elim hj1 fun hjl hj => ?_
    clear hj1
    · rw [hj.1]
      refine wpAny_bind (wpAny_dictEntries ho2 hd2 ?_)
      rw [Array.getElem?_eq_getElem hjl]
      refine wpAny_holding ?_
      rw [hj.2]
      refine hT.2.2 _ _ ?_
      show wpAny _ _ (if (!true) = true then _ else _) _ _ _
      rw [if_neg (by decide)]
      refine wpAny_bind (wpAny_dictEpoch ho hd ?_)
      rw [if_neg (by simp)]
      exact wpAny_pure ⟨rfl, rfl, fun z hz => hr z (.tail _ hz)⟩
theorem EqW.dicts {K : Type} [DecidableEq K] {knd : KeyKind prog w K} {a b : Addr} {ka kb : List (K × Value)} (ha : (a == sysModules) = false) (hb : (b == sysModules) = false)
    (da : s.heap.DictOf knd a ka) (db : s.heap.DictOf knd b kb) (hl : ka.length = kb.length) (hu : A.units < cLine)
    (hv : ∀ (i : Nat) k v, ka[i]? = some (k, v) → ∃ y, valueAt kb k = some y ∧ EqW prog w A.in1 s v y) : EqW prog w A s (.ref a) (.ref b) := by
  intro E Q hq
  by_cases e : a = b
  · subst e; exact SeqAt.EqAt.same _ prog w E Q hq
  unfold eqBool
  refine wpAny_holding (wpAny_ite_split (fun hab => absurd (by have := eq_of_beq hab; injection this) e) (fun _ => wpAny_bind ?_))
  refine wpAny_richCompare_same_room (op := .Eq) da.typeIs db.typeIs PySem.F.slot_dict_eq (wpAny_call_entry PySem.F.slot_dict_eq da.typeIs PySem.F.entry_dict_eq ?_ (PySem.F.args_dict_eq_2 _ _)) hu
  show wpAny _ _ (Builtin.Dict.dictSlotArgs "__eq__" ⟨[.ref a, .ref b], []⟩ >>= _) _ _ s
  unfold Builtin.Dict.dictSlotArgs
  refine wpAny_bind (wpAny_bind (wpAny_notOrdered_dict da.typeIs ?_))
  show wpAny _ _ (pure (Value.ref a, Value.ref b)) _ _ s
  refine wpAny_pure (wpAny_bind (wpAny_isInstance (T := "dict") db.typeIs PySem.F.sub_dict_dict ?_))
  simp only [Bool.not_true, Bool.false_eq_true, if_false]
  refine wpAny_bind (wpAny_pure (wpAny_bind (wpAny_pure (wpAny_bind (pairs_alike ha hb da db hl hv (wpAny_pure ⟨_, rfl, (fun x => nomatch x), ?_⟩))))))
  exact wpAny_truthy_bool hq
end
end Mine.Internal
namespace Mine.Internal
section
open PySem.SeqAt PySem.AutoSeq1 PySem.MeetsSeq PySem.MeetsSeq2 PySem.MeetsSeq3
variable {prog : Program} {w : World} {A : Around} {E : Value → Shared → Prop} {s : Shared}
theorem alike_walk (l b : Addr) (xs ys : Array Value) (n n2 : Nat) (dd dd2 : Option Addr) (sl sl2 : Array (Option Value)) (hsz : xs.size = ys.size) :
    ∀ k i : Nat, xs.size - i = k → MeetsIn prog w (Builtin.«list.__eq__.loop» ⟨[.ref l, .ref b, rawInt i, rawInt 3], []⟩)
      (fun A R s => (s.heap.get? l = some { cls := .type "list", dict := dd, data := .seq xs n, slots := sl } ∧ s.heap.get? b = some { cls := .type "list", dict := dd2, data := .seq ys n2, slots := sl2 }) ∧
        (∀ j (h1 : j < xs.size) (h2 : j < ys.size), EqW prog w A.in1 s xs[j] ys[j]) ∧ R (.ok (.ret (.bool false))) s) := by
  intro k
  induction k with
  | zero =>
    intro i hk A R s h
    have hi : ¬ i < xs.size := fun h => Nat.ne_of_gt (Nat.sub_pos_of_lt h) hk
    obtain ⟨hp, g, d, tk, os⟩ := s
    obtain ⟨⟨hl, hb⟩, he, hR⟩ := h
    wp_walk using wpAny_loadPart' hl, wpAny_loadPart' hb
    have q0 : ((i : Nat) : Int).toNat = i := Int.toNat_natCast i
    rw [q0]
    rw [Array.getElem?_eq_none (Nat.le_of_not_lt hi), Array.getElem?_eq_none (hsz ▸ Nat.le_of_not_lt hi)]
    wp_walk using wpAny_loadPart' hl, wpAny_loadPart' hb
    show R (.ok (.ret (.bool (xs.size != ys.size)))) _
    rw [hsz]
    simpa using hR
  | succ k ih =>
    intro i hk A R s h
    have hi : i < xs.size := Nat.lt_of_sub_pos (hk ▸ Nat.succ_pos k)
    obtain ⟨hp, g, d, tk, os⟩ := s
    obtain ⟨⟨hl, hb⟩, he, hR⟩ := h
    wp_walk using wpAny_loadPart' hl, wpAny_loadPart' hb
    have q0 : ((i : Nat) : Int).toNat = i := Int.toNat_natCast i
    rw [q0]
    have hi2 : i < ys.size := hsz ▸ hi
    rw [Array.getElem?_eq_getElem hi, Array.getElem?_eq_getElem hi2]
    refine wpAny_bind (he i hi hi2 _ _ ?_)
    wp_walk
    rw [show ((i : Int) + 1) = ((i + 1 : Nat) : Int) from rfl]
    exact ⟨plainId_quiet plain_eq_loop _, codeAny_builtin entry_eq_loop (by
      rw [Around.under_plainId plain_eq_loop _]
      exact ih (i + 1) (by rw [← Nat.sub_sub, hk]; rfl) A R _ ⟨⟨hl, hb⟩, he, hR⟩)⟩
theorem alike_ne (l b : Addr) (xs ys : Array Value) (n n2 : Nat) (dd dd2 : Option Addr) (sl sl2 : Array (Option Value)) (hsz : xs.size = ys.size) :
    MeetsIn prog w (Builtin.«list.__ne__» ⟨[.ref l, .ref b], []⟩)
      (fun A R s => (s.heap.get? l = some { cls := .type "list", dict := dd, data := .seq xs n, slots := sl } ∧ s.heap.get? b = some { cls := .type "list", dict := dd2, data := .seq ys n2, slots := sl2 }) ∧
        (∀ j (h1 : j < xs.size) (h2 : j < ys.size), EqW prog w A.in1 s xs[j] ys[j]) ∧ R (.ok (.ret (.bool false))) s) := by
  intro A R s h
  obtain ⟨hp, g, d, tk, os⟩ := s
  obtain ⟨⟨hl, hb⟩, he, hR⟩ := h
  have f3 := AutoSeq1.sub_list_list
  have hne : ¬ (xs.size != ys.size) = true := by simp [hsz]
  wp_walk using wpAny_loadPart' hl, wpAny_loadPart' hb
  exact ⟨plainId_quiet plain_eq_loop _, codeAny_builtin entry_eq_loop (by
    rw [Around.under_plainId plain_eq_loop _]
    exact alike_walk l b xs ys n n2 dd dd2 sl sl2 hsz _ 0 rfl A R _ ⟨⟨hl, hb⟩, he, hR⟩)⟩
theorem ne_alike {l b : Addr} {xs ys : Array Value} {Q : Value → Shared → Prop} (hl : s.heap.IsList l xs) (hb : s.heap.IsList b ys) (hsz : xs.size = ys.size) (hu : A.units < cLine)
    (he : ∀ j (h1 : j < xs.size) (h2 : j < ys.size), EqW prog w A.in1 s xs[j] ys[j]) (h : Q (.bool false) s) : wpAny (model prog w) A (compareOp .NotEq (.ref l) (.ref b)) Q E s := by
  obtain ⟨⟨cls, dd, data, sl⟩, ho, hc, n, hd⟩ := hl
  obtain ⟨⟨cls2, dd2, data2, sl2⟩, ho2, hc2, n2, hd2⟩ := hb
  simp only at hc hd hc2 hd2
  subst hc hd hc2 hd2
  exact wpAny_richCompare_same_room (op := .NotEq) ⟨_, ho, rfl⟩ ⟨_, ho2, rfl⟩ F.slot_list_ne
    (call_meetsIn F.slot_list_ne ⟨_, ho, rfl⟩ F.entry_list_ne (F.args_list_ne_2 _ _) (alike_ne l b xs ys n n2 dd dd2 sl sl2 hsz)
      ⟨⟨ho, ho2⟩, he, show Value.bool false ≠ Value.notImplemented ∧ Q (.bool false) s from ⟨(fun x => nomatch x), h⟩⟩) hu
end
end Mine.Internal
namespace Mine.Internal
section
variable {prog : Program} {w : World} {A : Around} {E : Value → Shared → Prop} {s : Shared} {h₀ : Heap} {L : Addr} {news : List (Addr × Obj)}
theorem FaultO.eqW {z : Int} {a b a' b' : Addr} {oa ob oa' ob' : Obj} (N : News h₀ L s.heap news) (f : FaultO prog w z b oa ob) (f' : FaultO prog w z b' oa' ob')
    (ha : (a, oa) ∈ news) (hb : (b, ob) ∈ news) (ha' : (a', oa') ∈ news) (hb' : (b', ob') ∈ news)
    (la : (a == sysModules) = false) (lb : (b == sysModules) = false) (la' : (a' == sysModules) = false) (lb' : (b' == sysModules) = false) (hu : A.units + 1 < cLine) : EqW prog w A s (.ref a) (.ref a') := by
  obtain ⟨⟨t1, t2, d1⟩, ⟨t3, d2⟩⟩ := f
  obtain ⟨⟨u1, u2, e1⟩, ⟨u3, e2⟩⟩ := f'
  refine EqW.dicts la la' (Heap.dictOf_iff.mpr ⟨oa, (N _ ha).1, d1⟩) (Heap.dictOf_iff.mpr ⟨oa', (N _ ha').1, e1⟩) rfl (by omega) fun i k v e => ?_
  match i with
  | 0 => cases e; exact ⟨_, by rfl, EqW.int⟩
  | 1 => cases e; exact ⟨_, by rfl, EqW.str⟩
  | 2 =>
    cases e
    refine ⟨_, by rfl, EqW.dicts lb lb' (Heap.dictOf_iff.mpr ⟨ob, (N _ hb).1, d2⟩) (Heap.dictOf_iff.mpr ⟨ob', (N _ hb').1, e2⟩) rfl (by show A.units + 1 < cLine; exact hu) fun i k v e => ?_⟩
    match i with
    | 0 => cases e; exact ⟨_, by rfl, EqW.int⟩
    | i + 1 => cases e
  | i + 3 => cases e
end
end Mine.Internal

end
section
set_option tactic.hygienic false
open PySem PySem.W PyProof.Rows PySem.Calls PySem.Spec PyProof.V
namespace Mine.Internal
section
variable {prog : Program} {w : World} {A : Around} {E : Value → Shared → Prop} {s : Shared}
theorem ne_txt {x y : Str} {t u : Tok} {Q : Value → Shared → Prop} (e : x = y) (h : Q (.bool false) s) : wpAny (model prog w) A (compareOp .NotEq (.str x t) (.str y u)) Q E s := by
  subst e; refine ne_str ?_; simpa using h
end
end Mine.Internal

end
section
set_option tactic.hygienic false
open PySem PySem.W PyProof.Rows PySem.Calls PySem.Spec PyProof.V
namespace Mine.Internal
section
variable {prog : Program} {w : World} {A : Around} {E : Value → Shared → Prop} {s : Shared} {g : Heap} {L : Addr}
noncomputable def MeetX {α : Type} (g : Heap) (L : Addr) (m : α → Str → Option Value) (led : α → List (Addr × Obj)) (P : α → Prop) (s : Shared) (fl : Flow) (s' : Shared) : Prop :=
  ∃ (c : α) (h' : Heap) (k : Nat), fl = .next ∧ P c ∧ s' = { s with heap := h', toks := k } ∧ Fr g L h' (m c) ∧ News g L h' (led c)
theorem wp_meetX {α : Type} {t : Sem Flow} {Q : Flow → Shared → Prop} {m₀ : Str → Option Value} (m : α → Str → Option Value) (led : α → List (Addr × Obj)) (P : α → Prop) (_ : Fr g L s.heap m₀)
    (hq : ∀ c h' k, P c → Fr g L h' (m c) → News g L h' (led c) → Q .next { s with heap := h', toks := k })
    (hw : wpAny (model prog w) A t (MeetX g L m led P s) E s) : wpAny (model prog w) A t Q E s :=
  wpAny_mono hw (fun fl s' x => by obtain ⟨c, h', k, e1, hp, e, F, N⟩ := x; subst e1; subst e; exact hq c h' k hp F N) (fun _ _ e => e)
theorem meetX_end {α : Type} {m : α → Str → Option Value} {led : α → List (Addr × Obj)} {P : α → Prop} {h' : Heap} {k : Nat} {m' : Str → Option Value} {news' : List (Addr × Obj)} (c : α)
    (F : Fr g L h' m') (N : News g L h' news') (hm : m' = m c) (hn : ∀ p ∈ led c, p ∈ news') (hp : P c) : MeetX g L m led P s .next { s with heap := h', toks := k } :=
  ⟨c, h', k, rfl, hp, rfl, hm ▸ F, fun p h => N p (hn p h)⟩
end
structure Md where
  t : Tok
  a : Addr
  b : Addr
  oa : Obj
  ob : Obj
  n : Nat
noncomputable def Md.fs (z : Int) (c : Md) : List Value := if ftZ z = true then [.ref c.a] else []
structure Md.ok (prog : Program) (w : World) (z : Int) (tq : Addr) (c : Md) : Prop where
  la : @LT.lt Nat _ tq c.a
  lb : @LT.lt Nat _ tq c.b
  flt : ftZ z = true → FaultO prog w z c.b c.oa c.ob
theorem md_f {prog : Program} {w : World} {z : Int} {tq a b : Addr} {oa ob : Obj} {t : Tok} {n : Nat} (la : @LT.lt Nat _ tq a) (lb : @LT.lt Nat _ tq b) (f : FaultO prog w z b oa ob) : Md.ok prog w z tq ⟨t, a, b, oa, ob, n⟩ := ⟨la, lb, fun _ => f⟩
theorem md_n {prog : Program} {w : World} {z : Int} {tq a : Addr} {oa : Obj} {t : Tok} {n : Nat} (la : @LT.lt Nat _ tq a) (hf : ftZ z = false) : Md.ok prog w z tq ⟨t, a, a, oa, oa, n⟩ := ⟨la, la, fun h => by rw [hf] at h; cases h⟩
theorem Md.len (z : Int) (c : Md) {qs : List Value} (h : qs.length ≤ 100000) : (qs ++ c.fs z).length ≤ 100001 := by
  unfold Md.fs; rw [List.length_append]; split <;> simp <;> omega
theorem adds_md {prog : Program} {w : World} {z : Int} {tq : Addr} {c : Md} (k : c.ok prog w z tq) (h1 : @LT.lt Nat _ 1 tq) {oc : Obj} {x : Addr} {sb : Bool} {as : List Value}
    (e : as = if sb = true then [.ref x] else []) (lx : sb = true → @LT.lt Nat _ tq x) (hs : sb = true → PlainO prog w semiN oc) : Adds prog w z sb c.a c.b x c.oa c.ob oc (c.fs z ++ as) :=
  ⟨by rw [e]; rfl, k.flt, hs, fun _ => ⟨not_mods (Nat.lt_trans h1 k.la), not_mods (Nat.lt_trans h1 k.lb)⟩, fun h => not_mods (Nat.lt_trans h1 (lx h))⟩
end Mine.Internal
namespace Mine.Internal
section
variable {prog : Program} {w : World} {A : Around} {E : Value → Shared → Prop} {s : Shared} {g : Heap} {L : Addr}
theorem in_tupG {K : Frag} {h₀ : Heap} {L q1 q2 : Addr} {m : Str → Option Value} {od1 od2 : Option Addr} {i1 i2 : Array Value} {n1 n2 : Nat} {o1 o2 : Array (Option Value)} {ys1 ys2 : List Str} {hex : Bool} {c : Nat} {u : Tok} {Q : Value → Shared → Prop}
    (F : Fr h₀ L s.heap m) (X : K.In h₀) (hk1 : K.lookup q1 = some ⟨.type "tuple", od1, .seq i1 n1, o1⟩) (hi1 : StrsAre i1.toList ys1) (he1 : ∀ c : Nat, ys1.any (· == ⟨#[c]⟩) = alD true c)
    (hk2 : K.lookup q2 = some ⟨.type "tuple", od2, .seq i2 n2, o2⟩) (hi2 : StrsAre i2.toList ys2) (he2 : ∀ c : Nat, ys2.any (· == ⟨#[c]⟩) = alD false c)
    (h : Q (.bool (alD hex c)) s) : wpAny (model prog w) A (compareOp .In (.str ⟨#[c]⟩ u) (.ref (if hex = true then q1 else q2))) Q E s := by
  cases hex
  · exact in_tupK F X hk2 hi2 he2 h
  · exact in_tupK F X hk1 hi1 he1 h
theorem in_tupG_none {K : Frag} {h₀ : Heap} {L q1 q2 : Addr} {m : Str → Option Value} {od1 od2 : Option Addr} {i1 i2 : Array Value} {n1 n2 : Nat} {o1 o2 : Array (Option Value)} {ys1 ys2 : List Str} {hex : Bool} {Q : Value → Shared → Prop}
    (F : Fr h₀ L s.heap m) (X : K.In h₀) (hk1 : K.lookup q1 = some ⟨.type "tuple", od1, .seq i1 n1, o1⟩) (hi1 : StrsAre i1.toList ys1)
    (hk2 : K.lookup q2 = some ⟨.type "tuple", od2, .seq i2 n2, o2⟩) (hi2 : StrsAre i2.toList ys2)
    (h : Q (.bool false) s) : wpAny (model prog w) A (compareOp .In .none (.ref (if hex = true then q1 else q2))) Q E s := by
  cases hex
  · exact in_tupK_none F X hk2 hi2 h
  · exact in_tupK_none F X hk1 hi1 h
theorem wp_meetC {t : Sem Flow} {Q : Flow → Shared → Prop} {m₀ : Str → Option Value} {v : Md → Value} (led : Md → List (Addr × Obj)) (P : Md → Prop) (F0 : Fr g L s.heap m₀)
    (hq : ∀ c h' k, P c → Fr g L h' (fun y => if y = Str.ofString "char" then some (v c) else m₀ y) → News g L h' (led c) → Q .next { s with heap := h', toks := k })
    (hw : wpAny (model prog w) A t (MeetX g L (fun c y => if y = Str.ofString "char" then some (v c) else m₀ y) led P s) E s) : wpAny (model prog w) A t Q E s :=
  wp_meetX _ led P F0 hq hw
theorem radix_eq {b : Bool} {t : Tok} {q1 q2 : Addr} {m : Str → Option Value} (hb : b = false) :
    (fun y => if y = Str.ofString "radix" then some (Value.int 10 t) else if y = Str.ofString "allowed" then some (.ref q2) else m y) = (fun y => if y = Str.ofString "radix" then some (Value.int (if b = true then 16 else 10) t) else if y = Str.ofString "allowed" then some (.ref (if b = true then q1 else q2)) else m y) := by
  subst hb; rfl
theorem radix_eqH {b : Bool} {t t' : Tok} {q1 q2 : Addr} {m : Str → Option Value} (hb : b = true) :
    (fun y => if y = Str.ofString "radix" then some (Value.int 16 t) else if y = Str.ofString "allowed" then some (.ref q1) else if y = Str.ofString "radix" then some (Value.int 10 t') else if y = Str.ofString "allowed" then some (.ref q2) else m y) = (fun y => if y = Str.ofString "radix" then some (Value.int (if b = true then 16 else 10) t) else if y = Str.ofString "allowed" then some (.ref (if b = true then q1 else q2)) else m y) := by
  subst hb
  funext y
  by_cases h1 : y = Str.ofString "radix"
  · rw [if_pos h1, if_pos h1]; rfl
  · by_cases h2 : y = Str.ofString "allowed"
    · simp only [h1, h2, if_false, if_true]
    · simp only [h1, h2, if_false]
end
end Mine.Internal
namespace Mine.Internal
theorem base_if (hex : Bool) : (if hex = true then 16 else 10 : Int) = (baseOf hex : Nat) := by cases hex <;> rfl
end Mine.Internal
namespace Mine.Internal
section
variable {prog : Program} {w : World} {s : Shared} {g : Heap} {L : Addr}
theorem meetC_f {m₀ m' : Str → Option Value} {z : Int} {tq a b : Addr} {oa ob : Obj} {t : Tok} {n k : Nat} {h' : Heap} {qs : List Value} {news' : List (Addr × Obj)} (base : List Value → Nat → List (Addr × Obj))
    (F : Fr g L h' m') (N : News g L h' news') (hm : m' = fun y => if y = Str.ofString "char" then some (.str ⟨#[sgZ z]⟩ t) else m₀ y) (hf : ftZ z = true) (hn : ∀ p ∈ (a, oa) :: (b, ob) :: base (qs ++ [.ref a]) n, p ∈ news')
    (la : @LT.lt Nat _ tq a) (lb : @LT.lt Nat _ tq b) (f : FaultO prog w z b oa ob) :
    MeetX g L (fun c y => if y = Str.ofString "char" then some (Value.str ⟨#[sgZ z]⟩ c.t) else m₀ y) (fun c : Md => (c.a, c.oa) :: (c.b, c.ob) :: base (qs ++ c.fs z) c.n) (Md.ok prog w z tq) s .next { s with heap := h', toks := k } :=
  meetX_end (⟨t, a, b, oa, ob, n⟩ : Md) F N hm (fun p hp => hn p (by have e : Md.fs z ⟨t, a, b, oa, ob, n⟩ = [.ref a] := if_pos hf; rw [e] at hp; exact hp)) (md_f la lb f)
theorem meetC_n {m₀ m' : Str → Option Value} {z : Int} {tq a : Addr} {oa : Obj} {t : Tok} {n k : Nat} {h' : Heap} {qs : List Value} {news' : List (Addr × Obj)} (base : List Value → Nat → List (Addr × Obj))
    (F : Fr g L h' m') (N : News g L h' news') (hm : m' = fun y => if y = Str.ofString "char" then some (.str ⟨#[sgZ z]⟩ t) else m₀ y) (hf : ftZ z = false) (hn : ∀ p ∈ (a, oa) :: base qs n, p ∈ news')
    (la : @LT.lt Nat _ tq a) :
    MeetX g L (fun c y => if y = Str.ofString "char" then some (Value.str ⟨#[sgZ z]⟩ c.t) else m₀ y) (fun c : Md => (c.a, c.oa) :: (c.b, c.ob) :: base (qs ++ c.fs z) c.n) (Md.ok prog w z tq) s .next { s with heap := h', toks := k } :=
  meetX_end (⟨t, a, a, oa, oa, n⟩ : Md) F N hm (fun p hp => hn p (by
    have e : Md.fs z ⟨t, a, a, oa, oa, n⟩ = [] := if_neg (by rw [hf]; exact Bool.false_ne_true)
    rw [e, List.append_nil] at hp
    rcases List.mem_cons.mp hp with h | h
    · exact List.mem_cons.mpr (.inl h)
    · exact h)) (md_n la hf)
theorem adds_md0 {z : Int} {tq : Addr} {c : Md} (k : c.ok prog w z tq) (h1 : @LT.lt Nat _ 1 tq) {oc : Obj} {x : Addr} {sb : Bool} (e : sb = false) : Adds prog w z sb c.a c.b x c.oa c.ob oc (c.fs z) := by
  have q := adds_md (oc := oc) (x := x) (sb := sb) (as := []) k h1 (by rw [e]; rfl) (fun h => by rw [e] at h; cases h) (fun h => by rw [e] at h; cases h)
  rwa [List.append_nil] at q
end
end Mine.Internal

end
section
set_option tactic.hygienic false
open PySem PySem.W PyProof.Rows PySem.Calls PySem.Spec PyProof.V
namespace Mine.Internal
noncomputable def entK : List Str := [Str.ofString "AMP", Str.ofString "AMP;", Str.ofString "Eacute", Str.ofString "Eacute;", Str.ofString "Mopf;", Str.ofString "ac;", Str.ofString "acE;", Str.ofString "acute", Str.ofString "acute;", Str.ofString "amp", Str.ofString "amp;", Str.ofString "ang;", Str.ofString "angle;", Str.ofString "bne;", Str.ofString "copy", Str.ofString "copy;", Str.ofString "eacute", Str.ofString "eacute;", Str.ofString "frac12", Str.ofString "frac12;", Str.ofString "gt", Str.ofString "gt;", Str.ofString "lt", Str.ofString "lt;", Str.ofString "nbsp", Str.ofString "nbsp;", Str.ofString "not", Str.ofString "not;", Str.ofString "notin;", Str.ofString "notni;", Str.ofString "para", Str.ofString "para;", Str.ofString "parallel;", Str.ofString "quot", Str.ofString "quot;", Str.ofString "sup1", Str.ofString "sup1;", Str.ofString "sup2", Str.ofString "sup2;", Str.ofString "sup;", Str.ofString "times", Str.ofString "times;", Str.ofString "timesb;"]
@[irreducible] noncomputable def keyS (j : Nat) : Str := entK.getD j Str.empty
noncomputable abbrev keyAt (j : Nat) : List Nat := (keyS j).cps.toList
theorem key_mono : ∀ i : Nat, i < 43 → ∀ j : Nat, j < 43 → i < j → keyAt i < keyAt j := by decide +kernel
structure Bis (p : Str) (lo hi : Int) : Prop where
  lo0 : 0 ≤ lo
  le : lo ≤ hi
  hi1 : hi ≤ 43
  less : ∀ j : Nat, (j : Int) < lo → keyAt j < p.cps.toList
  geq : ∀ j : Nat, hi ≤ (j : Int) → j < 43 → ¬ keyAt j < p.cps.toList
theorem Bis.start (p : Str) : Bis p 0 43 := ⟨Int.le_refl _, by decide, Int.le_refl _, fun j h => by omega, fun j h1 h2 => by omega⟩
theorem Bis.mid {p : Str} {lo hi : Int} (_ : Bis p lo hi) (h : lo < hi) : lo ≤ (lo + hi).fdiv 2 ∧ (lo + hi).fdiv 2 < hi := by
  rw [Int.fdiv_eq_ediv_of_nonneg _ (by decide)]; omega
theorem Bis.up {p : Str} {lo hi mid : Int} (b : Bis p lo hi) (h1 : lo ≤ mid) (h2 : mid < hi) (h : (keyS mid.toNat).cps.toList < p.cps.toList) : Bis p (mid + 1) hi :=
  have h0 := b.lo0
  have h3 := b.hi1
  ⟨by omega, by omega, h3, fun j hj => by
    by_cases e : j = mid.toNat
    · subst e; exact h
    · exact List.lt_trans (key_mono j (by omega) mid.toNat (by omega) (by omega)) h, b.geq⟩
theorem Bis.down {p : Str} {lo hi mid : Int} (b : Bis p lo hi) (h1 : lo ≤ mid) (h2 : mid < hi) (h : ¬ (keyS mid.toNat).cps.toList < p.cps.toList) : Bis p lo mid :=
  have h0 := b.lo0
  have h3 := b.hi1
  ⟨h0, h1, by omega, b.less, fun j hj hj2 => by
    by_cases e : j = mid.toNat
    · subst e; exact h
    · exact fun q => h (List.lt_trans (key_mono mid.toNat (by omega) j hj2 (by omega)) q)⟩
noncomputable def hasPre (p : Str) : Bool := entK.any fun k => p.cps.toList.isPrefixOf k.cps.toList
end Mine.Internal
namespace Mine.Internal
section
variable {prog : Program} {w : World} {A : Around} {E : Value → Shared → Prop} {s : Shared} {K : Frag} {h₀ : Heap} {L q : Addr} {m : Str → Option Value} {u : Tok}
theorem words_in {ws : List Str} (F : Fr h₀ L s.heap m) (X : K.In h₀) (hk : KTD.datLooks (fun b => K.lookup b) (.words ws) (.ref q) = true) : ∃ vs, s.heap.IsList q vs.toArray ∧ StrsAre vs ws := by
  obtain ⟨l, vs, e, hl, hi⟩ := KTD.dat_of_looks (h := s.heap) (fun a o e => F.keep _ _ (X _ _ e)) _ _ hk
  injection e with e
  subst e
  exact ⟨vs, hl, hi⟩
theorem item_words {ws : List Str} {i : Int} {value slice : Expr} {Q : Value → Shared → Prop} (F : Fr h₀ L s.heap m) (X : K.In h₀) (hk : KTD.datLooks (fun b => K.lookup b) (.words ws) (.ref q) = true) (h0 : 0 ≤ i) (h1 : i < (ws.length : Int)) (hfit : i < 2 ^ 63)
    (h : ∀ t', Q (.str (ws.getD i.toNat Str.empty) t') s)
    (hs : subscripted slice false (.ref q) (.int i u) = operate [.ref q, .int i u] (getItem (.ref q) (.int i u)) := by with_unfolding_all rfl) :
    wpAny (model prog w) A (subscriptTail value slice (.ref q) (.int i u)) Q E s := by
  obtain ⟨vs, hl, hi⟩ := words_in F X hk
  exact KTb.item_list hl hi h0 h1 hfit (fun t' _ => h t') hs
theorem item_keys {i : Int} {value slice : Expr} {Q : Value → Shared → Prop} (F : Fr h₀ L s.heap m) (X : K.In h₀) (hk : KTD.datLooks (fun b => K.lookup b) (.words entK) (.ref q) = true) (h0 : 0 ≤ i) (h1 : i < 43)
    (h : ∀ t', Q (.str (keyS i.toNat) t') s)
    (hs : subscripted slice false (.ref q) (.int i u) = operate [.ref q, .int i u] (getItem (.ref q) (.int i u)) := by with_unfolding_all rfl) :
    wpAny (model prog w) A (subscriptTail value slice (.ref q) (.int i u)) Q E s :=
  item_words F X hk h0 h1 (by omega) (fun t' => by have := h t'; unfold keyS at this; exact this) hs
end
end Mine.Internal
namespace Mine.Internal
theorem Bis.up' {p : Str} {lo hi mid : Int} {ws : List Str} (b : Bis p lo hi) (h1 : lo ≤ mid) (h2 : mid < hi) (h : (ws.getD mid.toNat Str.empty).cps.toList < p.cps.toList) (hw : ws = entK) : Bis p (mid + 1) hi :=
  b.up h1 h2 (by subst hw; unfold keyS; exact h)
theorem Bis.down' {p : Str} {lo hi mid : Int} {ws : List Str} (b : Bis p lo hi) (h1 : lo ≤ mid) (h2 : mid < hi) (h : ¬ (ws.getD mid.toNat Str.empty).cps.toList < p.cps.toList) (hw : ws = entK) : Bis p lo mid :=
  b.down h1 h2 (by subst hw; unfold keyS; exact h)
end Mine.Internal
namespace Mine.Internal
noncomputable def entT : List (Str × PyData) := [(Str.ofString "AMP", .str ⟨#[38]⟩), (Str.ofString "AMP;", .str ⟨#[38]⟩), (Str.ofString "Eacute", .str ⟨#[201]⟩), (Str.ofString "Eacute;", .str ⟨#[201]⟩), (Str.ofString "Mopf;", .str ⟨#[120132]⟩), (Str.ofString "ac;", .str ⟨#[8766]⟩), (Str.ofString "acE;", .str ⟨#[8766, 819]⟩), (Str.ofString "acute", .str ⟨#[180]⟩), (Str.ofString "acute;", .str ⟨#[180]⟩), (Str.ofString "amp", .str ⟨#[38]⟩), (Str.ofString "amp;", .str ⟨#[38]⟩), (Str.ofString "ang;", .str ⟨#[8736]⟩), (Str.ofString "angle;", .str ⟨#[8736]⟩), (Str.ofString "bne;", .str ⟨#[61, 8421]⟩), (Str.ofString "copy", .str ⟨#[169]⟩), (Str.ofString "copy;", .str ⟨#[169]⟩), (Str.ofString "eacute", .str ⟨#[233]⟩), (Str.ofString "eacute;", .str ⟨#[233]⟩), (Str.ofString "frac12", .str ⟨#[189]⟩), (Str.ofString "frac12;", .str ⟨#[189]⟩), (Str.ofString "gt", .str ⟨#[62]⟩), (Str.ofString "gt;", .str ⟨#[62]⟩), (Str.ofString "lt", .str ⟨#[60]⟩), (Str.ofString "lt;", .str ⟨#[60]⟩), (Str.ofString "nbsp", .str ⟨#[160]⟩), (Str.ofString "nbsp;", .str ⟨#[160]⟩), (Str.ofString "not", .str ⟨#[172]⟩), (Str.ofString "not;", .str ⟨#[172]⟩), (Str.ofString "notin;", .str ⟨#[8713]⟩), (Str.ofString "notni;", .str ⟨#[8716]⟩), (Str.ofString "para", .str ⟨#[182]⟩), (Str.ofString "para;", .str ⟨#[182]⟩), (Str.ofString "parallel;", .str ⟨#[8741]⟩), (Str.ofString "quot", .str ⟨#[34]⟩), (Str.ofString "quot;", .str ⟨#[34]⟩), (Str.ofString "sup1", .str ⟨#[185]⟩), (Str.ofString "sup1;", .str ⟨#[185]⟩), (Str.ofString "sup2", .str ⟨#[178]⟩), (Str.ofString "sup2;", .str ⟨#[178]⟩), (Str.ofString "sup;", .str ⟨#[8835]⟩), (Str.ofString "times", .str ⟨#[215]⟩), (Str.ofString "times;", .str ⟨#[215]⟩), (Str.ofString "timesb;", .str ⟨#[8864]⟩)]
theorem entT_nodup : (entT.map (·.1)).Nodup := by decide +kernel
noncomputable def entD : List (PyData × PyData) := entT.map fun p => (PyData.str p.1, p.2)
noncomputable def isEnt (p : Str) : Bool := (PySem.Spec.lookup (.str p) entD).isSome
section
variable {prog : Program} {w : World} {A : Around} {E : Value → Shared → Prop} {s : Shared} {K : Frag} {h₀ : Heap} {L q : Addr} {m : Str → Option Value} {u : Tok}
theorem ent_tab (F : Fr h₀ L s.heap m) (X : K.In h₀) (e : KTD.tabLook KTD.flatLooks (fun b => K.lookup b) q entT = true)
    (hh : KTD.hashesOf (fun b => K.lookup b) q = entT.map fun p => (PySem.strKind prog w).hash p.1) : StrTab prog w s.heap q entD :=
  (let ⟨lo, kvs, ⟨o, es, ep, ho, r⟩, hf⟩ := kt_tab_in prog w X e entT_nodup hh; ⟨lo, kvs, ⟨o, es, ep, F.keep _ _ ho, r⟩, hf⟩)
theorem in_ent {Q : Value → Shared → Prop} {x : Str} (F : Fr h₀ L s.heap m) (X : K.In h₀) (e : KTD.tabLook KTD.flatLooks (fun b => K.lookup b) q entT = true)
    (hh : KTD.hashesOf (fun b => K.lookup b) q = entT.map fun p => (PySem.strKind prog w).hash p.1) (h : Q (.bool (isEnt x)) { s with toks := s.toks + 1 }) :
    wpAny (model prog w) A (compareOp .In (.str x u) (.ref q)) Q E s := in_strTab (ent_tab F X e hh) h
end
end Mine.Internal
namespace Mine.Internal
theorem pre_le : ∀ p k : List Nat, p.isPrefixOf k = true → ¬ k < p
  | [], k, _ => List.not_lt_nil k
  | x :: p, [], h => by cases h
  | x :: p, y :: k, h => by
    rw [List.isPrefixOf, Bool.and_eq_true, beq_iff_eq] at h
    obtain ⟨rfl, h⟩ := h
    intro q
    rw [List.cons_lt_cons_iff] at q
    rcases q with q | ⟨_, q⟩
    · exact Nat.lt_irrefl _ q
    · exact pre_le p k h q
theorem sand : ∀ p a c : List Nat, ¬ a < p → (a = c ∨ a < c) → p.isPrefixOf c = true → p.isPrefixOf a = true
  | [], _, _, _, _, _ => rfl
  | x :: p, a, [], _, _, h => by cases h
  | x :: p, [], y :: c, h1, _, _ => absurd (List.nil_lt_cons ..) h1
  | x :: p, z :: a, y :: c, h1, h2, h => by
    rw [List.isPrefixOf, Bool.and_eq_true, beq_iff_eq] at h
    obtain ⟨rfl, h⟩ := h
    rw [List.cons_lt_cons_iff] at h1
    have hz : z = x ∧ (a = c ∨ a < c) := by
      rcases h2 with h2 | h2
      · injection h2 with e1 e2; exact ⟨e1, .inl e2⟩
      · rw [List.cons_lt_cons_iff] at h2
        rcases h2 with q | ⟨e, q⟩
        · exact absurd (.inl q) h1
        · exact ⟨e, .inr q⟩
    obtain ⟨rfl, hac⟩ := hz
    rw [List.isPrefixOf, sand p a c (fun q => h1 (.inr ⟨rfl, q⟩)) hac h]; simp
theorem key_mem (j : Nat) (h : j < 43) : keyS j ∈ entK := by
  unfold keyS
  rw [List.getD_eq_getElem?_getD, List.getElem?_eq_getElem (by exact h)]
  exact List.getElem_mem _
theorem mem_key {k : Str} (h : k ∈ entK) : ∃ j, j < 43 ∧ k = keyS j := by
  obtain ⟨j, hj, e⟩ := List.mem_iff_getElem.mp h
  refine ⟨j, hj, ?_⟩
  unfold keyS
  rw [List.getD_eq_getElem?_getD, List.getElem?_eq_getElem hj]; exact e.symm
theorem pre_at {p : Str} {k : Int} (b : Bis p k k) : hasPre p = (decide (k < 43) && p.cps.toList.isPrefixOf (keyAt k.toNat)) := by
  have h0 := b.lo0; have h1 := b.hi1
  by_cases hk : k < 43
  · rw [decide_eq_true hk, Bool.true_and]
    by_cases hp : p.cps.toList.isPrefixOf (keyAt k.toNat) = true
    · rw [hp]; exact List.any_eq_true.mpr ⟨_, key_mem k.toNat (by omega), hp⟩
    · rw [Bool.eq_false_iff.mpr hp]
      refine Bool.eq_false_iff.mpr fun q => hp ?_
      obtain ⟨x, hx, hq⟩ := List.any_eq_true.mp q
      obtain ⟨j, hj, rfl⟩ := mem_key hx
      have hj1 : ¬ (j : Int) < k := fun h => pre_le _ _ hq (b.less j h)
      refine sand _ _ _ (b.geq k.toNat (by omega) (by omega)) ?_ hq
      by_cases e : k.toNat = j
      · exact .inl (by rw [e])
      · exact .inr (key_mono _ (by omega) _ hj (by omega))
  · rw [decide_eq_false hk, Bool.false_and]
    refine Bool.eq_false_iff.mpr fun q => ?_
    obtain ⟨x, hx, hq⟩ := List.any_eq_true.mp q
    obtain ⟨j, hj, rfl⟩ := mem_key hx
    exact pre_le _ _ hq (b.less j (by omega))
theorem pre_self : ∀ p : List Nat, p.isPrefixOf p = true
  | [] => rfl
  | x :: p => by rw [List.isPrefixOf, pre_self p]; simp
theorem pre_ent {p : Str} (h : isEnt p = true) : hasPre p = true := by
  have : p ∈ entK := by
    unfold isEnt at h
    have hk : entT.map (·.1) = entK := by decide +kernel
    rw [← hk]
    by_cases q : p ∈ entT.map (·.1)
    · exact q
    · exfalso
      have : ∀ T : List (Str × PyData), p ∉ T.map (·.1) → PySem.Spec.lookup (.str p) (T.map fun p => (PyData.str p.1, p.2)) = none := by
        intro T
        induction T with
        | nil => intro _; rfl
        | cons t T ih =>
          intro hn
          simp only [List.map_cons, List.mem_cons, not_or] at hn ⊢
          rw [PySem.Spec.lookup]
          have hne : PySem.Spec.same (.str t.1) (.str p) = false := by
            simp [PySem.Spec.same, Ne.symm hn.1]
          simp [hne, ih hn.2]
      rw [show entD = entT.map fun p => (PyData.str p.1, p.2) from rfl, this _ q] at h
      cases h
  exact List.any_eq_true.mpr ⟨p, this, pre_self _⟩
end Mine.Internal
namespace Mine.Internal
theorem starts_pre (x y : Str) : Txt.startswith x y = y.cps.toList.isPrefixOf x.cps.toList := by
  by_cases h : 1 ≤ y.length
  · have q := hit_iff (x := x) h 0
    rw [List.drop_zero] at q; exact q
  · have e0 : y.cps = #[] := Array.eq_empty_of_size_eq_zero (by simp only [Str.length] at h; omega)
    have e : y = ⟨#[]⟩ := by cases y; cases e0; rfl
    subst e
    show (decide (0 + (⟨#[]⟩ : Str).length ≤ x.length) && Builtin.Str.subAt x ⟨#[]⟩ 0) = true
    have hl : (⟨#[]⟩ : Str).length = 0 := rfl
    rw [hl]
    unfold Builtin.Str.subAt
    rw [hl]
    simp
theorem starts_nil {x : Str} (h : Txt.startswith x (Str.ofString "") = false) : False := by
  rw [starts_pre, show (Str.ofString "").cps.toList = [] from by decide +kernel] at h
  cases h
theorem pre_end {p : Str} {k : Int} (b : Bis p k k) (h : k ≠ 43) : Value.bool (Txt.startswith (keyS k.toNat) p) = Value.bool (hasPre p) := by
  have h1 := b.hi1
  rw [pre_at b, decide_eq_true (by omega), Bool.true_and, starts_pre]
end Mine.Internal

end
section
set_option tactic.hygienic false
open PySem PySem.W PyProof.Rows PySem.Calls PySem.Spec PyProof.V
namespace Mine.Internal
section
variable {prog : Program} {w : World} {A : Around} {E : Value → Shared → Prop} {s : Shared} {h₀ : Heap} {L : Addr} {news : List (Addr × Obj)}
theorem KdO.eqW {fl fl' : Led} (N : News h₀ L s.heap news) (m1 : ∀ p ∈ fl, p ∈ news) (m2 : ∀ p ∈ fl', p ∈ news) (hu : A.units + 1 < cLine) {k : Kd} {v v' : Value} (h : KdO prog w fl k v) (h' : KdO prog w fl' k v') : EqW prog w A s v v' := by
  cases k with
  | tok ty x =>
    obtain ⟨a, o, rfl, m, l, t1, t2, d⟩ := h
    obtain ⟨a', o', rfl, m', l', u1, u2, d'⟩ := h'
    refine EqW.dicts l l' (Heap.dictOf_iff.mpr ⟨o, (N _ (m1 _ m)).1, d⟩) (Heap.dictOf_iff.mpr ⟨o', (N _ (m2 _ m')).1, d'⟩) rfl (by omega) fun i k v e => ?_
    match i with
    | 0 => cases e; exact ⟨_, by rfl, EqW.int⟩
    | 1 => cases e; exact ⟨_, by rfl, EqW.str⟩
    | i + 2 => cases e
  | num z =>
    obtain ⟨a, oa, b, ob, rfl, ma, mb, la, lb, f⟩ := h
    obtain ⟨a', oa', b', ob', rfl, ma', mb', la', lb', f'⟩ := h'
    exact FaultO.eqW N f f' (m1 _ ma) (m1 _ mb) (m2 _ ma') (m2 _ mb') la lb la' lb' hu
theorem QIs.eqW {fl fl' : Led} (N : News h₀ L s.heap news) (m1 : ∀ p ∈ fl, p ∈ news) (m2 : ∀ p ∈ fl', p ∈ news) (hu : A.units + 1 < cLine) {vs : List Value} {ks : List Kd} (q : QIs prog w fl vs ks) :
    ∀ {vs' : List Value}, QIs prog w fl' vs' ks → vs.length = vs'.length ∧ ∀ (j : Nat) (h1 : j < vs.length) (h2 : j < vs'.length), EqW prog w A s vs[j] vs'[j] := by
  induction q with
  | nil => intro vs' q'; cases q'; exact ⟨rfl, fun j h => absurd h (Nat.not_lt_zero _)⟩
  | cons k _ ih =>
    intro vs' q'
    cases q' with
    | cons k' q' =>
      obtain ⟨e, r⟩ := ih q'
      refine ⟨congrArg (· + 1) e, fun j h1 h2 => ?_⟩
      match j with
      | 0 => exact KdO.eqW N m1 m2 hu k k'
      | j + 1 => exact r j (Nat.lt_of_succ_lt_succ h1) (Nat.lt_of_succ_lt_succ h2)
theorem queues_ne {tq d : Addr} {vs vs' : List Value} {n n' : Nat} {ks : List Kd} {fl fl' : Led} {Q : Value → Shared → Prop} (N : News h₀ L s.heap news) (hq : (tq, W.listOf vs.toArray n) ∈ news) (hd : (d, W.listOf vs'.toArray n') ∈ news)
    (m1 : ∀ p ∈ fl, p ∈ news) (m2 : ∀ p ∈ fl', p ∈ news) (q : QIs prog w fl vs ks) (q' : QIs prog w fl' vs' ks) (hu : A.units + 9 < cLine) (h : Q (.bool false) s) : wpAny (model prog w) A (compareOp .NotEq (.ref tq) (.ref d)) Q E s := by
  obtain ⟨e, r⟩ := QIs.eqW (A := A.in1) N m1 m2 (by show A.units + 1 + 1 < cLine; omega) q q'
  refine ne_alike (News.isList N hq) (News.isList N hd) (by simpa using e) (by omega) (fun j h1 h2 => ?_) h
  simpa using r j (by simpa using h1) (by simpa using h2)
end
structure Ck where
  out : List Nat
  ks : List Kd
  rem : List Nat
noncomputable def blankN (c : Nat) : Bool := c == 9 || c == 10 || c == 12 || c == 32 || c == 13
noncomputable def stopC (al : Option Nat) : List Nat → Bool
  | [] => true
  | c :: _ => blankN c || c == 60 || c == 38 || al == some c
theorem stopC_c {al : Option Nat} {c : Nat} {r : List Nat} : stopC al (c :: r) = (blankN c || c == 60 || c == 38 || al == some c) := rfl
noncomputable def hexC : List Nat → Bool
  | c :: _ => c == 120 || c == 88
  | [] => false
noncomputable def numN : Str := Str.ofString "expected-numeric-entity"
noncomputable def namN : Str := Str.ofString "expected-named-entity"
noncomputable def numR (hex : Bool) (pre r : List Nat) : Ck :=
  if r.takeWhile (alD hex) = [] then ⟨pre, [.tok 7 numN], r⟩
  else ⟨[sgZ (numV (baseOf hex) (r.takeWhile (alD hex)) : Nat)],
    numKs (numV (baseOf hex) (r.takeWhile (alD hex)) : Nat) (semiB (r.dropWhile (alD hex))), afterNum (r.dropWhile (alD hex))⟩
noncomputable def ceR (al : Option Nat) (T : List Nat) : Ck :=
  if stopC al T = true then ⟨[38], [], T⟩
  else match T with
    | 35 :: r => if hexC r = true then numR true (38 :: 35 :: r.take 1) (r.drop 1) else numR false [38, 35] r
    | _ => ⟨[38], [.tok 7 namN], T⟩
theorem ce_stop {al : Option Nat} {T : List Nat} (h : stopC al T = true) : ceR al T = ⟨[38], [], T⟩ := if_pos h
theorem ce_name {al : Option Nat} {T : List Nat} {c : Nat} {r : List Nat} (h : stopC al T = false) (e : T = c :: r) (hc : c ≠ 35) : ceR al T = ⟨[38], [.tok 7 namN], T⟩ := by
  subst e
  refine (if_neg (by rw [h]; decide)).trans ?_
  delta ceR.match_1; exact dif_neg hc
theorem ceR_cases (al : Option Nat) (T : List Nat) (P : Ck → Prop) (h0 : P ⟨[38], [], T⟩) (hn : P ⟨[38], [.tok 7 namN], T⟩) (hx : ∀ r, T = 35 :: r → hexC r = true → P (numR true (38 :: 35 :: r.take 1) (r.drop 1)))
    (hd : ∀ r, T = 35 :: r → P (numR false [38, 35] r)) : P (ceR al T) := by
  by_cases h : stopC al T = true
  · rw [ce_stop h]; exact h0
  · cases T with
    | nil => exact absurd rfl h
    | cons c r =>
      by_cases hc : c = 35
      · subst hc
        rw [show ceR al (35 :: r) = if hexC r = true then numR true (38 :: 35 :: r.take 1) (r.drop 1) else numR false [38, 35] r from if_neg h]
        by_cases h' : hexC r = true
        · rw [if_pos h']; exact hx r rfl h'
        · rw [if_neg h']; exact hd r rfl
      · rw [ce_name (by simpa using h) rfl hc]; exact hn
theorem take_no {hex : Bool} {r : List Nat} (h : ∀ c t, r = c :: t → alD hex c = false) : r.takeWhile (alD hex) = [] := by
  cases r with
  | nil => rfl
  | cons c t => rw [List.takeWhile_cons, h c t rfl]; rfl
theorem ce_num0 {al : Option Nat} {T r : List Nat} (h : stopC al T = false) (e : T = 35 :: r) (hx : hexC r = false) (hd : ∀ c t, r = c :: t → alD false c = false) : ceR al T = ⟨[38, 35], [.tok 7 numN], r⟩ := by
  unfold ceR; rw [if_neg (by rw [h]; decide)]; subst e
  show (if hexC r = true then _ else _) = _
  rw [if_neg (by rw [hx]; decide)]
  exact if_pos (take_no hd)
theorem ce_num1 {al : Option Nat} {T r : List Nat} {x : Nat} (h : stopC al T = false) (e : T = 35 :: x :: r) (hx : hexC (x :: r) = true) (hd : ∀ c t, r = c :: t → alD true c = false) : ceR al T = ⟨[38, 35, x], [.tok 7 numN], r⟩ := by
  unfold ceR; rw [if_neg (by rw [h]; decide)]; subst e
  show (if hexC (x :: r) = true then _ else _) = _
  rw [if_pos hx]
  exact if_pos (take_no hd)
structure Figs (hex : Bool) (r ds r0 : List Nat) : Prop where
  cut : r = ds ++ r0
  all : ∀ d ∈ ds, alD hex d = true
  stop : ∀ c t, r0 = c :: t → alD hex c = false
  ne : ds ≠ []
set_option tactic.hygienic true
theorem take_all {p : Nat → Bool} : ∀ {l : List Nat}, ∀ d ∈ l.takeWhile p, p d = true
  | [], d, h => nomatch h
  | c :: l, d, h => by
    rw [List.takeWhile_cons] at h
    split at h
    · rename_i q
      rcases List.mem_cons.mp h with rfl | h
      · exact q
      · exact take_all d h
    · cases h
set_option tactic.hygienic false
theorem figs_of {hex : Bool} {r : List Nat} {c : Nat} {t : List Nat} (e : r = c :: t) (h : alD hex c = true) : Figs hex r (r.takeWhile (alD hex)) (r.dropWhile (alD hex)) := by
  refine ⟨List.takeWhile_append_dropWhile.symm, fun d hd => take_all d hd, fun c t e => ?_, ?_⟩
  · have := List.head?_dropWhile_not (alD hex) r
    rw [e] at this
    simpa using this
  · subst e; rw [List.takeWhile_cons, h]; simp
theorem ce_numD {al : Option Nat} {T r : List Nat} (h : stopC al T = false) (e : T = 35 :: r) (hx : hexC r = false) (f : r.takeWhile (alD false) ≠ []) {z : Int} (hz : ((numV (baseOf false) (r.takeWhile (alD false)) : Nat) : Int) = z) :
    ceR al T = ⟨[sgZ z], numKs z (semiB (r.dropWhile (alD false))), afterNum (r.dropWhile (alD false))⟩ := by
  subst hz
  unfold ceR; rw [if_neg (by rw [h]; decide)]; subst e
  show (if hexC r = true then _ else _) = _
  rw [if_neg (by rw [hx]; decide)]
  exact if_neg f
theorem ce_numH {al : Option Nat} {T r : List Nat} {x : Nat} (h : stopC al T = false) (e : T = 35 :: x :: r) (hx : hexC (x :: r) = true) (f : r.takeWhile (alD true) ≠ []) {z : Int} (hz : ((numV (baseOf true) (r.takeWhile (alD true)) : Nat) : Int) = z) :
    ceR al T = ⟨[sgZ z], numKs z (semiB (r.dropWhile (alD true))), afterNum (r.dropWhile (alD true))⟩ := by
  subst hz
  unfold ceR; rw [if_neg (by rw [h]; decide)]; subst e
  show (if hexC (x :: r) = true then _ else _) = _
  rw [if_pos hx]
  exact if_neg f
end Mine.Internal

end
section
set_option tactic.hygienic false
open PySem PySem.W PyProof.Rows PySem.Calls PySem.Spec
namespace Mine.Internal
noncomputable abbrev fms (l : List Env) : List Addr := l.filterMap (·.frame)
noncomputable def CEndS (fs : List Addr) (g : Heap) (lo : Led) (Post : CPost) (s₁ : Shared) (v : Value) (s' : Shared) : Prop :=
  ∃ g' L' m' fr l' h' tk', KtsTurn fs g g' ∧ s' = { s₁ with heap := h', toks := tk' } ∧ Fr g' L' h' m' ∧ News g' L' h' (fr ++ l') ∧ (∀ p ∈ fr, ∀ q ∈ lo, p.1 ≠ q.1) ∧ Post v fr l'
theorem cendS {fs : List Addr} {g g' : Heap} {lo : Led} {P : CPost} {s₁ : Shared} {v : Value} {L' : Addr} {m' : Str → Option Value} {fr l l' : Led} {h' : Heap} {tk' : Nat}
    (T : KtsTurn fs g g') (F : Fr g' L' h' m') (N : News g' L' h' l') (hs : ∀ p ∈ fr ++ l, p ∈ l') (hf : ∀ p ∈ fr, ∀ q ∈ lo, p.1 ≠ q.1) (hp : P v fr l) : CEndS fs g lo P s₁ v { s₁ with heap := h', toks := tk' } :=
  ⟨g', L', m', fr, l, h', tk', T, rfl, F, fun p hp => N p (hs p hp), hf, hp⟩
noncomputable def CtrS (prog : Program) (w : World) (K : Frag) (TP : Heap → Prop) (D U : Nat) (f : Value) (args : Args) (l : Led) (Post : CPost) : Prop :=
  ∀ (A A₀ : Around) (base h₀ : Heap) (env : Env) (outer : List Env) (L : Addr) (m : Str → Option Value) (s : Shared) (R : Result → Shared → Prop) (rest : Led),
    Below A₀ base outer h₀ → Fr h₀ L s.heap m → K.In h₀ → News h₀ L s.heap (l ++ rest) → TP h₀ → K.In base → TP base → KtsDicts (fms outer) h₀ →
    A.frames = some (env :: outer) → env.frame = some L → env.scope.kind = .function → A.handled = none → A.depth ≤ D → A.units ≤ U →
    (∀ p ∈ rest, ∀ q ∈ l, p.1 ≠ q.1) →
    (∀ v fr l' h' tk' h₀', Post v fr l' → s.toks ≤ tk' → (∀ p ∈ fr, ∀ r ∈ l ++ rest, @LT.lt Nat _ r.1 p.1) → KtsTurn (fms outer) h₀ h₀' → Fr h₀' L h' m → News h₀' L h' (fr ++ l' ++ rest) → Below A₀ base outer h₀' → K.In h₀' → TP h₀' → KtsDicts (fms outer) h₀' → R (.ok (.ret v)) { s with heap := h', toks := tk' }) →
    codeAny (model prog w) A (.call f args) R s
theorem below_turn {A₀ : Around} {base h₀ h₀' : Heap} {outer : List Env} (B : Below A₀ base outer h₀) (T : KtsTurn (fms outer) h₀ h₀') : Below A₀ base outer h₀' :=
  ⟨B.stack, fun b o e => T.other b o (B.stays b o e) (fun hm => by
    rw [(B.frames.mem hm).1] at e
    cases e), B.frames.of_keeps fun b o e _ => by
    obtain ⟨sl', hs'⟩ := T.up e
    exact ⟨_, hs', rfl⟩⟩
theorem fms_mem {env : Env} {outer : List Env} {L b : Addr} (hf : env.frame = some L) (h : b ∈ fms (env :: outer)) : b = L ∨ b ∈ fms outer := by
  obtain ⟨e, he, hb⟩ := List.mem_filterMap.mp h
  rcases List.mem_cons.mp he with rfl | he
  · rw [hf] at hb; exact .inl (Option.some.inj hb).symm
  · exact .inr (List.mem_filterMap.mpr ⟨e, he, hb⟩)
theorem ctrS_intro {prog : Program} {w : World} {K : Frag} {TP : Heap → Prop} {D U : Nat} {l : Led} {Post : CPost}
    {name qual : Str} {params : Arguments} {body : List Stmt} {scope : Scope} {dV kV doc pm cdv ct oc : Value} {an od : Option Addr} {osl : Array (Option Value)} {f : Addr} {pos : List Value} {kw : List (Str × Value)} {binds : List (Str × Value)}
    (hT : ∀ h h' : Heap, TP h → h.StaysIn h' → TP h') (hlim : ∀ h : Heap, TP h → h.NoLimit)
    (ho : K.lookup f = some ⟨oc, od, .func (fnOf name qual params body scope dV kV doc pm an cdv ct), osl⟩) (hcd : codeIn K cdv qual = true) (hD : D < recursionLimit)
    (hbind : ∀ s : Shared, K.In s.heap → BindsTo s (fnOf name qual params body scope dV kV doc pm an cdv ct) ⟨pos, kw⟩ binds) (hloc : ∀ y ∈ binds, scope.names.lookup y.1 = some .local)
    (h : ∀ (base g : Heap) (env : Env) (outer : List Env) (L' : Addr) (h₁ : Heap) (s : Shared) (tk : Nat),
      Below (topA D (U + 1) env outer) base (env :: outer) g → Fr g L' h₁ (fun y => binds.reverse.lookup y) → K.In base → TP base → KtsDicts (fms (env :: outer)) g → K.In g → News g L' h₁ l → TP g → (∀ p ∈ l, p.1 < L') →
      wpAny (model prog w) ((topA D (U + 1) env outer).deeper (envOf qual scope L' f cdv)) (execs body (envOf qual scope L' f cdv))
        (fun fl s' => CEndS (fms (env :: outer)) g l Post s (match fl with | .ret v => v | _ => .none) s') (fun _ _ => False) { s with heap := h₁, toks := tk })
    (hcell : ∀ x ∈ scope.names, x.2 ≠ .cell) (hco : scope.isCoroutine = false) (hgen : scope.isGenerator = false) (hk : scope.kind = .function) :
    CtrS prog w K TP D U (.ref f) ⟨pos, kw⟩ l Post := by
  intro A A₀ base h₀ env outer L m s R rest B F X N T XB TB D₀ hA hf hke hh hd hu hne hQ
  have Ns : News h₀ L s.heap l := fun p hp => N p (List.mem_append_left _ hp)
  refine code_weaken (A' := topA D U env outer) hh hd hA.symm rfl hu ?_
  have hA' : (topA D U env outer).frames = some (env :: outer) := rfl
  obtain ⟨FG, BG, st, lv⟩ := groundX (A := topA D U env outer) (R := fun _ _ => True) B F Ns hA' hf hke
  have X' : K.In s.heap := X.keeps F.keep
  obtain ⟨oL, es, ep, hL, hLd, hLk, hLf⟩ := FG.ns
  have DG : KtsDicts (fms (env :: outer)) (hideAll s.heap (l.map (·.1))) := fun b hb => by
    rcases fms_mem hf hb with rfl | hb
    · exact ⟨oL, es, ep, hL, hLd⟩
    · obtain ⟨o, es', n', ho', hd'⟩ := D₀ b hb
      exact ⟨o, es', n', st b o ho', hd'⟩
  have key : codeAny (model prog w) (topA D U env outer) (.call (.ref f) ⟨pos, kw⟩) (fun r s' => ∃ v, r = .ok (.ret v) ∧ CEndS (fms (env :: outer)) (hideAll s.heap (l.map (·.1))) l Post s v s') s := by
    refine codeAny_call_def (fd := fnOf name qual params body scope dV kV doc pm an cdv ct) (body := body) (binds := binds) hD (X' _ _ ho) rfl ((hlim _ T).keeps F.keep) (codeRec_of X' hcd) rfl (hbind s X') hcell hloc (fun h₁ hns hk₁ => ?_) hco hgen hk
    have key := h base (hideAll s.heap (l.map (·.1))) env outer s.heap.objs.size h₁ s (s.toks + binds.length) ⟨rfl, BG.stays, BG.frames⟩
      ⟨hns, fun b o e => hk₁ b o (of_hideAll _ e), Nat.le_of_eq (hideAll_size _ _)⟩ XB TB DG (X.keeps st)
      (fun p hp => ⟨hk₁ _ _ (Ns p hp).1, Nat.ne_of_lt (Heap.lt_size (Ns p hp).1), hideAll_none _ (List.mem_map_of_mem hp)⟩) (hT _ _ T st) (fun p hp => Heap.lt_size (Ns p hp).1)
    exact wpAny_mono (wp_weaken (A' := (topA D (U + 1) env outer).deeper (envOf qual scope s.heap.objs.size f cdv)) rfl (Nat.le_refl _) rfl rfl (by show U + 3 ≤ U + 1 + 3; omega) key) (fun fl s' hl => ⟨_, rfl, hl⟩) fun _ _ y => y.elim
  intro Γ p hc hΓ
  obtain ⟨r, s', hr, v, rfl, g', L', m', fr, l', h', tk', T', rfl, F', N', hfr, hp⟩ := key Γ p hc hΓ
  have hlat : Later s _ := runs_later hr
  refine ⟨_, _, hr, ?_⟩
  have nL₀ : h₀.get? L = none := kts_self F
  obtain ⟨sl, hs⟩ := T'.up hL
  obtain ⟨T₁, S₁⟩ := kts_turn_at (h := h') (fs := fms outer) (g := h₀)
    (fun b hb => by
      obtain ⟨_, o, ho', _⟩ := B.frames.mem hb
      exact ⟨o, ho'⟩)
    (fun b o e nmem => F'.keep b o (T'.other b o (st b o e) (fun q => by
      rcases fms_mem hf q with z | z
      · rw [z, nL₀] at e
        cases e
      · exact nmem z)))
    (fun b o e hm => by
      obtain ⟨sl', hs'⟩ := T'.up (st b o e)
      exact ⟨sl', F'.keep _ _ hs'⟩)
  have B₃ := below_turn B T₁
  refine hQ _ fr l' h' tk' _ hp hlat.toks ?_ T₁ ⟨⟨_, es, ep, F'.keep _ _ hs, hLd, hLk, hLf⟩, S₁, by rw [T₁.size]; exact F.above⟩ (fun p hp => ?_) B₃ (XB.keeps B₃.stays) (hT _ _ TB B₃.stays) (D₀.turn T₁)
  · refine fresh_gt hlat N (fun p hp o q => ?_) (fun p hp q => ?_) hfr
    · obtain ⟨sl', hs'⟩ := T'.up q
      have := (N' p (List.mem_append_left _ hp)).2.2; rw [hs'] at this; cases this
    · have := (N' p (List.mem_append_left _ hp)).1; rw [q] at this; cases this
  have hkeep : ∀ b o, (hideAll s.heap (l.map (·.1))).get? b = some o → b ∉ fms (env :: outer) → h'.get? b = some o := fun b o e q => F'.keep _ _ (T'.other b o e q)
  have hnone : ∀ b, g'.get? b = none → h₀.get? b = none := fun b e => by
    cases q : h₀.get? b with
    | none => rfl
    | some o =>
      obtain ⟨sl', hs'⟩ := T'.up (st _ _ q)
      rw [e] at hs'; cases hs'
  rcases List.mem_append.mp hp with hp | hp
  · refine ⟨(N' p hp).1, fun q => ?_, T₁.none_ _ (hnone _ (N' p hp).2.2)⟩
    have := (N' p hp).2.2; rw [q, hs] at this; cases this
  · have q := N p (List.mem_append_right _ hp)
    refine ⟨hkeep _ _ (hideAll_get _ q.1 fun hm => ?_) (fun hm => ?_), q.2.1, T₁.none_ _ q.2.2⟩
    · obtain ⟨z, hz, e⟩ := List.mem_map.mp hm
      exact hne p hp z hz e.symm
    · rcases fms_mem hf hm with z | z
      · exact q.2.1 z
      · obtain ⟨_, o, ho', _⟩ := B.frames.mem z
        rw [q.2.2] at ho'; cases ho'
end Mine.Internal
namespace Mine.Internal
theorem CtrS.call {prog : Program} {w : World} {K : Frag} {TP : Heap → Prop} {D U : Nat} {f : Value} {pos : List Value} {kw : List (Str × Value)} {l : Led} {Post : CPost} (C : CtrS prog w K TP D U f ⟨pos, kw⟩ l Post)
    {A A₀ : Around} {base h₀ : Heap} {env : Env} {outer : List Env} {L : Addr} {m : Str → Option Value} {s : Shared} {Q E : Value → Shared → Prop} {rest : Led}
    (B : Below A₀ base outer h₀) (F : Fr h₀ L s.heap m) (X : K.In h₀) (N : News h₀ L s.heap (l ++ rest)) (T : TP h₀) (XB : K.In base) (TB : TP base) (D₀ : KtsDicts (fms outer) h₀)
    (hA : A.frames = some (env :: outer)) (hf : env.frame = some L) (hke : env.scope.kind = .function) (hh : A.handled = none) (hd : A.depth ≤ D) (hu : A.units ≤ U) (hne : ∀ p ∈ rest, ∀ q ∈ l, p.1 ≠ q.1)
    (hQ : ∀ v fr l' h' tk' h₀', Post v fr l' → s.toks ≤ tk' → (∀ p ∈ fr, ∀ r ∈ l ++ rest, @LT.lt Nat _ r.1 p.1) → KtsTurn (fms outer) h₀ h₀' → Fr h₀' L h' m → News h₀' L h' (fr ++ l' ++ rest) → Below A₀ base outer h₀' → K.In h₀' → TP h₀' → KtsDicts (fms outer) h₀' → Q v { s with heap := h', toks := tk' }) :
    wpAny (model prog w) A (PySem.call f pos kw) Q E s :=
  wpAny_call (C A A₀ base h₀ env outer L m s _ rest B F X N T XB TB D₀ hA hf hke hh hd hu hne hQ)
end Mine.Internal

end
section
set_option tactic.hygienic false
open PySem PySem.W PyProof.Rows PySem.Calls PySem.Spec PyProof.V
namespace Mine.Internal
noncomputable abbrev Trees := List (Sem Value × Sem Value)
inductive Lits (M : Model) (A : Around) : Trees → List (Str × Int) → Prop
  | nil : Lits M A [] []
  | cons {k v : Sem Value} {x : Str} {i : Int} {ps : Trees} {ks : List (Str × Int)}
      (hk : ∀ (E : Value → Shared → Prop) (s : Shared) (Q : Value → Shared → Prop), (∀ t n, Q (.str x t) { s with toks := n }) → wpAny M A k Q E s)
      (hv : ∀ (E : Value → Shared → Prop) (s : Shared) (Q : Value → Shared → Prop), (∀ t n, Q (.int i t) { s with toks := n }) → wpAny M A v Q E s)
      (r : Lits M A ps ks) : Lits M A ((k, v) :: ps) ((x, i) :: ks)
inductive FigKV : List (Str × Value) → List (Str × Int) → Prop
  | nil : FigKV [] []
  | cons {x : Str} {i : Int} {t : Tok} {kvs : List (Str × Value)} {ks : List (Str × Int)} (r : FigKV kvs ks) : FigKV ((x, .int i t) :: kvs) ((x, i) :: ks)
theorem FigKV.keys {kvs : List (Str × Value)} {ks : List (Str × Int)} (h : FigKV kvs ks) : kvs.map (·.1) = ks.map (·.1) := by
  induction h with
  | nil => rfl
  | cons _ ih => rw [List.map_cons, List.map_cons, ih]
theorem FigKV.app {kvs kvs' : List (Str × Value)} {ks ks' : List (Str × Int)} (h : FigKV kvs ks) (h' : FigKV kvs' ks') : FigKV (kvs ++ kvs') (ks ++ ks') := by
  induction h with
  | nil => exact h'
  | cons _ ih => exact .cons ih
theorem Lits.len {M : Model} {A : Around} {ps : Trees} {ks : List (Str × Int)} (h : Lits M A ps ks) : ps.length = ks.length := by
  induction h with
  | nil => rfl
  | cons _ _ _ ih => rw [List.length_cons, List.length_cons, ih]
section
variable {prog : Program} {w : World} {A : Around} {E : Value → Shared → Prop} {d : Addr}
theorem stored_new {kvs : List (Str × Value)} {k : Str} {v : Value} (h : k ∉ kvs.map (·.1)) : stored kvs k v = kvs ++ [(k, v)] := by
  unfold stored
  rw [if_neg]
  rw [List.any_eq_true]
  rintro ⟨x, hx, e⟩
  exact h (List.mem_map.mpr ⟨x, hx, of_decide_eq_true e⟩)
theorem long_loop : ∀ (ps : Trees) (ks : List (Str × Int)) (acc : List (Str × Value)) (done : List (Str × Int)) (s : Shared) (Q : PUnit → Shared → Prop), Lits (model prog w) A ps ks → s.heap.DictOf (PySem.strKind prog w) d acc → FigKV acc done → ((done ++ ks).map (·.1)).Nodup →
    (∀ h' kvs n, FigKV kvs (done ++ ks) → h'.DictOf (PySem.strKind prog w) d kvs → Heap.SameBut d s.heap h' → Q PUnit.unit { s with heap := h', toks := n }) → done.length + ks.length ≤ 100 →
    wpAny (model prog w) A (forIn ps PUnit.unit fun (x : Sem Value × Sem Value) (_ : PUnit) => (do let kv ← x.1; let vv ← holding [kv] x.2; holding [kv, vv] (dictSet d kv vv); pure (ForInStep.yield PUnit.unit) : Sem (ForInStep PUnit))) Q E s
  := by
  intro ps ks acc done s Q hL
  induction hL generalizing acc done s Q with
  | nil =>
    intro hm hf _ hQ _
    rw [List.forIn_nil]
    exact wpAny_pure (by simpa using hQ s.heap acc s.toks (by simpa using hf) hm (Heap.SameBut.refl _ _))
  | @cons kk vv x i ps ks hk hv r ih =>
    intro hm hf hn hQ hsz
    rw [List.forIn_cons]
    have hnk : x ∉ acc.map (·.1) := by
      rw [hf.keys]
      intro hx
      rw [List.map_append, List.map_cons, List.nodup_append] at hn
      exact hn.2.2 x hx x (.head _) rfl
    have hal : acc.length = done.length := by have := congrArg List.length hf.keys; simpa using this
    refine wpAny_bind (wpAny_bind (hk _ _ _ fun t n => wpAny_bind (wpAny_holding (hv _ _ _ fun t2 n2 => wpAny_bind (wpAny_holding ?_)))))
    refine wpAny_dictSet_pairs (knd := PySem.strKind prog w) (kvs := acc) (k := x) (strKind_is _ _ _ _) hm (fun h' hm' hs' => ?_) (by rw [sizeLine_eq]; simp only [List.length_cons] at hsz; omega)
    rw [stored_new hnk] at hm'
    refine wpAny_pure (ih (acc ++ [(x, .int i t2)]) (done ++ [(x, i)]) _ _ hm' (hf.app (.cons .nil)) (by simpa using hn) (fun h2 kvs n3 a b c => ?_) (by simp only [List.length_append, List.length_cons, List.length_nil] at hsz ⊢; omega))
    have := hQ h2 kvs n3 (by simpa using a) b (hs'.trans c)
    exact this
theorem sub_long {ps : Trees} {ks : List (Str × Int)} {s : Shared} {Q : Addr → Shared → Prop} (hl : Lits (model prog w) A ps ks) (h15 : 15 < ps.length) (hn : (ks.map (·.1)).Nodup) (hsz : ks.length ≤ 100)
    (h : ∀ h' kvs n, FigKV kvs ks → h'.DictOf (PySem.strKind prog w) s.heap.objs.size kvs → Heap.SameBut s.heap.objs.size (s.heap.push { cls := .type "dict", data := .dict #[] }) h' → Q s.heap.objs.size { s with heap := h', toks := n }) :
    wpAny (model prog w) A (subDict ps) Q E s := by
  unfold subDict
  refine wpAny_bind (wpAny_alloc ?_)
  refine wpAny_bind (wpAny_holding ?_)
  rw [if_neg (by omega)]
  refine wpAny_bind (wpAny_rule (wpAny_bind ?_))
  refine long_loop (d := s.heap.objs.size) ps ks [] [] _ _ hl (Heap.DictOf.new (knd := PySem.strKind prog w) s.heap) .nil (by simpa using hn) (fun h' kvs n a b c => ?_) (by simpa using hsz)
  exact wpAny_pure (wpAny_pure (h h' kvs n (by simpa using a) b c))
theorem short_pairs : ∀ (ps : Trees) (ks : List (Str × Int)) (s : Shared) (Q : List (Value × Value) → Shared → Prop), Lits (model prog w) A ps ks →
    (∀ vs kvs n, FigKV kvs ks → Carries (PySem.strKind prog w) vs kvs → Q vs { s with toks := n }) → wpAny (model prog w) A (evalPairs ps) Q E s
  := by
  intro ps ks s Q hL
  induction hL generalizing s Q with
  | nil => exact fun hQ => evalPairs_nil (hQ [] [] s.toks .nil True.intro)
  | @cons kk vv x i ps ks hk hv r ih =>
    intro hQ
    refine evalPairs_cons (hk _ _ _ fun t n => hv _ _ _ fun t2 n2 => ?_)
    refine ih _ _ fun vs kvs n3 a b => ?_
    exact hQ _ ((x, .int i t2) :: kvs) n3 (.cons a) ⟨strKind_is _ _ _ _, rfl, b⟩
theorem put_new {kvs : List (Str × Value)} {k : Str} {key v : Value} {s : Shared} {Q : Unit → Shared → Prop} (hkey : (PySem.strKind prog w).is k key = true) (hm : s.heap.DictOf (PySem.strKind prog w) d kvs) (hnk : k ∉ kvs.map (·.1)) (hsz : kvs.length ≤ sizeLine)
    (hQ : ∀ h', h'.DictOf (PySem.strKind prog w) d (kvs ++ [(k, v)]) → Heap.SameBut d s.heap h' → Q () { s with heap := h' }) : wpAny (model prog w) A (dictPut d ((PySem.strKind prog w).hash k) key v) Q E s := by
  obtain ⟨o, es, ep, ho, hc, hd, hk, hp, hn⟩ := hm
  have hes : es.size ≤ sizeLine := by
    have e1 := hp.length
    have e2 : es.toList.length = es.size := by simp
    omega
  unfold dictPut
  refine wpAny_bind (wpAny_dictFind_of hkey ho hd hk ?_)
  have hidx : (es.findIdx? fun e => (PySem.strKind prog w).is k e.key) = kvs.findIdx? fun kv => decide (kv.1 = k) := by
    rw [← hp.findIdx k]; obtain ⟨l⟩ := es; simp
  have hi : (es.findIdx? fun e => (PySem.strKind prog w).is k e.key) = none := by
    rw [hidx, List.findIdx?_eq_none_iff]
    intro x hx
    exact decide_eq_false fun e => hnk (List.mem_map.mpr ⟨x, hx, e⟩)
  rw [hi]
  refine wpAny_updateDictKeys (hz := hes) ho hd (hQ _ ⟨_, _, ep + 1, Heap.get?_update_self _ ho (Obj.isFreed_of_dict (Obj.data_mapDictKeys hd _)), hc.mapDictKeys _, Obj.data_mapDictKeys hd _, hk.push hkey _, ?_, ?_⟩ (Heap.SameBut.update ..))
  · have := hp.append hkey ((PySem.strKind prog w).hash k) v
    obtain ⟨l⟩ := es
    simpa using this
  · rw [List.map_append, List.nodup_append]
    refine ⟨hn, by simp, ?_⟩
    intro a ha b hb
    simp only [List.map_cons, List.map_nil, List.mem_singleton] at hb
    subst hb
    exact fun e => hnk (e ▸ ha)
theorem range_turn {x i n : Nat} {rest : List Nat} (h : x :: rest = List.range' i (n - i)) : x = i ∧ i < n ∧ rest = List.range' (i + 1) (n - (i + 1)) := by
  cases e : n - i with
  | zero => rw [e] at h; cases h
  | succ m =>
    rw [e, List.range'_succ] at h
    have h2 := List.cons.inj h
    exact ⟨h2.1, Nat.lt_of_sub_pos (e ▸ Nat.succ_pos m), by rw [h2.2, ← Nat.sub_sub, e]; rfl⟩
theorem more_turn {kvs more : List (Str × Value)} {x : Nat} {k' : Str} {v : Value} (hkv : more[x]? = some (k', v)) (hn : ((kvs ++ more).map (·.1)).Nodup) (hsz : kvs.length + more.length ≤ sizeLine) :
    kvs ++ more.take (x + 1) = kvs ++ more.take x ++ [(k', v)] ∧ k' ∉ (kvs ++ more.take x).map (·.1) ∧ (kvs ++ more.take x).length ≤ sizeLine := by
  refine ⟨by rw [List.take_add_one, hkv, List.append_assoc]; rfl, ?_, ?_⟩
  · have h2 : ((kvs ++ more.take x) ++ (k', v) :: more.drop (x + 1)).map (·.1) = (kvs ++ more).map (·.1) := by
      rw [List.append_assoc]
      congr 2
      obtain ⟨h3, h4⟩ := List.getElem?_eq_some_iff.mp hkv
      rw [← h4, ← List.drop_eq_getElem_cons h3, List.take_append_drop]
    rw [← h2, List.map_append, List.map_cons, List.nodup_append] at hn
    intro hx
    exact hn.2.2 k' hx k' (.head _) rfl
  · rw [List.length_append, List.length_take]
    exact Nat.le_trans (Nat.add_le_add_left (Nat.min_le_right _ _) _) hsz
theorem entry_at {es : Array DictEntry} {kvs : List (Str × Value)} {x : Nat} (hp : Pairs (PySem.strKind prog w) es.toList kvs) (hk : KeysOf (PySem.strKind prog w) es) (hx : x < es.size) :
    ∃ k v, kvs[x]? = some (k, v) ∧ (PySem.strKind prog w).is k es[x].key = true ∧ es[x].hash = (PySem.strKind prog w).hash k ∧ es[x].val = v := by
  have hx2 : x < kvs.length := by rw [← hp.length]; simpa using hx
  have e2 : kvs[x]? = some (kvs[x].1, kvs[x].2) := by rw [List.getElem?_eq_getElem hx2]
  have hh := hp.get? (i := x) (e := es[x]) (by rw [Array.getElem?_toList, Array.getElem?_eq_getElem hx]) e2
  obtain ⟨k2, hk3, hh'⟩ := hk es[x] (Array.getElem_mem hx)
  obtain rfl := (PySem.strKind prog w).inj _ _ _ hk3 hh.1
  exact ⟨_, _, e2, hh.1, hh', hh.2⟩
theorem merge_sub {o : Addr} {kvs more : List (Str × Value)} {s : Shared} {Q : Unit → Shared → Prop} (hdo : d ≠ o) (hoS : (o == sysModules) = false) (h0 : kvs ≠ [])
    (hd : s.heap.DictOf (PySem.strKind prog w) d kvs) (ho : s.heap.DictOf (PySem.strKind prog w) o more) (hn : ((kvs ++ more).map (·.1)).Nodup) (hsz : kvs.length + more.length ≤ sizeLine)
    (hQ : ∀ h', h'.DictOf (PySem.strKind prog w) d (kvs ++ more) → Heap.SameBut d s.heap h' → Q () { s with heap := h' }) :
    wpAny (model prog w) A (mergeMapping d (.ref o) false) Q E s := by
  obtain ⟨od, esd, epd, hod, hcd, hdd, hkd, hpd, hnd⟩ := id hd
  obtain ⟨oo, eso, epo, hoo, hco, hdo', hko, hpo, hno⟩ := id ho
  have hlen : more.length = eso.size := by rw [← hpo.length, Array.length_toList]
  have hT : s.TypeIs (.ref o) "dict" := ho.typeIs
  have hne : ¬ esd.isEmpty = true := fun h => h0 (List.length_eq_zero_iff.mp (by rw [← hpd.length, Array.length_toList]; simpa using h))
  unfold mergeMapping
  refine wpAny_bind (wpAny_isInstance (T := "dict") hT PySem.F.sub_dict_dict ?_)
  refine wp_then rfl ?_
  refine wpAny_bind (wpAny_specialOf hT PySem.F.slot_dict_iter.lookup (wpAny_bind (wpAny_pure ?_)))
  rw [show ((some (Value.builtin "dict.__iter__") : Option Value) == some (Value.builtin "dict.__iter__")) = true from beq_self_eq_true _]
  refine wp_else (by rw [hoS]; exact Bool.false_ne_true) ?_
  refine wpAny_bind (wpAny_dictEntries hod hdd ?_)
  refine wp_else hne ?_
  refine wpAny_bind (wpAny_dictEntries hoo hdo' ?_)
  refine wpAny_bind (wpAny_dictEpoch hoo hdo' ?_)
  refine wpAny_bind ?_
  refine wpAny_forIn_list _ (fun rest _ s' => ∃ h' i, s' = { s with heap := h' } ∧ rest = List.range' i (eso.size - i) ∧ i ≤ eso.size ∧ h'.DictOf (PySem.strKind prog w) d (kvs ++ more.take i) ∧ h'.get? o = some oo ∧ Heap.SameBut d s.heap h')
    _ ?_ ?_ _ _ ⟨s.heap, 0, rfl, List.range_eq_range', Nat.zero_le _, by rw [List.take_zero, List.append_nil]; exact hd, hoo, Heap.SameBut.refl _ _⟩
  · intro x rest b s' hI
    refine Exists.elim hI fun h' hJ => Exists.elim hJ fun i hK => ?_
    clear hI hJ
    cases hK.1
    have hr := range_turn hK.2.1
    cases hr.1
    refine Exists.elim (entry_at hpo hko hr.2.1) fun k' hE => Exists.elim hE fun v hv => ?_
    clear hE
    have hm := more_turn hv.1 hn hsz
    refine wpAny_bind (wpAny_dictEntries hK.2.2.2.2.1 hdo' ?_)
    rw [Array.getElem?_eq_getElem hr.2.1]
    refine wpAny_bind (wpAny_holding (wp_else Bool.false_ne_true ?_))
    rw [hv.2.2.1, hv.2.2.2]
    refine put_new hv.2.1 hK.2.2.2.1 hm.2.1 hm.2.2 fun h2 hd2 hs2 => ?_
    have hoo2 : h2.get? o = some oo := (hs2.2 o (fun e => hdo e.symm)).trans hK.2.2.2.2.1
    refine wpAny_bind (wpAny_dictEpoch hoo2 hdo' ?_)
    refine wp_else (by simp) ?_
    exact wpAny_pure ⟨h2, x + 1, rfl, hr.2.2, hr.2.1, hm.1 ▸ hd2, hoo2, hK.2.2.2.2.2.trans hs2⟩
  · intro b s' hI
    refine Exists.elim hI fun h' hJ => Exists.elim hJ fun i hK => ?_
    clear hI hJ
    cases hK.1
    have h1 : more.length ≤ i := hlen ▸ Nat.le_of_sub_eq_zero ((List.length_range').symm.trans (congrArg List.length hK.2.1.symm))
    have hd' := hK.2.2.2.1
    rw [List.take_of_length_le h1] at hd'
    exact wpAny_pure (hQ h' hd' hK.2.2.2.2.2)
theorem gather_on (f : (Option (Sem Value) × Sem Value) → (Option Addr × Trees) → Sem (ForInStep (Option Addr × Trees))) (m0 : Option Addr)
    (hf : ∀ (p : Sem Value × Sem Value) (run : Trees), run.length + 1 < 17 → f (some p.1, p.2) (m0, run) = pure (.yield (m0, run ++ [p]))) :
    ∀ (items run : Trees) (tail : List (Option (Sem Value) × Sem Value)), run.length + items.length < 17 → forIn (items.map (fun p => (some p.1, p.2)) ++ tail) (m0, run) f = forIn tail (m0, run ++ items) f
  | [], run, tail, _ => by simp
  | p :: rest, run, tail, h => by
    rw [List.map_cons, List.cons_append, List.forIn_cons, hf p run (by simp at h; omega), pure_bind]
    have := gather_on f m0 hf rest (run ++ [p]) tail (by simp at h ⊢; omega)
    simpa using this
theorem long_display (a b : Trees) (p : Sem Value × Sem Value) (ha : a.length = 16) (hb0 : b ≠ []) (hb : b.length ≤ 15) :
    dictDisplay ((a ++ p :: b).map fun p => (some p.1, p.2)) = (do let d ← subDict (a ++ [p]); let sub ← holding [.ref d] (subDict b); (holding [.ref d, .ref sub] (mergeMapping d (.ref sub) false)).onRaise (fun x => do let _ ← holding [.ref d, x] (runValue (.builtin "proto.let_go" {}))); pure (.ref d)) := by
  unfold dictDisplay
  dsimp only
  rw [List.map_append, gather_on _ none (fun p run h => by
    have hne : ((run ++ [(p.1, p.2)]).length == 17) = false := by simp; omega
    simp only [hne, Bool.false_eq_true, if_false]) a [] _ (by simp [ha])]
  rw [List.map_cons, List.forIn_cons]
  have h17 : (([] ++ a ++ [(p.1, p.2)]).length == 17) = true := by simp [ha]
  have hne0 : ([] ++ a ++ [(p.1, p.2)]).isEmpty = false := by simp
  simp only [h17, if_true, hne0, Bool.false_eq_true, if_false, bind_assoc, pure_bind]
  rw [show ([] ++ a ++ [(p.1, p.2)]) = a ++ [p] from by simp]
  congr 1
  funext d
  rw [show List.map (fun p : Sem Value × Sem Value => (some p.1, p.2)) b = List.map (fun p => (some p.1, p.2)) b ++ [] from (List.append_nil _).symm]
  rw [gather_on _ (some d) (fun p run h => by
    have hne : ((run ++ [(p.1, p.2)]).length == 17) = false := by simp; omega
    simp only [hne, Bool.false_eq_true, if_false]) b [] [] (by simp; omega)]
  rw [List.forIn_nil, pure_bind]
  have hbe : b.isEmpty = false := by simpa using hb0
  simp only [List.nil_append, hbe, Bool.false_eq_true, if_false, bind_assoc, pure_bind]
theorem merged_nil_pairs {kvs : List (Str × Value)} (hn : (kvs.map (·.1)).Nodup) : merged [] kvs = kvs := merged_nil_of_nodup kvs hn
theorem disp_long {a b : Trees} {p : Sem Value × Sem Value} {ka kb : List (Str × Int)} {s : Shared} {Q : Value → Shared → Prop} (ha : a.length = 16) (hb0 : b ≠ []) (hb : b.length ≤ 15) (la : Lits (model prog w) A (a ++ [p]) ka) (lb : Lits (model prog w) A b kb)
    (hn : ((ka ++ kb).map (·.1)).Nodup) (hbig : sysModules < s.heap.objs.size)
    (h : ∀ h' o kvs n, FigKV kvs (ka ++ kb) → h'.get? s.heap.objs.size = some o → o.IsDictOf (PySem.strKind prog w) kvs → (∀ c x, s.heap.get? c = some x → h'.get? c = some x) → Q (.ref s.heap.objs.size) { s with heap := h', toks := n }) :
    wpAny (model prog w) A (dictDisplay ((a ++ p :: b).map fun p => (some p.1, p.2))) Q E s := by
  have hla := la.len
  have hlb := lb.len
  rw [List.length_append, ha, List.length_singleton] at hla
  have hna : (ka.map (·.1)).Nodup := by rw [List.map_append] at hn; exact (List.nodup_append.mp hn).1
  have hnb : (kb.map (·.1)).Nodup := by rw [List.map_append] at hn; exact (List.nodup_append.mp hn).2.1
  rw [long_display a b p ha hb0 hb]
  refine wpAny_bind (sub_long la (by rw [List.length_append, ha]; exact Nat.le_of_ble_eq_true rfl) hna (by omega) fun h1 kv1 n1 f1 d1 s1 => ?_)
  refine wpAny_bind (wpAny_holding ?_)
  have hd1 : s.heap.objs.size < h1.objs.size := by
    obtain ⟨o, es, ep, ho, _⟩ := d1
    exact Heap.lt_size ho
  refine wpAny_subDict (knd := PySem.strKind prog w) hb ?_
  refine short_pairs b kb _ _ lb fun vs kv2 n2 f2 c2 => ?_
  refine ⟨kv2, c2, Heap.DictOf.new (knd := PySem.strKind prog w) h1, fun h2 d2 s2 => ?_⟩
  have hk2 : (kv2.map (·.1)).Nodup := by rw [f2.keys]; exact hnb
  rw [merged_nil_pairs hk2] at d2
  dsimp only at d2 s2 ⊢
  have hne : s.heap.objs.size ≠ h1.objs.size := Nat.ne_of_lt hd1
  have d1' : h2.DictOf (PySem.strKind prog w) s.heap.objs.size kv1 := by
    obtain ⟨o, es, ep, ho, r⟩ := d1
    exact ⟨o, es, ep, (s2.2 _ hne).trans (Heap.get?_push_of_some _ ho), r⟩
  have hkv1 : kv1 ≠ [] := by
    intro e
    have := congrArg List.length f1.keys
    rw [e] at this
    simp at this
    omega
  have e1 : kv1.length = ka.length := by have := congrArg List.length f1.keys; simpa using this
  have e2 : kv2.length = kb.length := by have := congrArg List.length f2.keys; simpa using this
  refine wpAny_bind (wpAny_onRaise (wpAny_holding ?_))
  refine merge_sub hne (beq_eq_false_iff_ne.mpr (Nat.ne_of_gt (Nat.lt_trans hbig hd1))) hkv1 d1' d2 ?_ ?_ fun h3 d3 s3 => ?_
  · rw [List.map_append, f1.keys, f2.keys, ← List.map_append]; exact hn
  · rw [sizeLine_eq]; omega
  · obtain ⟨o, ho, hd⟩ := Heap.dictOf_iff.mp d3
    refine wpAny_pure (h h3 o _ _ (f1.app f2) ho hd fun c x hc => ?_)
    have hlt := Heap.lt_size hc
    have n1 : c ≠ s.heap.objs.size := Nat.ne_of_lt hlt
    have n2 : c ≠ h1.objs.size := Nat.ne_of_lt (Nat.lt_trans hlt hd1)
    have q1 : h1.get? c = some x := (s1.2 c n1).trans (Heap.get?_push_of_some _ hc)
    have q2 : h2.get? c = some x := (s2.2 c n2).trans (Heap.get?_push_of_some _ q1)
    exact (s3.2 c n1).trans q2
theorem Lits.take {M : Model} {A : Around} : ∀ (n : Nat) {ps : Trees} {ks : List (Str × Int)}, Lits M A ps ks → Lits M A (ps.take n) (ks.take n)
  | 0, _, _, _ => .nil
  | n + 1, _, _, .nil => .nil
  | n + 1, _, _, .cons hk hv r => .cons hk hv (Lits.take n r)
theorem Lits.drop {M : Model} {A : Around} : ∀ (n : Nat) {ps : Trees} {ks : List (Str × Int)}, Lits M A ps ks → Lits M A (ps.drop n) (ks.drop n)
  | 0, _, _, h => h
  | n + 1, _, _, .nil => .nil
  | n + 1, _, _, .cons _ _ r => Lits.drop n r
theorem lits_cons {x : Str} {i : Int} {k k' : Nat} {q q' pos : Pos} {ks : List (Option Expr)} {vs : List Expr} {env : Env} {figs : List (Str × Int)} (r : Lits (model prog w) A (pairTrees ks vs env pos) figs) :
    Lits (model prog w) A (pairTrees (some (.Constant (.str x) k q) :: ks) (.Constant (.int i) k' q' :: vs) env pos) ((x, i) :: figs) :=
  .cons (fun _ _ _ h => wpAny_Constant_str (h _ _)) (fun _ _ _ h => wpAny_bind (wpAny_Constant_int (wpAny_bind (wpAny_standAt (wpAny_pure (h _ _)))))) r
theorem eval_figs {keys : List (Option Expr)} {values : List Expr} {pos : Pos} {env : Env} {figs : List (Str × Int)} {h₀ : Heap} {L : Addr} {m : Str → Option Value} {news : List (Addr × Obj)} {s : Shared} {Q : Value → Shared → Prop} (F : Fr h₀ L s.heap m) (N : News h₀ L s.heap news) (hbig : h₀.NoLimit)
    (hall : keys.all (·.isSome) = true) (hl : keys.length = values.length) (hk : keys.length = figs.length) (hi : Lits (model prog w) A (pairTrees keys values env pos) figs) (h1 : 17 < figs.length) (h2 : figs.length ≤ 32) (hn : (figs.map (·.1)).Nodup)
    (h : ∀ (d : Addr) h' o kvs n, Fr h₀ L h' m → News h₀ L h' ((d, o) :: news) → (∀ p ∈ news, p.1 < d) → (d == sysModules) = false → FigKV kvs figs → o.IsDictOf (PySem.strKind prog w) kvs → Q (.ref d) { s with heap := h', toks := n }) :
    wpAny (model prog w) A (eval (.Dict keys values pos) env) Q E s := by
  have hlen : (pairTrees keys values env pos).length = figs.length := by rw [pairTrees_length keys values env pos hall hl, hk]
  rw [arm_eval_Dict, zip_pairTrees keys values env pos hall hl]
  refine wpAny_bind (wpAny_standAt ?_)
  have h16 : 16 < (pairTrees keys values env pos).length := by rw [hlen]; omega
  have e : pairTrees keys values env pos = (pairTrees keys values env pos).take 16 ++ (pairTrees keys values env pos)[16] :: (pairTrees keys values env pos).drop 17 := by
    rw [← List.drop_eq_getElem_cons h16, List.take_append_drop]
  have e17 : (pairTrees keys values env pos).take 16 ++ [(pairTrees keys values env pos)[16]] = (pairTrees keys values env pos).take 17 := by
    rw [List.take_append_getElem h16]
  have hlow := modules_low hbig
  rw [e]
  refine disp_long (ka := figs.take 17) (kb := figs.drop 17) (by rw [List.length_take]; omega) ?_ (by rw [List.length_drop, hlen]; omega) (e17 ▸ hi.take 17) (hi.drop 17) (by rw [List.take_append_drop]; exact hn) (Nat.lt_trans hlow (Nat.lt_of_le_of_lt F.above F.ns.lt)) fun h' o kvs n f1 ho hd hkeep => ?_
  · intro e0
    have := congrArg List.length e0
    rw [List.length_drop, hlen, List.length_nil] at this
    omega
  · rw [List.take_append_drop] at f1
    exact h _ h' o kvs n (F.keeps hkeep) (news_pushed F N hkeep ho rfl) (fun p hp => Heap.lt_size (N p hp).1) (F.notModules hlow) f1 hd
end
end Mine.Internal
namespace Mine.Internal
noncomputable def figL : List (Str × Int) := [("0", 0), ("1", 1), ("2", 2), ("3", 3), ("4", 4), ("5", 5), ("6", 6), ("7", 7), ("8", 8), ("9", 9), ("a", 10), ("b", 11), ("c", 12), ("d", 13), ("e", 14), ("f", 15), ("A", 10), ("B", 11), ("C", 12), ("D", 13), ("E", 14), ("F", 15)]
theorem figL_nodup : (figL.map (·.1)).Nodup := by decide +kernel
end Mine.Internal

end
section
set_option tactic.hygienic false
open PySem PySem.W PyProof.Rows PySem.Calls PySem.Spec PyProof.V
namespace Mine.Internal
noncomputable def AllowIs (av : Value) (al : Option Nat) : Prop := (av = .none ∧ al = none) ∨ (∃ (a : Nat) (t : Tok), av = .str ⟨#[a]⟩ t ∧ al = some a)
structure At where
  ct : Addr
  dl : Addr
  p2 : Addr
  co : Obj
  ps : List Value
  dn : Nat
  nm : Value
  pn : Nat
noncomputable def At.ord (B : At) (tq : Addr) : Prop := @LT.lt Nat _ tq B.ct ∧ @LT.lt Nat _ B.ct B.p2 ∧ @LT.lt Nat _ B.p2 B.dl
noncomputable abbrev Lz (w : World) (K : Ks) (Z : Kz) (m7 : Tok) (tq : Addr) (B : At) (qs : List Value) (qn : Nat) (val : Str) (vt : Tok) (T : Led) : Led :=
  (Z.za, instObj 762 Z.zd) :: (Z.zd, Z.kd w K.st m7 tq) :: (tq, W.listOf qs.toArray qn) :: (B.ct, B.co) :: (B.dl, W.listOf (B.ps ++ [Value.ref B.p2]).toArray B.dn) :: (B.p2, W.listOf [B.nm, Value.str val vt].toArray B.pn) :: T
noncomputable def spaceB (x : List Nat) : Bool := match x with | [c] => blankN c | _ => false
noncomputable def ceKs (R : Ck) (fa : Bool) : List Kd := if fa = true then R.ks else R.ks ++ [.tok (if spaceB R.out = true then 2 else 1) ⟨R.out.toArray⟩]
noncomputable def CeP (prog : Program) (w : World) (K : Ks) (Z : Kz) (m7 : Tok) (tq : Addr) (B : At) (qs : List Value) (val : Str) (R : Ck) (fa : Bool) : CPost := fun v fr l =>
  ∃ (y : St) (adds : List Value) (n : Nat) (val' : Str) (vt : Tok), v = .none ∧ y.ok K.src ∧ y.rem K.src = R.rem ∧ QIs prog w fr adds (ceKs R fa) ∧
    val'.cps.toList = (if fa = true then val.cps.toList ++ R.out else val.cps.toList) ∧ l = Lz w K Z m7 tq B (qs ++ adds) n val' vt (K.led w y)
structure Cs where
  y : St
  out : Str
  t : Tok
  u : Str → Option Value
  fl : Led
  adds : List Value
  n : Nat
noncomputable abbrev ceStored : List Str := ["charStack", "hex", "entityName", "entityLength"]
noncomputable def Cs.m (m₀ : Str → Option Value) (c : Cs) : Str → Option Value := fun z => if z = Str.ofString "output" then some (.str c.out c.t) else if ceStored.contains z then c.u z else m₀ z
structure Cs.ok (prog : Program) (w : World) (K : Ks) (B : At) (R : Ck) (c : Cs) : Prop where
  sok : c.y.ok K.src
  out : c.out.cps.toList = R.out
  rem : c.y.rem K.src = R.rem
  gt : ∀ p ∈ c.fl, @LT.lt Nat _ B.dl p.1
  qis : QIs prog w c.fl c.adds R.ks
section
variable {prog : Program} {w : World} {s : Shared} {g : Heap} {L : Addr} {K : Ks} {Z : Kz} {m7 : Tok} {tq : Addr} {B : At} {qs : List Value} {val : Str} {vt : Tok}
noncomputable abbrev Cs.led (w : World) (K : Ks) (Z : Kz) (m7 : Tok) (tq : Addr) (B : At) (qs : List Value) (val : Str) (vt : Tok) (c : Cs) : Led := Lz w K Z m7 tq B (qs ++ c.adds) c.n val vt (c.fl ++ K.led w c.y)
noncomputable def MeetXS {α : Type} (fs : List Addr) (g : Heap) (L : Addr) (m : α → Str → Option Value) (led : α → List (Addr × Obj)) (P : α → Prop) (s : Shared) (fl : Flow) (s' : Shared) : Prop :=
  ∃ (g' : Heap) (c : α) (h' : Heap) (k : Nat), KtsTurn fs g g' ∧ fl = .next ∧ P c ∧ s' = { s with heap := h', toks := k } ∧ Fr g' L h' (m c) ∧ News g' L h' (led c)
theorem ce_names {z : Str} (h : ceStored.contains z = false) : z ≠ Str.ofString "charStack" ∧ z ≠ Str.ofString "hex" ∧ z ≠ Str.ofString "entityName" ∧ z ≠ Str.ofString "entityLength" :=
  ⟨fun e => by (subst e; exact absurd h (by decide)), fun e => by (subst e; exact absurd h (by decide)), fun e => by (subst e; exact absurd h (by decide)), fun e => by (subst e; exact absurd h (by decide))⟩
theorem six_tail {e1 e2 e3 e4 e5 e6 : Addr × Obj} {T T' nl : Led} (h : ∀ p ∈ e1 :: e2 :: e3 :: e4 :: e5 :: e6 :: T, p ∈ nl) (h' : ∀ p ∈ T', p ∈ nl) : ∀ p ∈ e1 :: e2 :: e3 :: e4 :: e5 :: e6 :: T', p ∈ nl := by
  simp only [List.forall_mem_cons] at h ⊢
  exact ⟨h.1, h.2.1, h.2.2.1, h.2.2.2.1, h.2.2.2.2.1, h.2.2.2.2.2.1, h'⟩
theorem six_in {e1 e2 e3 e4 e5 e6 : Addr × Obj} {T nl : Led} (h : ∀ p ∈ e1 :: e2 :: e3 :: e4 :: e5 :: e6 :: T, p ∈ nl) : ∀ p ∈ T, p ∈ nl := fun p hp => h p (.tail _ (.tail _ (.tail _ (.tail _ (.tail _ (.tail _ hp))))))
theorem app_in {a b nl : Led} (h : ∀ p ∈ a, p ∈ nl) (h' : ∀ p ∈ b, p ∈ nl) : ∀ p ∈ a ++ b, p ∈ nl := fun p hp => (List.mem_append.mp hp).elim (h p) (h' p)
set_option tactic.hygienic true
theorem ce_meet {fs : List Addr} {g' : Heap} {m₀ m' : Str → Option Value} {h' : Heap} {k n : Nat} {nl rest fl : Led} {y : St} {out : Str} {t : Tok} {ql adds : List Value} {R R₀ : Ck} (hR : R₀ = R) (hT0 : KtsTurn fs g g')
    (F : Fr g' L h' m') (N : News g' L h' nl) (hm : m' (Str.ofString "output") = some (.str out t)) (hr : ∀ z, z ≠ Str.ofString "output" → ceStored.contains z = false → m' z = m₀ z)
    (hT : Take (Lz w K Z m7 tq B ql n val vt (K.led w y)) nl rest) (hql : ql = qs ++ adds) (hfl : ∀ p ∈ fl, p ∈ nl) (hgt : ∀ p ∈ fl, @LT.lt Nat _ B.dl p.1) (ok : y.ok K.src) (hout : out.cps.toList = R.out) (hrem : y.rem K.src = R.rem) (hks : QIs prog w fl adds R.ks) :
    MeetXS fs g L (Cs.m m₀) (Cs.led w K Z m7 tq B qs val vt) (Cs.ok prog w K B R₀) s .next { s with heap := h', toks := k } := by
  subst hql
  subst hR
  have em : m' = Cs.m m₀ (⟨y, out, t, m', fl, adds, n⟩ : Cs) := funext fun z => by
    unfold Cs.m
    split
    · rename_i e; rw [e, hm]
    · rename_i e
      split
      · rfl
      · rename_i e2; exact hr z e (by simpa using e2)
  refine ⟨g', (⟨y, out, t, m', fl, adds, n⟩ : Cs), h', k, hT0, rfl, ⟨ok, hout, hrem, hgt, hks⟩, rfl, em ▸ F, fun p hp => N p ?_⟩
  exact six_tail hT.sub (app_in hfl (six_in hT.sub)) p hp
set_option tactic.hygienic false
theorem Srt.eight {K : Ks} {Z : Kz} {tq : Addr} {B : At} (h : K.ord) (k : @LT.lt Nat _ Z.zd Z.za ∧ @LT.lt Nat _ Z.za K.sd ∧ @LT.lt Nat _ K.er tq) (b : B.ord tq) : Srt [B.dl, B.p2, B.ct, tq, K.er, K.sd, Z.za, Z.zd] :=
  (((Srt.five h k).grow b.1).grow b.2.1).grow b.2.2
end
theorem stop_abs {al : Option Nat} {T : List Nat} (h : stopC al T = false) (e : T = []) : False := by subst e; cases h
theorem stop_nil {al : Option Nat} {T : List Nat} (h : T = []) : true = stopC al T := by subst h; rfl
theorem stop_blank {al : Option Nat} {T r : List Nat} {c : Nat} (h : T = c :: r) (hb : blankN c = true) : true = stopC al T := by subst h; simp [stopC_c, hb]
theorem stop_lt {al : Option Nat} {T r : List Nat} {c : Nat} (h : T = c :: r) (hb : (c == 60 || c == 38) = true) : true = stopC al T := by
  subst h; rw [stopC_c]; simp only [Bool.or_eq_true] at hb; rcases hb with hb | hb <;> simp [hb]
theorem stop_al {T r : List Nat} {a c : Nat} (h : T = c :: r) (hb : ((⟨#[a]⟩ : Str) == ⟨#[c]⟩) = true) : true = stopC (some a) T := by
  subst h
  have e := eq_of_beq hb
  have : a = c := by injection e with e; simpa using e
  subst this; simp [stopC_c]
theorem stop_no {T r : List Nat} {c : Nat} (h : T = c :: r) (hb : blankN c = false) (hl : (c == 60 || c == 38) = false) : false = stopC none T := by
  subst h; simp only [Bool.or_eq_false_iff] at hl; simp [stopC_c, hb, hl.1, hl.2]
theorem stop_no' {T r : List Nat} {a c : Nat} (h : T = c :: r) (hb : blankN c = false) (hl : (c == 60 || c == 38) = false) (ha : ((⟨#[a]⟩ : Str) == ⟨#[c]⟩) = false) : false = stopC (some a) T := by
  subst h
  have e := ne_of_beq_false ha
  have : a ≠ c := fun h => e (by rw [h])
  simp only [Bool.or_eq_false_iff] at hl; simp [stopC_c, hb, hl.1, hl.2, this]
theorem blank_any (c : Nat) : ([⟨#[9]⟩, ⟨#[10]⟩, ⟨#[12]⟩, ⟨#[32]⟩, ⟨#[13]⟩] : List Str).any (· == ⟨#[c]⟩) = blankN c := by
  have := chr_any c [9, 10, 12, 32, 13]
  refine this.trans ?_
  unfold blankN
  by_cases h : c ∈ [9, 10, 12, 32, 13]
  · rw [decide_eq_true h]
    simp only [List.mem_cons, List.not_mem_nil, or_false] at h
    rcases h with h | h | h | h | h <;> subst h <;> rfl
  · rw [decide_eq_false h]
    simp only [List.mem_cons, List.not_mem_nil, or_false, not_or] at h
    simp [h]
end Mine.Internal
namespace Mine.Internal
section
variable {prog : Program} {w : World} {A : Around} {E : Value → Shared → Prop} {s : Shared} {h₀ : Heap} {L : Addr} {news : List (Addr × Obj)}
noncomputable def eltE (d : PyData) : Value → Bool
  | .str x _ => PyData.eqv (.str x) d
  | .none => PyData.eqv .none d
  | _ => false
theorem eltE_s {d : PyData} {x : Str} {t : Tok} : eltE d (.str x t) = PyData.eqv (.str x) d := rfl
theorem eltE_n {d : PyData} : eltE d .none = PyData.eqv .none d := rfl
theorem in_elt {q : Addr} {ta tb : Tok} {x : Value} {d : PyData} {Q : Value → Shared → Prop} (N : News h₀ L s.heap news) (hm : (q, tupO [.none, .str (Str.ofString "<") ta, .str (Str.ofString "&") tb]) ∈ news) (fx : Flat x d)
    (h : Q (.bool (PyData.eqv .none d || (PyData.eqv (.str (Str.ofString "<")) d || PyData.eqv (.str (Str.ofString "&")) d))) s) : wpAny (model prog w) A (compareOp .In x (.ref q)) Q E s := by
  refine SeqAt.in_tupleAt (items := #[.none, .str (Str.ofString "<") ta, .str (Str.ofString "&") tb]) (eltE d) ⟨_, (N _ hm).1, rfl, _, rfl⟩ (fun y hy => ?_) ?_
  · have hy : y ∈ [Value.none, .str (Str.ofString "<") ta, .str (Str.ofString "&") tb] := by simpa using hy
    simp only [List.mem_cons, List.not_mem_nil, or_false] at hy
    rcases hy with rfl | rfl | rfl
    · exact keq_flat Flat.none fx
    · exact keq_flat (Flat.str _ _) fx
    · exact keq_flat (Flat.str _ _) fx
  · have e : (#[Value.none, .str (Str.ofString "<") ta, .str (Str.ofString "&") tb]).any (eltE d) = (PyData.eqv .none d || (PyData.eqv (.str (Str.ofString "<")) d || PyData.eqv (.str (Str.ofString "&")) d)) := by
      simp [eltE_s, eltE_n]
    rw [e]; exact h
theorem in_elt_none {q : Addr} {ta tb : Tok} {Q : Value → Shared → Prop} (N : News h₀ L s.heap news) (hm : (q, tupO [.none, .str (Str.ofString "<") ta, .str (Str.ofString "&") tb]) ∈ news)
    (h : Q (.bool true) s) : wpAny (model prog w) A (compareOp .In .none (.ref q)) Q E s := in_elt N hm Flat.none (by simpa [PyData.eqv] using h)
theorem in_elt_chr {q : Addr} {ta tb u : Tok} {c : Nat} {Q : Value → Shared → Prop} (N : News h₀ L s.heap news) (hm : (q, tupO [.none, .str (Str.ofString "<") ta, .str (Str.ofString "&") tb]) ∈ news)
    (h : Q (.bool (c == 60 || c == 38)) s) : wpAny (model prog w) A (compareOp .In (.str ⟨#[c]⟩ u) (.ref q)) Q E s := by
  refine in_elt N hm (Flat.str _ _) ?_
  have e1 : Str.ofString "<" = ⟨#[60]⟩ := by decide +kernel
  have e2 : Str.ofString "&" = ⟨#[38]⟩ := by decide +kernel
  have e : (PyData.eqv .none (.str ⟨#[c]⟩) || (PyData.eqv (.str (Str.ofString "<")) (.str ⟨#[c]⟩) || PyData.eqv (.str (Str.ofString "&")) (.str ⟨#[c]⟩))) = (c == 60 || c == 38) := by
    rw [e1, e2]
    simp only [PyData.eqv, Bool.false_or]
    have q (d : Nat) : ((⟨#[d]⟩ : Str) == ⟨#[c]⟩) = (c == d) := by
      rw [chr_eq]; by_cases h : c = d <;> simp [h]
    rw [q, q]
  rw [e]; exact h
theorem item_negL {value slice : Expr} {a : Addr} {l : List Value} {k : Int} {u : Tok} {x : Value} {Q : Value → Shared → Prop} (hl : s.heap.IsList a l.toArray)
    (h0 : k < 0) (h1 : -(l.length : Int) ≤ k) (hfit : -(2 ^ 63) ≤ k) (hx : l[(k + l.length).toNat]? = some x) (h : Q x s)
    (hs : subscripted slice false (.ref a) (.int k u) = operate [.ref a, .int k u] (getItem (.ref a) (.int k u)) := by with_unfolding_all rfl) (hg : ∀ r, letTemporaryGo value (.ref a) r = pure () := by intro _; with_unfolding_all rfl) :
    wpAny (model prog w) A (subscriptTail value slice (.ref a) (.int k u)) Q E s :=
  subscriptTail_builtin hl.typeIs slot_list_getitem.lookup (wpAny_getItem_list_neg hl h0 (by simpa using h1) hfit (by simpa using hx) h) hs hg
noncomputable def xX (c : Nat) : Bool := c == 120 || c == 88
theorem xX_any (c : Nat) : ([Str.ofString "x", Str.ofString "X"] : List Str).any (· == ⟨#[c]⟩) = xX c := by
  have e1 : Str.ofString "x" = ⟨#[120]⟩ := by decide +kernel
  have e2 : Str.ofString "X" = ⟨#[88]⟩ := by decide +kernel
  have q (d : Nat) : ((⟨#[d]⟩ : Str) == ⟨#[c]⟩) = (c == d) := by
    rw [chr_eq]; by_cases h : c = d <;> simp [h]
  simp [e1, e2, q, xX]
theorem in_tupN_none {q : Addr} {items : List Value} {ys : List Str} {Q : Value → Shared → Prop} (N : News h₀ L s.heap news) (hm : (q, tupO items) ∈ news) (hi : StrsAre items ys)
    (h : Q (.bool false) s) : wpAny (model prog w) A (compareOp .In .none (.ref q)) Q E s := in_tuple_none ⟨_, (N _ hm).1, rfl, _, rfl⟩ hi h
end
end Mine.Internal
namespace Mine.Internal
theorem meetH_sub {g : Heap} {L : Addr} {m : Str → Option Value} {news : List (Addr × Obj)} {s : Shared} {e : Addr × Obj} {b0 b : Bool} {h' : Heap} {k : Nat} (F : Fr g L h' m) (N : News g L h' (e :: news)) (hb : b = b0) : MeetH g L m news b0 s b { s with heap := h', toks := k } :=
  meetH_end F (fun p hp => N p (.tail _ hp)) hb
end Mine.Internal
namespace Mine.Internal
noncomputable abbrev Kz.kdt (w : World) (Z : Kz) (st : Addr) (m7 : Tok) (ct tq : Addr) : Obj := dictOf (kdict w.params Z.m0 Z.m1 Z.m2 Z.m3 Z.m4 Z.m5 Z.m6 m7 st Z.v1 Z.v2 Z.v3 Z.v4 Z.v5 (.ref ct) tq) 8
theorem Kz.kd_at {w : World} {Z : Kz} {st : Addr} {m7 : Tok} {ct tq : Addr} (h : Z.v6 = .ref ct) : Z.kd w st m7 tq = Z.kdt w st m7 ct tq := by
  show dictOf (kdict w.params Z.m0 Z.m1 Z.m2 Z.m3 Z.m4 Z.m5 Z.m6 m7 st Z.v1 Z.v2 Z.v3 Z.v4 Z.v5 Z.v6 tq) 8 = _
  rw [h]
section
variable {prog : Program} {w : World} {A : Around} {E : Value → Shared → Prop} {s : Shared} {h₀ : Heap} {L : Addr} {news : List (Addr × Obj)}
end
end Mine.Internal
namespace Mine.Internal
theorem amp38 : (Str.ofString "&").cps.toList = [38] := by decide +kernel
theorem eq35 {c : Nat} (h : ((⟨#[c]⟩ : Str) == Str.ofString "#") = true) : c = 35 := by
  have h2 : (Str.ofString "#") = ⟨#[35]⟩ := by decide +kernel
  rw [h2, chr_eq] at h
  exact (of_decide_eq_true h).symm
theorem ne35 {c : Nat} (h : ((⟨#[c]⟩ : Str) == Str.ofString "#") = false) : c ≠ 35 := by
  have h2 : (Str.ofString "#") = ⟨#[35]⟩ := by decide +kernel
  rw [h2, chr_eq] at h
  exact fun e => of_decide_eq_false h e.symm
theorem out_app {ds : List Nat} : (Str.ofString "&" ++ (⟨ds.toArray⟩ : Str)).cps.toList = 38 :: ds := by
  rw [toList_app, amp38]; rfl
theorem at35 {T r : List Nat} {c : Nat} (e : T = c :: r) (h : ((⟨#[c]⟩ : Str) == Str.ofString "#") = true) : T = 35 :: r := by rw [e, eq35 h]
theorem al_nil {hex : Bool} {r : List Nat} (h : r = []) : ∀ c t, r = c :: t → alD hex c = false := fun c t e => by rw [h] at e; cases e
theorem al_no {hex : Bool} {r s : List Nat} {d : Nat} (h : r = d :: s) (q : alD hex d = false) : ∀ c t, r = c :: t → alD hex c = false := fun c t e => by rw [h] at e; cases e; exact q
theorem hexC_nil {r : List Nat} (h : r = []) : hexC r = false := by rw [h]; rfl
theorem hexC_at {r s : List Nat} {d : Nat} {b : Bool} (h : r = d :: s) (q : ([Str.ofString "x", Str.ofString "X"].any fun x => x == (⟨#[d]⟩ : Str)) = b) : hexC r = b := by rw [h]; exact (xX_any d).symm.trans q
end Mine.Internal
namespace Mine.Internal
theorem figs_len {hex : Bool} {T r ds r0 : List Nat} {k : Nat} (f : Figs hex r ds r0) (h : T.length ≤ k) (e : r.length ≤ T.length) : ds.length ≤ k := by
  have := congrArg List.length f.cut
  rw [List.length_append] at this
  omega
theorem len_one {T r : List Nat} {c : Nat} (e : T = c :: r) : r.length ≤ T.length := by rw [e]; exact Nat.le_succ _
theorem len_two {T r s : List Nat} {c d : Nat} (e : T = c :: r) (e2 : r = d :: s) : s.length ≤ T.length := by rw [e, e2]; simp only [List.length_cons]; omega
theorem same_cons {T r s : List Nat} {c : Nat} (e : T = c :: r) (e2 : s = c :: r) : s = T := by rw [e, e2]
end Mine.Internal
namespace Mine.Internal
theorem T35_2 {T r s : List Nat} {c d : Nat} (e : T = c :: r) (e2 : r = d :: s) (h : ((⟨#[c]⟩ : Str) == Str.ofString "#") = true) : T = 35 :: d :: s := by rw [at35 e h, e2]
theorem out_app35 {c : Nat} {ds : List Nat} (h : ((⟨#[c]⟩ : Str) == Str.ofString "#") = true) : (Str.ofString "&" ++ (⟨(c :: ds).toArray⟩ : Str)).cps.toList = 38 :: 35 :: ds := by rw [out_app, eq35 h]
end Mine.Internal
namespace Mine.Internal
theorem wp_meetCs {prog : Program} {w : World} {A A₀ : Around} {E : Value → Shared → Prop} {s : Shared} {base g : Heap} {outer : List Env} {Kf : Frag} {TP : Heap → Prop} {L : Addr} {K : Ks} {Z : Kz} {m7 : Tok} {tq : Addr} {B : At} {qs : List Value} {val : Str} {vt : Tok} {R : Ck} {t : Sem Flow} {Q : Flow → Shared → Prop} {m₁ : Str → Option Value} (m₀ : Str → Option Value) (hz6 : Z.v6 = .ref B.ct)
    (F0 : Fr g L s.heap m₁) (BX : Below A₀ base outer g) (XB : Kf.In base) (TB : TP base) (D : KtsDicts (fms outer) g) (hT : ∀ h h' : Heap, TP h → h.StaysIn h' → TP h')
    (hq : ∀ (g' : Heap) (y : St) (out : Str) (t : Tok) (u : Str → Option Value) (fl : Led) (adds : List Value) (n : Nat) (h' : Heap) (k : Nat), KtsTurn (fms outer) g g' → Below A₀ base outer g' → Kf.In g' → TP g' → KtsDicts (fms outer) g' → y.ok K.src → out.cps.toList = R.out → y.rem K.src = R.rem → (∀ p ∈ fl, @LT.lt Nat _ B.dl p.1) → QIs prog w fl adds R.ks →
      Fr g' L h' (fun z => if z = Str.ofString "output" then some (.str out t) else if ceStored.contains z then u z else m₀ z) →
      News g' L h' ((Z.za, instObj 762 Z.zd) :: (Z.zd, Z.kdt w K.st m7 B.ct tq) :: (tq, W.listOf (qs ++ adds).toArray n) :: (B.ct, B.co) :: (B.dl, W.listOf (B.ps ++ [Value.ref B.p2]).toArray B.dn) :: (B.p2, W.listOf [B.nm, Value.str val vt].toArray B.pn) :: (fl ++ K.led w y)) → Q .next { s with heap := h', toks := k })
    (hw : wpAny (model prog w) A t (MeetXS (fms outer) g L (Cs.m m₀) (Cs.led w K Z m7 tq B qs val vt) (Cs.ok prog w K B R) s) E s) : wpAny (model prog w) A t Q E s := by
  refine wpAny_mono hw (fun fl s' h => ?_) (fun _ _ e => e)
  obtain ⟨g', c, h', k, T', rfl, hp, rfl, F, N⟩ := h
  obtain ⟨y, out, t, u, fl, adds, n⟩ := c
  obtain ⟨h1, h2, h3, h4, h5⟩ := hp
  have B' := below_turn BX T'
  refine hq g' y out t u fl adds n h' k T' B' (XB.keeps B'.stays) (hT _ _ TB B'.stays) (D.turn T') h1 h2 h3 h4 h5 F ?_
  rw [← Kz.kd_at hz6]
  exact N
end Mine.Internal
namespace Mine.Internal
section
variable {prog : Program} {w : World} {K : Ks} {Z : Kz} {m7 : Tok} {tq : Addr} {B : At}
theorem lz_le {qs : List Value} {qn : Nat} {val : Str} {vt : Tok} {x : St} (ho : K.ord) (hk : @LT.lt Nat _ Z.zd Z.za ∧ @LT.lt Nat _ Z.za K.sd ∧ @LT.lt Nat _ K.er tq) (hb : B.ord tq) : ∀ q ∈ Lz w K Z m7 tq B qs qn val vt (K.led w x), @LE.le Nat _ q.1 B.dl := by
  obtain ⟨b1, b2, b3⟩ := hb
  have b4 := Nat.lt_trans b2 b3
  have ht : @LT.lt Nat _ tq B.dl := Nat.lt_trans b1 b4
  have low : ∀ q ∈ (Z.za, instObj 762 Z.zd) :: (Z.zd, instObj 762 Z.zd) :: (tq, instObj 762 Z.zd) :: K.led w x, @LE.le Nat _ q.1 B.dl := fun q h => Nat.le_of_lt (Nat.lt_of_le_of_lt (lo_le ho hk q h) ht)
  intro q hq
  simp only [Lz, List.mem_cons] at hq
  rcases hq with h | h | h | h | h | h | h
  · rw [h]; exact low _ (.head _)
  · rw [h]; exact low (Z.zd, instObj 762 Z.zd) (.tail _ (.head _))
  · rw [h]; exact Nat.le_of_lt ht
  · rw [h]; exact Nat.le_of_lt b4
  · rw [h]; exact Nat.le_refl _
  · rw [h]; exact Nat.le_of_lt b3
  · exact low q (.tail _ (.tail _ (.tail _ h)))
theorem ce_end {fs : List Addr} {g' : Heap} {qs ql adds : List Value} {qn n : Nat} {val val' : Str} {vt vt' : Tok} {x y : St} {R : Ck} {fa : Bool} {g h : Heap} {L : Addr} {m : Str → Option Value} {s : Shared} {nl rest fl : Led} {tk : Nat} (ho : K.ord) (hk : @LT.lt Nat _ Z.zd Z.za ∧ @LT.lt Nat _ Z.za K.sd ∧ @LT.lt Nat _ K.er tq) (hb : B.ord tq)
    (hT0 : KtsTurn fs g g') (F : Fr g' L h m) (N : News g' L h nl) (hT : Take (Lz w K Z m7 tq B ql n val' vt' (K.led w y)) nl rest) (hql : ql = qs ++ adds) (hfl : ∀ p ∈ fl, p ∈ nl) (hgt : ∀ p ∈ fl, @LT.lt Nat _ B.dl p.1) (ok : y.ok K.src) (hrem : y.rem K.src = R.rem) (hks : QIs prog w fl adds (ceKs R fa))
    (hv : val'.cps.toList = (if fa = true then val.cps.toList ++ R.out else val.cps.toList)) :
    CEndS fs g (Lz w K Z m7 tq B qs qn val vt (K.led w x)) (CeP prog w K Z m7 tq B qs val R fa) s .none { s with heap := h, toks := tk } := by
  subst hql
  refine cendS (fr := fl) hT0 F N ?_ (fun p hp r hr e => ?_) ⟨y, adds, n, val', vt', rfl, ok, hrem, hks, hv, rfl⟩
  · intro p hp
    rcases List.mem_append.mp hp with hp | hp
    · exact hfl p hp
    · exact hT.sub p hp
  · exact Nat.lt_irrefl _ (Nat.lt_of_le_of_lt (lz_le ho hk hb r hr) (e ▸ hgt p hp))
theorem tail_gt {x : St} {c a : Addr} {fl : Led} (h : ∀ p ∈ fl, @LT.lt Nat _ c p.1) (ha : @LE.le Nat _ a c) (k : K.ord) (hd : @LT.lt Nat _ a K.sd ∨ @LT.lt Nat _ K.er a) : ∀ q ∈ fl ++ K.led w x, q.1 ≠ a := fun q hq => by
  rcases List.mem_append.mp hq with hq | hq
  · exact Nat.ne_of_gt (Nat.lt_of_le_of_lt ha (h q hq))
  · exact Ks.ne_all k hd q hq
end
end Mine.Internal
namespace Mine.Internal
theorem val_app {val out : Str} {o : List Nat} {fa : Bool} (h : out.cps.toList = o) (hf : fa = true := by rfl) : (val ++ out).cps.toList = (if fa = true then val.cps.toList ++ o else val.cps.toList) := by
  rw [if_pos hf, toList_app, h]
end Mine.Internal
namespace Mine.Internal
section
variable {prog : Program} {w : World} {A : Around} {E : Value → Shared → Prop} {s : Shared}
theorem item_lastL {value slice : Expr} {a : Addr} {l : List Value} {v : Value} {k : Int} {u : Tok} {Q : Value → Shared → Prop} (hl : s.heap.IsList a (l ++ [v]).toArray) (hk : k = -1) (h : Q v s)
    (hs : subscripted slice false (.ref a) (.int k u) = operate [.ref a, .int k u] (getItem (.ref a) (.int k u)) := by with_unfolding_all rfl) (hg : ∀ r, letTemporaryGo value (.ref a) r = pure () := by intro _; with_unfolding_all rfl) :
    wpAny (model prog w) A (subscriptTail value slice (.ref a) (.int k u)) Q E s := by
  have e : (k + ((l ++ [v]).length : Int)).toNat = l.length := by
    rw [hk, List.length_append, List.length_singleton]; omega
  refine item_negL hl (by omega) (by rw [List.length_append, List.length_singleton]; omega) (by omega) ?_ h hs hg
  rw [e, List.getElem?_append_right (Nat.le_refl _), Nat.sub_self]
  rfl
end
end Mine.Internal
namespace Mine.Internal
theorem ce_out {al : Option Nat} {T : List Nat} : (ceR al T).out.length ≤ 3 := by
  have num : ∀ (hex : Bool) (pre r : List Nat), pre.length ≤ 3 → (numR hex pre r).out.length ≤ 3 := by
    intro hex pre r h
    unfold numR
    split
    · exact h
    · show 1 ≤ 3; decide
  refine ceR_cases al T (fun c => c.out.length ≤ 3) (by show 1 ≤ 3; decide) (by show 1 ≤ 3; decide) (fun r _ _ => num _ _ _ ?_) (fun r _ => num _ _ _ (by decide))
  simp only [List.length_cons, List.length_take]; omega
theorem out_fits {val out : Str} {al : Option Nat} {T : List Nat} (hv : val.length ≤ 100000) (h : out.cps.toList = (ceR al T).out) : val.length + out.length ≤ sizeLine := by
  have h1 := ce_out (al := al) (T := T)
  rw [← h, len_toList] at h1
  rw [sizeLine_eq]; omega
end Mine.Internal
namespace Mine.Internal
theorem not_of {b : Bool} (h : b = false) : (!b) = true := by rw [h]; rfl
end Mine.Internal
namespace Mine.Internal
theorem ce_ks {al : Option Nat} {T : List Nat} : (ceR al T).ks.length ≤ 2 := by
  have nk : ∀ z sb, (numKs z sb).length ≤ 2 := by
    intro z sb
    unfold numKs
    rw [List.length_append]
    split <;> split <;> simp
  have num : ∀ (hex : Bool) (pre r : List Nat), (numR hex pre r).ks.length ≤ 2 := by
    intro hex pre r
    unfold numR
    split
    · show 1 ≤ 2; decide
    · exact nk _ _
  exact ceR_cases al T (fun c => c.ks.length ≤ 2) (Nat.zero_le _) (by show 1 ≤ 2; decide) (fun r _ _ => num _ _ _) (fun r _ => num _ _ _)
theorem ce_len {prog : Program} {w : World} {fl : Led} {qs adds : List Value} {al : Option Nat} {T : List Nat} (hq : qs.length ≤ 100000) (h : QIs prog w fl adds (ceR al T).ks) : (qs ++ adds).length ≤ 100002 := by
  have h1 := ce_ks (al := al) (T := T)
  rw [List.length_append, h.len]; omega
end Mine.Internal
namespace Mine.Internal
section
variable {prog : Program} {w : World} {Kf : Frag} {TP : Heap → Prop} {K : Ks} {Z : Kz} {m7 : Tok} {tq : Addr} {Bt : At} {qs : List Value} {qn : Nat} {x : St} {val : Str} {vt : Tok} {R : Ck} {fa : Bool} {D U : Nat} {f : Value} {pos : List Value} {kw : List (Str × Value)}
theorem lz_ge {T : Led} (ho : K.ord) (hk : @LT.lt Nat _ Z.zd Z.za ∧ @LT.lt Nat _ Z.za K.sd ∧ @LT.lt Nat _ K.er tq) (hb : Bt.ord tq) : ∀ q ∈ Lz w K Z m7 tq Bt qs qn val vt (K.led w x), @LE.le Nat _ Z.zd q.1 := by
  obtain ⟨b1, b2, b3⟩ := hb
  obtain ⟨h1, h2, h3⟩ := hk
  have e := K.lo_hi ho
  have z1 : @LT.lt Nat _ Z.zd tq := Nat.lt_trans h1 (Nat.lt_trans h2 (Nat.lt_trans e h3))
  intro q hq
  simp only [Lz, List.mem_cons] at hq
  rcases hq with h | h | h | h | h | h | h
  · rw [h]; exact Nat.le_of_lt h1
  · rw [h]; exact Nat.le_refl _
  · rw [h]; exact Nat.le_of_lt z1
  · rw [h]; exact Nat.le_of_lt (Nat.lt_trans z1 b1)
  · rw [h]; exact Nat.le_of_lt (Nat.lt_trans z1 (Nat.lt_trans b1 (Nat.lt_trans b2 b3)))
  · rw [h]; exact Nat.le_of_lt (Nat.lt_trans z1 (Nat.lt_trans b1 b2))
  · exact Nat.le_trans (Nat.le_of_lt (Nat.lt_trans h1 h2)) (Ks.between ho q h).1
theorem lz_gap (ho : K.ord) (hk : @LT.lt Nat _ Z.zd Z.za ∧ @LT.lt Nat _ Z.za K.sd ∧ @LT.lt Nat _ K.er tq) (hb : Bt.ord tq) : ∀ q ∈ Lz w K Z m7 tq Bt qs qn val vt (K.led w x), @LE.le Nat _ q.1 Bt.ct ∨ @LE.le Nat _ Bt.p2 q.1 := by
  obtain ⟨b1, b2, b3⟩ := hb
  have low : ∀ q ∈ (Z.za, instObj 762 Z.zd) :: (Z.zd, instObj 762 Z.zd) :: (tq, instObj 762 Z.zd) :: K.led w x, @LE.le Nat _ q.1 Bt.ct := fun q h => Nat.le_of_lt (Nat.lt_of_le_of_lt (lo_le ho hk q h) b1)
  intro q hq
  simp only [Lz, List.mem_cons] at hq
  rcases hq with h | h | h | h | h | h | h
  · rw [h]; exact .inl (low _ (.head _))
  · rw [h]; exact .inl (low (Z.zd, instObj 762 Z.zd) (.tail _ (.head _)))
  · rw [h]; exact .inl (Nat.le_of_lt b1)
  · rw [h]; exact .inl (Nat.le_refl _)
  · rw [h]; exact .inr (Nat.le_of_lt b3)
  · rw [h]; exact .inr (Nat.le_refl _)
  · exact .inl (low q (.tail _ (.tail _ (.tail _ h))))
theorem CtrS.ce (C : CtrS prog w Kf TP D U f ⟨pos, kw⟩ (Lz w K Z m7 tq Bt qs qn val vt (K.led w x)) (CeP prog w K Z m7 tq Bt qs val R fa))
    {A A₀ : Around} {base h₀ : Heap} {env : Env} {outer : List Env} {L : Addr} {m : Str → Option Value} {s : Shared} {Q E : Value → Shared → Prop} {N rest : Led}
    (ho : K.ord) (hk : @LT.lt Nat _ Z.zd Z.za ∧ @LT.lt Nat _ Z.za K.sd ∧ @LT.lt Nat _ K.er tq) (hb : Bt.ord tq)
    (B : Below A₀ base outer h₀) (F : Fr h₀ L s.heap m) (X : Kf.In h₀) (T : TP h₀) (XB : Kf.In base) (TB : TP base) (D₀ : KtsDicts (fms outer) h₀)
    (hA : A.frames = some (env :: outer)) (hf : env.frame = some L) (hke : env.scope.kind = .function) (hh : A.handled = none) (hd : A.depth ≤ D) (hu : A.units ≤ U) (Nw : News h₀ L s.heap N)
    (tk : Take (Lz w K Z m7 tq Bt qs qn val vt (K.led w x)) N rest) (hne : ∀ p ∈ rest, @LT.lt Nat _ p.1 Z.zd ∨ @LT.lt Nat _ Bt.dl p.1 ∨ (@LT.lt Nat _ Bt.ct p.1 ∧ @LT.lt Nat _ p.1 Bt.p2))
    (hQ : ∀ (h₀' : Heap) (y : St) (fl : Led) (adds : List Value) (n : Nat) (val' : Str) (vt' : Tok) (h' : Heap) (tk' : Nat), KtsTurn (fms outer) h₀ h₀' → Below A₀ base outer h₀' → Kf.In h₀' → TP h₀' → KtsDicts (fms outer) h₀' → y.ok K.src → y.rem K.src = R.rem → (∀ p ∈ fl, ∀ r ∈ N, @LT.lt Nat _ r.1 p.1) → QIs prog w fl adds (ceKs R fa) → val'.cps.toList = (if fa = true then val.cps.toList ++ R.out else val.cps.toList) →
      @LE.le Nat _ s.toks tk' → Fr h₀' L h' m → News h₀' L h' (Lz w K Z m7 tq Bt (qs ++ adds) n val' vt' (rest ++ (fl ++ K.led w y))) → Q .none { s with heap := h', toks := tk' }) :
    wpAny (model prog w) A (PySem.call f pos kw) Q E s := by
  refine CtrS.call C B F X (tk.news Nw) T XB TB D₀ hA hf hke hh hd hu (fun p hp q hq e => ?_) ?_
  · rcases hne p hp with h | h | ⟨h, h'⟩
    · exact Nat.lt_irrefl _ (Nat.lt_of_lt_of_le (e ▸ h) (lz_ge (T := []) ho hk hb q hq))
    · exact Nat.lt_irrefl _ (Nat.lt_of_lt_of_le (e ▸ h) (lz_le ho hk hb q hq))
    · rcases lz_gap ho hk hb q hq with h2 | h2
      · exact Nat.lt_irrefl _ (Nat.lt_of_lt_of_le (e ▸ h) h2)
      · exact Nat.lt_irrefl _ (Nat.lt_of_lt_of_le (e ▸ h') h2)
  · intro v fr l' h' tk' h₀' hp ht hfr T' F' N' B' X' P' D'
    obtain ⟨y, adds, n, val', vt', rfl, ok, hrem, hks, hval, rfl⟩ := hp
    refine hQ h₀' y fr adds n val' vt' h' tk' T' B' X' P' D' ok hrem (fun p hp r hr => hfr p hp r (tk.sup r hr)) hks hval ht F' (fun p hp => N' p ?_)
    have q1 : ∀ p ∈ fr, p ∈ fr ++ Lz w K Z m7 tq Bt (qs ++ adds) n val' vt' (K.led w y) ++ rest := fun p hp => List.mem_append_left _ (List.mem_append_left _ hp)
    have q2 : ∀ p ∈ Lz w K Z m7 tq Bt (qs ++ adds) n val' vt' (K.led w y), p ∈ fr ++ Lz w K Z m7 tq Bt (qs ++ adds) n val' vt' (K.led w y) ++ rest := fun p hp => List.mem_append_left _ (List.mem_append_right _ hp)
    exact six_tail q2 (app_in (fun p hp => List.mem_append_right _ hp) (app_in q1 (six_in q2))) p hp
end
end Mine.Internal
namespace Mine.Internal
theorem fr_back {g g' h : Heap} {L : Addr} {m : Str → Option Value} (T : KtsTurn [] g g') (F : Fr g' L h m) : Fr g L h m :=
  ⟨F.ns, fun b o e => F.keep b o (T.other b o e (fun h => nomatch h)), by rw [← T.size]; exact F.above⟩
theorem news_back {g g' h : Heap} {L : Addr} {l : Led} (T : KtsTurn [] g g') (N : News g' L h l) : News g L h l := fun p hp =>
  ⟨(N p hp).1, (N p hp).2.1, by
    cases q : g.get? p.1 with
    | none => rfl
    | some o =>
      have := T.other _ _ q (fun h => nomatch h)
      rw [(N p hp).2.2] at this; cases this⟩
section
variable {prog : Program} {w : World} {Kf : Frag} {TP : Heap → Prop} {K : Ks} {Z : Kz} {m7 : Tok} {tq : Addr} {Bt : At} {qs : List Value} {qn : Nat} {x : St} {val : Str} {vt : Tok} {R : Ck} {fa : Bool} {D U : Nat} {f : Value} {pos : List Value} {kw : List (Str × Value)}
end
end Mine.Internal

end
section
set_option tactic.hygienic false
open PySem PySem.W PyProof.Rows PySem.Calls PySem.Spec PyProof.V
namespace Mine.Internal
noncomputable def figP (p : Str × Int) : PyData × PyData := (PyData.str p.1, PyData.int p.2)
noncomputable def figD : List (PyData × PyData) := figL.map figP
theorem fig_flat {kvs : List (Str × Value)} {ks : List (Str × Int)} (h : FigKV kvs ks) : FlatPairs PyData.str kvs (ks.map figP) := by
  induction h with
  | nil => exact .nil
  | cons _ ih => exact .cons (Flat.int _ _) ih
noncomputable def figI (x : Str) : Int := match PySem.Spec.lookup (.str x) figD with
  | some (.int i) => i
  | _ => 99
theorem look_ints (x : Str) : ∀ L : List (Str × Int), PySem.Spec.lookup (.str x) (L.map figP) = (L.find? fun p => decide (p.1 = x)).map fun p => PyData.int p.2
  | [] => rfl
  | p :: r => by
    have ih := look_ints x r
    rw [List.map_cons, List.find?_cons]
    show (if PySem.Spec.same (.str p.1) (.str x) = true then some (PyData.int p.2) else PySem.Spec.lookup (.str x) (r.map figP)) = _
    rw [same_str]
    by_cases h : p.1 = x
    · simp [h]
    · simp only [h, decide_false, Bool.false_eq_true, if_false]
      exact ih
theorem fig_look (x : Str) : (PySem.Spec.lookup (.str x) figD).getD (.int 99) = .int (figI x) := by
  unfold figI figD
  rw [look_ints]
  cases (figL.find? fun p => decide (p.1 = x)) <;> rfl
theorem fig_none {x : Str} (h : x ∉ figL.map (·.1)) : figI x = 99 := by
  unfold figI figD
  rw [look_ints, List.find?_eq_none.mpr (fun p hp e => h (List.mem_map.mpr ⟨p, hp, of_decide_eq_true e⟩))]; rfl
theorem fig_keys : ∀ k ∈ figL.map (·.1), ∃ c : Nat, c < 128 ∧ k = ⟨#[c]⟩ := by
  have : ∀ k ∈ figL.map (·.1), (k.cps.toList.headD 200 < 128 ∧ k.cps.toList.length = 1) := by decide +kernel
  intro k hk
  obtain ⟨h1, h2⟩ := this k hk
  obtain ⟨⟨l⟩⟩ := k
  match l, h2 with
  | [c], _ => exact ⟨c, h1, rfl⟩
theorem fig_empty : figI ⟨#[]⟩ = 99 := fig_none fun h => by
  obtain ⟨c, _, e⟩ := fig_keys _ h
  injection e with e
  have := congrArg Array.size e
  simp at this
noncomputable def figOk (hex : Bool) (c : Nat) : Bool := (decide (figI ⟨#[c]⟩ < (baseOf hex : Nat)) == alD hex c) && (!alD hex c || figI ⟨#[c]⟩ == (figV c : Int))
theorem fig_small : ∀ c : Nat, c < 128 → figOk true c = true ∧ figOk false c = true := by decide +kernel
theorem fig_ok (hex : Bool) (c : Nat) : figOk hex c = true := by
  by_cases h : c < 128
  · cases hex
    · exact (fig_small c h).2
    · exact (fig_small c h).1
  · have e : figI ⟨#[c]⟩ = 99 := fig_none fun hm => by
      obtain ⟨d, hd, e⟩ := fig_keys _ hm
      injection e with e
      have : c = d := by simpa using e
      omega
    have ea := alD_far hex (Nat.le_of_not_lt h)
    unfold figOk
    rw [e, ea]
    cases hex <;> rfl
theorem fig_lt {hex : Bool} {c : Nat} : figI ⟨#[c]⟩ < (baseOf hex : Nat) ↔ alD hex c = true := by
  have h := fig_ok hex c
  unfold figOk at h
  rw [Bool.and_eq_true, beq_iff_eq] at h
  rw [← h.1, decide_eq_true_iff]
theorem fig_val {hex : Bool} {c : Nat} (h : alD hex c = true) : figI ⟨#[c]⟩ = (figV c : Int) := by
  have q := fig_ok hex c
  unfold figOk at q
  rw [Bool.and_eq_true] at q
  simpa [h] using q.2
theorem fig_no (hex : Bool) : ¬ figI ⟨#[]⟩ < (baseOf hex : Nat) := by rw [fig_empty]; cases hex <;> decide
section
variable {prog : Program} {w : World} {A : Around} {E : Value → Shared → Prop} {s : Shared} {h₀ : Heap} {L : Addr} {m : Str → Option Value} {news : List (Addr × Obj)} {d : Addr} {o : Obj} {kvs : List (Str × Value)}
theorem fig_tab (N : News h₀ L s.heap news) (hm : (d, o) ∈ news) (lo : (d == sysModules) = false) (hf : FigKV kvs figL) (hd : o.IsDictOf (PySem.strKind prog w) kvs) : TabAt (PySem.strKind prog w) PyData.str s.heap d figD :=
  TabAt.ofNews N hm lo hd (fig_flat hf)
theorem fig_get {x : Str} {t tz : Tok} {Q : Value → Shared → Prop} (N : News h₀ L s.heap news) (hm : (d, o) ∈ news) (lo : (d == sysModules) = false) (hf : FigKV kvs figL) (hd : o.IsDictOf (PySem.strKind prog w) kvs)
    (h : ∀ t', Q (.int (figI x) t') { s with toks := s.toks + 1 }) : wpAny (model prog w) A (call (.builtin "dict.get") [.ref d, .str x t, .int 99 tz]) Q E s := by
  refine call_get2_tab (knd := PySem.strKind prog w) (enc := PyData.str) (k := x) same_str (strKind_is _ _ _ _) (fig_tab N hm lo hf hd) (Flat.int 99 tz) fun v hv => ?_
  rw [fig_look] at hv
  obtain ⟨t', rfl⟩ := Flat.int_inv hv
  exact h t'
theorem fig_item {value slice : Expr} {c : Nat} {t : Tok} {hex : Bool} {Q : Value → Shared → Prop} (N : News h₀ L s.heap news) (hm : (d, o) ∈ news) (lo : (d == sysModules) = false) (hf : FigKV kvs figL) (hd : o.IsDictOf (PySem.strKind prog w) kvs) (hc : alD hex c = true)
    (h : ∀ t', Q (.int (figV c : Nat) t') { s with toks := s.toks + 1 })
    (hs : subscripted slice false (.ref d) (.str ⟨#[c]⟩ t) = operate [.ref d, .str ⟨#[c]⟩ t] (getItem (.ref d) (.str ⟨#[c]⟩ t)) := by with_unfolding_all rfl) :
    wpAny (model prog w) A (subscriptTail value slice (.ref d) (.str ⟨#[c]⟩ t)) Q E s := by
  have T := fig_tab (prog := prog) (w := w) N hm lo hf hd
  have hl : PySem.Spec.lookup (.str ⟨#[c]⟩) figD = some (.int (figV c : Nat)) := by
    have e := fig_look ⟨#[c]⟩
    rw [fig_val hc] at e
    cases q : PySem.Spec.lookup (.str ⟨#[c]⟩) figD with
    | none =>
      rw [q] at e
      have e2 : (99 : Int) = (figV c : Nat) := by injection e
      have h1 := (fig_lt (hex := hex) (c := c)).mpr hc
      rw [fig_val hc, ← e2] at h1
      cases hex <;> exact absurd h1 (by decide)
    | some v => rw [q] at e; exact congrArg some e
  refine tail_any (Heap.DictOf.typeIs (knd := PySem.strKind prog w) (Heap.dictOf_iff.mpr ⟨o, (N _ hm).1, hd⟩)) slot_dict_getitem.lookup (getItem_tab (knd := PySem.strKind prog w) (enc := PyData.str) (k := ⟨#[c]⟩) same_str (strKind_is _ _ _ _) T hl fun v hv => ?_) hs
  obtain ⟨t', rfl⟩ := Flat.int_inv hv
  exact h t'
end
end Mine.Internal
namespace Mine.Internal
theorem sliceN (x : Str) (j : Nat) : Txt.slice x none (some (j : Int)) = ⟨(x.cps.toList.take j).toArray⟩ := by
  rw [slice_gen]
  have e1 : sliceLo x.length none = 0 := rfl
  have e2 : sliceHi x.length (some (j : Int)) - 0 = min j x.length := clip_nat x.length j
  rw [e1, e2, List.drop_zero]
  congr 2
  rw [← len_toList, ← List.take_take, List.take_length]
theorem slice1 (x : Str) : Txt.slice x none (some 1) = ⟨(x.cps.toList.take 1).toArray⟩ := sliceN x 1
theorem drop_take1 {T : Str} {i j : Int} (h0 : 0 ≤ i) (hj : j = i + 1) : Txt.slice T (some i) (some j) = ⟨((T.cps.toList.drop i.toNat).take 1).toArray⟩ := by
  subst hj
  rw [slice_ss h0 (Int.le_of_lt (Int.lt_succ i)), Int.add_comm, Int.add_sub_cancel]
  rfl
section
variable {prog : Program} {w : World} {A : Around} {E : Value → Shared → Prop} {s : Shared} {h₀ : Heap} {L : Addr} {news : List (Addr × Obj)}
theorem in_elts {q : Addr} {items : List Value} {x : Str} {t : Tok} {b : Bool} {Q : Value → Shared → Prop} (N : News h₀ L s.heap news) (hm : (q, tupO items) ∈ news) (hi : ∀ y ∈ items, y = .none ∨ ∃ z u, y = .str z u)
    (hb : items.any (eltE (.str x)) = b) (h : Q (.bool b) s) : wpAny (model prog w) A (compareOp .In (.str x t) (.ref q)) Q E s := by
  refine SeqAt.in_tupleAt (items := items.toArray) (eltE (.str x)) ⟨_, (N _ hm).1, rfl, _, rfl⟩ (fun y hy => ?_) ?_
  · rcases hi y (by simpa using hy) with rfl | ⟨z, u, rfl⟩
    · exact keq_flat Flat.none (Flat.str _ _)
    · exact keq_flat (Flat.str _ _) (Flat.str _ _)
  · rw [List.any_toArray, hb]; exact h
end
theorem elt_str {z x : Str} {u : Tok} : eltE (.str x) (.str z u) = (z == x) := by
  rw [eltE_s]; simp [PyData.eqv]
theorem elt_none {x : Str} : eltE (.str x) .none = false := by
  rw [eltE_n]; simp [PyData.eqv]
theorem chr_beq (d c : Nat) : ((⟨#[d]⟩ : Str) == ⟨#[c]⟩) = (c == d) := by
  rw [chr_eq]; by_cases h : c = d <;> simp [h]
theorem emp_beq (d : Nat) : ((⟨#[d]⟩ : Str) == ⟨#[]⟩) = false := by
  rw [beq_eq_false_iff_ne]; intro e; injection e with e; have := congrArg Array.size e; simp at this
theorem emp_beq' (d : Nat) : ((⟨#[]⟩ : Str) == ⟨#[d]⟩) = false := by
  rw [beq_eq_false_iff_ne]; intro e; injection e with e; have := congrArg Array.size e; simp at this
theorem bool7 : ∀ a b c d e f g : Bool, (a || (b || (c || (d || (e || (f || g)))))) = (((((b || c) || d) || a) || false) || e || f || g) := by decide +kernel
theorem law_stop {T : List Nat} {av : Value} {al : Option Nat} {t0 t1 t2 t3 t4 t5 t6 : Tok} (hal : AllowIs av al) (hcr : ∀ c ∈ T, c ≠ 13) :
    [Value.str (Str.ofString "") t0, .str (Str.ofString " ") t1, .str (Str.ofString "\t") t2, .str (Str.ofString "\n") t3, .str (Str.ofString "\x0c") t4, .str (Str.ofString "<") t5, .str (Str.ofString "&") t6, av].any (eltE (.str ⟨(T.take 1).toArray⟩)) = stopC al T := by
  have e0 : Str.ofString "" = ⟨#[]⟩ := by decide +kernel
  have e1 : Str.ofString " " = ⟨#[32]⟩ := by decide +kernel
  have e2 : Str.ofString "\t" = ⟨#[9]⟩ := by decide +kernel
  have e3 : Str.ofString "\n" = ⟨#[10]⟩ := by decide +kernel
  have e4 : Str.ofString "\x0c" = ⟨#[12]⟩ := by decide +kernel
  have e5 : Str.ofString "<" = ⟨#[60]⟩ := by decide +kernel
  have e6 : Str.ofString "&" = ⟨#[38]⟩ := by decide +kernel
  rw [e0, e1, e2, e3, e4, e5, e6]
  cases T with
  | nil =>
    simp only [List.any_cons, elt_str, List.take_nil]
    rfl
  | cons c r =>
    have hc := hcr c (List.mem_cons_self ..)
    have ea : eltE (.str ⟨#[c]⟩) av = (al == some c) := by
      rcases hal with ⟨rfl, rfl⟩ | ⟨a, t, rfl, rfl⟩
      · rw [elt_none]; rfl
      · rw [elt_str, chr_beq]
        by_cases h : c = a
        · subst h; simp
        · have h' : ¬ a = c := fun e => h e.symm
          rw [beq_eq_false_iff_ne.mpr h, Eq.comm, beq_eq_false_iff_ne]
          exact fun e => h' (Option.some.inj e)
    have et : (⟨((c :: r).take 1).toArray⟩ : Str) = ⟨#[c]⟩ := rfl
    rw [et]
    simp only [List.any_cons, List.any_nil, elt_str, ea, chr_beq, emp_beq', Bool.false_or, Bool.or_false]
    have h13 : (c == 13) = false := by simpa using hc
    show _ = (((((c == 9 || c == 10) || c == 12) || c == 32) || c == 13) || c == 60 || c == 38 || al == some c)
    rw [h13]
    exact bool7 _ _ _ _ _ _ _
structure Lq where
  e : Int
  te : Tok
  num : Int
  tn : Tok
structure Lq.ok (hex : Bool) (start : Nat) (r : List Nat) (c : Lq) : Prop where
  ex : ∃ k : Nat, k ≤ (r.takeWhile (alD hex)).length ∧ c.e = ((start + k : Nat) : Int) ∧ c.num = ((numV (baseOf hex) ((r.takeWhile (alD hex)).take k) : Nat) : Int)
structure Lq.fin (hex : Bool) (start : Nat) (r : List Nat) (c : Lq) : Prop where
  e : c.e = ((start + (r.takeWhile (alD hex)).length : Nat) : Int)
  num : c.num = ((numV (baseOf hex) (r.takeWhile (alD hex)) : Nat) : Int)
theorem Lq.start {hex : Bool} {st : Nat} {r : List Nat} {e n : Int} {te tn : Tok} (he : e = (st : Nat)) (hn : n = 0) : Lq.ok hex st r ⟨e, te, n, tn⟩ := ⟨0, Nat.zero_le _, he, hn⟩
theorem numV_snoc (b : Nat) (l : List Nat) (c : Nat) : numV b (l ++ [c]) = numV b l * b + figV c := by
  unfold numV; rw [List.foldl_append]; rfl
set_option tactic.hygienic true
theorem tw_at {p : Nat → Bool} : ∀ {r : List Nat} {k : Nat}, k < (r.takeWhile p).length → ∃ c t, r.drop k = c :: t ∧ p c = true ∧ (r.takeWhile p).take (k + 1) = (r.takeWhile p).take k ++ [c]
  | [], k, h => by simp at h
  | a :: r, k, h => by
    rw [List.takeWhile_cons] at h
    split at h
    · rename_i q
      rw [List.takeWhile_cons, if_pos q]
      cases k with
      | zero => exact ⟨a, r, rfl, q, by simp⟩
      | succ k =>
        obtain ⟨c, t, h1, h2, h3⟩ := tw_at (r := r) (k := k) (by simpa using h)
        exact ⟨c, t, by simpa using h1, h2, by simpa using h3⟩
    · simp at h
set_option tactic.hygienic false
theorem tw_end {p : Nat → Bool} : ∀ {r : List Nat}, r.drop (r.takeWhile p).length = r.dropWhile p
  | [] => rfl
  | a :: r => by
    rw [List.takeWhile_cons, List.dropWhile_cons]
    split
    · rw [List.length_cons, List.drop_succ_cons]; exact tw_end
    · rfl
theorem dw_no {p : Nat → Bool} {r : List Nat} {c : Nat} {t : List Nat} (e : r.dropWhile p = c :: t) : p c = false := by
  have := List.head?_dropWhile_not p r
  rw [e] at this
  simpa using this
theorem figI_slice {T : Str} {e : Int} (h : 0 ≤ e) : figI (Txt.slice T (some e) (some (e + 1))) = figI ⟨((T.cps.toList.drop e.toNat).take 1).toArray⟩ := by rw [drop_take1 h rfl]
theorem Lq.ok.lo {hex : Bool} {start : Nat} {r : List Nat} {c : Lq} (h : Lq.ok hex start r c) : 0 ≤ c.e := by
  obtain ⟨k, h1, h2, h3⟩ := h.ex
  omega
theorem Lq.yes {hex : Bool} {start : Nat} {T : Str} {r : List Nat} {c : Lq} (h : Lq.ok hex start r c) (hr : T.cps.toList.drop start = r) (ht : figI (Txt.slice T (some c.e) (some (c.e + 1))) < (baseOf hex : Nat)) :
    0 ≤ c.e ∧ c.e < T.length ∧ ∃ d, T.cps[c.e.toNat]? = some d ∧ alD hex d = true ∧ ∀ e te n tn, e = c.e + 1 → n = c.num * (baseOf hex : Nat) + (figV d : Nat) → Lq.ok hex start r ⟨e, te, n, tn⟩ := by
  rw [figI_slice h.lo] at ht
  obtain ⟨k, h1, h2, h3⟩ := h.ex
  have he : c.e.toNat = start + k := by omega
  rw [he, ← List.drop_drop, hr] at ht
  have hk : k < (r.takeWhile (alD hex)).length := by
    rcases Nat.lt_or_ge k (r.takeWhile (alD hex)).length with q | q
    · exact q
    · have : k = (r.takeWhile (alD hex)).length := Nat.le_antisymm h1 q
      rw [this, tw_end] at ht
      cases q2 : r.dropWhile (alD hex) with
      | nil => rw [q2] at ht; exact absurd ht (fig_no hex)
      | cons d t => rw [q2] at ht; have := fig_lt.mp ht; rw [dw_no q2] at this; cases this
  obtain ⟨d, t, h4, h5, h6⟩ := tw_at hk
  have hd : T.cps.toList.drop (start + k) = d :: t := by rw [← List.drop_drop, hr, h4]
  have hl : start + k < T.cps.toList.length := by
    rcases Nat.lt_or_ge (start + k) T.cps.toList.length with q | q
    · exact q
    · rw [List.drop_of_length_le q] at hd; cases hd
  have hat : T.cps.toList[start + k]? = some d := by
    rw [← List.head?_drop, hd]; rfl
  refine ⟨by omega, by rw [← len_toList]; omega, d, by rw [he, ← Array.getElem?_toList]; exact hat, h5, fun e te n tn ee en => ⟨k + 1, hk, (show e = _ by rw [ee, h2]; omega), ?_⟩⟩
  show n = _
  rw [en, h3, h6, numV_snoc]
  simp
theorem Lq.no {hex : Bool} {start : Nat} {T : Str} {r : List Nat} {c : Lq} (h : Lq.ok hex start r c) (hr : T.cps.toList.drop start = r) (ht : ¬ figI (Txt.slice T (some c.e) (some (c.e + 1))) < (baseOf hex : Nat)) : Lq.fin hex start r c := by
  rw [figI_slice h.lo] at ht
  obtain ⟨k, h1, h2, h3⟩ := h.ex
  have he : c.e.toNat = start + k := by omega
  rw [he, ← List.drop_drop, hr] at ht
  have hk : k = (r.takeWhile (alD hex)).length := by
    rcases Nat.lt_or_ge k (r.takeWhile (alD hex)).length with q | q
    · obtain ⟨d, t, h4, h5, h6⟩ := tw_at q
      rw [h4] at ht
      exact absurd (fig_lt.mpr h5) ht
    · exact Nat.le_antisymm h1 q
  subst hk
  exact ⟨h2, by rw [h3, List.take_length]⟩
end Mine.Internal
namespace Mine.Internal
theorem allow_is {av : Value} {al : Option Nat} (h : AllowIs av al) : av = .none ∨ ∃ z u, av = .str z u := by
  rcases h with ⟨e, _⟩ | ⟨a, t, e, _⟩
  · exact .inl e
  · exact .inr ⟨_, _, e⟩
theorem first_is {T : Str} {al : Option Nat} (hs : stopC al T.cps.toList = false) (h : (Txt.slice T none (some 1) != Str.ofString "#") = false) : ∃ r, T.cps.toList = 35 :: r := by
  rw [slice1] at h
  cases q : T.cps.toList with
  | nil => rw [q] at hs; cases hs
  | cons c r =>
    rw [q] at h
    have h2 : ((⟨#[c]⟩ : Str) == Str.ofString "#") = true := by simpa [bne] using h
    exact ⟨r, by rw [eq35 h2]⟩
theorem first_not {T : Str} {al : Option Nat} (hs : stopC al T.cps.toList = false) (h : (Txt.slice T none (some 1) != Str.ofString "#") = true) : ceR al T.cps.toList = ⟨[38], [.tok 7 namN], T.cps.toList⟩ := by
  rw [slice1] at h
  cases q : T.cps.toList with
  | nil => rw [q] at hs; cases hs
  | cons c r =>
    rw [q] at h hs
    have h2 : ((⟨#[c]⟩ : Str) == Str.ofString "#") = false := by simpa [bne] using h
    exact ce_name hs rfl (ne35 h2)
theorem hex_is {T : Str} {b : Bool} (h : ([Str.ofString "x", Str.ofString "X"].any fun z => z == Txt.slice T (some 1) (some 2)) = b) : hexC (T.cps.toList.drop 1) = b := by
  have hx : Txt.slice T (some 1) (some 2) = ⟨((T.cps.toList.drop 1).take 1).toArray⟩ := drop_take1 (by decide) (by decide)
  rw [hx] at h
  cases q : T.cps.toList.drop 1 with
  | nil =>
    rw [q] at h
    have : ([Str.ofString "x", Str.ofString "X"].any fun z => z == (⟨#[]⟩ : Str)) = false := by decide +kernel
    exact (this.symm.trans h)
  | cons c r => rw [q] at h; exact (xX_any c).symm.trans h
noncomputable def stN (hx : Bool) : Nat := if hx = true then 2 else 1
end Mine.Internal
namespace Mine.Internal
theorem mul_base {a : Int} {hx : Bool} : IntMulOk a ((baseOf hx : Nat) : Int) := IntMulOk.of_right (by cases hx <;> decide +kernel)
theorem mulB {prog : Program} {w : World} {A : Around} {E : Value → Shared → Prop} {s : Shared} {a : Int} {hx : Bool} {t u : Tok} {Q : Value → Shared → Prop} (h : Q (.int (a * (baseOf hx : Nat)) s.toks) { s with toks := s.toks + 1 }) : wpAny (model prog w) A (binaryOp .Mult (.int a t) (.int (baseOf hx : Nat) u)) Q E s :=
  PySem.P.mul_int h mul_base
theorem base_t {T : Str} {hx : Bool} {t : Tok} (hhx : hexC (T.cps.toList.drop 1) = hx) (h : ([Str.ofString "x", Str.ofString "X"].any fun z => z == Txt.slice T (some 1) (some 2)) = true) : ∃ t', Value.int 16 t = .int (baseOf hx : Nat) t' := by
  have e := (hex_is h).symm.trans hhx
  subst e; exact ⟨t, rfl⟩
theorem base_f {T : Str} {hx : Bool} {t : Tok} (hhx : hexC (T.cps.toList.drop 1) = hx) (h : ([Str.ofString "x", Str.ofString "X"].any fun z => z == Txt.slice T (some 1) (some 2)) = false) : ∃ t', Value.int 10 t = .int (baseOf hx : Nat) t' := by
  have e := (hex_is h).symm.trans hhx
  subst e; exact ⟨t, rfl⟩
theorem start_t {hx : Bool} {t : Tok} (h : ((baseOf hx : Nat) : Int) = 16) : ∃ t', Value.int 2 t = .int (stN hx : Nat) t' := by
  cases hx
  · exact absurd h (by decide)
  · exact ⟨t, rfl⟩
theorem start_f {hx : Bool} {t : Tok} (h : ¬ ((baseOf hx : Nat) : Int) = 16) : ∃ t', Value.int 1 t = .int (stN hx : Nat) t' := by
  cases hx
  · exact ⟨t, rfl⟩
  · exact absurd rfl h
theorem ce_hash {T : List Nat} {al : Option Nat} {hx : Bool} (hs : stopC al T = false) (h : ∃ r, T = 35 :: r) (hhx : hexC (T.drop 1) = hx) : ceR al T = numR hx (38 :: T.take (stN hx)) (T.drop (stN hx)) := by
  obtain ⟨r, rfl⟩ := h
  unfold ceR
  rw [if_neg (by rw [hs]; decide)]
  show (if hexC r = true then _ else _) = _
  have e : hexC r = hx := hhx
  cases hx
  · rw [if_neg (by rw [e]; decide)]; rfl
  · rw [if_pos e]; rfl
noncomputable def LrP (prog : Program) (w : World) (T : Str) (al : Option Nat) : CPost := fun v fr l => l = [] ∧ ∃ (q lf : Addr) (fs : List Value) (n : Nat) (used : Int) (fl : Led) (t tu : Tok), v = .ref q ∧ fr = (q, tupO [.str ⟨(ceR al T.cps.toList).out.toArray⟩ t, .ref lf, .int used tu]) :: (lf, W.listOf fs.toArray n) :: fl ∧
  QIs prog w fl fs (ceR al T.cps.toList).ks ∧ 0 ≤ used ∧ (ceR al T.cps.toList).rem = T.cps.toList.drop used.toNat ∧ used.toNat ≤ T.cps.toList.length
section
variable {prog : Program} {w : World} {T : Str} {al : Option Nat} {g h : Heap} {L : Addr} {m : Str → Option Value} {s : Shared} {nl : Led} {tk : Nat} {q lf : Addr} {fs : List Value} {n : Nat} {used : Int} {fl : Led} {t tu : Tok} {out : Str} {R : Ck}
theorem lr_end (hR : ceR al T.cps.toList = R) (F : Fr g L h m) (N : News g L h nl) (hq : (q, tupO [.str out t, .ref lf, .int used tu]) ∈ nl) (hl : (lf, W.listOf fs.toArray n) ∈ nl) (hfl : ∀ p ∈ fl, p ∈ nl)
    (hout : out.cps.toList = R.out) (hks : QIs prog w fl fs R.ks) (h0 : 0 ≤ used) (hrem : R.rem = T.cps.toList.drop used.toNat) (hul : used.toNat ≤ T.cps.toList.length) : CEnd g [] (LrP prog w T al) s (.ref q) { s with heap := h, toks := tk } := by
  subst hR
  have e : out = ⟨(ceR al T.cps.toList).out.toArray⟩ := Str.ext' (by rw [← hout])
  subst e
  refine cendF (fr := (q, tupO [.str ⟨(ceR al T.cps.toList).out.toArray⟩ t, .ref lf, .int used tu]) :: (lf, W.listOf fs.toArray n) :: fl) (l := []) F N ?_ (fun _ _ _ h => nomatch h) ⟨rfl, q, lf, fs, n, used, fl, t, tu, rfl, rfl, hks, h0, hrem, hul⟩
  intro p hp
  rw [List.append_nil] at hp
  rcases List.mem_cons.mp hp with rfl | hp
  · exact hq
  rcases List.mem_cons.mp hp with rfl | hp
  · exact hl
  · exact hfl p hp
theorem lr_none {hx : Bool} {c : Lq} (hs : stopC al T.cps.toList = false) (h : ∃ r, T.cps.toList = 35 :: r) (hhx : hexC (T.cps.toList.drop 1) = hx) (hf : Lq.fin hx (stN hx) (T.cps.toList.drop (stN hx)) c) (he : c.e = (stN hx : Nat)) :
    ceR al T.cps.toList = ⟨38 :: T.cps.toList.take (stN hx), [.tok 7 numN], T.cps.toList.drop (stN hx)⟩ := by
  rw [ce_hash hs h hhx]
  have := hf.e
  exact if_pos (List.length_eq_zero_iff.mp (by omega))
theorem lr_num {hx : Bool} {c : Lq} (hs : stopC al T.cps.toList = false) (h : ∃ r, T.cps.toList = 35 :: r) (hhx : hexC (T.cps.toList.drop 1) = hx) (hf : Lq.fin hx (stN hx) (T.cps.toList.drop (stN hx)) c) (he : ¬ c.e = (stN hx : Nat)) :
    ceR al T.cps.toList = ⟨[sgZ c.num], numKs c.num (semiB (T.cps.toList.drop c.e.toNat)), afterNum (T.cps.toList.drop c.e.toNat)⟩ := by
  rw [ce_hash hs h hhx]
  have h1 := hf.e
  have h2 : c.e.toNat = stN hx + ((T.cps.toList.drop (stN hx)).takeWhile (alD hx)).length := by omega
  rw [h2, ← List.drop_drop, tw_end, hf.num]
  exact if_neg (fun e => he (by rw [h1, e]; simp))
theorem semi_t {e : Int} (h0 : 0 ≤ e) (h : (Txt.slice T (some e) (some (e + 1)) == Str.ofString ";") = true) : semiB (T.cps.toList.drop e.toNat) = false ∧ afterNum (T.cps.toList.drop e.toNat) = T.cps.toList.drop (e + 1).toNat := by
  rw [drop_take1 h0 rfl] at h
  have e59 : Str.ofString ";" = ⟨#[59]⟩ := by decide +kernel
  cases q : T.cps.toList.drop e.toNat with
  | nil =>
    rw [q, e59] at h
    exact absurd h (by decide +kernel)
  | cons c r =>
    rw [q, e59] at h
    have h' : ((⟨#[c]⟩ : Str) == ⟨#[59]⟩) = true := h
    rw [chr_beq] at h'
    have hc : c = 59 := (eq_of_beq h').symm
    subst hc
    refine ⟨rfl, ?_⟩
    show r = _
    rw [show (e + 1).toNat = e.toNat + 1 from Int.toNat_add h0 (by decide : (0 : Int) ≤ 1), ← List.drop_drop, q]; rfl
theorem semi_f {e : Int} (h0 : 0 ≤ e) (h : (Txt.slice T (some e) (some (e + 1)) == Str.ofString ";") = false) : semiB (T.cps.toList.drop e.toNat) = true ∧ afterNum (T.cps.toList.drop e.toNat) = T.cps.toList.drop e.toNat := by
  rw [drop_take1 h0 rfl] at h
  have e59 : Str.ofString ";" = ⟨#[59]⟩ := by decide +kernel
  cases q : T.cps.toList.drop e.toNat with
  | nil => exact ⟨rfl, rfl⟩
  | cons c r =>
    rw [q, e59] at h
    have h' : ((⟨#[c]⟩ : Str) == ⟨#[59]⟩) = false := h
    rw [chr_beq] at h'
    have hc : c ≠ 59 := fun e => by rw [e] at h'; simp at h'
    exact ⟨(semi_no rfl hc).2, (semi_no rfl hc).1⟩
theorem st_le {T : List Nat} {hx : Bool} (h : ∃ r, T = 35 :: r) (hhx : hexC (T.drop 1) = hx) : stN hx ≤ T.length := by
  obtain ⟨r, rfl⟩ := h
  cases hx with
  | false => exact Nat.succ_le_succ (Nat.zero_le _)
  | true =>
    cases r with
    | nil => cases hhx
    | cons c r => exact Nat.succ_le_succ (Nat.succ_le_succ (Nat.zero_le _))
theorem fin_le {T : List Nat} {hx : Bool} {c : Lq} (h : ∃ r, T = 35 :: r) (hhx : hexC (T.drop 1) = hx) (hf : Lq.fin hx (stN hx) (T.drop (stN hx)) c) : c.e.toNat ≤ T.length := by
  have h1 := st_le h hhx
  have h2 := (List.takeWhile_prefix (alD hx) (l := T.drop (stN hx))).length_le
  rw [List.length_drop] at h2
  rw [hf.e, Int.toNat_natCast]
  exact Nat.le_trans (Nat.add_le_add_left h2 _) (Nat.le_of_eq (Nat.add_sub_cancel' h1))
theorem end_lt {e : Int} (h0 : 0 ≤ e) (h : (Txt.slice T (some e) (some (e + 1)) == Str.ofString ";") = true) : (e + 1).toNat ≤ T.cps.toList.length := by
  have h1 := (semi_t h0 h).1
  rw [show (e + 1).toNat = e.toNat + 1 from Int.toNat_add h0 (by decide : (0 : Int) ≤ 1)]
  refine Nat.lt_of_not_le fun hle => ?_
  rw [List.drop_of_length_le hle] at h1
  cases h1
end
end Mine.Internal
namespace Mine.Internal
section
variable {prog : Program} {w : World} {z : Int} {a b c : Addr} {oa ob oc : Obj} {fs : List Value}
theorem num_qis (hfs : fs = if ftZ z = true then [.ref a] else []) (hfo : FaultO prog w z b oa ob) (la : (a == sysModules) = false) (lb : (b == sysModules) = false) {fl : Led} (ma : (a, oa) ∈ fl) (mb : (b, ob) ∈ fl) : QIs prog w fl fs (numKs z false) := by
  subst hfs
  unfold numKs
  rw [if_neg (by decide : ¬ (false = true)), List.append_nil]
  split
  · exact .cons ⟨a, oa, b, ob, rfl, ma, mb, la, lb, hfo⟩ .nil
  · exact .nil
theorem num_qis1 (hfs : fs = if ftZ z = true then [.ref a] else []) (hfo : FaultO prog w z b oa ob) (la : (a == sysModules) = false) (lb : (b == sysModules) = false) (hp : PlainO prog w semiN oc) (lc : (c == sysModules) = false) : QIs prog w [(a, oa), (b, ob), (c, oc)] (fs ++ [.ref c]) (numKs z true) := by
  have h := num_qis (prog := prog) (w := w) (fl := [(a, oa), (b, ob), (c, oc)]) hfs hfo la lb (.head _) (.tail _ (.head _))
  have e : numKs z true = numKs z false ++ [.tok 7 semiN] := by unfold numKs; simp
  rw [e]
  exact h.app (.cons ⟨c, oc, rfl, .tail _ (.tail _ (.head _)), lc, hp⟩ .nil)
end
end Mine.Internal
namespace Mine.Internal
section
variable {prog : Program} {w : World} {A : Around} {E : Value → Shared → Prop} {s : Shared} {g : Heap} {L : Addr} {m : Str → Option Value} {news : List (Addr × Obj)}
end
end Mine.Internal
namespace Mine.Internal
end Mine.Internal
namespace Mine.Internal
noncomputable def goodC (c : Nat) : Bool := blankN c || c == 60 || c == 38 || c == 35 || !hasPre ⟨#[c]⟩
section
variable {prog : Program} {w : World} {A : Around} {E : Value → Shared → Prop} {s : Shared}
end
end Mine.Internal
namespace Mine.Internal
theorem carried_strs {g : Int → Str} : ∀ {ns : List Int} {ys : List Value}, CarriedAll ys (ns.map fun k => PyData.str (g k)) → StrsAre ys (ns.map g)
  | [], _, h => by cases h; exact .nil
  | k :: ns, _, h => by
    cases h with
    | cons c r => cases c; exact .cons _ _ (carried_strs r)
end Mine.Internal
namespace Mine.Internal
end Mine.Internal
namespace Mine.Internal
set_option tactic.hygienic true
theorem mend_no13 : ∀ (l : List Nat) (f : Bool), 13 ∉ mendF f l
  | [], _ => by simp [mendF_n, mendF_c]
  | c :: r, f => by
    have i1 := mend_no13 r false
    have i2 := mend_no13 r true
    simp only [mendF_c]
    split
    · exact i1
    · split
      · intro h
        rcases List.mem_cons.mp h with h | h
        · exact absurd h (by decide)
        · exact i2 h
      · rename_i q
        intro h
        rcases List.mem_cons.mp h with h | h
        · exact q h.symm
        · exact i1 h
set_option tactic.hygienic false
theorem mend13 (x : Str) : ∀ c ∈ (mendS x).cps.toList, c ≠ 13 := by
  intro c hc e
  subst e
  rw [mendS_toList, mendL_F] at hc
  exact mend_no13 _ _ hc
end Mine.Internal

end
section
set_option tactic.hygienic false
open PySem PySem.W PyProof.Rows PySem.Calls PySem.Spec PyProof.V
namespace Mine.Internal
section
variable {prog : Program} {w : World} {A : Around} {E : Value → Shared → Prop} {Q : Flow → Shared → Prop} {s : Shared} {env : Env} {h₀ : Heap} {x : Str} {body : List Stmt} {m₀ : Str → Option Value}
noncomputable def TurnEnd (h₀ : Heap) (L : Addr) (x : Str) (stored : List Str) (m₀ : Str → Option Value) (led : Led) (s₁ s₂ : Shared) : Prop :=
  ∃ h' tk m' news', s₂ = { s₁ with heap := h', toks := tk } ∧ Fr h₀ L h' m' ∧ News h₀ L h' news' ∧ (∀ p ∈ led, p ∈ news') ∧ ∀ z, z ≠ x → stored.contains z = false → m' z = m₀ z
noncomputable def TurnGo (h₀ : Heap) (L : Addr) (x : Str) (stored : List Str) (m₀ : Str → Option Value) (led : Led) (s₁ : Shared) (Q : Flow → Shared → Prop) (f : Flow) (s₂ : Shared) : Prop :=
  match f with
  | .ret v => Q (.ret v) s₂
  | .brk => Q .next s₂
  | _ => TurnEnd h₀ L x stored m₀ led s₁ s₂
theorem turn_end {g : Heap} {L : Addr} {stored : List Str} {led news' : Led} {s₁ : Shared} {h' : Heap} {tk : Nat} {m' : Str → Option Value} (F : Fr g L h' m') (N : News g L h' news') (hn : ∀ p ∈ led, p ∈ news') (hr : ∀ z, z ≠ x → stored.contains z = false → m' z = m₀ z) :
    TurnEnd g L x stored m₀ led s₁ { s₁ with heap := h', toks := tk } := ⟨h', tk, m', news', rfl, F, N, hn, hr⟩
theorem loop_data {l : Addr} {vs : List Value} {ds : List Dat} {nn : Nat} (stored : List Str) (rest : Led) (hh : A.handled = none) (F : Fr h₀ env.locals s.heap m₀) (N : News h₀ env.locals s.heap ((l, W.listOf vs.toArray nn) :: rest)) (hd : DatAll ((l, W.listOf vs.toArray nn) :: rest ++ []) vs ds)
    (turn : ∀ (nl : Led) d v (u : Str → Option Value) h tk own, d ∈ ds → DatIn nl v d → Fr h₀ env.locals h (fun y => if y = x then some v else kstB (fun z => if stored.contains z then u z else m₀ z) [] y) → News h₀ env.locals h ((l, W.listOf vs.toArray nn) :: (rest ++ own)) →
      wpAny (model prog w) A (execs body env) (TurnGo h₀ env.locals x stored m₀ ((l, W.listOf vs.toArray nn) :: (rest ++ own)) { s with heap := h, toks := tk } Q) E { s with heap := h, toks := tk })
    (done : ∀ (u : Str → Option Value) h tk, Fr h₀ env.locals h (fun y => if y = x then u y else kstB (fun z => if stored.contains z then u z else m₀ z) [] y) → News h₀ env.locals h ((l, W.listOf vs.toArray nn) :: rest) → Q .next { s with heap := h, toks := tk }) :
    wpAny (model prog w) A (pyIter (.ref l)) (fun it s₂ => LoopAtV prog w A h₀ env x body Q E it s₂) E s := by
  refine kd_listL (σ := Unit) (ds := ds) (nn := nn) (fun _ => []) ((l, W.listOf vs.toArray nn) :: rest) (fun _ => []) (fun _ _ => True) stored (fun _ _ => True) (((l, W.listOf vs.toArray nn) :: rest).map (·.1)) () hh (.head _) hd F N (fun p hp => by simpa using hp) (fun _ => rfl) trivial (fun _ h => nomatch h) trivial ?_ ?_
  · intro c tl pre d post v u h tk own hds hmem hin hsep hoff _ _ F' N'
    refine wpAny_mono (turn _ d v u h tk (tl ++ own) hmem hin F' (fun p hp => N' p (by simpa [List.append_assoc] using hp))) (fun f s₂ hf => ?_) (fun _ _ e => e)
    cases f with
    | ret v => exact hf
    | brk => exact hf
    | next =>
      obtain ⟨h', tk', m', news', e, F2, N2, hn, hr⟩ := hf
      subst e
      refine kd_end (σ := Unit) (Led := fun _ => []) (cst := (l, W.listOf vs.toArray nn) :: rest) (ps := fun _ => []) (Facts := fun _ _ => True) (P := fun _ _ => True) () [] hsep F2 N2 (fun p hp => hn p ?_) (fun p hp => hn p ?_) rfl (fun _ h => nomatch h) (fun _ h => nomatch h) (fun _ h => nomatch h) (fun z hz _ h3 => hr z hz h3) trivial trivial
      · simp only [List.nil_append, List.cons_append, List.mem_cons, List.mem_append] at hp ⊢
        rcases hp with h | h | h
        · exact .inl h
        · exact .inr (.inl h)
        · exact .inr (.inr (.inl h))
      · exact List.mem_cons_of_mem _ (List.mem_append_right _ (List.mem_append_right _ hp))
    | cont =>
      obtain ⟨h', tk', m', news', e, F2, N2, hn, hr⟩ := hf
      subst e
      refine kd_end (σ := Unit) (Led := fun _ => []) (cst := (l, W.listOf vs.toArray nn) :: rest) (ps := fun _ => []) (Facts := fun _ _ => True) (P := fun _ _ => True) () [] hsep F2 N2 (fun p hp => hn p ?_) (fun p hp => hn p ?_) rfl (fun _ h => nomatch h) (fun _ h => nomatch h) (fun _ h => nomatch h) (fun z hz _ h3 => hr z hz h3) trivial trivial
      · simp only [List.nil_append, List.cons_append, List.mem_cons, List.mem_append] at hp ⊢
        rcases hp with h | h | h
        · exact .inl h
        · exact .inr (.inl h)
        · exact .inr (.inr (.inl h))
      · exact List.mem_cons_of_mem _ (List.mem_append_right _ (List.mem_append_right _ hp))
  · intro c tl u h tk _ _ _ F' N'
    exact done u h tk F' (fun p hp => N' p (by
      simp only [List.nil_append]
      exact List.mem_append_left _ hp))
end
end Mine.Internal

end
section
set_option tactic.hygienic false
open PySem PySem.W PyProof.Rows PySem.Calls PySem.Spec PyProof.V
namespace Mine.Internal
inductive Mid (o o2 : Led) : Led → Led → Prop
  | here {T} : Mid o o2 (o ++ T) (o2 ++ T)
  | cons {e N N'} : Mid o o2 N N' → Mid o o2 (e :: N) (e :: N')
theorem Mid.sub {o o2 N N' : Led} (m : Mid o o2 N N') : ∀ p ∈ N', p ∈ N ∨ p ∈ o2 := by
  induction m with
  | here =>
    intro p hp
    rcases List.mem_append.mp hp with h | h
    · exact .inr h
    · exact .inl (List.mem_append_right _ h)
  | cons _ ih =>
    intro p hp
    rcases List.mem_cons.mp hp with rfl | h
    · exact .inl (.head _)
    · rcases ih p h with h | h
      · exact .inl (.tail _ h)
      · exact .inr h
theorem Mid.mem {o o2 N N' : Led} (m : Mid o o2 N N') : ∀ p ∈ o, p ∈ N := by
  induction m with
  | here => exact fun p hp => List.mem_append_left _ hp
  | cons _ ih => exact fun p hp => .tail _ (ih p hp)
theorem mid_news {g h : Heap} {L : Addr} {e1 e2 : Addr × Obj} {o o2 fl N N' : Led} (e : o2 = o ++ fl) (n : News g L h (e1 :: e2 :: (N ++ fl))) (m : Mid o o2 N N') : News g L h (e1 :: e2 :: N') := fun p hp => n p (by
  subst e
  rcases List.mem_cons.mp hp with rfl | hp
  · exact .head _
  rcases List.mem_cons.mp hp with rfl | hp
  · exact .tail _ (.head _)
  refine .tail _ (.tail _ ?_)
  rcases m.sub p hp with hp | hp
  · exact List.mem_append_left _ hp
  rcases List.mem_append.mp hp with hp | hp
  · exact List.mem_append_left _ (m.mem p hp)
  · exact List.mem_append_right _ hp)
theorem own_grow {prog : Program} {w : World} {o fl N : Led} {fs : List Value} {ks : List Kd} (q : QIs prog w fl fs ks) (hf : ∀ p ∈ fl, ∀ r ∈ N, @LT.lt Nat _ r.1 p.1) : ∃ o2, o2 = o ++ fl ∧ QIs prog w o2 fs ks ∧ (∀ p ∈ o, p ∈ o2) ∧ (∀ p ∈ o2, p ∈ o ∨ ∀ r ∈ N, @LT.lt Nat _ r.1 p.1) :=
  ⟨_, rfl, q.mono fun p hp => List.mem_append_right _ hp, fun p hp => List.mem_append_left _ hp, fun p hp => (List.mem_append.mp hp).imp id (hf p)⟩
theorem al_ten (hex : Bool) : alD hex 10 = false := by cases hex <;> rfl
theorem num_taken (hex : Bool) (pre r : List Nat) : ∃ P, r = P ++ (numR hex pre r).rem ∧ 10 ∉ P := by
  unfold numR
  split
  · exact ⟨[], rfl, fun h => nomatch h⟩
  · show ∃ P, r = P ++ afterNum (r.dropWhile (alD hex)) ∧ 10 ∉ P
    have h1 : 10 ∉ r.takeWhile (alD hex) := fun h => by
      have := take_all _ h
      rw [al_ten] at this
      cases this
    have h2 : r.takeWhile (alD hex) ++ r.dropWhile (alD hex) = r := List.takeWhile_append_dropWhile
    cases q : r.dropWhile (alD hex) with
    | nil => exact ⟨r.takeWhile (alD hex), by rw [← q]; exact h2.symm.trans (by rw [q]; rfl), h1⟩
    | cons c t =>
      by_cases hc : c = 59
      · subst hc
        refine ⟨r.takeWhile (alD hex) ++ [59], ?_, fun h => ?_⟩
        · show r = (r.takeWhile (alD hex) ++ [59]) ++ t
          rw [List.append_assoc]
          exact h2.symm.trans (by rw [q]; rfl)
        · rcases List.mem_append.mp h with h | h
          · exact h1 h
          · cases List.mem_singleton.mp h
      · rw [(semi_no rfl hc).1, ← q]
        exact ⟨_, h2.symm, h1⟩
theorem ce_taken (al : Option Nat) (T : List Nat) : ∃ P, T = P ++ (ceR al T).rem ∧ 10 ∉ P := by
  refine ceR_cases al T (fun c => ∃ P, T = P ++ c.rem ∧ 10 ∉ P) ⟨[], rfl, fun h => nomatch h⟩ ⟨[], rfl, fun h => nomatch h⟩ (fun r e hx => ?_) (fun r e => ?_)
  · obtain ⟨P, h1, h2⟩ := num_taken true (38 :: 35 :: r.take 1) (r.drop 1)
    cases r with
    | nil => cases hx
    | cons c r =>
      refine ⟨35 :: c :: P, by rw [e, List.cons_append, List.cons_append]; exact congrArg (35 :: c :: ·) h1, fun h => ?_⟩
      rcases List.mem_cons.mp h with h | h
      · cases h
      rcases List.mem_cons.mp h with h | h
      · subst h; cases hx
      · exact h2 h
  · obtain ⟨P, h1, h2⟩ := num_taken false [38, 35] r
    refine ⟨35 :: P, by rw [e, List.cons_append]; exact congrArg (35 :: ·) h1, fun h => ?_⟩
    rcases List.mem_cons.mp h with h | h
    · cases h
    · exact h2 h
section
variable {prog : Program} {w : World} {A : Around} {E : Value → Shared → Prop} {Q : Flow → Shared → Prop} {s : Shared} {env : Env} {h₀ : Heap} {x : Str} {body : List Stmt} {m₀ : Str → Option Value}
end
noncomputable abbrev Kz.at (Z : Kz) (ct : Addr) : Kz := ⟨Z.za, Z.zd, Z.m0, Z.m1, Z.m2, Z.m3, Z.m4, Z.m5, Z.m6, Z.v1, Z.v2, Z.v3, Z.v4, Z.v5, .ref ct⟩
theorem lt_by {a d : Addr} {o : Obj} {l : Led} (h : ∀ p ∈ l, p.1 < d) (m : (a, o) ∈ l) : @LT.lt Nat _ a d := h _ m
section
variable {prog : Program} {w : World} {A : Around} {E : Value → Shared → Prop} {s : Shared} {g : Heap} {L : Addr} {K : Ks} {Z : Kz} {m7 : Tok} {tq : Addr} {B : At} {fx own : Led} {R : Ck}
end
end Mine.Internal
namespace Mine.Internal
section
variable {prog : Program} {w : World} {A : Around} {E : Value → Shared → Prop} {s : Shared} {h₀ : Heap} {L : Addr} {news : List (Addr × Obj)}
theorem EqW.strs {a b : Addr} {x1 x2 : Str} {t1 t2 u1 u2 : Tok} (ha : s.heap.IsList a [Value.str x1 t1, .str x2 t2].toArray) (hb : s.heap.IsList b [Value.str x1 u1, .str x2 u2].toArray) (hu : A.units < cLine) : EqW prog w A s (.ref a) (.ref b) := by
  have key : SeqAt.EqAt A s (.ref a) (.ref b) true := by
    by_cases e : a = b
    · subst e; exact SeqAt.EqAt.same _
    · refine SeqAt.EqAt.of_refs e (SeqAt.RcAt.lists (e := fun _ => true) ha hb rfl hu fun j j1 _ => ?_)
      match j, j1 with
      | 0, _ => simpa using SeqAt.EqAt.str_str x1 t1 x1 u1
      | 1, _ => simpa using SeqAt.EqAt.str_str x2 t2 x2 u2
      | j + 2, h => exact absurd (Nat.lt_of_succ_lt_succ (Nat.lt_of_succ_lt_succ h)) (Nat.not_lt_zero _)
  intro E Q hq
  exact key prog w E Q hq
theorem attrs_ne {a b p1 p2 q1 q2 : Addr} {x1 x2 x3 x4 : Str} {t1 t2 t3 t4 u1 u2 u3 u4 : Tok} {n1 n2 n3 n4 n5 n6 : Nat} {Q : Value → Shared → Prop} (N : News h₀ L s.heap news)
    (ha : (a, W.listOf [Value.ref p1, .ref p2].toArray n1) ∈ news) (h1 : (p1, W.listOf [Value.str x1 t1, .str x2 t2].toArray n2) ∈ news) (h2 : (p2, W.listOf [Value.str x3 t3, .str x4 t4].toArray n3) ∈ news)
    (hb : (b, W.listOf [Value.ref q1, .ref q2].toArray n4) ∈ news) (k1 : (q1, W.listOf [Value.str x1 u1, .str x2 u2].toArray n5) ∈ news) (k2 : (q2, W.listOf [Value.str x3 u3, .str x4 u4].toArray n6) ∈ news)
    (hu : A.units + 9 < cLine) (h : Q (.bool false) s) : wpAny (model prog w) A (compareOp .NotEq (.ref a) (.ref b)) Q E s := by
  refine ne_alike (News.isList N ha) (News.isList N hb) rfl (by omega) (fun j j1 _ => ?_) h
  have hu1 : A.in1.units < cLine := by show A.units + 1 < cLine; omega
  match j, j1 with
  | 0, _ => exact EqW.strs (News.isList N h1) (News.isList N k1) hu1
  | 1, _ => exact EqW.strs (News.isList N h2) (News.isList N k2) hu1
  | j + 2, h => exact absurd (Nat.lt_of_succ_lt_succ (Nat.lt_of_succ_lt_succ h)) (Nat.not_lt_zero _)
end
theorem due_len {prog : Program} {w : World} {fl : Led} {fs : List Value} {al : Option Nat} {T : List Nat} (q : QIs prog w fl fs (ceR al T).ks) : fs.length ≤ 2 := q.len ▸ ce_ks
end Mine.Internal
namespace Mine.Internal
end Mine.Internal
namespace Mine.Internal
end Mine.Internal
namespace Mine.Internal
theorem rest_ok {src T : Str} {x x' : St} {p r : List Nat} {u : Int} (hp : x.rem src = p ++ x'.rem src) (hst : ∀ c t, x'.rem src = c :: t → (fun _ : Nat => false) c = true) (hr : x.rem src = r) (hu : r = T.cps.toList.drop u.toNat) (h0 : 0 ≤ u) : (⟨p.toArray⟩ : Str) = Txt.slice T (some u) none := by
  have e : x'.rem src = [] := by
    cases q : x'.rem src with
    | nil => rfl
    | cons c t => exact absurd (hst c t q) (by simp)
  rw [slice_sn h0, ← hu, ← hr, hp, e, List.append_nil]
end Mine.Internal
namespace Mine.Internal
end Mine.Internal
namespace Mine.Internal
theorem all_ne {d : Addr} {rest N : Led} (h : ∀ p ∈ N, p.1 < d) (s : ∀ p ∈ rest, p ∈ N) : ∀ q ∈ rest, q.1 ≠ d := fun q hq => Nat.ne_of_lt (h q (s q hq))
end Mine.Internal
namespace Mine.Internal
theorem cons_ne {w : World} {K : Ks} {x : St} {d : Addr} {e : Addr × Obj} {o : Led} (h : ∀ p ∈ e :: o, p.1 < d) (k : K.ord) (hd : @LT.lt Nat _ d K.sd) : ∀ q ∈ e :: (o ++ K.led w x), q.1 ≠ d := tail_ne (o := e :: o) h (fun _ h => h) k (.inl hd)
end Mine.Internal
namespace Mine.Internal
end Mine.Internal
namespace Mine.Internal
end Mine.Internal

end
section
set_option tactic.hygienic false
open PySem PySem.W PyProof.Rows PySem.Calls PySem.Spec PyProof.V
namespace Mine.Internal
noncomputable def nulN : Str := Str.ofString "invalid-codepoint"
noncomputable def eofN (q : Nat) : Str := if q = 34 then Str.ofString "eof-in-attribute-value-double-quote" else Str.ofString "eof-in-attribute-value-single-quote"
noncomputable def stopQ (q c : Nat) : Bool := c == q || (c == 38 || c == 0)
noncomputable def runQ (q c : Nat) : Bool := !stopQ q c
noncomputable def stQ (q : Nat) (r : List Nat) : Ck := match r with
  | [] => ⟨[], [.tok 7 (eofN q)], []⟩
  | c :: t => if c = q then ⟨[], [], t⟩ else if c = 38 then ceR (some q) t else if c = 0 then ⟨[65533], [.tok 7 nulN], t⟩ else ⟨c :: t.takeWhile (runQ q), [], t.dropWhile (runQ q)⟩
theorem stQ_nil {q : Nat} {r : List Nat} (h : r = []) : stQ q r = ⟨[], [.tok 7 (eofN q)], []⟩ := by subst h; rfl
theorem stQ_nil34 {r : List Nat} (h : r = []) : stQ 34 r = ⟨[], [.tok 7 (Str.ofString "eof-in-attribute-value-double-quote")], []⟩ := by subst h; rfl
theorem stQ_nil39 {r : List Nat} (h : r = []) : stQ 39 r = ⟨[], [.tok 7 (Str.ofString "eof-in-attribute-value-single-quote")], []⟩ := by subst h; rfl
theorem stQ_q {q c : Nat} {r t : List Nat} (h : r = c :: t) (e : c = q) : stQ q r = ⟨[], [], t⟩ := by subst h; exact if_pos e
theorem stQ_amp {q c : Nat} {r t : List Nat} (h : r = c :: t) (n : c ≠ q) (e : c = 38) : stQ q r = ceR (some q) t := by subst h; exact (if_neg n).trans (if_pos e)
theorem stQ_nul {q c : Nat} {r t : List Nat} (h : r = c :: t) (n : c ≠ q) (n2 : c ≠ 38) (e : c = 0) : stQ q r = ⟨[65533], [.tok 7 nulN], t⟩ := by subst h; exact (if_neg n).trans ((if_neg n2).trans (if_pos e))
theorem run_uq {al : Nat → Bool} : ∀ {p r' : List Nat}, (∀ c ∈ p, al c = true) → (∀ c t, r' = c :: t → al c = false) → (p ++ r').takeWhile al = p ∧ (p ++ r').dropWhile al = r'
  | [], r', _, h2 => by
    cases r' with
    | nil => exact ⟨rfl, rfl⟩
    | cons c t =>
      have e := h2 c t rfl
      rw [List.nil_append, List.takeWhile_cons, List.dropWhile_cons, e]
      exact ⟨rfl, rfl⟩
  | a :: p, r', h1, h2 => by
    have e := h1 a (.head _)
    have ih := run_uq (p := p) (r' := r') (fun c hc => h1 c (.tail _ hc)) h2
    rw [List.cons_append, List.takeWhile_cons, List.dropWhile_cons, if_pos e, if_pos e, ih.1]
    exact ⟨rfl, ih.2⟩
theorem run_of {q : Nat} {t p r' : List Nat} (e : t = p ++ r') (h1 : ∀ c ∈ p, stopQ q c = false) (h2 : ∀ c t, r' = c :: t → stopQ q c = true) : t.takeWhile (runQ q) = p ∧ t.dropWhile (runQ q) = r' := by
  subst e
  exact run_uq (fun c hc => by unfold runQ; rw [h1 c hc]; rfl) (fun c t e => by unfold runQ; rw [h2 c t e]; rfl)
theorem stQ_run {q c : Nat} {r t p r' : List Nat} (h : r = c :: t) (n : c ≠ q) (n2 : c ≠ 38) (n3 : c ≠ 0) (e : t = p ++ r') (h1 : ∀ c ∈ p, stopQ q c = false) (h2 : ∀ c t, r' = c :: t → stopQ q c = true) : stQ q r = ⟨c :: p, [], r'⟩ := by
  obtain ⟨e1, e2⟩ := run_of e h1 h2
  subst h
  refine (if_neg n).trans ((if_neg n2).trans ((if_neg n3).trans ?_))
  rw [e1, e2]
theorem chr_is {a c : Nat} {x : Str} (h : ((⟨#[c]⟩ : Str) == x) = true) (hx : x = ⟨#[a]⟩ := by decide +kernel) : c = a := by
  subst hx; rw [chr_beq] at h; exact (eq_of_beq h).symm
theorem chr_no {a c : Nat} {x : Str} (h : ((⟨#[c]⟩ : Str) == x) = false) (hx : x = ⟨#[a]⟩ := by decide +kernel) : c ≠ a := by
  subst hx; rw [chr_beq] at h; exact fun e => absurd h (by rw [e]; simp)
noncomputable abbrev Kz.go (Z : Kz) (v : Value) : Kz := ⟨Z.za, Z.zd, Z.m0, Z.m1, Z.m2, Z.m3, Z.m4, Z.m5, Z.m6, Z.v1, Z.v2, Z.v3, v, Z.v5, Z.v6⟩
noncomputable def StP (prog : Program) (w : World) (K : Ks) (Z : Kz) (m7 : Tok) (tq : Addr) (B : At) (qs : List Value) (val : Str) (R : Ck) : CPost := fun v fr l =>
  ∃ (v4 : Value) (y : St) (adds : List Value) (n : Nat) (val' : Str) (vt : Tok), v = .bool true ∧ y.ok K.src ∧ y.rem K.src = R.rem ∧ QIs prog w fr adds R.ks ∧
    val'.cps.toList = val.cps.toList ++ R.out ∧ l = Lz w K (Z.go v4) m7 tq B (qs ++ adds) n val' vt (K.led w y)
section
variable {prog : Program} {w : World} {K : Ks} {Z : Kz} {m7 : Tok} {tq : Addr} {B : At}
theorem go_end {fs : List Addr} {g' : Heap} {qs ql adds : List Value} {qn n : Nat} {val val' : Str} {vt vt' : Tok} {x y : St} {R R₀ : Ck} {g h : Heap} {L : Addr} {m : Str → Option Value} {s : Shared} {nl rest fl : Led} {tk : Nat} {v4 : Value} (ho : K.ord) (hk : @LT.lt Nat _ Z.zd Z.za ∧ @LT.lt Nat _ Z.za K.sd ∧ @LT.lt Nat _ K.er tq) (hb : B.ord tq)
    (hR : R₀ = R) (hT0 : KtsTurn fs g g') (F : Fr g' L h m) (N : News g' L h nl) (hT : Take (Lz w K (Z.go v4) m7 tq B ql n val' vt' (K.led w y)) nl rest) (hql : ql = qs ++ adds) (hfl : ∀ p ∈ fl, p ∈ nl) (hgt : ∀ p ∈ fl, @LT.lt Nat _ B.dl p.1) (ok : y.ok K.src) (hrem : y.rem K.src = R.rem) (hks : QIs prog w fl adds R.ks)
    (hv : val'.cps.toList = val.cps.toList ++ R.out) :
    CEndS fs g (Lz w K Z m7 tq B qs qn val vt (K.led w x)) (StP prog w K Z m7 tq B qs val R₀) s (.bool true) { s with heap := h, toks := tk } := by
  subst hql
  subst hR
  refine cendS (fr := fl) hT0 F N ?_ (fun p hp r hr e => ?_) ⟨v4, y, adds, n, val', vt', rfl, ok, hrem, hks, hv, rfl⟩
  · intro p hp
    rcases List.mem_append.mp hp with hp | hp
    · exact hfl p hp
    · exact hT.sub p hp
  · exact Nat.lt_irrefl _ (Nat.lt_of_le_of_lt (lz_le ho hk hb r hr) (e ▸ hgt p hp))
theorem go_end1 {fs : List Addr} {g' : Heap} {qs : List Value} {qn n : Nat} {val val' : Str} {vt vt' : Tok} {x y : St} {R₀ : Ck} {out rem : List Nat} {nm : Str} {d : Addr} {o : Obj} {g h : Heap} {L : Addr} {m : Str → Option Value} {s : Shared} {nl rest : Led} {tk : Nat} {v4 : Value} (ho : K.ord) (hk : @LT.lt Nat _ Z.zd Z.za ∧ @LT.lt Nat _ Z.za K.sd ∧ @LT.lt Nat _ K.er tq) (hb : B.ord tq)
    (hR : R₀ = ⟨out, [.tok 7 nm], rem⟩) (hT0 : KtsTurn fs g g') (F : Fr g' L h m) (N : News g' L h nl) (hT : Take (Lz w K (Z.go v4) m7 tq B (qs ++ [.ref d]) n val' vt' (K.led w y)) nl rest) (hm : (d, o) ∈ nl) (hgt : @LT.lt Nat _ B.dl d) (l : (d == sysModules) = false)
    (hd : ∃ t1 t2, o.IsDictOf (PySem.strKind prog w) [(Str.ofString "type", .int 7 t1), (Str.ofString "data", .str nm t2)]) (ok : y.ok K.src) (hrem : y.rem K.src = rem) (hv : val'.cps.toList = val.cps.toList ++ out) :
    CEndS fs g (Lz w K Z m7 tq B qs qn val vt (K.led w x)) (StP prog w K Z m7 tq B qs val R₀) s (.bool true) { s with heap := h, toks := tk } :=
  go_end (fl := [(d, o)]) (adds := [.ref d]) ho hk hb hR hT0 F N hT rfl (List.forall_mem_cons.mpr ⟨hm, List.forall_mem_nil _⟩) (List.forall_mem_cons.mpr ⟨hgt, List.forall_mem_nil _⟩) ok hrem (.cons ⟨d, o, rfl, .head _, l, hd⟩ .nil) hv
end
end Mine.Internal
namespace Mine.Internal
theorem allow34 {t : Tok} : AllowIs (.str (Str.ofString "\"") t) (some 34) := .inr ⟨34, t, by rw [show Str.ofString "\"" = ⟨#[34]⟩ from by decide +kernel], rfl⟩
theorem allow39 {t : Tok} : AllowIs (.str (Str.ofString "'") t) (some 39) := .inr ⟨39, t, by rw [show Str.ofString "'" = ⟨#[39]⟩ from by decide +kernel], rfl⟩
theorem rem_len {r t : List Nat} {c n : Nat} (h : r = c :: t) (hl : r.length ≤ n) : t.length ≤ n := Nat.le_trans (Nat.le_succ _) (by subst h; exact hl)
theorem stop_any {q : Nat} {x y z : Str} (hx : x = ⟨#[q]⟩) (hy : y = ⟨#[38]⟩) (hz : z = ⟨#[0]⟩) (c : Nat) : [x, y, z].any (· == ⟨#[c]⟩) = stopQ q c := by
  subst hx hy hz
  simp only [List.any_cons, List.any_nil, chr_beq, Bool.or_false]
  rfl
theorem stop_any34 (c : Nat) : [Str.ofString "\"", Str.ofString "&", Str.ofString "\x00"].any (· == ⟨#[c]⟩) = stopQ 34 c := stop_any (by decide +kernel) (by decide +kernel) (by decide +kernel) c
theorem stop_any39 (c : Nat) : [Str.ofString "'", Str.ofString "&", Str.ofString "\x00"].any (· == ⟨#[c]⟩) = stopQ 39 c := stop_any (by decide +kernel) (by decide +kernel) (by decide +kernel) c
theorem run_len {r t p r' : List Nat} {c : Nat} (h : r = c :: t) (e : t = p ++ r') (hl : r.length ≤ 640) : (⟨#[c]⟩ : Str).length + (⟨p.toArray⟩ : Str).length ≤ 641 := by
  subst e
  subst h
  rw [List.length_cons, List.length_append] at hl
  show 1 + p.toArray.size ≤ 641
  rw [List.size_toArray]; omega
theorem run_fits {r t p r' : List Nat} {c : Nat} (h : r = c :: t) (e : t = p ++ r') (hl : r.length ≤ 640) : (⟨#[c]⟩ : Str).length + (⟨p.toArray⟩ : Str).length ≤ sizeLine := Nat.le_trans (run_len h e hl) (by rw [sizeLine_eq]; decide)
theorem run_toList (c : Nat) (p : List Nat) : ((⟨#[c]⟩ : Str) ++ (⟨p.toArray⟩ : Str)).cps.toList = c :: p := by rw [toList_app]; rfl
theorem val_run {val : Str} {r t p r' : List Nat} {c : Nat} (hv : val.length ≤ 100000) (h : r = c :: t) (e : t = p ++ r') (hl : r.length ≤ 640) : val.length + ((⟨#[c]⟩ : Str) ++ (⟨p.toArray⟩ : Str)).length ≤ sizeLine := by
  have h1 := run_len h e hl
  have h2 : ((⟨#[c]⟩ : Str) ++ (⟨p.toArray⟩ : Str)).length = (⟨#[c]⟩ : Str).length + (⟨p.toArray⟩ : Str).length := by
    rw [← len_toList, run_toList]
    show p.length + 1 = 1 + p.toArray.size
    rw [List.size_toArray, Nat.add_comm]
  rw [h2, sizeLine_eq]; omega
theorem val_nul {val : Str} (hv : val.length ≤ 100000) : val.length + (Str.ofString "\ufffd").length ≤ sizeLine := by
  rw [show (Str.ofString "\ufffd").length = 1 from by decide +kernel, sizeLine_eq]; omega
theorem toList_nul (val : Str) : (val ++ Str.ofString "\ufffd").cps.toList = val.cps.toList ++ [65533] := by
  rw [toList_app, show (Str.ofString "\ufffd").cps.toList = [65533] from by decide +kernel]
theorem toList_run (val : Str) (c : Nat) (p : List Nat) : (val ++ ((⟨#[c]⟩ : Str) ++ (⟨p.toArray⟩ : Str))).cps.toList = val.cps.toList ++ (c :: p) := by rw [toList_app, run_toList]
end Mine.Internal
namespace Mine.Internal
noncomputable def headG (l : List Nat) : Bool := match l with | [] => true | c :: _ => goodC c
noncomputable def ampB (l : List Nat) : Bool := match l with | [] => true | c :: t => (c != 38 || headG t) && ampB t
theorem ampB_c {c : Nat} {t : List Nat} : ampB (c :: t) = ((c != 38 || headG t) && ampB t) := rfl
theorem amp_at {t : List Nat} (h : ampB (38 :: t) = true) : headG t = true := (Bool.and_eq_true_iff.mp h).1
theorem headG_app {a b : List Nat} (h : headG a = true) (h' : headG b = true) : headG (a ++ b) = true := by
  cases a with
  | nil => exact h'
  | cons c t => exact h
theorem ampB_app {a b : List Nat} (h : ampB a = true) (h' : ampB b = true) (g : headG b = true) : ampB (a ++ b) = true := by
  induction a with
  | nil => exact h'
  | cons c t ih =>
    rw [ampB_c, Bool.and_eq_true, Bool.or_eq_true] at h
    rw [List.cons_append, ampB_c, Bool.and_eq_true, Bool.or_eq_true]
    exact ⟨h.1.imp id (fun q => headG_app q g), ih h.2⟩
theorem ampB_drop {l : List Nat} (h : ampB l = true) : ∀ n, ampB (l.drop n) = true := by
  intro n
  induction n generalizing l with
  | zero => exact h
  | succ n ih =>
    cases l with
    | nil => rfl
    | cons c t => exact ih (Bool.and_eq_true_iff.mp h).2
theorem headG_mend {l : List Nat} (h : headG l = true) : headG (mendF false l) = true := by
  cases l with
  | nil => rfl
  | cons c t =>
    simp only [mendF_c]
    rw [if_neg (by simp)]
    split
    · rfl
    · exact h
theorem ampB_mend : ∀ {l : List Nat} (f : Bool), ampB l = true → ampB (mendF f l) = true
  | [], _, _ => by simp [mendF_n, ampB]
  | c :: t, f, h => by
    have h2 := (Bool.and_eq_true_iff.mp h).2
    have h1 := (Bool.and_eq_true_iff.mp h).1
    simp only [mendF_c]
    split
    · exact ampB_mend false h2
    · split
      · exact ampB_mend true h2
      · rw [ampB_c, Bool.and_eq_true, Bool.or_eq_true]
        exact ⟨(Bool.or_eq_true_iff.mp h1).imp id headG_mend, ampB_mend false h2⟩
theorem good_no {al : Option Nat} {c : Nat} {t : List Nat} (hg : goodC c = true) (hs : stopC al (c :: t) = false) (hc : c ≠ 35) : hasPre ⟨#[c]⟩ = false := by
  have hs : (blankN c || c == 60 || c == 38 || al == some c) = false := hs
  simp only [Bool.or_eq_false_iff] at hs
  unfold goodC at hg
  rw [hs.1.1.1, hs.1.1.2, hs.1.2, beq_eq_false_iff_ne.mpr hc] at hg
  simpa using hg
theorem amp_no {al : Option Nat} {T : List Nat} (h : ampB T = true) : ∀ r, T = 38 :: r → ∀ c t, r = c :: t → stopC al r = false → c ≠ 35 → hasPre ⟨#[c]⟩ = false := by
  intro r e c t e2 hs hc
  subst e e2
  exact good_no (amp_at h) hs hc
noncomputable def piece5 : List Str := [Str.ofString "d", Str.ofString " ", Str.ofString "\n", Str.ofString "&#", Str.ofString "&#x", Str.ofString "&#X", Str.ofString "&", Str.ofString "5", Str.ofString "0", Str.ofString "13;", Str.ofString "D800", Str.ofString "80", Str.ofString "10FFFF", Str.ofString "10FFFE;", Str.ofString ";", Str.ofString "\x00", Str.ofString "\"", Str.ofString "'", Str.ofString "=", Str.ofString "z;", Str.ofString "é", Str.ofString "١", Str.ofString "F", Str.ofString "&#13;", Str.ofString "&#x80;", Str.ofString "&#34;", Str.ofString "&#38;", Str.ofString "&#x", Str.ofString "x", Str.ofString "1", Str.ofString "\x0d\n", Str.ofString "<>"]
noncomputable def pre5 (x : Str) : Bool := (decide (x.length ≤ 7) && x.cps.toList.all (· < 55296)) && (ampB x.cps.toList && headG x.cps.toList)
theorem pieces5 : piece5.all pre5 = true := by decide +kernel
theorem piece5_at (k : Nat) : pre5 (piece5.getD k Str.empty) = true := by
  rw [List.getD_eq_getElem?_getD]
  cases q : piece5[k]? with
  | none => decide +kernel
  | some x => exact List.all_eq_true.mp pieces5 x (List.mem_of_getElem? q)
structure Txt5 (n : Nat) (l : List Nat) : Prop where
  len : l.length ≤ n
  small : ∀ c ∈ l, c < 55296
  amp : ampB l = true
  head : headG l = true
theorem pre5_txt {x : Str} (h : pre5 x = true) : Txt5 7 x.cps.toList := by
  delta pre5 at h
  have h2 := Bool.and_eq_true_iff.mp (Bool.and_eq_true_iff.mp h).2
  have h1 := (Bool.and_eq_true_iff.mp h).1
  rw [Bool.and_eq_true, decide_eq_true_eq, List.all_eq_true] at h1
  exact ⟨by rw [len_toList]; exact h1.1, fun c hc => by simpa using h1.2 c hc, h2.1, h2.2⟩
theorem Txt5.app {n m : Nat} {a b : List Nat} (h : Txt5 n a) (h' : Txt5 m b) : Txt5 (n + m) (a ++ b) :=
  ⟨by rw [List.length_append]; exact Nat.add_le_add h.len h'.len, fun c hc => (List.mem_append.mp hc).elim (h.small c) (h'.small c), ampB_app h.amp h'.amp h'.head, headG_app h.head h'.head⟩
theorem flat5 : ∀ {ws : List Str}, (∀ x ∈ ws, pre5 x = true) → Txt5 (7 * ws.length) (flat ws)
  | [], _ => ⟨Nat.le_refl _, (fun _ h => nomatch h), rfl, rfl⟩
  | x :: r, h => by
    have h3 := (pre5_txt (h x (.head _))).app (flat5 (ws := r) (fun y hy => h y (.tail _ hy)))
    rw [List.length_cons, Nat.mul_succ, Nat.add_comm (7 * r.length) 7]
    exact h3
theorem join5 {prog : Program} {w : World} {A : Around} {E : Value → Shared → Prop} {s : Shared} {h₀ : Heap} {L : Addr} {news : List (Addr × Obj)} {D : Addr} {ys : List Value} {ns : List Int} {t : Tok} {Q : Value → Shared → Prop} (N : News h₀ L s.heap news) (hm : (D, LCg.lst ys) ∈ news) (hc : CarriedAll ys (ns.map fun k => PyData.str (piece5.getD (k.fmod 32).toNat Str.empty))) (hn : ns.length = 10)
    (h : ∀ (x : Str) t' k, Txt5 70 x.cps.toList → Q (.str x t') { s with toks := k }) : wpAny (model prog w) A (call (.builtin "str.join") [.str (Str.ofString "") t, .ref D]) Q E s := by
  have hi := carried_strs hc
  have hok : ∀ x ∈ ns.map (fun k : Int => piece5.getD (k.fmod 32).toNat Str.empty), pre5 x = true := fun x hx => by obtain ⟨k, _, rfl⟩ := List.mem_map.mp hx; exact piece5_at _
  have ht := flat5 hok
  rw [List.length_map, hn] at ht
  refine join_flats (News.isList N hm) hi ?_ ?_ (fun t' k => h _ t' k ht)
  · rw [strs_len hi, List.length_map]; omega
  · have := ht.len; omega
theorem len5 {x : Str} (h : Txt5 70 x.cps.toList) : x.length ≤ 10000 := by
  have := h.len
  rw [len_toList] at this; omega
theorem mend5 {x : Str} (h : Txt5 70 x.cps.toList) : (mendS x).length ≤ 70 := by
  have h1 := mendF_len x.cps.toList false
  have h2 := h.len
  rw [← len_toList, mendS_toList, mendL_F]; omega
theorem mend5_amp {x : Str} (h : Txt5 70 x.cps.toList) : ampB (mendS x).cps.toList = true := by
  rw [mendS_toList, mendL_F]; exact ampB_mend false h.amp
end Mine.Internal
namespace Mine.Internal
section
variable {prog : Program} {w : World} {A : Around} {E : Value → Shared → Prop} {s : Shared} {g : Heap} {L : Addr} {m : Str → Option Value} {news : List (Addr × Obj)}
structure MeetT (g : Heap) (L : Addr) (m : Str → Option Value) (news : List (Addr × Obj)) (s : Shared) (v : Value) (s' : Shared) : Prop where
  st : ∃ (h' : Heap) (k : Nat) (l : Addr) (vs : List Value) (n : Nat) (ns : List Int), v = .ref l ∧ IntsAre vs ns ∧ vs.length = 10 ∧ s' = { s with heap := h', toks := k } ∧ Fr g L h' m ∧ News g L h' ((l, W.listOf vs.toArray n) :: news)
theorem wp_meetT {t : Sem Value} {Q : Value → Shared → Prop} (_ : Fr g L s.heap m) (_ : News g L s.heap news)
    (hq : ∀ l (vs : List Value) (ns : List Int) n h' k, IntsAre vs ns → ns.length = 10 → Fr g L h' m → News g L h' ((l, W.listOf vs.toArray n) :: news) → Q (.ref l) { s with heap := h', toks := k })
    (hw : wpAny (model prog w) A t (MeetT g L m news s) E s) : wpAny (model prog w) A t Q E s :=
  wpAny_mono hw (fun v s' x => by
    obtain ⟨h', k, l, vs, n, ns, hv, hi, hl, e, F, N⟩ := x
    subst e; subst hv
    exact hq l vs ns n h' k hi (ints_len hi ▸ hl) F N) (fun _ _ e => e)
theorem size10 {vs : List Value} {ns : List Int} (h : IntsAre vs ns) (hl : ns.length = 10) : vs.toArray.size ≤ sizeLine := by
  rw [List.size_toArray, ints_len h, hl, sizeLine_eq]; decide
theorem meetT_lc {h' : Heap} {k : Nat} {r : List (Addr × Obj)} {l : Addr} {vs : List Value} {ns : List Int} (F : Fr g L h' m) (N : News g L h' ((l, LCg.lst vs) :: r)) (hi : IntsAre vs ns) (hl : vs.length = 10) :
    MeetT g L m [] s (.ref l) { s with heap := h', toks := k } := ⟨h', k, l, vs, vs.length, ns, rfl, hi, hl, rfl, F, fun p hp => by cases List.mem_singleton.mp hp; exact N (l, LCg.lst vs) (.head _)⟩
end
section
variable {prog : Program} {w : World} {A : Around} {E : Value → Shared → Prop} {Q : Flow → Shared → Prop} {s : Shared} {env : Env} {h₀ : Heap} {x : Str} {body : List Stmt} {m₀ : Str → Option Value}
theorem loop5 {l : Addr} {t1 t2 : Tok} {nn : Nat} (stored : List Str) (rest : Led) (hh : A.handled = none) (F : Fr h₀ env.locals s.heap m₀) (N : News h₀ env.locals s.heap ((l, W.listOf [Value.str (Str.ofString "\"") t1, .str (Str.ofString "'") t2].toArray nn) :: rest))
    (turn : ∀ (q : Nat) (tq9 : Tok) (u : Str → Option Value) h tk own, (q = 34 ∨ q = 39) → Fr h₀ env.locals h (fun y => if y = x then some (.str ⟨#[q]⟩ tq9) else kstB (fun z => if stored.contains z then u z else m₀ z) [] y) → News h₀ env.locals h ((l, W.listOf [Value.str (Str.ofString "\"") t1, .str (Str.ofString "'") t2].toArray nn) :: (rest ++ own)) →
      wpAny (model prog w) A (execs body env) (TurnGo h₀ env.locals x stored m₀ ((l, W.listOf [Value.str (Str.ofString "\"") t1, .str (Str.ofString "'") t2].toArray nn) :: (rest ++ own)) { s with heap := h, toks := tk } Q) E { s with heap := h, toks := tk })
    (done : ∀ (u : Str → Option Value) h tk, Fr h₀ env.locals h (fun y => if y = x then u y else kstB (fun z => if stored.contains z then u z else m₀ z) [] y) → News h₀ env.locals h ((l, W.listOf [Value.str (Str.ofString "\"") t1, .str (Str.ofString "'") t2].toArray nn) :: rest) → Q .next { s with heap := h, toks := tk }) :
    wpAny (model prog w) A (pyIter (.ref l)) (fun it s₂ => LoopAtV prog w A h₀ env x body Q E it s₂) E s := by
  have e1 : Str.ofString "\"" = ⟨#[34]⟩ := by decide +kernel
  have e2 : Str.ofString "'" = ⟨#[39]⟩ := by decide +kernel
  refine loop_data (ds := [.str (Str.ofString "\""), .str (Str.ofString "'")]) stored rest hh F N (.cons (.str _ _) (.cons (.str _ _) .nil)) (fun nl d v u h tk own hmem hin F' N' => ?_) done
  simp only [List.mem_cons, List.not_mem_nil, or_false] at hmem
  rcases hmem with rfl | rfl
  · cases hin; rw [e1] at F'; exact turn 34 _ u h tk own (.inl rfl) F' N'
  · cases hin; rw [e2] at F'; exact turn 39 _ u h tk own (.inr rfl) F' N'
end
end Mine.Internal
namespace Mine.Internal
section
variable {prog : Program} {w : World} {Kf : Frag} {TP : Heap → Prop} {K : Ks} {Z : Kz} {m7 : Tok} {tq : Addr} {Bt : At} {qs : List Value} {qn : Nat} {x : St} {val : Str} {vt : Tok} {R : Ck} {D U : Nat} {f : Value} {pos : List Value} {kw : List (Str × Value)}
theorem CtrS.st0 (C : CtrS prog w Kf TP D U f ⟨pos, kw⟩ (Lz w K Z m7 tq Bt qs qn val vt (K.led w x)) (StP prog w K Z m7 tq Bt qs val R))
    {A A₀ : Around} {base h₀ : Heap} {env : Env} {L : Addr} {m : Str → Option Value} {s : Shared} {Q E : Value → Shared → Prop} {N rest : Led}
    (ho : K.ord) (hk : @LT.lt Nat _ Z.zd Z.za ∧ @LT.lt Nat _ Z.za K.sd ∧ @LT.lt Nat _ K.er tq) (hb : Bt.ord tq)
    (B : Below A₀ base [] h₀) (F : Fr h₀ L s.heap m) (X : Kf.In h₀) (T : TP h₀) (XB : Kf.In base) (TB : TP base)
    (hA : A.frames = some [env]) (hf : env.frame = some L) (hke : env.scope.kind = .function) (hh : A.handled = none) (hd : A.depth ≤ D) (hu : A.units ≤ U) (Nw : News h₀ L s.heap N)
    (tk : Take (Lz w K Z m7 tq Bt qs qn val vt (K.led w x)) N rest) (hne : ∀ p ∈ rest, @LT.lt Nat _ p.1 Z.zd ∨ @LT.lt Nat _ Bt.dl p.1 ∨ (@LT.lt Nat _ Bt.ct p.1 ∧ @LT.lt Nat _ p.1 Bt.p2))
    (hQ : ∀ (v4 : Value) (y : St) (fl : Led) (adds : List Value) (n : Nat) (val' : Str) (vt' : Tok) (h' : Heap) (tk' : Nat), y.ok K.src → y.rem K.src = R.rem → (∀ p ∈ fl, ∀ r ∈ N, @LT.lt Nat _ r.1 p.1) → QIs prog w fl adds R.ks → val'.cps.toList = val.cps.toList ++ R.out →
      Fr h₀ L h' m → News h₀ L h' (Lz w K (Z.go v4) m7 tq Bt (qs ++ adds) n val' vt' (rest ++ (fl ++ K.led w y))) → Q (.bool true) { s with heap := h', toks := tk' }) :
    wpAny (model prog w) A (PySem.call f pos kw) Q E s := by
  refine CtrS.call C B F X (tk.news Nw) T XB TB ktsDicts_nil hA hf hke hh hd hu (fun p hp q hq e => ?_) ?_
  · rcases hne p hp with h | h | ⟨h, h'⟩
    · exact Nat.lt_irrefl _ (Nat.lt_of_lt_of_le (e ▸ h) (lz_ge (T := []) ho hk hb q hq))
    · exact Nat.lt_irrefl _ (Nat.lt_of_lt_of_le (e ▸ h) (lz_le ho hk hb q hq))
    · rcases lz_gap ho hk hb q hq with h2 | h2
      · exact Nat.lt_irrefl _ (Nat.lt_of_lt_of_le (e ▸ h) h2)
      · exact Nat.lt_irrefl _ (Nat.lt_of_lt_of_le (e ▸ h') h2)
  · intro v fr l' h' tk' h₀' hp ht hfr T' F' N' B' X' P' D'
    obtain ⟨v4, y, adds, n, val', vt', rfl, ok, hrem, hks, hval, rfl⟩ := hp
    refine hQ v4 y fr adds n val' vt' h' tk' ok hrem (fun p hp r hr => hfr p hp r (tk.sup r hr)) hks hval (fr_back T' F') (news_back T' fun p hp => N' p ?_)
    have q1 : ∀ p ∈ fr, p ∈ fr ++ Lz w K (Z.go v4) m7 tq Bt (qs ++ adds) n val' vt' (K.led w y) ++ rest := fun p hp => List.mem_append_left _ (List.mem_append_left _ hp)
    have q2 : ∀ p ∈ Lz w K (Z.go v4) m7 tq Bt (qs ++ adds) n val' vt' (K.led w y), p ∈ fr ++ Lz w K (Z.go v4) m7 tq Bt (qs ++ adds) n val' vt' (K.led w y) ++ rest := fun p hp => List.mem_append_left _ (List.mem_append_right _ hp)
    exact six_tail q2 (app_in (fun p hp => List.mem_append_right _ hp) (app_in q1 (six_in q2))) p hp
end
end Mine.Internal
namespace Mine.Internal
theorem stQ_ks {q : Nat} {r : List Nat} : (stQ q r).ks.length ≤ 2 := by
  cases r with
  | nil => exact Nat.le_succ _
  | cons c t =>
    show (if c = q then _ else if c = 38 then _ else if c = 0 then _ else _ : Ck).ks.length ≤ 2
    split
    · exact Nat.zero_le _
    · split
      · exact ce_ks
      · split
        · exact Nat.le_succ _
        · exact Nat.zero_le _
theorem ce_rem {al : Option Nat} {T : List Nat} : (ceR al T).rem.length ≤ T.length := by
  obtain ⟨P, h, _⟩ := ce_taken al T
  have := congrArg List.length h
  rw [List.length_append] at this; omega
theorem stQ_out {q : Nat} {r : List Nat} : (stQ q r).out.length + 3 * (stQ q r).rem.length ≤ 3 * r.length := by
  cases r with
  | nil => exact Nat.le_refl _
  | cons c t =>
    show (if c = q then _ else if c = 38 then _ else if c = 0 then _ else _ : Ck).out.length + 3 * (if c = q then _ else if c = 38 then _ else if c = 0 then _ else _ : Ck).rem.length ≤ 3 * (t.length + 1)
    split
    · show 0 + 3 * t.length ≤ _; omega
    · split
      · have h1 := ce_out (al := some q) (T := t)
        have h2 := ce_rem (al := some q) (T := t)
        omega
      · split
        · show 1 + 3 * t.length ≤ _; omega
        · show (t.takeWhile (runQ q)).length + 1 + 3 * (t.dropWhile (runQ q)).length ≤ _
          have h := congrArg List.length (List.takeWhile_append_dropWhile (p := runQ q) (l := t))
          rw [List.length_append] at h; omega
theorem sg_is {T : Str} {a : Int} {c : Nat} {x : Str} (h : (Txt.slice T (some a) (some (a + 1)) == x) = true) (h0 : 0 ≤ a) (hx : x = ⟨#[c]⟩) : T.cps.toList.drop a.toNat = c :: T.cps.toList.drop (a + 1).toNat := by
  subst hx
  rw [drop_take1 h0 rfl] at h
  rw [show (a + 1).toNat = a.toNat + 1 from Int.toNat_add h0 (by decide : (0 : Int) ≤ 1), ← List.drop_drop]
  cases q : T.cps.toList.drop a.toNat with
  | nil => rw [q] at h; exact absurd h (by rw [show (⟨(List.take 1 ([] : List Nat)).toArray⟩ : Str) = ⟨#[]⟩ from rfl, emp_beq']; decide)
  | cons d t =>
    rw [q] at h
    have h' : ((⟨#[d]⟩ : Str) == ⟨#[c]⟩) = true := h
    rw [chr_beq] at h'
    rw [eq_of_beq h']; rfl
theorem sg_no {T : Str} {a : Int} {c : Nat} {x : Str} (h : (Txt.slice T (some a) (some (a + 1)) == x) = false) (h0 : 0 ≤ a) (hx : x = ⟨#[c]⟩) : ∀ d t, T.cps.toList.drop a.toNat = d :: t → d ≠ c := by
  subst hx
  intro d t e ed
  rw [drop_take1 h0 rfl, e, ed] at h
  have h' : ((⟨#[c]⟩ : Str) == ⟨#[c]⟩) = false := h
  rw [chr_beq] at h'
  simp at h'
theorem sg_nil {T : Str} {a : Int} {x : Str} (h : (Txt.slice T (some a) (some (a + 1)) == x) = true) (h0 : 0 ≤ a) (hx : x = ⟨#[]⟩) : T.cps.toList.drop a.toNat = [] := by
  subst hx
  rw [drop_take1 h0 rfl] at h
  cases q : T.cps.toList.drop a.toNat with
  | nil => rfl
  | cons d t =>
    rw [q] at h
    have h' : ((⟨#[d]⟩ : Str) == ⟨#[]⟩) = true := h
    rw [emp_beq] at h'; cases h'
theorem sg_some {T : Str} {a : Int} {x : Str} (h : (Txt.slice T (some a) (some (a + 1)) == x) = false) (h0 : 0 ≤ a) (hx : x = ⟨#[]⟩) : ∃ c, T.cps.toList.drop a.toNat = c :: T.cps.toList.drop (a + 1).toNat ∧ Txt.slice T (some a) (some (a + 1)) = ⟨#[c]⟩ := by
  subst hx
  rw [drop_take1 h0 rfl] at h ⊢
  rw [show (a + 1).toNat = a.toNat + 1 from Int.toNat_add h0 (by decide : (0 : Int) ≤ 1), ← List.drop_drop]
  cases q : T.cps.toList.drop a.toNat with
  | nil => rw [q] at h; exact absurd h (by decide +kernel)
  | cons d t => exact ⟨d, rfl, rfl⟩
end Mine.Internal
namespace Mine.Internal
section
variable {prog : Program} {w : World} {A : Around} {E : Value → Shared → Prop} {s : Shared} {h₀ : Heap} {L : Addr} {m : Str → Option Value} {news news' : List (Addr × Obj)}
theorem iadd_list {a b : Addr} {xs ys : List Value} {n n2 n' : Nat} {Q : Value → Shared → Prop} (hn : n' = if (xs.toArray ++ ys.toArray).size == xs.toArray.size then n else n + 1) (F : Fr h₀ L s.heap m) (N : News h₀ L s.heap news)
    (U : Upd a (W.listOf xs.toArray n) (W.listOf (xs ++ ys).toArray n') news news') (hb : (b, W.listOf ys.toArray n2) ∈ news) (hz : xs.length + ys.length ≤ 200000)
    (h : ∀ h', Fr h₀ L h' m → News h₀ L h' news' → Q (.ref a) { s with heap := h' }) : wpAny (model prog w) A (inplaceOp .Add (.ref a) (.ref b)) Q E s := by
  obtain ⟨pre, post, rfl, rfl, e1, e2⟩ := U.split
  have z := N (a, W.listOf xs.toArray n) (List.mem_append.mpr (.inr (.head _)))
  have hl : IsL s.heap a xs.toArray n := z.1
  have hb' : IsL s.heap b ys.toArray n2 := (N _ hb).1
  have hsz : xs.toArray.size + ys.toArray.size ≤ sizeLine := by
    rw [List.size_toArray, List.size_toArray, sizeLine_eq]; omega
  have hfi : fillsInplaceSlot (.type "list") "add" (Operator.Add == .Add) = pure false := by
    unfold fillsInplaceSlot
    show (typeLookup (.type "list") (dunderI "add") >>= fun fi => pure (fi.isSome && !isSeqSlot fi)) = pure false
    rw [PySem.F.slot_list_iadd.lookup]; rfl
  have hsi : seqSlot? (.type "list") (dunderI "add") = pure (some (.builtin "list.__iadd__")) := PySem.seqSlot_of PySem.F.slot_list_iadd.lookup (by decide +kernel)
  unfold inplaceOp
  refine wpAny_holding (wpAny_bind (wpAny_typeOf (T := "list") ⟨_, hl, rfl⟩ (wpAny_bind (wpAny_of_eq hfi ?_))))
  show wpAny _ A (if false = true then _ else _) Q E s
  rw [if_neg Bool.false_ne_true]
  refine wpAny_bind (wpAny_binaryOp1_none (nm := "add") (T := "list") ⟨_, hl, rfl⟩ ⟨_, hb', rfl⟩ noFill_list_add ?_)
  refine wpAny_bind (wpAny_of_eq hsi ?_)
  refine wpAny_bind (wpAny_rule ?_)
  refine call_meets PySem.F.slot_list_iadd ⟨_, hl, rfl⟩ PySem.F.entry_list_iadd (PySem.F.args_list_iadd_2 _ _) (AutoSeq1.list___iadd___list_list_0 a xs.toArray n b ys.toArray n2 ?_ ?_ ?_) ⟨hl, hb', ?_⟩
  · have hsz2 : xs.length + ys.length ≤ sizeLine := by rw [sizeLine_eq]; omega
    rw [PySem.Builtin.List.listTooLong]
    simp
    omega
  · omega
  · omega
  · have ho := IsL.update hl (· ++ ys.toArray)
    have ho' : (s.heap.update a (Obj.mapSeq (· ++ ys.toArray))).get? a = some (W.listOf (xs ++ ys).toArray n') := by
      rw [ho, ← hn]; simp
    exact h _ (F.change (Heap.SameBut.update ..) z.2.1 z.2.2) (news_set N e1 e2 (Heap.SameBut.update ..) ho')
end
end Mine.Internal
namespace Mine.Internal
noncomputable def stopL (q : Nat) (r : List Nat) : Bool := match r with | [] => true | c :: _ => stopQ q c
theorem run_lib {T : Str} {a : Int} {q : Nat} {b : Bool} (h : ([Str.ofString "", Str.ofString "&", Str.ofString "\x00", (⟨#[q]⟩ : Str)].any fun x => x == Txt.slice T (some a) (some (a + 1))) = b) (h0 : 0 ≤ a) : stopL q (T.cps.toList.drop a.toNat) = b := by
  subst h
  rw [show Str.ofString "" = ⟨#[]⟩ from by decide +kernel, show Str.ofString "&" = ⟨#[38]⟩ from by decide +kernel, show Str.ofString "\x00" = ⟨#[0]⟩ from by decide +kernel, drop_take1 h0 rfl]
  cases T.cps.toList.drop a.toNat with
  | nil => simp only [List.any_cons, List.take_nil]; rfl
  | cons c r =>
    have et : (⟨((c :: r).take 1).toArray⟩ : Str) = ⟨#[c]⟩ := rfl
    rw [et]
    simp only [List.any_cons, List.any_nil, chr_beq, emp_beq', Bool.false_or, Bool.or_false]
    show (c == q || (c == 38 || c == 0)) = (c == 38 || (c == 0 || c == q))
    cases (c == 38) <;> cases (c == 0) <;> cases (c == q) <;> rfl
structure Cr where
  vs : Str
  tv : Tok
  a : Int
  ta : Tok
structure Cr.ok (q : Nat) (b0 t : List Nat) (a1 : Int) (c : Cr) : Prop where
  ex : ∃ k : Nat, k ≤ (t.takeWhile (runQ q)).length ∧ c.a = a1 + k ∧ c.vs.cps.toList = b0 ++ (t.takeWhile (runQ q)).take k
structure Cr.fin (q : Nat) (b0 t : List Nat) (a1 : Int) (c : Cr) : Prop where
  a : c.a = a1 + (t.takeWhile (runQ q)).length
  vs : c.vs.cps.toList = b0 ++ t.takeWhile (runQ q)
theorem Cr.start {q : Nat} {b0 t : List Nat} {a1 : Int} {vs : Str} {tv ta : Tok} (hv : vs.cps.toList = b0) : Cr.ok q b0 t a1 ⟨vs, tv, a1, ta⟩ :=
  ⟨0, Nat.zero_le _, (Int.add_zero _).symm, by rw [List.take_zero, List.append_nil]; exact hv⟩
theorem Cr.ok.lo {q : Nat} {b0 t : List Nat} {a1 : Int} {c : Cr} (h : Cr.ok q b0 t a1 c) (h1 : 0 ≤ a1) : 0 ≤ c.a := by
  obtain ⟨k, _, h2, _⟩ := h.ex
  rw [h2]; exact Int.add_nonneg h1 (Int.natCast_nonneg k)
theorem Cr.ok.len {q : Nat} {b0 t : List Nat} {a1 : Int} {c : Cr} {n : Nat} (h : Cr.ok q b0 t a1 c) (hb : b0.length ≤ n) (ht : t.length ≤ n) : c.vs.length + 1 ≤ 2 * n + 1 := by
  obtain ⟨k, h1, _, h3⟩ := h.ex
  have h4 := congrArg List.length h3
  rw [List.length_append, List.length_take, len_toList] at h4
  have h5 := (List.takeWhile_prefix (runQ q) (l := t)).length_le
  rw [h4, Nat.two_mul]
  exact Nat.succ_le_succ (Nat.add_le_add hb (Nat.le_trans (Nat.min_le_right _ _) (Nat.le_trans h5 ht)))
theorem stopL_tw {q : Nat} {t : List Nat} {k : Nat} (hk : k ≤ (t.takeWhile (runQ q)).length) : stopL q (t.drop k) = decide (k = (t.takeWhile (runQ q)).length) := by
  rcases Nat.lt_or_ge k (t.takeWhile (runQ q)).length with h | h
  · obtain ⟨c, r, h1, h2, _⟩ := tw_at h
    rw [h1, decide_eq_false (Nat.ne_of_lt h)]
    unfold runQ at h2
    show stopQ q c = false
    simpa using h2
  · have e := Nat.le_antisymm hk h
    rw [e, tw_end, decide_eq_true rfl]
    cases r : t.dropWhile (runQ q) with
    | nil => rfl
    | cons c u =>
      have := dw_no r
      unfold runQ at this
      show stopQ q c = true
      simpa using this
theorem Cr.drop {q : Nat} {b0 t : List Nat} {a1 : Int} {c : Cr} {T : Str} (ht : T.cps.toList.drop a1.toNat = t) (h1 : 0 ≤ a1) {k : Nat} (e : c.a = a1 + k) : T.cps.toList.drop c.a.toNat = t.drop k := by
  rw [e, Int.toNat_add h1 (Int.natCast_nonneg k), Int.toNat_natCast, ← List.drop_drop, ht]
theorem Cr.yes {q : Nat} {b0 t : List Nat} {a1 : Int} {c : Cr} {T : Str} (h : Cr.ok q b0 t a1 c) (ht : T.cps.toList.drop a1.toNat = t) (h1 : 0 ≤ a1) (hs : stopL q (T.cps.toList.drop c.a.toNat) = false) :
    0 ≤ c.a ∧ c.a < T.length ∧ ∃ d, T.cps[c.a.toNat]? = some d ∧ ∀ vs tv a ta, vs = c.vs ++ (⟨#[d]⟩ : Str) → a = c.a + 1 → Cr.ok q b0 t a1 ⟨vs, tv, a, ta⟩ := by
  have h0 := h.lo h1
  obtain ⟨k, h2, h3, h4⟩ := h.ex
  rw [Cr.drop (b0 := b0) (q := q) ht h1 h3, stopL_tw h2] at hs
  have hk : k < (t.takeWhile (runQ q)).length := Nat.lt_of_le_of_ne h2 (of_decide_eq_false hs)
  obtain ⟨d, r, h5, h6, h7⟩ := tw_at hk
  have hd : T.cps.toList.drop c.a.toNat = d :: r := by rw [Cr.drop (b0 := b0) (q := q) ht h1 h3, h5]
  have hl : c.a.toNat < T.cps.toList.length := by
    rcases Nat.lt_or_ge c.a.toNat T.cps.toList.length with z | z
    · exact z
    · rw [List.drop_of_length_le z] at hd; cases hd
  have hat : T.cps.toList[c.a.toNat]? = some d := by rw [← List.head?_drop, hd]; rfl
  refine ⟨h0, by rw [← len_toList]; exact (Int.toNat_lt h0).mp hl, d, by rw [← Array.getElem?_toList]; exact hat, fun vs tv a ta ev ea => ⟨k + 1, hk, (show a = _ by rw [ea, h3]; exact Int.add_assoc _ _ _), ?_⟩⟩
  show vs.cps.toList = _
  rw [ev, toList_app, h4, h7, List.append_assoc]
theorem Cr.no {q : Nat} {b0 t : List Nat} {a1 : Int} {c : Cr} {T : Str} (h : Cr.ok q b0 t a1 c) (ht : T.cps.toList.drop a1.toNat = t) (h1 : 0 ≤ a1) (hs : stopL q (T.cps.toList.drop c.a.toNat) = true) : Cr.fin q b0 t a1 c := by
  obtain ⟨k, h2, h3, h4⟩ := h.ex
  rw [Cr.drop (b0 := b0) (q := q) ht h1 h3, stopL_tw h2] at hs
  have hk := of_decide_eq_true hs
  subst hk
  exact ⟨h3, by rw [h4, List.take_length]⟩
end Mine.Internal
namespace Mine.Internal
noncomputable abbrev Kz.kdq (w : World) (Z : Kz) (st : Addr) (m7 : Tok) (ct tq : Addr) (v4 : Value) : Obj := dictOf (kdict w.params Z.m0 Z.m1 Z.m2 Z.m3 Z.m4 Z.m5 Z.m6 m7 st Z.v1 Z.v2 Z.v3 v4 Z.v5 (.ref ct) tq) 8
structure Cw where
  y : St
  v4 : Value
  adds : List Value
  n : Nat
  vs : Str
  vt : Tok
  ds : List Value
  dn : Nat
  tv : Tok
  a : Int
  ta : Tok
  b : Bool
  own : Led
structure Cw.ok (prog : Program) (w : World) (K : Ks) (zd dd : Addr) (M : List Nat) (own0 : Led) (c : Cw) : Prop where
  sok : c.y.ok K.src
  rem : c.y.rem K.src = M.drop c.a.toNat
  lo : 0 ≤ c.a
  hi : c.a.toNat ≤ M.length + 1
  go : c.b = false → c.a.toNat ≤ M.length
  qis : ∃ ks, QIs prog w c.own c.adds ks ∧ QIs prog w c.own c.ds ks ∧ ks.length ≤ 2 * c.a.toNat
  len : c.vs.length ≤ 3 * c.a.toNat
  own : ∀ p ∈ c.own, @LT.lt Nat _ p.1 zd ∨ @LT.lt Nat _ dd p.1
  mono : ∀ p ∈ own0, p ∈ c.own
structure Cw.out (K : Ks) (zd dd : Addr) (M : List Nat) (own0 : Led) (c : Cw) : Prop where
  sok : c.y.ok K.src
  rem : c.y.rem K.src = M.drop c.a.toNat
  lo : 0 ≤ c.a
  own : ∀ p ∈ c.own, @LT.lt Nat _ p.1 zd ∨ @LT.lt Nat _ dd p.1
  mono : ∀ p ∈ own0, p ∈ c.own
noncomputable def Cw.mu (M : List Nat) (c : Cw) : Nat := M.length + 1 - c.a.toNat
noncomputable def Cw.ps (dd : Addr) (c : Cw) : List (Str × Value) := [("value", .str c.vs c.tv), ("due", .ref dd), ("at", .int c.a c.ta), ("ended", .bool c.b)]
noncomputable abbrev mid5 : List Str := ["output", "faults", "used"]
noncomputable abbrev sto5 : List Str := ["sign", "output", "faults", "used", "went"]
section
variable {prog : Program} {w : World} {A : Around} {E : Value → Shared → Prop} {s : Shared} {g : Heap} {L : Addr} {K : Ks} {Z : Kz} {m7 : Tok} {tq : Addr} {ct dl p2 p1 dd : Addr} {co : Obj} {dn' : Nat} {nm : Value} {pn : Nat} {e3 e4 : Addr × Obj} {M : List Nat} {m₀ : Str → Option Value} {env : Env} {Q : Flow → Shared → Prop}
noncomputable abbrev Cw.led (w : World) (K : Ks) (Z : Kz) (m7 : Tok) (tq ct dl p2 p1 dd : Addr) (co : Obj) (dn' : Nat) (nm : Value) (pn : Nat) (e3 e4 : Addr × Obj) (c : Cw) : Led :=
  ((Z.za, instObj 762 Z.zd) :: (Z.zd, Z.kdq w K.st m7 ct tq c.v4) :: (tq, W.listOf c.adds.toArray c.n) :: (ct, co) :: (dl, W.listOf [Value.ref p1, .ref p2].toArray dn') :: (p2, W.listOf [nm, Value.str c.vs c.vt].toArray pn) :: (dd, W.listOf c.ds.toArray c.dn) :: e3 :: e4 :: (c.own ++ K.led w c.y))
noncomputable def Turn5 (prog : Program) (w : World) (K : Ks) (Z : Kz) (m7 : Tok) (tq ct dl p2 p1 dd : Addr) (co : Obj) (dn' : Nat) (nm : Value) (pn : Nat) (e3 e4 : Addr × Obj) (M : List Nat) (own0 : Led) (m₀ : Str → Option Value) (g : Heap) (L : Addr) (s : Shared) (c : Cw) : Flow → Shared → Prop :=
  KswPost g L s (Cw.led w K Z m7 tq ct dl p2 p1 dd co dn' nm pn e3 e4) (Cw.ps dd) (fun _ => True) sto5 m₀ (Cw.ok prog w K Z.zd dd M own0) (Cw.mu M) (MeetW g L s (Cw.led w K Z m7 tq ct dl p2 p1 dd co dn' nm pn e3 e4) (Cw.ps dd) sto5 m₀ (Cw.out K Z.zd dd M own0)) c
noncomputable abbrev Out5 (w : World) (K : Ks) (Z : Kz) (m7 : Tok) (tq ct dl p2 p1 dd : Addr) (co : Obj) (dn' : Nat) (nm : Value) (pn : Nat) (e3 e4 : Addr × Obj) (M : List Nat) (own0 : Led) (m₀ : Str → Option Value) (g : Heap) (L : Addr) (s : Shared) : Flow → Shared → Prop :=
  MeetW g L s (Cw.led w K Z m7 tq ct dl p2 p1 dd co dn' nm pn e3 e4) (Cw.ps dd) sto5 m₀ (Cw.out K Z.zd dd M own0)
structure Ord5 (K : Ks) (Z : Kz) (tq ct dl p2 dd : Addr) (e3 e4 : Addr × Obj) : Prop where
  h1 : @LT.lt Nat _ K.er tq
  h2 : @LT.lt Nat _ tq ct
  h3 : @LT.lt Nat _ ct p2
  h4 : @LT.lt Nat _ p2 dl
  h5 : @LT.lt Nat _ dl dd
  h6 : @LT.lt Nat _ ct e3.1
  h7 : @LT.lt Nat _ e3.1 p2
  h8 : @LT.lt Nat _ e4.1 Z.zd
theorem while5 {test : Expr} {body : List Stmt} {pos : Pos} {nl rest own0 : Led} {y0 : St} {qn0 dd0 : Nat} {val0 : Str} {vt0 tv0 ta0 : Tok} {v40 : Value} (F : Fr g L s.heap m₀) (N : News g L s.heap nl)
    (hT : Take (Lz w K ((Z.at ct).go v40) m7 tq ⟨ct, dl, p2, co, [.ref p1], dn', nm, pn⟩ [] qn0 val0 vt0 (K.led w y0)) nl rest) (hr : rest = (dd, W.listOf [].toArray dd0) :: e3 :: e4 :: own0) (h0 : val0 = Str.ofString "")
    (hm1 : m₀ (Str.ofString "value") = some (.str val0 tv0)) (hm2 : m₀ (Str.ofString "due") = some (.ref dd)) (hm3 : m₀ (Str.ofString "at") = some (.int 0 ta0)) (hm4 : m₀ (Str.ofString "ended") = some (.bool false))
    (ok : y0.ok K.src) (hrem : y0.rem K.src = M) (hown : ∀ p ∈ own0, @LT.lt Nat _ p.1 Z.zd) (o5 : Ord5 K Z tq ct dl p2 dd e3 e4)
    (hq : Ord5 K Z tq ct dl p2 dd e3 e4 → ∀ y v4 (adds : List Value) n vs vt (ds : List Value) dn tv a ta b (own : Led) (u : Str → Option Value) h k, y.ok K.src → y.rem K.src = M.drop a.toNat → 0 ≤ a → (∀ p ∈ own, @LT.lt Nat _ p.1 Z.zd ∨ @LT.lt Nat _ dd p.1) → (∀ p ∈ own0, p ∈ own) →
      Fr g L h (kstB (fun z => if sto5.contains z then u z else m₀ z) [("value", Value.str vs tv), ("due", .ref dd), ("at", .int a ta), ("ended", .bool b)]) → News g L h ((Z.za, instObj 762 Z.zd) :: (Z.zd, Z.kdq w K.st m7 ct tq v4) :: (tq, W.listOf adds.toArray n) :: (ct, co) :: (dl, W.listOf [Value.ref p1, .ref p2].toArray dn') :: (p2, W.listOf [nm, Value.str vs vt].toArray pn) :: (dd, W.listOf ds.toArray dn) :: e3 :: e4 :: (own ++ K.led w y)) → Q .next { s with heap := h, toks := k })
    (turn : Ord5 K Z tq ct dl p2 dd e3 e4 → ∀ y v4 (adds : List Value) n vs vt (ds : List Value) dn tv a ta b (own : Led) (ks : List Kd) (u : Str → Option Value) h k, y.ok K.src → y.rem K.src = M.drop a.toNat → 0 ≤ a → a.toNat ≤ M.length + 1 → (b = false → a.toNat ≤ M.length) → QIs prog w own adds ks → QIs prog w own ds ks → ks.length ≤ 2 * a.toNat → vs.length ≤ 3 * a.toNat → (∀ p ∈ own, @LT.lt Nat _ p.1 Z.zd ∨ @LT.lt Nat _ dd p.1) → (∀ p ∈ own0, p ∈ own) →
      Fr g L h (kstB (fun z => if sto5.contains z then u z else m₀ z) [("value", Value.str vs tv), ("due", .ref dd), ("at", .int a ta), ("ended", .bool b)]) → News g L h ((Z.za, instObj 762 Z.zd) :: (Z.zd, Z.kdq w K.st m7 ct tq v4) :: (tq, W.listOf adds.toArray n) :: (ct, co) :: (dl, W.listOf [Value.ref p1, .ref p2].toArray dn') :: (p2, W.listOf [nm, Value.str vs vt].toArray pn) :: (dd, W.listOf ds.toArray dn) :: e3 :: e4 :: (own ++ K.led w y)) →
      wpAny (model prog w) A (isTrue test env (eval test env)) (fun b' s₂ => if b' = true then wpAny (model prog w) A (execs body env) (Turn5 prog w K Z m7 tq ct dl p2 p1 dd co dn' nm pn e3 e4 M own0 m₀ g L s ⟨y, v4, adds, n, vs, vt, ds, dn, tv, a, ta, b, own⟩) E s₂ else Out5 w K Z m7 tq ct dl p2 p1 dd co dn' nm pn e3 e4 M own0 m₀ g L s .next s₂) E { s with heap := h, toks := k })
    (hE : PassesOwn (model prog w) A env E := by passes_own) :
    wpAny (model prog w) A (exec (.While test body [] pos) env) Q E s := by
  subst hr h0
  refine ksw_meet (Cw.led w K Z m7 tq ct dl p2 p1 dd co dn' nm pn e3 e4) (Cw.ps dd) sto5 (Cw.ok prog w K Z.zd dd M own0) (Cw.out K Z.zd dd M own0) (Cw.mu M) ⟨y0, v40, [], qn0, Str.ofString "", vt0, [], dd0, tv0, 0, ta0, false, own0⟩ F (fun p hp => ?_) ?_ ⟨ok, by rw [hrem]; rfl, Int.le_refl _, Nat.zero_le _, fun _ => Nat.zero_le _, ⟨[], .nil, .nil, Nat.zero_le _⟩, (show (Str.ofString "").length ≤ 3 * (0 : Int).toNat from by decide +kernel), fun p hp => .inl (hown p hp), fun p hp => hp⟩ ?_ ?_ hE
  · have q1 : ∀ p ∈ Lz w K ((Z.at ct).go v40) m7 tq ⟨ct, dl, p2, co, [.ref p1], dn', nm, pn⟩ [] qn0 (Str.ofString "") vt0 (K.led w y0), p ∈ Lz w K ((Z.at ct).go v40) m7 tq ⟨ct, dl, p2, co, [.ref p1], dn', nm, pn⟩ [] qn0 (Str.ofString "") vt0 (K.led w y0) ++ ((dd, W.listOf [].toArray dd0) :: e3 :: e4 :: own0) := fun p hp => List.mem_append_left _ hp
    have q2 : ∀ p ∈ (dd, W.listOf [].toArray dd0) :: e3 :: e4 :: own0, p ∈ Lz w K ((Z.at ct).go v40) m7 tq ⟨ct, dl, p2, co, [.ref p1], dn', nm, pn⟩ [] qn0 (Str.ofString "") vt0 (K.led w y0) ++ ((dd, W.listOf [].toArray dd0) :: e3 :: e4 :: own0) := fun p hp => List.mem_append_right _ hp
    exact (hT.news N) p (six_tail q1 (app_in (a := (dd, W.listOf [].toArray dd0) :: e3 :: e4 :: own0) q2 (six_in q1)) p hp)
  · intro p hp
    simp only [Cw.ps, List.mem_cons, List.not_mem_nil, or_false] at hp
    rcases hp with rfl | rfl | rfl | rfl
    · exact hm1
    · exact hm2
    · exact hm3
    · exact hm4
  · intro c u h k x F' N'
    obtain ⟨y, v4, adds, n, vs, vt, ds, dn, tv, a, ta, b, own⟩ := c
    exact hq o5 y v4 adds n vs vt ds dn tv a ta b own u h k x.sok x.rem x.lo x.own x.mono F' N'
  · intro c u h k x F' N'
    obtain ⟨y, v4, adds, n, vs, vt, ds, dn, tv, a, ta, b, own⟩ := c
    obtain ⟨ks, q1, q2, q3⟩ := x.qis
    exact turn o5 y v4 adds n vs vt ds dn tv a ta b own ks u h k x.sok x.rem x.lo x.hi x.go q1 q2 q3 x.len x.own x.mono F' N'
theorem out5 {own0 : Led} {y : St} {v4 : Value} {adds : List Value} {n : Nat} {vs : Str} {vt : Tok} {ds : List Value} {dn : Nat} {tv : Tok} {a : Int} {ta : Tok} {b : Bool} {own : Led} {u : Str → Option Value} {h : Heap} {k : Nat} (ok : y.ok K.src) (hrem : y.rem K.src = M.drop a.toNat) (h0 : 0 ≤ a) (hown : (∀ p ∈ own, @LT.lt Nat _ p.1 Z.zd ∨ @LT.lt Nat _ dd p.1)) (hmo : ∀ p ∈ own0, p ∈ own)
    (F : Fr g L h (kstB (fun z => if sto5.contains z then u z else m₀ z) [("value", Value.str vs tv), ("due", .ref dd), ("at", .int a ta), ("ended", .bool b)])) (N : News g L h ((Z.za, instObj 762 Z.zd) :: (Z.zd, Z.kdq w K.st m7 ct tq v4) :: (tq, W.listOf adds.toArray n) :: (ct, co) :: (dl, W.listOf [Value.ref p1, .ref p2].toArray dn') :: (p2, W.listOf [nm, Value.str vs vt].toArray pn) :: (dd, W.listOf ds.toArray dn) :: e3 :: e4 :: (own ++ K.led w y))) : Out5 w K Z m7 tq ct dl p2 p1 dd co dn' nm pn e3 e4 M own0 m₀ g L s .next { s with heap := h, toks := k } :=
  meetW_end ⟨y, v4, adds, n, vs, vt, ds, dn, tv, a, ta, b, own⟩ u F N (fun _ h => h) ⟨ok, hrem, h0, hown, hmo⟩
theorem turn5 {own0 : Led} {y : St} {v4 : Value} {adds : List Value} {n : Nat} {vs : Str} {vt : Tok} {ds : List Value} {dn : Nat} {tv : Tok} {a : Int} {ta : Tok} {b : Bool} {own : Led} {ks : List Kd} {h : Heap} {k : Nat} {c : Cw} {m' : Str → Option Value} {nl : Led}
    (F : Fr g L h m') (N : News g L h nl) (hn : ∀ p ∈ ((Z.za, instObj 762 Z.zd) :: (Z.zd, Z.kdq w K.st m7 ct tq v4) :: (tq, W.listOf adds.toArray n) :: (ct, co) :: (dl, W.listOf [Value.ref p1, .ref p2].toArray dn') :: (p2, W.listOf [nm, Value.str vs vt].toArray pn) :: (dd, W.listOf ds.toArray dn) :: e3 :: e4 :: (own ++ K.led w y)), p ∈ nl)
    (hm1 : m' (Str.ofString "value") = some (.str vs tv)) (hm2 : m' (Str.ofString "due") = some (.ref dd)) (hm3 : m' (Str.ofString "at") = some (.int a ta)) (hm4 : m' (Str.ofString "ended") = some (.bool b)) (hr : ∀ z, z ≠ Str.ofString "value" → z ≠ Str.ofString "due" → z ≠ Str.ofString "at" → z ≠ Str.ofString "ended" → sto5.contains z = false → m' z = m₀ z)
    (ok : y.ok K.src) (hrem : y.rem K.src = M.drop a.toNat) (h0 : 0 ≤ a) (hhi : a.toNat ≤ M.length + 1) (hgo : b = false → a.toNat ≤ M.length) (q1 : QIs prog w own adds ks) (q2 : QIs prog w own ds ks) (hks : ks.length ≤ 2 * a.toNat) (hlen : vs.length ≤ 3 * a.toNat) (hown : (∀ p ∈ own, @LT.lt Nat _ p.1 Z.zd ∨ @LT.lt Nat _ dd p.1)) (hmo : ∀ p ∈ own0, p ∈ own)
    (h1 : c.a.toNat ≤ M.length) (h2 : c.a.toNat + 1 ≤ a.toNat) :
    KswEnd g L s (Cw.led w K Z m7 tq ct dl p2 p1 dd co dn' nm pn e3 e4) (Cw.ps dd) (fun _ => True) sto5 m₀ (Cw.ok prog w K Z.zd dd M own0) (Cw.mu M) c { s with heap := h, toks := k } := by
  refine ksw_end (σ := Cw) ⟨y, v4, adds, n, vs, vt, ds, dn, tv, a, ta, b, own⟩ F N hn trivial ?_ (fun z hz hs => hr z (hz _ (.head _)) (hz _ (.tail _ (.head _))) (hz _ (.tail _ (.tail _ (.head _)))) (hz _ (.tail _ (.tail _ (.tail _ (.head _))))) hs) ⟨ok, hrem, h0, hhi, hgo, ⟨ks, q1, q2, hks⟩, hlen, hown, hmo⟩ ?_
  · intro p hp
    simp only [Cw.ps, List.mem_cons, List.not_mem_nil, or_false] at hp
    rcases hp with rfl | rfl | rfl | rfl
    · exact hm1
    · exact hm2
    · exact hm3
    · exact hm4
  · show M.length + 1 - a.toNat < M.length + 1 - c.a.toNat
    omega
structure Ci where
  vs : Str
  tv : Tok
  a : Int
  ta : Tok
  b : Bool
  ds : List Value
  dn : Nat
  own : Led
  u : Str → Option Value
noncomputable def Ci.m (m₀ : Str → Option Value) (dd : Addr) (c : Ci) : Str → Option Value := fun z => if z = Str.ofString "value" then some (.str c.vs c.tv) else if z = Str.ofString "at" then some (.int c.a c.ta) else if z = Str.ofString "ended" then some (.bool c.b) else if z = Str.ofString "due" then some (.ref dd) else if mid5.contains z then c.u z else m₀ z
structure Ci.ok (prog : Program) (w : World) (zd dd : Addr) (M : List Nat) (q : Nat) (vs0 : Str) (a0 : Int) (ks : List Kd) (own0 : Led) (c : Ci) : Prop where
  out : c.vs.cps.toList = vs0.cps.toList ++ (stQ q (M.drop a0.toNat)).out
  rem : M.drop c.a.toNat = (stQ q (M.drop a0.toNat)).rem
  lo : a0 + 1 ≤ c.a
  hi : c.a.toNat ≤ M.length + 1
  go : c.b = false → c.a.toNat ≤ M.length
  qis : QIs prog w c.own c.ds (ks ++ (stQ q (M.drop a0.toNat)).ks)
  mono : ∀ p ∈ own0, p ∈ c.own
  own : ∀ p ∈ c.own, @LT.lt Nat _ p.1 zd ∨ @LT.lt Nat _ dd p.1
noncomputable abbrev Ci.led (w : World) (K : Ks) (Z : Kz) (m7 : Tok) (tq ct dl p2 p1 dd : Addr) (co : Obj) (dn' : Nat) (nm : Value) (pn : Nat) (e3 e4 : Addr × Obj) (y : St) (v4 : Value) (adds : List Value) (n : Nat) (vs : Str) (vt : Tok) (c : Ci) : Led :=
  ((Z.za, instObj 762 Z.zd) :: (Z.zd, Z.kdq w K.st m7 ct tq v4) :: (tq, W.listOf adds.toArray n) :: (ct, co) :: (dl, W.listOf [Value.ref p1, .ref p2].toArray dn') :: (p2, W.listOf [nm, Value.str vs vt].toArray pn) :: (dd, W.listOf c.ds.toArray c.dn) :: e3 :: e4 :: (c.own ++ K.led w y))
variable {y : St} {v4 : Value} {adds : List Value} {n : Nat} {vs0 : Str} {vt : Tok} {ds : List Value} {dn : Nat} {a0 : Int} {own0 : Led} {ks : List Kd} {q : Nat}
theorem wp_meetI {t : Sem Flow} (_ : Fr g L s.heap m₀) (_ : News g L s.heap ((Z.za, instObj 762 Z.zd) :: (Z.zd, Z.kdq w K.st m7 ct tq v4) :: (tq, W.listOf adds.toArray n) :: (ct, co) :: (dl, W.listOf [Value.ref p1, .ref p2].toArray dn') :: (p2, W.listOf [nm, Value.str vs0 vt].toArray pn) :: (dd, W.listOf ds.toArray dn) :: e3 :: e4 :: (own0 ++ K.led w y)))
    (hq : ∀ vs tv a ta b (ds : List Value) dn (own : Led) (u : Str → Option Value) h k, vs.cps.toList = vs0.cps.toList ++ (stQ q (M.drop a0.toNat)).out → M.drop a.toNat = (stQ q (M.drop a0.toNat)).rem → a0 + 1 ≤ a → a.toNat ≤ M.length + 1 → (b = false → a.toNat ≤ M.length) → QIs prog w own ds (ks ++ (stQ q (M.drop a0.toNat)).ks) → (∀ p ∈ own0, p ∈ own) → (∀ p ∈ own, @LT.lt Nat _ p.1 Z.zd ∨ @LT.lt Nat _ dd p.1) →
      Fr g L h (fun z => if z = Str.ofString "value" then some (.str vs tv) else if z = Str.ofString "at" then some (.int a ta) else if z = Str.ofString "ended" then some (.bool b) else if z = Str.ofString "due" then some (.ref dd) else if mid5.contains z then u z else m₀ z) → News g L h ((Z.za, instObj 762 Z.zd) :: (Z.zd, Z.kdq w K.st m7 ct tq v4) :: (tq, W.listOf adds.toArray n) :: (ct, co) :: (dl, W.listOf [Value.ref p1, .ref p2].toArray dn') :: (p2, W.listOf [nm, Value.str vs0 vt].toArray pn) :: (dd, W.listOf ds.toArray dn) :: e3 :: e4 :: (own ++ K.led w y)) → Q .next { s with heap := h, toks := k })
    (hw : wpAny (model prog w) A t (MeetX g L (Ci.m m₀ dd) (Ci.led w K Z m7 tq ct dl p2 p1 dd co dn' nm pn e3 e4 y v4 adds n vs0 vt) (Ci.ok prog w Z.zd dd M q vs0 a0 ks own0) s) E s) : wpAny (model prog w) A t Q E s := by
  refine wpAny_mono hw (fun fl s' h => ?_) (fun _ _ e => e)
  obtain ⟨c, h', k, rfl, x, rfl, F, N⟩ := h
  obtain ⟨vs, tv, a, ta, b, ds, dn, own, u⟩ := c
  exact hq vs tv a ta b ds dn own u h' k x.out x.rem x.lo x.hi x.go x.qis x.mono x.own F N
theorem meetI_end {vs : Str} {tv : Tok} {a : Int} {ta : Tok} {b : Bool} {own : Led} {h' : Heap} {k : Nat} {m' : Str → Option Value} {nl : Led} {R : Ck} (hR : stQ q (M.drop a0.toNat) = R)
    (F : Fr g L h' m') (N : News g L h' nl) (hn : ∀ p ∈ ((Z.za, instObj 762 Z.zd) :: (Z.zd, Z.kdq w K.st m7 ct tq v4) :: (tq, W.listOf adds.toArray n) :: (ct, co) :: (dl, W.listOf [Value.ref p1, .ref p2].toArray dn') :: (p2, W.listOf [nm, Value.str vs0 vt].toArray pn) :: (dd, W.listOf ds.toArray dn) :: e3 :: e4 :: (own ++ K.led w y)), p ∈ nl)
    (hm1 : m' (Str.ofString "value") = some (.str vs tv)) (hm2 : m' (Str.ofString "at") = some (.int a ta)) (hm3 : m' (Str.ofString "ended") = some (.bool b)) (hm4 : m' (Str.ofString "due") = some (.ref dd))
    (hr : ∀ z, z ≠ Str.ofString "value" → z ≠ Str.ofString "at" → z ≠ Str.ofString "ended" → z ≠ Str.ofString "due" → mid5.contains z = false → m' z = m₀ z)
    (hout : vs.cps.toList = vs0.cps.toList ++ R.out) (hrem : M.drop a.toNat = R.rem) (hlo : a0 + 1 ≤ a) (hhi : a.toNat ≤ M.length + 1) (hgo : b = false → a.toNat ≤ M.length) (hqis : QIs prog w own ds (ks ++ R.ks)) (hmono : ∀ p ∈ own0, p ∈ own) (hown : (∀ p ∈ own, @LT.lt Nat _ p.1 Z.zd ∨ @LT.lt Nat _ dd p.1)) :
    MeetX g L (Ci.m m₀ dd) (Ci.led w K Z m7 tq ct dl p2 p1 dd co dn' nm pn e3 e4 y v4 adds n vs0 vt) (Ci.ok prog w Z.zd dd M q vs0 a0 ks own0) s .next { s with heap := h', toks := k } := by
  subst hR
  have em : m' = Ci.m m₀ dd (⟨vs, tv, a, ta, b, ds, dn, own, m'⟩ : Ci) := funext fun z => by
    unfold Ci.m
    by_cases e1 : z = Str.ofString "value"
    · rw [if_pos e1, e1, hm1]
    by_cases e2 : z = Str.ofString "at"
    · rw [if_neg e1, if_pos e2, e2, hm2]
    by_cases e3 : z = Str.ofString "ended"
    · rw [if_neg e1, if_neg e2, if_pos e3, e3, hm3]
    by_cases e4 : z = Str.ofString "due"
    · rw [if_neg e1, if_neg e2, if_neg e3, if_pos e4, e4, hm4]
    rw [if_neg e1, if_neg e2, if_neg e3, if_neg e4]
    cases e5 : mid5.contains z with
    | true => rfl
    | false => exact hr z e1 e2 e3 e4 e5
  exact ⟨(⟨vs, tv, a, ta, b, ds, dn, own, m'⟩ : Ci), h', k, rfl, ⟨hout, hrem, hlo, hhi, hgo, hqis, hmono, hown⟩, rfl, em ▸ F, fun p hp => N p (hn p hp)⟩
noncomputable def MeetS {α : Type} (g : Heap) (L : Addr) (m : Str → Option Value) (led : α → Led) (P : α → Prop) (s : Shared) (v : Value) (s' : Shared) : Prop :=
  ∃ (c : α) (h' : Heap) (k : Nat), v = .bool true ∧ P c ∧ s' = { s with heap := h', toks := k } ∧ Fr g L h' m ∧ News g L h' (led c)
structure Ca where
  y : St
  v4 : Value
  adds : List Value
  n : Nat
  vt : Tok
  own : Led
structure Ca.ok (prog : Program) (w : World) (K : Ks) (zd dd : Addr) (R : Ck) (ks : List Kd) (own0 : Led) (c : Ca) : Prop where
  sok : c.y.ok K.src
  rem : c.y.rem K.src = R.rem
  qis : QIs prog w c.own c.adds (ks ++ R.ks)
  mono : ∀ p ∈ own0, p ∈ c.own
  own : ∀ p ∈ c.own, @LT.lt Nat _ p.1 zd ∨ @LT.lt Nat _ dd p.1
noncomputable abbrev Ca.led (w : World) (K : Ks) (Z : Kz) (m7 : Tok) (tq ct dl p2 p1 dd : Addr) (co : Obj) (dn' : Nat) (nm : Value) (pn : Nat) (e3 e4 : Addr × Obj) (vs : Str) (ds : List Value) (dn : Nat) (c : Ca) : Led :=
  ((Z.za, instObj 762 Z.zd) :: (Z.zd, Z.kdq w K.st m7 ct tq c.v4) :: (tq, W.listOf c.adds.toArray c.n) :: (ct, co) :: (dl, W.listOf [Value.ref p1, .ref p2].toArray dn') :: (p2, W.listOf [nm, Value.str vs c.vt].toArray pn) :: (dd, W.listOf ds.toArray dn) :: e3 :: e4 :: (c.own ++ K.led w c.y))
theorem wp_meetS {t : Sem Value} {Q : Value → Shared → Prop} {R : Ck} {vs : Str} {vt' : Tok} (_ : Fr g L s.heap m₀) (_ : News g L s.heap ((Z.za, instObj 762 Z.zd) :: (Z.zd, Z.kdq w K.st m7 ct tq v4) :: (tq, W.listOf adds.toArray n) :: (ct, co) :: (dl, W.listOf [Value.ref p1, .ref p2].toArray dn') :: (p2, W.listOf [nm, Value.str vs0 vt'].toArray pn) :: (dd, W.listOf ds.toArray dn) :: e3 :: e4 :: (own0 ++ K.led w y))) (_ : vs.cps.toList = vs0.cps.toList ++ R.out)
    (hq : ∀ y v4 (adds : List Value) n vt (own : Led) h k, y.ok K.src → y.rem K.src = R.rem → QIs prog w own adds (ks ++ R.ks) → (∀ p ∈ own0, p ∈ own) → (∀ p ∈ own, @LT.lt Nat _ p.1 Z.zd ∨ @LT.lt Nat _ dd p.1) →
      Fr g L h m₀ → News g L h ((Z.za, instObj 762 Z.zd) :: (Z.zd, Z.kdq w K.st m7 ct tq v4) :: (tq, W.listOf adds.toArray n) :: (ct, co) :: (dl, W.listOf [Value.ref p1, .ref p2].toArray dn') :: (p2, W.listOf [nm, Value.str vs vt].toArray pn) :: (dd, W.listOf ds.toArray dn) :: e3 :: e4 :: (own ++ K.led w y)) → Q (.bool true) { s with heap := h, toks := k })
    (hw : wpAny (model prog w) A t (MeetS g L m₀ (Ca.led w K Z m7 tq ct dl p2 p1 dd co dn' nm pn e3 e4 vs ds dn) (Ca.ok prog w K Z.zd dd R ks own0) s) E s) : wpAny (model prog w) A t Q E s := by
  refine wpAny_mono hw (fun v s' h => ?_) (fun _ _ e => e)
  obtain ⟨c, h', k, rfl, x, rfl, F, N⟩ := h
  obtain ⟨y, v4, adds, n, vt, own⟩ := c
  exact hq y v4 adds n vt own h' k x.sok x.rem x.qis x.mono x.own F N
theorem meetS_end {R : Ck} {h' : Heap} {k : Nat} {vs val' : Str} {v4' : Value} {y' : St} {fl : Led} {adds2 : List Value} {n' : Nat} {vt' : Tok} {nl : Led} (F : Fr g L h' m₀)
    (N : News g L h' (Lz w K ((Z.at ct).go v4') m7 tq ⟨ct, dl, p2, co, [.ref p1], dn', nm, pn⟩ (adds ++ adds2) n' val' vt' (((dd, W.listOf ds.toArray dn) :: e3 :: e4 :: own0) ++ (fl ++ K.led w y'))))
    (hv : vs.cps.toList = vs0.cps.toList ++ R.out) (hv' : val'.cps.toList = vs0.cps.toList ++ R.out) (ok : y'.ok K.src) (hrem : y'.rem K.src = R.rem) (q1 : QIs prog w own0 adds ks) (q2 : QIs prog w fl adds2 R.ks)
    (hown : (∀ p ∈ own0, @LT.lt Nat _ p.1 Z.zd ∨ @LT.lt Nat _ dd p.1)) (hfl : ∀ p ∈ fl, ∀ r ∈ nl, @LT.lt Nat _ r.1 p.1) (hd : (dd, W.listOf ds.toArray dn) ∈ nl) :
    MeetS g L m₀ (Ca.led w K Z m7 tq ct dl p2 p1 dd co dn' nm pn e3 e4 vs ds dn) (Ca.ok prog w K Z.zd dd R ks own0) s (.bool true) { s with heap := h', toks := k } := by
  have e : val' = vs := Str.ext' (Array.toList_inj.mp (hv'.trans hv.symm))
  subst e
  refine ⟨⟨y', v4', adds ++ adds2, n', vt', own0 ++ fl⟩, h', k, rfl, ⟨ok, hrem, (q1.mono fun p hp => List.mem_append_left _ hp).app (q2.mono fun p hp => List.mem_append_right _ hp), fun p hp => List.mem_append_left _ hp, fun p hp => (List.mem_append.mp hp).elim (hown p) (fun z => .inr (hfl p z _ hd))⟩, rfl, F, fun p hp => N p ?_⟩
  have e2 : (Ca.led w K Z m7 tq ct dl p2 p1 dd co dn' nm pn e3 e4 val' ds dn ⟨y', v4', adds ++ adds2, n', vt', own0 ++ fl⟩) = Lz w K ((Z.at ct).go v4') m7 tq ⟨ct, dl, p2, co, [.ref p1], dn', nm, pn⟩ (adds ++ adds2) n' val' vt' (((dd, W.listOf ds.toArray dn) :: e3 :: e4 :: own0) ++ (fl ++ K.led w y')) := by
    show _ :: _ :: _ :: _ :: _ :: _ :: _ :: _ :: _ :: ((own0 ++ fl) ++ K.led w y') = _
    rw [List.append_assoc]; rfl
  rw [← e2]; exact hp
end
end Mine.Internal
namespace Mine.Internal
theorem toN1 {a : Int} (h0 : 0 ≤ a) : (a + 1).toNat = a.toNat + 1 := Int.toNat_add h0 (by decide : (0 : Int) ≤ 1)
theorem lt_drop {l t : List Nat} {n c : Nat} (e : l.drop n = c :: t) : n + 1 ≤ l.length := by
  rcases Nat.lt_or_ge n l.length with h | h
  · exact h
  · rw [List.drop_of_length_le h] at e; cases e
theorem sg_lt {l t : List Nat} {a : Int} {c : Nat} (h0 : 0 ≤ a) (e : l.drop a.toNat = c :: t) : (a + 1).toNat ≤ l.length := by rw [toN1 h0]; exact lt_drop e
theorem sum_le {n k L : Nat} (h : n ≤ L) (h2 : k ≤ L - n) : n + k ≤ L := by rw [Nat.add_comm]; exact Nat.add_le_of_le_sub h h2
theorem amp5 {T : Str} {a used : Int} {q : Nat} (h : (Txt.slice T (some a) (some (a + 1)) == Str.ofString "&") = true) (h0 : 0 ≤ a) (hq : q = 34 ∨ q = 39) (hu0 : 0 ≤ used)
    (hur : (ceR (some q) (Txt.slice T (some (a + 1)) none).cps.toList).rem = (Txt.slice T (some (a + 1)) none).cps.toList.drop used.toNat) (hul : used.toNat ≤ (Txt.slice T (some (a + 1)) none).cps.toList.length) :
    stQ q (T.cps.toList.drop a.toNat) = ceR (some q) (Txt.slice T (some (a + 1)) none).cps.toList ∧ T.cps.toList.drop (a + 1 + used).toNat = (ceR (some q) (Txt.slice T (some (a + 1)) none).cps.toList).rem ∧ a + 1 ≤ a + 1 + used ∧ (a + 1 + used).toNat ≤ T.cps.toList.length := by
  have e := sg_is (c := 38) h h0 (by decide +kernel)
  have h1 : 0 ≤ a + 1 := Int.le_add_one h0
  have e1 : (Txt.slice T (some (a + 1)) none).cps.toList = T.cps.toList.drop (a + 1).toNat := by rw [slice_sn h1]
  have e2 : (a + 1 + used).toNat = (a + 1).toNat + used.toNat := Int.toNat_add h1 hu0
  rw [e1, List.length_drop] at hul
  exact ⟨by rw [e1]; exact stQ_amp e (by rcases hq with rfl | rfl <;> decide) rfl, by rw [hur, e1, List.drop_drop, e2], Int.le_add_of_nonneg_right hu0, by rw [e2]; exact sum_le (sg_lt h0 e) hul⟩
theorem nul5 {T : Str} {a : Int} {q : Nat} (h : (Txt.slice T (some a) (some (a + 1)) == Str.ofString "\x00") = true) (h0 : 0 ≤ a) (hq : q = 34 ∨ q = 39) :
    stQ q (T.cps.toList.drop a.toNat) = ⟨[65533], [.tok 7 nulN], T.cps.toList.drop (a + 1).toNat⟩ ∧ (a + 1).toNat ≤ T.cps.toList.length := by
  have e := sg_is (c := 0) h h0 (by decide +kernel)
  exact ⟨stQ_nul e (by rcases hq with rfl | rfl <;> decide) (by decide) rfl, sg_lt h0 e⟩
theorem quo5 {T : Str} {a : Int} {q : Nat} (h : (Txt.slice T (some a) (some (a + 1)) == (⟨#[q]⟩ : Str)) = true) (h0 : 0 ≤ a) :
    stQ q (T.cps.toList.drop a.toNat) = ⟨[], [], T.cps.toList.drop (a + 1).toNat⟩ ∧ (a + 1).toNat ≤ T.cps.toList.length := by
  have e := sg_is (c := q) h h0 rfl
  exact ⟨stQ_q e rfl, sg_lt h0 e⟩
theorem eof5 {T : Str} {a : Int} {q : Nat} (h : (Txt.slice T (some a) (some (a + 1)) == Str.ofString "") = true) (h0 : 0 ≤ a) (ha : a.toNat ≤ T.cps.toList.length) :
    stQ q (T.cps.toList.drop a.toNat) = ⟨[], [.tok 7 (eofN q)], T.cps.toList.drop (a + 1).toNat⟩ ∧ (a + 1).toNat ≤ T.cps.toList.length + 1 := by
  have e := sg_nil h h0 (by decide +kernel)
  have e1 : T.cps.toList.drop (a + 1).toNat = [] := by rw [toN1 h0, ← List.drop_drop, e]; rfl
  rw [e1]
  exact ⟨stQ_nil e, by rw [toN1 h0]; exact Nat.succ_le_succ ha⟩
theorem run5 {T vs : Str} {b0 : List Nat} {a : Int} {q : Nat} {c : Cr} (h1 : (Txt.slice T (some a) (some (a + 1)) == Str.ofString "&") = false) (h2 : (Txt.slice T (some a) (some (a + 1)) == Str.ofString "\x00") = false) (h3 : (Txt.slice T (some a) (some (a + 1)) == (⟨#[q]⟩ : Str)) = false)
    (h4 : (Txt.slice T (some a) (some (a + 1)) == Str.ofString "") = false) (h0 : 0 ≤ a) (hb : b0 = (vs ++ Txt.slice T (some a) (some (a + 1))).cps.toList) (hf : Cr.fin q b0 (T.cps.toList.drop (a + 1).toNat) (a + 1) c) :
    ∃ R, stQ q (T.cps.toList.drop a.toNat) = R ∧ c.vs.cps.toList = vs.cps.toList ++ R.out ∧ T.cps.toList.drop c.a.toNat = R.rem ∧ a + 1 ≤ c.a ∧ c.a.toNat ≤ T.cps.toList.length ∧ R.ks = [] := by
  obtain ⟨d, e, es⟩ := sg_some h4 h0 (by decide +kernel)
  have n1 := sg_no (c := 38) h1 h0 (by decide +kernel) _ _ e
  have n2 := sg_no (c := 0) h2 h0 (by decide +kernel) _ _ e
  have n3 := sg_no (c := q) h3 h0 rfl _ _ e
  have hp := (List.takeWhile_prefix (runQ q) (l := T.cps.toList.drop (a + 1).toNat)).length_le
  rw [List.length_drop] at hp
  have ha := hf.a
  have e4 : c.a.toNat = (a + 1).toNat + ((T.cps.toList.drop (a + 1).toNat).takeWhile (runQ q)).length := by
    rw [ha, Int.toNat_add (Int.le_add_one h0) (Int.natCast_nonneg _), Int.toNat_natCast]
  refine ⟨⟨d :: (T.cps.toList.drop (a + 1).toNat).takeWhile (runQ q), [], (T.cps.toList.drop (a + 1).toNat).dropWhile (runQ q)⟩, ?_, ?_, ?_, ?_, ?_, rfl⟩
  · rw [e]; exact (if_neg n3).trans ((if_neg n1).trans (if_neg n2))
  · rw [hf.vs, hb, es, toList_app, List.append_assoc]; rfl
  · rw [e4, ← List.drop_drop, tw_end]
  · rw [ha]; exact Int.le_add_of_nonneg_right (Int.natCast_nonneg _)
  · rw [e4]; exact sum_le (sg_lt h0 e) hp
theorem lo5 {a0 a : Int} (h : a0 + 1 ≤ a) (h0 : 0 ≤ a0) : a0.toNat + 1 ≤ a.toNat := by
  have := Int.toNat_le_toNat h
  rwa [toN1 h0] at this
theorem ar5 {v v0 o r L n0 n : Nat} (h1 : v = v0 + o) (h2 : o + 3 * r ≤ 3 * (L - n0)) (h3 : L - n = r) (h4 : n0 + 1 ≤ n) (h6 : v0 ≤ 3 * n0) : v ≤ 3 * n := by omega
theorem len5w {q : Nat} {M : List Nat} {vs0 vs : Str} {a0 a : Int} (h : vs.cps.toList = vs0.cps.toList ++ (stQ q (M.drop a0.toNat)).out) (hr : M.drop a.toNat = (stQ q (M.drop a0.toNat)).rem) (hl : a0 + 1 ≤ a) (h0 : 0 ≤ a0) (hg : a0.toNat ≤ M.length) (hv : vs0.length ≤ 3 * a0.toNat) : vs.length ≤ 3 * a.toNat := by
  have h1 := stQ_out (q := q) (r := M.drop a0.toNat)
  have h2 := congrArg List.length hr
  have h3 := congrArg List.length h
  rw [List.length_append, len_toList, len_toList] at h3
  rw [List.length_drop] at h2 h1
  exact ar5 h3 h1 h2 (lo5 hl h0) hv
theorem ks5w {q : Nat} {r : List Nat} {ks : List Kd} {a0 a : Int} (h : ks.length ≤ 2 * a0.toNat) (hl : a0 + 1 ≤ a) (h0 : 0 ≤ a0) : (ks ++ (stQ q r).ks).length ≤ 2 * a.toNat := by
  rw [List.length_append]
  exact Nat.le_trans (Nat.add_le_add h stQ_ks) (Nat.mul_le_mul_left 2 (lo5 hl h0))
theorem fit5 {vs : Str} {a : Int} {T : Str} (h : vs.length ≤ 3 * a.toNat) (hg : a.toNat ≤ T.cps.toList.length) (hm : T.length ≤ 640) : vs.length ≤ 100000 := by
  rw [len_toList] at hg; omega
theorem fitq5 {prog : Program} {w : World} {own : Led} {adds : List Value} {ks : List Kd} {a : Int} {T : Str} (q : QIs prog w own adds ks) (h : ks.length ≤ 2 * a.toNat) (hg : a.toNat ≤ T.cps.toList.length) (hm : T.length ≤ 640) : adds.length ≤ 100000 := by
  rw [len_toList] at hg; rw [q.len]; omega
theorem own_ne {w : World} {K : Ks} {x : St} {zd dd : Addr} {own : Led} (h : ∀ p ∈ own, @LT.lt Nat _ p.1 zd ∨ @LT.lt Nat _ dd p.1) (hz : @LT.lt Nat _ zd dd) (ho : K.ord) (he : @LT.lt Nat _ K.er dd) : ∀ q ∈ own ++ K.led w x, q.1 ≠ dd := fun q hq => by
  rcases List.mem_append.mp hq with hq | hq
  · rcases h q hq with z | z
    · exact Nat.ne_of_lt (Nat.lt_trans z hz)
    · exact Nat.ne_of_gt z
  · exact Ks.ne_all ho (.inr he) q hq
theorem Ord5.er {K : Ks} {Z : Kz} {tq ct dl p2 dd : Addr} {e3 e4 : Addr × Obj} (o : Ord5 K Z tq ct dl p2 dd e3 e4) : @LT.lt Nat _ K.er dd := Nat.lt_trans o.h1 (Nat.lt_trans o.h2 (Nat.lt_trans o.h3 (Nat.lt_trans o.h4 o.h5)))
theorem Ord5.zd {K : Ks} {Z : Kz} {tq ct dl p2 dd : Addr} {e3 e4 : Addr × Obj} (o : Ord5 K Z tq ct dl p2 dd e3 e4) (k : K.ord) (h : @LT.lt Nat _ Z.zd K.sd) : @LT.lt Nat _ Z.zd dd := Nat.lt_trans (Nat.lt_trans h (K.lo_hi k)) o.er
theorem Ord5.hne {K : Ks} {Z : Kz} {tq ct dl p2 dd : Addr} {e3 e4 : Addr × Obj} {o1 : Obj} {own : Led} (o : Ord5 K Z tq ct dl p2 dd e3 e4) (h : ∀ p ∈ own, @LT.lt Nat _ p.1 Z.zd ∨ @LT.lt Nat _ dd p.1) :
    ∀ p ∈ (dd, o1) :: e3 :: e4 :: own, @LT.lt Nat _ p.1 Z.zd ∨ @LT.lt Nat _ dl p.1 ∨ (@LT.lt Nat _ ct p.1 ∧ @LT.lt Nat _ p.1 p2) := by
  simp only [List.forall_mem_cons]
  exact ⟨.inr (.inl o.h5), .inr (.inr ⟨o.h6, o.h7⟩), .inl o.h8, fun p hp => (h p hp).imp id (fun z => .inl (Nat.lt_trans o.h5 z))⟩
theorem slice5 {T : Str} {a : Int} (h0 : 0 ≤ a) (hm : T.length ≤ 640) : (Txt.slice T (some (a + 1)) none).length ≤ 640 := by
  rw [← len_toList, slice_sn (by omega)]
  show (T.cps.toList.drop (a + 1).toNat).length ≤ 640
  rw [List.length_drop, len_toList]; omega
theorem slice13 {x : Str} {a : Int} (h0 : 0 ≤ a) : ∀ c ∈ (Txt.slice (mendS x) (some (a + 1)) none).cps.toList, c ≠ 13 := by
  intro c hc
  rw [slice_sn (by omega)] at hc
  exact mend13 x c (List.mem_of_mem_drop hc)
theorem own_outs {K : Ks} {zd dd : Addr} {own : Led} (h : ∀ p ∈ own, @LT.lt Nat _ p.1 zd ∨ @LT.lt Nat _ dd p.1) (hz : @LT.lt Nat _ zd K.sd) (he : @LT.lt Nat _ K.er dd) : Outs K own := fun p hp => (h p hp).imp (fun q => Nat.lt_trans q hz) (fun q => Nat.lt_trans he q)
theorem sub_contains {l l' : List Str} {z : Str} (s : ∀ x ∈ l, x ∈ l') (h : l'.contains z = false) : ¬ l.contains z = true := fun q => by
  have := List.elem_iff.mpr (s z (List.elem_iff.mp q))
  rw [show List.elem z l' = l'.contains z from rfl, h] at this
  cases this
theorem mid_sto {z : Str} (h : sto5.contains z = false) : ¬ mid5.contains z = true := sub_contains (List.forall_mem_cons.mpr ⟨.tail _ (.head _), List.forall_mem_cons.mpr ⟨.tail _ (.tail _ (.head _)), List.forall_mem_cons.mpr ⟨.tail _ (.tail _ (.tail _ (.head _))), List.forall_mem_nil _⟩⟩⟩) h
theorem sto_law {z : Str} (h : (["reader", "value", "due", "at", "ended", "sign", "output", "faults", "used", "went"] : List Str).contains z = false) : ¬ sto5.contains z = true := sub_contains (fun x hx => .tail _ (.tail _ (.tail _ (.tail _ (.tail _ hx))))) h
theorem some_nat (n : Nat) : ∃ k, k = n := ⟨n, rfl⟩
theorem iadd_fits {prog : Program} {w : World} {fl : Led} {ds fs : List Value} {al : Option Nat} {T : List Nat} (h : ds.length ≤ 100000) (q : QIs prog w fl fs (ceR al T).ks) : ds.length + fs.length ≤ 200000 := by
  have := due_len q
  omega
theorem app_out (vs : Str) (o : List Nat) : (vs ++ (⟨o.toArray⟩ : Str)).cps.toList = vs.cps.toList ++ o := by rw [toList_app]
theorem val_sl {vs T : Str} {i j : Option Int} (h : vs.length ≤ 100000) (hm : T.length ≤ 640) : vs.length + (Txt.slice T i j).length ≤ sizeLine := by
  have := slice_len_le (l := i) (u := j) hm
  rw [sizeLine_eq]; omega
theorem val_one {vs : Str} {c : Nat} (h : vs.length + 1 ≤ 6001) : vs.length + (⟨#[c]⟩ : Str).length ≤ sizeLine := by
  show vs.length + 1 ≤ sizeLine
  rw [sizeLine_eq]; omega
theorem drop_640 {T : Str} {n : Nat} (hm : T.length ≤ 640) : (T.cps.toList.drop n).length ≤ 640 := by
  rw [List.length_drop, len_toList]; omega
theorem own_cons {d zd dd : Addr} {o : Obj} {own : Led} (h : ∀ p ∈ own, @LT.lt Nat _ p.1 zd ∨ @LT.lt Nat _ dd p.1) (hd : @LT.lt Nat _ dd d) : ∀ p ∈ (d, o) :: own, @LT.lt Nat _ p.1 zd ∨ @LT.lt Nat _ dd p.1 := List.forall_mem_cons.mpr ⟨.inr hd, h⟩
theorem own_more {zd dd : Addr} {od : Obj} {own o2 N : Led} (h : ∀ p ∈ own, @LT.lt Nat _ p.1 zd ∨ @LT.lt Nat _ dd p.1) (hb : ∀ p ∈ o2, p ∈ own ∨ ∀ r ∈ N, @LT.lt Nat _ r.1 p.1) (hd : (dd, od) ∈ N) : ∀ p ∈ o2, @LT.lt Nat _ p.1 zd ∨ @LT.lt Nat _ dd p.1 := fun p hp => (hb p hp).elim (h p) (fun z => .inr (z _ hd))
end Mine.Internal
namespace Mine.Internal
theorem mend5t {x : Str} (h : Txt5 70 x.cps.toList) : (mendS x).length ≤ 640 := Nat.le_trans (mend5 h) (by decide)
theorem b0_len {vs T : Str} {a : Int} {i j : Option Int} (h : vs.length ≤ 3 * a.toNat) (ha : a.toNat ≤ T.cps.toList.length + 1) (hm : T.length ≤ 640) : (vs ++ Txt.slice T i j).cps.toList.length ≤ 3000 := by
  rw [toList_app, List.length_append, len_toList, len_toList]
  rw [len_toList] at ha
  have := slice_len_le (l := i) (u := j) hm
  omega
theorem drop_len {T : Str} {n : Nat} (hm : T.length ≤ 640) : (T.cps.toList.drop n).length ≤ 3000 := by
  rw [List.length_drop, len_toList]; omega
theorem eof_t {q : Nat} {t : Tok} (h : ((⟨#[q]⟩ : Str) == Str.ofString "\"") = true) : ∃ t', Value.str (Str.ofString "eof-in-attribute-value-double-quote") t = .str (eofN q) t' := by
  have e := chr_is (a := 34) h
  subst e; exact ⟨t, rfl⟩
theorem eof_f {q : Nat} {t : Tok} (hq : q = 34 ∨ q = 39) (h : ((⟨#[q]⟩ : Str) == Str.ofString "\"") = false) : ∃ t', Value.str (Str.ofString "eof-in-attribute-value-single-quote") t = .str (eofN q) t' := by
  have e := hq.resolve_left (chr_no (a := 34) h)
  subst e; exact ⟨t, rfl⟩
end Mine.Internal
namespace Mine.Internal
theorem own_ne2 {w : World} {K : Ks} {Z : Kz} {x : St} {tq ct dl p2 dd : Addr} {e3 e4 : Addr × Obj} {own : Led} (o : Ord5 K Z tq ct dl p2 dd e3 e4) (h : ∀ p ∈ own, @LT.lt Nat _ p.1 Z.zd ∨ @LT.lt Nat _ dd p.1) (k : K.ord) (hz : @LT.lt Nat _ Z.zd K.sd) : ∀ q ∈ e3 :: e4 :: (own ++ K.led w x), q.1 ≠ dd := by
  simp only [List.forall_mem_cons]
  exact ⟨Nat.ne_of_lt (Nat.lt_trans o.h7 (Nat.lt_trans o.h4 o.h5)), Nat.ne_of_lt (Nat.lt_trans o.h8 (o.zd k hz)), own_ne h (o.zd k hz) k o.er⟩
theorem fit63m {T : Str} {a : Int} (h : a < T.length) (hm : T.length ≤ 640) : a < 9223372036854775808 := by omega
end Mine.Internal
namespace Mine.Internal
theorem two_same {n1 n2 : Str} {a b : Option Value} {c d : Value} {u m₀ : Str → Option Value} {z : Str} (h1 : z ≠ n1) (h2 : z ≠ n2) : (if z = n2 then a else if z = n1 then b else kstB (fun z => if ([] : List Str).contains z = true then u z else m₀ z) [(n1, c), (n2, d)] z) = m₀ z := by
  rw [if_neg h2, if_neg h1]
  show (if z = n1 then some c else if z = n2 then some d else m₀ z) = m₀ z
  rw [if_neg h1, if_neg h2]
end Mine.Internal

end
section
set_option tactic.hygienic false
open PySem PySem.W PyProof.Rows PySem.Calls PySem.Spec
namespace Mine.Internal
inductive PosL (S : List Addr) : Led → List Nat → Prop
  | nil : PosL S [] []
  | cons {p : Addr × Obj} {l : Led} {is : List Nat} (i : Nat) (h : S[i]? = some p.1) (t : PosL S l is) : PosL S (p :: l) (i :: is)
theorem PosL.get {S : List Addr} {l : Led} {is : List Nat} (P : PosL S l is) : ∀ p ∈ l, ∃ i ∈ is, S[i]? = some p.1 := by
  induction P with
  | nil => exact fun _ h => nomatch h
  | cons i h _ ih =>
    intro p hp
    cases hp with
    | head => exact ⟨i, .head _, h⟩
    | tail _ hp =>
      obtain ⟨j, hj, e⟩ := ih p hp
      exact ⟨j, .tail _ hj, e⟩
theorem Srt.lt_at {S : List Addr} (h : Srt S) : ∀ {i j : Nat} {a b : Addr}, i < j → S[i]? = some a → S[j]? = some b → @LT.lt Nat _ b a := by
  induction S with
  | nil => intro i j a b _ e _; cases e
  | cons x S ih =>
    intro i j a b hij e1 e2
    cases j with
    | zero => exact absurd hij (Nat.not_lt_zero _)
    | succ j =>
      cases i with
      | zero =>
        cases e1
        exact h.1 b (List.mem_of_getElem? e2)
      | succ i => exact ih h.2 (Nat.lt_of_succ_lt_succ hij) e1 e2
theorem Srt.ne_at {S : List Addr} (h : Srt S) {i j : Nat} {a b : Addr} (hij : (i == j) = false) (e1 : S[i]? = some a) (e2 : S[j]? = some b) : @Ne Nat a b := by
  rcases Nat.lt_or_gt_of_ne (ne_of_beq_false hij) with q | q
  · exact Nat.ne_of_gt (h.lt_at q e1 e2)
  · exact Nat.ne_of_lt (h.lt_at q e2 e1)
noncomputable def apart1 (i : Nat) (js : List Nat) : Bool := js.all fun j => !(i == j)
noncomputable def apartL (is js : List Nat) : Bool := is.all fun i => apart1 i js
theorem Srt.neA {S : List Addr} (h : Srt S) {a : Addr} {r : Led} {js : List Nat} (i : Nat) (e : S[i]? = some a) (q : PosL S r js) (d : apart1 i js = true) : ∀ q ∈ r, q.1 ≠ a := fun z hz => by
  obtain ⟨j, hj, e2⟩ := q.get z hz
  exact Ne.symm (h.ne_at (by simpa using List.all_eq_true.mp d j hj) e e2)
theorem Srt.neL {S : List Addr} (h : Srt S) {l r : Led} {is js : List Nat} (p : PosL S l is) (q : PosL S r js) (d : apartL is js = true) : ∀ p ∈ l, ∀ q ∈ r, p.1 ≠ q.1 := fun x hx => by
  obtain ⟨i, hi, e⟩ := p.get x hx
  exact fun z hz => Ne.symm (h.neA i e q (List.all_eq_true.mp d i hi) z hz)
theorem Srt.neB {S : List Addr} (h : Srt S) {a : Addr} {r : Led} {is js : List Nat} (p : PosL S [(a, instObj 0 0)] is) (q : PosL S r js) (d : apartL is js = true) : ∀ q ∈ r, q.1 ≠ a := fun z hz => Ne.symm (h.neL p q d _ (.head _) z hz)
inductive UpdI (d : Addr) (o o' : Obj) : Nat → Led → Led → Prop
  | head {r : Led} : UpdI d o o' 0 ((d, o) :: r) ((d, o') :: r)
  | tail {p : Addr × Obj} {r r' : Led} {k : Nat} : UpdI d o o' k r r' → UpdI d o o' (k + 1) (p :: r) (p :: r')
noncomputable def apartAt : Nat → Nat → List Nat → Bool
  | _, _, [] => true
  | i, 0, _ :: r => apart1 i r
  | i, k + 1, j :: r => !(i == j) && apartAt i k r
theorem PosL.head {S : List Addr} {p : Addr × Obj} {l : Led} {is : List Nat} (P : PosL S (p :: l) is) : ∃ i js, is = i :: js ∧ S[i]? = some p.1 ∧ PosL S l js := by
  cases P with
  | cons i h t => exact ⟨i, _, rfl, h, t⟩
theorem Srt.upd {S : List Addr} (h : Srt S) {d : Addr} {o o' : Obj} {k : Nat} {l l' : Led} {is : List Nat} (i : Nat) (e : S[i]? = some d) (u : UpdI d o o' k l l') (p : PosL S l is) (q : apartAt i k is = true) : Upd d o o' l l' := by
  induction u generalizing is with
  | head =>
    obtain ⟨j, js, rfl, hj, t⟩ := p.head
    exact .head (h.neA i e t q)
  | tail u ih =>
    obtain ⟨j, js, rfl, hj, t⟩ := p.head
    have q' : (!(i == j) && apartAt i _ js) = true := q
    obtain ⟨q1, q2⟩ := Bool.and_eq_true_iff.mp q'
    exact .tail (Ne.symm (h.ne_at (by simpa using q1) e hj)) (ih t q2)
noncomputable def apartK (k : Nat) (is : List Nat) : Bool := match is[k]? with
  | some i => apartAt i k is
  | none => false
theorem PosL.at {S : List Addr} {d : Addr} {o o' : Obj} {k : Nat} {l l' : Led} (u : UpdI d o o' k l l') {is : List Nat} (P : PosL S l is) : ∃ i, is[k]? = some i ∧ S[i]? = some d := by
  induction u generalizing is with
  | head => obtain ⟨i, js, rfl, h, _⟩ := P.head; exact ⟨i, rfl, h⟩
  | tail _ ih => obtain ⟨i, js, rfl, _, t⟩ := P.head; exact ih t
theorem Srt.updP {S : List Addr} (h : Srt S) {d : Addr} {o o' : Obj} {k : Nat} {l l' : Led} {is : List Nat} (u : UpdI d o o' k l l') (p : PosL S l is) (q : apartK k is = true) : Upd d o o' l l' := by
  obtain ⟨i, h1, h2⟩ := PosL.at u p
  unfold apartK at q
  rw [h1] at q
  exact h.upd i h2 u p q
theorem fresh_grow {S : List Addr} {t q : Addr} {o o' : Obj} {fr l : Led} (S8 : Srt (t :: S)) (h : ∀ p ∈ (q, o) :: fr, ∀ r ∈ l, @LT.lt Nat _ r.1 p.1) (m : (t, o') ∈ l) : Srt (q :: t :: S) := S8.grow (h _ (.head _) _ m)
end Mine.Internal

end
section
set_option tactic.hygienic false
open PySem PySem.W PyProof.Rows PySem.Calls PySem.Spec
namespace Mine.Internal
noncomputable def CQ (g : Heap) (l : Led) (Post : CPost) (hs : Heap) (gens : Array GenState) (drawn : Drawn) (t0 : Nat) (os : OsState) : Flow → Shared → Prop :=
  fun fl s' => CEnd g l Post ⟨hs, gens, drawn, t0, os⟩ (match fl with | .ret v => v | _ => .none) s'
theorem fin9 {g : Heap} {l : Led} {Post : CPost} {hs : Heap} {gens : Array GenState} {drawn : Drawn} {t0 : Nat} {os : OsState} {v : Value} {s' : Shared} (h : CEnd g l Post ⟨hs, gens, drawn, t0, os⟩ v s') : CQ g l Post hs gens drawn t0 os (.ret v) s' := h
theorem fin0 {g : Heap} {l : Led} {Post : CPost} {hs : Heap} {gens : Array GenState} {drawn : Drawn} {t0 : Nat} {os : OsState} {s' : Shared} (h : CEnd g l Post ⟨hs, gens, drawn, t0, os⟩ .none s') : CQ g l Post hs gens drawn t0 os .next s' := h
noncomputable def XQ : Value → Shared → Prop := fun _ _ => False
theorem ctr_introN {prog : Program} {w : World} {K : Frag} {TP : Heap → Prop} {D U : Nat} {l : Led} {Post : CPost}
    {name qual : Str} {params : Arguments} {body : List Stmt} {scope : Scope} {dV kV doc pm cdv ct oc : Value} {an od : Option Addr} {osl : Array (Option Value)} {f : Addr} {pos : List Value} {kw : List (Str × Value)} {binds : List (Str × Value)}
    (hT : ∀ h h' : Heap, TP h → h.StaysIn h' → TP h') (hlim : ∀ h : Heap, TP h → h.NoLimit)
    (ho : K.lookup f = some ⟨oc, od, .func (fnOf name qual params body scope dV kV doc pm an cdv ct), osl⟩) (hcd : codeIn K cdv qual = true) (hD : D < recursionLimit)
    (hbind : ∀ s : Shared, K.In s.heap → BindsTo s (fnOf name qual params body scope dV kV doc pm an cdv ct) ⟨pos, kw⟩ binds) (hloc : ∀ y ∈ binds, scope.names.lookup y.1 = some .local)
    (h : ∀ (A : Around) (base g : Heap) (env : Env) (outer : List Env) (L' : Addr) (h₁ : Heap) (hs : Heap) (gens : Array GenState) (drawn : Drawn) (t0 : Nat) (os : OsState) (tk : Nat),
      Below A base (env :: outer) g → Fr g L' h₁ (fun y => binds.reverse.lookup y) → K.In g → News g L' h₁ l → TP g → (∀ p ∈ l, p.1 < L') →
      let e9 := envOf qual scope L' f cdv
      let A9 := (topA D (U + 1) env outer).deeper e9
      let q9 := CQ g l Post hs gens drawn t0 os
      wpAny (model prog w) A9 (execs body e9) q9 XQ ⟨h₁, gens, drawn, tk + 1, os⟩)
    (hcell : ∀ x ∈ scope.names, x.2 ≠ .cell) (hco : scope.isCoroutine = false) (hgen : scope.isGenerator = false) (hk : scope.kind = .function) (hbn : @LE.le Nat _ 1 binds.length := by exact Nat.le_of_ble_eq_true rfl) :
    CtrC prog w K TP D U (.ref f) ⟨pos, kw⟩ l Post :=
  ctr_intro1 hT hlim ho hcd hD hbind hloc (fun A base g env outer L' h₁ s tk a b c d e f i => by
    obtain ⟨tk, rfl⟩ : ∃ k, tk = k + 1 := ⟨tk - 1, (Nat.sub_add_cancel (Nat.le_trans hbn i)).symm⟩
    exact h A base g env outer L' h₁ s.heap s.gens s.drawn s.toks s.os tk a b c d e f) hcell hco hgen hk
theorem ctr_introM {prog : Program} {w : World} {K : Frag} {TP : Heap → Prop} {D U : Nat} {l : Led} {Post : CPost}
    {name qual : Str} {params : Arguments} {body : List Stmt} {scope : Scope} {dV kV doc pm cdv ct oc : Value} {an od : Option Addr} {osl : Array (Option Value)} {f : Addr} {pos : List Value} {kw : List (Str × Value)} {binds : List (Str × Value)}
    (hT : ∀ h h' : Heap, TP h → h.StaysIn h' → TP h') (hlim : ∀ h : Heap, TP h → h.NoLimit)
    (ho : K.lookup f = some ⟨oc, od, .func (fnOf name qual params body scope dV kV doc pm an cdv ct), osl⟩) (hcd : codeIn K cdv qual = true) (hD : D < recursionLimit)
    (hbind : ∀ s : Shared, K.In s.heap → BindsTo s (fnOf name qual params body scope dV kV doc pm an cdv ct) ⟨pos, kw⟩ binds) (hloc : ∀ y ∈ binds, scope.names.lookup y.1 = some .local)
    (h : ∀ (A : Around) (base g : Heap) (env : Env) (outer : List Env) (L' : Addr) (h₁ : Heap) (hs : Heap) (gens : Array GenState) (drawn : Drawn) (t0 : Nat) (os : OsState) (tk : Nat),
      Below A base (env :: outer) g → Fr g L' h₁ (fun y => binds.reverse.lookup y) → K.In g → News g L' h₁ l → TP g → (∀ p ∈ l, p.1 < L') →
      let e9 := envOf qual scope L' f cdv
      let A9 := (topA D (U + 1) env outer).deeper e9
      let q9 := CQ g l Post hs gens drawn t0 os
      wpAny (model prog w) A9 (execs body e9) q9 XQ ⟨h₁, gens, drawn, tk, os⟩)
    (hcell : ∀ x ∈ scope.names, x.2 ≠ .cell) (hco : scope.isCoroutine = false) (hgen : scope.isGenerator = false) (hk : scope.kind = .function) :
    CtrC prog w K TP D U (.ref f) ⟨pos, kw⟩ l Post :=
  ctr_intro1 hT hlim ho hcd hD hbind hloc (fun A base g env outer L' h₁ s tk a b c d e f _ => by
    exact h A base g env outer L' h₁ s.heap s.gens s.drawn s.toks s.os tk a b c d e f) hcell hco hgen hk
noncomputable def CQS (fs : List Addr) (g : Heap) (l : Led) (Post : CPost) (hs : Heap) (gens : Array GenState) (drawn : Drawn) (t0 : Nat) (os : OsState) : Flow → Shared → Prop :=
  fun fl s' => CEndS fs g l Post ⟨hs, gens, drawn, t0, os⟩ (match fl with | .ret v => v | _ => .none) s'
theorem finS9 {fs : List Addr} {g : Heap} {l : Led} {Post : CPost} {hs : Heap} {gens : Array GenState} {drawn : Drawn} {t0 : Nat} {os : OsState} {v : Value} {s' : Shared} (h : CEndS fs g l Post ⟨hs, gens, drawn, t0, os⟩ v s') : CQS fs g l Post hs gens drawn t0 os (.ret v) s' := h
theorem finS0 {fs : List Addr} {g : Heap} {l : Led} {Post : CPost} {hs : Heap} {gens : Array GenState} {drawn : Drawn} {t0 : Nat} {os : OsState} {s' : Shared} (h : CEndS fs g l Post ⟨hs, gens, drawn, t0, os⟩ .none s') : CQS fs g l Post hs gens drawn t0 os .next s' := h
theorem ctrS_introN {prog : Program} {w : World} {K : Frag} {TP : Heap → Prop} {D U : Nat} {l : Led} {Post : CPost}
    {name qual : Str} {params : Arguments} {body : List Stmt} {scope : Scope} {dV kV doc pm cdv ct oc : Value} {an od : Option Addr} {osl : Array (Option Value)} {f : Addr} {pos : List Value} {kw : List (Str × Value)} {binds : List (Str × Value)}
    (hT : ∀ h h' : Heap, TP h → h.StaysIn h' → TP h') (hlim : ∀ h : Heap, TP h → h.NoLimit)
    (ho : K.lookup f = some ⟨oc, od, .func (fnOf name qual params body scope dV kV doc pm an cdv ct), osl⟩) (hcd : codeIn K cdv qual = true) (hD : D < recursionLimit)
    (hbind : ∀ s : Shared, K.In s.heap → BindsTo s (fnOf name qual params body scope dV kV doc pm an cdv ct) ⟨pos, kw⟩ binds) (hloc : ∀ y ∈ binds, scope.names.lookup y.1 = some .local)
    (h : ∀ (base g : Heap) (env : Env) (outer : List Env) (L' : Addr) (h₁ : Heap) (hs : Heap) (gens : Array GenState) (drawn : Drawn) (t0 : Nat) (os : OsState) (tk : Nat),
      Below (topA D (U + 1) env outer) base (env :: outer) g → Fr g L' h₁ (fun y => binds.reverse.lookup y) → K.In base → TP base → KtsDicts (fms (env :: outer)) g → K.In g → News g L' h₁ l → TP g → (∀ p ∈ l, p.1 < L') →
      let e9 := envOf qual scope L' f cdv
      let A9 := (topA D (U + 1) env outer).deeper e9
      let q9 := CQS (fms (env :: outer)) g l Post hs gens drawn t0 os
      wpAny (model prog w) A9 (execs body e9) q9 XQ ⟨h₁, gens, drawn, tk, os⟩)
    (hcell : ∀ x ∈ scope.names, x.2 ≠ .cell) (hco : scope.isCoroutine = false) (hgen : scope.isGenerator = false) (hk : scope.kind = .function) :
    CtrS prog w K TP D U (.ref f) ⟨pos, kw⟩ l Post :=
  ctrS_intro hT hlim ho hcd hD hbind hloc (fun base g env outer L' h₁ s tk a b c d e f i j k => h base g env outer L' h₁ s.heap s.gens s.drawn s.toks s.os tk a b c d e f i j k) hcell hco hgen hk
section
variable {M : Model} {A : Around} {E : Value → Shared → Prop} {h : Heap} {g : Array GenState} {d : Drawn} {t : Nat} {o : OsState} {env : Env} {st : Stmt} {rest : List Stmt} {Q : Flow → Shared → Prop}
theorem nextU {st' : Stmt} (ht : @LE.le Nat _ 1 t) (k : let qk : Flow → Shared → Prop := fun f s' => match f with | .next => wpAny M A (execs (st' :: rest) env) Q E s' | f => Q f s'
    ∀ t : Nat, wpAny M A (exec st env) qk E ⟨h, g, d, t + 1, o⟩) : wpAny M A (execs (st :: st' :: rest) env) Q E ⟨h, g, d, t, o⟩ := by
  have := k (t - 1)
  rw [Nat.sub_add_cancel ht] at this
  exact wpAny_execs_cons this
theorem nextS {st' : Stmt} (k : let qk : Flow → Shared → Prop := fun f s' => match f with | .next => wpAny M A (execs (st' :: rest) env) Q E s' | f => Q f s'
    ∀ t : Nat, wpAny M A (exec st env) qk E ⟨h, g, d, t + 1, o⟩) : wpAny M A (execs (st :: st' :: rest) env) Q E ⟨h, g, d, t + 1, o⟩ := wpAny_execs_cons (k t)
theorem lastS (k : ∀ t : Nat, wpAny M A (exec st env) Q E ⟨h, g, d, t + 1, o⟩) : wpAny M A (execs [st] env) Q E ⟨h, g, d, t + 1, o⟩ :=
  wpAny_execs_cons (wpAny_mono (k t) (fun f s' hq => by cases f <;> first | exact wpAny_execs_nil hq | exact hq) (fun _ _ x => x))
theorem lastU (ht : @LE.le Nat _ 1 t) (k : ∀ t : Nat, wpAny M A (exec st env) Q E ⟨h, g, d, t + 1, o⟩) : wpAny M A (execs [st] env) Q E ⟨h, g, d, t, o⟩ := by
  have := k (t - 1)
  rw [Nat.sub_add_cancel ht] at this
  exact wpAny_execs_cons (wpAny_mono this (fun f s' hq => by cases f <;> first | exact wpAny_execs_nil hq | exact hq) (fun _ _ x => x))
theorem nextZ {st' : Stmt} (k : let qk : Flow → Shared → Prop := fun f s' => match f with | .next => wpAny M A (execs (st' :: rest) env) Q E s' | f => Q f s'
    ∀ t : Nat, wpAny M A (exec st env) qk E ⟨h, g, d, t, o⟩) : wpAny M A (execs (st :: st' :: rest) env) Q E ⟨h, g, d, t, o⟩ := wpAny_execs_cons (k t)
theorem lastZ (k : ∀ t : Nat, wpAny M A (exec st env) Q E ⟨h, g, d, t, o⟩) : wpAny M A (execs [st] env) Q E ⟨h, g, d, t, o⟩ :=
  wpAny_execs_cons (wpAny_mono (k t) (fun f s' hq => by cases f <;> first | exact wpAny_execs_nil hq | exact hq) (fun _ _ x => x))
theorem nilS {s : Shared} (k : Q .next s) : wpAny M A (execs [] env) Q E s := wpAny_execs_nil k
end
section
variable {M : Model} {A : Around} {E : Value → Shared → Prop} {h : Heap} {g : Array GenState} {d : Drawn} {t : Nat} {o : OsState} {env : Env} {Q : Value → Shared → Prop} {pos : Pos} {k : Nat}
theorem c_int {i : Int} (q : Q (.int i t) ⟨h, g, d, t + 1, o⟩) : wpAny M A (eval (.Constant (.int i) k pos) env) Q E ⟨h, g, d, t, o⟩ := wpAny_Constant_int q
theorem c_str {x : Str} (q : Q (.str x t) ⟨h, g, d, t + 1, o⟩) : wpAny M A (eval (.Constant (.str x) k pos) env) Q E ⟨h, g, d, t, o⟩ := Constant_str q
end
section
variable {M : Model} {A : Around} {E : Value → Shared → Prop} {h : Heap} {gs : Array GenState} {d : Drawn} {t : Nat} {o : OsState} {h₀ : Heap} {L a : Addr} {m : Str → Option Value} {cn : Str} {cs : Scope} {ccd : Value} {cl : List (Str × Addr)}
  {x : Str} {v : Value} {Q : Unit → Shared → Prop} {news : Led}
theorem st_name (F : Fr h₀ L h m) (N : News h₀ L h news)
    (k : let m' : Str → Option Value := fun y => if y = x then some v else m y
      ∀ h', Fr h₀ L h' m' → News h₀ L h' news → Q () ⟨h', gs, d, t + 1, o⟩)
    (hk : cs.kind = .function := by rfl) (hx : (envX cn cs L a ccd cl).kindOf x = some .local := by rfl) : wpAny M A (storeName (envX cn cs L a ccd cl) x v) Q E ⟨h, gs, d, t, o⟩ :=
  storeX_L (s := ⟨h, gs, d, t, o⟩) F N k hk hx
end
section
variable {prog : Program} {w : World} {A A₀ : Around} {E : Value → Shared → Prop} {h : Heap} {gs : Array GenState} {d : Drawn} {t : Nat} {o : OsState} {K : Frag} {x C dx L : Addr} {h₀ : Heap} {m : Str → Option Value} {news news' : Led} {es es' : List DictEntry} {n n' : Nat} {name : Str} {v : Value}
theorem st_attr {Q : Unit → Shared → Prop} (F : Fr h₀ L h m) (X₀ : K.In h₀) (N : News h₀ L h news) (h1 : (x, instObj C dx) ∈ news) (h2 : (dx, dictOf es n) ∈ news)
    (hs : findIn K (.ref C) "__setattr__" = some (some (.builtin "object.__setattr__"))) (hp : plainOver K C = true) (ht : takerIn K C name = some none) (hh : hasDictIn K C = true) (hl : (getL name es).isSome = true)
    (e : (putL name (PyData.keyHash w.params name) (.str name (t + 1)) v es, putN name es n) = (es', n')) (U : Upd dx (dictOf es n) (dictOf es' n') news news') (hz : es'.length ≤ 1000)
    (k : ∀ h', Fr h₀ L h' m → News h₀ L h' news' → Q () ⟨h', gs, d, t + 2, o⟩) :
    wpAny (model prog w) A (setAttr (.ref x) name v) Q E ⟨h, gs, d, t, o⟩ :=
  set_dict (s := ⟨h, gs, d, t, o⟩) F X₀ N (InstAt.of_news N h1 h2) rfl hs hp ht hh hl e U hz k
theorem at_name {xp : Str} {xpos pos : Pos} {cn : Str} {cs : Scope} {a : Addr} {ccd : Value} {cl : List (Str × Addr)} {Q : Value → Shared → Prop} {attr : Option Value}
    (F : Fr h₀ L h m) (X₀ : K.In h₀) (N : News h₀ L h news) (hv : m xp = some (.ref x)) (h1 : (x, instObj C dx) ∈ news) (h2 : (dx, dictOf es n) ∈ news) (hg : plainGet K C name = true) (hh : hasDictIn K C = true)
    (ha : findIn K (.ref C) name = some attr) (hn : noGet K attr = true) (hl : getL name es = some (some v)) (hh2 : handedIn v = true)
    (q : Q v ⟨h, gs, d, t + 1, o⟩)
    (hk : cs.kind = .function := by rfl) (hx : (envX cn cs L a ccd cl).kindOf xp = some .local := by rfl) (hd : (xp == ("__debug__" : Str)) = false := by decide)
    (he : eval (.Attribute (.Name xp xpos) name pos) (envX cn cs L a ccd cl) = (do
      let o ← eval (.Name xp xpos) (envX cn cs L a ccd cl)
      standAt pos.atName
      let r ← holding [o] (getAttr o name true)
      letTemporaryGo (.Name xp xpos) o r
      pure r) := by with_unfolding_all rfl) :
    wpAny (model prog w) A (eval (.Attribute (.Name xp xpos) name pos) (envX cn cs L a ccd cl)) Q E ⟨h, gs, d, t, o⟩ :=
  Attribute_Name_ (nameX_L (s := ⟨h, gs, d, t, o⟩) F hv (get_own (s := ⟨h, gs, d, t, o⟩) F X₀ (InstAt.of_news N h1 h2) hg hh ha hn hl hh2 q) hk hx hd) he
end
section
variable {prog : Program} {w : World} {A : Around} {E : Value → Shared → Prop} {h : Heap} {gs : Array GenState} {d : Drawn} {n : Nat} {o : OsState} {Q : Value → Shared → Prop}
theorem c_replace {x y z : Str} {t u v : Tok} (huv : @Ne Nat u v) (hyz : (y == z) = false) (hx : x.length ≤ 1048576) (hz : z.length ≤ 14)
    (hq : ∀ t' k, Q (.str (Txt.replace x y z) t') ⟨h, gs, d, k + 1, o⟩) : wpAny (model prog w) A (call (.builtin "str.replace") [.str x t, .str y (u + 1), .str z (v + 1)]) Q E ⟨h, gs, d, n + 1, o⟩ :=
  replaceM (s := ⟨h, gs, d, n + 1, o⟩) (Nat.succ_ne_zero u) (Nat.succ_ne_zero v) (fun e => huv (Nat.succ.inj e)) hyz hx hz (fun t' k hk => by
    obtain ⟨k, rfl⟩ : ∃ j, k = j + 1 := ⟨k - 1, (Nat.sub_add_cancel (Nat.le_trans (Nat.succ_le_succ (Nat.zero_le n)) hk)).symm⟩
    exact hq t' k)
end
section
variable {prog : Program} {w : World} {K : Frag} {TP : Heap → Prop} {D U : Nat} {t : Sem Value} {l c rest : Led} {A A₀ : Around} {base h₀ h : Heap} {env : Env} {outer : List Env} {L : Addr} {m : Str → Option Value} {gs : Array GenState} {d : Drawn} {n : Nat} {o : OsState} {Q E : Value → Shared → Prop}
theorem Ctr.useN {P : Value → Led → Prop} (C : Ctr prog w K TP D U t l (noF P)) (B : Below A₀ base outer h₀) (F : Fr h₀ L h m) (X : K.In h₀) (N : News h₀ L h c) (T : TP h₀)
    (hA : A.frames = some (env :: outer)) (hf : env.frame = some L) (hke : env.scope.kind = .function) (hh : A.handled = none) (hd : A.depth ≤ D) (hu : A.units ≤ U)
    (tk : Take l c rest) (ne : ∀ p ∈ rest, ∀ q ∈ l, p.1 ≠ q.1)
    (k : ∀ v l', P v l' → ∀ h' n', @LE.le Nat _ n n' → Fr h₀ L h' m → News h₀ L h' (l' ++ rest) → Q v ⟨h', gs, d, n', o⟩) : wpAny (model prog w) A t Q E ⟨h, gs, d, n, o⟩ :=
  C A A₀ base h₀ env outer L m ⟨h, gs, d, n, o⟩ Q E rest B F X (tk.news N) T hA hf hke hh hd hu ne (fun v fr l' h' tk' hp ht' _ F' N' => by
    obtain ⟨rfl, hp⟩ := hp
    exact k v l' hp h' tk' ht' F' N')
theorem Ctr.useF {P : CPost} (C : Ctr prog w K TP D U t l P) (B : Below A₀ base outer h₀) (F : Fr h₀ L h m) (X : K.In h₀) (N : News h₀ L h c) (T : TP h₀)
    (hA : A.frames = some (env :: outer)) (hf : env.frame = some L) (hke : env.scope.kind = .function) (hh : A.handled = none) (hd : A.depth ≤ D) (hu : A.units ≤ U)
    (tk : Take l c rest) (ne : ∀ p ∈ rest, ∀ q ∈ l, p.1 ≠ q.1)
    (k : ∀ v fr l', P v fr l' → (∀ p ∈ fr, ∀ r ∈ l ++ rest, @LT.lt Nat _ r.1 p.1) → ∀ h' n', @LE.le Nat _ n n' → Fr h₀ L h' m → News h₀ L h' (fr ++ l' ++ rest) → Q v ⟨h', gs, d, n', o⟩) : wpAny (model prog w) A t Q E ⟨h, gs, d, n, o⟩ :=
  C A A₀ base h₀ env outer L m ⟨h, gs, d, n, o⟩ Q E rest B F X (tk.news N) T hA hf hke hh hd hu ne (fun v fr l' h' tk' hp ht' hfr F' N' => by
    exact k v fr l' hp hfr h' tk' ht' F' N')
end
inductive Bnd (q : Addr) (f self : Value) (P : Value → Led → Prop) : Value → Led → Prop
  | mk {v : Value} {l : Led} (h : P v l) : Bnd q f self P v ((q, methodObj f self) :: l)
theorem CtrC.boundN {prog : Program} {w : World} {K : Frag} {TP : Heap → Prop} {D U : Nat} {f self : Value} {q : Addr} {pos : List Value} {kw : List (Str × Value)} {l : Led} {P : Value → Led → Prop}
    (C : CtrC prog w K TP D U f ⟨self :: pos, kw⟩ l (noF P)) (hql : ∀ p ∈ l, p.1 ≠ q) :
    Ctr prog w K TP D U (PySem.call (.ref q) pos kw) ((q, methodObj f self) :: l) (noF (Bnd q f self P)) := by
  intro A A₀ base h₀ env outer L m s Q E rest B F X N T hA hf hke hh hd hu hne hQ
  refine CtrC.bound C (fun p hp => Ne.symm (hql p hp)) A A₀ base h₀ env outer L m s Q E rest B F X N T hA hf hke hh hd hu hne (fun v fr l' h' tk' hp ht hfr F' N' => ?_)
  obtain ⟨l'', rfl, rfl, hp⟩ := hp
  exact hQ v [] _ h' tk' ⟨rfl, .mk hp⟩ ht hfr F' N'
end Mine.Internal

end
section
open PySem PySem.W PyProof.Rows PySem.Calls PySem.Spec
set_option maxRecDepth 100000
set_option maxHeartbeats 400000000
namespace Mine.Internal
local macro_rules | `(tactic| size_fits) => `(tactic| k_extra "size")
local macro_rules | `(tactic| tm_at "eq") => `(tactic| (with_unfolding_all exact PyProof.Rows.v_eq_bool (k := true) (l := true) (PyProof.Rows.v_res rfl) PyProof.Rows.v_lit))
local macro_rules | `(tactic| passes_own) => `(tactic| k_extra "po")
local macro_rules | `(tactic| k_in) => `(tactic| first | with_reducible assumption | exact Frag.In.keeps (by with_reducible assumption) (Fr.keep (by with_reducible assumption)))
local macro_rules | `(tactic| k_room) => `(tactic| exact Nat.le_of_ble_eq_true rfl)
local macro_rules | `(tactic| k_steps) => `(tactic| repeat' (first | ((fail_if_success (fail_if_success k_unfold)); k_extra "next") | (k_unfold; (try dsimp only)) | (k_end; wrow_close) | walk1 | (dsimp only; walk1) | (leave1; walk_say "STEP leave1"; try dsimp only) | fail "no step"))
local macro_rules | `(tactic| walk_at $s:str) => `(tactic| k_extra $s)
local macro_rules | `(tactic| k_all) => `(tactic| k_extra "all")
local macro_rules | `(tactic| k_ne) => `(tactic| k_extra "ne")
local macro_rules | `(tactic| k_in) => `(tactic| k_extra "in")
local macro_rules | `(tactic| k_upd) => `(tactic| k_extra "upd")
local macro_rules | `(tactic| k_lt $h) => `(tactic| (revert $h:ident; k_extra "lt"))
local macro_rules | `(tactic| k_lt2 $h) => `(tactic| (revert $h:ident; k_extra "lt2"))
theorem main.tw10023216429234749859 : True := ⟨⟩
theorem main.tw10040650592145808960 : True := ⟨⟩
theorem main.tw10043645473394411141 : True := ⟨⟩
theorem main.tw10046393564091023420 : True := ⟨⟩
theorem main.tw10046727809161031378 : True := ⟨⟩
theorem main.tw10053362868999418749 : True := ⟨⟩
theorem main.tw10053753761261000652 : True := ⟨⟩
theorem main.tw10070998016851980800 : True := ⟨⟩
theorem main.tw10073286446643584993 : True := ⟨⟩
theorem main.tw10120841507784995530 : True := ⟨⟩
theorem main.tw1013997585769912673 : True := ⟨⟩
theorem main.tw10161402112437779436 : True := ⟨⟩
theorem main.tw10177352690759128221 : True := ⟨⟩
theorem main.tw10180515696109083177 : True := ⟨⟩
theorem main.tw10196920075564382162 : True := ⟨⟩
theorem main.tw1025130396011242515 : True := ⟨⟩
theorem main.tw10271462561417333343 : True := ⟨⟩
theorem main.tw10278875301165399962 : True := ⟨⟩
theorem main.tw10288650158458768753 : True := ⟨⟩
theorem main.tw10297972270295956009 : True := ⟨⟩
theorem main.tw10303968668570466222 : True := ⟨⟩
theorem main.tw10308895420299081216 : True := ⟨⟩
theorem main.tw10309699142624141507 : True := ⟨⟩
theorem main.tw1031765399252574917 : True := ⟨⟩
theorem main.tw10322969633853836883 : True := ⟨⟩
theorem main.tw10328587823670452498 : True := ⟨⟩
theorem main.tw10347165607039768325 : True := ⟨⟩
theorem main.tw1038547464879363397 : True := ⟨⟩
theorem main.tw10385684711634392909 : True := ⟨⟩
theorem main.tw10390374173888912449 : True := ⟨⟩
theorem main.tw10434708572517896522 : True := ⟨⟩
theorem main.tw10436078037754071431 : True := ⟨⟩
theorem main.tw10440920105907014920 : True := ⟨⟩
theorem main.tw10444647068345236073 : True := ⟨⟩
theorem main.tw10480133599824989816 : True := ⟨⟩
theorem main.tw10492438308582190394 : True := ⟨⟩
theorem main.tw10498526579032192438 : True := ⟨⟩
theorem main.tw1050166501530494423 : True := ⟨⟩
theorem main.tw10517235262075802054 : True := ⟨⟩
theorem main.tw10523394492770496998 : True := ⟨⟩
theorem main.tw10543306466324899626 : True := ⟨⟩
theorem main.tw10560464971613371954 : True := ⟨⟩
theorem main.tw10565703751113137202 : True := ⟨⟩
theorem main.tw10583265868896537019 : True := ⟨⟩
theorem main.tw1062289972186488545 : True := ⟨⟩
theorem main.tw10653169788537623322 : True := ⟨⟩
theorem main.tw10678755418281806533 : True := ⟨⟩
theorem main.tw10687909447789387113 : True := ⟨⟩
theorem main.tw1068812231199707816 : True := ⟨⟩
theorem main.tw10694066461022140834 : True := ⟨⟩
theorem main.tw10695546567524401486 : True := ⟨⟩
theorem main.tw10705968754666226739 : True := ⟨⟩
theorem main.tw1072636097423993065 : True := ⟨⟩
theorem main.tw1073955365300943949 : True := ⟨⟩
theorem main.tw10758804782543124382 : True := ⟨⟩
theorem main.tw1078662318413408276 : True := ⟨⟩
theorem main.tw10799424930603608796 : True := ⟨⟩
theorem main.tw10804134724067085259 : True := ⟨⟩
theorem main.tw10815909221013692612 : True := ⟨⟩
theorem main.tw10833408379140661266 : True := ⟨⟩
theorem main.tw10835955332524744044 : True := ⟨⟩
theorem main.tw10839992949745929630 : True := ⟨⟩
theorem main.tw10871283571528544395 : True := ⟨⟩
theorem main.tw10871293036084005087 : True := ⟨⟩
theorem main.tw10899094029452054437 : True := ⟨⟩
theorem main.tw10916717783038204558 : True := ⟨⟩
theorem main.tw10926241578131026219 : True := ⟨⟩
theorem main.tw10934798296316075956 : True := ⟨⟩
theorem main.tw10938402098977778470 : True := ⟨⟩
theorem main.tw1096516976958778121 : True := ⟨⟩
theorem main.tw10980123507247645758 : True := ⟨⟩
theorem main.tw11001622385964810982 : True := ⟨⟩
theorem main.tw11005193663938795516 : True := ⟨⟩
theorem main.tw11012129470220845136 : True := ⟨⟩
theorem main.tw11034916536091838146 : True := ⟨⟩
theorem main.tw1105270846461842697 : True := ⟨⟩
theorem main.tw11077837550520376705 : True := ⟨⟩
theorem main.tw11110832240473757052 : True := ⟨⟩
theorem main.tw11116706314288256233 : True := ⟨⟩
theorem main.tw11118022616448068574 : True := ⟨⟩
theorem main.tw11122251452892550798 : True := ⟨⟩
theorem main.tw111231791877217785 : True := ⟨⟩
theorem main.tw1112963673480286534 : True := ⟨⟩
theorem main.tw11145402791356267719 : True := ⟨⟩
theorem main.tw11163015120005115923 : True := ⟨⟩
theorem main.tw11175315845038103690 : True := ⟨⟩
theorem main.tw11209188420962459506 : True := ⟨⟩
theorem main.tw11214402113823378998 : True := ⟨⟩
theorem main.tw11287953397327612774 : True := ⟨⟩
theorem main.tw11292786071654124186 : True := ⟨⟩
theorem main.tw11299022181482971071 : True := ⟨⟩
theorem main.tw11315334805740100097 : True := ⟨⟩
theorem main.tw11320765536956949449 : True := ⟨⟩
theorem main.tw11333404043778943323 : True := ⟨⟩
theorem main.tw11343196335435003072 : True := ⟨⟩
theorem main.tw11377735282057770108 : True := ⟨⟩
theorem main.tw11443288096424721517 : True := ⟨⟩
theorem main.tw11481020460698763666 : True := ⟨⟩
theorem main.tw11509008894443506685 : True := ⟨⟩
theorem main.tw11527100260467649386 : True := ⟨⟩
theorem main.tw11537956683338630383 : True := ⟨⟩
theorem main.tw11543472635058493794 : True := ⟨⟩
theorem main.tw11547382934132139519 : True := ⟨⟩
theorem main.tw11576230927637898173 : True := ⟨⟩
theorem main.tw11579708991523040051 : True := ⟨⟩
theorem main.tw11601682451327219109 : True := ⟨⟩
theorem main.tw11605412728090389508 : True := ⟨⟩
theorem main.tw1162353465806818218 : True := ⟨⟩
theorem main.tw11648469112263746088 : True := ⟨⟩
theorem main.tw11650857210656308808 : True := ⟨⟩
theorem main.tw11651895032536297775 : True := ⟨⟩
theorem main.tw11656252529945786486 : True := ⟨⟩
theorem main.tw11665721926869280828 : True := ⟨⟩
theorem main.tw11745012251463277581 : True := ⟨⟩
theorem main.tw11751638361083799241 : True := ⟨⟩
theorem main.tw1177658166500609482 : True := ⟨⟩
theorem main.tw117865787843134301 : True := ⟨⟩
theorem main.tw11801641480320592950 : True := ⟨⟩
theorem main.tw11804117523773053968 : True := ⟨⟩
theorem main.tw11807584938254393009 : True := ⟨⟩
theorem main.tw11812318650792773407 : True := ⟨⟩
theorem main.tw11817738332911389988 : True := ⟨⟩
theorem main.tw11822278912455534105 : True := ⟨⟩
theorem main.tw11827359447094427065 : True := ⟨⟩
theorem main.tw11830923810597764417 : True := ⟨⟩
theorem main.tw11832982245049729781 : True := ⟨⟩
theorem main.tw11874431644581681229 : True := ⟨⟩
theorem main.tw11888923222419618904 : True := ⟨⟩
theorem main.tw11897676272438511658 : True := ⟨⟩
theorem main.tw11910221601743685753 : True := ⟨⟩
theorem main.tw11913848286851280485 : True := ⟨⟩
theorem main.tw11915975209450370505 : True := ⟨⟩
theorem main.tw11923579568519453046 : True := ⟨⟩
theorem main.tw11926908473165273671 : True := ⟨⟩
theorem main.tw11930365855874596552 : True := ⟨⟩
theorem main.tw11985843751818611632 : True := ⟨⟩
theorem main.tw11998975423125869188 : True := ⟨⟩
theorem main.tw12008618834020198452 : True := ⟨⟩
theorem main.tw12028935686920467596 : True := ⟨⟩
theorem main.tw12050710921934823414 : True := ⟨⟩
theorem main.tw12055929568288920360 : True := ⟨⟩
theorem main.tw12057684487817480140 : True := ⟨⟩
theorem main.tw12060422125218720375 : True := ⟨⟩
theorem main.tw12083584854881789436 : True := ⟨⟩
theorem main.tw12097270978576341016 : True := ⟨⟩
theorem main.tw12102530904250922140 : True := ⟨⟩
theorem main.tw12105363282288363319 : True := ⟨⟩
theorem main.tw12112399904496239578 : True := ⟨⟩
theorem main.tw12148787975849213767 : True := ⟨⟩
theorem main.tw12158052936666111867 : True := ⟨⟩
theorem main.tw12184192518910918996 : True := ⟨⟩
theorem main.tw12186387220061091099 : True := ⟨⟩
theorem main.tw12195588698423795295 : True := ⟨⟩
theorem main.tw12235109030325827999 : True := ⟨⟩
theorem main.tw12253984699551225856 : True := ⟨⟩
theorem main.tw12254554216366044628 : True := ⟨⟩
theorem main.tw12266321265796822618 : True := ⟨⟩
theorem main.tw1227082755455209162 : True := ⟨⟩
theorem main.tw12284946303946176864 : True := ⟨⟩
theorem main.tw12287596359008651027 : True := ⟨⟩
theorem main.tw12290903976309136502 : True := ⟨⟩
theorem main.tw12291804085094793745 : True := ⟨⟩
theorem main.tw12294913915507317621 : True := ⟨⟩
theorem main.tw12334257995491581405 : True := ⟨⟩
theorem main.tw12339486633059267018 : True := ⟨⟩
theorem main.tw12353813775906059566 : True := ⟨⟩
theorem main.tw12366504446502552078 : True := ⟨⟩
theorem main.tw12370082323872129008 : True := ⟨⟩
theorem main.tw12378009232701382954 : True := ⟨⟩
theorem main.tw12382416113807773583 : True := ⟨⟩
theorem main.tw12405428267636687703 : True := ⟨⟩
theorem main.tw12425137391138224907 : True := ⟨⟩
theorem main.tw12428166251546661703 : True := ⟨⟩
theorem main.tw12435918809077080684 : True := ⟨⟩
theorem main.tw12453483116619877857 : True := ⟨⟩
theorem main.tw12456801561626644367 : True := ⟨⟩
theorem main.tw12476311014070758782 : True := ⟨⟩
theorem main.tw12476972291821639335 : True := ⟨⟩
theorem main.tw12493883692557333044 : True := ⟨⟩
theorem main.tw12518071476616979144 : True := ⟨⟩
theorem main.tw12543439000638923522 : True := ⟨⟩
theorem main.tw12566714432673101547 : True := ⟨⟩
theorem main.tw12577089576051996047 : True := ⟨⟩
theorem main.tw12598917264982991858 : True := ⟨⟩
theorem main.tw12606780823912870227 : True := ⟨⟩
theorem main.tw12608305039502615393 : True := ⟨⟩
theorem main.tw12611677305408334490 : True := ⟨⟩
theorem main.tw1263154940020821703 : True := ⟨⟩
theorem main.tw12656116102701854620 : True := ⟨⟩
theorem main.tw12664087920147988344 : True := ⟨⟩
theorem main.tw12681416834507466817 : True := ⟨⟩
theorem main.tw12685957366688819421 : True := ⟨⟩
theorem main.tw12719230891847962442 : True := ⟨⟩
theorem main.tw12723535852535152271 : True := ⟨⟩
theorem main.tw12724878309271642292 : True := ⟨⟩
theorem main.tw12765236646740177294 : True := ⟨⟩
theorem main.tw1277607685379289845 : True := ⟨⟩
theorem main.tw12793961455207843180 : True := ⟨⟩
theorem main.tw12812171766507625038 : True := ⟨⟩
theorem main.tw12820903949589551787 : True := ⟨⟩
theorem main.tw12830911758012122131 : True := ⟨⟩
theorem main.tw1283526657002427284 : True := ⟨⟩
theorem main.tw12839939129518166449 : True := ⟨⟩
theorem main.tw1284343163701477698 : True := ⟨⟩
theorem main.tw1284967617690943513 : True := ⟨⟩
theorem main.tw12853263043071137589 : True := ⟨⟩
theorem main.tw12857639022058571948 : True := ⟨⟩
theorem main.tw12872673566709696761 : True := ⟨⟩
theorem main.tw12884846405606864888 : True := ⟨⟩
theorem main.tw12903161261186272290 : True := ⟨⟩
theorem main.tw12903915928643529109 : True := ⟨⟩
theorem main.tw12917821375779496827 : True := ⟨⟩
theorem main.tw12930125569691871565 : True := ⟨⟩
theorem main.tw12953558148630380205 : True := ⟨⟩
theorem main.tw12967587422831333594 : True := ⟨⟩
theorem main.tw12968591962578011314 : True := ⟨⟩
theorem main.tw12970252948059191858 : True := ⟨⟩
theorem main.tw12985563455672729498 : True := ⟨⟩
theorem main.tw13025341945748906136 : True := ⟨⟩
theorem main.tw13036930404576180707 : True := ⟨⟩
theorem main.tw1303870235021155574 : True := ⟨⟩
theorem main.tw13046646069208072009 : True := ⟨⟩
theorem main.tw13082016621023770337 : True := ⟨⟩
theorem main.tw13087847357843552312 : True := ⟨⟩
theorem main.tw13090235224947412142 : True := ⟨⟩
theorem main.tw13096562468588436678 : True := ⟨⟩
theorem main.tw13105467095038062303 : True := ⟨⟩
theorem main.tw13109910849429753268 : True := ⟨⟩
theorem main.tw13119030871068887809 : True := ⟨⟩
theorem main.tw13120829950233360018 : True := ⟨⟩
theorem main.tw13121950329725443542 : True := ⟨⟩
theorem main.tw13123296091798268284 : True := ⟨⟩
theorem main.tw13150642230695257992 : True := ⟨⟩
theorem main.tw13155686724948042960 : True := ⟨⟩
theorem main.tw13173194763038928779 : True := ⟨⟩
theorem main.tw13175212335891660237 : True := ⟨⟩
theorem main.tw13176017210958811282 : True := ⟨⟩
theorem main.tw1318229201235836783 : True := ⟨⟩
theorem main.tw13212620538318516488 : True := ⟨⟩
theorem main.tw13234269625008490304 : True := ⟨⟩
theorem main.tw1325930475059968393 : True := ⟨⟩
theorem main.tw13273283706769089801 : True := ⟨⟩
theorem main.tw13273494133979066451 : True := ⟨⟩
theorem main.tw13276111058516223524 : True := ⟨⟩
theorem main.tw13320777612471585035 : True := ⟨⟩
theorem main.tw13323652809882095824 : True := ⟨⟩
theorem main.tw13337567399299638939 : True := ⟨⟩
theorem main.tw1339044443147891450 : True := ⟨⟩
theorem main.tw13393594064635449608 : True := ⟨⟩
theorem main.tw1339686672531063493 : True := ⟨⟩
theorem main.tw13403097662674176414 : True := ⟨⟩
theorem main.tw13432973819337260183 : True := ⟨⟩
theorem main.tw13433434403654333388 : True := ⟨⟩
theorem main.tw13435976712825821128 : True := ⟨⟩
theorem main.tw13437355924590775721 : True := ⟨⟩
theorem main.tw1344006961642217165 : True := ⟨⟩
theorem main.tw13442519625005806600 : True := ⟨⟩
theorem main.tw13517744194886268553 : True := ⟨⟩
theorem main.tw13525269375820829941 : True := ⟨⟩
theorem main.tw13526917470146073910 : True := ⟨⟩
theorem main.tw13538414902891089991 : True := ⟨⟩
theorem main.tw13560165558294956042 : True := ⟨⟩
theorem main.tw13562059985172378005 : True := ⟨⟩
theorem main.tw13580096092930110239 : True := ⟨⟩
theorem main.tw13600565011557826895 : True := ⟨⟩
theorem main.tw13612386364232354495 : True := ⟨⟩
theorem main.tw13613844423972651391 : True := ⟨⟩
theorem main.tw13621330554479564797 : True := ⟨⟩
theorem main.tw13633630296611860356 : True := ⟨⟩
theorem main.tw13639637540710378271 : True := ⟨⟩
theorem main.tw13670416772910508549 : True := ⟨⟩
theorem main.tw13681261787169959198 : True := ⟨⟩
theorem main.tw13681423632140699375 : True := ⟨⟩
theorem main.tw13685464850760795979 : True := ⟨⟩
theorem main.tw13742246020466748627 : True := ⟨⟩
theorem main.tw13748651382086619886 : True := ⟨⟩
theorem main.tw13750510376383286988 : True := ⟨⟩
theorem main.tw13761123172137178225 : True := ⟨⟩
theorem main.tw13783381036380690036 : True := ⟨⟩
theorem main.tw13790279956208770657 : True := ⟨⟩
theorem main.tw13791738579797958002 : True := ⟨⟩
theorem main.tw13814721228485765036 : True := ⟨⟩
theorem main.tw1381488885977479087 : True := ⟨⟩
theorem main.tw13817299995192029894 : True := ⟨⟩
theorem main.tw1382604328053016238 : True := ⟨⟩
theorem main.tw13846343841255299068 : True := ⟨⟩
theorem main.tw13865402017588289906 : True := ⟨⟩
theorem main.tw13866156564276429082 : True := ⟨⟩
theorem main.tw13871052462740130076 : True := ⟨⟩
theorem main.tw13889870629125409607 : True := ⟨⟩
theorem main.tw13898727854132262300 : True := ⟨⟩
theorem main.tw1390720707977671279 : True := ⟨⟩
theorem main.tw1391527577248789681 : True := ⟨⟩
theorem main.tw13934254615512129870 : True := ⟨⟩
theorem main.tw13952998626185534419 : True := ⟨⟩
theorem main.tw13975928471340527547 : True := ⟨⟩
theorem main.tw13977479495569725478 : True := ⟨⟩
theorem main.tw14006705621855905977 : True := ⟨⟩
theorem main.tw14010230154986326984 : True := ⟨⟩
theorem main.tw1403793049032158309 : True := ⟨⟩
theorem main.tw140484726810584974 : True := ⟨⟩
theorem main.tw14058549128469331148 : True := ⟨⟩
theorem main.tw14070738237383849611 : True := ⟨⟩
theorem main.tw14070985297238078344 : True := ⟨⟩
theorem main.tw14084985943505131202 : True := ⟨⟩
theorem main.tw14086299949540897200 : True := ⟨⟩
theorem main.tw14116258901397501558 : True := ⟨⟩
theorem main.tw14116783088108353342 : True := ⟨⟩
theorem main.tw14120260080095136841 : True := ⟨⟩
theorem main.tw14121201860285194534 : True := ⟨⟩
theorem main.tw14129796398099195522 : True := ⟨⟩
theorem main.tw14131743086799626953 : True := ⟨⟩
theorem main.tw14137382522845584548 : True := ⟨⟩
theorem main.tw14169439949656811534 : True := ⟨⟩
theorem main.tw1417174764347108541 : True := ⟨⟩
theorem main.tw14187207832079272398 : True := ⟨⟩
theorem main.tw1419027338852513248 : True := ⟨⟩
theorem main.tw14227087324130724127 : True := ⟨⟩
theorem main.tw14230426198074974781 : True := ⟨⟩
theorem main.tw1426165739836719336 : True := ⟨⟩
theorem main.tw14263429483411347241 : True := ⟨⟩
theorem main.tw14264771151246065232 : True := ⟨⟩
theorem main.tw14292037427810857913 : True := ⟨⟩
theorem main.tw14295980150073339262 : True := ⟨⟩
theorem main.tw14319998408292451620 : True := ⟨⟩
theorem main.tw1432834438766924960 : True := ⟨⟩
theorem main.tw14345819410969646119 : True := ⟨⟩
theorem main.tw14347226246240139161 : True := ⟨⟩
theorem main.tw14352292278703085770 : True := ⟨⟩
theorem main.tw14368548984795427624 : True := ⟨⟩
theorem main.tw14386624947042787071 : True := ⟨⟩
theorem main.tw14409748654668726151 : True := ⟨⟩
theorem main.tw14415632762500767900 : True := ⟨⟩
theorem main.tw14417502097949002917 : True := ⟨⟩
theorem main.tw1441878909636661941 : True := ⟨⟩
theorem main.tw144500467268121906 : True := ⟨⟩
theorem main.tw14452046468698080874 : True := ⟨⟩
theorem main.tw14453371020696350650 : True := ⟨⟩
theorem main.tw14458546566710942977 : True := ⟨⟩
theorem main.tw14466154142425863955 : True := ⟨⟩
theorem main.tw1446694761647268009 : True := ⟨⟩
theorem main.tw14494904676204802095 : True := ⟨⟩
theorem main.tw14502488901099396501 : True := ⟨⟩
theorem main.tw14522938668971434885 : True := ⟨⟩
theorem main.tw14537450019153051991 : True := ⟨⟩
theorem main.tw14541128131288380829 : True := ⟨⟩
theorem main.tw14548371465575333668 : True := ⟨⟩
theorem main.tw14578142047689139454 : True := ⟨⟩
theorem main.tw14627560896615758001 : True := ⟨⟩
theorem main.tw14629243384345626083 : True := ⟨⟩
theorem main.tw14667917501914195118 : True := ⟨⟩
theorem main.tw14673909670066941863 : True := ⟨⟩
theorem main.tw14681639400702691960 : True := ⟨⟩
theorem main.tw14720004185528982391 : True := ⟨⟩
theorem main.tw14757969742828008713 : True := ⟨⟩
theorem main.tw14766382537209830674 : True := ⟨⟩
theorem main.tw14858570723701920263 : True := ⟨⟩
theorem main.tw14880191616899788239 : True := ⟨⟩
theorem main.tw14891094757345406116 : True := ⟨⟩
theorem main.tw14903051288947113723 : True := ⟨⟩
theorem main.tw14953484359197247582 : True := ⟨⟩
theorem main.tw1496641351508231228 : True := ⟨⟩
theorem main.tw15015111288849602867 : True := ⟨⟩
theorem main.tw15036140292866834066 : True := ⟨⟩
theorem main.tw15065305084719027114 : True := ⟨⟩
theorem main.tw15067221844328033466 : True := ⟨⟩
theorem main.tw15073143240194224712 : True := ⟨⟩
theorem main.tw15091636007760851431 : True := ⟨⟩
theorem main.tw15119470463916845940 : True := ⟨⟩
theorem main.tw15124233344536562547 : True := ⟨⟩
theorem main.tw15131217093995405917 : True := ⟨⟩
theorem main.tw15145321199161939454 : True := ⟨⟩
theorem main.tw15157218586046271826 : True := ⟨⟩
theorem main.tw15159490273619958664 : True := ⟨⟩
theorem main.tw15163031477218665325 : True := ⟨⟩
theorem main.tw15182042088927537698 : True := ⟨⟩
theorem main.tw15183165575251545298 : True := ⟨⟩
theorem main.tw15187294628808286126 : True := ⟨⟩
theorem main.tw15208815566122129715 : True := ⟨⟩
theorem main.tw15218124028859059513 : True := ⟨⟩
theorem main.tw15220798369095227235 : True := ⟨⟩
theorem main.tw15250807170023008163 : True := ⟨⟩
theorem main.tw15254020090456207404 : True := ⟨⟩
theorem main.tw15261414580505006758 : True := ⟨⟩
theorem main.tw15268431099393155739 : True := ⟨⟩
theorem main.tw15272384756033816549 : True := ⟨⟩
theorem main.tw15320287906085699310 : True := ⟨⟩
theorem main.tw15346822135443404404 : True := ⟨⟩
theorem main.tw15349743947800654751 : True := ⟨⟩
theorem main.tw15389327945418215068 : True := ⟨⟩
theorem main.tw15443453874323421859 : True := ⟨⟩
theorem main.tw15444968558782299529 : True := ⟨⟩
theorem main.tw15449954396954739307 : True := ⟨⟩
theorem main.tw15460443108094267759 : True := ⟨⟩
theorem main.tw15468000139907181785 : True := ⟨⟩
theorem main.tw15471704449587110807 : True := ⟨⟩
theorem main.tw15472740278469042264 : True := ⟨⟩
theorem main.tw15474422221286975002 : True := ⟨⟩
theorem main.tw15507944958647477950 : True := ⟨⟩
theorem main.tw15521857191610671232 : True := ⟨⟩
theorem main.tw15525705244753957535 : True := ⟨⟩
theorem main.tw1554912440253531867 : True := ⟨⟩
theorem main.tw15564934884189797170 : True := ⟨⟩
theorem main.tw156074481368604375 : True := ⟨⟩
theorem main.tw15610144658242746549 : True := ⟨⟩
theorem main.tw15641333041124299813 : True := ⟨⟩
theorem main.tw15643031011164770099 : True := ⟨⟩
theorem main.tw15662467652954760656 : True := ⟨⟩
theorem main.tw1568190611963401656 : True := ⟨⟩
theorem main.tw15682473582396170696 : True := ⟨⟩
theorem main.tw15689039764200711428 : True := ⟨⟩
theorem main.tw15693878858091441903 : True := ⟨⟩
theorem main.tw15743930626855181957 : True := ⟨⟩
theorem main.tw15810594319993825957 : True := ⟨⟩
theorem main.tw15813965126469659277 : True := ⟨⟩
theorem main.tw15823801904750430661 : True := ⟨⟩
theorem main.tw1583248505384213891 : True := ⟨⟩
theorem main.tw15834395710947032294 : True := ⟨⟩
theorem main.tw15852780608557602579 : True := ⟨⟩
theorem main.tw15886317987272897667 : True := ⟨⟩
theorem main.tw15886878293761681940 : True := ⟨⟩
theorem main.tw15887338096939263381 : True := ⟨⟩
theorem main.tw15893691471082726865 : True := ⟨⟩
theorem main.tw15939135216810644357 : True := ⟨⟩
theorem main.tw15968557084061499276 : True := ⟨⟩
theorem main.tw15968590688784803213 : True := ⟨⟩
theorem main.tw15980538880093490129 : True := ⟨⟩
theorem main.tw16005078268224939753 : True := ⟨⟩
theorem main.tw16028392598184163056 : True := ⟨⟩
theorem main.tw16035636102840645184 : True := ⟨⟩
theorem main.tw16046785832879142669 : True := ⟨⟩
theorem main.tw16053404413617535587 : True := ⟨⟩
theorem main.tw16067779894682482440 : True := ⟨⟩
theorem main.tw16103328417691970683 : True := ⟨⟩
theorem main.tw16107420204201818878 : True := ⟨⟩
theorem main.tw16136480149535285781 : True := ⟨⟩
theorem main.tw16136933308854893207 : True := ⟨⟩
theorem main.tw16138054218588275459 : True := ⟨⟩
theorem main.tw16148830795289512010 : True := ⟨⟩
theorem main.tw16152042100665958553 : True := ⟨⟩
theorem main.tw16156162450810372841 : True := ⟨⟩
theorem main.tw16176231961500713579 : True := ⟨⟩
theorem main.tw16191586338647638674 : True := ⟨⟩
theorem main.tw16195250350033146165 : True := ⟨⟩
theorem main.tw16197700647612915172 : True := ⟨⟩
theorem main.tw16203443089297424273 : True := ⟨⟩
theorem main.tw16204744479138647222 : True := ⟨⟩
theorem main.tw16210668033245960438 : True := ⟨⟩
theorem main.tw16218993716828157846 : True := ⟨⟩
theorem main.tw16229319474554376097 : True := ⟨⟩
theorem main.tw1623195853881501448 : True := ⟨⟩
theorem main.tw16238369109891383347 : True := ⟨⟩
theorem main.tw16238430190936666235 : True := ⟨⟩
theorem main.tw16239573490109993236 : True := ⟨⟩
theorem main.tw16255761817772565937 : True := ⟨⟩
theorem main.tw16256566736842889220 : True := ⟨⟩
theorem main.tw16265700737481640900 : True := ⟨⟩
theorem main.tw16276725121630806347 : True := ⟨⟩
theorem main.tw16280118821670845564 : True := ⟨⟩
theorem main.tw16288059979852645152 : True := ⟨⟩
theorem main.tw16290095049648921356 : True := ⟨⟩
theorem main.tw16294229565372462788 : True := ⟨⟩
theorem main.tw16300817170888368660 : True := ⟨⟩
theorem main.tw16308858863361778103 : True := ⟨⟩
theorem main.tw16343906396252043406 : True := ⟨⟩
theorem main.tw16355354518699560987 : True := ⟨⟩
theorem main.tw16365892746055586307 : True := ⟨⟩
theorem main.tw16381980959767241870 : True := ⟨⟩
theorem main.tw16398902535412932217 : True := ⟨⟩
theorem main.tw16405295038616099146 : True := ⟨⟩
theorem main.tw16427579589696508901 : True := ⟨⟩
theorem main.tw16435655699322316512 : True := ⟨⟩
theorem main.tw16438014652984670090 : True := ⟨⟩
theorem main.tw16438527106512547009 : True := ⟨⟩
theorem main.tw16441979001879675393 : True := ⟨⟩
theorem main.tw16501684553446707135 : True := ⟨⟩
theorem main.tw16502267668958568077 : True := ⟨⟩
theorem main.tw16515390481915438290 : True := ⟨⟩
theorem main.tw16525614771705244615 : True := ⟨⟩
theorem main.tw16536999046426117148 : True := ⟨⟩
theorem main.tw16556096624374403914 : True := ⟨⟩
theorem main.tw16614730806028959055 : True := ⟨⟩
theorem main.tw16616484597524413703 : True := ⟨⟩
theorem main.tw16632795682647451593 : True := ⟨⟩
theorem main.tw16672347593970394415 : True := ⟨⟩
theorem main.tw16706546988946613818 : True := ⟨⟩
theorem main.tw16725587710940879688 : True := ⟨⟩
theorem main.tw16726855816971509234 : True := ⟨⟩
theorem main.tw16741365473365742500 : True := ⟨⟩
theorem main.tw16744341766133690325 : True := ⟨⟩
theorem main.tw16747871750915486772 : True := ⟨⟩
theorem main.tw16765954575990112803 : True := ⟨⟩
theorem main.tw1676724375430865335 : True := ⟨⟩
theorem main.tw16768480050744178236 : True := ⟨⟩
theorem main.tw16772991365417982484 : True := ⟨⟩
theorem main.tw16775770572179878173 : True := ⟨⟩
theorem main.tw16777114165694142054 : True := ⟨⟩
theorem main.tw16778000889299214070 : True := ⟨⟩
theorem main.tw16781784789281860958 : True := ⟨⟩
theorem main.tw16798859928846278210 : True := ⟨⟩
theorem main.tw16850627312601078577 : True := ⟨⟩
theorem main.tw16859033189492256807 : True := ⟨⟩
theorem main.tw1687537637806219265 : True := ⟨⟩
theorem main.tw16876558867659480788 : True := ⟨⟩
theorem main.tw16891615732304830211 : True := ⟨⟩
theorem main.tw16899061783259940836 : True := ⟨⟩
theorem main.tw16903022900691281159 : True := ⟨⟩
theorem main.tw16928811664248450436 : True := ⟨⟩
theorem main.tw16959661361015162744 : True := ⟨⟩
theorem main.tw16985988459906744398 : True := ⟨⟩
theorem main.tw17008886415857585682 : True := ⟨⟩
theorem main.tw17023186693513284007 : True := ⟨⟩
theorem main.tw17045747750064514181 : True := ⟨⟩
theorem main.tw17065970260752692450 : True := ⟨⟩
theorem main.tw17079325164956456438 : True := ⟨⟩
theorem main.tw17094576705328918404 : True := ⟨⟩
theorem main.tw17145312859027392966 : True := ⟨⟩
theorem main.tw17179648164711320676 : True := ⟨⟩
theorem main.tw17189560309898352479 : True := ⟨⟩
theorem main.tw17200071697881280183 : True := ⟨⟩
theorem main.tw17205431337810411811 : True := ⟨⟩
theorem main.tw17210058121205660539 : True := ⟨⟩
theorem main.tw17210249984954947657 : True := ⟨⟩
theorem main.tw17222532714639596944 : True := ⟨⟩
theorem main.tw17226008255547202947 : True := ⟨⟩
theorem main.tw17238589132646606832 : True := ⟨⟩
theorem main.tw1724344740107316381 : True := ⟨⟩
theorem main.tw17263027491776874984 : True := ⟨⟩
theorem main.tw17276676786256513934 : True := ⟨⟩
theorem main.tw17293040134813132398 : True := ⟨⟩
theorem main.tw17294303086990883594 : True := ⟨⟩
theorem main.tw17299735379877282444 : True := ⟨⟩
theorem main.tw17342739349943993621 : True := ⟨⟩
theorem main.tw17344839780428942418 : True := ⟨⟩
theorem main.tw1734708372850746524 : True := ⟨⟩
theorem main.tw17349828507643174764 : True := ⟨⟩
theorem main.tw17367629061461438135 : True := ⟨⟩
theorem main.tw17370264474060839139 : True := ⟨⟩
theorem main.tw17391922875715332485 : True := ⟨⟩
theorem main.tw17393246987506242659 : True := ⟨⟩
theorem main.tw17411139357740151808 : True := ⟨⟩
theorem main.tw1743345963533338969 : True := ⟨⟩
theorem main.tw17437174277582430087 : True := ⟨⟩
theorem main.tw17439343132499600656 : True := ⟨⟩
theorem main.tw17442377672721089886 : True := ⟨⟩
theorem main.tw17447230648512979527 : True := ⟨⟩
theorem main.tw1745101480760909229 : True := ⟨⟩
theorem main.tw17467276233706154064 : True := ⟨⟩
theorem main.tw17489628448806820680 : True := ⟨⟩
theorem main.tw17500773473612833888 : True := ⟨⟩
theorem main.tw17518984032136438799 : True := ⟨⟩
theorem main.tw17524808815578175191 : True := ⟨⟩
theorem main.tw17531500886901724792 : True := ⟨⟩
theorem main.tw17546056657857302062 : True := ⟨⟩
theorem main.tw17557205499575929874 : True := ⟨⟩
theorem main.tw17583313224497399901 : True := ⟨⟩
theorem main.tw17638393399531288113 : True := ⟨⟩
theorem main.tw1767629848817652594 : True := ⟨⟩
theorem main.tw17677493551680049499 : True := ⟨⟩
theorem main.tw17681501543332686566 : True := ⟨⟩
theorem main.tw17681743755420925514 : True := ⟨⟩
theorem main.tw1769571156964328020 : True := ⟨⟩
theorem main.tw1770443798944706555 : True := ⟨⟩
theorem main.tw17732091104000413229 : True := ⟨⟩
theorem main.tw17732451789624135708 : True := ⟨⟩
theorem main.tw17748314641421745711 : True := ⟨⟩
theorem main.tw17752651522708148593 : True := ⟨⟩
theorem main.tw17775395293607656282 : True := ⟨⟩
theorem main.tw17781153961316730533 : True := ⟨⟩
theorem main.tw17797862391227879448 : True := ⟨⟩
theorem main.tw1779850407545558931 : True := ⟨⟩
theorem main.tw17809477105219444030 : True := ⟨⟩
theorem main.tw17853243665478741750 : True := ⟨⟩
theorem main.tw17861241424289171767 : True := ⟨⟩
theorem main.tw1790015737594900885 : True := ⟨⟩
theorem main.tw17900695361700684923 : True := ⟨⟩
theorem main.tw1792248080742510491 : True := ⟨⟩
theorem main.tw17924518473618601469 : True := ⟨⟩
theorem main.tw18004917794731790759 : True := ⟨⟩
theorem main.tw18027279399861113557 : True := ⟨⟩
theorem main.tw18044547442324722921 : True := ⟨⟩
theorem main.tw18084886155079811712 : True := ⟨⟩
theorem main.tw18085039293197393909 : True := ⟨⟩
theorem main.tw18108192847358647101 : True := ⟨⟩
theorem main.tw18142968816848271808 : True := ⟨⟩
theorem main.tw18184679981460683836 : True := ⟨⟩
theorem main.tw18191531320663667130 : True := ⟨⟩
theorem main.tw18235984252551956240 : True := ⟨⟩
theorem main.tw18238190117704969506 : True := ⟨⟩
theorem main.tw18243912793331470855 : True := ⟨⟩
theorem main.tw18250705095706459558 : True := ⟨⟩
theorem main.tw1825977663594718130 : True := ⟨⟩
theorem main.tw18267052350312620909 : True := ⟨⟩
theorem main.tw18270773166306141978 : True := ⟨⟩
theorem main.tw18277887891688102822 : True := ⟨⟩
theorem main.tw18280256007115425731 : True := ⟨⟩
theorem main.tw18283768689549374540 : True := ⟨⟩
theorem main.tw18288797166873144076 : True := ⟨⟩
theorem main.tw1829363785552158327 : True := ⟨⟩
theorem main.tw18303307991560051295 : True := ⟨⟩
theorem main.tw18320578867353144272 : True := ⟨⟩
theorem main.tw18324848782513282653 : True := ⟨⟩
theorem main.tw18337712513834754415 : True := ⟨⟩
theorem main.tw18345942743439504426 : True := ⟨⟩
theorem main.tw18350620168412646394 : True := ⟨⟩
theorem main.tw18356235372429024265 : True := ⟨⟩
theorem main.tw18362417139445994016 : True := ⟨⟩
theorem main.tw18369451303578182252 : True := ⟨⟩
theorem main.tw18371382607465720849 : True := ⟨⟩
theorem main.tw18382997825090318735 : True := ⟨⟩
theorem main.tw18396120882820736952 : True := ⟨⟩
theorem main.tw18398800829542192811 : True := ⟨⟩
theorem main.tw18420004603335881977 : True := ⟨⟩
theorem main.tw1845388188213433419 : True := ⟨⟩
theorem main.tw1848521739074249968 : True := ⟨⟩
theorem main.tw1855208217236249986 : True := ⟨⟩
theorem main.tw1860108991126048101 : True := ⟨⟩
theorem main.tw1863683800879511184 : True := ⟨⟩
theorem main.tw1882103967715803896 : True := ⟨⟩
theorem main.tw1887654273250841056 : True := ⟨⟩
theorem main.tw1897650600844092497 : True := ⟨⟩
theorem main.tw1907168138500459487 : True := ⟨⟩
theorem main.tw1976350527869358923 : True := ⟨⟩
theorem main.tw1982642858812592819 : True := ⟨⟩
theorem main.tw2008451683862899579 : True := ⟨⟩
theorem main.tw202123991815840445 : True := ⟨⟩
theorem main.tw202461495639692907 : True := ⟨⟩
theorem main.tw2027678216468551453 : True := ⟨⟩
theorem main.tw2072547788070596129 : True := ⟨⟩
theorem main.tw2072994404298036584 : True := ⟨⟩
theorem main.tw2082333889016646126 : True := ⟨⟩
theorem main.tw208914938975835223 : True := ⟨⟩
theorem main.tw210822286310616272 : True := ⟨⟩
theorem main.tw2142373446539770622 : True := ⟨⟩
theorem main.tw2178821199819612820 : True := ⟨⟩
theorem main.tw2184172125623563289 : True := ⟨⟩
theorem main.tw2184209005104366138 : True := ⟨⟩
theorem main.tw2190744131759121538 : True := ⟨⟩
theorem main.tw2228332982408152750 : True := ⟨⟩
theorem main.tw2240190111855364321 : True := ⟨⟩
theorem main.tw225424674734612040 : True := ⟨⟩
theorem main.tw2261421588700274638 : True := ⟨⟩
theorem main.tw2298914082760217031 : True := ⟨⟩
theorem main.tw2310633646459873002 : True := ⟨⟩
theorem main.tw2328480001287501657 : True := ⟨⟩
theorem main.tw2379228892226148013 : True := ⟨⟩
theorem main.tw2379418587039239955 : True := ⟨⟩
theorem main.tw239484914142363780 : True := ⟨⟩
theorem main.tw2395697343598037184 : True := ⟨⟩
theorem main.tw2417395900657985767 : True := ⟨⟩
theorem main.tw2434013755359952725 : True := ⟨⟩
theorem main.tw2435090854577023546 : True := ⟨⟩
theorem main.tw244272740328328915 : True := ⟨⟩
theorem main.tw2443227327843618036 : True := ⟨⟩
theorem main.tw2451230368645061193 : True := ⟨⟩
theorem main.tw2457120964296137359 : True := ⟨⟩
theorem main.tw2468735287043536190 : True := ⟨⟩
theorem main.tw2506418313538102133 : True := ⟨⟩
theorem main.tw2525166076998268935 : True := ⟨⟩
theorem main.tw2528932580032954879 : True := ⟨⟩
theorem main.tw2531834563650271798 : True := ⟨⟩
theorem main.tw2540495820296734350 : True := ⟨⟩
theorem main.tw2544298430078641640 : True := ⟨⟩
theorem main.tw2552694252491474378 : True := ⟨⟩
theorem main.tw2553129172841505705 : True := ⟨⟩
theorem main.tw2558952935377211442 : True := ⟨⟩
theorem main.tw2561493234371994082 : True := ⟨⟩
theorem main.tw2591018911419354267 : True := ⟨⟩
theorem main.tw2613873015034283888 : True := ⟨⟩
theorem main.tw2617775937807457874 : True := ⟨⟩
theorem main.tw2619486844233121682 : True := ⟨⟩
theorem main.tw2673703584191709704 : True := ⟨⟩
theorem main.tw2674761109334423214 : True := ⟨⟩
theorem main.tw2680804952358657892 : True := ⟨⟩
theorem main.tw268157518901931542 : True := ⟨⟩
theorem main.tw2683141312469526539 : True := ⟨⟩
theorem main.tw2689936240190302673 : True := ⟨⟩
theorem main.tw2691526960798580178 : True := ⟨⟩
theorem main.tw2703845700531461890 : True := ⟨⟩
theorem main.tw2723686050631992617 : True := ⟨⟩
theorem main.tw272789946186954341 : True := ⟨⟩
theorem main.tw2737031353948269604 : True := ⟨⟩
theorem main.tw2741657091256887858 : True := ⟨⟩
theorem main.tw280481874740558024 : True := ⟨⟩
theorem main.tw2813829026317290181 : True := ⟨⟩
theorem main.tw2818215913512838189 : True := ⟨⟩
theorem main.tw2853208382243579297 : True := ⟨⟩
theorem main.tw2864606846018454059 : True := ⟨⟩
theorem main.tw2868879096931255247 : True := ⟨⟩
theorem main.tw2905523575628026659 : True := ⟨⟩
theorem main.tw2911433417487810430 : True := ⟨⟩
theorem main.tw2922722088657812038 : True := ⟨⟩
theorem main.tw2925776425995894714 : True := ⟨⟩
theorem main.tw2928028564007261197 : True := ⟨⟩
theorem main.tw2940311884806191311 : True := ⟨⟩
theorem main.tw2978360442360904238 : True := ⟨⟩
theorem main.tw2978445311985771476 : True := ⟨⟩
theorem main.tw2992056685137445369 : True := ⟨⟩
theorem main.tw2992638776060268668 : True := ⟨⟩
theorem main.tw3008196657469156795 : True := ⟨⟩
theorem main.tw3016572388942527259 : True := ⟨⟩
theorem main.tw3038580940099593087 : True := ⟨⟩
theorem main.tw3051166587225777028 : True := ⟨⟩
theorem main.tw3055327740479581089 : True := ⟨⟩
theorem main.tw3064736170607065939 : True := ⟨⟩
theorem main.tw3087296514247745505 : True := ⟨⟩
theorem main.tw3088077927293614186 : True := ⟨⟩
theorem main.tw3107410153937982541 : True := ⟨⟩
theorem main.tw3121664453712097879 : True := ⟨⟩
theorem main.tw3131981697515881112 : True := ⟨⟩
theorem main.tw3139610863597827358 : True := ⟨⟩
theorem main.tw3146034541042422592 : True := ⟨⟩
theorem main.tw3146979741847770951 : True := ⟨⟩
theorem main.tw3186847941270157303 : True := ⟨⟩
theorem main.tw320557751311579839 : True := ⟨⟩
theorem main.tw3216743727515912729 : True := ⟨⟩
theorem main.tw3230919538582532175 : True := ⟨⟩
theorem main.tw3253166636520379654 : True := ⟨⟩
theorem main.tw3256599692197748821 : True := ⟨⟩
theorem main.tw3267506352983639151 : True := ⟨⟩
theorem main.tw3306849197303780159 : True := ⟨⟩
theorem main.tw3310860890811097582 : True := ⟨⟩
theorem main.tw332726020879770688 : True := ⟨⟩
theorem main.tw3357517921695852611 : True := ⟨⟩
theorem main.tw3379215592710810542 : True := ⟨⟩
theorem main.tw3379733461541436291 : True := ⟨⟩
theorem main.tw3396264588904235675 : True := ⟨⟩
theorem main.tw3408827457947758924 : True := ⟨⟩
theorem main.tw3410821142717238429 : True := ⟨⟩
theorem main.tw3412744423601906063 : True := ⟨⟩
theorem main.tw3434899946491226729 : True := ⟨⟩
theorem main.tw3441466919426651201 : True := ⟨⟩
theorem main.tw3460471527071742462 : True := ⟨⟩
theorem main.tw3469070634007033221 : True := ⟨⟩
theorem main.tw3515887516252319269 : True := ⟨⟩
theorem main.tw3519620770301490914 : True := ⟨⟩
theorem main.tw3531981540585742146 : True := ⟨⟩
theorem main.tw3539627628400702853 : True := ⟨⟩
theorem main.tw3550708062875898413 : True := ⟨⟩
theorem main.tw3554724492371011600 : True := ⟨⟩
theorem main.tw3563127853227517201 : True := ⟨⟩
theorem main.tw3596915852536691534 : True := ⟨⟩
theorem main.tw362101514219434311 : True := ⟨⟩
theorem main.tw3630406633451347070 : True := ⟨⟩
theorem main.tw3631305349507758426 : True := ⟨⟩
theorem main.tw3648130295315601696 : True := ⟨⟩
theorem main.tw3678926922749915011 : True := ⟨⟩
theorem main.tw3695579603394428622 : True := ⟨⟩
theorem main.tw3708749935247036590 : True := ⟨⟩
theorem main.tw3718984994144165473 : True := ⟨⟩
theorem main.tw3719543078226671225 : True := ⟨⟩
theorem main.tw3748819449962869491 : True := ⟨⟩
theorem main.tw3783848015190637625 : True := ⟨⟩
theorem main.tw3845844069731884422 : True := ⟨⟩
theorem main.tw3861505120740964055 : True := ⟨⟩
theorem main.tw3879943568281281997 : True := ⟨⟩
theorem main.tw3884352726974036912 : True := ⟨⟩
theorem main.tw3898492766431878890 : True := ⟨⟩
theorem main.tw3917075563684514712 : True := ⟨⟩
theorem main.tw3936477495029638182 : True := ⟨⟩
theorem main.tw3958915594437787476 : True := ⟨⟩
theorem main.tw3965608284049720903 : True := ⟨⟩
theorem main.tw3985482593949860782 : True := ⟨⟩
theorem main.tw3992928203939203036 : True := ⟨⟩
theorem main.tw3993828384424069463 : True := ⟨⟩
theorem main.tw4007461514410222964 : True := ⟨⟩
theorem main.tw4009994885309246536 : True := ⟨⟩
theorem main.tw4059333162808307507 : True := ⟨⟩
theorem main.tw409164790098461685 : True := ⟨⟩
theorem main.tw4091930637953755879 : True := ⟨⟩
theorem main.tw4094807246124668419 : True := ⟨⟩
theorem main.tw4100163327406334815 : True := ⟨⟩
theorem main.tw4120760224539185370 : True := ⟨⟩
theorem main.tw4125460202920646613 : True := ⟨⟩
theorem main.tw4153403021248529786 : True := ⟨⟩
theorem main.tw4156003519774020744 : True := ⟨⟩
theorem main.tw4158608836003185468 : True := ⟨⟩
theorem main.tw4177671621994559311 : True := ⟨⟩
theorem main.tw4187923210075081884 : True := ⟨⟩
theorem main.tw4239280963099970540 : True := ⟨⟩
theorem main.tw4262874740152647446 : True := ⟨⟩
theorem main.tw4300612742597636624 : True := ⟨⟩
theorem main.tw4304834178718691396 : True := ⟨⟩
theorem main.tw4310228878472284329 : True := ⟨⟩
theorem main.tw4326401904490494673 : True := ⟨⟩
theorem main.tw4328267247735480603 : True := ⟨⟩
theorem main.tw4331608280046720368 : True := ⟨⟩
theorem main.tw4335910966286959084 : True := ⟨⟩
theorem main.tw4357975833179775930 : True := ⟨⟩
theorem main.tw4375538733323876564 : True := ⟨⟩
theorem main.tw4395466900922544890 : True := ⟨⟩
theorem main.tw4400017226751686058 : True := ⟨⟩
theorem main.tw4406860569794426617 : True := ⟨⟩
theorem main.tw4433602467837400570 : True := ⟨⟩
theorem main.tw4454792828321621372 : True := ⟨⟩
theorem main.tw4462190400977132941 : True := ⟨⟩
theorem main.tw4511402922630066149 : True := ⟨⟩
theorem main.tw4538774211291661145 : True := ⟨⟩
theorem main.tw4588738799956414479 : True := ⟨⟩
theorem main.tw4592004706911863615 : True := ⟨⟩
theorem main.tw4606060024949568140 : True := ⟨⟩
theorem main.tw4609130545533016343 : True := ⟨⟩
theorem main.tw4634538438036118838 : True := ⟨⟩
theorem main.tw4649883316461138903 : True := ⟨⟩
theorem main.tw468188516431147137 : True := ⟨⟩
theorem main.tw469107726730205931 : True := ⟨⟩
theorem main.tw4703118583338301787 : True := ⟨⟩
theorem main.tw4703324592164959565 : True := ⟨⟩
theorem main.tw4711006893311753447 : True := ⟨⟩
theorem main.tw4730134336746295413 : True := ⟨⟩
theorem main.tw4798913882091802099 : True := ⟨⟩
theorem main.tw4799217392094311150 : True := ⟨⟩
theorem main.tw4801019796111996920 : True := ⟨⟩
theorem main.tw4819436793316677810 : True := ⟨⟩
theorem main.tw4840137780045317266 : True := ⟨⟩
theorem main.tw4840266357470665822 : True := ⟨⟩
theorem main.tw4867594002200624942 : True := ⟨⟩
theorem main.tw4878024195029292589 : True := ⟨⟩
theorem main.tw488895473941219216 : True := ⟨⟩
theorem main.tw4891462983210470464 : True := ⟨⟩
theorem main.tw4935257559928301731 : True := ⟨⟩
theorem main.tw4943218087376048383 : True := ⟨⟩
theorem main.tw4952695281440224590 : True := ⟨⟩
theorem main.tw4960754326464356880 : True := ⟨⟩
theorem main.tw497136227652113930 : True := ⟨⟩
theorem main.tw4975598923679135864 : True := ⟨⟩
theorem main.tw4992951870410028605 : True := ⟨⟩
theorem main.tw5008847014415012073 : True := ⟨⟩
theorem main.tw5013185972428660573 : True := ⟨⟩
theorem main.tw5021990489002946995 : True := ⟨⟩
theorem main.tw5039935704646711612 : True := ⟨⟩
theorem main.tw5054592681714628026 : True := ⟨⟩
theorem main.tw5055280753450627128 : True := ⟨⟩
theorem main.tw5063651115755842970 : True := ⟨⟩
theorem main.tw5076374387644958804 : True := ⟨⟩
theorem main.tw5096790010580003632 : True := ⟨⟩
theorem main.tw5102537645505000496 : True := ⟨⟩
theorem main.tw510803128440017388 : True := ⟨⟩
theorem main.tw5131000187625521842 : True := ⟨⟩
theorem main.tw5134070450405915007 : True := ⟨⟩
theorem main.tw5142021981082635793 : True := ⟨⟩
theorem main.tw5145756777116517348 : True := ⟨⟩
theorem main.tw5147269608146345041 : True := ⟨⟩
theorem main.tw5152671152167812776 : True := ⟨⟩
theorem main.tw5159528265767506360 : True := ⟨⟩
theorem main.tw5161173023886624196 : True := ⟨⟩
theorem main.tw5165179375324350226 : True := ⟨⟩
theorem main.tw517253545763640812 : True := ⟨⟩
theorem main.tw5172733860109081237 : True := ⟨⟩
theorem main.tw5197162745757122531 : True := ⟨⟩
theorem main.tw5198365556900276182 : True := ⟨⟩
theorem main.tw5230396064904120268 : True := ⟨⟩
theorem main.tw5230818847713347254 : True := ⟨⟩
theorem main.tw5231500133666706133 : True := ⟨⟩
theorem main.tw5232577563562976299 : True := ⟨⟩
theorem main.tw5242006674047390409 : True := ⟨⟩
theorem main.tw5267375287539190161 : True := ⟨⟩
theorem main.tw5293604023752008139 : True := ⟨⟩
theorem main.tw5328005690235735774 : True := ⟨⟩
theorem main.tw5330137482974297522 : True := ⟨⟩
theorem main.tw5445273990271448714 : True := ⟨⟩
theorem main.tw5451521477706531147 : True := ⟨⟩
theorem main.tw5458665417225551837 : True := ⟨⟩
theorem main.tw5470134668653626378 : True := ⟨⟩
theorem main.tw548545010330813591 : True := ⟨⟩
theorem main.tw5498605039287053057 : True := ⟨⟩
theorem main.tw5565504619827430955 : True := ⟨⟩
theorem main.tw5600465124246279690 : True := ⟨⟩
theorem main.tw5630227607048996149 : True := ⟨⟩
theorem main.tw564327466094411562 : True := ⟨⟩
theorem main.tw5667051821671876906 : True := ⟨⟩
theorem main.tw5702855569557996282 : True := ⟨⟩
theorem main.tw5714297817612945589 : True := ⟨⟩
theorem main.tw571647785228454943 : True := ⟨⟩
theorem main.tw5733679174803048569 : True := ⟨⟩
theorem main.tw5735058541856893287 : True := ⟨⟩
theorem main.tw5739019924288605895 : True := ⟨⟩
theorem main.tw5768708046682631051 : True := ⟨⟩
theorem main.tw5783281256696232768 : True := ⟨⟩
theorem main.tw5791107954587784898 : True := ⟨⟩
theorem main.tw5800097197477307618 : True := ⟨⟩
theorem main.tw5818237970382791039 : True := ⟨⟩
theorem main.tw5836199513425854279 : True := ⟨⟩
theorem main.tw5840107092408520212 : True := ⟨⟩
theorem main.tw5861190579751498335 : True := ⟨⟩
theorem main.tw5901833263323351908 : True := ⟨⟩
theorem main.tw5902712137599589837 : True := ⟨⟩
theorem main.tw5942491169022655432 : True := ⟨⟩
theorem main.tw5963143147677444598 : True := ⟨⟩
theorem main.tw6020624907299633524 : True := ⟨⟩
theorem main.tw6020760485785902299 : True := ⟨⟩
theorem main.tw6046914484701750178 : True := ⟨⟩
theorem main.tw6066754048443415722 : True := ⟨⟩
theorem main.tw6081752106558320710 : True := ⟨⟩
theorem main.tw6093991748022998109 : True := ⟨⟩
theorem main.tw6099689264524860603 : True := ⟨⟩
theorem main.tw6109326565077728654 : True := ⟨⟩
theorem main.tw6186417409476823366 : True := ⟨⟩
theorem main.tw6211536880567168446 : True := ⟨⟩
theorem main.tw6250745803369192323 : True := ⟨⟩
theorem main.tw6258868486430859879 : True := ⟨⟩
theorem main.tw6271459789768422213 : True := ⟨⟩
theorem main.tw6312091815898468018 : True := ⟨⟩
theorem main.tw632543874583851743 : True := ⟨⟩
theorem main.tw633595507753179303 : True := ⟨⟩
theorem main.tw6357531908561853707 : True := ⟨⟩
theorem main.tw6363703139885310264 : True := ⟨⟩
theorem main.tw6370333116861542430 : True := ⟨⟩
theorem main.tw6408195481249254913 : True := ⟨⟩
theorem main.tw6413115949845201275 : True := ⟨⟩
theorem main.tw6429686504428160259 : True := ⟨⟩
theorem main.tw6471150222350279623 : True := ⟨⟩
theorem main.tw6498212960163673866 : True := ⟨⟩
theorem main.tw6502167394331606738 : True := ⟨⟩
theorem main.tw6521165335183232846 : True := ⟨⟩
theorem main.tw652957937968812882 : True := ⟨⟩
theorem main.tw653998813826172256 : True := ⟨⟩
theorem main.tw6544255722497290091 : True := ⟨⟩
theorem main.tw6558027226490960009 : True := ⟨⟩
theorem main.tw6563418907172765213 : True := ⟨⟩
theorem main.tw6574944743104848904 : True := ⟨⟩
theorem main.tw6595750602137734652 : True := ⟨⟩
theorem main.tw6601557695192066909 : True := ⟨⟩
theorem main.tw66982638668248765 : True := ⟨⟩
theorem main.tw6699343545518712911 : True := ⟨⟩
theorem main.tw6707823426313396741 : True := ⟨⟩
theorem main.tw6732683342976120483 : True := ⟨⟩
theorem main.tw6733809563212269156 : True := ⟨⟩
theorem main.tw6744150564754420234 : True := ⟨⟩
theorem main.tw6756261132437940486 : True := ⟨⟩
theorem main.tw6759289808592882343 : True := ⟨⟩
theorem main.tw6761048287992567104 : True := ⟨⟩
theorem main.tw6771591437671112567 : True := ⟨⟩
theorem main.tw6773626534007703490 : True := ⟨⟩
theorem main.tw6795767014284890813 : True := ⟨⟩
theorem main.tw6810670158800780086 : True := ⟨⟩
theorem main.tw6819746189605800328 : True := ⟨⟩
theorem main.tw686864128682677561 : True := ⟨⟩
theorem main.tw6876659525886429291 : True := ⟨⟩
theorem main.tw6889469565048147906 : True := ⟨⟩
theorem main.tw6899241544822910019 : True := ⟨⟩
theorem main.tw6956365070816283294 : True := ⟨⟩
theorem main.tw6958343538655003287 : True := ⟨⟩
theorem main.tw6968316724324862529 : True := ⟨⟩
theorem main.tw6982158505162667209 : True := ⟨⟩
theorem main.tw6990565588677296644 : True := ⟨⟩
theorem main.tw6991051906849787811 : True := ⟨⟩
theorem main.tw7002617117321725329 : True := ⟨⟩
theorem main.tw7009055538952385103 : True := ⟨⟩
theorem main.tw701254493566490903 : True := ⟨⟩
theorem main.tw7033201789201947253 : True := ⟨⟩
theorem main.tw7035012547776903383 : True := ⟨⟩
theorem main.tw7040763872302975501 : True := ⟨⟩
theorem main.tw7079346319486233637 : True := ⟨⟩
theorem main.tw7088440057446453555 : True := ⟨⟩
theorem main.tw7098780427933102582 : True := ⟨⟩
theorem main.tw7121938363519269900 : True := ⟨⟩
theorem main.tw7157635386191443901 : True := ⟨⟩
theorem main.tw7210885811916109378 : True := ⟨⟩
theorem main.tw7218384944330780783 : True := ⟨⟩
theorem main.tw7225521102398529633 : True := ⟨⟩
theorem main.tw7240273481961495799 : True := ⟨⟩
theorem main.tw7249698444530863382 : True := ⟨⟩
theorem main.tw7250014487561225280 : True := ⟨⟩
theorem main.tw7253165384714449309 : True := ⟨⟩
theorem main.tw7253517103421118539 : True := ⟨⟩
theorem main.tw7257662411179477739 : True := ⟨⟩
theorem main.tw7264783172807538105 : True := ⟨⟩
theorem main.tw727201121964547221 : True := ⟨⟩
theorem main.tw7291201710529191399 : True := ⟨⟩
theorem main.tw7313032115926921718 : True := ⟨⟩
theorem main.tw733755431233827319 : True := ⟨⟩
theorem main.tw735178950134859665 : True := ⟨⟩
theorem main.tw7366966349755769390 : True := ⟨⟩
theorem main.tw7379146703158643333 : True := ⟨⟩
theorem main.tw738249695139976460 : True := ⟨⟩
theorem main.tw7386879829546924875 : True := ⟨⟩
theorem main.tw7406679989375695003 : True := ⟨⟩
theorem main.tw7424550777354326970 : True := ⟨⟩
theorem main.tw7445014851313175896 : True := ⟨⟩
theorem main.tw7450521685299207930 : True := ⟨⟩
theorem main.tw7466017828420861538 : True := ⟨⟩
theorem main.tw7495849268563445211 : True := ⟨⟩
theorem main.tw750194992705927200 : True := ⟨⟩
theorem main.tw7548181410930959757 : True := ⟨⟩
theorem main.tw7566708949256337297 : True := ⟨⟩
theorem main.tw757969810983933903 : True := ⟨⟩
theorem main.tw7596539548893567067 : True := ⟨⟩
theorem main.tw7603176780129216889 : True := ⟨⟩
theorem main.tw7621644547495845501 : True := ⟨⟩
theorem main.tw7630305487558755245 : True := ⟨⟩
theorem main.tw7645214217008657559 : True := ⟨⟩
theorem main.tw7650005478333362737 : True := ⟨⟩
theorem main.tw7659335649736619204 : True := ⟨⟩
theorem main.tw7664301653060593791 : True := ⟨⟩
theorem main.tw7670179019842844407 : True := ⟨⟩
theorem main.tw7679138261593991859 : True := ⟨⟩
theorem main.tw7684331834570509447 : True := ⟨⟩
theorem main.tw7689180539567665754 : True := ⟨⟩
theorem main.tw7711332181109331799 : True := ⟨⟩
theorem main.tw7733012006603144692 : True := ⟨⟩
theorem main.tw7748162344757003694 : True := ⟨⟩
theorem main.tw7784495168435344669 : True := ⟨⟩
theorem main.tw7789222688201250933 : True := ⟨⟩
theorem main.tw7794447553816605337 : True := ⟨⟩
theorem main.tw7822347148725292140 : True := ⟨⟩
theorem main.tw783142212168057530 : True := ⟨⟩
theorem main.tw7840089511392720015 : True := ⟨⟩
theorem main.tw7848025740061029041 : True := ⟨⟩
theorem main.tw785891212050648866 : True := ⟨⟩
theorem main.tw7859541408058562095 : True := ⟨⟩
theorem main.tw7896732557465485704 : True := ⟨⟩
theorem main.tw7904360318250872725 : True := ⟨⟩
theorem main.tw7914966534203543394 : True := ⟨⟩
theorem main.tw7924682654823194982 : True := ⟨⟩
theorem main.tw7929639667017200051 : True := ⟨⟩
theorem main.tw7938124379273924960 : True := ⟨⟩
theorem main.tw7945186787910683591 : True := ⟨⟩
theorem main.tw7973527579126727508 : True := ⟨⟩
theorem main.tw798814199508267506 : True := ⟨⟩
theorem main.tw8019843255630367578 : True := ⟨⟩
theorem main.tw8028819869400628128 : True := ⟨⟩
theorem main.tw8054615355715169965 : True := ⟨⟩
theorem main.tw8055458335546875267 : True := ⟨⟩
theorem main.tw8070636952655222270 : True := ⟨⟩
theorem main.tw8123531230628939902 : True := ⟨⟩
theorem main.tw8132178498146976934 : True := ⟨⟩
theorem main.tw8198635786116184702 : True := ⟨⟩
theorem main.tw8239597784800911592 : True := ⟨⟩
theorem main.tw8262367462955680934 : True := ⟨⟩
theorem main.tw8279419025547153352 : True := ⟨⟩
theorem main.tw8286811204976691927 : True := ⟨⟩
theorem main.tw8332657864986599165 : True := ⟨⟩
theorem main.tw833366181672599839 : True := ⟨⟩
theorem main.tw8354859942247524186 : True := ⟨⟩
theorem main.tw836902708638354373 : True := ⟨⟩
theorem main.tw8386956399160234941 : True := ⟨⟩
theorem main.tw8402233074735576723 : True := ⟨⟩
theorem main.tw8404755488631334696 : True := ⟨⟩
theorem main.tw8440722530245238888 : True := ⟨⟩
theorem main.tw84514281460927790 : True := ⟨⟩
theorem main.tw8456221942631779472 : True := ⟨⟩
theorem main.tw8462904984302344767 : True := ⟨⟩
theorem main.tw8463454761793374742 : True := ⟨⟩
theorem main.tw8470317417958147442 : True := ⟨⟩
theorem main.tw8511639783363027448 : True := ⟨⟩
theorem main.tw8512846599769640567 : True := ⟨⟩
theorem main.tw8541053843603864128 : True := ⟨⟩
theorem main.tw8543199408427174664 : True := ⟨⟩
theorem main.tw8547835018877277807 : True := ⟨⟩
theorem main.tw8567849941878843836 : True := ⟨⟩
theorem main.tw8584079139446222513 : True := ⟨⟩
theorem main.tw858899439758091169 : True := ⟨⟩
theorem main.tw8594527841530898396 : True := ⟨⟩
theorem main.tw8595304795500500992 : True := ⟨⟩
theorem main.tw8598726330529460532 : True := ⟨⟩
theorem main.tw8624647050476810405 : True := ⟨⟩
theorem main.tw8628463995273589525 : True := ⟨⟩
theorem main.tw8632067484033081962 : True := ⟨⟩
theorem main.tw8633142351281238600 : True := ⟨⟩
theorem main.tw8648143778464435181 : True := ⟨⟩
theorem main.tw867116294927962039 : True := ⟨⟩
theorem main.tw868957009881194517 : True := ⟨⟩
theorem main.tw869616941618530944 : True := ⟨⟩
theorem main.tw8699049650045938238 : True := ⟨⟩
theorem main.tw8729215753904597756 : True := ⟨⟩
theorem main.tw8736997241775733956 : True := ⟨⟩
theorem main.tw8757057635001978316 : True := ⟨⟩
theorem main.tw878727644738817739 : True := ⟨⟩
theorem main.tw8805413051807045613 : True := ⟨⟩
theorem main.tw8809643391664033257 : True := ⟨⟩
theorem main.tw8810294567309271235 : True := ⟨⟩
theorem main.tw8826075148503451808 : True := ⟨⟩
theorem main.tw8836684673375585528 : True := ⟨⟩
theorem main.tw8844696511426020488 : True := ⟨⟩
theorem main.tw8848428510025427425 : True := ⟨⟩
theorem main.tw8858540271125762992 : True := ⟨⟩
theorem main.tw8864801995293489557 : True := ⟨⟩
theorem main.tw8872105718554685360 : True := ⟨⟩
theorem main.tw8874004035559458439 : True := ⟨⟩
theorem main.tw8882529816095103477 : True := ⟨⟩
theorem main.tw88892504447777676 : True := ⟨⟩
theorem main.tw8889909036490683537 : True := ⟨⟩
theorem main.tw8979861127389934948 : True := ⟨⟩
theorem main.tw9002507580857799536 : True := ⟨⟩
theorem main.tw9024921604208487676 : True := ⟨⟩
theorem main.tw9069977719596667413 : True := ⟨⟩
theorem main.tw9075827205167002984 : True := ⟨⟩
theorem main.tw9077120990456222290 : True := ⟨⟩
theorem main.tw9088192990142457327 : True := ⟨⟩
theorem main.tw9097544619300778498 : True := ⟨⟩
theorem main.tw9133342197399196234 : True := ⟨⟩
theorem main.tw9144134622846900584 : True := ⟨⟩
theorem main.tw9149405669475974018 : True := ⟨⟩
theorem main.tw9149475249158978189 : True := ⟨⟩
theorem main.tw9154938123599455950 : True := ⟨⟩
theorem main.tw9160032588005542685 : True := ⟨⟩
theorem main.tw9202362961687656120 : True := ⟨⟩
theorem main.tw9203716534745708512 : True := ⟨⟩
theorem main.tw9248355606524233013 : True := ⟨⟩
theorem main.tw925267241579179362 : True := ⟨⟩
theorem main.tw9257701769616213584 : True := ⟨⟩
theorem main.tw9272406366132598344 : True := ⟨⟩
theorem main.tw9299876090191300334 : True := ⟨⟩
theorem main.tw9312217155191928949 : True := ⟨⟩
theorem main.tw9329782625190375798 : True := ⟨⟩
theorem main.tw9333339874929942101 : True := ⟨⟩
theorem main.tw9335689295537598954 : True := ⟨⟩
theorem main.tw935179541032769765 : True := ⟨⟩
theorem main.tw9369852123599154598 : True := ⟨⟩
theorem main.tw9386645067147707984 : True := ⟨⟩
theorem main.tw9403885953711248703 : True := ⟨⟩
theorem main.tw9410493436074027243 : True := ⟨⟩
theorem main.tw9420458945464693125 : True := ⟨⟩
theorem main.tw9426429300236705255 : True := ⟨⟩
theorem main.tw9432906754913100419 : True := ⟨⟩
theorem main.tw9439839186583959700 : True := ⟨⟩
theorem main.tw9440510433579211515 : True := ⟨⟩
theorem main.tw9441134871347383685 : True := ⟨⟩
theorem main.tw9443520617062693981 : True := ⟨⟩
theorem main.tw9444755940702137107 : True := ⟨⟩
theorem main.tw944561791812335471 : True := ⟨⟩
theorem main.tw9456837133736449868 : True := ⟨⟩
theorem main.tw94607088446320870 : True := ⟨⟩
theorem main.tw9482223327213914921 : True := ⟨⟩
theorem main.tw9493952402113393094 : True := ⟨⟩
theorem main.tw9530600332976261937 : True := ⟨⟩
theorem main.tw9537812907215041040 : True := ⟨⟩
theorem main.tw9565188630546683335 : True := ⟨⟩
theorem main.tw9576374502609186548 : True := ⟨⟩
theorem main.tw9601020550826809897 : True := ⟨⟩
theorem main.tw961370681766752028 : True := ⟨⟩
theorem main.tw9620926646237751989 : True := ⟨⟩
theorem main.tw9638020300069440398 : True := ⟨⟩
theorem main.tw9639872857315793279 : True := ⟨⟩
theorem main.tw9653041577274385481 : True := ⟨⟩
theorem main.tw9663910302974732577 : True := ⟨⟩
theorem main.tw9666586416613377686 : True := ⟨⟩
theorem main.tw9690013620090670815 : True := ⟨⟩
theorem main.tw9699293133549217295 : True := ⟨⟩
theorem main.tw9703312082030273292 : True := ⟨⟩
theorem main.tw972021504454075326 : True := ⟨⟩
theorem main.tw9746696674357601180 : True := ⟨⟩
theorem main.tw9767782249887908399 : True := ⟨⟩
theorem main.tw9794519201099739783 : True := ⟨⟩
theorem main.tw9824212040355354723 : True := ⟨⟩
theorem main.tw9836801404997342575 : True := ⟨⟩
theorem main.tw9840149483235000623 : True := ⟨⟩
theorem main.tw9844532520808570107 : True := ⟨⟩
theorem main.tw9870349952446189086 : True := ⟨⟩
theorem main.tw9881309371292612907 : True := ⟨⟩
theorem main.tw9910614824040600631 : True := ⟨⟩
theorem main.tw9954550400196453248 : True := ⟨⟩
theorem main.tw9957052238193980713 : True := ⟨⟩
theorem main.tw99894942109057259 : True := ⟨⟩
set_option Elab.async true in
theorem main : PySem.Challenge.rw_te0076_05.Holds := by
  w_on; o_law; k_head; (case hw => w_witness2)
  (try clear main)
  w_top off
  have ctr_is_invalid {w : World} {loose : List Str} {mean : ExcName → Option Value} {mg mb : Str → Option Value} {c : Int} {tc : Tok} : CtrC PySem.Challenge.rw_te0076_05.row.prog w (main.heap_1_39 w.params) (Top main.view_1_40 loose mean mg mb) 490 900 (.ref 84) ⟨[.int c tc], []⟩ [] (noF fun v l => ∃ b, v = .bool b ∧ l = []) := by
    as_aux_lemma =>
      k_with_none
      k_with "pos" => (repeat' (first | exact Mine.Internal.PosL.nil | (apply Mine.Internal.PosL.cons 0; exact rfl) | (apply Mine.Internal.PosL.cons 1; exact rfl) | (apply Mine.Internal.PosL.cons 2; exact rfl) | (apply Mine.Internal.PosL.cons 3; exact rfl) | (apply Mine.Internal.PosL.cons 4; exact rfl) | (apply Mine.Internal.PosL.cons 5; exact rfl) | (apply Mine.Internal.PosL.cons 6; exact rfl) | (apply Mine.Internal.PosL.cons 7; exact rfl) | (apply Mine.Internal.PosL.cons 8; exact rfl) | (apply Mine.Internal.PosL.cons 9; exact rfl) | (apply Mine.Internal.PosL.cons 10; exact rfl) | (apply Mine.Internal.PosL.cons 11; exact rfl) | (apply Mine.Internal.PosL.cons 12; exact rfl) | (apply Mine.Internal.PosL.cons 13; exact rfl) | (apply Mine.Internal.PosL.cons 14; exact rfl) | (apply Mine.Internal.PosL.cons 15; exact rfl) | (apply Mine.Internal.PosL.cons 16; exact rfl) | (apply Mine.Internal.PosL.cons 17; exact rfl) | (apply Mine.Internal.PosL.cons 18; exact rfl) | (apply Mine.Internal.PosL.cons 19; exact rfl) | (apply Mine.Internal.PosL.cons 20; exact rfl) | (apply Mine.Internal.PosL.cons 21; exact rfl) | (apply Mine.Internal.PosL.cons 22; exact rfl) | (apply Mine.Internal.PosL.cons 23; exact rfl)))
      k_with "slt" => exact Mine.Internal.Srt.lt (by with_reducible assumption) (by ((repeat (first | (with_reducible_and_instances refine Mine.Internal.Aft.here ?_; (repeat (first | with_reducible_and_instances exact List.Mem.head _ | with_reducible_and_instances refine List.Mem.tail _ ?_)); done) | with_reducible refine Mine.Internal.Aft.there ?_)); all_goals fail))
      k_with "upd" => (exact Mine.Internal.Srt.updP (by with_reducible assumption) (by repeat' (first | exact Mine.Internal.UpdI.head | refine' Mine.Internal.UpdI.tail ?_)) (by k_dflt (k_extra "pos")) (by exact rfl))
      k_with "all" => exact Mine.Internal.Ks.ne_all (by with_reducible assumption) (by first | exact .inr (by k_extra "slt") | exact .inl (by k_extra "slt"))
      k_with "ne" => (refine neN ?_; first | exact Mine.Internal.Srt.ne (by with_reducible assumption) (by with_reducible solve_by_elim (maxDepth := 40) only [Mine.Internal.Apart.l, Mine.Internal.Apart.r, Mine.Internal.Apart.t, List.Mem.head, List.Mem.tail]) | ((try dsimp only); omega))
      k_with "lt" => (intro h9l; first | ((with_reducible rename Mine.Internal.Srt _ => S8); (first | (have S9 := Mine.Internal.Srt.grow S8 (h9l (_, _) (by k_dflt k_mem)); clear S8) | (have S9 := Mine.Internal.Srt.grow S8.tl (h9l (_, _) (by k_dflt k_mem)); clear S8) | (have S9 := Mine.Internal.Srt.grow S8.tl.tl (h9l (_, _) (by k_dflt k_mem)); clear S8)); clear h9l) | (replace h9l := allLt_of h9l; simp only [AllLt, and_true] at h9l))
      k_with "execs cons" => (k_here; (with_reducible show wpAny _ _ _ _ _ (Shared.mk _ _ _ (_ + _) _)); (refine Mine.Internal.gentoks ?_); intro tkg9 htk9; (try dsimp only at htk9))
      k_with "ite" => (k_here; k_openite; first
      | (refine ite_pos ?hq_isinv ?_; (case hq_isinv => first | (simp only [decide_eq_true_eq, beq_iff_eq, bne_iff_ne, ne_eq, Bool.not_eq_true', decide_eq_false_iff_not]; omega) | (simp; done)))
      | (refine ite_neg ?hq_isinv ?_; (case hq_isinv => first | (simp only [decide_eq_true_eq, beq_iff_eq, bne_iff_ne, ne_eq, Bool.not_eq_true', decide_eq_false_iff_not]; omega) | (simp; done))))
      k_with "size" => k_dflt (first | exact Nat.le_of_ble_eq_true rfl | ((with_reducible show Array.size (List.toArray _) ≤ PySem.sizeLine); rw [List.size_toArray, PySem.sizeLine_eq]; refine Nat.le_trans (m := 100002) ?_ (Nat.le_of_ble_eq_true rfl); first | with_reducible assumption | exact Nat.le_trans (m := 100000) (by with_reducible assumption) (Nat.le_of_ble_eq_true rfl)))
      k_with "subscriptTail Name Constant ref int" => k_extra "subscriptTail"
      k_with "tok" => (first | exact Nat.le_add_left 1 _ | with_reducible assumption | exact Nat.le_trans (Nat.le_add_left 1 _) (by with_reducible assumption))
      k_with "next" => (first | ((with_reducible refine Mine.Internal.nextS (g := gens9) (d := dr9) (o := os9) ?_); intro qk9 tkg9) | ((with_reducible refine Mine.Internal.lastS (g := gens9) (d := dr9) (o := os9) ?_); intro tkg9) | (with_reducible refine Mine.Internal.nilS ?_) | (with_reducible refine Mine.Internal.fin9 ?_) | (with_reducible refine Mine.Internal.fin0 ?_) | (with_reducible refine Mine.Internal.finS9 ?_) | (with_reducible refine Mine.Internal.finS0 ?_) | ((with_reducible refine Mine.Internal.nextU (g := gens9) (d := dr9) (o := os9) ?_ ?_); (k_extra "tok"); intro qk9 tkg9) | ((with_reducible refine Mine.Internal.lastU (g := gens9) (d := dr9) (o := os9) ?_ ?_); (k_extra "tok"); intro tkg9) | ((with_reducible refine Mine.Internal.nextZ (g := gens9) (d := dr9) (o := os9) ?_); intro qk9 tkg9) | ((with_reducible refine Mine.Internal.lastZ (g := gens9) (d := dr9) (o := os9) ?_); intro tkg9))
      k_with "execs cons" => k_extra "next"
      k_with "eval Constant int" => (with_reducible refine Mine.Internal.c_int (g := gens9) (d := dr9) (o := os9) ?_)
      k_fill
      refine' ctr_introN (binds := [("codepoint", .int c tc)]) (fun h h' T k => T.keeps k) (fun h T => T.nolimit) ?ho_isinv ?hcd_isinv ?hD_isinv ?hb_isinv ?hl_isinv ?_ ?hc_isinv ?c1_isinv ?c2_isinv ?c3_isinv
      case ho_isinv => k_is
      case hcd_isinv => k_is
      case hD_isinv => decide
      case hb_isinv => (intro s X; (try (rcases hargs with ⟨rfl, rfl, rfl⟩ | ⟨rfl, rfl⟩)); all_goals (first | exact BindsTo.of_eq rfl | exact binds_K X rfl (by k_is) rfl rfl rfl))
      case hl_isinv => exact locs rfl
      case hc_isinv => decide
      case c1_isinv => exact rfl
      case c2_isinv => exact rfl
      case c3_isinv => exact rfl
      intro A base g env outer L' h₁ hs9 gens9 dr9 t09 os9 tk B' F' X' N' T' l1
      intro e9 A9 q9
      (try clear l1)
      (try dsimp only at N')
      first | have S0 := Mine.Internal.Srt.eight ho hk hat | have S0 := Mine.Internal.Srt.grow (Mine.Internal.Srt.six ho) hoq | have S0 := Mine.Internal.Srt.five ho hk | have S0 := Mine.Internal.Srt.six ho | have S0 := Mine.Internal.Srt.two ho | have S0 := Mine.Internal.Srt.two hk | skip

      k_steps
      all_goals ((try dsimp only); exact cend (l := []) (by assumption) (by assumption) (fun _ h => nomatch h) ⟨_, rfl, rfl⟩)
  have ctr_charErrors {w : World} {loose : List Str} {mean : ExcName → Option Value} {mg mb : Str → Option Value} {st sd : Addr} {k0 k1 k2 k3 k4 k5 k6 k7 k8 k9 : Tok} {rce nl ds : Addr} {chunk : Str} {tc : Tok} {size : Int} {ts : Tok} {off : Int} {to : Tok} {er : Addr} {pl : Int} {tl : Tok} {pc : Int} {tp : Tok} {buf : Value} {es : List Value} {n : Nat} {x : Str} {tx : Tok}
      (ho : @LT.lt Nat _ sd st) (ho2 : @LT.lt Nat _ st er) (hx : x.length ≤ 20000) (hes : es.length ≤ 100000) :
      CtrC PySem.Challenge.rw_te0076_05.row.prog w (main.heap_1_39 w.params) (Top main.view_1_40 loose mean mg mb) 480 800 (.ref 148) ⟨[.ref st, .str x tx], []⟩ [(st, instObj 166 sd), (sd, dictOf (sdict w.params k0 k1 k2 k3 k4 k5 k6 k7 k8 k9 rce nl ds chunk tc size ts off to er pl tl pc tp buf) 10), (er, W.listOf es.toArray n)]
        (noF fun v l => v = .none ∧ ∃ (es' : List Value) (n' : Nat), es'.length ≤ es.length + x.length ∧ l = [(st, instObj 166 sd), (sd, dictOf (sdict w.params k0 k1 k2 k3 k4 k5 k6 k7 k8 k9 rce nl ds chunk tc size ts off to er pl tl pc tp buf) 10), (er, W.listOf es'.toArray n')]) := by
    as_aux_lemma =>
      k_with_none
      k_with "pos" => (repeat' (first | exact Mine.Internal.PosL.nil | (apply Mine.Internal.PosL.cons 0; exact rfl) | (apply Mine.Internal.PosL.cons 1; exact rfl) | (apply Mine.Internal.PosL.cons 2; exact rfl) | (apply Mine.Internal.PosL.cons 3; exact rfl) | (apply Mine.Internal.PosL.cons 4; exact rfl) | (apply Mine.Internal.PosL.cons 5; exact rfl) | (apply Mine.Internal.PosL.cons 6; exact rfl) | (apply Mine.Internal.PosL.cons 7; exact rfl) | (apply Mine.Internal.PosL.cons 8; exact rfl) | (apply Mine.Internal.PosL.cons 9; exact rfl) | (apply Mine.Internal.PosL.cons 10; exact rfl) | (apply Mine.Internal.PosL.cons 11; exact rfl) | (apply Mine.Internal.PosL.cons 12; exact rfl) | (apply Mine.Internal.PosL.cons 13; exact rfl) | (apply Mine.Internal.PosL.cons 14; exact rfl) | (apply Mine.Internal.PosL.cons 15; exact rfl) | (apply Mine.Internal.PosL.cons 16; exact rfl) | (apply Mine.Internal.PosL.cons 17; exact rfl) | (apply Mine.Internal.PosL.cons 18; exact rfl) | (apply Mine.Internal.PosL.cons 19; exact rfl) | (apply Mine.Internal.PosL.cons 20; exact rfl) | (apply Mine.Internal.PosL.cons 21; exact rfl) | (apply Mine.Internal.PosL.cons 22; exact rfl) | (apply Mine.Internal.PosL.cons 23; exact rfl)))
      k_with "slt" => exact Mine.Internal.Srt.lt (by with_reducible assumption) (by ((repeat (first | (with_reducible_and_instances refine Mine.Internal.Aft.here ?_; (repeat (first | with_reducible_and_instances exact List.Mem.head _ | with_reducible_and_instances refine List.Mem.tail _ ?_)); done) | with_reducible refine Mine.Internal.Aft.there ?_)); all_goals fail))
      k_with "upd" => (exact Mine.Internal.Srt.updP (by with_reducible assumption) (by repeat' (first | exact Mine.Internal.UpdI.head | refine' Mine.Internal.UpdI.tail ?_)) (by k_dflt (k_extra "pos")) (by exact rfl))
      k_with "all" => exact Mine.Internal.Ks.ne_all (by with_reducible assumption) (by first | exact .inr (by k_extra "slt") | exact .inl (by k_extra "slt"))
      k_with "ne" => (refine neN ?_; first | exact Mine.Internal.Srt.ne (by with_reducible assumption) (by with_reducible solve_by_elim (maxDepth := 40) only [Mine.Internal.Apart.l, Mine.Internal.Apart.r, Mine.Internal.Apart.t, List.Mem.head, List.Mem.tail]) | ((try dsimp only); omega))
      k_with "lt" => (intro h9l; first | ((with_reducible rename Mine.Internal.Srt _ => S8); (first | (have S9 := Mine.Internal.Srt.grow S8 (h9l (_, _) (by k_dflt k_mem)); clear S8) | (have S9 := Mine.Internal.Srt.grow S8.tl (h9l (_, _) (by k_dflt k_mem)); clear S8) | (have S9 := Mine.Internal.Srt.grow S8.tl.tl (h9l (_, _) (by k_dflt k_mem)); clear S8)); clear h9l) | (replace h9l := allLt_of h9l; simp only [AllLt, and_true] at h9l))
      k_with "getMethod ref" => (k_here; k_dflt (first | (refine' method_inst ?k1_charerr ?k2_charerr ?k3_charerr ?k4_charerr ?k5_charerr ?k6_charerr ?k7_charerr ?_; (case k1_charerr => k_asm); (case k2_charerr => k_asm); (case k3_charerr => k_inst); (case k4_charerr => k_is); (case k5_charerr => k_is); (case k6_charerr => k_is); (case k7_charerr => k_get); k_whole) | (refine' kmu_own ?k1_charerr ?k2_charerr ?k3_charerr ?k4_charerr ?k5_charerr ?_; (case k1_charerr => k_asm); (case k2_charerr => k_asm); (case k3_charerr => k_inst); (case k4_charerr => k_is); (case k5_charerr => k_is); k_whole)))
      k_with "getMethod ref" => (k_here; (with_reducible show wpAny _ _ (getMethod (Value.ref _) (PySem.Str.ofString "append") _) _ _ _); k_dflt (refine' kl_method ?N_charerr ?m_charerr slot_list_append type_list_append ?_; (case N_charerr => k_asm); (case m_charerr => k_mem); k_whole))
      k_with "execs cons" => (k_here; (with_reducible show wpAny _ _ _ _ _ (Shared.mk _ _ _ (_ + _) _)); (refine Mine.Internal.gentoks ?_); intro tkg9 htk9; (try dsimp only at htk9))
      k_with "size" => k_dflt (first | exact Nat.le_of_ble_eq_true rfl | ((with_reducible show Array.size (List.toArray _) ≤ PySem.sizeLine); rw [List.size_toArray, PySem.sizeLine_eq]; refine Nat.le_trans (m := 100002) ?_ (Nat.le_of_ble_eq_true rfl); first | with_reducible assumption | exact Nat.le_trans (m := 100000) (by with_reducible assumption) (Nat.le_of_ble_eq_true rfl)))
      k_with "subscriptTail Name Constant ref int" => k_extra "subscriptTail"
      k_with "tok" => (first | exact Nat.le_add_left 1 _ | with_reducible assumption | exact Nat.le_trans (Nat.le_add_left 1 _) (by with_reducible assumption))
      k_with "next" => (first | ((with_reducible refine Mine.Internal.nextS (g := gens9) (d := dr9) (o := os9) ?_); intro qk9 tkg9) | ((with_reducible refine Mine.Internal.lastS (g := gens9) (d := dr9) (o := os9) ?_); intro tkg9) | (with_reducible refine Mine.Internal.nilS ?_) | (with_reducible refine Mine.Internal.fin9 ?_) | (with_reducible refine Mine.Internal.fin0 ?_) | (with_reducible refine Mine.Internal.finS9 ?_) | (with_reducible refine Mine.Internal.finS0 ?_) | ((with_reducible refine Mine.Internal.nextU (g := gens9) (d := dr9) (o := os9) ?_ ?_); (k_extra "tok"); intro qk9 tkg9) | ((with_reducible refine Mine.Internal.lastU (g := gens9) (d := dr9) (o := os9) ?_ ?_); (k_extra "tok"); intro tkg9) | ((with_reducible refine Mine.Internal.nextZ (g := gens9) (d := dr9) (o := os9) ?_); intro qk9 tkg9) | ((with_reducible refine Mine.Internal.lastZ (g := gens9) (d := dr9) (o := os9) ?_); intro tkg9))
      k_with "execs cons" => k_extra "next"
      k_with "execs nil" => (with_reducible refine Mine.Internal.nilS ?_)
      k_with "eval Constant str" => (with_reducible refine Mine.Internal.c_str (g := gens9) (d := dr9) (o := os9) ?_)
      k_with "eval Attribute Name" => (k_here; k_dflt (refine' Mine.Internal.at_name (gs := gens9) (d := dr9) (o := os9) ?nF_charerr ?nX_charerr ?nN_charerr ?nv_charerr ?n1_charerr ?n2_charerr ?ng_charerr ?nh_charerr ?na_charerr ?nn_charerr ?nl_charerr ?nd_charerr ?_; (case nF_charerr => k_asm); (case nX_charerr => k_asm); (case nN_charerr => k_asm); (case nv_charerr => exact rfl); (case n1_charerr => k_mem); (case n2_charerr => k_mem); (case ng_charerr => k_is); (case nh_charerr => k_is); (case na_charerr => k_is); (case nn_charerr => k_is); (case nl_charerr => k_get); (case nd_charerr => k_handed); k_whole))
      k_with "call ref" => (k_here; (with_reducible show wpAny _ _ (call (Value.ref 84) [Value.int _ _] _) _ _ _); k_dflt (refine' Mine.Internal.Ctr.useN (gs := gens9) (d := dr9) (o := os9) (Mine.Internal.CtrC.call ctr_is_invalid) ?cB_charerr ?cF_charerr ?cX_charerr ?cN_charerr ?cT_charerr ?ca_charerr ?cb_charerr ?cc_charerr ?ce_charerr ?cd_charerr ?cu_charerr ?ck_charerr ?cne_charerr ?_; (case cB_charerr => k_asm); (case cF_charerr => k_asm); (case cX_charerr => k_asm); (case cT_charerr => k_asm); (case cN_charerr => k_asm); (case ca_charerr => exact rfl); (case cb_charerr => exact rfl); (case cc_charerr => exact rfl); (case ce_charerr => exact rfl); (case cd_charerr => exact Nat.le_of_ble_eq_true rfl); (case cu_charerr => exact Nat.le_of_ble_eq_true rfl); (case ck_charerr => ((try (refine' Mine.Internal.Take.cons ?_ ?_)); repeat' (first | exact Mine.Internal.Take.nil | exact Mine.Internal.Del.head | refine' Mine.Internal.Take.cons ?_ ?_ | refine' Mine.Internal.Del.tail ?_))); (case cne_charerr => first | exact List.forall_mem_nil _ | exact (fun _ _ => List.forall_mem_nil _) | exact Mine.Internal.Srt.neL (by with_reducible assumption) (by k_extra "pos") (by k_extra "pos") (by exact rfl) | ((simp only [List.forall_mem_cons, List.not_mem_nil, false_implies, implies_true, and_true, true_and]); (repeat' (refine And.intro ?_ ?_)); all_goals k_ne)); (k_whole; intro v' l' hp'; obtain ⟨b', e1', e2'⟩ := hp'; subst e1'; subst e2'; intro h' n' hn' F' N'; (try dsimp only [List.cons_append, List.nil_append] at N'); (try k_sweep); (try dsimp only); (try k_fold))))
      k_fill
      refine' ctr_introN (binds := [("self", .ref st), ("data", .str x tx)]) (fun h h' T k => T.keeps k) (fun h T => T.nolimit) ?ho_charerr ?hcd_charerr ?hD_charerr ?hb_charerr ?hl_charerr ?_ ?hc_charerr ?c1_charerr ?c2_charerr ?c3_charerr
      case ho_charerr => k_is
      case hcd_charerr => k_is
      case hD_charerr => decide
      case hb_charerr => (intro s X; (try (rcases hargs with ⟨rfl, rfl, rfl⟩ | ⟨rfl, rfl⟩)); all_goals (first | exact BindsTo.of_eq rfl | exact binds_K X rfl (by k_is) rfl rfl rfl))
      case hl_charerr => exact locs rfl
      case hc_charerr => decide
      case c1_charerr => exact rfl
      case c2_charerr => exact rfl
      case c3_charerr => exact rfl
      intro A base g env outer L' h₁ hs9 gens9 dr9 t09 os9 tk B' F' X' N' T' l1
      intro e9 A9 q9
      (try clear l1)
      (try dsimp only at N')
      first | have S0 := Mine.Internal.Srt.eight ho hk hat | have S0 := Mine.Internal.Srt.grow (Mine.Internal.Srt.six ho) hoq | have S0 := Mine.Internal.Srt.five ho hk | have S0 := Mine.Internal.Srt.six ho | have S0 := Mine.Internal.Srt.two ho | have S0 := Mine.Internal.Srt.two hk | skip

      k_with "pyIter str" => ((with_reducible rename Fr _ _ _ _ => F0); (with_reducible rename News _ _ _ _ => N0); (with_unfolding_all refine' KStt.kst_text (σ := List Value × Nat) (fun c => [(st, instObj 166 sd), (sd, dictOf (sdict w.params k0 k1 k2 k3 k4 k5 k6 k7 k8 k9 rce nl ds chunk tc size ts off to er pl tl pc tp buf) 10), (er, W.listOf c.1.toArray c.2)]) (fun _ => []) (fun _ => True) [] (fun pre c => c.1.length ≤ es.length + pre.length ∧ pre.length ≤ x.length) (es, n) (by rfl) F0 N0 trivial (fun _ h => nomatch h) ⟨Nat.le_refl _, Nat.zero_le _⟩ ?turn_charerr ?done_charerr); (intro c pre post nn tn u hq tq own hco hoff hf hi Ft Nt; (try clear F0 N0); (try dsimp only [List.cons_append, List.nil_append] at Ft); (try dsimp only [List.cons_append, List.nil_append] at Nt)); rotate_left; (intro c u hq tq hf hi Ft Nt; (try clear F0 N0); (try dsimp only [List.cons_append, List.nil_append] at Ft); (try dsimp only [List.cons_append, List.nil_append] at Nt)); rotate_left; all_goals (try k_fold))
      k_steps
      case done_charerr =>
        exact cend (by assumption) (by assumption) (fun _ h => h) ⟨rfl, c.1, c.2, by rw [KStt.codes_length] at hi; exact hi.1, rfl⟩
      all_goals (have hlen := congrArg List.length hco; rw [KStt.codes_length, List.length_append, List.length_cons] at hlen)
      all_goals ((try simp only [List.push_toArray] at *); refine' kst_end (_, _) (by assumption) (by assumption) (fun p hp => List.mem_append_left own hp) ?_ ?_ trivial ?_ ?_ ?_)
      all_goals first | exact rfl | (intro _ h; cases h; done) | (intro p hp; simp [hp]; done) | (intro z hz _ _; simp (zetaDelta := true) [hz, kstB]; done) | (simp only [List.length_append, List.length_cons, List.length_nil]; omega)
  have ctr_read {w : World} {loose : List Str} {mean : ExcName → Option Value} {mg mb : Str → Option Value} {ds dd : Addr} {j0 j1 : Tok} {src : Str} {tsr : Tok} {place : Int} {tpl : Tok} {sz : Int} {t0 : Tok}
      (ho : @LT.lt Nat _ dd ds) (h0 : 0 ≤ place) (h1 : place ≤ src.length) (hs : src.length ≤ 10000) (hz : sz = 10240) :
      CtrC PySem.Challenge.rw_te0076_05.row.prog w (main.heap_1_39 w.params) (Top main.view_1_40 loose mean mg mb) 490 900 (.ref 70) ⟨[.ref ds, .int sz t0], []⟩ [(ds, instObj 73 dd), (dd, dictOf (tdict w.params j0 j1 src tsr place tpl) 2)]
        (noF fun v l => ∃ (x : Str) (tv : Tok) (p' : Int) (tp' : Tok), x.cps.toList = src.cps.toList.drop place.toNat ∧ x.length ≤ 10000 ∧ p' = src.length ∧ v = .str x tv ∧ l = [(ds, instObj 73 dd), (dd, dictOf (tdict w.params j0 j1 src tsr p' tp') 2)]) := by
    as_aux_lemma =>
      clear ctr_is_invalid ctr_charErrors
      k_with_none
      k_with "pos" => (repeat' (first | exact Mine.Internal.PosL.nil | (apply Mine.Internal.PosL.cons 0; exact rfl) | (apply Mine.Internal.PosL.cons 1; exact rfl) | (apply Mine.Internal.PosL.cons 2; exact rfl) | (apply Mine.Internal.PosL.cons 3; exact rfl) | (apply Mine.Internal.PosL.cons 4; exact rfl) | (apply Mine.Internal.PosL.cons 5; exact rfl) | (apply Mine.Internal.PosL.cons 6; exact rfl) | (apply Mine.Internal.PosL.cons 7; exact rfl) | (apply Mine.Internal.PosL.cons 8; exact rfl) | (apply Mine.Internal.PosL.cons 9; exact rfl) | (apply Mine.Internal.PosL.cons 10; exact rfl) | (apply Mine.Internal.PosL.cons 11; exact rfl) | (apply Mine.Internal.PosL.cons 12; exact rfl) | (apply Mine.Internal.PosL.cons 13; exact rfl) | (apply Mine.Internal.PosL.cons 14; exact rfl) | (apply Mine.Internal.PosL.cons 15; exact rfl) | (apply Mine.Internal.PosL.cons 16; exact rfl) | (apply Mine.Internal.PosL.cons 17; exact rfl) | (apply Mine.Internal.PosL.cons 18; exact rfl) | (apply Mine.Internal.PosL.cons 19; exact rfl) | (apply Mine.Internal.PosL.cons 20; exact rfl) | (apply Mine.Internal.PosL.cons 21; exact rfl) | (apply Mine.Internal.PosL.cons 22; exact rfl) | (apply Mine.Internal.PosL.cons 23; exact rfl)))
      k_with "slt" => exact Mine.Internal.Srt.lt (by with_reducible assumption) (by ((repeat (first | (with_reducible_and_instances refine Mine.Internal.Aft.here ?_; (repeat (first | with_reducible_and_instances exact List.Mem.head _ | with_reducible_and_instances refine List.Mem.tail _ ?_)); done) | with_reducible refine Mine.Internal.Aft.there ?_)); all_goals fail))
      k_with "upd" => (exact Mine.Internal.Srt.updP (by with_reducible assumption) (by repeat' (first | exact Mine.Internal.UpdI.head | refine' Mine.Internal.UpdI.tail ?_)) (by k_dflt (k_extra "pos")) (by exact rfl))
      k_with "all" => exact Mine.Internal.Ks.ne_all (by with_reducible assumption) (by first | exact .inr (by k_extra "slt") | exact .inl (by k_extra "slt"))
      k_with "ne" => (refine neN ?_; first | exact Mine.Internal.Srt.ne (by with_reducible assumption) (by with_reducible solve_by_elim (maxDepth := 40) only [Mine.Internal.Apart.l, Mine.Internal.Apart.r, Mine.Internal.Apart.t, List.Mem.head, List.Mem.tail]) | ((try dsimp only); omega))
      k_with "lt" => (intro h9l; first | ((with_reducible rename Mine.Internal.Srt _ => S8); (first | (have S9 := Mine.Internal.Srt.grow S8 (h9l (_, _) (by k_dflt k_mem)); clear S8) | (have S9 := Mine.Internal.Srt.grow S8.tl (h9l (_, _) (by k_dflt k_mem)); clear S8) | (have S9 := Mine.Internal.Srt.grow S8.tl.tl (h9l (_, _) (by k_dflt k_mem)); clear S8)); clear h9l) | (replace h9l := allLt_of h9l; simp only [AllLt, and_true] at h9l))
      k_with "execs cons" => (k_here; (with_reducible show wpAny _ _ _ _ _ (Shared.mk _ _ _ (_ + _) _)); (refine Mine.Internal.gentoks ?_); intro tkg9 htk9; (try dsimp only at htk9))
      k_with "call builtin:len" => (k_here; (with_reducible show wpAny _ _ (call (Value.builtin "len") [Value.str _ _]) _ _ _); (refine SBL.len (by first | omega | exact Mine.Internal.fit63 (by (refine Nat.le_trans (m := 10000) ?_ (by decide); repeat' (first | with_reducible assumption | with_reducible refine Mine.Internal.slice_len_le ?_ | (with_reducible refine Nat.le_trans (Mine.Internal.replace_len (by decide +kernel) (by decide +kernel)) ?_) | exact (by decide +kernel))))) ?_))
      k_with "size" => k_dflt (first | exact Nat.le_of_ble_eq_true rfl | ((with_reducible show Array.size (List.toArray _) ≤ PySem.sizeLine); rw [List.size_toArray, PySem.sizeLine_eq]; refine Nat.le_trans (m := 100002) ?_ (Nat.le_of_ble_eq_true rfl); first | with_reducible assumption | exact Nat.le_trans (m := 100000) (by with_reducible assumption) (Nat.le_of_ble_eq_true rfl)))
      k_with "subscriptTail Name Constant ref int" => k_extra "subscriptTail"
      k_with "tok" => (first | exact Nat.le_add_left 1 _ | with_reducible assumption | exact Nat.le_trans (Nat.le_add_left 1 _) (by with_reducible assumption))
      k_with "next" => (first | ((with_reducible refine Mine.Internal.nextS (g := gens9) (d := dr9) (o := os9) ?_); intro qk9 tkg9) | ((with_reducible refine Mine.Internal.lastS (g := gens9) (d := dr9) (o := os9) ?_); intro tkg9) | (with_reducible refine Mine.Internal.nilS ?_) | (with_reducible refine Mine.Internal.fin9 ?_) | (with_reducible refine Mine.Internal.fin0 ?_) | (with_reducible refine Mine.Internal.finS9 ?_) | (with_reducible refine Mine.Internal.finS0 ?_) | ((with_reducible refine Mine.Internal.nextU (g := gens9) (d := dr9) (o := os9) ?_ ?_); (k_extra "tok"); intro qk9 tkg9) | ((with_reducible refine Mine.Internal.lastU (g := gens9) (d := dr9) (o := os9) ?_ ?_); (k_extra "tok"); intro tkg9) | ((with_reducible refine Mine.Internal.nextZ (g := gens9) (d := dr9) (o := os9) ?_); intro qk9 tkg9) | ((with_reducible refine Mine.Internal.lastZ (g := gens9) (d := dr9) (o := os9) ?_); intro tkg9))
      k_with "execs cons" => k_extra "next"
      k_with "eval Attribute Name" => (k_here; k_dflt (refine' Mine.Internal.at_name (gs := gens9) (d := dr9) (o := os9) ?nF_read ?nX_read ?nN_read ?nv_read ?n1_read ?n2_read ?ng_read ?nh_read ?na_read ?nn_read ?nl_read ?nd_read ?_; (case nF_read => k_asm); (case nX_read => k_asm); (case nN_read => k_asm); (case nv_read => exact rfl); (case n1_read => k_mem); (case n2_read => k_mem); (case ng_read => k_is); (case nh_read => k_is); (case na_read => k_is); (case nn_read => k_is); (case nl_read => k_get); (case nd_read => k_handed); k_whole))
      k_with "setAttr ref" => (first | (k_here; ktx_write) | (k_here; k_dflt (refine' Mine.Internal.st_attr (gs := gens9) (d := dr9) (o := os9) ?sF_read ?sX_read ?sN_read ?s1_read ?s2_read ?ss_read ?sp_read ?st_read ?sh_read ?sl_read ?se_read ?sU_read ?sz_read ?_; (case sF_read => k_asm); (case sX_read => k_asm); (case sN_read => k_asm); (case s1_read => k_mem); (case s2_read => k_mem); (case ss_read => k_is); (case sp_read => k_is); (case st_read => k_is); (case sh_read => k_is); (case sl_read => k_get); (case se_read => k_put); (case sU_read => k_upd); (case sz_read => exact Nat.le_of_ble_eq_true rfl); k_whole; intro h' F' N'; (try k_sweep))))
      k_with "storeName" => (first | (k_here; ktx_write) | (k_here; k_dflt (refine' Mine.Internal.st_name (gs := gens9) (d := dr9) (o := os9) ?tF_read ?tN_read ?_; (case tF_read => k_asm); (case tN_read => k_asm); k_whole; intro m9 h' F' N'; (try k_sweep))))
      k_fill
      refine' ctr_introN (binds := [("self", .ref ds), ("size", .int sz t0)]) (fun h h' T k => T.keeps k) (fun h T => T.nolimit) ?ho_read ?hcd_read ?hD_read ?hb_read ?hl_read ?_ ?hc_read ?c1_read ?c2_read ?c3_read
      case ho_read => k_is
      case hcd_read => k_is
      case hD_read => decide
      case hb_read => (intro s X; (try (rcases hargs with ⟨rfl, rfl, rfl⟩ | ⟨rfl, rfl⟩)); all_goals (first | exact BindsTo.of_eq rfl | exact binds_K X rfl (by k_is) rfl rfl rfl))
      case hl_read => exact locs rfl
      case hc_read => decide
      case c1_read => exact rfl
      case c2_read => exact rfl
      case c3_read => exact rfl
      intro A base g env outer L' h₁ hs9 gens9 dr9 t09 os9 tk B' F' X' N' T' l1
      intro e9 A9 q9
      (try clear l1)
      (try dsimp only at N')
      first | have S0 := Mine.Internal.Srt.eight ho hk hat | have S0 := Mine.Internal.Srt.grow (Mine.Internal.Srt.six ho) hoq | have S0 := Mine.Internal.Srt.five ho hk | have S0 := Mine.Internal.Srt.six ho | have S0 := Mine.Internal.Srt.two ho | have S0 := Mine.Internal.Srt.two hk | skip

      k_steps
      (try dsimp only)
      have e : Txt.slice src (some place) (some (place + sz)) = ⟨(src.cps.toList.drop place.toNat).toArray⟩ := by
        rw [slice_ss h0 (by omega), List.take_of_length_le (by rw [List.length_drop]; simp only [Array.length_toList]; simp only [Str.length] at hs; omega)]
      refine cend (by assumption) (by assumption) (fun _ h => h) ⟨_, _, _, _, by rw [e], ?_, ?_, rfl, rfl⟩
      · rw [e]
        simp only [Str.length, List.size_toArray, List.length_drop, Array.length_toList] at hs ⊢
        omega
      · rw [e]
        simp only [Str.length, List.size_toArray, List.length_drop, Array.length_toList] at h1 ⊢
        omega
  have ctr_readE {w : World} {loose : List Str} {mean : ExcName → Option Value} {mg mb : Str → Option Value} {ds dd : Addr} {j0 j1 : Tok} {src : Str} {tsr : Tok} {place : Int} {tpl : Tok} {sz : Int} {t0 : Tok}
      (ho : @LT.lt Nat _ dd ds) (h1 : place = src.length) (hs : src.length ≤ 10000) (hz : sz = 10240) :
      CtrC PySem.Challenge.rw_te0076_05.row.prog w (main.heap_1_39 w.params) (Top main.view_1_40 loose mean mg mb) 490 900 (.ref 70) ⟨[.ref ds, .int sz t0], []⟩ [(ds, instObj 73 dd), (dd, dictOf (tdict w.params j0 j1 src tsr place tpl) 2)]
        (noF fun v l => ∃ (tv : Tok) (p' : Int) (tp' : Tok), p' = src.length ∧ v = .str ⟨#[]⟩ tv ∧ l = [(ds, instObj 73 dd), (dd, dictOf (tdict w.params j0 j1 src tsr p' tp') 2)]) := by
    as_aux_lemma =>
      clear ctr_is_invalid ctr_charErrors
      refine CtrC.mono (fun v fr l h => ?_) (ctr_read ho (by omega) (by omega) hs hz)
      obtain ⟨h0, y, tv, p', tp', hy, hyl, hp, hv, hl⟩ := h
      refine ⟨h0, tv, p', tp', hp, ?_, hl⟩
      have : y.cps.toList = (#[] : Array Nat).toList := by rw [hy, List.drop_of_length_le (by rw [len_toList]; omega)]
      rw [hv, show y = ⟨#[]⟩ from Str.ext' (Array.toList_inj.mp this)]
  have ctr_position0 {w : World} {loose : List Str} {mean : ExcName → Option Value} {mg mb : Str → Option Value} {st sd : Addr} {k0 k1 k2 k3 k4 k5 k6 k7 k8 k9 : Tok} {rce nl ds : Addr} {chunk : Str} {tc : Tok} {size : Int} {ts : Tok} {off : Int} {to : Tok} {er : Addr} {pl : Int} {tl : Tok} {pc : Int} {tp : Tok} {buf : Value} {o : Int} {t0 : Tok} (ho : @LT.lt Nat _ sd st) :
      CtrC PySem.Challenge.rw_te0076_05.row.prog w (main.heap_1_39 w.params) (Top main.view_1_40 loose mean mg mb) 480 800 (.ref 119) ⟨[.ref st, .int o t0], []⟩ [(st, instObj 166 sd), (sd, dictOf (sdict w.params k0 k1 k2 k3 k4 k5 k6 k7 k8 k9 rce nl ds chunk tc size ts off to er pl tl pc tp buf) 10)]
        (fun v fr l => ∃ (q : Addr) (ta tb : Tok), v = .ref q ∧ fr = [(q, tupO [.int (posL chunk o pl) ta, .int (posC chunk o pc) tb])] ∧ l = [(st, instObj 166 sd), (sd, dictOf (sdict w.params k0 k1 k2 k3 k4 k5 k6 k7 k8 k9 rce nl ds chunk tc size ts off to er pl tl pc tp buf) 10)]) := by
    as_aux_lemma =>
      clear ctr_is_invalid ctr_charErrors ctr_read ctr_readE
      k_with_none
      k_with "pos" => (repeat' (first | exact Mine.Internal.PosL.nil | (apply Mine.Internal.PosL.cons 0; exact rfl) | (apply Mine.Internal.PosL.cons 1; exact rfl) | (apply Mine.Internal.PosL.cons 2; exact rfl) | (apply Mine.Internal.PosL.cons 3; exact rfl) | (apply Mine.Internal.PosL.cons 4; exact rfl) | (apply Mine.Internal.PosL.cons 5; exact rfl) | (apply Mine.Internal.PosL.cons 6; exact rfl) | (apply Mine.Internal.PosL.cons 7; exact rfl) | (apply Mine.Internal.PosL.cons 8; exact rfl) | (apply Mine.Internal.PosL.cons 9; exact rfl) | (apply Mine.Internal.PosL.cons 10; exact rfl) | (apply Mine.Internal.PosL.cons 11; exact rfl) | (apply Mine.Internal.PosL.cons 12; exact rfl) | (apply Mine.Internal.PosL.cons 13; exact rfl) | (apply Mine.Internal.PosL.cons 14; exact rfl) | (apply Mine.Internal.PosL.cons 15; exact rfl) | (apply Mine.Internal.PosL.cons 16; exact rfl) | (apply Mine.Internal.PosL.cons 17; exact rfl) | (apply Mine.Internal.PosL.cons 18; exact rfl) | (apply Mine.Internal.PosL.cons 19; exact rfl) | (apply Mine.Internal.PosL.cons 20; exact rfl) | (apply Mine.Internal.PosL.cons 21; exact rfl) | (apply Mine.Internal.PosL.cons 22; exact rfl) | (apply Mine.Internal.PosL.cons 23; exact rfl)))
      k_with "slt" => exact Mine.Internal.Srt.lt (by with_reducible assumption) (by ((repeat (first | (with_reducible_and_instances refine Mine.Internal.Aft.here ?_; (repeat (first | with_reducible_and_instances exact List.Mem.head _ | with_reducible_and_instances refine List.Mem.tail _ ?_)); done) | with_reducible refine Mine.Internal.Aft.there ?_)); all_goals fail))
      k_with "upd" => (exact Mine.Internal.Srt.updP (by with_reducible assumption) (by repeat' (first | exact Mine.Internal.UpdI.head | refine' Mine.Internal.UpdI.tail ?_)) (by k_dflt (k_extra "pos")) (by exact rfl))
      k_with "all" => exact Mine.Internal.Ks.ne_all (by with_reducible assumption) (by first | exact .inr (by k_extra "slt") | exact .inl (by k_extra "slt"))
      k_with "ne" => (refine neN ?_; first | exact Mine.Internal.Srt.ne (by with_reducible assumption) (by with_reducible solve_by_elim (maxDepth := 40) only [Mine.Internal.Apart.l, Mine.Internal.Apart.r, Mine.Internal.Apart.t, List.Mem.head, List.Mem.tail]) | ((try dsimp only); omega))
      k_with "lt" => (intro h9l; first | ((with_reducible rename Mine.Internal.Srt _ => S8); (first | (have S9 := Mine.Internal.Srt.grow S8 (h9l (_, _) (by k_dflt k_mem)); clear S8) | (have S9 := Mine.Internal.Srt.grow S8.tl (h9l (_, _) (by k_dflt k_mem)); clear S8) | (have S9 := Mine.Internal.Srt.grow S8.tl.tl (h9l (_, _) (by k_dflt k_mem)); clear S8)); clear h9l) | (replace h9l := allLt_of h9l; simp only [AllLt, and_true] at h9l))
      k_with "execs cons" => (k_here; (with_reducible show wpAny _ _ _ _ _ (Shared.mk _ _ _ (_ + _) _)); (refine Mine.Internal.gentoks ?_); intro tkg9 htk9; (try dsimp only at htk9))
      k_with "call builtin:str.count" => (k_here; (with_reducible show wpAny _ _ (call (Value.builtin "str.count") [Value.str _ _, Value.str _ _, Value.int _ _, Value.int _ _]) _ _ _); (refine Mine.Internal.count4 ?_))
      k_with "call builtin:str.rfind" => (k_here; (with_reducible show wpAny _ _ (call (Value.builtin "str.rfind") [Value.str _ _, Value.str _ _, Value.int _ _, Value.int _ _]) _ _ _); (refine Mine.Internal.rfind4 ?_))
      k_with "size" => k_dflt (first | exact Nat.le_of_ble_eq_true rfl | ((with_reducible show Array.size (List.toArray _) ≤ PySem.sizeLine); rw [List.size_toArray, PySem.sizeLine_eq]; refine Nat.le_trans (m := 100002) ?_ (Nat.le_of_ble_eq_true rfl); first | with_reducible assumption | exact Nat.le_trans (m := 100000) (by with_reducible assumption) (Nat.le_of_ble_eq_true rfl)))
      k_with "subscriptTail Name Constant ref int" => k_extra "subscriptTail"
      k_with "tok" => (first | exact Nat.le_add_left 1 _ | with_reducible assumption | exact Nat.le_trans (Nat.le_add_left 1 _) (by with_reducible assumption))
      k_with "next" => (first | ((with_reducible refine Mine.Internal.nextS (g := gens9) (d := dr9) (o := os9) ?_); intro qk9 tkg9) | ((with_reducible refine Mine.Internal.lastS (g := gens9) (d := dr9) (o := os9) ?_); intro tkg9) | (with_reducible refine Mine.Internal.nilS ?_) | (with_reducible refine Mine.Internal.fin9 ?_) | (with_reducible refine Mine.Internal.fin0 ?_) | (with_reducible refine Mine.Internal.finS9 ?_) | (with_reducible refine Mine.Internal.finS0 ?_) | ((with_reducible refine Mine.Internal.nextU (g := gens9) (d := dr9) (o := os9) ?_ ?_); (k_extra "tok"); intro qk9 tkg9) | ((with_reducible refine Mine.Internal.lastU (g := gens9) (d := dr9) (o := os9) ?_ ?_); (k_extra "tok"); intro tkg9) | ((with_reducible refine Mine.Internal.nextZ (g := gens9) (d := dr9) (o := os9) ?_); intro qk9 tkg9) | ((with_reducible refine Mine.Internal.lastZ (g := gens9) (d := dr9) (o := os9) ?_); intro tkg9))
      k_with "execs cons" => k_extra "next"
      k_with "eval Constant int" => (with_reducible refine Mine.Internal.c_int (g := gens9) (d := dr9) (o := os9) ?_)
      k_with "eval Constant str" => (with_reducible refine Mine.Internal.c_str (g := gens9) (d := dr9) (o := os9) ?_)
      k_with "eval Attribute Name" => (k_here; k_dflt (refine' Mine.Internal.at_name (gs := gens9) (d := dr9) (o := os9) ?nF_position0 ?nX_position0 ?nN_position0 ?nv_position0 ?n1_position0 ?n2_position0 ?ng_position0 ?nh_position0 ?na_position0 ?nn_position0 ?nl_position0 ?nd_position0 ?_; (case nF_position0 => k_asm); (case nX_position0 => k_asm); (case nN_position0 => k_asm); (case nv_position0 => exact rfl); (case n1_position0 => k_mem); (case n2_position0 => k_mem); (case ng_position0 => k_is); (case nh_position0 => k_is); (case na_position0 => k_is); (case nn_position0 => k_is); (case nl_position0 => k_get); (case nd_position0 => k_handed); k_whole))
      k_with "storeName" => (first | (k_here; ktx_write) | (k_here; k_dflt (refine' Mine.Internal.st_name (gs := gens9) (d := dr9) (o := os9) ?tF_position0 ?tN_position0 ?_; (case tF_position0 => k_asm); (case tN_position0 => k_asm); k_whole; intro m9 h' F' N'; (try k_sweep))))
      k_fill
      refine' ctr_introN (binds := [("self", .ref st), ("offset", .int o t0)]) (fun h h' T k => T.keeps k) (fun h T => T.nolimit) ?ho_position0 ?hcd_position0 ?hD_position0 ?hb_position0 ?hl_position0 ?_ ?hc_position0 ?c1_position0 ?c2_position0 ?c3_position0
      case ho_position0 => k_is
      case hcd_position0 => k_is
      case hD_position0 => decide
      case hb_position0 => (intro s X; (try (rcases hargs with ⟨rfl, rfl, rfl⟩ | ⟨rfl, rfl⟩)); all_goals (first | exact BindsTo.of_eq rfl | exact binds_K X rfl (by k_is) rfl rfl rfl))
      case hl_position0 => exact locs rfl
      case hc_position0 => decide
      case c1_position0 => exact rfl
      case c2_position0 => exact rfl
      case c3_position0 => exact rfl
      intro A base g env outer L' h₁ hs9 gens9 dr9 t09 os9 tk B' F' X' N' T' l1
      intro e9 A9 q9
      (try clear l1)
      (try dsimp only at N')
      first | have S0 := Mine.Internal.Srt.eight ho hk hat | have S0 := Mine.Internal.Srt.grow (Mine.Internal.Srt.six ho) hoq | have S0 := Mine.Internal.Srt.five ho hk | have S0 := Mine.Internal.Srt.six ho | have S0 := Mine.Internal.Srt.two ho | have S0 := Mine.Internal.Srt.two hk | skip

      k_steps
      all_goals first
        | ((have hc : rfindTo chunk (Str.ofString "\n") 0 o = -1 := by assumption); refine' cendF (fr := [_]) (l := [_, _]) (by assumption) (by assumption) (fun _ h => h) ?_ ⟨_, _, _, rfl, by rw [show posC chunk o pc = pc + o from if_pos hc]; rfl, rfl⟩; (simp only [List.forall_mem_cons, List.not_mem_nil, false_implies, implies_true, and_true, true_and]; (repeat' (refine And.intro ?_ ?_)); all_goals k_ne))
        | ((have hc : ¬ rfindTo chunk (Str.ofString "\n") 0 o = -1 := by assumption); refine' cendF (fr := [_]) (l := [_, _]) (by assumption) (by assumption) (fun _ h => h) ?_ ⟨_, _, _, rfl, by rw [show posC chunk o pc = _ from if_neg hc]; rfl, rfl⟩; (simp only [List.forall_mem_cons, List.not_mem_nil, false_implies, implies_true, and_true, true_and]; (repeat' (refine And.intro ?_ ?_)); all_goals k_ne))
  have ctr_unget {w : World} {loose : List Str} {mean : ExcName → Option Value} {mg mb : Str → Option Value} {st sd : Addr} {k0 k1 k2 k3 k4 k5 k6 k7 k8 k9 : Tok} {rce nl ds : Addr} {chunk : Str} {tc : Tok} {size : Int} {ts : Tok} {off : Int} {to : Tok} {er : Addr} {pl : Int} {tl : Tok} {pc : Int} {tp : Tok} {buf : Value} {c : Nat} {tk0 : Tok}
      (ho : @LT.lt Nat _ sd st) (h1 : 1 ≤ off) (h2 : off ≤ 16777216) (hc : chunk.cps[(off - 1).toNat]? = some c) :
      CtrC PySem.Challenge.rw_te0076_05.row.prog w (main.heap_1_39 w.params) (Top main.view_1_40 loose mean mg mb) 460 600 (.ref 163) ⟨[.ref st, .str ⟨#[c]⟩ tk0], []⟩ [(st, instObj 166 sd), (sd, dictOf (sdict w.params k0 k1 k2 k3 k4 k5 k6 k7 k8 k9 rce nl ds chunk tc size ts off to er pl tl pc tp buf) 10)]
        (noF fun v l => v = .none ∧ ∃ to', l = [(st, instObj 166 sd), (sd, dictOf (sdict w.params k0 k1 k2 k3 k4 k5 k6 k7 k8 k9 rce nl ds chunk tc size ts (off - 1) to' er pl tl pc tp buf) 10)]) := by
    as_aux_lemma =>
      clear ctr_is_invalid ctr_charErrors ctr_read ctr_readE ctr_position0
      k_with_none
      k_with "pos" => (repeat' (first | exact Mine.Internal.PosL.nil | (apply Mine.Internal.PosL.cons 0; exact rfl) | (apply Mine.Internal.PosL.cons 1; exact rfl) | (apply Mine.Internal.PosL.cons 2; exact rfl) | (apply Mine.Internal.PosL.cons 3; exact rfl) | (apply Mine.Internal.PosL.cons 4; exact rfl) | (apply Mine.Internal.PosL.cons 5; exact rfl) | (apply Mine.Internal.PosL.cons 6; exact rfl) | (apply Mine.Internal.PosL.cons 7; exact rfl) | (apply Mine.Internal.PosL.cons 8; exact rfl) | (apply Mine.Internal.PosL.cons 9; exact rfl) | (apply Mine.Internal.PosL.cons 10; exact rfl) | (apply Mine.Internal.PosL.cons 11; exact rfl) | (apply Mine.Internal.PosL.cons 12; exact rfl) | (apply Mine.Internal.PosL.cons 13; exact rfl) | (apply Mine.Internal.PosL.cons 14; exact rfl) | (apply Mine.Internal.PosL.cons 15; exact rfl) | (apply Mine.Internal.PosL.cons 16; exact rfl) | (apply Mine.Internal.PosL.cons 17; exact rfl) | (apply Mine.Internal.PosL.cons 18; exact rfl) | (apply Mine.Internal.PosL.cons 19; exact rfl) | (apply Mine.Internal.PosL.cons 20; exact rfl) | (apply Mine.Internal.PosL.cons 21; exact rfl) | (apply Mine.Internal.PosL.cons 22; exact rfl) | (apply Mine.Internal.PosL.cons 23; exact rfl)))
      k_with "slt" => exact Mine.Internal.Srt.lt (by with_reducible assumption) (by ((repeat (first | (with_reducible_and_instances refine Mine.Internal.Aft.here ?_; (repeat (first | with_reducible_and_instances exact List.Mem.head _ | with_reducible_and_instances refine List.Mem.tail _ ?_)); done) | with_reducible refine Mine.Internal.Aft.there ?_)); all_goals fail))
      k_with "upd" => (exact Mine.Internal.Srt.updP (by with_reducible assumption) (by repeat' (first | exact Mine.Internal.UpdI.head | refine' Mine.Internal.UpdI.tail ?_)) (by k_dflt (k_extra "pos")) (by exact rfl))
      k_with "all" => exact Mine.Internal.Ks.ne_all (by with_reducible assumption) (by first | exact .inr (by k_extra "slt") | exact .inl (by k_extra "slt"))
      k_with "ne" => (refine neN ?_; first | exact Mine.Internal.Srt.ne (by with_reducible assumption) (by with_reducible solve_by_elim (maxDepth := 40) only [Mine.Internal.Apart.l, Mine.Internal.Apart.r, Mine.Internal.Apart.t, List.Mem.head, List.Mem.tail]) | ((try dsimp only); omega))
      k_with "lt" => (intro h9l; first | ((with_reducible rename Mine.Internal.Srt _ => S8); (first | (have S9 := Mine.Internal.Srt.grow S8 (h9l (_, _) (by k_dflt k_mem)); clear S8) | (have S9 := Mine.Internal.Srt.grow S8.tl (h9l (_, _) (by k_dflt k_mem)); clear S8) | (have S9 := Mine.Internal.Srt.grow S8.tl.tl (h9l (_, _) (by k_dflt k_mem)); clear S8)); clear h9l) | (replace h9l := allLt_of h9l; simp only [AllLt, and_true] at h9l))
      k_with "subscriptTail" => (k_here; (with_reducible show wpAny _ _ (subscriptTail _ _ (Value.str _ _) (Value.int _ _)) _ _ _); (refine Mine.Internal.sub_chr (by omega) (by omega) (by assumption) ?_))
      k_with "execs cons" => (k_here; (with_reducible show wpAny _ _ _ _ _ (Shared.mk _ _ _ (_ + _) _)); (refine Mine.Internal.gentoks ?_); intro tkg9 htk9; (try dsimp only at htk9))
      k_with "ite" => (k_here; k_openite; first
      | (refine ite_pos ?hq_unget ?_; (case hq_unget => first | (simp only [decide_eq_true_eq, beq_iff_eq, bne_iff_ne, ne_eq, Bool.not_eq_true', decide_eq_false_iff_not]; omega) | (simp; done)))
      | (refine ite_neg ?hq_unget ?_; (case hq_unget => first | (simp only [decide_eq_true_eq, beq_iff_eq, bne_iff_ne, ne_eq, Bool.not_eq_true', decide_eq_false_iff_not]; omega) | (simp; done))))
      k_with "size" => k_dflt (first | exact Nat.le_of_ble_eq_true rfl | ((with_reducible show Array.size (List.toArray _) ≤ PySem.sizeLine); rw [List.size_toArray, PySem.sizeLine_eq]; refine Nat.le_trans (m := 100002) ?_ (Nat.le_of_ble_eq_true rfl); first | with_reducible assumption | exact Nat.le_trans (m := 100000) (by with_reducible assumption) (Nat.le_of_ble_eq_true rfl)))
      k_with "subscriptTail Name Constant ref int" => k_extra "subscriptTail"
      k_with "tok" => (first | exact Nat.le_add_left 1 _ | with_reducible assumption | exact Nat.le_trans (Nat.le_add_left 1 _) (by with_reducible assumption))
      k_with "next" => (first | ((with_reducible refine Mine.Internal.nextS (g := gens9) (d := dr9) (o := os9) ?_); intro qk9 tkg9) | ((with_reducible refine Mine.Internal.lastS (g := gens9) (d := dr9) (o := os9) ?_); intro tkg9) | (with_reducible refine Mine.Internal.nilS ?_) | (with_reducible refine Mine.Internal.fin9 ?_) | (with_reducible refine Mine.Internal.fin0 ?_) | (with_reducible refine Mine.Internal.finS9 ?_) | (with_reducible refine Mine.Internal.finS0 ?_) | ((with_reducible refine Mine.Internal.nextU (g := gens9) (d := dr9) (o := os9) ?_ ?_); (k_extra "tok"); intro qk9 tkg9) | ((with_reducible refine Mine.Internal.lastU (g := gens9) (d := dr9) (o := os9) ?_ ?_); (k_extra "tok"); intro tkg9) | ((with_reducible refine Mine.Internal.nextZ (g := gens9) (d := dr9) (o := os9) ?_); intro qk9 tkg9) | ((with_reducible refine Mine.Internal.lastZ (g := gens9) (d := dr9) (o := os9) ?_); intro tkg9))
      k_with "execs cons" => k_extra "next"
      k_with "eval Constant int" => (with_reducible refine Mine.Internal.c_int (g := gens9) (d := dr9) (o := os9) ?_)
      k_with "eval Attribute Name" => (k_here; k_dflt (refine' Mine.Internal.at_name (gs := gens9) (d := dr9) (o := os9) ?nF_unget ?nX_unget ?nN_unget ?nv_unget ?n1_unget ?n2_unget ?ng_unget ?nh_unget ?na_unget ?nn_unget ?nl_unget ?nd_unget ?_; (case nF_unget => k_asm); (case nX_unget => k_asm); (case nN_unget => k_asm); (case nv_unget => exact rfl); (case n1_unget => k_mem); (case n2_unget => k_mem); (case ng_unget => k_is); (case nh_unget => k_is); (case na_unget => k_is); (case nn_unget => k_is); (case nl_unget => k_get); (case nd_unget => k_handed); k_whole))
      k_with "setAttr ref" => (first | (k_here; ktx_write) | (k_here; k_dflt (refine' Mine.Internal.st_attr (gs := gens9) (d := dr9) (o := os9) ?sF_unget ?sX_unget ?sN_unget ?s1_unget ?s2_unget ?ss_unget ?sp_unget ?st_unget ?sh_unget ?sl_unget ?se_unget ?sU_unget ?sz_unget ?_; (case sF_unget => k_asm); (case sX_unget => k_asm); (case sN_unget => k_asm); (case s1_unget => k_mem); (case s2_unget => k_mem); (case ss_unget => k_is); (case sp_unget => k_is); (case st_unget => k_is); (case sh_unget => k_is); (case sl_unget => k_get); (case se_unget => k_put); (case sU_unget => k_upd); (case sz_unget => exact Nat.le_of_ble_eq_true rfl); k_whole; intro h' F' N'; (try k_sweep))))
      k_fill
      refine' ctr_introN (binds := [("self", .ref st), ("char", .str ⟨#[c]⟩ tk0)]) (fun h h' T k => T.keeps k) (fun h T => T.nolimit) ?ho_unget ?hcd_unget ?hD_unget ?hb_unget ?hl_unget ?_ ?hc_unget ?c1_unget ?c2_unget ?c3_unget
      case ho_unget => k_is
      case hcd_unget => k_is
      case hD_unget => decide
      case hb_unget => (intro s X; (try (rcases hargs with ⟨rfl, rfl, rfl⟩ | ⟨rfl, rfl⟩)); all_goals (first | exact BindsTo.of_eq rfl | exact binds_K X rfl (by k_is) rfl rfl rfl))
      case hl_unget => exact locs rfl
      case hc_unget => decide
      case c1_unget => exact rfl
      case c2_unget => exact rfl
      case c3_unget => exact rfl
      intro A base g env outer L' h₁ hs9 gens9 dr9 t09 os9 tk B' F' X' N' T' l1
      intro e9 A9 q9
      (try clear l1)
      (try dsimp only at N')
      first | have S0 := Mine.Internal.Srt.eight ho hk hat | have S0 := Mine.Internal.Srt.grow (Mine.Internal.Srt.six ho) hoq | have S0 := Mine.Internal.Srt.five ho hk | have S0 := Mine.Internal.Srt.six ho | have S0 := Mine.Internal.Srt.two ho | have S0 := Mine.Internal.Srt.two hk | skip

      k_steps
      all_goals (refine cend (by assumption) (by assumption) (fun _ h => h) ⟨rfl, _, rfl⟩)
  have ctr_ungetN {w : World} {loose : List Str} {mean : ExcName → Option Value} {mg mb : Str → Option Value} {st : Addr} : CtrC PySem.Challenge.rw_te0076_05.row.prog w (main.heap_1_39 w.params) (Top main.view_1_40 loose mean mg mb) 460 600 (.ref 163) ⟨[.ref st, .none], []⟩ [] (noF fun v l => v = .none ∧ l = []) := by
    as_aux_lemma =>
      clear ctr_is_invalid ctr_charErrors ctr_read ctr_readE ctr_position0 ctr_unget
      k_with_none
      k_with "pos" => (repeat' (first | exact Mine.Internal.PosL.nil | (apply Mine.Internal.PosL.cons 0; exact rfl) | (apply Mine.Internal.PosL.cons 1; exact rfl) | (apply Mine.Internal.PosL.cons 2; exact rfl) | (apply Mine.Internal.PosL.cons 3; exact rfl) | (apply Mine.Internal.PosL.cons 4; exact rfl) | (apply Mine.Internal.PosL.cons 5; exact rfl) | (apply Mine.Internal.PosL.cons 6; exact rfl) | (apply Mine.Internal.PosL.cons 7; exact rfl) | (apply Mine.Internal.PosL.cons 8; exact rfl) | (apply Mine.Internal.PosL.cons 9; exact rfl) | (apply Mine.Internal.PosL.cons 10; exact rfl) | (apply Mine.Internal.PosL.cons 11; exact rfl) | (apply Mine.Internal.PosL.cons 12; exact rfl) | (apply Mine.Internal.PosL.cons 13; exact rfl) | (apply Mine.Internal.PosL.cons 14; exact rfl) | (apply Mine.Internal.PosL.cons 15; exact rfl) | (apply Mine.Internal.PosL.cons 16; exact rfl) | (apply Mine.Internal.PosL.cons 17; exact rfl) | (apply Mine.Internal.PosL.cons 18; exact rfl) | (apply Mine.Internal.PosL.cons 19; exact rfl) | (apply Mine.Internal.PosL.cons 20; exact rfl) | (apply Mine.Internal.PosL.cons 21; exact rfl) | (apply Mine.Internal.PosL.cons 22; exact rfl) | (apply Mine.Internal.PosL.cons 23; exact rfl)))
      k_with "slt" => exact Mine.Internal.Srt.lt (by with_reducible assumption) (by ((repeat (first | (with_reducible_and_instances refine Mine.Internal.Aft.here ?_; (repeat (first | with_reducible_and_instances exact List.Mem.head _ | with_reducible_and_instances refine List.Mem.tail _ ?_)); done) | with_reducible refine Mine.Internal.Aft.there ?_)); all_goals fail))
      k_with "upd" => (exact Mine.Internal.Srt.updP (by with_reducible assumption) (by repeat' (first | exact Mine.Internal.UpdI.head | refine' Mine.Internal.UpdI.tail ?_)) (by k_dflt (k_extra "pos")) (by exact rfl))
      k_with "all" => exact Mine.Internal.Ks.ne_all (by with_reducible assumption) (by first | exact .inr (by k_extra "slt") | exact .inl (by k_extra "slt"))
      k_with "ne" => (refine neN ?_; first | exact Mine.Internal.Srt.ne (by with_reducible assumption) (by with_reducible solve_by_elim (maxDepth := 40) only [Mine.Internal.Apart.l, Mine.Internal.Apart.r, Mine.Internal.Apart.t, List.Mem.head, List.Mem.tail]) | ((try dsimp only); omega))
      k_with "lt" => (intro h9l; first | ((with_reducible rename Mine.Internal.Srt _ => S8); (first | (have S9 := Mine.Internal.Srt.grow S8 (h9l (_, _) (by k_dflt k_mem)); clear S8) | (have S9 := Mine.Internal.Srt.grow S8.tl (h9l (_, _) (by k_dflt k_mem)); clear S8) | (have S9 := Mine.Internal.Srt.grow S8.tl.tl (h9l (_, _) (by k_dflt k_mem)); clear S8)); clear h9l) | (replace h9l := allLt_of h9l; simp only [AllLt, and_true] at h9l))
      k_with "execs cons" => (k_here; (with_reducible show wpAny _ _ _ _ _ (Shared.mk _ _ _ (_ + _) _)); (refine Mine.Internal.gentoks ?_); intro tkg9 htk9; (try dsimp only at htk9))
      k_with "size" => k_dflt (first | exact Nat.le_of_ble_eq_true rfl | ((with_reducible show Array.size (List.toArray _) ≤ PySem.sizeLine); rw [List.size_toArray, PySem.sizeLine_eq]; refine Nat.le_trans (m := 100002) ?_ (Nat.le_of_ble_eq_true rfl); first | with_reducible assumption | exact Nat.le_trans (m := 100000) (by with_reducible assumption) (Nat.le_of_ble_eq_true rfl)))
      k_with "subscriptTail Name Constant ref int" => k_extra "subscriptTail"
      k_with "tok" => (first | exact Nat.le_add_left 1 _ | with_reducible assumption | exact Nat.le_trans (Nat.le_add_left 1 _) (by with_reducible assumption))
      k_with "next" => (first | ((with_reducible refine Mine.Internal.nextS (g := gens9) (d := dr9) (o := os9) ?_); intro qk9 tkg9) | ((with_reducible refine Mine.Internal.lastS (g := gens9) (d := dr9) (o := os9) ?_); intro tkg9) | (with_reducible refine Mine.Internal.nilS ?_) | (with_reducible refine Mine.Internal.fin9 ?_) | (with_reducible refine Mine.Internal.fin0 ?_) | (with_reducible refine Mine.Internal.finS9 ?_) | (with_reducible refine Mine.Internal.finS0 ?_) | ((with_reducible refine Mine.Internal.nextU (g := gens9) (d := dr9) (o := os9) ?_ ?_); (k_extra "tok"); intro qk9 tkg9) | ((with_reducible refine Mine.Internal.lastU (g := gens9) (d := dr9) (o := os9) ?_ ?_); (k_extra "tok"); intro tkg9) | ((with_reducible refine Mine.Internal.nextZ (g := gens9) (d := dr9) (o := os9) ?_); intro qk9 tkg9) | ((with_reducible refine Mine.Internal.lastZ (g := gens9) (d := dr9) (o := os9) ?_); intro tkg9))
      k_with "execs cons" => k_extra "next"
      k_with "execs nil" => (with_reducible refine Mine.Internal.nilS ?_)
      k_fill
      refine' ctr_introN (binds := [("self", .ref st), ("char", .none)]) (fun h h' T k => T.keeps k) (fun h T => T.nolimit) ?ho_ungetN ?hcd_ungetN ?hD_ungetN ?hb_ungetN ?hl_ungetN ?_ ?hc_ungetN ?c1_ungetN ?c2_ungetN ?c3_ungetN
      case ho_ungetN => k_is
      case hcd_ungetN => k_is
      case hD_ungetN => decide
      case hb_ungetN => (intro s X; (try (rcases hargs with ⟨rfl, rfl, rfl⟩ | ⟨rfl, rfl⟩)); all_goals (first | exact BindsTo.of_eq rfl | exact binds_K X rfl (by k_is) rfl rfl rfl))
      case hl_ungetN => exact locs rfl
      case hc_ungetN => decide
      case c1_ungetN => exact rfl
      case c2_ungetN => exact rfl
      case c3_ungetN => exact rfl
      intro A base g env outer L' h₁ hs9 gens9 dr9 t09 os9 tk B' F' X' N' T' l1
      intro e9 A9 q9
      (try clear l1)
      (try dsimp only at N')
      first | have S0 := Mine.Internal.Srt.eight ho hk hat | have S0 := Mine.Internal.Srt.grow (Mine.Internal.Srt.six ho) hoq | have S0 := Mine.Internal.Srt.five ho hk | have S0 := Mine.Internal.Srt.six ho | have S0 := Mine.Internal.Srt.two ho | have S0 := Mine.Internal.Srt.two hk | skip

      k_steps
      all_goals (refine cend (l := []) (by assumption) (by assumption) (fun _ h => nomatch h) ⟨rfl, rfl⟩)
  have ctr_ungetS {w : World} {loose : List Str} {mean : ExcName → Option Value} {mg mb : Str → Option Value} {st sd : Addr} {k0 k1 k2 k3 k4 k5 k6 k7 k8 k9 : Tok} {rce nl ds er dd : Addr} {j0 j1 : Tok} {src : Str} {tsr : Tok} {x : St} {c : Nat} {tk0 : Tok} (ho : @LT.lt Nat _ sd st ∧ @LT.lt Nat _ st rce ∧ @LT.lt Nat _ rce dd ∧ @LT.lt Nat _ dd ds ∧ @LT.lt Nat _ ds er) (ok : x.ok src) (h1 : 1 ≤ x.off) (hc : x.chunk.cps[(x.off - 1).toNat]? = some c) :
      CtrC PySem.Challenge.rw_te0076_05.row.prog w (main.heap_1_39 w.params) (Top main.view_1_40 loose mean mg mb) 460 600 (.ref 163) ⟨[.ref st, .str ⟨#[c]⟩ tk0], []⟩ [(st, instObj 166 sd), (sd, dictOf (sdict w.params k0 k1 k2 k3 k4 k5 k6 k7 k8 k9 rce nl ds x.chunk x.tc x.size x.ts x.off x.to er x.pl x.tl x.pc x.tp x.buf) 10), (ds, instObj 73 dd), (dd, dictOf (tdict w.params j0 j1 src tsr x.place x.tpl) 2), (rce, methodObj (.ref 148) (.ref st)), (er, W.listOf x.es.toArray x.n)] (noF fun v l => v = .none ∧ ∃ x' : St, x'.ok src ∧ x'.rem src = c :: x.rem src ∧ l = [(st, instObj 166 sd), (sd, dictOf (sdict w.params k0 k1 k2 k3 k4 k5 k6 k7 k8 k9 rce nl ds x'.chunk x'.tc x'.size x'.ts x'.off x'.to er x'.pl x'.tl x'.pc x'.tp x'.buf) 10), (ds, instObj 73 dd), (dd, dictOf (tdict w.params j0 j1 src tsr x'.place x'.tpl) 2), (rce, methodObj (.ref 148) (.ref st)), (er, W.listOf x'.es.toArray x'.n)]) := by
    as_aux_lemma =>
      clear ctr_is_invalid ctr_charErrors ctr_read ctr_readE ctr_position0 ctr_ungetN
      refine CtrC.mono (fun v fr l h => ?_) (CtrC.frame (l := [_, _]) (e := [_, _, _, _]) (ctr_unget ho.1 h1 (by have := ok.off1; have := ok.csize; have := ok.clen; omega) hc) ?_)
      · obtain ⟨l', hl, h0, hv, to', hl'⟩ := h
        have hq := rem_back ok h1 hc rfl
        refine ⟨h0, hv, { x with off := x.off - 1, to := to' }, (hq _ 0).1, (hq 0 _).2, ?_⟩
        rw [hl, hl']; rfl
      · have ho' := ho
        simp only [List.forall_mem_cons, List.not_mem_nil, false_implies, implies_true, and_true]
        refine ⟨⟨?_, ?_⟩, ⟨?_, ?_⟩, ⟨?_, ?_⟩, ⟨?_, ?_⟩⟩ <;> (intro e; subst e; omega)
  have ctr_readN {w : World} {loose : List Str} {mean : ExcName → Option Value} {mg mb : Str → Option Value} {st sd : Addr} {k0 k1 k2 k3 k4 k5 k6 k7 k8 k9 : Tok} {rce nl ds er dd : Addr} {j0 j1 : Tok} {src : Str} {tsr : Tok} {x : St} (ho : @LT.lt Nat _ sd st ∧ @LT.lt Nat _ st rce ∧ @LT.lt Nat _ rce dd ∧ @LT.lt Nat _ dd ds ∧ @LT.lt Nat _ ds er) (ok : x.ok src) (hb : x.buf = .none) :
      CtrC PySem.Challenge.rw_te0076_05.row.prog w (main.heap_1_39 w.params) (Top main.view_1_40 loose mean mg mb) 470 700 (.ref 141) ⟨[.ref st], []⟩ [(st, instObj 166 sd), (sd, dictOf (sdict w.params k0 k1 k2 k3 k4 k5 k6 k7 k8 k9 rce nl ds x.chunk x.tc x.size x.ts x.off x.to er x.pl x.tl x.pc x.tp x.buf) 10), (ds, instObj 73 dd), (dd, dictOf (tdict w.params j0 j1 src tsr x.place x.tpl) 2), (rce, methodObj (.ref 148) (.ref st)), (er, W.listOf x.es.toArray x.n)] (noF (RPost w st sd k0 k1 k2 k3 k4 k5 k6 k7 k8 k9 rce nl ds er dd j0 j1 src tsr x)) := by
    as_aux_lemma =>
      clear ctr_is_invalid ctr_readE ctr_unget ctr_ungetN ctr_ungetS
      obtain ⟨chunk, tc, size, ts, off, to, pl, tl, pc, tp, buf, pend, place, tpl, es, n⟩ := x
      obtain ⟨oksize, okoff0, okoff1, oklen, h0, h1, hs, okbuf, hes, hsu, okpend, okhist⟩ := ok
      dsimp only at *
      have hpend : pend = [] := by rcases okbuf with h | ⟨t, h, _⟩; exact h.2; (rw [hb] at h; cases h)
      subst hb; subst hpend
      k_with_none
      k_with "pos" => (repeat' (first | exact Mine.Internal.PosL.nil | (apply Mine.Internal.PosL.cons 0; exact rfl) | (apply Mine.Internal.PosL.cons 1; exact rfl) | (apply Mine.Internal.PosL.cons 2; exact rfl) | (apply Mine.Internal.PosL.cons 3; exact rfl) | (apply Mine.Internal.PosL.cons 4; exact rfl) | (apply Mine.Internal.PosL.cons 5; exact rfl) | (apply Mine.Internal.PosL.cons 6; exact rfl) | (apply Mine.Internal.PosL.cons 7; exact rfl) | (apply Mine.Internal.PosL.cons 8; exact rfl) | (apply Mine.Internal.PosL.cons 9; exact rfl) | (apply Mine.Internal.PosL.cons 10; exact rfl) | (apply Mine.Internal.PosL.cons 11; exact rfl) | (apply Mine.Internal.PosL.cons 12; exact rfl) | (apply Mine.Internal.PosL.cons 13; exact rfl) | (apply Mine.Internal.PosL.cons 14; exact rfl) | (apply Mine.Internal.PosL.cons 15; exact rfl) | (apply Mine.Internal.PosL.cons 16; exact rfl) | (apply Mine.Internal.PosL.cons 17; exact rfl) | (apply Mine.Internal.PosL.cons 18; exact rfl) | (apply Mine.Internal.PosL.cons 19; exact rfl) | (apply Mine.Internal.PosL.cons 20; exact rfl) | (apply Mine.Internal.PosL.cons 21; exact rfl) | (apply Mine.Internal.PosL.cons 22; exact rfl) | (apply Mine.Internal.PosL.cons 23; exact rfl)))
      k_with "slt" => exact Mine.Internal.Srt.lt (by with_reducible assumption) (by ((repeat (first | (with_reducible_and_instances refine Mine.Internal.Aft.here ?_; (repeat (first | with_reducible_and_instances exact List.Mem.head _ | with_reducible_and_instances refine List.Mem.tail _ ?_)); done) | with_reducible refine Mine.Internal.Aft.there ?_)); all_goals fail))
      k_with "upd" => (exact Mine.Internal.Srt.updP (by with_reducible assumption) (by repeat' (first | exact Mine.Internal.UpdI.head | refine' Mine.Internal.UpdI.tail ?_)) (by k_dflt (k_extra "pos")) (by exact rfl))
      k_with "all" => exact Mine.Internal.Ks.ne_all (by with_reducible assumption) (by first | exact .inr (by k_extra "slt") | exact .inl (by k_extra "slt"))
      k_with "ne" => (refine neN ?_; first | exact Mine.Internal.Srt.ne (by with_reducible assumption) (by with_reducible solve_by_elim (maxDepth := 40) only [Mine.Internal.Apart.l, Mine.Internal.Apart.r, Mine.Internal.Apart.t, List.Mem.head, List.Mem.tail]) | ((try dsimp only); omega))
      k_with "lt" => (intro h9l; first | ((with_reducible rename Mine.Internal.Srt _ => S8); (first | (have S9 := Mine.Internal.Srt.grow S8 (h9l (_, _) (by k_dflt k_mem)); clear S8) | (have S9 := Mine.Internal.Srt.grow S8.tl (h9l (_, _) (by k_dflt k_mem)); clear S8) | (have S9 := Mine.Internal.Srt.grow S8.tl.tl (h9l (_, _) (by k_dflt k_mem)); clear S8)); clear h9l) | (replace h9l := allLt_of h9l; simp only [AllLt, and_true] at h9l))
      k_with "getMethod ref" => (k_here; k_dflt (first | (refine' method_inst ?k1_readN ?k2_readN ?k3_readN ?k4_readN ?k5_readN ?k6_readN ?k7_readN ?_; (case k1_readN => k_asm); (case k2_readN => k_asm); (case k3_readN => k_inst); (case k4_readN => k_is); (case k5_readN => k_is); (case k6_readN => k_is); (case k7_readN => k_get); k_whole) | (refine' kmu_own ?k1_readN ?k2_readN ?k3_readN ?k4_readN ?k5_readN ?_; (case k1_readN => k_asm); (case k2_readN => k_asm); (case k3_readN => k_inst); (case k4_readN => k_is); (case k5_readN => k_is); k_whole)))
      k_with "getMethod ref" => (k_here; (with_reducible show wpAny _ _ (getMethod (Value.ref _) (PySem.Str.ofString "append") _) _ _ _); k_dflt (refine' kl_method ?N_readN ?m_readN slot_list_append type_list_append ?_; (case N_readN => k_asm); (case m_readN => k_mem); k_whole))
      k_with "subscriptTail Name UnaryOp str int" => (k_here; (with_reducible show wpAny _ _ (subscriptTail _ _ (Value.str _ _) (Value.int _ _)) _ _ _); (refine Mine.Internal.sub_last (by omega) (by omega) (by omega) ?_); intro c9 hc9; (try (k_dflt (have hs9 := Mine.Internal.last_lt (B := 55296) (by assumption) (by assumption) hc9))))
      k_with "call builtin:str.replace" => (k_here; (with_reducible show wpAny _ _ (call (Value.builtin "str.replace") [Value.str _ _, Value.str _ _, Value.str _ _]) _ _ _); (refine Mine.Internal.replaceM (by (try dsimp only); omega) (by (try dsimp only); omega) (by (try dsimp only); omega) (by decide +kernel) (by (refine Nat.le_trans (m := 10000) ?_ (by decide); repeat' (first | with_reducible assumption | with_reducible refine Mine.Internal.slice_len_le ?_ | (with_reducible refine Nat.le_trans (Mine.Internal.replace_len (by decide +kernel) (by decide +kernel)) ?_) | exact (by decide +kernel)))) (by decide +kernel) ?_); intro t9 kq9 hk9; (try dsimp only at hk9))
      k_with "execs cons" => (k_here; (with_reducible show wpAny _ _ _ _ _ (Shared.mk _ _ _ (_ + _) _)); (refine Mine.Internal.gentoks ?_); intro tkg9 htk9; (try dsimp only at htk9))
      k_with "call builtin:len" => (k_here; (with_reducible show wpAny _ _ (call (Value.builtin "len") [Value.str _ _]) _ _ _); (refine SBL.len (by first | omega | exact Mine.Internal.fit63 (by (refine Nat.le_trans (m := 10000) ?_ (by decide); repeat' (first | with_reducible assumption | with_reducible refine Mine.Internal.slice_len_le ?_ | (with_reducible refine Nat.le_trans (Mine.Internal.replace_len (by decide +kernel) (by decide +kernel)) ?_) | exact (by decide +kernel))))) ?_))
      k_with "truthy ref" => (k_here; k_dflt (refine' Mine.Internal.truthy_meth ?k1_readN ?k2_readN ?_; (case k1_readN => k_asm); (case k2_readN => k_mem); k_whole))
      k_with "truthy str" => (k_here; (with_reducible show wpAny _ _ (PySem.truthy (Value.str _ _)) _ _ _); (refine SBL.truthy (by omega) ?_))
      k_with "ite" => (k_here; k_openite; first
      | (refine ite_pos ?hq_readN ?_; (case hq_readN => first | (simp only [decide_eq_true_eq, beq_iff_eq, bne_iff_ne, ne_eq, Bool.not_eq_true', decide_eq_false_iff_not]; omega) | (simp; done)))
      | (refine ite_neg ?hq_readN ?_; (case hq_readN => first | (simp only [decide_eq_true_eq, beq_iff_eq, bne_iff_ne, ne_eq, Bool.not_eq_true', decide_eq_false_iff_not]; omega) | (simp; done))))
      k_with "size" => k_dflt (first | exact Nat.le_of_ble_eq_true rfl | ((with_reducible show Array.size (List.toArray _) ≤ PySem.sizeLine); rw [List.size_toArray, PySem.sizeLine_eq]; refine Nat.le_trans (m := 100002) ?_ (Nat.le_of_ble_eq_true rfl); first | with_reducible assumption | exact Nat.le_trans (m := 100000) (by with_reducible assumption) (Nat.le_of_ble_eq_true rfl)))
      k_with "subscriptTail Name Constant ref int" => k_extra "subscriptTail"
      k_with "tok" => (first | exact Nat.le_add_left 1 _ | with_reducible assumption | exact Nat.le_trans (Nat.le_add_left 1 _) (by with_reducible assumption))
      k_with "next" => (first | ((with_reducible refine Mine.Internal.nextS (g := gens9) (d := dr9) (o := os9) ?_); intro qk9 tkg9) | ((with_reducible refine Mine.Internal.lastS (g := gens9) (d := dr9) (o := os9) ?_); intro tkg9) | (with_reducible refine Mine.Internal.nilS ?_) | (with_reducible refine Mine.Internal.fin9 ?_) | (with_reducible refine Mine.Internal.fin0 ?_) | (with_reducible refine Mine.Internal.finS9 ?_) | (with_reducible refine Mine.Internal.finS0 ?_) | ((with_reducible refine Mine.Internal.nextU (g := gens9) (d := dr9) (o := os9) ?_ ?_); (k_extra "tok"); intro qk9 tkg9) | ((with_reducible refine Mine.Internal.lastU (g := gens9) (d := dr9) (o := os9) ?_ ?_); (k_extra "tok"); intro tkg9) | ((with_reducible refine Mine.Internal.nextZ (g := gens9) (d := dr9) (o := os9) ?_); intro qk9 tkg9) | ((with_reducible refine Mine.Internal.lastZ (g := gens9) (d := dr9) (o := os9) ?_); intro tkg9))
      k_with "execs cons" => k_extra "next"
      k_with "execs nil" => (with_reducible refine Mine.Internal.nilS ?_)
      k_with "eval Constant int" => (with_reducible refine Mine.Internal.c_int (g := gens9) (d := dr9) (o := os9) ?_)
      k_with "eval Constant str" => (with_reducible refine Mine.Internal.c_str (g := gens9) (d := dr9) (o := os9) ?_)
      k_with "call builtin:str.replace" => (k_here; (with_reducible show wpAny _ _ (call (Value.builtin "str.replace") [Value.str _ _, Value.str _ _, Value.str _ _]) _ _ _); (refine Mine.Internal.c_replace (gs := gens9) (d := dr9) (o := os9) (by first | exact Nat.ne_of_lt (Nat.lt_succ_self _) | omega) (by decide +kernel) (by (refine Nat.le_trans (m := 10000) ?_ (by decide); repeat' (first | with_reducible assumption | with_reducible refine Mine.Internal.slice_len_le ?_ | (with_reducible refine Nat.le_trans (Mine.Internal.replace_len (by decide +kernel) (by decide +kernel)) ?_) | exact (by decide +kernel)))) (by decide +kernel) ?_); intro t9 kq9)
      k_with "eval Attribute Name" => (k_here; k_dflt (refine' Mine.Internal.at_name (gs := gens9) (d := dr9) (o := os9) ?nF_readN ?nX_readN ?nN_readN ?nv_readN ?n1_readN ?n2_readN ?ng_readN ?nh_readN ?na_readN ?nn_readN ?nl_readN ?nd_readN ?_; (case nF_readN => k_asm); (case nX_readN => k_asm); (case nN_readN => k_asm); (case nv_readN => exact rfl); (case n1_readN => k_mem); (case n2_readN => k_mem); (case ng_readN => k_is); (case nh_readN => k_is); (case na_readN => k_is); (case nn_readN => k_is); (case nl_readN => k_get); (case nd_readN => k_handed); k_whole))
      k_with "setAttr ref" => (first | (k_here; ktx_write) | (k_here; k_dflt (refine' Mine.Internal.st_attr (gs := gens9) (d := dr9) (o := os9) ?sF_readN ?sX_readN ?sN_readN ?s1_readN ?s2_readN ?ss_readN ?sp_readN ?st_readN ?sh_readN ?sl_readN ?se_readN ?sU_readN ?sz_readN ?_; (case sF_readN => k_asm); (case sX_readN => k_asm); (case sN_readN => k_asm); (case s1_readN => k_mem); (case s2_readN => k_mem); (case ss_readN => k_is); (case sp_readN => k_is); (case st_readN => k_is); (case sh_readN => k_is); (case sl_readN => k_get); (case se_readN => k_put); (case sU_readN => k_upd); (case sz_readN => exact Nat.le_of_ble_eq_true rfl); k_whole; intro h' F' N'; (try k_sweep))))
      k_with "storeName" => (first | (k_here; ktx_write) | (k_here; k_dflt (refine' Mine.Internal.st_name (gs := gens9) (d := dr9) (o := os9) ?tF_readN ?tN_readN ?_; (case tF_readN => k_asm); (case tN_readN => k_asm); k_whole; intro m9 h' F' N'; (try k_sweep))))
      k_with "call ref" => (k_here; (with_reducible show wpAny _ _ (call (Value.ref 119) [Value.ref _, Value.int _ _] _) _ _ _); k_dflt (refine' Mine.Internal.Ctr.useF (gs := gens9) (d := dr9) (o := os9) (Mine.Internal.CtrC.call (ctr_position0 ?p1_readN)) ?cB_readN ?cF_readN ?cX_readN ?cN_readN ?cT_readN ?ca_readN ?cb_readN ?cc_readN ?ce_readN ?cd_readN ?cu_readN ?ck_readN ?cne_readN ?_; (case cB_readN => k_asm); (case cF_readN => k_asm); (case cX_readN => k_asm); (case cT_readN => k_asm); (case cN_readN => k_asm); (case ca_readN => exact rfl); (case cb_readN => exact rfl); (case cc_readN => exact rfl); (case ce_readN => exact rfl); (case cd_readN => exact Nat.le_of_ble_eq_true rfl); (case cu_readN => exact Nat.le_of_ble_eq_true rfl); (case ck_readN => ((try (refine' Mine.Internal.Take.cons ?_ ?_)); repeat' (first | exact Mine.Internal.Take.nil | exact Mine.Internal.Del.head | refine' Mine.Internal.Take.cons ?_ ?_ | refine' Mine.Internal.Del.tail ?_))); (case cne_readN => first | exact List.forall_mem_nil _ | exact (fun _ _ => List.forall_mem_nil _) | exact Mine.Internal.Srt.neL (by with_reducible assumption) (by k_extra "pos") (by k_extra "pos") (by exact rfl) | ((simp only [List.forall_mem_cons, List.not_mem_nil, false_implies, implies_true, and_true, true_and]); (repeat' (refine And.intro ?_ ?_)); all_goals k_ne)); (case p1_readN => omega); (k_whole; intro v' fr' l' hp' hfr'; obtain ⟨q', ta', tb', e1', e2', e3'⟩ := hp'; subst e1'; subst e2'; subst e3'; (first | ((with_reducible rename Mine.Internal.Srt _ => S8); (have S9 := Mine.Internal.fresh_grow S8 hfr' (by k_dflt k_mem)); clear S8; clear hfr') | simp only [List.cons_append, List.nil_append, List.forall_mem_cons, List.not_mem_nil, false_implies, implies_true, and_true, true_and] at hfr'); intro h' n' hn' F' N'; (try dsimp only [List.cons_append, List.nil_append] at N'); (try k_sweep); (try dsimp only); (try k_fold))))
      k_with "call ref" => (k_here; (with_reducible show wpAny _ _ (call (Value.ref 70) [Value.ref _, Value.int _ _] _) _ _ _); k_dflt (refine' Mine.Internal.Ctr.useN (gs := gens9) (d := dr9) (o := os9) (Mine.Internal.CtrC.call (ctr_read ?p1_readN ?p2_readN ?p3_readN ?p4_readN ?p5_readN)) ?cB_readN ?cF_readN ?cX_readN ?cN_readN ?cT_readN ?ca_readN ?cb_readN ?cc_readN ?ce_readN ?cd_readN ?cu_readN ?ck_readN ?cne_readN ?_; (case cB_readN => k_asm); (case cF_readN => k_asm); (case cX_readN => k_asm); (case cT_readN => k_asm); (case cN_readN => k_asm); (case ca_readN => exact rfl); (case cb_readN => exact rfl); (case cc_readN => exact rfl); (case ce_readN => exact rfl); (case cd_readN => exact Nat.le_of_ble_eq_true rfl); (case cu_readN => exact Nat.le_of_ble_eq_true rfl); (case ck_readN => ((try (refine' Mine.Internal.Take.cons ?_ ?_)); repeat' (first | exact Mine.Internal.Take.nil | exact Mine.Internal.Del.head | refine' Mine.Internal.Take.cons ?_ ?_ | refine' Mine.Internal.Del.tail ?_))); (case cne_readN => first | exact List.forall_mem_nil _ | exact (fun _ _ => List.forall_mem_nil _) | exact Mine.Internal.Srt.neL (by with_reducible assumption) (by k_extra "pos") (by k_extra "pos") (by exact rfl) | ((simp only [List.forall_mem_cons, List.not_mem_nil, false_implies, implies_true, and_true, true_and]); (repeat' (refine And.intro ?_ ?_)); all_goals k_ne)); (case p1_readN => omega); (case p2_readN => omega); (case p3_readN => omega); (case p4_readN => omega); (case p5_readN => rfl); (k_whole; intro v' l' hp'; obtain ⟨x', tv', p', tp', hx', hxl', hq', e1', e2'⟩ := hp'; subst e1'; subst e2'; intro h' n' hn' F' N'; (try dsimp only [List.cons_append, List.nil_append] at N'); (try k_sweep); (try dsimp only); (try k_fold))))
      k_with "call ref" => (k_here; (with_reducible show wpAny _ _ (call (Value.ref _) [Value.str _ _] _) _ _ _); k_dflt (refine' Mine.Internal.Ctr.useN (gs := gens9) (d := dr9) (o := os9) (Mine.Internal.CtrC.boundN (ctr_charErrors ?p1_readN ?p2_readN ?p3_readN ?p4_readN) ?p5_readN) ?cB_readN ?cF_readN ?cX_readN ?cN_readN ?cT_readN ?ca_readN ?cb_readN ?cc_readN ?ce_readN ?cd_readN ?cu_readN ?ck_readN ?cne_readN ?_; (case cB_readN => k_asm); (case cF_readN => k_asm); (case cX_readN => k_asm); (case cT_readN => k_asm); (case cN_readN => k_asm); (case ca_readN => exact rfl); (case cb_readN => exact rfl); (case cc_readN => exact rfl); (case ce_readN => exact rfl); (case cd_readN => exact Nat.le_of_ble_eq_true rfl); (case cu_readN => exact Nat.le_of_ble_eq_true rfl); (case ck_readN => ((try (refine' Mine.Internal.Take.cons ?_ ?_)); repeat' (first | exact Mine.Internal.Take.nil | exact Mine.Internal.Del.head | refine' Mine.Internal.Take.cons ?_ ?_ | refine' Mine.Internal.Del.tail ?_))); (case cne_readN => first | exact List.forall_mem_nil _ | exact (fun _ _ => List.forall_mem_nil _) | exact Mine.Internal.Srt.neL (by with_reducible assumption) (by k_extra "pos") (by k_extra "pos") (by exact rfl) | ((simp only [List.forall_mem_cons, List.not_mem_nil, false_implies, implies_true, and_true, true_and]); (repeat' (refine And.intro ?_ ?_)); all_goals k_ne)); (case p1_readN => omega); (case p2_readN => omega); (case p3_readN => (refine Nat.le_trans (m := 10000) ?_ (by decide); repeat' (first | with_reducible assumption | with_reducible refine Mine.Internal.slice_len_le ?_ | (with_reducible refine Nat.le_trans (Mine.Internal.replace_len (by decide +kernel) (by decide +kernel)) ?_) | exact (by decide +kernel)))); (case p4_readN => omega); (case p5_readN => first | exact Mine.Internal.Srt.neB (by with_reducible assumption) (by k_extra "pos") (by k_extra "pos") (by exact rfl) | ((simp only [List.forall_mem_cons, List.not_mem_nil, false_implies, implies_true, and_true, true_and]; (repeat' (refine And.intro ?_ ?_)); all_goals k_ne))); (k_whole; intro v' l' hp'; obtain ⟨hp'⟩ := hp'; obtain ⟨e1', es', n', hl', e2'⟩ := hp'; subst e1'; subst e2'; intro h' n' hn' F' N'; (try dsimp only [List.cons_append, List.nil_append] at N'); (try k_sweep); (try dsimp only); (try k_fold))))
      k_fill
      refine' ctr_introN (binds := [("self", .ref st), ("chunkSize", .none)]) (fun h h' T k => T.keeps k) (fun h T => T.nolimit) ?ho_readN ?hcd_readN ?hD_readN ?hb_readN ?hl_readN ?_ ?hc_readN ?c1_readN ?c2_readN ?c3_readN
      case ho_readN => k_is
      case hcd_readN => k_is
      case hD_readN => decide
      case hb_readN => (intro s X; (try (rcases hargs with ⟨rfl, rfl, rfl⟩ | ⟨rfl, rfl⟩)); all_goals (first | exact BindsTo.of_eq rfl | exact binds_K X rfl (by k_is) rfl rfl rfl))
      case hl_readN => exact locs rfl
      case hc_readN => decide
      case c1_readN => exact rfl
      case c2_readN => exact rfl
      case c3_readN => exact rfl
      intro A base g env outer L' h₁ hs9 gens9 dr9 t09 os9 tk B' F' X' N' T' l1
      intro e9 A9 q9
      (try clear l1)
      (try dsimp only at N')
      first | have S0 := Mine.Internal.Srt.eight ho hk hat | have S0 := Mine.Internal.Srt.grow (Mine.Internal.Srt.six ho) hoq | have S0 := Mine.Internal.Srt.five ho hk | have S0 := Mine.Internal.Srt.six ho | have S0 := Mine.Internal.Srt.two ho | have S0 := Mine.Internal.Srt.two hk | skip

      k_steps
      all_goals (try dsimp only)
      all_goals (refine' cend (l := [(st, _), (sd, _), (ds, _), (dd, _), (rce, _), (er, _)]) (by assumption) (by assumption) (Mine.Internal.Take.sub (by ((try dsimp only); repeat' (first | exact Mine.Internal.Take.nil | exact Mine.Internal.Del.head | refine' Mine.Internal.Take.blk ?_ | exact Mine.Internal.Tl.nil | exact Mine.Internal.Tl.app | refine' Mine.Internal.Take.cons ?_ ?_ | refine' Mine.Internal.Del.tail ?_ | refine' Mine.Internal.Tl.cons ?_)))) ?_)
      rotate_left 3
      · have hq9 := Mine.Internal.rd_none h0 hs hsu hes (by with_reducible assumption) (by with_reducible assumption) (by omega) rfl rfl rfl
        (refine' Mine.Internal.RPost.mk ⟨_, _, _, _, _, _, _, _, _, _, _, [], _, _, _, _⟩ false ?rp1a1_readN ?rp1a2_readN ?rp1a3_readN ?rp1a4_readN ?rp1a5_readN ?rp1a6_readN ?rp1a7_readN; (case rp1a1_readN => exact ((hq9 ..).1 (Mine.Internal.hist_step okhist oksize))); (case rp1a2_readN => exact rfl); (case rp1a3_readN => exact ((hq9 0 0 0 0 0 0 0 0 0).2.1.trans (hq9 0 0 0 0 0 0 0 0 0).2.2.symm)); (case rp1a4_readN => exact (fun h => nomatch h)); (case rp1a5_readN => exact (fun _ => (hq9 0 0 0 0 0 0 0 0 0).2.1)); (case rp1a6_readN => exact rfl); (case rp1a7_readN => exact rfl))
      · have e9 := Mine.Internal.c13 (by with_reducible assumption) (by with_reducible assumption) (by with_reducible assumption)
        subst e9
        have hy9 := Mine.Internal.last_cut (j := -1) rfl (by with_reducible assumption)
        have hq9 := fun tb => Mine.Internal.rd_fin0 (pend' := [13]) (buf' := .str ⟨#[13]⟩ tb) h0 hs hsu hes (by with_reducible assumption) (by with_reducible assumption) (by with_reducible assumption) hy9 (.inr ⟨_, rfl, rfl⟩) (by with_reducible assumption) (Mine.Internal.cut_len hy9 (by omega))
        (refine' Mine.Internal.RPost.mk ⟨_, _, _, _, _, _, _, _, _, _, _, [13], _, _, _, _⟩ true ?rp2a1_readN ?rp2a2_readN ?rp2a3_readN ?rp2a4_readN ?rp2a5_readN ?rp2a6_readN ?rp2a7_readN; (case rp2a1_readN => exact ((hq9 ..).1 (Mine.Internal.hist_step okhist oksize))); (case rp2a2_readN => exact rfl); (case rp2a3_readN => exact (hq9 0 0 0 0 0 0 0 0 0 0).2.1); (case rp2a4_readN => exact (fun _ => (hq9 0 0 0 0 0 0 0 0 0 0).2.2)); (case rp2a5_readN => exact (fun h => nomatch h)); (case rp2a6_readN => exact rfl); (case rp2a7_readN => exact rfl))
      all_goals (have hq9 := Mine.Internal.rd_fin0 (pend' := []) (buf' := .none) h0 hs hsu hes (by with_reducible assumption) (by with_reducible assumption) (by with_reducible assumption) (List.append_nil _).symm (.inl ⟨rfl, rfl⟩) (by with_reducible assumption) (by omega); (refine' Mine.Internal.RPost.mk ⟨_, _, _, _, _, _, _, _, _, _, _, [], _, _, _, _⟩ true ?rp3a1_readN ?rp3a2_readN ?rp3a3_readN ?rp3a4_readN ?rp3a5_readN ?rp3a6_readN ?rp3a7_readN; (case rp3a1_readN => exact ((hq9 ..).1 (Mine.Internal.hist_step okhist oksize))); (case rp3a2_readN => exact rfl); (case rp3a3_readN => exact (hq9 0 0 0 0 0 0 0 0 0).2.1); (case rp3a4_readN => exact (fun _ => (hq9 0 0 0 0 0 0 0 0 0).2.2)); (case rp3a5_readN => exact (fun h => nomatch h))); (case rp3a6_readN => exact rfl); (case rp3a7_readN => exact rfl))
  have ctr_readC {w : World} {loose : List Str} {mean : ExcName → Option Value} {mg mb : Str → Option Value} {st sd : Addr} {k0 k1 k2 k3 k4 k5 k6 k7 k8 k9 : Tok} {rce nl ds er dd : Addr} {j0 j1 : Tok} {src : Str} {tsr : Tok} {x : St} {tb : Tok} (ho : @LT.lt Nat _ sd st ∧ @LT.lt Nat _ st rce ∧ @LT.lt Nat _ rce dd ∧ @LT.lt Nat _ dd ds ∧ @LT.lt Nat _ ds er) (ok : x.ok src) (hb : x.buf = .str ⟨#[13]⟩ tb) :
      CtrC PySem.Challenge.rw_te0076_05.row.prog w (main.heap_1_39 w.params) (Top main.view_1_40 loose mean mg mb) 470 700 (.ref 141) ⟨[.ref st], []⟩ [(st, instObj 166 sd), (sd, dictOf (sdict w.params k0 k1 k2 k3 k4 k5 k6 k7 k8 k9 rce nl ds x.chunk x.tc x.size x.ts x.off x.to er x.pl x.tl x.pc x.tp x.buf) 10), (ds, instObj 73 dd), (dd, dictOf (tdict w.params j0 j1 src tsr x.place x.tpl) 2), (rce, methodObj (.ref 148) (.ref st)), (er, W.listOf x.es.toArray x.n)] (noF (RPost w st sd k0 k1 k2 k3 k4 k5 k6 k7 k8 k9 rce nl ds er dd j0 j1 src tsr x)) := by
    as_aux_lemma =>
      clear ctr_is_invalid ctr_read ctr_unget ctr_ungetN ctr_ungetS ctr_readN
      obtain ⟨chunk, tc, size, ts, off, to, pl, tl, pc, tp, buf, pend, place, tpl, es, n⟩ := x
      obtain ⟨oksize, okoff0, okoff1, oklen, h0, h1, hs, okbuf, hes, hsu, okpend, okhist⟩ := ok
      dsimp only at *
      have hpend : pend = [13] := by rcases okbuf with h | ⟨t, h, h'⟩; (rw [hb] at h; cases h.1); exact h'
      subst hb; subst hpend
      have hpl := okpend (by simp)
      k_with_none
      k_with "pos" => (repeat' (first | exact Mine.Internal.PosL.nil | (apply Mine.Internal.PosL.cons 0; exact rfl) | (apply Mine.Internal.PosL.cons 1; exact rfl) | (apply Mine.Internal.PosL.cons 2; exact rfl) | (apply Mine.Internal.PosL.cons 3; exact rfl) | (apply Mine.Internal.PosL.cons 4; exact rfl) | (apply Mine.Internal.PosL.cons 5; exact rfl) | (apply Mine.Internal.PosL.cons 6; exact rfl) | (apply Mine.Internal.PosL.cons 7; exact rfl) | (apply Mine.Internal.PosL.cons 8; exact rfl) | (apply Mine.Internal.PosL.cons 9; exact rfl) | (apply Mine.Internal.PosL.cons 10; exact rfl) | (apply Mine.Internal.PosL.cons 11; exact rfl) | (apply Mine.Internal.PosL.cons 12; exact rfl) | (apply Mine.Internal.PosL.cons 13; exact rfl) | (apply Mine.Internal.PosL.cons 14; exact rfl) | (apply Mine.Internal.PosL.cons 15; exact rfl) | (apply Mine.Internal.PosL.cons 16; exact rfl) | (apply Mine.Internal.PosL.cons 17; exact rfl) | (apply Mine.Internal.PosL.cons 18; exact rfl) | (apply Mine.Internal.PosL.cons 19; exact rfl) | (apply Mine.Internal.PosL.cons 20; exact rfl) | (apply Mine.Internal.PosL.cons 21; exact rfl) | (apply Mine.Internal.PosL.cons 22; exact rfl) | (apply Mine.Internal.PosL.cons 23; exact rfl)))
      k_with "slt" => exact Mine.Internal.Srt.lt (by with_reducible assumption) (by ((repeat (first | (with_reducible_and_instances refine Mine.Internal.Aft.here ?_; (repeat (first | with_reducible_and_instances exact List.Mem.head _ | with_reducible_and_instances refine List.Mem.tail _ ?_)); done) | with_reducible refine Mine.Internal.Aft.there ?_)); all_goals fail))
      k_with "upd" => (exact Mine.Internal.Srt.updP (by with_reducible assumption) (by repeat' (first | exact Mine.Internal.UpdI.head | refine' Mine.Internal.UpdI.tail ?_)) (by k_dflt (k_extra "pos")) (by exact rfl))
      k_with "all" => exact Mine.Internal.Ks.ne_all (by with_reducible assumption) (by first | exact .inr (by k_extra "slt") | exact .inl (by k_extra "slt"))
      k_with "ne" => (refine neN ?_; first | exact Mine.Internal.Srt.ne (by with_reducible assumption) (by with_reducible solve_by_elim (maxDepth := 40) only [Mine.Internal.Apart.l, Mine.Internal.Apart.r, Mine.Internal.Apart.t, List.Mem.head, List.Mem.tail]) | ((try dsimp only); omega))
      k_with "lt" => (intro h9l; first | ((with_reducible rename Mine.Internal.Srt _ => S8); (first | (have S9 := Mine.Internal.Srt.grow S8 (h9l (_, _) (by k_dflt k_mem)); clear S8) | (have S9 := Mine.Internal.Srt.grow S8.tl (h9l (_, _) (by k_dflt k_mem)); clear S8) | (have S9 := Mine.Internal.Srt.grow S8.tl.tl (h9l (_, _) (by k_dflt k_mem)); clear S8)); clear h9l) | (replace h9l := allLt_of h9l; simp only [AllLt, and_true] at h9l))
      k_with "getMethod ref" => (k_here; k_dflt (first | (refine' method_inst ?k1_readC ?k2_readC ?k3_readC ?k4_readC ?k5_readC ?k6_readC ?k7_readC ?_; (case k1_readC => k_asm); (case k2_readC => k_asm); (case k3_readC => k_inst); (case k4_readC => k_is); (case k5_readC => k_is); (case k6_readC => k_is); (case k7_readC => k_get); k_whole) | (refine' kmu_own ?k1_readC ?k2_readC ?k3_readC ?k4_readC ?k5_readC ?_; (case k1_readC => k_asm); (case k2_readC => k_asm); (case k3_readC => k_inst); (case k4_readC => k_is); (case k5_readC => k_is); k_whole)))
      k_with "getMethod ref" => (k_here; (with_reducible show wpAny _ _ (getMethod (Value.ref _) (PySem.Str.ofString "append") _) _ _ _); k_dflt (refine' kl_method ?N_readC ?m_readC slot_list_append type_list_append ?_; (case N_readC => k_asm); (case m_readC => k_mem); k_whole))
      k_with "call builtin:str.replace" => (k_here; (with_reducible show wpAny _ _ (call (Value.builtin "str.replace") [Value.str _ _, Value.str _ _, Value.str _ _]) _ _ _); (refine Mine.Internal.replaceM (by (try dsimp only); omega) (by (try dsimp only); omega) (by (try dsimp only); omega) (by decide +kernel) (by (refine Nat.le_trans (m := 10000) ?_ (by decide); repeat' (first | with_reducible assumption | with_reducible refine Mine.Internal.slice_len_le ?_ | (with_reducible refine Nat.le_trans (Mine.Internal.replace_len (by decide +kernel) (by decide +kernel)) ?_) | exact (by decide +kernel)))) (by decide +kernel) ?_); intro t9 kq9 hk9; (try dsimp only at hk9))
      k_with "execs cons" => (k_here; (with_reducible show wpAny _ _ _ _ _ (Shared.mk _ _ _ (_ + _) _)); (refine Mine.Internal.gentoks ?_); intro tkg9 htk9; (try dsimp only at htk9))
      k_with "call builtin:len" => (k_here; (with_reducible show wpAny _ _ (call (Value.builtin "len") [Value.str _ _]) _ _ _); (refine SBL.len (by first | omega | exact Mine.Internal.fit63 (by (refine Nat.le_trans (m := 10000) ?_ (by decide); repeat' (first | with_reducible assumption | with_reducible refine Mine.Internal.slice_len_le ?_ | (with_reducible refine Nat.le_trans (Mine.Internal.replace_len (by decide +kernel) (by decide +kernel)) ?_) | exact (by decide +kernel))))) ?_))
      k_with "truthy ref" => (k_here; k_dflt (refine' Mine.Internal.truthy_meth ?k1_readC ?k2_readC ?_; (case k1_readC => k_asm); (case k2_readC => k_mem); k_whole))
      k_with "size" => k_dflt (first | exact Nat.le_of_ble_eq_true rfl | ((with_reducible show Array.size (List.toArray _) ≤ PySem.sizeLine); rw [List.size_toArray, PySem.sizeLine_eq]; refine Nat.le_trans (m := 100002) ?_ (Nat.le_of_ble_eq_true rfl); first | with_reducible assumption | exact Nat.le_trans (m := 100000) (by with_reducible assumption) (Nat.le_of_ble_eq_true rfl)))
      k_with "subscriptTail Name Constant ref int" => k_extra "subscriptTail"
      k_with "tok" => (first | exact Nat.le_add_left 1 _ | with_reducible assumption | exact Nat.le_trans (Nat.le_add_left 1 _) (by with_reducible assumption))
      k_with "next" => (first | ((with_reducible refine Mine.Internal.nextS (g := gens9) (d := dr9) (o := os9) ?_); intro qk9 tkg9) | ((with_reducible refine Mine.Internal.lastS (g := gens9) (d := dr9) (o := os9) ?_); intro tkg9) | (with_reducible refine Mine.Internal.nilS ?_) | (with_reducible refine Mine.Internal.fin9 ?_) | (with_reducible refine Mine.Internal.fin0 ?_) | (with_reducible refine Mine.Internal.finS9 ?_) | (with_reducible refine Mine.Internal.finS0 ?_) | ((with_reducible refine Mine.Internal.nextU (g := gens9) (d := dr9) (o := os9) ?_ ?_); (k_extra "tok"); intro qk9 tkg9) | ((with_reducible refine Mine.Internal.lastU (g := gens9) (d := dr9) (o := os9) ?_ ?_); (k_extra "tok"); intro tkg9) | ((with_reducible refine Mine.Internal.nextZ (g := gens9) (d := dr9) (o := os9) ?_); intro qk9 tkg9) | ((with_reducible refine Mine.Internal.lastZ (g := gens9) (d := dr9) (o := os9) ?_); intro tkg9))
      k_with "execs cons" => k_extra "next"
      k_with "execs nil" => (with_reducible refine Mine.Internal.nilS ?_)
      k_with "eval Constant int" => (with_reducible refine Mine.Internal.c_int (g := gens9) (d := dr9) (o := os9) ?_)
      k_with "eval Constant str" => (with_reducible refine Mine.Internal.c_str (g := gens9) (d := dr9) (o := os9) ?_)
      k_with "call builtin:str.replace" => (k_here; (with_reducible show wpAny _ _ (call (Value.builtin "str.replace") [Value.str _ _, Value.str _ _, Value.str _ _]) _ _ _); (refine Mine.Internal.c_replace (gs := gens9) (d := dr9) (o := os9) (by first | exact Nat.ne_of_lt (Nat.lt_succ_self _) | omega) (by decide +kernel) (by (refine Nat.le_trans (m := 10000) ?_ (by decide); repeat' (first | with_reducible assumption | with_reducible refine Mine.Internal.slice_len_le ?_ | (with_reducible refine Nat.le_trans (Mine.Internal.replace_len (by decide +kernel) (by decide +kernel)) ?_) | exact (by decide +kernel)))) (by decide +kernel) ?_); intro t9 kq9)
      k_with "eval Attribute Name" => (k_here; k_dflt (refine' Mine.Internal.at_name (gs := gens9) (d := dr9) (o := os9) ?nF_readC ?nX_readC ?nN_readC ?nv_readC ?n1_readC ?n2_readC ?ng_readC ?nh_readC ?na_readC ?nn_readC ?nl_readC ?nd_readC ?_; (case nF_readC => k_asm); (case nX_readC => k_asm); (case nN_readC => k_asm); (case nv_readC => exact rfl); (case n1_readC => k_mem); (case n2_readC => k_mem); (case ng_readC => k_is); (case nh_readC => k_is); (case na_readC => k_is); (case nn_readC => k_is); (case nl_readC => k_get); (case nd_readC => k_handed); k_whole))
      k_with "setAttr ref" => (first | (k_here; ktx_write) | (k_here; k_dflt (refine' Mine.Internal.st_attr (gs := gens9) (d := dr9) (o := os9) ?sF_readC ?sX_readC ?sN_readC ?s1_readC ?s2_readC ?ss_readC ?sp_readC ?st_readC ?sh_readC ?sl_readC ?se_readC ?sU_readC ?sz_readC ?_; (case sF_readC => k_asm); (case sX_readC => k_asm); (case sN_readC => k_asm); (case s1_readC => k_mem); (case s2_readC => k_mem); (case ss_readC => k_is); (case sp_readC => k_is); (case st_readC => k_is); (case sh_readC => k_is); (case sl_readC => k_get); (case se_readC => k_put); (case sU_readC => k_upd); (case sz_readC => exact Nat.le_of_ble_eq_true rfl); k_whole; intro h' F' N'; (try k_sweep))))
      k_with "storeName" => (first | (k_here; ktx_write) | (k_here; k_dflt (refine' Mine.Internal.st_name (gs := gens9) (d := dr9) (o := os9) ?tF_readC ?tN_readC ?_; (case tF_readC => k_asm); (case tN_readC => k_asm); k_whole; intro m9 h' F' N'; (try k_sweep))))
      k_with "call ref" => (k_here; (with_reducible show wpAny _ _ (call (Value.ref 119) [Value.ref _, Value.int _ _] _) _ _ _); k_dflt (refine' Mine.Internal.Ctr.useF (gs := gens9) (d := dr9) (o := os9) (Mine.Internal.CtrC.call (ctr_position0 ?p1_readC)) ?cB_readC ?cF_readC ?cX_readC ?cN_readC ?cT_readC ?ca_readC ?cb_readC ?cc_readC ?ce_readC ?cd_readC ?cu_readC ?ck_readC ?cne_readC ?_; (case cB_readC => k_asm); (case cF_readC => k_asm); (case cX_readC => k_asm); (case cT_readC => k_asm); (case cN_readC => k_asm); (case ca_readC => exact rfl); (case cb_readC => exact rfl); (case cc_readC => exact rfl); (case ce_readC => exact rfl); (case cd_readC => exact Nat.le_of_ble_eq_true rfl); (case cu_readC => exact Nat.le_of_ble_eq_true rfl); (case ck_readC => ((try (refine' Mine.Internal.Take.cons ?_ ?_)); repeat' (first | exact Mine.Internal.Take.nil | exact Mine.Internal.Del.head | refine' Mine.Internal.Take.cons ?_ ?_ | refine' Mine.Internal.Del.tail ?_))); (case cne_readC => first | exact List.forall_mem_nil _ | exact (fun _ _ => List.forall_mem_nil _) | exact Mine.Internal.Srt.neL (by with_reducible assumption) (by k_extra "pos") (by k_extra "pos") (by exact rfl) | ((simp only [List.forall_mem_cons, List.not_mem_nil, false_implies, implies_true, and_true, true_and]); (repeat' (refine And.intro ?_ ?_)); all_goals k_ne)); (case p1_readC => omega); (k_whole; intro v' fr' l' hp' hfr'; obtain ⟨q', ta', tb', e1', e2', e3'⟩ := hp'; subst e1'; subst e2'; subst e3'; (first | ((with_reducible rename Mine.Internal.Srt _ => S8); (have S9 := Mine.Internal.fresh_grow S8 hfr' (by k_dflt k_mem)); clear S8; clear hfr') | simp only [List.cons_append, List.nil_append, List.forall_mem_cons, List.not_mem_nil, false_implies, implies_true, and_true, true_and] at hfr'); intro h' n' hn' F' N'; (try dsimp only [List.cons_append, List.nil_append] at N'); (try k_sweep); (try dsimp only); (try k_fold))))
      k_with "call ref" => (k_here; (with_reducible show wpAny _ _ (call (Value.ref 70) [Value.ref _, Value.int _ _] _) _ _ _); k_dflt (refine' Mine.Internal.Ctr.useN (gs := gens9) (d := dr9) (o := os9) (Mine.Internal.CtrC.call (ctr_readE ?p1_readC ?p2_readC ?p3_readC ?p4_readC)) ?cB_readC ?cF_readC ?cX_readC ?cN_readC ?cT_readC ?ca_readC ?cb_readC ?cc_readC ?ce_readC ?cd_readC ?cu_readC ?ck_readC ?cne_readC ?_; (case cB_readC => k_asm); (case cF_readC => k_asm); (case cX_readC => k_asm); (case cT_readC => k_asm); (case cN_readC => k_asm); (case ca_readC => exact rfl); (case cb_readC => exact rfl); (case cc_readC => exact rfl); (case ce_readC => exact rfl); (case cd_readC => exact Nat.le_of_ble_eq_true rfl); (case cu_readC => exact Nat.le_of_ble_eq_true rfl); (case ck_readC => ((try (refine' Mine.Internal.Take.cons ?_ ?_)); repeat' (first | exact Mine.Internal.Take.nil | exact Mine.Internal.Del.head | refine' Mine.Internal.Take.cons ?_ ?_ | refine' Mine.Internal.Del.tail ?_))); (case cne_readC => first | exact List.forall_mem_nil _ | exact (fun _ _ => List.forall_mem_nil _) | exact Mine.Internal.Srt.neL (by with_reducible assumption) (by k_extra "pos") (by k_extra "pos") (by exact rfl) | ((simp only [List.forall_mem_cons, List.not_mem_nil, false_implies, implies_true, and_true, true_and]); (repeat' (refine And.intro ?_ ?_)); all_goals k_ne)); (case p1_readC => omega); (case p2_readC => omega); (case p3_readC => omega); (case p4_readC => rfl); (k_whole; intro v' l' hp'; obtain ⟨tv', p', tp', hq', e1', e2'⟩ := hp'; subst e1'; subst e2'; intro h' n' hn' F' N'; (try dsimp only [List.cons_append, List.nil_append] at N'); (try k_sweep); (try dsimp only); (try k_fold))))
      k_with "call ref" => (k_here; (with_reducible show wpAny _ _ (call (Value.ref _) [Value.str _ _] _) _ _ _); k_dflt (refine' Mine.Internal.Ctr.useN (gs := gens9) (d := dr9) (o := os9) (Mine.Internal.CtrC.boundN (ctr_charErrors ?p1_readC ?p2_readC ?p3_readC ?p4_readC) ?p5_readC) ?cB_readC ?cF_readC ?cX_readC ?cN_readC ?cT_readC ?ca_readC ?cb_readC ?cc_readC ?ce_readC ?cd_readC ?cu_readC ?ck_readC ?cne_readC ?_; (case cB_readC => k_asm); (case cF_readC => k_asm); (case cX_readC => k_asm); (case cT_readC => k_asm); (case cN_readC => k_asm); (case ca_readC => exact rfl); (case cb_readC => exact rfl); (case cc_readC => exact rfl); (case ce_readC => exact rfl); (case cd_readC => exact Nat.le_of_ble_eq_true rfl); (case cu_readC => exact Nat.le_of_ble_eq_true rfl); (case ck_readC => ((try (refine' Mine.Internal.Take.cons ?_ ?_)); repeat' (first | exact Mine.Internal.Take.nil | exact Mine.Internal.Del.head | refine' Mine.Internal.Take.cons ?_ ?_ | refine' Mine.Internal.Del.tail ?_))); (case cne_readC => first | exact List.forall_mem_nil _ | exact (fun _ _ => List.forall_mem_nil _) | exact Mine.Internal.Srt.neL (by with_reducible assumption) (by k_extra "pos") (by k_extra "pos") (by exact rfl) | ((simp only [List.forall_mem_cons, List.not_mem_nil, false_implies, implies_true, and_true, true_and]); (repeat' (refine And.intro ?_ ?_)); all_goals k_ne)); (case p1_readC => omega); (case p2_readC => omega); (case p3_readC => (refine Nat.le_trans (m := 10000) ?_ (by decide); repeat' (first | with_reducible assumption | with_reducible refine Mine.Internal.slice_len_le ?_ | (with_reducible refine Nat.le_trans (Mine.Internal.replace_len (by decide +kernel) (by decide +kernel)) ?_) | exact (by decide +kernel)))); (case p4_readC => omega); (case p5_readC => first | exact Mine.Internal.Srt.neB (by with_reducible assumption) (by k_extra "pos") (by k_extra "pos") (by exact rfl) | ((simp only [List.forall_mem_cons, List.not_mem_nil, false_implies, implies_true, and_true, true_and]; (repeat' (refine And.intro ?_ ?_)); all_goals k_ne))); (k_whole; intro v' l' hp'; obtain ⟨hp'⟩ := hp'; obtain ⟨e1', es', n', hl', e2'⟩ := hp'; subst e1'; subst e2'; intro h' n' hn' F' N'; (try dsimp only [List.cons_append, List.nil_append] at N'); (try k_sweep); (try dsimp only); (try k_fold))))
      k_fill
      refine' ctr_introN (binds := [("self", .ref st), ("chunkSize", .none)]) (fun h h' T k => T.keeps k) (fun h T => T.nolimit) ?ho_readC ?hcd_readC ?hD_readC ?hb_readC ?hl_readC ?_ ?hc_readC ?c1_readC ?c2_readC ?c3_readC
      case ho_readC => k_is
      case hcd_readC => k_is
      case hD_readC => decide
      case hb_readC => (intro s X; (try (rcases hargs with ⟨rfl, rfl, rfl⟩ | ⟨rfl, rfl⟩)); all_goals (first | exact BindsTo.of_eq rfl | exact binds_K X rfl (by k_is) rfl rfl rfl))
      case hl_readC => exact locs rfl
      case hc_readC => decide
      case c1_readC => exact rfl
      case c2_readC => exact rfl
      case c3_readC => exact rfl
      intro A base g env outer L' h₁ hs9 gens9 dr9 t09 os9 tk B' F' X' N' T' l1
      intro e9 A9 q9
      (try clear l1)
      (try dsimp only at N')
      first | have S0 := Mine.Internal.Srt.eight ho hk hat | have S0 := Mine.Internal.Srt.grow (Mine.Internal.Srt.six ho) hoq | have S0 := Mine.Internal.Srt.five ho hk | have S0 := Mine.Internal.Srt.six ho | have S0 := Mine.Internal.Srt.two ho | have S0 := Mine.Internal.Srt.two hk | skip

      k_steps
      all_goals (try dsimp only)
      all_goals (refine' cend (l := [(st, _), (sd, _), (ds, _), (dd, _), (rce, _), (er, _)]) (by assumption) (by assumption) (Mine.Internal.Take.sub (by ((try dsimp only); repeat' (first | exact Mine.Internal.Take.nil | exact Mine.Internal.Del.head | refine' Mine.Internal.Take.blk ?_ | exact Mine.Internal.Tl.nil | exact Mine.Internal.Tl.app | refine' Mine.Internal.Take.cons ?_ ?_ | refine' Mine.Internal.Del.tail ?_ | refine' Mine.Internal.Tl.cons ?_)))) ?_)
      have hq9 := Mine.Internal.rd_cr h0 hs hsu hes hpl (by with_reducible assumption) (by first | with_reducible assumption | exact hl')
      (refine' Mine.Internal.RPost.mk ⟨_, _, _, _, _, _, _, _, _, _, _, [], _, _, _, _⟩ true ?rp1a1_readC ?rp1a2_readC ?rp1a3_readC ?rp1a4_readC ?rp1a5_readC ?rp1a6_readC ?rp1a7_readC; (case rp1a1_readC => exact ((hq9 ..).1 (Mine.Internal.hist_step okhist oksize))); (case rp1a2_readC => exact rfl); (case rp1a3_readC => exact (hq9 0 0 0 0 0 0 0 0 0).2.1); (case rp1a4_readC => exact (fun _ => (hq9 0 0 0 0 0 0 0 0 0).2.2)); (case rp1a5_readC => exact (fun h => nomatch h)); (case rp1a6_readC => exact rfl); (case rp1a7_readC => exact rfl))
  have ctr_readA {w : World} {loose : List Str} {mean : ExcName → Option Value} {mg mb : Str → Option Value} {st sd : Addr} {k0 k1 k2 k3 k4 k5 k6 k7 k8 k9 : Tok} {rce nl ds er dd : Addr} {j0 j1 : Tok} {src : Str} {tsr : Tok} {x : St} (ho : @LT.lt Nat _ sd st ∧ @LT.lt Nat _ st rce ∧ @LT.lt Nat _ rce dd ∧ @LT.lt Nat _ dd ds ∧ @LT.lt Nat _ ds er) (ok : x.ok src) :
      CtrC PySem.Challenge.rw_te0076_05.row.prog w (main.heap_1_39 w.params) (Top main.view_1_40 loose mean mg mb) 470 700 (.ref 141) ⟨[.ref st], []⟩ [(st, instObj 166 sd), (sd, dictOf (sdict w.params k0 k1 k2 k3 k4 k5 k6 k7 k8 k9 rce nl ds x.chunk x.tc x.size x.ts x.off x.to er x.pl x.tl x.pc x.tp x.buf) 10), (ds, instObj 73 dd), (dd, dictOf (tdict w.params j0 j1 src tsr x.place x.tpl) 2), (rce, methodObj (.ref 148) (.ref st)), (er, W.listOf x.es.toArray x.n)] (noF (RPost w st sd k0 k1 k2 k3 k4 k5 k6 k7 k8 k9 rce nl ds er dd j0 j1 src tsr x)) := by
    as_aux_lemma =>
      clear ctr_is_invalid ctr_charErrors ctr_read ctr_readE ctr_position0 ctr_unget ctr_ungetN ctr_ungetS
      rcases ok.bufis with ⟨h, _⟩ | ⟨t, h, _⟩
      · exact ctr_readN ho ok h
      · exact ctr_readC ho ok h
  have ctr_char {w : World} {loose : List Str} {mean : ExcName → Option Value} {mg mb : Str → Option Value} {st sd : Addr} {k0 k1 k2 k3 k4 k5 k6 k7 k8 k9 : Tok} {rce nl ds er dd : Addr} {j0 j1 : Tok} {src : Str} {tsr : Tok} {x : St} (ho : @LT.lt Nat _ sd st ∧ @LT.lt Nat _ st rce ∧ @LT.lt Nat _ rce dd ∧ @LT.lt Nat _ dd ds ∧ @LT.lt Nat _ ds er) (ok : x.ok src) :
      CtrC PySem.Challenge.rw_te0076_05.row.prog w (main.heap_1_39 w.params) (Top main.view_1_40 loose mean mg mb) 460 600 (.ref 133) ⟨[.ref st], []⟩ [(st, instObj 166 sd), (sd, dictOf (sdict w.params k0 k1 k2 k3 k4 k5 k6 k7 k8 k9 rce nl ds x.chunk x.tc x.size x.ts x.off x.to er x.pl x.tl x.pc x.tp x.buf) 10), (ds, instObj 73 dd), (dd, dictOf (tdict w.params j0 j1 src tsr x.place x.tpl) 2), (rce, methodObj (.ref 148) (.ref st)), (er, W.listOf x.es.toArray x.n)] (noF fun v l => ∃ (x' : St), x'.ok src ∧ CvIs src x' v (x.rem src) ∧ l = [(st, instObj 166 sd), (sd, dictOf (sdict w.params k0 k1 k2 k3 k4 k5 k6 k7 k8 k9 rce nl ds x'.chunk x'.tc x'.size x'.ts x'.off x'.to er x'.pl x'.tl x'.pc x'.tp x'.buf) 10), (ds, instObj 73 dd), (dd, dictOf (tdict w.params j0 j1 src tsr x'.place x'.tpl) 2), (rce, methodObj (.ref 148) (.ref st)), (er, W.listOf x'.es.toArray x'.n)]) := by
    as_aux_lemma =>
      clear ctr_is_invalid ctr_charErrors ctr_read ctr_readE ctr_position0 ctr_unget ctr_ungetN ctr_ungetS ctr_readN ctr_readC
      k_with_none
      k_with "pos" => (repeat' (first | exact Mine.Internal.PosL.nil | (apply Mine.Internal.PosL.cons 0; exact rfl) | (apply Mine.Internal.PosL.cons 1; exact rfl) | (apply Mine.Internal.PosL.cons 2; exact rfl) | (apply Mine.Internal.PosL.cons 3; exact rfl) | (apply Mine.Internal.PosL.cons 4; exact rfl) | (apply Mine.Internal.PosL.cons 5; exact rfl) | (apply Mine.Internal.PosL.cons 6; exact rfl) | (apply Mine.Internal.PosL.cons 7; exact rfl) | (apply Mine.Internal.PosL.cons 8; exact rfl) | (apply Mine.Internal.PosL.cons 9; exact rfl) | (apply Mine.Internal.PosL.cons 10; exact rfl) | (apply Mine.Internal.PosL.cons 11; exact rfl) | (apply Mine.Internal.PosL.cons 12; exact rfl) | (apply Mine.Internal.PosL.cons 13; exact rfl) | (apply Mine.Internal.PosL.cons 14; exact rfl) | (apply Mine.Internal.PosL.cons 15; exact rfl) | (apply Mine.Internal.PosL.cons 16; exact rfl) | (apply Mine.Internal.PosL.cons 17; exact rfl) | (apply Mine.Internal.PosL.cons 18; exact rfl) | (apply Mine.Internal.PosL.cons 19; exact rfl) | (apply Mine.Internal.PosL.cons 20; exact rfl) | (apply Mine.Internal.PosL.cons 21; exact rfl) | (apply Mine.Internal.PosL.cons 22; exact rfl) | (apply Mine.Internal.PosL.cons 23; exact rfl)))
      k_with "slt" => exact Mine.Internal.Srt.lt (by with_reducible assumption) (by ((repeat (first | (with_reducible_and_instances refine Mine.Internal.Aft.here ?_; (repeat (first | with_reducible_and_instances exact List.Mem.head _ | with_reducible_and_instances refine List.Mem.tail _ ?_)); done) | with_reducible refine Mine.Internal.Aft.there ?_)); all_goals fail))
      k_with "upd" => (exact Mine.Internal.Srt.updP (by with_reducible assumption) (by repeat' (first | exact Mine.Internal.UpdI.head | refine' Mine.Internal.UpdI.tail ?_)) (by k_dflt (k_extra "pos")) (by exact rfl))
      k_with "all" => exact Mine.Internal.Ks.ne_all (by with_reducible assumption) (by first | exact .inr (by k_extra "slt") | exact .inl (by k_extra "slt"))
      k_with "ne" => (refine neN ?_; first | exact Mine.Internal.Srt.ne (by with_reducible assumption) (by with_reducible solve_by_elim (maxDepth := 40) only [Mine.Internal.Apart.l, Mine.Internal.Apart.r, Mine.Internal.Apart.t, List.Mem.head, List.Mem.tail]) | ((try dsimp only); omega))
      k_with "lt" => (intro h9l; first | ((with_reducible rename Mine.Internal.Srt _ => S8); (first | (have S9 := Mine.Internal.Srt.grow S8 (h9l (_, _) (by k_dflt k_mem)); clear S8) | (have S9 := Mine.Internal.Srt.grow S8.tl (h9l (_, _) (by k_dflt k_mem)); clear S8) | (have S9 := Mine.Internal.Srt.grow S8.tl.tl (h9l (_, _) (by k_dflt k_mem)); clear S8)); clear h9l) | (replace h9l := allLt_of h9l; simp only [AllLt, and_true] at h9l))
      k_with "subscriptTail" => (k_here; (with_reducible show wpAny _ _ (subscriptTail _ _ (Value.str _ _) (Value.int _ _)) _ _ _); (refine Mine.Internal.sub_chr (by omega) (by omega) (by assumption) ?_))
      k_with "getMethod ref" => (k_here; k_dflt (first | (refine' method_inst ?k1_char ?k2_char ?k3_char ?k4_char ?k5_char ?k6_char ?k7_char ?_; (case k1_char => k_asm); (case k2_char => k_asm); (case k3_char => k_inst); (case k4_char => k_is); (case k5_char => k_is); (case k6_char => k_is); (case k7_char => k_get); k_whole) | (refine' kmu_own ?k1_char ?k2_char ?k3_char ?k4_char ?k5_char ?_; (case k1_char => k_asm); (case k2_char => k_asm); (case k3_char => k_inst); (case k4_char => k_is); (case k5_char => k_is); k_whole)))
      k_with "getMethod ref" => (k_here; (with_reducible show wpAny _ _ (getMethod (Value.ref _) (PySem.Str.ofString "append") _) _ _ _); k_dflt (refine' kl_method ?N_char ?m_char slot_list_append type_list_append ?_; (case N_char => k_asm); (case m_char => k_mem); k_whole))
      k_with "execs cons" => (k_here; (with_reducible show wpAny _ _ _ _ _ (Shared.mk _ _ _ (_ + _) _)); (refine Mine.Internal.gentoks ?_); intro tkg9 htk9; (try dsimp only at htk9))
      k_with "size" => k_dflt (first | exact Nat.le_of_ble_eq_true rfl | ((with_reducible show Array.size (List.toArray _) ≤ PySem.sizeLine); rw [List.size_toArray, PySem.sizeLine_eq]; refine Nat.le_trans (m := 100002) ?_ (Nat.le_of_ble_eq_true rfl); first | with_reducible assumption | exact Nat.le_trans (m := 100000) (by with_reducible assumption) (Nat.le_of_ble_eq_true rfl)))
      k_with "subscriptTail Name Constant ref int" => k_extra "subscriptTail"
      k_with "tok" => (first | exact Nat.le_add_left 1 _ | with_reducible assumption | exact Nat.le_trans (Nat.le_add_left 1 _) (by with_reducible assumption))
      k_with "next" => (first | ((with_reducible refine Mine.Internal.nextS (g := gens9) (d := dr9) (o := os9) ?_); intro qk9 tkg9) | ((with_reducible refine Mine.Internal.lastS (g := gens9) (d := dr9) (o := os9) ?_); intro tkg9) | (with_reducible refine Mine.Internal.nilS ?_) | (with_reducible refine Mine.Internal.fin9 ?_) | (with_reducible refine Mine.Internal.fin0 ?_) | (with_reducible refine Mine.Internal.finS9 ?_) | (with_reducible refine Mine.Internal.finS0 ?_) | ((with_reducible refine Mine.Internal.nextU (g := gens9) (d := dr9) (o := os9) ?_ ?_); (k_extra "tok"); intro qk9 tkg9) | ((with_reducible refine Mine.Internal.lastU (g := gens9) (d := dr9) (o := os9) ?_ ?_); (k_extra "tok"); intro tkg9) | ((with_reducible refine Mine.Internal.nextZ (g := gens9) (d := dr9) (o := os9) ?_); intro qk9 tkg9) | ((with_reducible refine Mine.Internal.lastZ (g := gens9) (d := dr9) (o := os9) ?_); intro tkg9))
      k_with "execs cons" => k_extra "next"
      k_with "execs nil" => (with_reducible refine Mine.Internal.nilS ?_)
      k_with "eval Constant int" => (with_reducible refine Mine.Internal.c_int (g := gens9) (d := dr9) (o := os9) ?_)
      k_with "eval Attribute Name" => (k_here; k_dflt (refine' Mine.Internal.at_name (gs := gens9) (d := dr9) (o := os9) ?nF_char ?nX_char ?nN_char ?nv_char ?n1_char ?n2_char ?ng_char ?nh_char ?na_char ?nn_char ?nl_char ?nd_char ?_; (case nF_char => k_asm); (case nX_char => k_asm); (case nN_char => k_asm); (case nv_char => exact rfl); (case n1_char => k_mem); (case n2_char => k_mem); (case ng_char => k_is); (case nh_char => k_is); (case na_char => k_is); (case nn_char => k_is); (case nl_char => k_get); (case nd_char => k_handed); k_whole))
      k_with "setAttr ref" => (first | (k_here; ktx_write) | (k_here; k_dflt (refine' Mine.Internal.st_attr (gs := gens9) (d := dr9) (o := os9) ?sF_char ?sX_char ?sN_char ?s1_char ?s2_char ?ss_char ?sp_char ?st_char ?sh_char ?sl_char ?se_char ?sU_char ?sz_char ?_; (case sF_char => k_asm); (case sX_char => k_asm); (case sN_char => k_asm); (case s1_char => k_mem); (case s2_char => k_mem); (case ss_char => k_is); (case sp_char => k_is); (case st_char => k_is); (case sh_char => k_is); (case sl_char => k_get); (case se_char => k_put); (case sU_char => k_upd); (case sz_char => exact Nat.le_of_ble_eq_true rfl); k_whole; intro h' F' N'; (try k_sweep))))
      k_with "storeName" => (first | (k_here; ktx_write) | (k_here; k_dflt (refine' Mine.Internal.st_name (gs := gens9) (d := dr9) (o := os9) ?tF_char ?tN_char ?_; (case tF_char => k_asm); (case tN_char => k_asm); k_whole; intro m9 h' F' N'; (try k_sweep))))
      k_with "subscriptTail" => (k_here; (with_reducible show wpAny _ _ (subscriptTail _ _ (Value.str (St.chunk _) _) (Value.int (St.off _) _)) _ _ _); (refine Mine.Internal.sub_st (by with_reducible assumption) (by omega) ?_); intro c9 hc9; (try k_fold))
      k_with "call ref" => (k_here; (with_reducible show wpAny _ _ (call (Value.ref 141) _ _) _ _ _); k_dflt (refine' Mine.Internal.Ctr.useN (gs := gens9) (d := dr9) (o := os9) (Mine.Internal.CtrC.call (ctr_readA ?p1_char ?p2_char)) ?cB_char ?cF_char ?cX_char ?cN_char ?cT_char ?ca_char ?cb_char ?cc_char ?ce_char ?cd_char ?cu_char ?ck_char ?cne_char ?_; (case cB_char => k_asm); (case cF_char => k_asm); (case cX_char => k_asm); (case cT_char => k_asm); (case cN_char => k_asm); (case ca_char => exact rfl); (case cb_char => exact rfl); (case cc_char => exact rfl); (case ce_char => exact rfl); (case cd_char => exact Nat.le_of_ble_eq_true rfl); (case cu_char => exact Nat.le_of_ble_eq_true rfl); (case ck_char => ((try (refine' Mine.Internal.Take.cons ?_ ?_)); repeat' (first | exact Mine.Internal.Take.nil | exact Mine.Internal.Del.head | refine' Mine.Internal.Take.cons ?_ ?_ | refine' Mine.Internal.Del.tail ?_))); (case cne_char => first | exact List.forall_mem_nil _ | exact (fun _ _ => List.forall_mem_nil _) | exact Mine.Internal.Srt.neL (by with_reducible assumption) (by k_extra "pos") (by k_extra "pos") (by exact rfl) | ((simp only [List.forall_mem_cons, List.not_mem_nil, false_implies, implies_true, and_true, true_and]); (repeat' (refine And.intro ?_ ?_)); all_goals k_ne)); (case p1_char => with_reducible assumption); (case p2_char => with_reducible assumption); (k_whole; intro v' l' hp'; (set_option tactic.hygienic true in induction hp'); rename_i x' b' ok' hoff' hrem' hb1' hb0' hpl' hpc'; intro h' n' hn' F' N'; (try dsimp only [List.cons_append, List.nil_append] at N'); (try k_sweep); (try dsimp only); (try k_fold)); (rcases b' with _ | _); all_goals (first | (have hb2' := hb1' rfl) | (have hb3' := hb0' rfl))))
      k_fill
      refine' ctr_introN (binds := [("self", .ref st)]) (fun h h' T k => T.keeps k) (fun h T => T.nolimit) ?ho_char ?hcd_char ?hD_char ?hb_char ?hl_char ?_ ?hc_char ?c1_char ?c2_char ?c3_char
      case ho_char => k_is
      case hcd_char => k_is
      case hD_char => decide
      case hb_char => (intro s X; (try (rcases hargs with ⟨rfl, rfl, rfl⟩ | ⟨rfl, rfl⟩)); all_goals (first | exact BindsTo.of_eq rfl | exact binds_K X rfl (by k_is) rfl rfl rfl))
      case hl_char => exact locs rfl
      case hc_char => decide
      case c1_char => exact rfl
      case c2_char => exact rfl
      case c3_char => exact rfl
      intro A base g env outer L' h₁ hs9 gens9 dr9 t09 os9 tk B' F' X' N' T' l1
      intro e9 A9 q9
      (try clear l1)
      (try dsimp only at N')
      first | have S0 := Mine.Internal.Srt.eight ho hk hat | have S0 := Mine.Internal.Srt.grow (Mine.Internal.Srt.six ho) hoq | have S0 := Mine.Internal.Srt.five ho hk | have S0 := Mine.Internal.Srt.six ho | have S0 := Mine.Internal.Srt.two ho | have S0 := Mine.Internal.Srt.two hk | skip

      k_steps
      all_goals (try dsimp only)
      all_goals (refine' cend (l := [(st, _), (sd, _), (ds, _), (dd, _), (rce, _), (er, _)]) (by assumption) (by assumption) (Mine.Internal.Take.sub (by ((try dsimp only); repeat' (first | exact Mine.Internal.Take.nil | exact Mine.Internal.Del.head | refine' Mine.Internal.Take.blk ?_ | exact Mine.Internal.Tl.nil | exact Mine.Internal.Tl.app | refine' Mine.Internal.Take.cons ?_ ?_ | refine' Mine.Internal.Del.tail ?_ | refine' Mine.Internal.Tl.cons ?_)))) ?_)
      · with_reducible rename St => y
        refine' ⟨y, ?hxa_char, .inl ⟨rfl, ?hxb_char, ?hxc_char⟩, ?hxl_char⟩
        case hxl_char => exact rfl
        case hxa_char => with_reducible assumption
        case hxc_char => with_reducible assumption
        case hxb_char => exact (Mine.Internal.rem_end ok (by with_reducible assumption)).trans (Eq.trans (Eq.symm (by with_reducible assumption)) (by with_reducible assumption))
      · with_reducible rename St => y
        have hq9 := Mine.Internal.rem_step (x := y) (by with_reducible assumption) (by with_reducible assumption) rfl
        refine' ⟨{ y with off := y.off + 1, to := _ }, ?hxa_char, .inr ⟨_, _, rfl, ?hxb_char, (hq9 0 0).2.2.1, (hq9 0 0).2.2.2⟩, ?hxl_char⟩
        case hxl_char => exact rfl
        case hxa_char => exact (hq9 _ 0).1
        case hxb_char => exact ((Mine.Internal.rem_end ok (by with_reducible assumption)).trans (Eq.symm (by with_reducible assumption))).trans (hq9 0 0).2.1
      · have hq9 := Mine.Internal.rem_step ok (by with_reducible assumption) rfl
        refine' ⟨{ x with off := x.off + 1, to := _ }, ?hxa_char, .inr ⟨_, _, rfl, ?hxb_char, (hq9 0 0).2.2.1, (hq9 0 0).2.2.2⟩, ?hxl_char⟩
        case hxl_char => exact rfl
        case hxa_char => exact (hq9 _ 0).1
        case hxb_char => exact (hq9 0 0).2.1
  have ctr_until {w : World} {loose : List Str} {mean : ExcName → Option Value} {mg mb : Str → Option Value} {st sd : Addr} {k0 k1 k2 k3 k4 k5 k6 k7 k8 k9 : Tok} {rce nl ds er dd : Addr} {j0 j1 : Tok} {src : Str} {tsr : Tok} {x : St} {q : Addr} {vs0 : List Value} {ys0 : List Str} {al : Nat → Bool} (ho : @LT.lt Nat _ sd st ∧ @LT.lt Nat _ st rce ∧ @LT.lt Nat _ rce dd ∧ @LT.lt Nat _ dd ds ∧ @LT.lt Nat _ ds er) (hoq : @LT.lt Nat _ er q) (ok : x.ok src) (hvs0 : StrsAre vs0 ys0) (hal0 : ∀ c : Nat, ys0.any (· == ⟨#[c]⟩) = al c) :
      CtrC PySem.Challenge.rw_te0076_05.row.prog w (main.heap_1_39 w.params) (Top main.view_1_40 loose mean mg mb) 460 600 (.ref 156) ⟨[.ref st, .ref q], []⟩ ([(st, instObj 166 sd), (sd, dictOf (sdict w.params k0 k1 k2 k3 k4 k5 k6 k7 k8 k9 rce nl ds x.chunk x.tc x.size x.ts x.off x.to er x.pl x.tl x.pc x.tp x.buf) 10), (ds, instObj 73 dd), (dd, dictOf (tdict w.params j0 j1 src tsr x.place x.tpl) 2), (rce, methodObj (.ref 148) (.ref st)), (er, W.listOf x.es.toArray x.n), (q, tupO vs0)]) (noF fun v l => ∃ (x' : St) (p : List Nat) (t : Tok), x'.ok src ∧ v = .str ⟨p.toArray⟩ t ∧ x.rem src = p ++ x'.rem src ∧ (∀ c ∈ p, al c = false) ∧ (∀ c t, x'.rem src = c :: t → al c = true) ∧ l = [(st, instObj 166 sd), (sd, dictOf (sdict w.params k0 k1 k2 k3 k4 k5 k6 k7 k8 k9 rce nl ds x'.chunk x'.tc x'.size x'.ts x'.off x'.to er x'.pl x'.tl x'.pc x'.tp x'.buf) 10), (ds, instObj 73 dd), (dd, dictOf (tdict w.params j0 j1 src tsr x'.place x'.tpl) 2), (rce, methodObj (.ref 148) (.ref st)), (er, W.listOf x'.es.toArray x'.n), (q, tupO vs0)]) := by
    as_aux_lemma =>
      clear ctr_is_invalid ctr_charErrors ctr_read ctr_readE ctr_position0 ctr_unget ctr_ungetN ctr_ungetS ctr_readN ctr_readC ctr_char
      k_with_none
      k_with "pos" => (repeat' (first | exact Mine.Internal.PosL.nil | (apply Mine.Internal.PosL.cons 0; exact rfl) | (apply Mine.Internal.PosL.cons 1; exact rfl) | (apply Mine.Internal.PosL.cons 2; exact rfl) | (apply Mine.Internal.PosL.cons 3; exact rfl) | (apply Mine.Internal.PosL.cons 4; exact rfl) | (apply Mine.Internal.PosL.cons 5; exact rfl) | (apply Mine.Internal.PosL.cons 6; exact rfl) | (apply Mine.Internal.PosL.cons 7; exact rfl) | (apply Mine.Internal.PosL.cons 8; exact rfl) | (apply Mine.Internal.PosL.cons 9; exact rfl) | (apply Mine.Internal.PosL.cons 10; exact rfl) | (apply Mine.Internal.PosL.cons 11; exact rfl) | (apply Mine.Internal.PosL.cons 12; exact rfl) | (apply Mine.Internal.PosL.cons 13; exact rfl) | (apply Mine.Internal.PosL.cons 14; exact rfl) | (apply Mine.Internal.PosL.cons 15; exact rfl) | (apply Mine.Internal.PosL.cons 16; exact rfl) | (apply Mine.Internal.PosL.cons 17; exact rfl) | (apply Mine.Internal.PosL.cons 18; exact rfl) | (apply Mine.Internal.PosL.cons 19; exact rfl) | (apply Mine.Internal.PosL.cons 20; exact rfl) | (apply Mine.Internal.PosL.cons 21; exact rfl) | (apply Mine.Internal.PosL.cons 22; exact rfl) | (apply Mine.Internal.PosL.cons 23; exact rfl)))
      k_with "slt" => exact Mine.Internal.Srt.lt (by with_reducible assumption) (by ((repeat (first | (with_reducible_and_instances refine Mine.Internal.Aft.here ?_; (repeat (first | with_reducible_and_instances exact List.Mem.head _ | with_reducible_and_instances refine List.Mem.tail _ ?_)); done) | with_reducible refine Mine.Internal.Aft.there ?_)); all_goals fail))
      k_with "take" => k_dflt ((try dsimp only); repeat' (first | exact Mine.Internal.Take.nil | exact Mine.Internal.Del.head | refine' Mine.Internal.Take.blk ?_ | exact Mine.Internal.Tl.nil | exact Mine.Internal.Tl.app | refine' Mine.Internal.Take.cons ?_ ?_ | refine' Mine.Internal.Del.tail ?_ | refine' Mine.Internal.Tl.cons ?_))
      k_with "upd" => (exact Mine.Internal.Srt.updP (by with_reducible assumption) (by repeat' (first | exact Mine.Internal.UpdI.head | refine' Mine.Internal.UpdI.tail ?_)) (by k_dflt (k_extra "pos")) (by exact rfl))
      k_with "all" => exact Mine.Internal.Ks.ne_all (by with_reducible assumption) (by first | exact .inr (by k_extra "slt") | exact .inl (by k_extra "slt"))
      k_with "ne" => (refine neN ?_; first | exact Mine.Internal.Srt.ne (by with_reducible assumption) (by with_reducible solve_by_elim (maxDepth := 40) only [Mine.Internal.Apart.l, Mine.Internal.Apart.r, Mine.Internal.Apart.t, List.Mem.head, List.Mem.tail]) | ((try dsimp only); omega))
      k_with "lt" => (intro h9l; first | ((with_reducible rename Mine.Internal.Srt _ => S8); (first | (have S9 := Mine.Internal.Srt.grow S8 (h9l (_, _) (by k_dflt k_mem)); clear S8) | (have S9 := Mine.Internal.Srt.grow S8.tl (h9l (_, _) (by k_dflt k_mem)); clear S8) | (have S9 := Mine.Internal.Srt.grow S8.tl.tl (h9l (_, _) (by k_dflt k_mem)); clear S8)); clear h9l) | (replace h9l := allLt_of h9l; simp only [AllLt, and_true] at h9l))
      k_with "subscriptTail" => (k_here; (with_reducible show wpAny _ _ (subscriptTail _ _ (Value.str _ _) (Value.int _ _)) _ _ _); (refine Mine.Internal.sub_chr (by omega) (by omega) (by assumption) ?_))
      k_with "getMethod ref" => (k_here; k_dflt (first | (refine' method_inst ?k1_until ?k2_until ?k3_until ?k4_until ?k5_until ?k6_until ?k7_until ?_; (case k1_until => k_asm); (case k2_until => k_asm); (case k3_until => k_inst); (case k4_until => k_is); (case k5_until => k_is); (case k6_until => k_is); (case k7_until => k_get); k_whole) | (refine' kmu_own ?k1_until ?k2_until ?k3_until ?k4_until ?k5_until ?_; (case k1_until => k_asm); (case k2_until => k_asm); (case k3_until => k_inst); (case k4_until => k_is); (case k5_until => k_is); k_whole)))
      k_with "getMethod ref" => (k_here; (with_reducible show wpAny _ _ (getMethod (Value.ref _) (PySem.Str.ofString "append") _) _ _ _); k_dflt (refine' kl_method ?N_until ?m_until slot_list_append type_list_append ?_; (case N_until => k_asm); (case m_until => k_mem); k_whole))
      k_with "execs cons" => (k_here; (with_reducible show wpAny _ _ _ _ _ (Shared.mk _ _ _ (_ + _) _)); (refine Mine.Internal.gentoks ?_); intro tkg9 htk9; (try dsimp only at htk9))
      k_with "ite" => (k_here; k_openite; first
      | (refine ite_pos ?hq_until ?_; (case hq_until => first | (simp only [decide_eq_true_eq, beq_iff_eq, bne_iff_ne, ne_eq, Bool.not_eq_true', decide_eq_false_iff_not]; omega) | (simp; done)))
      | (refine ite_neg ?hq_until ?_; (case hq_until => first | (simp only [decide_eq_true_eq, beq_iff_eq, bne_iff_ne, ne_eq, Bool.not_eq_true', decide_eq_false_iff_not]; omega) | (simp; done))))
      k_with "exec If" => ((with_reducible show wpAny _ _ _ _ _ _); k_fold)
      k_with "exec AugAssign" => ((with_reducible show wpAny _ _ _ _ _ _); k_fold)
      k_with "exec While" => ((with_reducible show wpAny _ _ _ _ _ _); k_fold)
      k_with "size" => k_dflt (first | exact Nat.le_of_ble_eq_true rfl | ((with_reducible show Array.size (List.toArray _) ≤ PySem.sizeLine); rw [List.size_toArray, PySem.sizeLine_eq]; refine Nat.le_trans (m := 100002) ?_ (Nat.le_of_ble_eq_true rfl); first | with_reducible assumption | exact Nat.le_trans (m := 100000) (by with_reducible assumption) (Nat.le_of_ble_eq_true rfl)))
      k_with "subscriptTail Name Constant ref int" => k_extra "subscriptTail"
      k_with "tok" => (first | exact Nat.le_add_left 1 _ | with_reducible assumption | exact Nat.le_trans (Nat.le_add_left 1 _) (by with_reducible assumption))
      k_with "next" => (first | ((with_reducible refine Mine.Internal.nextS (g := gens9) (d := dr9) (o := os9) ?_); intro qk9 tkg9) | ((with_reducible refine Mine.Internal.lastS (g := gens9) (d := dr9) (o := os9) ?_); intro tkg9) | (with_reducible refine Mine.Internal.nilS ?_) | (with_reducible refine Mine.Internal.fin9 ?_) | (with_reducible refine Mine.Internal.fin0 ?_) | (with_reducible refine Mine.Internal.finS9 ?_) | (with_reducible refine Mine.Internal.finS0 ?_) | ((with_reducible refine Mine.Internal.nextU (g := gens9) (d := dr9) (o := os9) ?_ ?_); (k_extra "tok"); intro qk9 tkg9) | ((with_reducible refine Mine.Internal.lastU (g := gens9) (d := dr9) (o := os9) ?_ ?_); (k_extra "tok"); intro tkg9) | ((with_reducible refine Mine.Internal.nextZ (g := gens9) (d := dr9) (o := os9) ?_); intro qk9 tkg9) | ((with_reducible refine Mine.Internal.lastZ (g := gens9) (d := dr9) (o := os9) ?_); intro tkg9))
      k_with "execs cons" => k_extra "next"
      k_with "execs nil" => (with_reducible refine Mine.Internal.nilS ?_)
      k_with "eval Constant int" => (with_reducible refine Mine.Internal.c_int (g := gens9) (d := dr9) (o := os9) ?_)
      k_with "eval Constant str" => (with_reducible refine Mine.Internal.c_str (g := gens9) (d := dr9) (o := os9) ?_)
      k_with "eval Attribute Name" => (k_here; k_dflt (refine' Mine.Internal.at_name (gs := gens9) (d := dr9) (o := os9) ?nF_until ?nX_until ?nN_until ?nv_until ?n1_until ?n2_until ?ng_until ?nh_until ?na_until ?nn_until ?nl_until ?nd_until ?_; (case nF_until => k_asm); (case nX_until => k_asm); (case nN_until => k_asm); (case nv_until => exact rfl); (case n1_until => k_mem); (case n2_until => k_mem); (case ng_until => k_is); (case nh_until => k_is); (case na_until => k_is); (case nn_until => k_is); (case nl_until => k_get); (case nd_until => k_handed); k_whole))
      k_with "setAttr ref" => (first | (k_here; ktx_write) | (k_here; k_dflt (refine' Mine.Internal.st_attr (gs := gens9) (d := dr9) (o := os9) ?sF_until ?sX_until ?sN_until ?s1_until ?s2_until ?ss_until ?sp_until ?st_until ?sh_until ?sl_until ?se_until ?sU_until ?sz_until ?_; (case sF_until => k_asm); (case sX_until => k_asm); (case sN_until => k_asm); (case s1_until => k_mem); (case s2_until => k_mem); (case ss_until => k_is); (case sp_until => k_is); (case st_until => k_is); (case sh_until => k_is); (case sl_until => k_get); (case se_until => k_put); (case sU_until => k_upd); (case sz_until => exact Nat.le_of_ble_eq_true rfl); k_whole; intro h' F' N'; (try k_sweep))))
      k_with "storeName" => (first | (k_here; ktx_write) | (k_here; k_dflt (refine' Mine.Internal.st_name (gs := gens9) (d := dr9) (o := os9) ?tF_until ?tN_until ?_; (case tF_until => k_asm); (case tN_until => k_asm); k_whole; intro m9 h' F' N'; (try k_sweep))))
      k_with "call ref" => refine Mine.Internal.hold ?_
      k_with "compareOp In" => (k_here; (with_reducible show wpAny _ _ (compareOp CmpOp.In (Value.str ⟨#[_]⟩ _) (Value.ref _)) _ _ _); k_dflt (refine' Mine.Internal.in_tupN ?N_until ?hm_until hvs0 hal0 ?_; (case N_until => k_asm); (case hm_until => news_mem); k_whole))
      k_with "subscriptTail" => (k_here; (with_reducible show wpAny _ _ (subscriptTail _ _ (Value.str _ _) (Value.int _ _)) _ _ _); (refine Mine.Internal.sub_st2 (by with_reducible assumption) (by omega) (by omega) ?_); intro c9 hc9; (try k_fold))
      k_with "call ref" => (k_here; (with_reducible show wpAny _ _ (call (Value.ref 141) _ _) _ _ _); k_dflt (refine' Mine.Internal.Ctr.useN (gs := gens9) (d := dr9) (o := os9) (Mine.Internal.CtrC.call (ctr_readA ?p1_until ?p2_until)) ?cB_until ?cF_until ?cX_until ?cN_until ?cT_until ?ca_until ?cb_until ?cc_until ?ce_until ?cd_until ?cu_until ?ck_until ?cne_until ?_; (case cB_until => k_asm); (case cF_until => k_asm); (case cX_until => k_asm); (case cT_until => k_asm); (case cN_until => k_asm); (case ca_until => exact rfl); (case cb_until => exact rfl); (case cc_until => exact rfl); (case ce_until => exact rfl); (case cd_until => exact Nat.le_of_ble_eq_true rfl); (case cu_until => exact Nat.le_of_ble_eq_true rfl); (case ck_until => ((try (refine' Mine.Internal.Take.cons ?_ ?_)); repeat' (first | exact Mine.Internal.Take.nil | exact Mine.Internal.Del.head | refine' Mine.Internal.Take.cons ?_ ?_ | refine' Mine.Internal.Del.tail ?_))); (case cne_until => first | exact List.forall_mem_nil _ | exact (fun _ _ => List.forall_mem_nil _) | exact Mine.Internal.Srt.neL (by with_reducible assumption) (by k_extra "pos") (by k_extra "pos") (by exact rfl) | ((simp only [List.forall_mem_cons, List.not_mem_nil, false_implies, implies_true, and_true, true_and]); (repeat' (refine And.intro ?_ ?_)); all_goals k_ne)); (case p1_until => with_reducible assumption); (case p2_until => with_reducible assumption); (k_whole; intro v' l' hp'; (set_option tactic.hygienic true in induction hp'); rename_i x' b' ok' hoff' hrem' hb1' hb0' hpl' hpc'; intro h' n' hn' F' N'; (try dsimp only [List.cons_append, List.nil_append] at N'); (try k_sweep); (try dsimp only); (try k_fold)); (rcases b' with _ | _); all_goals (first | (have hb2' := hb1' rfl) | (have hb3' := hb0' rfl))))
      k_fill
      refine' ctr_introN (binds := [("self", .ref st), ("characters", .ref q), ("opposite", .bool false)]) (fun h h' T k => T.keeps k) (fun h T => T.nolimit) ?ho_until ?hcd_until ?hD_until ?hb_until ?hl_until ?_ ?hc_until ?c1_until ?c2_until ?c3_until
      case ho_until => k_is
      case hcd_until => k_is
      case hD_until => decide
      case hb_until => (intro s X; (try (rcases hargs with ⟨rfl, rfl, rfl⟩ | ⟨rfl, rfl⟩)); all_goals (first | exact BindsTo.of_eq rfl | exact binds_K X rfl (by k_is) rfl rfl rfl))
      case hl_until => exact locs rfl
      case hc_until => decide
      case c1_until => exact rfl
      case c2_until => exact rfl
      case c3_until => exact rfl
      intro A base g env outer L' h₁ hs9 gens9 dr9 t09 os9 tk B' F' X' N' T' l1
      intro e9 A9 q9
      (try clear l1)
      (try dsimp only at N')
      first | have S0 := Mine.Internal.Srt.eight ho hk hat | have S0 := Mine.Internal.Srt.grow (Mine.Internal.Srt.six ho) hoq | have S0 := Mine.Internal.Srt.five ho hk | have S0 := Mine.Internal.Srt.six ho | have S0 := Mine.Internal.Srt.two ho | have S0 := Mine.Internal.Srt.two hk | skip

      k_with "exec While" => k_dflt (first
        | ((with_reducible show wpAny _ _ (exec (Stmt.While (Expr.Constant _ _ _) _ _ _) _) _ _ _); (with_reducible rename Fr _ _ _ _ => F0); (with_reducible rename News _ _ _ _ => N0); (refine' ksw_meet (σ := Cu) (fun c => [(_, W.listOf c.vs.toArray c.n), (st, instObj 166 sd), (sd, dictOf (sdict w.params k0 k1 k2 k3 k4 k5 k6 k7 k8 k9 rce nl ds c.x.chunk c.x.tc c.x.size c.x.ts c.x.off c.x.to er c.x.pl c.x.tl c.x.pc c.x.tp c.x.buf) 10), (ds, instObj 73 dd), (dd, dictOf (tdict w.params j0 j1 src tsr c.x.place c.x.tpl) 2), (rce, methodObj (.ref 148) (.ref st)), (er, W.listOf c.x.es.toArray c.x.n), (q, tupO vs0)]) (fun _ => []) ["end"] (Cu.ok src al (x.rem src)) (CuX src al (x.rem src)) (fun c => c.mu src) ⟨x, [], 0⟩ F0 (fun p hp => N0 p (Mine.Internal.Take.sub ?otk_until p hp)) (fun _ h => nomatch h) (Cu.start ok) ?ohq_until ?oturn_until); (case otk_until => (k_extra "take")); (case' ohq_until => (intro c u hh tk2 hi Ft Nt; (try clear F0 N0); obtain ⟨y, vs, vn⟩ := c; obtain ⟨sok, hvl, ws, hvs, hL, hws, hst⟩ := hi; (dsimp only at sok hvl hvs hL hst Ft Nt))); (case' oturn_until => (intro c u hh tk2 hi Ft Nt; (try clear F0 N0); obtain ⟨y, vs, vn⟩ := c; obtain ⟨sok, ws, hvs, hL, hws, hb⟩ := hi; (dsimp only at sok hvs hL hb Ft Nt); have hvl : vs.length ≤ 50000 := Cu.vlen ok rfl hb; have hy0 := sok.off0; have hy1 := sok.off1; have hy2 := sok.csize; have hy3 := sok.clen)))
        | ((with_reducible show wpAny _ _ (exec (Stmt.While (Expr.BoolOp _ _ _) _ _ _) _) _ _ _); (with_reducible rename Fr _ _ _ _ => F0); (with_reducible rename News _ _ _ _ => N0); (refine' ksw_meet (σ := Int × Tok) (fun _ => [(_, W.listOf vs.toArray vn), (st, instObj 166 sd), (sd, dictOf (sdict w.params k0 k1 k2 k3 k4 k5 k6 k7 k8 k9 rce nl ds y.chunk y.tc y.size y.ts y.off y.to er y.pl y.tl y.pc y.tp y.buf) 10), (ds, instObj 73 dd), (dd, dictOf (tdict w.params j0 j1 src tsr y.place y.tpl) 2), (rce, methodObj (.ref 148) (.ref st)), (er, W.listOf y.es.toArray y.n), (q, tupO vs0)]) (fun c => [("end", .int c.1 c.2)]) [] (fun c => RunTo al y c.1) (fun c => RunTo al y c.1 ∧ (c.1 = y.size ∨ ∃ d, y.chunk.cps[c.1.toNat]? = some d ∧ al d = true ∧ c.1 < y.size)) (fun c => (y.size - c.1).toNat) (y.off, y.to) F0 (fun p hp => N0 p (Mine.Internal.Take.sub ?itk_until p hp)) ?ikk_until (RunTo.start sok) ?ihq_until ?iturn_until); (case itk_until => (k_extra "take")); (case ikk_until => intro p hp; (simp only [List.mem_singleton] at hp); subst hp; rfl); (case' ihq_until => (intro c u2 hh2 tk3 hx Ft2 Nt2; (try clear F0 N0); obtain ⟨e, te⟩ := c; obtain ⟨hr, hx⟩ := hx; (dsimp only at hr hx Ft2 Nt2); have he0 := hr.lo; have he1 := hr.hi; rcases hx with he | ⟨d, hd, had, hlt⟩)); (case' iturn_until => (intro c u2 hh2 tk3 hr Ft2 Nt2; (try clear F0 N0); obtain ⟨e, te⟩ := c; (dsimp only at hr Ft2 Nt2); have he0 := hr.lo; have he1 := hr.hi))))
      k_with "call builtin:str.join" => k_dflt ((with_reducible show wpAny _ _ (call (Value.builtin "str.join") [Value.str _ _, Value.ref _]) _ _ _); (refine' Mine.Internal.join_flats (News.isList (by k_asm) (by news_mem)) hvs hvl (CuX.vlen ok hL) ?_); intro t9 k9)
      k_with "KswEnd" => k_dflt (first
        | ((with_reducible show KswEnd _ _ _ _ _ _ [] _ _ _ _ _); (with_reducible rename Fr _ _ _ _ => F9); (with_reducible rename News _ _ _ _ => N9); (refine' ksw_end (σ := Int × Tok) (e + 1, _) F9 N9 (Mine.Internal.Take.sub ?itk2_until) trivial ?ihk2_until ?ihr2_until (RunTo.step hy0 hr (by with_reducible assumption) ((hal0 _).symm.trans (al_f (by with_reducible assumption))) (by omega)) ?imu2_until); (case itk2_until => (k_extra "take")); (case ihk2_until => (intro p hp; (simp only [List.mem_singleton] at hp); subst hp; first | rfl | exact if_pos rfl)); (case ihr2_until => (intro z9 hz9 hz8; have hz7 := hz9 _ (List.mem_singleton.mpr rfl); simp (zetaDelta := true) [hz7, kstB])); (case imu2_until => (dsimp only; omega)))
        | ((with_reducible show KswEnd _ _ _ _ _ _ ["end"] _ _ _ _ _); (with_reducible rename St => y2); (with_reducible rename Fr _ _ _ _ => F9); (with_reducible rename News _ _ _ _ => N9); (try simp only [List.push_toArray] at N9); (have hx9 := fun n9 t9 => cu_next (n := n9) (t1 := t9) sok (by with_reducible assumption : StrsAre vs ws) hL hws hb hr he (by with_reducible assumption : St.ok src y2) (by with_reducible assumption) (by with_reducible assumption) (by with_reducible assumption)); first | ((refine' ksw_end (σ := Cu) ⟨y2, vs ++ [.str _ _], _⟩ F9 N9 (Mine.Internal.Take.sub ?m1tka_until) trivial (fun _ h => nomatch h) ?m1hra_until (hx9 _ _).1 ((hx9 _ _).2 _)); (case m1tka_until => (k_extra "take")); (case m1hra_until => (intro z9 hz9 hz8; have hz7 : z9 ≠ Str.ofString "end" := (by intro e9; subst e9; simp at hz8); simp (zetaDelta := true) [hz7, kstB]))) | ((refine' ksw_end (σ := Cu) ⟨y2, vs ++ [.str _ _], _⟩ F9 N9 (Mine.Internal.Take.sub ?m1tkb_until) trivial (fun _ h => nomatch h) ?m1hrb_until (hx9 _ _).1 ((hx9 _ _).2 _)); (case m1tkb_until => (k_extra "take")); (case m1hrb_until => (intro z9 hz9 hz8; have hz7 : z9 ≠ Str.ofString "end" := (by intro e9; subst e9; simp at hz8); simp (zetaDelta := true) [hz7, kstB]))))
        | (refine Mine.Internal.hold ?_))
      k_with "MeetW" => k_dflt (first
        | ((with_reducible show MeetW _ _ _ _ _ [] _ _ _ _); exact meetW_end (σ := Int × Tok) (e, te) u2 Ft2 Nt2 (fun _ h => h) ⟨hr, .inl (by with_reducible assumption)⟩)
        | ((with_reducible show MeetW _ _ _ _ _ [] _ _ _ _); (have hx9 := run_stop hal0 y e (by with_reducible assumption) (by with_reducible assumption) he1 (by with_reducible assumption)); exact meetW_end (σ := Int × Tok) (e, te) u2 Ft2 Nt2 (fun _ h => h) ⟨hr, .inr hx9⟩)
        | ((with_reducible show MeetW _ _ _ _ _ ["end"] _ _ _ _); (with_reducible rename St => y2); (with_reducible rename Fr _ _ _ _ => F9); (with_reducible rename News _ _ _ _ => N9); (try simp only [List.push_toArray] at N9); (have hx9 := fun n9 t9 => cux_end (n := n9) (t1 := t9) sok (by with_reducible assumption : StrsAre vs ws) hL hws hr he (by with_reducible assumption : St.ok src y2) (by with_reducible assumption) (by with_reducible assumption) hvl); first | ((refine' meetW_fin (σ := Cu) ⟨y2, vs ++ [.str _ _], _⟩ F9 N9 (Mine.Internal.Take.sub ?m4tka_until) (fun _ h => nomatch h) ?m4hra_until (hx9 _ _)); (case m4tka_until => (k_extra "take")); (case m4hra_until => (intro z9 hz9 hz8; have hz7 : z9 ≠ Str.ofString "end" := (by intro e9; subst e9; simp at hz8); simp (zetaDelta := true) [hz7, kstB]))) | ((refine' meetW_fin (σ := Cu) ⟨y2, vs ++ [.str _ _], _⟩ F9 N9 (Mine.Internal.Take.sub ?m4tkb_until) (fun _ h => nomatch h) ?m4hrb_until (hx9 _ _)); (case m4tkb_until => (k_extra "take")); (case m4hrb_until => (intro z9 hz9 hz8; have hz7 : z9 ≠ Str.ofString "end" := (by intro e9; subst e9; simp at hz8); simp (zetaDelta := true) [hz7, kstB]))))
        | ((with_reducible show MeetW _ _ _ _ _ ["end"] _ _ _ _); (with_reducible rename Fr _ _ _ _ => F9); (with_reducible rename News _ _ _ _ => N9); (have hx9 := cux_stop (n := vn) sok (by with_reducible assumption : StrsAre vs ws) hL hws (by rw [← show e = y.off from by with_reducible assumption]; exact hd) had hvl); (refine' meetW_fin (σ := Cu) ⟨y, vs, vn⟩ F9 N9 (Mine.Internal.Take.sub ?m5tk_until) (fun _ h => nomatch h) ?m5hr_until hx9); (case m5tk_until => (k_extra "take")); (case m5hr_until => (intro z9 hz9 hz8; have hz7 : z9 ≠ Str.ofString "end" := (by intro e9; subst e9; simp at hz8); simp (zetaDelta := true) [hz7, kstB])))
        | ((with_reducible show MeetW _ _ _ _ _ ["end"] _ _ _ _); (with_reducible rename Fr _ _ _ _ => F9); (with_reducible rename News _ _ _ _ => N9); (try simp only [List.push_toArray] at N9); (have hx9 := fun n' t9 => cux_run (n := n') (t1 := t9) (t2 := te) sok (by with_reducible assumption : StrsAre vs ws) hL hws hr hd had hvl); (refine' meetW_fin (σ := Cu) ⟨{ y with off := e, to := te }, vs ++ [.str _ _], _⟩ F9 N9 (Mine.Internal.Take.sub ?m6tk_until) (fun _ h => nomatch h) ?m6hr_until (hx9 _ _)); (case m6tk_until => (k_extra "take")); (case m6hr_until => (intro z9 hz9 hz8; have hz7 : z9 ≠ Str.ofString "end" := (by intro e9; subst e9; simp at hz8); simp (zetaDelta := true) [hz7, kstB])))
        | (refine Mine.Internal.hold ?_))
      k_steps
      all_goals (try dsimp only)
      all_goals (refine' cend (l := [(st, _), (sd, _), (ds, _), (dd, _), (rce, _), (er, _), (q, _)]) (by assumption) (by assumption) (Mine.Internal.Take.sub (by ((try dsimp only); repeat' (first | exact Mine.Internal.Take.nil | exact Mine.Internal.Del.head | refine' Mine.Internal.Take.blk ?_ | exact Mine.Internal.Tl.nil | exact Mine.Internal.Tl.app | refine' Mine.Internal.Take.cons ?_ ?_ | refine' Mine.Internal.Del.tail ?_ | refine' Mine.Internal.Tl.cons ?_)))) ?_)
      all_goals (exact ⟨y, flat ws, _, sok, rfl, hL, hws, hst, rfl⟩)
  have ctr_tinit {w : World} {loose : List Str} {mean : ExcName → Option Value} {mg mb : Str → Option Value} {za zd : Addr} {src : Str} {tsr : Tok} (hk : @LT.lt Nat _ zd za) (hs : src.length ≤ 10000) (hsu : ∀ c ∈ src.cps.toList, c < 55296) :
      CtrC PySem.Challenge.rw_te0076_05.row.prog w (main.heap_1_39 w.params) (Top main.view_1_40 loose mean mg mb) 480 800 (.ref 261) ⟨[.ref za, .str src tsr], []⟩ [(za, instObj 762 zd), (zd, W.dictOf [] 0)]
        (Mine.Internal.InitP 762 za zd (Mine.Internal.TinitP w src tsr)) := by
    as_aux_lemma =>
      clear ctr_is_invalid ctr_charErrors ctr_read ctr_readE ctr_position0 ctr_unget ctr_ungetN ctr_ungetS ctr_readN ctr_readC ctr_readA ctr_char ctr_until
      k_with_none
      k_with "pos" => (repeat' (first | exact Mine.Internal.PosL.nil | (apply Mine.Internal.PosL.cons 0; exact rfl) | (apply Mine.Internal.PosL.cons 1; exact rfl) | (apply Mine.Internal.PosL.cons 2; exact rfl) | (apply Mine.Internal.PosL.cons 3; exact rfl) | (apply Mine.Internal.PosL.cons 4; exact rfl) | (apply Mine.Internal.PosL.cons 5; exact rfl) | (apply Mine.Internal.PosL.cons 6; exact rfl) | (apply Mine.Internal.PosL.cons 7; exact rfl) | (apply Mine.Internal.PosL.cons 8; exact rfl) | (apply Mine.Internal.PosL.cons 9; exact rfl) | (apply Mine.Internal.PosL.cons 10; exact rfl) | (apply Mine.Internal.PosL.cons 11; exact rfl) | (apply Mine.Internal.PosL.cons 12; exact rfl) | (apply Mine.Internal.PosL.cons 13; exact rfl) | (apply Mine.Internal.PosL.cons 14; exact rfl) | (apply Mine.Internal.PosL.cons 15; exact rfl) | (apply Mine.Internal.PosL.cons 16; exact rfl) | (apply Mine.Internal.PosL.cons 17; exact rfl) | (apply Mine.Internal.PosL.cons 18; exact rfl) | (apply Mine.Internal.PosL.cons 19; exact rfl) | (apply Mine.Internal.PosL.cons 20; exact rfl) | (apply Mine.Internal.PosL.cons 21; exact rfl) | (apply Mine.Internal.PosL.cons 22; exact rfl) | (apply Mine.Internal.PosL.cons 23; exact rfl)))
      k_with "slt" => exact Mine.Internal.Srt.lt (by with_reducible assumption) (by ((repeat (first | (with_reducible_and_instances refine Mine.Internal.Aft.here ?_; (repeat (first | with_reducible_and_instances exact List.Mem.head _ | with_reducible_and_instances refine List.Mem.tail _ ?_)); done) | with_reducible refine Mine.Internal.Aft.there ?_)); all_goals fail))
      k_with "take" => k_dflt ((try dsimp only); repeat' (first | exact Mine.Internal.Take.nil | exact Mine.Internal.Del.head | refine' Mine.Internal.Take.blk ?_ | exact Mine.Internal.Tl.nil | exact Mine.Internal.Tl.app | refine' Mine.Internal.Take.cons ?_ ?_ | refine' Mine.Internal.Del.tail ?_ | refine' Mine.Internal.Tl.cons ?_))
      k_with "upd" => (exact Mine.Internal.Srt.updP (by with_reducible assumption) (by repeat' (first | exact Mine.Internal.UpdI.head | refine' Mine.Internal.UpdI.tail ?_)) (by k_dflt (k_extra "pos")) (by exact rfl))
      k_with "all" => exact Mine.Internal.Ks.ne_all (by with_reducible assumption) (by first | exact .inr (by k_extra "slt") | exact .inl (by k_extra "slt"))
      k_with "ne" => (refine neN ?_; first | exact Mine.Internal.Srt.ne (by with_reducible assumption) (by with_reducible solve_by_elim (maxDepth := 40) only [Mine.Internal.Apart.l, Mine.Internal.Apart.r, Mine.Internal.Apart.t, List.Mem.head, List.Mem.tail]) | ((try dsimp only); omega))
      k_with "lt" => (intro h9l; first | ((with_reducible rename Mine.Internal.Srt _ => S8); (first | (have S9 := Mine.Internal.Srt.grow S8 (h9l (_, _) (by k_dflt k_mem)); clear S8) | (have S9 := Mine.Internal.Srt.grow S8.tl (h9l (_, _) (by k_dflt k_mem)); clear S8) | (have S9 := Mine.Internal.Srt.grow S8.tl.tl (h9l (_, _) (by k_dflt k_mem)); clear S8)); clear h9l) | (replace h9l := allLt_of h9l; simp only [AllLt, and_true] at h9l))
      k_with "getMethod ref" => (k_here; k_dflt (first | (refine' method_inst ?k1_tinit ?k2_tinit ?k3_tinit ?k4_tinit ?k5_tinit ?k6_tinit ?k7_tinit ?_; (case k1_tinit => k_asm); (case k2_tinit => k_asm); (case k3_tinit => k_inst); (case k4_tinit => k_is); (case k5_tinit => k_is); (case k6_tinit => k_is); (case k7_tinit => k_get); k_whole) | (refine' kmu_own ?k1_tinit ?k2_tinit ?k3_tinit ?k4_tinit ?k5_tinit ?_; (case k1_tinit => k_asm); (case k2_tinit => k_asm); (case k3_tinit => k_inst); (case k4_tinit => k_is); (case k5_tinit => k_is); k_whole)))
      k_with "getMethod ref" => (k_here; (with_reducible show wpAny _ _ (getMethod (Value.ref _) (PySem.Str.ofString "append") _) _ _ _); k_dflt (refine' kl_method ?N_tinit ?m_tinit slot_list_append type_list_append ?_; (case N_tinit => k_asm); (case m_tinit => k_mem); k_whole))
      k_with "execs cons" => (k_here; (with_reducible show wpAny _ _ _ _ _ (Shared.mk _ _ _ (_ + _) _)); (refine Mine.Internal.gentoks ?_); intro tkg9 htk9; (try dsimp only at htk9))
      k_with "size" => k_dflt (first | exact Nat.le_of_ble_eq_true rfl | ((with_reducible show Array.size (List.toArray _) ≤ PySem.sizeLine); rw [List.size_toArray, PySem.sizeLine_eq]; refine Nat.le_trans (m := 100002) ?_ (Nat.le_of_ble_eq_true rfl); first | with_reducible assumption | exact Nat.le_trans (m := 100000) (by with_reducible assumption) (Nat.le_of_ble_eq_true rfl)))
      k_with "subscriptTail Name Constant ref int" => k_extra "subscriptTail"
      k_with "tok" => (first | exact Nat.le_add_left 1 _ | with_reducible assumption | exact Nat.le_trans (Nat.le_add_left 1 _) (by with_reducible assumption))
      k_with "next" => (first | ((with_reducible refine Mine.Internal.nextS (g := gens9) (d := dr9) (o := os9) ?_); intro qk9 tkg9) | ((with_reducible refine Mine.Internal.lastS (g := gens9) (d := dr9) (o := os9) ?_); intro tkg9) | (with_reducible refine Mine.Internal.nilS ?_) | (with_reducible refine Mine.Internal.fin9 ?_) | (with_reducible refine Mine.Internal.fin0 ?_) | (with_reducible refine Mine.Internal.finS9 ?_) | (with_reducible refine Mine.Internal.finS0 ?_) | ((with_reducible refine Mine.Internal.nextU (g := gens9) (d := dr9) (o := os9) ?_ ?_); (k_extra "tok"); intro qk9 tkg9) | ((with_reducible refine Mine.Internal.lastU (g := gens9) (d := dr9) (o := os9) ?_ ?_); (k_extra "tok"); intro tkg9) | ((with_reducible refine Mine.Internal.nextZ (g := gens9) (d := dr9) (o := os9) ?_); intro qk9 tkg9) | ((with_reducible refine Mine.Internal.lastZ (g := gens9) (d := dr9) (o := os9) ?_); intro tkg9))
      k_with "execs cons" => k_extra "next"
      k_with "eval Constant int" => (with_reducible refine Mine.Internal.c_int (g := gens9) (d := dr9) (o := os9) ?_)
      k_with "eval Constant str" => (with_reducible refine Mine.Internal.c_str (g := gens9) (d := dr9) (o := os9) ?_)
      k_with "setAttr ref" => (first | (k_here; ktx_write) | (k_here; k_dflt (refine' Mine.Internal.st_attr (gs := gens9) (d := dr9) (o := os9) ?sF_tinit ?sX_tinit ?sN_tinit ?s1_tinit ?s2_tinit ?ss_tinit ?sp_tinit ?st_tinit ?sh_tinit ?sl_tinit ?se_tinit ?sU_tinit ?sz_tinit ?_; (case sF_tinit => k_asm); (case sX_tinit => k_asm); (case sN_tinit => k_asm); (case s1_tinit => k_mem); (case s2_tinit => k_mem); (case ss_tinit => k_is); (case sp_tinit => k_is); (case st_tinit => k_is); (case sh_tinit => k_is); (case sl_tinit => k_get); (case se_tinit => k_put); (case sU_tinit => k_upd); (case sz_tinit => exact Nat.le_of_ble_eq_true rfl); k_whole; intro h' F' N'; (try k_sweep))))
      k_with "storeName" => (first | (k_here; ktx_write) | (k_here; k_dflt (refine' Mine.Internal.st_name (gs := gens9) (d := dr9) (o := os9) ?tF_tinit ?tN_tinit ?_; (case tF_tinit => k_asm); (case tN_tinit => k_asm); k_whole; intro m9 h' F' N'; (try k_sweep))))
      k_with "lt2" => (intro h9l; (replace h9l := ltN h9l; (with_reducible rename Mine.Internal.Srt _ => S8); (have S9 := Mine.Internal.Srt.grow S8 h9l); clear S8; clear h9l))
      k_fill
      refine' ctr_introN (binds := [("self", .ref za), ("stream", .str src tsr), ("parser", .none)]) (fun h h' T k => T.keeps k) (fun h T => T.nolimit) ?ho_tinit ?hcd_tinit ?hD_tinit ?hb_tinit ?hl_tinit ?_ ?hc_tinit ?c1_tinit ?c2_tinit ?c3_tinit
      case ho_tinit => k_is
      case hcd_tinit => k_is
      case hD_tinit => decide
      case hb_tinit => (intro s X; (try (rcases hargs with ⟨rfl, rfl, rfl⟩ | ⟨rfl, rfl⟩)); all_goals (first | exact BindsTo.of_eq rfl | exact binds_K X rfl (by k_is) rfl rfl rfl))
      case hl_tinit => exact locs rfl
      case hc_tinit => decide
      case c1_tinit => exact rfl
      case c2_tinit => exact rfl
      case c3_tinit => exact rfl
      intro A base g env outer L' h₁ hs9 gens9 dr9 t09 os9 tk B' F' X' N' T' l1
      intro e9 A9 q9
      (try clear l1)
      (try dsimp only at N')
      first | have S0 := Mine.Internal.Srt.eight ho hk hat | have S0 := Mine.Internal.Srt.grow (Mine.Internal.Srt.six ho) hoq | have S0 := Mine.Internal.Srt.five ho hk | have S0 := Mine.Internal.Srt.six ho | have S0 := Mine.Internal.Srt.two ho | have S0 := Mine.Internal.Srt.two hk | skip

      k_steps
      refine' cendF (fr := [(?q_st_tinit, instObj 166 ?q_sd_tinit), (?q_sd_tinit, dictOf (sdict w.params ?q_k0_tinit ?q_k1_tinit ?q_k2_tinit ?q_k3_tinit ?q_k4_tinit ?q_k5_tinit ?q_k6_tinit ?q_k7_tinit ?q_k8_tinit ?q_k9_tinit ?q_rce_tinit ?q_nl_tinit ?q_ds_tinit ?q_chunk_tinit ?q_tc_tinit ?q_size_tinit ?q_ts_tinit ?q_off_tinit ?q_to_tinit ?q_er_tinit ?q_pl_tinit ?q_tl_tinit ?q_pc_tinit ?q_tp_tinit ?q_buf_tinit) 10), (?q_ds_tinit, instObj 73 ?q_dd_tinit), (?q_dd_tinit, dictOf (tdict w.params ?q_j0_tinit ?q_j1_tinit src tsr ?q_place_tinit ?q_tpl_tinit) 2), (?q_rce_tinit, methodObj (.ref 148) (.ref ?q_st_tinit)), (?q_er_tinit, W.listOf [].toArray ?q_n_tinit)]) (l := [(za, instObj 762 zd), (zd, ?zo_tinit)]) ?F_tinit ?N_tinit (Mine.Internal.Take.sub ?tk_tinit) ?hf_tinit ?P_tinit
      case F_tinit => assumption
      case N_tinit => assumption
      case tk_tinit => (k_extra "take")
      case hf_tinit => (simp only [List.forall_mem_cons, List.not_mem_nil, false_implies, implies_true, and_true, true_and]; (repeat' (refine And.intro ?_ ?_)); all_goals k_ne)
      case P_tinit =>
        refine' ⟨rfl, _, rfl, Mine.Internal.TinitP.mk _ _ _ _ _ _ _ _ _ _ _ _ _ _ _ _ _ _ _ ⟨_, _, _, _, _, _, _, _, _, _, _, [], _, _, [], _⟩ _ _ _ _ _ _ _ _ _ _ _ _ _ ?ord_tinit ?ok_tinit ?rem_tinit⟩
        case ord_tinit => (refine ⟨?_, ?_, ?_, ?_, ?_⟩ <;> first | exact (by k_extra "slt") | omega)
        case ok_tinit => exact Mine.Internal.ok_start hs hsu
        case rem_tinit => exact Mine.Internal.rem_start hs
  have call_char {w : World} {loose : List Str} {mean : ExcName → Option Value} {mg mb : Str → Option Value} {K : Ks} {x : St} {A A₀ : Around} {base h₀ : Heap} {env : Env} {outer : List Env} {L : Addr} {m : Str → Option Value} {s : Shared} {Q E : Value → Shared → Prop} {N rest : Led} (ho : K.ord) (ok : x.ok K.src) (B : Below A₀ base outer h₀) (F : Fr h₀ L s.heap m) (X : (main.heap_1_39 w.params).In h₀) (T : (Top main.view_1_40 loose mean mg mb) h₀) (hA : A.frames = some (env :: outer)) (hf : env.frame = some L) (hke : env.scope.kind = .function) (hh : A.handled = none) (hdd : A.depth ≤ 460) (hu : A.units ≤ 600) (Nw : News h₀ L s.heap N) (tk : Take (K.led w x) N rest) (hne : Outs K rest)
      (hQ : ∀ (x' : St) (v : Value) (h' : Heap) (tk' : Nat), x'.ok K.src → CvIs K.src x' v (x.rem K.src) → @LE.le Nat _ s.toks tk' → Fr h₀ L h' m → News h₀ L h' (rest ++ K.led w x') → Q v { s with heap := h', toks := tk' }) :
      wpAny (model PySem.Challenge.rw_te0076_05.row.prog w) A (PySem.call (.ref 133) [.ref K.st] []) Q E s := by
    as_aux_lemma =>
      clear ctr_is_invalid ctr_charErrors ctr_read ctr_readE ctr_position0 ctr_unget ctr_ungetN ctr_ungetS ctr_readN ctr_readC ctr_readA ctr_until ctr_tinit
      have C : CtrC PySem.Challenge.rw_te0076_05.row.prog w (main.heap_1_39 w.params) (Top main.view_1_40 loose mean mg mb) 460 600 (.ref 133) ⟨[.ref K.st], []⟩ (K.led w x) (noF fun v l => ∃ x' : St, x'.ok K.src ∧ CvIs K.src x' v (x.rem K.src) ∧ l = K.led w x') := by
        simp only [Ks.led_eq]
        exact ctr_char (x := x) ho ok
      refine CtrC.call C A A₀ base h₀ env outer L m s Q E rest B F X (tk.news Nw) T hA hf hke hh hdd hu (hne.ne ho) ?_
      intro v fr l' h' tk' hp ht _ F' N'
      obtain ⟨rfl, x', ok', hx', rfl⟩ := hp
      exact hQ x' v h' tk' ok' hx' ht F' (fun p hp => N' p (by (try rw [List.nil_append]); exact (List.mem_append.mp hp).elim (List.mem_append_right _) (List.mem_append_left _)))
  have call_unget {w : World} {loose : List Str} {mean : ExcName → Option Value} {mg mb : Str → Option Value} {K : Ks} {x : St} {c : Nat} {t0 : Tok} {A A₀ : Around} {base h₀ : Heap} {env : Env} {outer : List Env} {L : Addr} {m : Str → Option Value} {s : Shared} {Q E : Value → Shared → Prop} {N rest : Led} (ho : K.ord) (ok : x.ok K.src) (h1 : 1 ≤ x.off) (hc : x.chunk.cps[(x.off - 1).toNat]? = some c) (B : Below A₀ base outer h₀) (F : Fr h₀ L s.heap m) (X : (main.heap_1_39 w.params).In h₀) (T : (Top main.view_1_40 loose mean mg mb) h₀) (hA : A.frames = some (env :: outer)) (hf : env.frame = some L) (hke : env.scope.kind = .function) (hh : A.handled = none) (hdd : A.depth ≤ 460) (hu : A.units ≤ 600) (Nw : News h₀ L s.heap N) (tk : Take (K.led w x) N rest) (hne : Outs K rest)
      (hQ : ∀ (x' : St) (h' : Heap) (tk' : Nat), x'.ok K.src → x'.rem K.src = c :: x.rem K.src → @LE.le Nat _ s.toks tk' → Fr h₀ L h' m → News h₀ L h' (rest ++ K.led w x') → Q .none { s with heap := h', toks := tk' }) :
      wpAny (model PySem.Challenge.rw_te0076_05.row.prog w) A (PySem.call (.ref 163) [.ref K.st, .str ⟨#[c]⟩ t0] []) Q E s := by
    as_aux_lemma =>
      clear ctr_is_invalid ctr_charErrors ctr_read ctr_readE ctr_position0 ctr_unget ctr_ungetN ctr_readN ctr_readC ctr_readA ctr_char ctr_until ctr_tinit call_char
      have C : CtrC PySem.Challenge.rw_te0076_05.row.prog w (main.heap_1_39 w.params) (Top main.view_1_40 loose mean mg mb) 460 600 (.ref 163) ⟨[.ref K.st, .str ⟨#[c]⟩ t0], []⟩ (K.led w x) (noF fun v l => v = .none ∧ ∃ x' : St, x'.ok K.src ∧ x'.rem K.src = c :: x.rem K.src ∧ l = K.led w x') := by
        simp only [Ks.led_eq]
        exact ctr_ungetS (x := x) ho ok h1 hc
      refine CtrC.call C A A₀ base h₀ env outer L m s Q E rest B F X (tk.news Nw) T hA hf hke hh hdd hu (hne.ne ho) ?_
      intro v fr l' h' tk' hp ht _ F' N'
      obtain ⟨rfl, rfl, x', ok', hx', rfl⟩ := hp
      exact hQ x' h' tk' ok' hx' ht F' (fun p hp => N' p (by (try rw [List.nil_append]); exact (List.mem_append.mp hp).elim (List.mem_append_right _) (List.mem_append_left _)))
  have call_ungetN {w : World} {loose : List Str} {mean : ExcName → Option Value} {mg mb : Str → Option Value} {st : Addr} {A A₀ : Around} {base h₀ : Heap} {env : Env} {outer : List Env} {L : Addr} {m : Str → Option Value} {s : Shared} {Q E : Value → Shared → Prop} {N : Led} (B : Below A₀ base outer h₀) (F : Fr h₀ L s.heap m) (X : (main.heap_1_39 w.params).In h₀) (T : (Top main.view_1_40 loose mean mg mb) h₀) (hA : A.frames = some (env :: outer)) (hf : env.frame = some L) (hke : env.scope.kind = .function) (hh : A.handled = none) (hdd : A.depth ≤ 460) (hu : A.units ≤ 600) (Nw : News h₀ L s.heap N)
      (hQ : ∀ (h' : Heap) (tk' : Nat), @LE.le Nat _ s.toks tk' → Fr h₀ L h' m → News h₀ L h' N → Q .none { s with heap := h', toks := tk' }) :
      wpAny (model PySem.Challenge.rw_te0076_05.row.prog w) A (PySem.call (.ref 163) [.ref st, .none] []) Q E s := by
    as_aux_lemma =>
      clear ctr_is_invalid ctr_charErrors ctr_read ctr_readE ctr_position0 ctr_unget ctr_ungetS ctr_readN ctr_readC ctr_readA ctr_char ctr_until ctr_tinit call_char call_unget
      refine CtrC.call ctr_ungetN A A₀ base h₀ env outer L m s Q E N B F X Nw T hA hf hke hh hdd hu (fun _ _ => List.forall_mem_nil _) ?_
      intro v fr l' h' tk' hp ht _ F' N'
      obtain ⟨rfl, rfl, rfl⟩ := hp
      exact hQ h' tk' ht F' N'
  have call_until {w : World} {loose : List Str} {mean : ExcName → Option Value} {mg mb : Str → Option Value} {K : Ks} {x : St} {q : Addr} {vs0 : List Value} {ys0 : List Str} {al : Nat → Bool} {A A₀ : Around} {base h₀ : Heap} {env : Env} {outer : List Env} {L : Addr} {m : Str → Option Value} {s : Shared} {Q E : Value → Shared → Prop} {N rest : Led} (ho : K.ord) (hoq : @LT.lt Nat _ K.er q) (ok : x.ok K.src) (hvs0 : StrsAre vs0 ys0) (hal0 : ∀ c : Nat, ys0.any (· == ⟨#[c]⟩) = al c) (B : Below A₀ base outer h₀) (F : Fr h₀ L s.heap m) (X : (main.heap_1_39 w.params).In h₀) (T : (Top main.view_1_40 loose mean mg mb) h₀) (hA : A.frames = some (env :: outer)) (hf : env.frame = some L) (hke : env.scope.kind = .function) (hh : A.handled = none) (hdd : A.depth ≤ 460) (hu : A.units ≤ 600) (Nw : News h₀ L s.heap N)
      (tk : Take ((q, tupO vs0) :: K.led w x) N rest) (hne : Outs K rest) (hnq : ∀ p ∈ rest, @LT.lt Nat _ p.1 q)
      (hQ : ∀ (x' : St) (p : List Nat) (t : Tok) (h' : Heap) (tk' : Nat), x'.ok K.src → x.rem K.src = p ++ x'.rem K.src → (∀ c ∈ p, al c = false) → (∀ c t, x'.rem K.src = c :: t → al c = true) → @LE.le Nat _ s.toks tk' → Fr h₀ L h' m → News h₀ L h' (rest ++ K.led w x') → Q (.str ⟨p.toArray⟩ t) { s with heap := h', toks := tk' }) :
      wpAny (model PySem.Challenge.rw_te0076_05.row.prog w) A (PySem.call (.ref 156) [.ref K.st, .ref q] []) Q E s := by
    as_aux_lemma =>
      clear ctr_is_invalid ctr_charErrors ctr_read ctr_readE ctr_position0 ctr_unget ctr_ungetN ctr_ungetS ctr_readN ctr_readC ctr_readA ctr_char ctr_tinit call_char call_unget call_ungetN
      have C : CtrC PySem.Challenge.rw_te0076_05.row.prog w (main.heap_1_39 w.params) (Top main.view_1_40 loose mean mg mb) 460 600 (.ref 156) ⟨[.ref K.st, .ref q], []⟩ (K.led w x ++ [(q, tupO vs0)]) (noF fun v l => ∃ (x' : St) (p : List Nat) (t : Tok), x'.ok K.src ∧ v = .str ⟨p.toArray⟩ t ∧ x.rem K.src = p ++ x'.rem K.src ∧ (∀ c ∈ p, al c = false) ∧ (∀ c t, x'.rem K.src = c :: t → al c = true) ∧ l = K.led w x' ++ [(q, tupO vs0)]) := by
        simp only [Ks.led_eq, List.cons_append, List.nil_append]
        exact ctr_until (x := x) ho hoq ok hvs0 hal0
      refine CtrC.call C A A₀ base h₀ env outer L m s Q E rest B F X (fun p hp => tk.news Nw p ?_) T hA hf hke hh hdd hu ?_ ?_
      · simp only [List.mem_append, List.mem_cons, List.not_mem_nil, or_false] at hp ⊢
        rcases hp with (h | h) | h
        · exact .inl (.inr h)
        · exact .inl (.inl h)
        · exact .inr h
      · intro p hp z hz
        rcases List.mem_append.mp hz with hz | hz
        · exact hne.ne ho p hp z hz
        · cases List.mem_singleton.mp hz
          exact Nat.ne_of_lt (hnq p hp)
      intro v fr l' h' tk' hp ht _ F' N'
      obtain ⟨rfl, x', y, t, ok', rfl, hr, ha, hs, rfl⟩ := hp
      refine hQ x' y t h' tk' ok' hr ha hs ht F' (fun p hp => N' p ?_)
      simp only [List.nil_append, List.mem_append] at hp ⊢
      rcases hp with h | h
      · exact .inr h
      · exact .inl (.inl h)
  have call_tok {w : World} {loose : List Str} {mean : ExcName → Option Value} {mg mb : Str → Option Value} {src : Str} {tsr : Tok} {A A₀ : Around} {base h₀ : Heap} {env : Env} {outer : List Env} {L : Addr} {m : Str → Option Value} {s : Shared} {Q E : Value → Shared → Prop} {N : Led} (hs : src.length ≤ 10000) (hsu : ∀ c ∈ src.cps.toList, c < 55296) (B : Below A₀ base outer h₀) (F : Fr h₀ L s.heap m) (X : (main.heap_1_39 w.params).In h₀) (T : (Top main.view_1_40 loose mean mg mb) h₀) (hA : A.frames = some (env :: outer)) (hf : env.frame = some L) (hke : env.scope.kind = .function) (hh : A.handled = none) (hdd : A.depth ≤ 479) (hu : A.units ≤ 791) (Nw : News h₀ L s.heap N)
      (hQ : ∀ (K : Ks) (Z : Kz) (x : St) (h' : Heap) (tk' : Nat), K.ord → @LT.lt Nat _ Z.zd Z.za ∧ @LT.lt Nat _ Z.za K.sd → (∀ p ∈ N, @LT.lt Nat _ p.1 Z.zd) → K.src = src → x.ok K.src → x.rem K.src = mendL src.cps.toList → @LE.le Nat _ s.toks tk' → Fr h₀ L h' m →
        News h₀ L h' ((Z.za, instObj 762 Z.zd) :: (Z.zd, Z.kd7 w K.st) :: (N ++ K.led w x)) → Q (.ref Z.za) { s with heap := h', toks := tk' }) :
      wpAny (model PySem.Challenge.rw_te0076_05.row.prog w) A (PySem.call (.ref 762) [.str src tsr] []) Q E s := by
    as_aux_lemma =>
      clear ctr_is_invalid ctr_charErrors ctr_read ctr_readE ctr_position0 ctr_unget ctr_ungetN ctr_ungetS ctr_readN ctr_readC ctr_readA ctr_char ctr_until call_char call_unget call_ungetN call_until
      have C : Ctr PySem.Challenge.rw_te0076_05.row.prog w (main.heap_1_39 w.params) (Top main.view_1_40 loose mean mg mb) 479 791 (PySem.call (.ref 762) [.str src tsr] []) [] (ClsP 762 (TinitP w src tsr)) := by
        k_fill
        exact CtrC.cls (fI := 261) (by k_is) (by k_is) (by k_is) (fun x9 d9 l9 => ctr_tinit l9 hs hsu)
      refine C A A₀ base h₀ env outer L m s Q E N B F X Nw T hA hf hke hh hdd hu (fun _ _ => List.forall_mem_nil _) ?_
      intro v fr l' h' tk' hp ht hfr F' N'
      obtain ⟨rfl, za, zd, d, fq, hzd, hfz, rfl, rfl, st, sd, k0, k1, k2, k3, k4, k5, k6, k7, k8, k9, rce, nl, ds, er, dd, j0, j1, x, m0, m1, m2, m3, m4, m5, m6, v1, v2, v3, v4, v5, v6, ho, ok, hrem⟩ := hp
      refine hQ ⟨st, sd, k0, k1, k2, k3, k4, k5, k6, k7, k8, k9, rce, nl, ds, er, dd, j0, j1, src, tsr⟩ ⟨za, zd, m0, m1, m2, m3, m4, m5, m6, v1, v2, v3, v4, v5, v6⟩ x h' tk' ho ⟨hzd, hfz (sd, _) (.tail _ (.head _))⟩ (fun p hp => hfr (zd, _) (List.mem_append_right _ (.tail _ (.head _))) p (by simpa using hp)) rfl ok hrem ht F' (fun p hp => N' p ?_)
      simp only [Ks.led_eq, List.mem_append, List.mem_cons, List.not_mem_nil, or_false] at hp ⊢
      rcases hp with h | h | h | h
      · exact .inl (.inr (.inl h))
      · exact .inl (.inr (.inr h))
      · exact .inr h
      · exact .inl (.inl h)
  have ctr_cne {w : World} {loose : List Str} {mean : ExcName → Option Value} {mg mb : Str → Option Value} {K : Ks} {Z : Kz} {m7 : Tok} {tq : Addr} {qs : List Value} {qn : Nat} {x : St} {hex : Bool} {ds0 r0 : List Nat} (ho : K.ord) (hk : @LT.lt Nat _ Z.zd Z.za ∧ @LT.lt Nat _ Z.za K.sd ∧ @LT.lt Nat _ K.er tq) (ok : x.ok K.src) (hL0 : x.rem K.src = ds0 ++ r0) (h0 : ∀ d ∈ ds0, alD hex d = true) (hr0 : ∀ c t, r0 = c :: t → alD hex c = false) (hne0 : ds0 ≠ []) (hn0 : ds0.length ≤ 640) {z : Int} (hz : ((numV (baseOf hex) ds0 : Nat) : Int) = z) (hz0 : 0 ≤ z) (hq : qs.length ≤ 100000) :
      CtrC PySem.Challenge.rw_te0076_05.row.prog w (main.heap_1_39 w.params) (Top main.view_1_40 loose mean mg mb) 450 500 (.ref 275) ⟨[.ref Z.za, .bool hex], []⟩ ((Z.za, instObj 762 Z.zd) :: (Z.zd, Z.kd w K.st m7 tq) :: (tq, W.listOf qs.toArray qn) :: K.led w x)
        (Mine.Internal.CneP PySem.Challenge.rw_te0076_05.row.prog w K Z m7 tq qs z r0) := by
    as_aux_lemma =>
      clear ctr_is_invalid ctr_charErrors ctr_read ctr_readE ctr_position0 ctr_unget ctr_ungetN ctr_ungetS ctr_readN ctr_readC ctr_readA ctr_char ctr_until ctr_tinit call_until call_tok
      k_with_none
      k_with "pos" => (repeat' (first | exact Mine.Internal.PosL.nil | (apply Mine.Internal.PosL.cons 0; exact rfl) | (apply Mine.Internal.PosL.cons 1; exact rfl) | (apply Mine.Internal.PosL.cons 2; exact rfl) | (apply Mine.Internal.PosL.cons 3; exact rfl) | (apply Mine.Internal.PosL.cons 4; exact rfl) | (apply Mine.Internal.PosL.cons 5; exact rfl) | (apply Mine.Internal.PosL.cons 6; exact rfl) | (apply Mine.Internal.PosL.cons 7; exact rfl) | (apply Mine.Internal.PosL.cons 8; exact rfl) | (apply Mine.Internal.PosL.cons 9; exact rfl) | (apply Mine.Internal.PosL.cons 10; exact rfl) | (apply Mine.Internal.PosL.cons 11; exact rfl) | (apply Mine.Internal.PosL.cons 12; exact rfl) | (apply Mine.Internal.PosL.cons 13; exact rfl) | (apply Mine.Internal.PosL.cons 14; exact rfl) | (apply Mine.Internal.PosL.cons 15; exact rfl) | (apply Mine.Internal.PosL.cons 16; exact rfl) | (apply Mine.Internal.PosL.cons 17; exact rfl) | (apply Mine.Internal.PosL.cons 18; exact rfl) | (apply Mine.Internal.PosL.cons 19; exact rfl) | (apply Mine.Internal.PosL.cons 20; exact rfl) | (apply Mine.Internal.PosL.cons 21; exact rfl) | (apply Mine.Internal.PosL.cons 22; exact rfl) | (apply Mine.Internal.PosL.cons 23; exact rfl)))
      k_with "slt" => exact Mine.Internal.Srt.lt (by with_reducible assumption) (by ((repeat (first | (with_reducible_and_instances refine Mine.Internal.Aft.here ?_; (repeat (first | with_reducible_and_instances exact List.Mem.head _ | with_reducible_and_instances refine List.Mem.tail _ ?_)); done) | with_reducible refine Mine.Internal.Aft.there ?_)); all_goals fail))
      k_with "take" => k_dflt ((try dsimp only); repeat' (first | exact Mine.Internal.Take.nil | exact Mine.Internal.Del.head | refine' Mine.Internal.Take.blk ?_ | exact Mine.Internal.Tl.nil | exact Mine.Internal.Tl.app | refine' Mine.Internal.Take.cons ?_ ?_ | refine' Mine.Internal.Del.tail ?_ | refine' Mine.Internal.Tl.cons ?_))
      k_with "upd" => (exact Mine.Internal.Srt.updP (by with_reducible assumption) (by repeat' (first | exact Mine.Internal.UpdI.head | refine' Mine.Internal.UpdI.tail ?_)) (by k_dflt (k_extra "pos")) (by exact rfl))
      k_with "all" => exact Mine.Internal.Ks.ne_all (by with_reducible assumption) (by first | exact .inr (by k_extra "slt") | exact .inl (by k_extra "slt"))
      k_with "ne" => (refine neN ?_; first | exact Mine.Internal.Srt.ne (by with_reducible assumption) (by with_reducible solve_by_elim (maxDepth := 40) only [Mine.Internal.Apart.l, Mine.Internal.Apart.r, Mine.Internal.Apart.t, List.Mem.head, List.Mem.tail]) | ((try dsimp only); omega))
      k_with "lt" => (intro h9l; first | ((with_reducible rename Mine.Internal.Srt _ => S8); (first | (have S9 := Mine.Internal.Srt.grow S8 (h9l (_, _) (by k_dflt k_mem)); clear S8) | (have S9 := Mine.Internal.Srt.grow S8.tl (h9l (_, _) (by k_dflt k_mem)); clear S8) | (have S9 := Mine.Internal.Srt.grow S8.tl.tl (h9l (_, _) (by k_dflt k_mem)); clear S8)); clear h9l) | (replace h9l := allLt_of h9l; simp only [AllLt, and_true] at h9l))
      k_with "subscriptTail" => (k_here; (with_reducible show wpAny _ _ (subscriptTail _ _ (Value.str _ _) (Value.int _ _)) _ _ _); (refine Mine.Internal.sub_chr (by omega) (by omega) (by assumption) ?_))
      k_with "getMethod ref" => (k_here; k_dflt (first | (refine' method_inst ?k1_cne ?k2_cne ?k3_cne ?k4_cne ?k5_cne ?k6_cne ?k7_cne ?_; (case k1_cne => k_asm); (case k2_cne => k_asm); (case k3_cne => k_inst); (case k4_cne => k_is); (case k5_cne => k_is); (case k6_cne => k_is); (case k7_cne => k_get); k_whole) | (refine' kmu_own ?k1_cne ?k2_cne ?k3_cne ?k4_cne ?k5_cne ?_; (case k1_cne => k_asm); (case k2_cne => k_asm); (case k3_cne => k_inst); (case k4_cne => k_is); (case k5_cne => k_is); k_whole)))
      k_with "getMethod ref" => (k_here; (with_reducible show wpAny _ _ (getMethod (Value.ref _) (PySem.Str.ofString "append") _) _ _ _); k_dflt (refine' kl_method ?N_cne ?m_cne slot_list_append type_list_append ?_; (case N_cne => k_asm); (case m_cne => k_mem); k_whole))
      k_with "execs cons" => (k_here; (with_reducible show wpAny _ _ _ _ _ (Shared.mk _ _ _ (_ + _) _)); (refine Mine.Internal.gentoks ?_); intro tkg9 htk9; (try dsimp only at htk9))
      k_with "exec Assign" => ((with_reducible show wpAny _ _ _ _ _ _); k_fold)
      k_with "exec If" => ((with_reducible show wpAny _ _ _ _ _ _); k_fold)
      k_with "exec While" => ((with_reducible show wpAny _ _ _ _ _ _); k_fold)
      k_with "size" => k_dflt (first | exact Nat.le_of_ble_eq_true rfl | ((with_reducible show Array.size (List.toArray _) ≤ PySem.sizeLine); rw [List.size_toArray, PySem.sizeLine_eq]; refine Nat.le_trans (m := 100002) ?_ (Nat.le_of_ble_eq_true rfl); first | with_reducible assumption | exact Nat.le_trans (m := 100000) (by with_reducible assumption) (Nat.le_of_ble_eq_true rfl)))
      k_with "subscriptTail Name Constant ref int" => k_extra "subscriptTail"
      k_with "tok" => (first | exact Nat.le_add_left 1 _ | with_reducible assumption | exact Nat.le_trans (Nat.le_add_left 1 _) (by with_reducible assumption))
      k_with "next" => (first | ((with_reducible refine Mine.Internal.nextS (g := gens9) (d := dr9) (o := os9) ?_); intro qk9 tkg9) | ((with_reducible refine Mine.Internal.lastS (g := gens9) (d := dr9) (o := os9) ?_); intro tkg9) | (with_reducible refine Mine.Internal.nilS ?_) | (with_reducible refine Mine.Internal.fin9 ?_) | (with_reducible refine Mine.Internal.fin0 ?_) | (with_reducible refine Mine.Internal.finS9 ?_) | (with_reducible refine Mine.Internal.finS0 ?_) | ((with_reducible refine Mine.Internal.nextU (g := gens9) (d := dr9) (o := os9) ?_ ?_); (k_extra "tok"); intro qk9 tkg9) | ((with_reducible refine Mine.Internal.lastU (g := gens9) (d := dr9) (o := os9) ?_ ?_); (k_extra "tok"); intro tkg9) | ((with_reducible refine Mine.Internal.nextZ (g := gens9) (d := dr9) (o := os9) ?_); intro qk9 tkg9) | ((with_reducible refine Mine.Internal.lastZ (g := gens9) (d := dr9) (o := os9) ?_); intro tkg9))
      k_with "execs cons" => k_extra "next"
      k_with "execs nil" => (with_reducible refine Mine.Internal.nilS ?_)
      k_with "eval Constant int" => (with_reducible refine Mine.Internal.c_int (g := gens9) (d := dr9) (o := os9) ?_)
      k_with "eval Constant str" => (with_reducible refine Mine.Internal.c_str (g := gens9) (d := dr9) (o := os9) ?_)
      k_with "eval Attribute Name" => (k_here; k_dflt (refine' Mine.Internal.at_name (gs := gens9) (d := dr9) (o := os9) ?nF_cne ?nX_cne ?nN_cne ?nv_cne ?n1_cne ?n2_cne ?ng_cne ?nh_cne ?na_cne ?nn_cne ?nl_cne ?nd_cne ?_; (case nF_cne => k_asm); (case nX_cne => k_asm); (case nN_cne => k_asm); (case nv_cne => exact rfl); (case n1_cne => k_mem); (case n2_cne => k_mem); (case ng_cne => k_is); (case nh_cne => k_is); (case na_cne => k_is); (case nn_cne => k_is); (case nl_cne => k_get); (case nd_cne => k_handed); k_whole))
      k_with "storeName" => (first | (k_here; ktx_write) | (k_here; k_dflt (refine' Mine.Internal.st_name (gs := gens9) (d := dr9) (o := os9) ?tF_cne ?tN_cne ?_; (case tF_cne => k_asm); (case tN_cne => k_asm); k_whole; intro m9 h' F' N'; (try k_sweep))))
      k_with "call ref" => refine Mine.Internal.hold ?_
      k_with "lt" => (intro h9l; ((with_reducible rename Mine.Internal.Srt _ => S8); (have S9 := Mine.Internal.Srt.grow S8 (h9l (_, _) (by k_dflt k_mem))); clear S8))
      k_with "ne" => (refine neN ?_; first | exact Mine.Internal.ne_by (by with_reducible assumption) (by k_dflt k_mem) | exact Mine.Internal.ne_by' (by with_reducible assumption) (by k_dflt k_mem) | exact Mine.Internal.Srt.ne (by with_reducible assumption) (by with_reducible solve_by_elim (maxDepth := 40) only [Mine.Internal.Apart.l, Mine.Internal.Apart.r, Mine.Internal.Apart.t, List.Mem.head, List.Mem.tail]))
      k_with "getMethod ref" => (k_here; (with_reducible show wpAny _ _ (getMethod (Value.ref (Mine.Internal.Ks.st _)) _ _) _ _ _); k_dflt (refine' Mine.Internal.meth_blk ?F_cne ?X_cne ?N_cne ?tk_cne ?hg_cne ?hf_cne ?ht_cne ?hl_cne ?_; (case F_cne => k_asm); (case X_cne => k_asm); (case N_cne => k_asm); (case tk_cne => (k_extra "take")); (case hg_cne => k_is); (case hf_cne => k_is); (case ht_cne => k_is); (case hl_cne => exact rfl); k_whole))
      k_with "call ref" => (k_here; (with_reducible show wpAny _ _ (call (Value.ref 133) _ _) _ _ _); k_dflt (refine' call_char ?p1_cne ?p2_cne ?cB_cne ?cF_cne ?cX_cne ?cT_cne ?ca_cne ?cb_cne ?cc_cne ?ce_cne ?cd_cne ?cu_cne ?cN_cne ?tk_cne ?ne_cne ?_; (case p1_cne => with_reducible assumption); (case p2_cne => with_reducible assumption); (case cF_cne => k_asm); (case cB_cne => k_asm); (case cX_cne => k_asm); (case cT_cne => k_asm); (case ca_cne => exact rfl); (case cb_cne => exact rfl); (case cc_cne => exact rfl); (case ce_cne => exact rfl); (case cd_cne => exact Nat.le_of_ble_eq_true rfl); (case cu_cne => exact Nat.le_of_ble_eq_true rfl); (case cN_cne => k_asm); (case tk_cne => (k_extra "take")); (case ne_cne => repeat' (first | exact Mine.Internal.Outs.nil | refine' Mine.Internal.Outs.hi (by with_reducible assumption) ?_ | refine' Mine.Internal.Outs.lo (by with_reducible assumption) ?_ | refine' Mine.Internal.Outs.hi (by k_extra "slt") ?_)); k_whole; intro x' v' h' tk' ok' hx' htk' F' N'; (try dsimp only at htk'); (try dsimp only [List.cons_append, List.nil_append] at N'); (try k_sweep); (try dsimp only); (try k_fold)))
      k_with "call ref" => (k_here; (with_reducible show wpAny _ _ (call (Value.ref 163) [Value.ref _, Value.none] _) _ _ _); k_dflt (refine' call_ungetN  ?cB_cne ?cF_cne ?cX_cne ?cT_cne ?ca_cne ?cb_cne ?cc_cne ?ce_cne ?cd_cne ?cu_cne ?cN_cne  ?_; (case cF_cne => k_asm); (case cB_cne => k_asm); (case cX_cne => k_asm); (case cT_cne => k_asm); (case ca_cne => exact rfl); (case cb_cne => exact rfl); (case cc_cne => exact rfl); (case ce_cne => exact rfl); (case cd_cne => exact Nat.le_of_ble_eq_true rfl); (case cu_cne => exact Nat.le_of_ble_eq_true rfl); (case cN_cne => k_asm); k_whole; intro h' tk' htk' F' N'; (try dsimp only at htk'); (try dsimp only [List.cons_append, List.nil_append] at N'); (try k_sweep); (try dsimp only); (try k_fold)))
      k_with "call ref" => (k_here; (with_reducible show wpAny _ _ (call (Value.ref 163) [Value.ref _, Value.str ⟨#[_]⟩ _] _) _ _ _); k_dflt (refine' call_unget ?p1_cne ?p2_cne ?p3_cne ?p4_cne ?cB_cne ?cF_cne ?cX_cne ?cT_cne ?ca_cne ?cb_cne ?cc_cne ?ce_cne ?cd_cne ?cu_cne ?cN_cne ?tk_cne ?ne_cne ?_; (case p1_cne => with_reducible assumption); (case p2_cne => with_reducible assumption); (case p3_cne => with_reducible assumption); (case p4_cne => with_reducible assumption); (case cF_cne => k_asm); (case cB_cne => k_asm); (case cX_cne => k_asm); (case cT_cne => k_asm); (case ca_cne => exact rfl); (case cb_cne => exact rfl); (case cc_cne => exact rfl); (case ce_cne => exact rfl); (case cd_cne => exact Nat.le_of_ble_eq_true rfl); (case cu_cne => exact Nat.le_of_ble_eq_true rfl); (case cN_cne => k_asm); (case tk_cne => (k_extra "take")); (case ne_cne => repeat' (first | exact Mine.Internal.Outs.nil | refine' Mine.Internal.Outs.hi (by with_reducible assumption) ?_ | refine' Mine.Internal.Outs.lo (by with_reducible assumption) ?_ | refine' Mine.Internal.Outs.hi (by k_extra "slt") ?_)); k_whole; intro x' h' tk' ok' hx' htk' F' N'; (try dsimp only at htk'); (try dsimp only [List.cons_append, List.nil_append] at N'); (try k_sweep); (try dsimp only); (try k_fold)))
      k_with "compareOp In" => (k_here; first
      | ((with_reducible show wpAny _ _ (compareOp CmpOp.In (Value.str ⟨#[_]⟩ _) (Value.ref (ite _ _ _))) _ _ _); k_dflt (refine' Mine.Internal.in_tupG ?F_cne ?X_cne ?hk1_cne ?hi1_cne ?he1_cne ?hk2_cne ?hi2_cne ?he2_cne ?_; (case F_cne => k_asm); (case X_cne => k_asm); (case hk1_cne => k_is); (case hk2_cne => k_is); (case hi1_cne => repeat' constructor); (case hi2_cne => repeat' constructor); (case he1_cne => exact Mine.Internal.hex_any); (case he2_cne => exact Mine.Internal.dec_any); k_whole))
      | ((with_reducible show wpAny _ _ (compareOp CmpOp.In Value.none (Value.ref (ite _ _ _))) _ _ _); k_dflt (refine' Mine.Internal.in_tupG_none ?F_cne ?X_cne ?hk1_cne ?hi1_cne ?hk2_cne ?hi2_cne ?_; (case F_cne => k_asm); (case X_cne => k_asm); (case hk1_cne => k_is); (case hk2_cne => k_is); (case hi1_cne => repeat' constructor); (case hi2_cne => repeat' constructor); k_whole)))
      k_with "subscriptTail" => (k_here; first
      | ((with_reducible show wpAny _ _ (subscriptTail _ _ (Value.ref 48) (Value.str _ _)) _ _ _); k_dflt (first | (refine' Mine.Internal.item_tok 7 ?F_cne ?X_cne ?he_cne ?hh_cne ?hl_cne ?_; (case hl_cne => kernel_rfl)) | (refine' Mine.Internal.item_tok 1 ?F_cne ?X_cne ?he_cne ?hh_cne ?hl_cne ?_; (case hl_cne => kernel_rfl)) | (refine' Mine.Internal.item_tok 2 ?F_cne ?X_cne ?he_cne ?hh_cne ?hl_cne ?_; (case hl_cne => kernel_rfl)) | (refine' Mine.Internal.item_tok 3 ?F_cne ?X_cne ?he_cne ?hh_cne ?hl_cne ?_; (case hl_cne => kernel_rfl))); (case F_cne => k_asm); (case X_cne => k_asm); (case he_cne => kernel_rfl); (case hh_cne => kernel_rfl); k_whole; intro t9)
      | ((with_reducible show wpAny _ _ (subscriptTail _ _ (Value.ref 46) (Value.int _ _)) _ _ _); k_dflt (refine' Mine.Internal.item_repl ?F_cne ?X_cne ?hk_cne ?hz_cne ?_; (case F_cne => k_asm); (case X_cne => k_asm); (case hk_cne => kernel_rfl); (case hz_cne => with_reducible assumption); k_whole); intro t9))
      k_with "eval Tuple" => (k_here; (with_reducible show wpAny _ _ (eval (Expr.Tuple _ _ _) _) _ _ _); k_dflt (refine' Mine.Internal.tuple_ints (ns := Mine.Internal.nonchL) ?F_cne ?N_cne ?hl_cne ?hz_cne ?_; (case F_cne => k_asm); (case N_cne => k_asm); (case hl_cne => exact rfl); (case hz_cne => decide +kernel); k_whole); intro h9 a9 kq9 items9 F9 N9 htup9 hint9; (try dsimp only); (try k_fold))
      k_with "compareOp In int ref" => (k_here; (with_reducible show wpAny _ _ (compareOp CmpOp.In (Value.int _ _) (Value.ref _)) _ _ _); first
      | ((with_reducible show wpAny _ _ (compareOp CmpOp.In (Value.int _ _) (Value.ref 46)) _ _ _); k_dflt (refine' Mine.Internal.in_repl ?F_cne ?X_cne ?hk_cne ?_; (case F_cne => k_asm); (case X_cne => k_asm); (case hk_cne => kernel_rfl); k_whole); intro b9 hb9; subst hb9)
      | k_dflt (refine' Mine.Internal.in_nums ?ht_cne ?hi_cne ?_; (case ht_cne => with_reducible assumption); (case hi_cne => with_reducible assumption); k_whole))
      k_with "eval Dict" => (k_here; (with_reducible show wpAny _ _ (eval (Expr.Dict (_ :: _) _ _) _) _ _ _); k_dflt (refine' kdn_str ?q_cne ?F_cne ?N_cne ?b_cne ?a_cne ?l_cne ?e_cne ?n_cne ?_; (case q_cne => rfl); (case F_cne => k_asm); (case N_cne => first | k_asm | exact News.nil); (case b_cne => exact Top.nolimit (by k_asm)); (case a_cne => rfl); (case l_cne => rfl); (case e_cne => exact List.cons_ne_nil _ _); (case n_cne => exact Nat.le_of_ble_eq_true rfl)); intro d' h' o' F' N' l1 lo' hd'; (try k_lt l1))
      k_with "callWith" => (k_here; (with_reducible show wpAny _ _ (callWith _ (Value.builtin _) (_ :: _) (backTo _ (starEach [Expr.Dict _ _ _] _)) []) _ _ _); k_dflt (refine callWith_method1 ?_; k_whole))
      k_with "spliced" => (k_here; (with_reducible show wpAny _ _ (spliced (backTo _ (starEach [Expr.Dict _ _ _] _))) _ _ _); k_dflt (refine args_cons ?_; k_whole))
      k_with "po" => (first | exact PySem.PassesOwn.never | exact PySem.PassesOwnAt.never | assumption | (intro _ _ h; exact h.elim) | skip)
      k_fill
      refine' ctr_introN (binds := [("self", .ref Z.za), ("isHex", .bool hex)]) (fun h h' T k => T.keeps k) (fun h T => T.nolimit) ?ho_cne ?hcd_cne ?hD_cne ?hb_cne ?hl_cne ?_ ?hc_cne ?c1_cne ?c2_cne ?c3_cne
      case ho_cne => k_is
      case hcd_cne => k_is
      case hD_cne => decide
      case hb_cne => (intro s X; (try (rcases hargs with ⟨rfl, rfl, rfl⟩ | ⟨rfl, rfl⟩)); all_goals (first | exact BindsTo.of_eq rfl | exact binds_K X rfl (by k_is) rfl rfl rfl))
      case hl_cne => exact locs rfl
      case hc_cne => decide
      case c1_cne => exact rfl
      case c2_cne => exact rfl
      case c3_cne => exact rfl
      intro A base g env outer L' h₁ hs9 gens9 dr9 t09 os9 tk B' F' X' N' T' l1
      intro e9 A9 q9
      (try clear l1)
      (try dsimp only at N')
      first | have S0 := Mine.Internal.Srt.eight ho hk hat | have S0 := Mine.Internal.Srt.grow (Mine.Internal.Srt.six ho) hoq | have S0 := Mine.Internal.Srt.five ho hk | have S0 := Mine.Internal.Srt.six ho | have S0 := Mine.Internal.Srt.two ho | have S0 := Mine.Internal.Srt.two hk | skip

      have hk1 := hk.2.2
      have hk2 := hk.2.1
      have hk3 := Nat.lt_trans hk.1 hk.2.1
      have htq9 := Mine.Internal.one_lt_tq5 ho hk
      k_with "exec If" => k_dflt ((fail_if_success (with_reducible show wpAny _ _ _ (Mine.Internal.MeetX _ _ _ _ _ _) _ _)); first
        | ((with_reducible show wpAny _ _ (exec (Stmt.If (Expr.Name _ _) _ _ _) _) _ _ _); (with_reducible rename Fr _ _ _ _ => F0); (with_reducible rename News _ _ _ _ => N0); (refine' Mine.Internal.wp_meetX (α := Tok) (fun c y => if y = Str.ofString "radix" then some (.int (if hex = true then 16 else 10) c) else if y = Str.ofString "allowed" then some (.ref (if hex = true then 37 else 32)) else List.lookup y ([(Str.ofString "self", Value.ref Z.za), (Str.ofString "isHex", Value.bool hex)].reverse)) (fun _ => (Z.za, instObj 762 Z.zd) :: (Z.zd, Z.kd w K.st m7 tq) :: (tq, W.listOf qs.toArray qn) :: K.led w x) (fun _ => True) F0 ?mxq_cne ?mxw_cne); (case' mxq_cne => (intro c9 h9 tk9 hp9 F9 N9; (clear F0 N0); (try dsimp only at F9); (try dsimp only at N9); (try dsimp only); (try k_fold))); (case' mxw_cne => cases hex))
        | ((with_reducible show wpAny _ _ (exec (Stmt.If (Expr.Compare _ [CmpOp.In] _ _) _ _ _) _) _ _ _); (with_reducible rename Fr _ _ _ _ => F0); (with_reducible rename News _ _ _ _ => N0); (refine' Mine.Internal.wp_meetC (v := fun c => .str ⟨#[sgZ z]⟩ c.t) (fun c => (c.a, c.oa) :: (c.b, c.ob) :: (Z.za, instObj 762 Z.zd) :: (Z.zd, Z.kd w K.st m7 tq) :: (tq, W.listOf (qs ++ c.fs z).toArray c.n) :: K.led w y) (Md.ok PySem.Challenge.rw_te0076_05.row.prog w z tq) F0 ?mcq_cne ?mcw_cne); (case' mcq_cne => (intro c9 h9 tk9 hp9 F9 N9; (clear F0 N0); obtain ⟨tc9, ca9, cb9, oa9, ob9, nq9⟩ := c9; (try dsimp only at F9); (try dsimp only at N9); have la9 := hp9.la; have lb9 := hp9.lb; have la8 := Nat.lt_trans hk.2.2 hp9.la; have lb8 := Nat.lt_trans hk.2.2 hp9.lb; (with_reducible rename Mine.Internal.Srt _ => S8); have S9 := Mine.Internal.Srt.five ho hk; clear S8; have hlen9 := Mine.Internal.Md.len z ⟨tc9, ca9, cb9, oa9, ob9, nq9⟩ hq; (try dsimp only at la9); (try dsimp only at lb9); (try dsimp only at la8); (try dsimp only at lb8); (try dsimp only); (try k_fold)))))
      k_with "MeetX" => k_dflt ((with_reducible rename Fr _ _ _ _ => F9); (with_reducible rename News _ _ _ _ => N9); (try simp only [List.push_toArray] at N9); first
        | exact Mine.Internal.meetX_end _ F9 N9 (Mine.Internal.radix_eq rfl) (fun _ h => h) trivial
        | exact Mine.Internal.meetX_end _ F9 N9 (Mine.Internal.radix_eqH rfl) (fun _ h => h) trivial
        | ((first | have hz9 := Mine.Internal.rep_of (by with_reducible assumption) | have hz9 := Mine.Internal.surr_of (by with_reducible assumption) (by with_reducible assumption) | have hz9 := Mine.Internal.flt_of (by with_reducible assumption) (by with_reducible assumption) (by with_reducible assumption)); (refine' Mine.Internal.meetC_f (fun q9 n9 => (Z.za, instObj 762 Z.zd) :: (Z.zd, Z.kd w K.st m7 tq) :: (tq, W.listOf q9.toArray n9) :: K.led w y) F9 N9 ?hm_cne ?hf_cne ?hn_cne ?la_cne ?lb_cne ⟨⟨_, _, ?f1_cne⟩, ⟨_, ?f2_cne⟩⟩); (case f1_cne => assumption); (case f2_cne => assumption); (case hf_cne => exact hz9.2); (case hn_cne => exact Mine.Internal.Take.sub (by (k_extra "take"))); (case la_cne => exact (by k_extra "slt")); (case lb_cne => exact (by k_extra "slt")); (case hm_cne => first | (rw [hz9.1]; done) | (rw [hz9.1, Mine.Internal.ufffd]; done) | (rw [hz9.1]; rfl)))
        | ((have hz9 := Mine.Internal.nof_of (by with_reducible assumption) (by with_reducible assumption) (by with_reducible assumption)); (refine' Mine.Internal.meetC_n (oa := W.listOf vs.toArray vn) (fun q9 n9 => (Z.za, instObj 762 Z.zd) :: (Z.zd, Z.kd w K.st m7 tq) :: (tq, W.listOf q9.toArray n9) :: K.led w y) F9 N9 ?hm_cne ?hf_cne ?hn_cne ?la_cne); (case hf_cne => exact hz9.2); (case hn_cne => exact Mine.Internal.Take.sub (by (k_extra "take"))); (case la_cne => exact (by k_extra "slt")); (case hm_cne => first | (rw [hz9.1]; done) | (rw [hz9.1]; rfl)))
        | (refine Mine.Internal.hold ?_))
      k_with "exec While" => ((with_reducible rename Fr _ _ _ _ => F0); (with_reducible rename News _ _ _ _ => N0); (with_reducible rename St => y); (with_reducible rename Value => v0); (refine' ksw_meet (σ := Cn) (fun c => (_, W.listOf c.vs.toArray c.n) :: (Z.za, instObj 762 Z.zd) :: (Z.zd, Z.kd w K.st m7 tq) :: (tq, W.listOf qs.toArray qn) :: K.led w c.x) (fun c => [("c", c.cv)]) [] (fun c => c.ok K.src (alD hex) (ds0 ++ r0)) (CnX K.src ds0 r0) (fun c => c.mu K.src) ⟨y, [], 0, v0⟩ F0 (fun p hp => N0 p (Mine.Internal.Take.sub ?tk_cne p hp)) ?kk_cne ?kp_cne ?hq_cne ?turn_cne); (case tk_cne => (k_extra "take")); (case kk_cne => intro p hp; (simp only [List.mem_singleton] at hp); subst hp; rfl); (case kp_cne => exact Cn.start (by with_reducible assumption) hL0 (by with_reducible assumption)); (case' hq_cne => (intro c u hh tk2 hi Ft Nt; (try clear F0 N0); obtain ⟨y, vs, vn, cv⟩ := c; obtain ⟨sok, hvs, hcv⟩ := hi; (dsimp only at sok hvs hcv Ft Nt))); (case' turn_cne => (intro c u hh tk2 hi Ft Nt; (try clear F0 N0); obtain ⟨y, vs, vn, cv⟩ := c; obtain ⟨sok, us, rr, hvs, hus, hLr, hcv⟩ := hi; (dsimp only at sok hvs hcv Ft Nt); have hvl : vs.length ≤ 100000 := Cn.vlen ok hL0 hLr hvs; rcases hcv with ⟨e1, e2, e3⟩ | ⟨c1, t1, e1, e2, e3, e4⟩ <;> subst e1)))
      k_with "call builtin:str.join" => ((with_reducible show wpAny _ _ (call (Value.builtin "str.join") [Value.str _ _, Value.ref _]) _ _ _); (refine' Mine.Internal.join_chs (g := Mine.Internal.chS) (fun _ => rfl) (News.isList (by k_asm) (by news_mem)) hvs (by omega) ?_); intro t9 k9)
      k_with "call type:int" => ((with_reducible show wpAny _ _ (call (Value.type "int") [Value.str _ _, Value.int _ _]) _ _ _); (refine Mine.Internal.call_int_Z (hex := hex) ⟨h0, hne0, hn0⟩ (Mine.Internal.base_if hex) hz ?_))
      k_with "compareOp NotEq" => ((with_reducible show wpAny _ _ (compareOp CmpOp.NotEq _ (Value.str _ _)) _ _ _); (rcases hcv with ⟨e1, e2, e3⟩ | ⟨c1, t1, e1, e2, e3, e4⟩ <;> subst e1))
      k_with "call builtin:chr" => k_dflt ((with_reducible show wpAny _ _ (call (Value.builtin "chr") [Value.int _ _]) _ _ _); (refine chr_of_range hz0 (Mine.Internal.surr_le (by with_reducible assumption)) ?_))
      k_with "KswEnd" => ((with_reducible rename St => y2); (with_reducible rename Value => v2); (with_reducible rename CvIs _ _ _ _ => hcv2); (with_reducible rename Fr _ _ _ _ => F9); (with_reducible rename News _ _ _ _ => N9); (try simp only [List.push_toArray] at N9); (have hq9 := fun n' => cn_more (n := vn) (n' := n') (t1 := t1) (by with_reducible assumption : St.ok K.src y2) hvs hus (by with_reducible assumption) hLr e2 hcv2); (refine' ksw_end ⟨y2, vs ++ [.str ⟨#[c1]⟩ t1], _, v2⟩ F9 N9 (Mine.Internal.Take.sub ?tk2_cne) trivial ?hk2_cne ?hr2_cne (hq9 _).1 (hq9 _).2); (case tk2_cne => (k_extra "take")); (case hk2_cne => (intro p hp; (simp only [List.mem_singleton] at hp); subst hp; first | rfl | exact if_pos rfl)); (case hr2_cne => (intro z9 hz9 hz8; have hz7 := hz9 _ (List.mem_singleton.mpr rfl); simp (zetaDelta := true) [hz7, kstB])))
      k_with "MeetW" => k_dflt (first
        | (exact meetW_end ⟨y, vs, vn, .none⟩ u Ft Nt (fun _ h => h) (cnx_of h0 hr0 sok hvs hus hLr (.inl ⟨rfl, e2, e3⟩) (fun c t h => by rw [e2] at h; cases h)))
        | (exact meetW_end ⟨y, vs, vn, .str ⟨#[c1]⟩ t1⟩ u Ft Nt (fun _ h => h) (cnx_of h0 hr0 sok hvs hus hLr (.inr ⟨c1, t1, rfl, e2, e3, e4⟩) (fun c t h => by rw [e2] at h; injection h with h; rw [← h]; with_reducible assumption)))
        | (refine Mine.Internal.hold ?_))
      k_with "MeetH" => (first
        | exact Mine.Internal.meetH_end (by assumption) (by assumption) (by first | exact Mine.Internal.surr_t (by omega) | exact Mine.Internal.surr_f (by omega) | exact (Mine.Internal.flt_a (by omega)).symm | exact Mine.Internal.flt_n (by with_reducible assumption) | exact Mine.Internal.flt_0 (by omega) (by with_reducible assumption) | exact Mine.Internal.flt_b (by omega))
        | (refine Mine.Internal.hold ?_))
      k_with "isTrue BoolOp" => ((fail_if_success (with_reducible show wpAny _ _ _ (Mine.Internal.MeetH _ _ _ _ _ _) _ _)); first
        | ((with_reducible show wpAny _ _ (isTrue (Expr.BoolOp BoolOp.Or [_, Expr.Compare _ [CmpOp.Gt] _ _] _) _ _) _ _ _); (with_reducible rename Fr _ _ _ _ => F0); (with_reducible rename News _ _ _ _ => N0); (refine' Mine.Internal.wp_meetH (Mine.Internal.surr z) F0 N0 ?_ ?_); (intro h9 k9 F9 N9); clear F0 N0; (try dsimp only); (try k_fold))
        | ((with_reducible show wpAny _ _ (isTrue (Expr.BoolOp BoolOp.Or [_, _, _, _, _] _) _ _) _ _ _); (with_reducible rename Fr _ _ _ _ => F0); (with_reducible rename News _ _ _ _ => N0); (refine' Mine.Internal.wp_meetH (Mine.Internal.fltZ z) F0 N0 ?_ ?_); (intro h9 k9 F9 N9); clear F0 N0; (try dsimp only); (try k_fold)))
      k_steps
      all_goals (try dsimp only)
      all_goals (with_reducible rename Fr _ _ _ _ => F9; with_reducible rename News _ _ _ _ => N9; (try simp only [List.push_toArray, List.append_assoc, List.cons_append, List.nil_append] at N9))
      all_goals (first | have hs9 := Mine.Internal.sem_n e2 | have hs9 := Mine.Internal.sem_c e2 (by with_reducible assumption) | have hs9 := Mine.Internal.sem_s e2 (by with_reducible assumption))
      all_goals first
        | ((have q2 : semiB r0 = false := hs9.2); refine' Mine.Internal.cne_end (c := tq) (adds := Md.fs z ⟨tc9, ca9, cb9, oa9, ob9, nq9⟩) ho hk F9 N9 rfl ?ztk_cne ?zma_cne ?zmb_cne ?zmc_cne (by with_reducible assumption) ?zrem_cne (Nat.le_of_lt la9) (Nat.le_of_lt lb9) (Nat.le_refl _) (Mine.Internal.adds_md0 hp9 htq9 q2); (case ztk_cne => (k_extra "take")); (case zma_cne => k_mem); (case zmb_cne => k_mem); (case zmc_cne => k_mem); (case zrem_cne => first | exact Eq.trans (by with_reducible assumption) hs9.1.symm | exact hs9.1.symm))
        | ((have q2 : semiB r0 = true := hs9.2); refine' Mine.Internal.cne_end (adds := Md.fs z ⟨tc9, ca9, cb9, oa9, ob9, nq9⟩ ++ [Value.ref _]) ho hk F9 N9 rfl ?ztk_cne ?zma_cne ?zmb_cne ?zmc_cne (by with_reducible assumption) ?zrem_cne (Nat.le_of_lt la9) (Nat.le_of_lt lb9) ?zlc_cne (Mine.Internal.adds_md hp9 htq9 (if_pos q2).symm (fun _ => ?zld_cne) (fun _ => ⟨_, _, ?zpl_cne⟩)); (case ztk_cne => (k_extra "take")); (case zpl_cne => assumption); (case zma_cne => k_mem); (case zmb_cne => k_mem); (case zmc_cne => k_mem); (case zld_cne => exact (by k_extra "slt")); (case zlc_cne => exact Nat.le_of_lt (by k_extra "slt")); (case zrem_cne => first | exact Eq.trans (by with_reducible assumption) hs9.1.symm | exact hs9.1.symm))
        | fail
  have call_cne {w : World} {loose : List Str} {mean : ExcName → Option Value} {mg mb : Str → Option Value} {K : Ks} {Z : Kz} {m7 : Tok} {tq : Addr} {qs : List Value} {qn : Nat} {x : St} {hex : Bool} {ds0 r0 : List Nat} {z : Int} {A A₀ : Around} {base h₀ : Heap} {env : Env} {outer : List Env} {L : Addr} {m : Str → Option Value} {s : Shared} {Q E : Value → Shared → Prop} {N rest : Led} (ho : K.ord) (hk : @LT.lt Nat _ Z.zd Z.za ∧ @LT.lt Nat _ Z.za K.sd ∧ @LT.lt Nat _ K.er tq) (ok : x.ok K.src) (hL0 : x.rem K.src = ds0 ++ r0) (h0 : ∀ d ∈ ds0, alD hex d = true) (hr0 : ∀ c t, r0 = c :: t → alD hex c = false) (hne0 : ds0 ≠ []) (hn0 : ds0.length ≤ 640) (hz : ((numV (baseOf hex) ds0 : Nat) : Int) = z) (hz0 : 0 ≤ z) (hq : qs.length ≤ 100000)
      (B : Below A₀ base outer h₀) (F : Fr h₀ L s.heap m) (X : (main.heap_1_39 w.params).In h₀) (T : (Top main.view_1_40 loose mean mg mb) h₀) (hA : A.frames = some (env :: outer)) (hf : env.frame = some L) (hke : env.scope.kind = .function) (hh : A.handled = none) (hdd : A.depth ≤ 450) (hu : A.units ≤ 500) (Nw : News h₀ L s.heap N) (tk : Take ((Z.za, instObj 762 Z.zd) :: (Z.zd, Z.kd w K.st m7 tq) :: (tq, W.listOf qs.toArray qn) :: K.led w x) N rest) (hne : ∀ p ∈ rest, @LT.lt Nat _ p.1 Z.zd ∨ @LT.lt Nat _ tq p.1)
      (hQ : ∀ (x' : St) (fl : Led) (adds : List Value) (n : Nat) (t : Tok) (h' : Heap) (tk' : Nat), x'.ok K.src → x'.rem K.src = afterNum r0 → (∀ p ∈ fl, ∀ r ∈ N, @LT.lt Nat _ r.1 p.1) → QIs PySem.Challenge.rw_te0076_05.row.prog w fl adds (numKs z (semiB r0)) → @LE.le Nat _ s.toks tk' → Fr h₀ L h' m →
        News h₀ L h' ((Z.za, instObj 762 Z.zd) :: (Z.zd, Z.kd w K.st m7 tq) :: (tq, W.listOf (qs ++ adds).toArray n) :: (rest ++ (fl ++ K.led w x'))) → Q (.str ⟨#[sgZ z]⟩ t) { s with heap := h', toks := tk' }) :
      wpAny (model PySem.Challenge.rw_te0076_05.row.prog w) A (PySem.call (.ref 275) [.ref Z.za, .bool hex] []) Q E s := by
    as_aux_lemma =>
      clear ctr_is_invalid ctr_charErrors ctr_read ctr_readE ctr_position0 ctr_unget ctr_ungetN ctr_ungetS ctr_readN ctr_readC ctr_readA ctr_char ctr_until ctr_tinit call_char call_unget call_ungetN call_until call_tok
      refine CtrC.call (ctr_cne ho hk ok hL0 h0 hr0 hne0 hn0 hz hz0 hq) A A₀ base h₀ env outer L m s Q E rest B F X (tk.news Nw) T hA hf hke hh hdd hu ?_ ?_
      · intro p hp q hq'
        have e := hk.1
        have e1 := hk.2.1
        have e2 := hk.2.2
        have e3 := K.lo_hi ho
        rcases List.mem_cons.mp hq' with rfl | hq'
        · rcases hne p hp with h | h
          · exact Nat.ne_of_lt (Nat.lt_trans h e)
          · exact Nat.ne_of_gt (Nat.lt_trans e1 (Nat.lt_trans e3 (Nat.lt_trans e2 h)))
        rcases List.mem_cons.mp hq' with rfl | hq'
        · rcases hne p hp with h | h
          · exact Nat.ne_of_lt h
          · exact Nat.ne_of_gt (Nat.lt_trans e (Nat.lt_trans e1 (Nat.lt_trans e3 (Nat.lt_trans e2 h))))
        rcases List.mem_cons.mp hq' with rfl | hq'
        · rcases hne p hp with h | h
          · exact Nat.ne_of_lt (Nat.lt_trans h (Nat.lt_trans e (Nat.lt_trans e1 (Nat.lt_trans e3 e2))))
          · exact Nat.ne_of_gt h
        refine Outs.ne (K := K) (es := rest) (fun p hp => ?_) ho p hp q hq'
        rcases hne p hp with h | h
        · exact .inl (Nat.lt_trans h (Nat.lt_trans e e1))
        · exact .inr (Nat.lt_trans e2 h)
      intro v fr l' h' tk' hp ht hfr F' N'
      obtain ⟨x', adds, n, t, ok', rfl, hrem, hqi, rfl⟩ := hp
      refine hQ x' fr adds n t h' tk' ok' hrem (fun p hp r hr => hfr p hp r (tk.sup r hr)) hqi ht F' (fun p hp => N' p ?_)
      simp only [List.mem_append, List.mem_cons] at hp ⊢
      rcases hp with h | h | h | h | h | h
      · exact .inl (.inr (.inl h))
      · exact .inl (.inr (.inr (.inl h)))
      · exact .inl (.inr (.inr (.inr (.inl h))))
      · exact .inr h
      · exact .inl (.inl h)
      · exact .inl (.inr (.inr (.inr (.inr h))))
  have ctr_lfault {w : World} {loose : List Str} {mean : ExcName → Option Value} {mg mb : Str → Option Value} {n : Str} {tn : Tok} :
      CtrC PySem.Challenge.rw_te0076_05.row.prog w (main.heap_1_39 w.params) (Top main.view_1_40 loose mean mg mb) 460 600 (.ref 773) ⟨[.str n tn], []⟩ [] (fun v fr l => l = [] ∧ ∃ d o, v = .ref d ∧ fr = [(d, o)] ∧ (d == sysModules) = false ∧ PlainO PySem.Challenge.rw_te0076_05.row.prog w n o) := by
    as_aux_lemma =>
      clear ctr_is_invalid ctr_charErrors ctr_read ctr_readE ctr_position0 ctr_unget ctr_ungetN ctr_ungetS ctr_readN ctr_readC ctr_readA ctr_char ctr_until ctr_tinit call_char call_unget call_ungetN call_until call_tok ctr_cne call_cne
      k_with_none
      k_with "pos" => (repeat' (first | exact Mine.Internal.PosL.nil | (apply Mine.Internal.PosL.cons 0; exact rfl) | (apply Mine.Internal.PosL.cons 1; exact rfl) | (apply Mine.Internal.PosL.cons 2; exact rfl) | (apply Mine.Internal.PosL.cons 3; exact rfl) | (apply Mine.Internal.PosL.cons 4; exact rfl) | (apply Mine.Internal.PosL.cons 5; exact rfl) | (apply Mine.Internal.PosL.cons 6; exact rfl) | (apply Mine.Internal.PosL.cons 7; exact rfl) | (apply Mine.Internal.PosL.cons 8; exact rfl) | (apply Mine.Internal.PosL.cons 9; exact rfl) | (apply Mine.Internal.PosL.cons 10; exact rfl) | (apply Mine.Internal.PosL.cons 11; exact rfl) | (apply Mine.Internal.PosL.cons 12; exact rfl) | (apply Mine.Internal.PosL.cons 13; exact rfl) | (apply Mine.Internal.PosL.cons 14; exact rfl) | (apply Mine.Internal.PosL.cons 15; exact rfl) | (apply Mine.Internal.PosL.cons 16; exact rfl) | (apply Mine.Internal.PosL.cons 17; exact rfl) | (apply Mine.Internal.PosL.cons 18; exact rfl) | (apply Mine.Internal.PosL.cons 19; exact rfl) | (apply Mine.Internal.PosL.cons 20; exact rfl) | (apply Mine.Internal.PosL.cons 21; exact rfl) | (apply Mine.Internal.PosL.cons 22; exact rfl) | (apply Mine.Internal.PosL.cons 23; exact rfl)))
      k_with "slt" => exact Mine.Internal.Srt.lt (by with_reducible assumption) (by ((repeat (first | (with_reducible_and_instances refine Mine.Internal.Aft.here ?_; (repeat (first | with_reducible_and_instances exact List.Mem.head _ | with_reducible_and_instances refine List.Mem.tail _ ?_)); done) | with_reducible refine Mine.Internal.Aft.there ?_)); all_goals fail))
      k_with "take" => k_dflt ((try dsimp only); repeat' (first | exact Mine.Internal.Take.nil | exact Mine.Internal.Del.head | refine' Mine.Internal.Take.blk ?_ | exact Mine.Internal.Tl.nil | exact Mine.Internal.Tl.app | refine' Mine.Internal.Take.cons ?_ ?_ | refine' Mine.Internal.Del.tail ?_ | refine' Mine.Internal.Tl.cons ?_))
      k_with "upd" => (exact Mine.Internal.Srt.updP (by with_reducible assumption) (by repeat' (first | exact Mine.Internal.UpdI.head | refine' Mine.Internal.UpdI.tail ?_)) (by k_dflt (k_extra "pos")) (by exact rfl))
      k_with "all" => exact Mine.Internal.Ks.ne_all (by with_reducible assumption) (by first | exact .inr (by k_extra "slt") | exact .inl (by k_extra "slt"))
      k_with "ne" => (refine neN ?_; first | exact Mine.Internal.Srt.ne (by with_reducible assumption) (by with_reducible solve_by_elim (maxDepth := 40) only [Mine.Internal.Apart.l, Mine.Internal.Apart.r, Mine.Internal.Apart.t, List.Mem.head, List.Mem.tail]) | ((try dsimp only); omega))
      k_with "lt" => (intro h9l; first | ((with_reducible rename Mine.Internal.Srt _ => S8); (first | (have S9 := Mine.Internal.Srt.grow S8 (h9l (_, _) (by k_dflt k_mem)); clear S8) | (have S9 := Mine.Internal.Srt.grow S8.tl (h9l (_, _) (by k_dflt k_mem)); clear S8) | (have S9 := Mine.Internal.Srt.grow S8.tl.tl (h9l (_, _) (by k_dflt k_mem)); clear S8)); clear h9l) | (replace h9l := allLt_of h9l; simp only [AllLt, and_true] at h9l))
      k_with "subscriptTail" => (k_here; (with_reducible show wpAny _ _ (subscriptTail _ _ (Value.str _ _) (Value.int _ _)) _ _ _); (refine Mine.Internal.sub_chr (by omega) (by omega) (by assumption) ?_))
      k_with "execs cons" => (k_here; (with_reducible show wpAny _ _ _ _ _ (Shared.mk _ _ _ (_ + _) _)); (refine Mine.Internal.gentoks ?_); intro tkg9 htk9; (try dsimp only at htk9))
      k_with "size" => k_dflt (first | exact Nat.le_of_ble_eq_true rfl | ((with_reducible show Array.size (List.toArray _) ≤ PySem.sizeLine); rw [List.size_toArray, PySem.sizeLine_eq]; refine Nat.le_trans (m := 100002) ?_ (Nat.le_of_ble_eq_true rfl); first | with_reducible assumption | exact Nat.le_trans (m := 100000) (by with_reducible assumption) (Nat.le_of_ble_eq_true rfl)))
      k_with "subscriptTail Name Constant ref int" => k_extra "subscriptTail"
      k_with "tok" => (first | exact Nat.le_add_left 1 _ | with_reducible assumption | exact Nat.le_trans (Nat.le_add_left 1 _) (by with_reducible assumption))
      k_with "next" => (first | ((with_reducible refine Mine.Internal.nextS (g := gens9) (d := dr9) (o := os9) ?_); intro qk9 tkg9) | ((with_reducible refine Mine.Internal.lastS (g := gens9) (d := dr9) (o := os9) ?_); intro tkg9) | (with_reducible refine Mine.Internal.nilS ?_) | (with_reducible refine Mine.Internal.fin9 ?_) | (with_reducible refine Mine.Internal.fin0 ?_) | (with_reducible refine Mine.Internal.finS9 ?_) | (with_reducible refine Mine.Internal.finS0 ?_) | ((with_reducible refine Mine.Internal.nextU (g := gens9) (d := dr9) (o := os9) ?_ ?_); (k_extra "tok"); intro qk9 tkg9) | ((with_reducible refine Mine.Internal.lastU (g := gens9) (d := dr9) (o := os9) ?_ ?_); (k_extra "tok"); intro tkg9) | ((with_reducible refine Mine.Internal.nextZ (g := gens9) (d := dr9) (o := os9) ?_); intro qk9 tkg9) | ((with_reducible refine Mine.Internal.lastZ (g := gens9) (d := dr9) (o := os9) ?_); intro tkg9))
      k_with "execs cons" => k_extra "next"
      k_with "eval Constant str" => (with_reducible refine Mine.Internal.c_str (g := gens9) (d := dr9) (o := os9) ?_)
      k_with "call ref" => refine Mine.Internal.hold ?_
      k_with "subscriptTail" => (k_here; first
      | ((with_reducible show wpAny _ _ (subscriptTail _ _ (Value.ref 48) (Value.str _ _)) _ _ _); k_dflt (first | (refine' Mine.Internal.item_tok 7 ?F_lfault ?X_lfault ?he_lfault ?hh_lfault ?hl_lfault ?_; (case hl_lfault => kernel_rfl)) | (refine' Mine.Internal.item_tok 1 ?F_lfault ?X_lfault ?he_lfault ?hh_lfault ?hl_lfault ?_; (case hl_lfault => kernel_rfl)) | (refine' Mine.Internal.item_tok 2 ?F_lfault ?X_lfault ?he_lfault ?hh_lfault ?hl_lfault ?_; (case hl_lfault => kernel_rfl)) | (refine' Mine.Internal.item_tok 3 ?F_lfault ?X_lfault ?he_lfault ?hh_lfault ?hl_lfault ?_; (case hl_lfault => kernel_rfl))); (case F_lfault => k_asm); (case X_lfault => k_asm); (case he_lfault => kernel_rfl); (case hh_lfault => kernel_rfl); k_whole; intro t9)
      | ((with_reducible show wpAny _ _ (subscriptTail _ _ (Value.ref 46) (Value.int _ _)) _ _ _); k_dflt (refine' Mine.Internal.item_repl ?F_lfault ?X_lfault ?hk_lfault ?hz_lfault ?_; (case F_lfault => k_asm); (case X_lfault => k_asm); (case hk_lfault => kernel_rfl); (case hz_lfault => with_reducible assumption); k_whole); intro t9))
      k_with "eval Dict" => (k_here; (with_reducible show wpAny _ _ (eval (Expr.Dict (_ :: _) _ _) _) _ _ _); k_dflt (refine' kdn_str ?q_lfault ?F_lfault ?N_lfault ?b_lfault ?a_lfault ?l_lfault ?e_lfault ?n_lfault ?_; (case q_lfault => rfl); (case F_lfault => k_asm); (case N_lfault => first | k_asm | exact News.nil); (case b_lfault => exact Top.nolimit (by k_asm)); (case a_lfault => rfl); (case l_lfault => rfl); (case e_lfault => exact List.cons_ne_nil _ _); (case n_lfault => exact Nat.le_of_ble_eq_true rfl)); intro d' h' o' F' N' l1 lo' hd'; (try k_lt l1))
      k_fill
      refine' ctr_introN (binds := [("name", .str n tn)]) (fun h h' T k => T.keeps k) (fun h T => T.nolimit) ?ho_lfault ?hcd_lfault ?hD_lfault ?hb_lfault ?hl_lfault ?_ ?hc_lfault ?c1_lfault ?c2_lfault ?c3_lfault
      case ho_lfault => k_is
      case hcd_lfault => k_is
      case hD_lfault => decide
      case hb_lfault => (intro s X; (try (rcases hargs with ⟨rfl, rfl, rfl⟩ | ⟨rfl, rfl⟩)); all_goals (first | exact BindsTo.of_eq rfl | exact binds_K X rfl (by k_is) rfl rfl rfl))
      case hl_lfault => exact locs rfl
      case hc_lfault => decide
      case c1_lfault => exact rfl
      case c2_lfault => exact rfl
      case c3_lfault => exact rfl
      intro A base g env outer L' h₁ hs9 gens9 dr9 t09 os9 tk B' F' X' N' T' l1
      intro e9 A9 q9
      (try clear l1)
      (try dsimp only at N')
      first | have S0 := Mine.Internal.Srt.eight ho hk hat | have S0 := Mine.Internal.Srt.grow (Mine.Internal.Srt.six ho) hoq | have S0 := Mine.Internal.Srt.five ho hk | have S0 := Mine.Internal.Srt.six ho | have S0 := Mine.Internal.Srt.two ho | have S0 := Mine.Internal.Srt.two hk | skip

      k_steps
      all_goals (try dsimp only)
      refine' cendF (fr := [(_, _)]) (l := []) (by assumption) (by assumption) (Mine.Internal.Take.sub ?tk_lfault) (fun _ _ _ h => nomatch h) ⟨rfl, _, _, rfl, rfl, by assumption, _, _, by assumption⟩
      case tk_lfault => (k_extra "take")
  have ctr_lsignW {w : World} {loose : List Str} {mean : ExcName → Option Value} {mg mb : Str → Option Value} {z : Int} {tz : Tok} (hz0 : 0 ≤ z) :
      CtrC PySem.Challenge.rw_te0076_05.row.prog w (main.heap_1_39 w.params) (Top main.view_1_40 loose mean mg mb) 450 500 (.ref 780) ⟨[.int z tz], []⟩ [] (fun v fr l => l = [] ∧ ∃ (q lf a b : Addr) (oa ob : Obj) (faults : List Value) (n : Nat) (t : Tok), v = .ref q ∧ fr = [(q, tupO [.str ⟨#[sgZ z]⟩ t, .ref lf]), (lf, W.listOf faults.toArray n), (a, oa), (b, ob)] ∧ faults = (if ftZ z = true then [.ref a] else []) ∧ FaultO PySem.Challenge.rw_te0076_05.row.prog w z b oa ob ∧ (a == sysModules) = false ∧ (b == sysModules) = false) := by
    as_aux_lemma =>
      clear ctr_is_invalid ctr_charErrors ctr_read ctr_readE ctr_position0 ctr_unget ctr_ungetN ctr_ungetS ctr_readN ctr_readC ctr_readA ctr_char ctr_until ctr_tinit call_char call_unget call_ungetN call_until call_tok ctr_cne call_cne
      k_with_none
      k_with "pos" => (repeat' (first | exact Mine.Internal.PosL.nil | (apply Mine.Internal.PosL.cons 0; exact rfl) | (apply Mine.Internal.PosL.cons 1; exact rfl) | (apply Mine.Internal.PosL.cons 2; exact rfl) | (apply Mine.Internal.PosL.cons 3; exact rfl) | (apply Mine.Internal.PosL.cons 4; exact rfl) | (apply Mine.Internal.PosL.cons 5; exact rfl) | (apply Mine.Internal.PosL.cons 6; exact rfl) | (apply Mine.Internal.PosL.cons 7; exact rfl) | (apply Mine.Internal.PosL.cons 8; exact rfl) | (apply Mine.Internal.PosL.cons 9; exact rfl) | (apply Mine.Internal.PosL.cons 10; exact rfl) | (apply Mine.Internal.PosL.cons 11; exact rfl) | (apply Mine.Internal.PosL.cons 12; exact rfl) | (apply Mine.Internal.PosL.cons 13; exact rfl) | (apply Mine.Internal.PosL.cons 14; exact rfl) | (apply Mine.Internal.PosL.cons 15; exact rfl) | (apply Mine.Internal.PosL.cons 16; exact rfl) | (apply Mine.Internal.PosL.cons 17; exact rfl) | (apply Mine.Internal.PosL.cons 18; exact rfl) | (apply Mine.Internal.PosL.cons 19; exact rfl) | (apply Mine.Internal.PosL.cons 20; exact rfl) | (apply Mine.Internal.PosL.cons 21; exact rfl) | (apply Mine.Internal.PosL.cons 22; exact rfl) | (apply Mine.Internal.PosL.cons 23; exact rfl)))
      k_with "slt" => exact Mine.Internal.Srt.lt (by with_reducible assumption) (by ((repeat (first | (with_reducible_and_instances refine Mine.Internal.Aft.here ?_; (repeat (first | with_reducible_and_instances exact List.Mem.head _ | with_reducible_and_instances refine List.Mem.tail _ ?_)); done) | with_reducible refine Mine.Internal.Aft.there ?_)); all_goals fail))
      k_with "upd" => (exact Mine.Internal.Srt.updP (by with_reducible assumption) (by repeat' (first | exact Mine.Internal.UpdI.head | refine' Mine.Internal.UpdI.tail ?_)) (by k_dflt (k_extra "pos")) (by exact rfl))
      k_with "all" => exact Mine.Internal.Ks.ne_all (by with_reducible assumption) (by first | exact .inr (by k_extra "slt") | exact .inl (by k_extra "slt"))
      k_with "ne" => (refine neN ?_; first | exact Mine.Internal.Srt.ne (by with_reducible assumption) (by with_reducible solve_by_elim (maxDepth := 40) only [Mine.Internal.Apart.l, Mine.Internal.Apart.r, Mine.Internal.Apart.t, List.Mem.head, List.Mem.tail]) | ((try dsimp only); omega))
      k_with "lt" => (intro h9l; first | ((with_reducible rename Mine.Internal.Srt _ => S8); (first | (have S9 := Mine.Internal.Srt.grow S8 (h9l (_, _) (by k_dflt k_mem)); clear S8) | (have S9 := Mine.Internal.Srt.grow S8.tl (h9l (_, _) (by k_dflt k_mem)); clear S8) | (have S9 := Mine.Internal.Srt.grow S8.tl.tl (h9l (_, _) (by k_dflt k_mem)); clear S8)); clear h9l) | (replace h9l := allLt_of h9l; simp only [AllLt, and_true] at h9l))
      k_with "execs cons" => (k_here; (with_reducible show wpAny _ _ _ _ _ (Shared.mk _ _ _ (_ + _) _)); (refine Mine.Internal.gentoks ?_); intro tkg9 htk9; (try dsimp only at htk9))
      k_with "ite" => (k_here; k_openite; first
      | (refine ite_pos ?hq_lsignW ?_; (case hq_lsignW => first | (simp only [decide_eq_true_eq, beq_iff_eq, bne_iff_ne, ne_eq, Bool.not_eq_true', decide_eq_false_iff_not]; omega) | (simp; done)))
      | (refine ite_neg ?hq_lsignW ?_; (case hq_lsignW => first | (simp only [decide_eq_true_eq, beq_iff_eq, bne_iff_ne, ne_eq, Bool.not_eq_true', decide_eq_false_iff_not]; omega) | (simp; done))))
      k_with "size" => k_dflt (first | exact Nat.le_of_ble_eq_true rfl | ((with_reducible show Array.size (List.toArray _) ≤ PySem.sizeLine); rw [List.size_toArray, PySem.sizeLine_eq]; refine Nat.le_trans (m := 100002) ?_ (Nat.le_of_ble_eq_true rfl); first | with_reducible assumption | exact Nat.le_trans (m := 100000) (by with_reducible assumption) (Nat.le_of_ble_eq_true rfl)))
      k_with "subscriptTail Name Constant ref int" => k_extra "subscriptTail"
      k_with "tok" => (first | exact Nat.le_add_left 1 _ | with_reducible assumption | exact Nat.le_trans (Nat.le_add_left 1 _) (by with_reducible assumption))
      k_with "next" => (first | ((with_reducible refine Mine.Internal.nextS (g := gens9) (d := dr9) (o := os9) ?_); intro qk9 tkg9) | ((with_reducible refine Mine.Internal.lastS (g := gens9) (d := dr9) (o := os9) ?_); intro tkg9) | (with_reducible refine Mine.Internal.nilS ?_) | (with_reducible refine Mine.Internal.fin9 ?_) | (with_reducible refine Mine.Internal.fin0 ?_) | (with_reducible refine Mine.Internal.finS9 ?_) | (with_reducible refine Mine.Internal.finS0 ?_) | ((with_reducible refine Mine.Internal.nextU (g := gens9) (d := dr9) (o := os9) ?_ ?_); (k_extra "tok"); intro qk9 tkg9) | ((with_reducible refine Mine.Internal.lastU (g := gens9) (d := dr9) (o := os9) ?_ ?_); (k_extra "tok"); intro tkg9) | ((with_reducible refine Mine.Internal.nextZ (g := gens9) (d := dr9) (o := os9) ?_); intro qk9 tkg9) | ((with_reducible refine Mine.Internal.lastZ (g := gens9) (d := dr9) (o := os9) ?_); intro tkg9))
      k_with "execs cons" => k_extra "next"
      k_with "execs nil" => (with_reducible refine Mine.Internal.nilS ?_)
      k_with "eval Constant int" => (with_reducible refine Mine.Internal.c_int (g := gens9) (d := dr9) (o := os9) ?_)
      k_with "eval Constant str" => (with_reducible refine Mine.Internal.c_str (g := gens9) (d := dr9) (o := os9) ?_)
      k_with "storeName" => (first | (k_here; ktx_write) | (k_here; k_dflt (refine' Mine.Internal.st_name (gs := gens9) (d := dr9) (o := os9) ?tF_lsignW ?tN_lsignW ?_; (case tF_lsignW => k_asm); (case tN_lsignW => k_asm); k_whole; intro m9 h' F' N'; (try k_sweep))))
      k_with "call ref" => refine Mine.Internal.hold ?_
      k_with "eval Dict" => (k_here; (with_reducible show wpAny _ _ (eval (Expr.Dict (_ :: _) _ _) _) _ _ _); k_dflt (refine' kdn_str ?q_lsignW ?F_lsignW ?N_lsignW ?b_lsignW ?a_lsignW ?l_lsignW ?e_lsignW ?n_lsignW ?_; (case q_lsignW => rfl); (case F_lsignW => k_asm); (case N_lsignW => first | k_asm | exact News.nil); (case b_lsignW => exact Top.nolimit (by k_asm)); (case a_lsignW => rfl); (case l_lsignW => rfl); (case e_lsignW => exact List.cons_ne_nil _ _); (case n_lsignW => exact Nat.le_of_ble_eq_true rfl)); intro d' h' o' F' N' l1 lo' hd'; (try k_lt l1))
      k_with "call ref" => (k_here; (with_reducible show wpAny _ _ (call (Value.ref 773) [Value.str _ _] _) _ _ _); k_dflt (refine' Mine.Internal.Ctr.useF (gs := gens9) (d := dr9) (o := os9) (Mine.Internal.CtrC.call ctr_lfault) ?cB_lsignW ?cF_lsignW ?cX_lsignW ?cN_lsignW ?cT_lsignW ?ca_lsignW ?cb_lsignW ?cc_lsignW ?ce_lsignW ?cd_lsignW ?cu_lsignW ?ck_lsignW ?cne_lsignW ?_; (case cB_lsignW => k_asm); (case cF_lsignW => k_asm); (case cX_lsignW => k_asm); (case cT_lsignW => k_asm); (case cN_lsignW => k_asm); (case ca_lsignW => exact rfl); (case cb_lsignW => exact rfl); (case cc_lsignW => exact rfl); (case ce_lsignW => exact rfl); (case cd_lsignW => exact Nat.le_of_ble_eq_true rfl); (case cu_lsignW => exact Nat.le_of_ble_eq_true rfl); (case ck_lsignW => ((try (refine' Mine.Internal.Take.cons ?_ ?_)); repeat' (first | exact Mine.Internal.Take.nil | exact Mine.Internal.Del.head | refine' Mine.Internal.Take.cons ?_ ?_ | refine' Mine.Internal.Del.tail ?_))); (case cne_lsignW => first | exact List.forall_mem_nil _ | exact (fun _ _ => List.forall_mem_nil _) | exact Mine.Internal.Srt.neL (by with_reducible assumption) (by k_extra "pos") (by k_extra "pos") (by exact rfl) | ((simp only [List.forall_mem_cons, List.not_mem_nil, false_implies, implies_true, and_true, true_and]); (repeat' (refine And.intro ?_ ?_)); all_goals k_ne)); (k_whole; intro v' fr' l' hp' hfr'; obtain ⟨e3', d', o', e1', e2', hlo', ta', tb', hd'⟩ := hp'; subst e3'; subst e1'; subst e2'; (first | ((with_reducible rename Mine.Internal.Srt _ => S8); (have S9 := Mine.Internal.fresh_grow S8 hfr' (by k_dflt k_mem)); clear S8; clear hfr') | simp only [List.cons_append, List.nil_append, List.forall_mem_cons, List.not_mem_nil, false_implies, implies_true, and_true, true_and] at hfr'); intro h' n' hn' F' N'; (try dsimp only [List.cons_append, List.nil_append] at N'); (try k_sweep); (try dsimp only); (try k_fold))))
      k_fill
      refine' ctr_introN (binds := [("number", .int z tz)]) (fun h h' T k => T.keeps k) (fun h T => T.nolimit) ?ho_lsignW ?hcd_lsignW ?hD_lsignW ?hb_lsignW ?hl_lsignW ?_ ?hc_lsignW ?c1_lsignW ?c2_lsignW ?c3_lsignW
      case ho_lsignW => k_is
      case hcd_lsignW => k_is
      case hD_lsignW => decide
      case hb_lsignW => (intro s X; (try (rcases hargs with ⟨rfl, rfl, rfl⟩ | ⟨rfl, rfl⟩)); all_goals (first | exact BindsTo.of_eq rfl | exact binds_K X rfl (by k_is) rfl rfl rfl))
      case hl_lsignW => exact locs rfl
      case hc_lsignW => decide
      case c1_lsignW => exact rfl
      case c2_lsignW => exact rfl
      case c3_lsignW => exact rfl
      intro A base g env outer L' h₁ hs9 gens9 dr9 t09 os9 tk B' F' X' N' T' l1
      intro e9 A9 q9
      (try clear l1)
      (try dsimp only at N')
      first | have S0 := Mine.Internal.Srt.eight ho hk hat | have S0 := Mine.Internal.Srt.grow (Mine.Internal.Srt.six ho) hoq | have S0 := Mine.Internal.Srt.five ho hk | have S0 := Mine.Internal.Srt.six ho | have S0 := Mine.Internal.Srt.two ho | have S0 := Mine.Internal.Srt.two hk | skip

      k_with "MeetH" => (first
        | exact Mine.Internal.meetH_end (by assumption) (by assumption) (by first | exact Mine.Internal.lb1_t (by omega) | exact Mine.Internal.lb1_f (by omega) | exact Mine.Internal.lb3_t (by omega) | exact Mine.Internal.lb3_f (by omega) | exact Mine.Internal.lb3_ft hz0 (by with_reducible assumption) | exact Mine.Internal.lb3_ff hz0 (by omega) (by with_reducible assumption))
        | (refine Mine.Internal.hold ?_))
      k_with "isTrue BoolOp" => ((fail_if_success (with_reducible show wpAny _ _ _ (Mine.Internal.MeetH _ _ _ _ _ _) _ _)); first
        | ((with_reducible show wpAny _ _ (isTrue (Expr.BoolOp BoolOp.Or [_, _, _] _) _ _) _ _ _); (with_reducible rename Fr _ _ _ _ => F0); (with_reducible rename News _ _ _ _ => N0); (refine' Mine.Internal.wp_meetH (Mine.Internal.lb1 z) F0 N0 ?_ ?_); (intro h9 k9 F9 N9); clear F0 N0; (try dsimp only); (try k_fold))
        | ((with_reducible show wpAny _ _ (isTrue (Expr.BoolOp BoolOp.Or [_, _, _, _, _, _] _) _ _) _ _ _); (with_reducible rename Fr _ _ _ _ => F0); (with_reducible rename News _ _ _ _ => N0); (refine' Mine.Internal.wp_meetH (Mine.Internal.lb3 z) F0 N0 ?_ ?_); (intro h9 k9 F9 N9); clear F0 N0; (try dsimp only); (try k_fold)))
      k_with "call builtin:chr" => k_dflt ((with_reducible show wpAny _ _ (call (Value.builtin "chr") [Value.int _ _]) _ _ _); (refine chr_of_range hz0 (Mine.Internal.lb1_le (by with_reducible assumption)) ?_))
      k_steps
      all_goals (try dsimp only)
      all_goals (with_reducible rename Fr _ _ _ _ => F9; with_reducible rename News _ _ _ _ => N9)
      all_goals (first
        | ((have h9 := Mine.Internal.lb1_of (by with_reducible assumption : lb1 z = true)); exact Mine.Internal.ls_f F9 N9 (by rw [h9.1]; exact Mine.Internal.ufffd) h9.2 ⟨⟨_, _, by assumption⟩, ⟨_, by assumption⟩⟩ (by assumption) (by assumption))
        | ((have h8 : 128 ≤ z := by with_reducible assumption); (have h7 : z ≤ 159 := by with_reducible assumption); (have h9 := Mine.Internal.lat_of h8 h7); exact Mine.Internal.ls_f F9 N9 (by rw [h9.1]; exact Mine.Internal.item_lat h8 h7 (by decide +kernel)) h9.2 ⟨⟨_, _, by assumption⟩, ⟨_, by assumption⟩⟩ (by assumption) (by assumption))
        | ((have h9 := Mine.Internal.lb3_of hz0 (by with_reducible assumption : lb1 z = false) (by omega) (by with_reducible assumption : lb3 z = true)); exact Mine.Internal.ls_f F9 N9 (by rw [h9.1]) h9.2 ⟨⟨_, _, by assumption⟩, ⟨_, by assumption⟩⟩ (by assumption) (by assumption))
        | ((have h9 := Mine.Internal.lb3_of hz0 (by with_reducible assumption : lb1 z = false) (by omega) (by with_reducible assumption : lb3 z = false)); exact Mine.Internal.ls_n F9 N9 (by rw [h9.1]) h9.2 ⟨⟨_, _, by assumption⟩, ⟨_, by assumption⟩⟩ (by assumption) (by assumption))
        | fail)
  have ctr_bisect {w : World} {loose : List Str} {mean : ExcName → Option Value} {mg mb : Str → Option Value} {p : Str} {lo hi : Int} {tp t1 t2 : Tok} (hb : Bis p lo hi) :
      CtrC PySem.Challenge.rw_te0076_05.row.prog w (main.heap_1_39 w.params) (Top main.view_1_40 loose mean mg mb) 470 700 (.ref 178) ⟨[.ref 243, .str p tp, .int lo t1, .int hi t2], []⟩ [] (noF fun v l => ∃ (k : Int) (t : Tok), v = .int k t ∧ Bis p k k ∧ l = []) := by
    as_aux_lemma =>
      clear ctr_is_invalid ctr_charErrors ctr_read ctr_readE ctr_position0 ctr_unget ctr_ungetN ctr_ungetS ctr_readN ctr_readC ctr_readA ctr_char ctr_until ctr_tinit call_char call_unget call_ungetN call_until call_tok ctr_cne call_cne ctr_lfault ctr_lsignW
      k_with_none
      k_with "pos" => (repeat' (first | exact Mine.Internal.PosL.nil | (apply Mine.Internal.PosL.cons 0; exact rfl) | (apply Mine.Internal.PosL.cons 1; exact rfl) | (apply Mine.Internal.PosL.cons 2; exact rfl) | (apply Mine.Internal.PosL.cons 3; exact rfl) | (apply Mine.Internal.PosL.cons 4; exact rfl) | (apply Mine.Internal.PosL.cons 5; exact rfl) | (apply Mine.Internal.PosL.cons 6; exact rfl) | (apply Mine.Internal.PosL.cons 7; exact rfl) | (apply Mine.Internal.PosL.cons 8; exact rfl) | (apply Mine.Internal.PosL.cons 9; exact rfl) | (apply Mine.Internal.PosL.cons 10; exact rfl) | (apply Mine.Internal.PosL.cons 11; exact rfl) | (apply Mine.Internal.PosL.cons 12; exact rfl) | (apply Mine.Internal.PosL.cons 13; exact rfl) | (apply Mine.Internal.PosL.cons 14; exact rfl) | (apply Mine.Internal.PosL.cons 15; exact rfl) | (apply Mine.Internal.PosL.cons 16; exact rfl) | (apply Mine.Internal.PosL.cons 17; exact rfl) | (apply Mine.Internal.PosL.cons 18; exact rfl) | (apply Mine.Internal.PosL.cons 19; exact rfl) | (apply Mine.Internal.PosL.cons 20; exact rfl) | (apply Mine.Internal.PosL.cons 21; exact rfl) | (apply Mine.Internal.PosL.cons 22; exact rfl) | (apply Mine.Internal.PosL.cons 23; exact rfl)))
      k_with "slt" => exact Mine.Internal.Srt.lt (by with_reducible assumption) (by ((repeat (first | (with_reducible_and_instances refine Mine.Internal.Aft.here ?_; (repeat (first | with_reducible_and_instances exact List.Mem.head _ | with_reducible_and_instances refine List.Mem.tail _ ?_)); done) | with_reducible refine Mine.Internal.Aft.there ?_)); all_goals fail))
      k_with "upd" => (exact Mine.Internal.Srt.updP (by with_reducible assumption) (by repeat' (first | exact Mine.Internal.UpdI.head | refine' Mine.Internal.UpdI.tail ?_)) (by k_dflt (k_extra "pos")) (by exact rfl))
      k_with "all" => exact Mine.Internal.Ks.ne_all (by with_reducible assumption) (by first | exact .inr (by k_extra "slt") | exact .inl (by k_extra "slt"))
      k_with "ne" => (refine neN ?_; first | exact Mine.Internal.Srt.ne (by with_reducible assumption) (by with_reducible solve_by_elim (maxDepth := 40) only [Mine.Internal.Apart.l, Mine.Internal.Apart.r, Mine.Internal.Apart.t, List.Mem.head, List.Mem.tail]) | ((try dsimp only); omega))
      k_with "lt" => (intro h9l; first | ((with_reducible rename Mine.Internal.Srt _ => S8); (first | (have S9 := Mine.Internal.Srt.grow S8 (h9l (_, _) (by k_dflt k_mem)); clear S8) | (have S9 := Mine.Internal.Srt.grow S8.tl (h9l (_, _) (by k_dflt k_mem)); clear S8) | (have S9 := Mine.Internal.Srt.grow S8.tl.tl (h9l (_, _) (by k_dflt k_mem)); clear S8)); clear h9l) | (replace h9l := allLt_of h9l; simp only [AllLt, and_true] at h9l))
      k_with "execs cons" => (k_here; (with_reducible show wpAny _ _ _ _ _ (Shared.mk _ _ _ (_ + _) _)); (refine Mine.Internal.gentoks ?_); intro tkg9 htk9; (try dsimp only at htk9))
      k_with "exec If" => ((with_reducible show wpAny _ _ _ _ _ _); k_fold)
      k_with "exec While" => ((with_reducible show wpAny _ _ _ _ _ _); k_fold)
      k_with "size" => k_dflt (first | exact Nat.le_of_ble_eq_true rfl | ((with_reducible show Array.size (List.toArray _) ≤ PySem.sizeLine); rw [List.size_toArray, PySem.sizeLine_eq]; refine Nat.le_trans (m := 100002) ?_ (Nat.le_of_ble_eq_true rfl); first | with_reducible assumption | exact Nat.le_trans (m := 100000) (by with_reducible assumption) (Nat.le_of_ble_eq_true rfl)))
      k_with "subscriptTail Name Constant ref int" => k_extra "subscriptTail"
      k_with "tok" => (first | exact Nat.le_add_left 1 _ | with_reducible assumption | exact Nat.le_trans (Nat.le_add_left 1 _) (by with_reducible assumption))
      k_with "next" => (first | ((with_reducible refine Mine.Internal.nextS (g := gens9) (d := dr9) (o := os9) ?_); intro qk9 tkg9) | ((with_reducible refine Mine.Internal.lastS (g := gens9) (d := dr9) (o := os9) ?_); intro tkg9) | (with_reducible refine Mine.Internal.nilS ?_) | (with_reducible refine Mine.Internal.fin9 ?_) | (with_reducible refine Mine.Internal.fin0 ?_) | (with_reducible refine Mine.Internal.finS9 ?_) | (with_reducible refine Mine.Internal.finS0 ?_) | ((with_reducible refine Mine.Internal.nextU (g := gens9) (d := dr9) (o := os9) ?_ ?_); (k_extra "tok"); intro qk9 tkg9) | ((with_reducible refine Mine.Internal.lastU (g := gens9) (d := dr9) (o := os9) ?_ ?_); (k_extra "tok"); intro tkg9) | ((with_reducible refine Mine.Internal.nextZ (g := gens9) (d := dr9) (o := os9) ?_); intro qk9 tkg9) | ((with_reducible refine Mine.Internal.lastZ (g := gens9) (d := dr9) (o := os9) ?_); intro tkg9))
      k_with "execs cons" => k_extra "next"
      k_with "execs nil" => (with_reducible refine Mine.Internal.nilS ?_)
      k_with "eval Constant int" => (with_reducible refine Mine.Internal.c_int (g := gens9) (d := dr9) (o := os9) ?_)
      k_with "storeName" => (first | (k_here; ktx_write) | (k_here; k_dflt (refine' Mine.Internal.st_name (gs := gens9) (d := dr9) (o := os9) ?tF_bisect ?tN_bisect ?_; (case tF_bisect => k_asm); (case tN_bisect => k_asm); k_whole; intro m9 h' F' N'; (try k_sweep))))
      k_with "call ref" => refine Mine.Internal.hold ?_
      k_with "subscriptTail" => (k_here; (with_reducible show wpAny _ _ (subscriptTail _ _ (Value.ref 243) (Value.int _ _)) _ _ _); k_dflt (refine' Mine.Internal.item_keys ?iF_bisect ?iX_bisect ?ik_bisect ?i0_bisect ?i1_bisect ?iq_bisect; (case iF_bisect => k_asm); (case iX_bisect => k_asm); (case ik_bisect => kernel_rfl); (case i0_bisect => omega); (case i1_bisect => omega); (case' iq_bisect => intro t9); (try k_fold)))
      k_fill
      refine' ctr_introN (binds := [("rows", .ref 243), ("key", .str p tp), ("low", .int lo t1), ("high", .int hi t2)]) (fun h h' T k => T.keeps k) (fun h T => T.nolimit) ?ho_bisect ?hcd_bisect ?hD_bisect ?hb_bisect ?hl_bisect ?_ ?hc_bisect ?c1_bisect ?c2_bisect ?c3_bisect
      case ho_bisect => k_is
      case hcd_bisect => k_is
      case hD_bisect => decide
      case hb_bisect => (intro s X; (try (rcases hargs with ⟨rfl, rfl, rfl⟩ | ⟨rfl, rfl⟩)); all_goals (first | exact BindsTo.of_eq rfl | exact binds_K X rfl (by k_is) rfl rfl rfl))
      case hl_bisect => exact locs rfl
      case hc_bisect => decide
      case c1_bisect => exact rfl
      case c2_bisect => exact rfl
      case c3_bisect => exact rfl
      intro A base g env outer L' h₁ hs9 gens9 dr9 t09 os9 tk B' F' X' N' T' l1
      intro e9 A9 q9
      (try clear l1)
      (try dsimp only at N')
      first | have S0 := Mine.Internal.Srt.eight ho hk hat | have S0 := Mine.Internal.Srt.grow (Mine.Internal.Srt.six ho) hoq | have S0 := Mine.Internal.Srt.five ho hk | have S0 := Mine.Internal.Srt.six ho | have S0 := Mine.Internal.Srt.two ho | have S0 := Mine.Internal.Srt.two hk | skip

      k_with "exec While" => k_dflt ((with_reducible rename Fr _ _ _ _ => F0); (with_reducible rename News _ _ _ _ => N0); (refine' ksw_meet (σ := Int × Tok × Int × Tok) (fun _ => []) (fun c => [("low", .int c.1 c.2.1), ("high", .int c.2.2.1 c.2.2.2)]) ["middle"] (fun c => Bis p c.1 c.2.2.1) (fun c => Bis p c.1 c.1) (fun c => (c.2.2.1 - c.1).toNat) (lo, _, hi, _) F0 N0 ?kk_bisect hb ?hq_bisect ?turn_bisect); (case kk_bisect => (intro p hp; (simp only [List.mem_cons, List.not_mem_nil, or_false] at hp); rcases hp with hp | hp <;> subst hp <;> rfl)); (case' hq_bisect => (intro c u hh tk2 hi Ft Nt; (try clear F0 N0); obtain ⟨lo9, tl, hi9, th⟩ := c; (dsimp only at hi Ft Nt))); (case' turn_bisect => (intro c u hh tk2 hi Ft Nt; (try clear F0 N0); obtain ⟨lo9, tl, hi9, th⟩ := c; (dsimp only at hi Ft Nt); have hb0 := hi.lo0; have hb1 := hi.hi1; have hb2 := hi.le)))
      k_with "KswEnd" => k_dflt ((with_reducible rename Fr _ _ _ _ => F9); (with_reducible rename News _ _ _ _ => N9); (have hm9 := hi.mid (by with_reducible assumption)); first | ((refine' ksw_end (σ := Int × Tok × Int × Tok) ((lo9 + hi9).fdiv 2 + 1, _, hi9, th) F9 N9 (fun _ h => nomatch h) trivial ?bk1_bisect ?br1_bisect (hi.up' hm9.1 hm9.2 (by with_reducible assumption) (by rfl)) ?bm1_bisect); (case bk1_bisect => (intro p hp; (simp only [List.mem_cons, List.not_mem_nil, or_false] at hp); rcases hp with hp | hp <;> subst hp <;> rfl)); (case br1_bisect => (intro z9 hz9 hz8; have hz1 := hz9 _ (List.mem_cons_self ..); have hz2 := hz9 _ (List.mem_cons_of_mem _ (List.mem_cons_self ..)); (dsimp only at hz1 hz2); have hz7 : z9 ≠ Str.ofString "middle" := (by intro e9; subst e9; simp at hz8); simp (zetaDelta := true) [hz1, hz2, hz7, kstB])); (case bm1_bisect => (dsimp only; omega))) | ((refine' ksw_end (σ := Int × Tok × Int × Tok) (lo9, tl, (lo9 + hi9).fdiv 2, _) F9 N9 (fun _ h => nomatch h) trivial ?bk2_bisect ?br2_bisect (hi.down' hm9.1 hm9.2 (by with_reducible assumption) (by rfl)) ?bm2_bisect); (case bk2_bisect => (intro p hp; (simp only [List.mem_cons, List.not_mem_nil, or_false] at hp); rcases hp with hp | hp <;> subst hp <;> rfl)); (case br2_bisect => (intro z9 hz9 hz8; have hz1 := hz9 _ (List.mem_cons_self ..); have hz2 := hz9 _ (List.mem_cons_of_mem _ (List.mem_cons_self ..)); (dsimp only at hz1 hz2); have hz7 : z9 ≠ Str.ofString "middle" := (by intro e9; subst e9; simp at hz8); simp (zetaDelta := true) [hz1, hz2, hz7, kstB])); (case bm2_bisect => (dsimp only; omega))) | (refine Mine.Internal.hold ?_))
      k_with "MeetW" => k_dflt (exact meetW_end (σ := Int × Tok × Int × Tok) (lo9, tl, hi9, th) u Ft Nt (fun _ h => h) (by (have e9 : lo9 = hi9 := by omega); subst e9; exact hi))
      k_steps
      all_goals (try dsimp only)
      all_goals (refine cend (l := []) (by assumption) (by assumption) (fun _ h => nomatch h) ⟨_, _, rfl, hi, rfl⟩)
  have ctr_haskeys {w : World} {loose : List Str} {mean : ExcName → Option Value} {mg mb : Str → Option Value} {p : Str} {tp : Tok} :
      CtrC PySem.Challenge.rw_te0076_05.row.prog w (main.heap_1_39 w.params) (Top main.view_1_40 loose mean mg mb) 460 600 (.ref 220) ⟨[.ref 236, .str p tp], []⟩ [] (noF fun v l => v = .bool (hasPre p) ∧ l = []) := by
    as_aux_lemma =>
      clear ctr_is_invalid ctr_charErrors ctr_read ctr_readE ctr_position0 ctr_unget ctr_ungetN ctr_ungetS ctr_readN ctr_readC ctr_readA ctr_char ctr_until ctr_tinit call_char call_unget call_ungetN call_until call_tok ctr_cne call_cne ctr_lfault ctr_lsignW
      k_with_none
      k_with "pos" => (repeat' (first | exact Mine.Internal.PosL.nil | (apply Mine.Internal.PosL.cons 0; exact rfl) | (apply Mine.Internal.PosL.cons 1; exact rfl) | (apply Mine.Internal.PosL.cons 2; exact rfl) | (apply Mine.Internal.PosL.cons 3; exact rfl) | (apply Mine.Internal.PosL.cons 4; exact rfl) | (apply Mine.Internal.PosL.cons 5; exact rfl) | (apply Mine.Internal.PosL.cons 6; exact rfl) | (apply Mine.Internal.PosL.cons 7; exact rfl) | (apply Mine.Internal.PosL.cons 8; exact rfl) | (apply Mine.Internal.PosL.cons 9; exact rfl) | (apply Mine.Internal.PosL.cons 10; exact rfl) | (apply Mine.Internal.PosL.cons 11; exact rfl) | (apply Mine.Internal.PosL.cons 12; exact rfl) | (apply Mine.Internal.PosL.cons 13; exact rfl) | (apply Mine.Internal.PosL.cons 14; exact rfl) | (apply Mine.Internal.PosL.cons 15; exact rfl) | (apply Mine.Internal.PosL.cons 16; exact rfl) | (apply Mine.Internal.PosL.cons 17; exact rfl) | (apply Mine.Internal.PosL.cons 18; exact rfl) | (apply Mine.Internal.PosL.cons 19; exact rfl) | (apply Mine.Internal.PosL.cons 20; exact rfl) | (apply Mine.Internal.PosL.cons 21; exact rfl) | (apply Mine.Internal.PosL.cons 22; exact rfl) | (apply Mine.Internal.PosL.cons 23; exact rfl)))
      k_with "slt" => exact Mine.Internal.Srt.lt (by with_reducible assumption) (by ((repeat (first | (with_reducible_and_instances refine Mine.Internal.Aft.here ?_; (repeat (first | with_reducible_and_instances exact List.Mem.head _ | with_reducible_and_instances refine List.Mem.tail _ ?_)); done) | with_reducible refine Mine.Internal.Aft.there ?_)); all_goals fail))
      k_with "upd" => (exact Mine.Internal.Srt.updP (by with_reducible assumption) (by repeat' (first | exact Mine.Internal.UpdI.head | refine' Mine.Internal.UpdI.tail ?_)) (by k_dflt (k_extra "pos")) (by exact rfl))
      k_with "all" => exact Mine.Internal.Ks.ne_all (by with_reducible assumption) (by first | exact .inr (by k_extra "slt") | exact .inl (by k_extra "slt"))
      k_with "ne" => (refine neN ?_; first | exact Mine.Internal.Srt.ne (by with_reducible assumption) (by with_reducible solve_by_elim (maxDepth := 40) only [Mine.Internal.Apart.l, Mine.Internal.Apart.r, Mine.Internal.Apart.t, List.Mem.head, List.Mem.tail]) | ((try dsimp only); omega))
      k_with "lt" => (intro h9l; first | ((with_reducible rename Mine.Internal.Srt _ => S8); (first | (have S9 := Mine.Internal.Srt.grow S8 (h9l (_, _) (by k_dflt k_mem)); clear S8) | (have S9 := Mine.Internal.Srt.grow S8.tl (h9l (_, _) (by k_dflt k_mem)); clear S8) | (have S9 := Mine.Internal.Srt.grow S8.tl.tl (h9l (_, _) (by k_dflt k_mem)); clear S8)); clear h9l) | (replace h9l := allLt_of h9l; simp only [AllLt, and_true] at h9l))
      k_with "subscriptTail" => (k_here; (with_reducible show wpAny _ _ (subscriptTail _ _ (Value.str _ _) (Value.int _ _)) _ _ _); (refine Mine.Internal.sub_chr (by omega) (by omega) (by assumption) ?_))
      k_with "execs cons" => (k_here; (with_reducible show wpAny _ _ _ _ _ (Shared.mk _ _ _ (_ + _) _)); (refine Mine.Internal.gentoks ?_); intro tkg9 htk9; (try dsimp only at htk9))
      k_with "size" => k_dflt (first | exact Nat.le_of_ble_eq_true rfl | ((with_reducible show Array.size (List.toArray _) ≤ PySem.sizeLine); rw [List.size_toArray, PySem.sizeLine_eq]; refine Nat.le_trans (m := 100002) ?_ (Nat.le_of_ble_eq_true rfl); first | with_reducible assumption | exact Nat.le_trans (m := 100000) (by with_reducible assumption) (Nat.le_of_ble_eq_true rfl)))
      k_with "subscriptTail Name Constant ref int" => k_extra "subscriptTail"
      k_with "tok" => (first | exact Nat.le_add_left 1 _ | with_reducible assumption | exact Nat.le_trans (Nat.le_add_left 1 _) (by with_reducible assumption))
      k_with "next" => (first | ((with_reducible refine Mine.Internal.nextS (g := gens9) (d := dr9) (o := os9) ?_); intro qk9 tkg9) | ((with_reducible refine Mine.Internal.lastS (g := gens9) (d := dr9) (o := os9) ?_); intro tkg9) | (with_reducible refine Mine.Internal.nilS ?_) | (with_reducible refine Mine.Internal.fin9 ?_) | (with_reducible refine Mine.Internal.fin0 ?_) | (with_reducible refine Mine.Internal.finS9 ?_) | (with_reducible refine Mine.Internal.finS0 ?_) | ((with_reducible refine Mine.Internal.nextU (g := gens9) (d := dr9) (o := os9) ?_ ?_); (k_extra "tok"); intro qk9 tkg9) | ((with_reducible refine Mine.Internal.lastU (g := gens9) (d := dr9) (o := os9) ?_ ?_); (k_extra "tok"); intro tkg9) | ((with_reducible refine Mine.Internal.nextZ (g := gens9) (d := dr9) (o := os9) ?_); intro qk9 tkg9) | ((with_reducible refine Mine.Internal.lastZ (g := gens9) (d := dr9) (o := os9) ?_); intro tkg9))
      k_with "execs cons" => k_extra "next"
      k_with "execs nil" => (with_reducible refine Mine.Internal.nilS ?_)
      k_with "storeName" => (first | (k_here; ktx_write) | (k_here; k_dflt (refine' Mine.Internal.st_name (gs := gens9) (d := dr9) (o := os9) ?tF_haskeys ?tN_haskeys ?_; (case tF_haskeys => k_asm); (case tN_haskeys => k_asm); k_whole; intro m9 h' F' N'; (try k_sweep))))
      k_with "call ref" => refine Mine.Internal.hold ?_
      k_with "call ref" => (k_here; (with_reducible show wpAny _ _ (call (Value.ref 178) _ _) _ _ _); k_dflt (refine' Mine.Internal.Ctr.useN (gs := gens9) (d := dr9) (o := os9) (Mine.Internal.CtrC.call (ctr_bisect ?p1_haskeys)) ?cB_haskeys ?cF_haskeys ?cX_haskeys ?cN_haskeys ?cT_haskeys ?ca_haskeys ?cb_haskeys ?cc_haskeys ?ce_haskeys ?cd_haskeys ?cu_haskeys ?ck_haskeys ?cne_haskeys ?_; (case cB_haskeys => k_asm); (case cF_haskeys => k_asm); (case cX_haskeys => k_asm); (case cT_haskeys => k_asm); (case cN_haskeys => k_asm); (case ca_haskeys => exact rfl); (case cb_haskeys => exact rfl); (case cc_haskeys => exact rfl); (case ce_haskeys => exact rfl); (case cd_haskeys => exact Nat.le_of_ble_eq_true rfl); (case cu_haskeys => exact Nat.le_of_ble_eq_true rfl); (case ck_haskeys => ((try (refine' Mine.Internal.Take.cons ?_ ?_)); repeat' (first | exact Mine.Internal.Take.nil | exact Mine.Internal.Del.head | refine' Mine.Internal.Take.cons ?_ ?_ | refine' Mine.Internal.Del.tail ?_))); (case cne_haskeys => first | exact List.forall_mem_nil _ | exact (fun _ _ => List.forall_mem_nil _) | exact Mine.Internal.Srt.neL (by with_reducible assumption) (by k_extra "pos") (by k_extra "pos") (by exact rfl) | ((simp only [List.forall_mem_cons, List.not_mem_nil, false_implies, implies_true, and_true, true_and]); (repeat' (refine And.intro ?_ ?_)); all_goals k_ne)); (case p1_haskeys => exact Mine.Internal.Bis.start _); (k_whole; intro v' l' hp'; obtain ⟨k', t', e1', hb', e2'⟩ := hp'; subst e1'; subst e2'; intro h' n' hn' F' N'; (try dsimp only [List.cons_append, List.nil_append] at N'); (try k_sweep); (try dsimp only); (try k_fold))))
      k_with "compareOp In str ref" => (k_here; (with_reducible show wpAny _ _ (compareOp CmpOp.In (Value.str _ _) (Value.ref 43)) _ _ _); k_dflt (refine' Mine.Internal.in_ent ?eF_haskeys ?eX_haskeys ?ee_haskeys ?eh_haskeys ?_; (case eF_haskeys => k_asm); (case eX_haskeys => k_asm); (case ee_haskeys => kernel_rfl); (case eh_haskeys => kernel_rfl); k_whole))
      k_fill
      refine' ctr_introN (binds := [("self", .ref 236), ("prefix", .str p tp)]) (fun h h' T k => T.keeps k) (fun h T => T.nolimit) ?ho_haskeys ?hcd_haskeys ?hD_haskeys ?hb_haskeys ?hl_haskeys ?_ ?hc_haskeys ?c1_haskeys ?c2_haskeys ?c3_haskeys
      case ho_haskeys => k_is
      case hcd_haskeys => k_is
      case hD_haskeys => decide
      case hb_haskeys => (intro s X; (try (rcases hargs with ⟨rfl, rfl, rfl⟩ | ⟨rfl, rfl⟩)); all_goals (first | exact BindsTo.of_eq rfl | exact binds_K X rfl (by k_is) rfl rfl rfl))
      case hl_haskeys => exact locs rfl
      case hc_haskeys => decide
      case c1_haskeys => exact rfl
      case c2_haskeys => exact rfl
      case c3_haskeys => exact rfl
      intro A base g env outer L' h₁ hs9 gens9 dr9 t09 os9 tk B' F' X' N' T' l1
      intro e9 A9 q9
      (try clear l1)
      (try dsimp only at N')
      first | have S0 := Mine.Internal.Srt.eight ho hk hat | have S0 := Mine.Internal.Srt.grow (Mine.Internal.Srt.six ho) hoq | have S0 := Mine.Internal.Srt.five ho hk | have S0 := Mine.Internal.Srt.six ho | have S0 := Mine.Internal.Srt.two ho | have S0 := Mine.Internal.Srt.two hk | skip

      k_with "subscriptTail" => (k_here; (with_reducible show wpAny _ _ (subscriptTail _ _ (Value.ref 243) (Value.int _ _)) _ _ _); (have hl9 := hb'.lo0); (have hh9 := hb'.hi1); k_dflt (refine' Mine.Internal.item_keys ?iF_haskeys ?iX_haskeys ?ik_haskeys ?i0_haskeys ?i1_haskeys ?iq_haskeys; (case iF_haskeys => k_asm); (case iX_haskeys => k_asm); (case ik_haskeys => kernel_rfl); (case i0_haskeys => omega); (case i1_haskeys => omega); (case' iq_haskeys => intro t9); (try k_fold)))
      k_steps
      all_goals (try dsimp only)
      all_goals (first
        | exact cend (l := []) (by assumption) (by assumption) (fun _ h => nomatch h) ⟨by rw [Mine.Internal.pre_ent (by with_reducible assumption)], rfl⟩
        | exact cend (l := []) (by assumption) (by assumption) (fun _ h => nomatch h) ⟨by rw [Mine.Internal.pre_at hb', decide_eq_false (by omega)]; rfl, rfl⟩
        | exact cend (l := []) (by assumption) (by assumption) (fun _ h => nomatch h) ⟨Mine.Internal.pre_end hb' (by with_reducible assumption), rfl⟩
        | exact (Mine.Internal.starts_nil (by with_reducible assumption)).elim)
  have ctr_lfig {w : World} {loose : List Str} {mean : ExcName → Option Value} {mg mb : Str → Option Value} :
      CtrC PySem.Challenge.rw_te0076_05.row.prog w (main.heap_1_39 w.params) (Top main.view_1_40 loose mean mg mb) 460 600 (.ref 787) ⟨[], []⟩ [] (fun v fr l => l = [] ∧ ∃ d o kvs, v = .ref d ∧ fr = [(d, o)] ∧ (d == sysModules) = false ∧ FigKV kvs figL ∧ o.IsDictOf (PySem.strKind PySem.Challenge.rw_te0076_05.row.prog w) kvs) := by
    as_aux_lemma =>
      clear ctr_is_invalid ctr_charErrors ctr_read ctr_readE ctr_position0 ctr_unget ctr_ungetN ctr_ungetS ctr_readN ctr_readC ctr_readA ctr_char ctr_until ctr_tinit call_char call_unget call_ungetN call_until call_tok ctr_cne call_cne ctr_lfault ctr_lsignW ctr_bisect ctr_haskeys
      k_with_none
      k_with "pos" => (repeat' (first | exact Mine.Internal.PosL.nil | (apply Mine.Internal.PosL.cons 0; exact rfl) | (apply Mine.Internal.PosL.cons 1; exact rfl) | (apply Mine.Internal.PosL.cons 2; exact rfl) | (apply Mine.Internal.PosL.cons 3; exact rfl) | (apply Mine.Internal.PosL.cons 4; exact rfl) | (apply Mine.Internal.PosL.cons 5; exact rfl) | (apply Mine.Internal.PosL.cons 6; exact rfl) | (apply Mine.Internal.PosL.cons 7; exact rfl) | (apply Mine.Internal.PosL.cons 8; exact rfl) | (apply Mine.Internal.PosL.cons 9; exact rfl) | (apply Mine.Internal.PosL.cons 10; exact rfl) | (apply Mine.Internal.PosL.cons 11; exact rfl) | (apply Mine.Internal.PosL.cons 12; exact rfl) | (apply Mine.Internal.PosL.cons 13; exact rfl) | (apply Mine.Internal.PosL.cons 14; exact rfl) | (apply Mine.Internal.PosL.cons 15; exact rfl) | (apply Mine.Internal.PosL.cons 16; exact rfl) | (apply Mine.Internal.PosL.cons 17; exact rfl) | (apply Mine.Internal.PosL.cons 18; exact rfl) | (apply Mine.Internal.PosL.cons 19; exact rfl) | (apply Mine.Internal.PosL.cons 20; exact rfl) | (apply Mine.Internal.PosL.cons 21; exact rfl) | (apply Mine.Internal.PosL.cons 22; exact rfl) | (apply Mine.Internal.PosL.cons 23; exact rfl)))
      k_with "slt" => exact Mine.Internal.Srt.lt (by with_reducible assumption) (by ((repeat (first | (with_reducible_and_instances refine Mine.Internal.Aft.here ?_; (repeat (first | with_reducible_and_instances exact List.Mem.head _ | with_reducible_and_instances refine List.Mem.tail _ ?_)); done) | with_reducible refine Mine.Internal.Aft.there ?_)); all_goals fail))
      k_with "take" => k_dflt ((try dsimp only); repeat' (first | exact Mine.Internal.Take.nil | exact Mine.Internal.Del.head | refine' Mine.Internal.Take.blk ?_ | exact Mine.Internal.Tl.nil | exact Mine.Internal.Tl.app | refine' Mine.Internal.Take.cons ?_ ?_ | refine' Mine.Internal.Del.tail ?_ | refine' Mine.Internal.Tl.cons ?_))
      k_with "upd" => (exact Mine.Internal.Srt.updP (by with_reducible assumption) (by repeat' (first | exact Mine.Internal.UpdI.head | refine' Mine.Internal.UpdI.tail ?_)) (by k_dflt (k_extra "pos")) (by exact rfl))
      k_with "all" => exact Mine.Internal.Ks.ne_all (by with_reducible assumption) (by first | exact .inr (by k_extra "slt") | exact .inl (by k_extra "slt"))
      k_with "ne" => (refine neN ?_; first | exact Mine.Internal.Srt.ne (by with_reducible assumption) (by with_reducible solve_by_elim (maxDepth := 40) only [Mine.Internal.Apart.l, Mine.Internal.Apart.r, Mine.Internal.Apart.t, List.Mem.head, List.Mem.tail]) | ((try dsimp only); omega))
      k_with "lt" => (intro h9l; first | ((with_reducible rename Mine.Internal.Srt _ => S8); (first | (have S9 := Mine.Internal.Srt.grow S8 (h9l (_, _) (by k_dflt k_mem)); clear S8) | (have S9 := Mine.Internal.Srt.grow S8.tl (h9l (_, _) (by k_dflt k_mem)); clear S8) | (have S9 := Mine.Internal.Srt.grow S8.tl.tl (h9l (_, _) (by k_dflt k_mem)); clear S8)); clear h9l) | (replace h9l := allLt_of h9l; simp only [AllLt, and_true] at h9l))
      k_with "execs cons" => (k_here; (with_reducible show wpAny _ _ _ _ _ (Shared.mk _ _ _ (_ + _) _)); (refine Mine.Internal.gentoks ?_); intro tkg9 htk9; (try dsimp only at htk9))
      k_with "size" => k_dflt (first | exact Nat.le_of_ble_eq_true rfl | ((with_reducible show Array.size (List.toArray _) ≤ PySem.sizeLine); rw [List.size_toArray, PySem.sizeLine_eq]; refine Nat.le_trans (m := 100002) ?_ (Nat.le_of_ble_eq_true rfl); first | with_reducible assumption | exact Nat.le_trans (m := 100000) (by with_reducible assumption) (Nat.le_of_ble_eq_true rfl)))
      k_with "subscriptTail Name Constant ref int" => k_extra "subscriptTail"
      k_with "tok" => (first | exact Nat.le_add_left 1 _ | with_reducible assumption | exact Nat.le_trans (Nat.le_add_left 1 _) (by with_reducible assumption))
      k_with "next" => (first | ((with_reducible refine Mine.Internal.nextS (g := gens9) (d := dr9) (o := os9) ?_); intro qk9 tkg9) | ((with_reducible refine Mine.Internal.lastS (g := gens9) (d := dr9) (o := os9) ?_); intro tkg9) | (with_reducible refine Mine.Internal.nilS ?_) | (with_reducible refine Mine.Internal.fin9 ?_) | (with_reducible refine Mine.Internal.fin0 ?_) | (with_reducible refine Mine.Internal.finS9 ?_) | (with_reducible refine Mine.Internal.finS0 ?_) | ((with_reducible refine Mine.Internal.nextU (g := gens9) (d := dr9) (o := os9) ?_ ?_); (k_extra "tok"); intro qk9 tkg9) | ((with_reducible refine Mine.Internal.lastU (g := gens9) (d := dr9) (o := os9) ?_ ?_); (k_extra "tok"); intro tkg9) | ((with_reducible refine Mine.Internal.nextZ (g := gens9) (d := dr9) (o := os9) ?_); intro qk9 tkg9) | ((with_reducible refine Mine.Internal.lastZ (g := gens9) (d := dr9) (o := os9) ?_); intro tkg9))
      k_with "execs cons" => k_extra "next"
      k_with "call ref" => refine Mine.Internal.hold ?_
      k_fill
      refine' ctr_introM (binds := []) (fun h h' T k => T.keeps k) (fun h T => T.nolimit) ?ho_lfig ?hcd_lfig ?hD_lfig ?hb_lfig ?hl_lfig ?_ ?hc_lfig ?c1_lfig ?c2_lfig ?c3_lfig
      case ho_lfig => k_is
      case hcd_lfig => k_is
      case hD_lfig => decide
      case hb_lfig => (intro s X; (try (rcases hargs with ⟨rfl, rfl, rfl⟩ | ⟨rfl, rfl⟩)); all_goals (first | exact BindsTo.of_eq rfl | exact binds_K X rfl (by k_is) rfl rfl rfl))
      case hl_lfig => exact locs rfl
      case hc_lfig => decide
      case c1_lfig => exact rfl
      case c2_lfig => exact rfl
      case c3_lfig => exact rfl
      intro A base g env outer L' h₁ hs9 gens9 dr9 t09 os9 tk B' F' X' N' T' l1
      intro e9 A9 q9
      (try clear l1)
      (try dsimp only at N')
      first | have S0 := Mine.Internal.Srt.eight ho hk hat | have S0 := Mine.Internal.Srt.grow (Mine.Internal.Srt.six ho) hoq | have S0 := Mine.Internal.Srt.five ho hk | have S0 := Mine.Internal.Srt.six ho | have S0 := Mine.Internal.Srt.two ho | have S0 := Mine.Internal.Srt.two hk | skip

      k_with "eval Dict" => k_dflt ((with_reducible show wpAny _ _ (PySem.eval (Expr.Dict (_ :: _) _ _) _) _ _ _); (refine' Mine.Internal.eval_figs (figs := Mine.Internal.figL) ?F_lfig ?N_lfig ?b_lfig ?a_lfig ?l_lfig ?e_lfig ?q_lfig ?h1_lfig ?h2_lfig ?h3_lfig ?_; (case h1_lfig => exact Nat.le_of_ble_eq_true rfl); (case h2_lfig => exact Nat.le_of_ble_eq_true rfl); (case h3_lfig => exact Mine.Internal.figL_nodup); (case F_lfig => k_asm); (case N_lfig => first | k_asm | exact News.nil); (case b_lfig => exact Top.nolimit (by k_asm)); (case a_lfig => rfl); (case l_lfig => rfl); (case e_lfig => rfl); (case q_lfig => repeat' (first | exact Mine.Internal.Lits.nil | refine Mine.Internal.lits_cons ?_))); intro d' h' o' kv' nk' F' N' l1 lo' hf' hd'; (try k_lt l1))
      k_steps
      all_goals (try dsimp only)
      refine' cendF (fr := [(_, _)]) (l := []) (by assumption) (by assumption) (Mine.Internal.Take.sub ?tk_lfig) (fun _ _ _ h => nomatch h) ⟨rfl, _, _, _, rfl, rfl, by assumption, by assumption, by assumption⟩
      case tk_lfig => (k_extra "take")
  have ctr_lref {w : World} {loose : List Str} {mean : ExcName → Option Value} {mg mb : Str → Option Value} {T : Str} {tt : Tok} {av : Value} {al : Option Nat} (hT : T.length ≤ 640) (hcr : ∀ c ∈ T.cps.toList, c ≠ 13) (hal : AllowIs av al) :
      CtrC PySem.Challenge.rw_te0076_05.row.prog w (main.heap_1_39 w.params) (Top main.view_1_40 loose mean mg mb) 440 400 (.ref 794) ⟨[.str T tt, av], []⟩ [] (LrP PySem.Challenge.rw_te0076_05.row.prog w T al) := by
    as_aux_lemma =>
      clear ctr_is_invalid ctr_charErrors ctr_read ctr_readE ctr_position0 ctr_unget ctr_ungetN ctr_ungetS ctr_readN ctr_readC ctr_readA ctr_char ctr_until ctr_tinit call_char call_unget call_ungetN call_until call_tok ctr_cne call_cne ctr_bisect ctr_haskeys
      obtain ⟨hx, hhx⟩ : ∃ b, hexC (T.cps.toList.drop 1) = b := ⟨_, rfl⟩
      k_with_none
      k_with "pos" => (repeat' (first | exact Mine.Internal.PosL.nil | (apply Mine.Internal.PosL.cons 0; exact rfl) | (apply Mine.Internal.PosL.cons 1; exact rfl) | (apply Mine.Internal.PosL.cons 2; exact rfl) | (apply Mine.Internal.PosL.cons 3; exact rfl) | (apply Mine.Internal.PosL.cons 4; exact rfl) | (apply Mine.Internal.PosL.cons 5; exact rfl) | (apply Mine.Internal.PosL.cons 6; exact rfl) | (apply Mine.Internal.PosL.cons 7; exact rfl) | (apply Mine.Internal.PosL.cons 8; exact rfl) | (apply Mine.Internal.PosL.cons 9; exact rfl) | (apply Mine.Internal.PosL.cons 10; exact rfl) | (apply Mine.Internal.PosL.cons 11; exact rfl) | (apply Mine.Internal.PosL.cons 12; exact rfl) | (apply Mine.Internal.PosL.cons 13; exact rfl) | (apply Mine.Internal.PosL.cons 14; exact rfl) | (apply Mine.Internal.PosL.cons 15; exact rfl) | (apply Mine.Internal.PosL.cons 16; exact rfl) | (apply Mine.Internal.PosL.cons 17; exact rfl) | (apply Mine.Internal.PosL.cons 18; exact rfl) | (apply Mine.Internal.PosL.cons 19; exact rfl) | (apply Mine.Internal.PosL.cons 20; exact rfl) | (apply Mine.Internal.PosL.cons 21; exact rfl) | (apply Mine.Internal.PosL.cons 22; exact rfl) | (apply Mine.Internal.PosL.cons 23; exact rfl)))
      k_with "slt" => exact Mine.Internal.Srt.lt (by with_reducible assumption) (by ((repeat (first | (with_reducible_and_instances refine Mine.Internal.Aft.here ?_; (repeat (first | with_reducible_and_instances exact List.Mem.head _ | with_reducible_and_instances refine List.Mem.tail _ ?_)); done) | with_reducible refine Mine.Internal.Aft.there ?_)); all_goals fail))
      k_with "upd" => (exact Mine.Internal.Srt.updP (by with_reducible assumption) (by repeat' (first | exact Mine.Internal.UpdI.head | refine' Mine.Internal.UpdI.tail ?_)) (by k_dflt (k_extra "pos")) (by exact rfl))
      k_with "all" => exact Mine.Internal.Ks.ne_all (by with_reducible assumption) (by first | exact .inr (by k_extra "slt") | exact .inl (by k_extra "slt"))
      k_with "ne" => (refine neN ?_; first | exact Mine.Internal.Srt.ne (by with_reducible assumption) (by with_reducible solve_by_elim (maxDepth := 40) only [Mine.Internal.Apart.l, Mine.Internal.Apart.r, Mine.Internal.Apart.t, List.Mem.head, List.Mem.tail]) | ((try dsimp only); omega))
      k_with "lt" => (intro h9l; first | ((with_reducible rename Mine.Internal.Srt _ => S8); (first | (have S9 := Mine.Internal.Srt.grow S8 (h9l (_, _) (by k_dflt k_mem)); clear S8) | (have S9 := Mine.Internal.Srt.grow S8.tl (h9l (_, _) (by k_dflt k_mem)); clear S8) | (have S9 := Mine.Internal.Srt.grow S8.tl.tl (h9l (_, _) (by k_dflt k_mem)); clear S8)); clear h9l) | (replace h9l := allLt_of h9l; simp only [AllLt, and_true] at h9l))
      k_with "subscriptTail" => (k_here; (with_reducible show wpAny _ _ (subscriptTail _ _ (Value.str _ _) (Value.int _ _)) _ _ _); (refine Mine.Internal.sub_chr (by omega) (by omega) (by assumption) ?_))
      k_with "getMethod ref" => (k_here; k_dflt (first | (refine' method_inst ?k1_lref ?k2_lref ?k3_lref ?k4_lref ?k5_lref ?k6_lref ?k7_lref ?_; (case k1_lref => k_asm); (case k2_lref => k_asm); (case k3_lref => k_inst); (case k4_lref => k_is); (case k5_lref => k_is); (case k6_lref => k_is); (case k7_lref => k_get); k_whole) | (refine' kmu_own ?k1_lref ?k2_lref ?k3_lref ?k4_lref ?k5_lref ?_; (case k1_lref => k_asm); (case k2_lref => k_asm); (case k3_lref => k_inst); (case k4_lref => k_is); (case k5_lref => k_is); k_whole)))
      k_with "getMethod ref" => (k_here; (with_reducible show wpAny _ _ (getMethod (Value.ref _) (PySem.Str.ofString "append") _) _ _ _); k_dflt (refine' kl_method ?N_lref ?m_lref slot_list_append type_list_append ?_; (case N_lref => k_asm); (case m_lref => k_mem); k_whole))
      k_with "execs cons" => (k_here; (with_reducible show wpAny _ _ _ _ _ (Shared.mk _ _ _ (_ + _) _)); (refine Mine.Internal.gentoks ?_); intro tkg9 htk9; (try dsimp only at htk9))
      k_with "exec AugAssign" => ((with_reducible show wpAny _ _ _ _ _ _); k_fold)
      k_with "exec While" => ((with_reducible show wpAny _ _ _ _ _ _); k_fold)
      k_with "size" => k_dflt (first | exact Nat.le_of_ble_eq_true rfl | ((with_reducible show Array.size (List.toArray _) ≤ PySem.sizeLine); rw [List.size_toArray, PySem.sizeLine_eq]; refine Nat.le_trans (m := 100002) ?_ (Nat.le_of_ble_eq_true rfl); first | with_reducible assumption | exact Nat.le_trans (m := 100000) (by with_reducible assumption) (Nat.le_of_ble_eq_true rfl)))
      k_with "subscriptTail Name Constant ref int" => k_extra "subscriptTail"
      k_with "tok" => (first | exact Nat.le_add_left 1 _ | with_reducible assumption | exact Nat.le_trans (Nat.le_add_left 1 _) (by with_reducible assumption))
      k_with "next" => (first | ((with_reducible refine Mine.Internal.nextS (g := gens9) (d := dr9) (o := os9) ?_); intro qk9 tkg9) | ((with_reducible refine Mine.Internal.lastS (g := gens9) (d := dr9) (o := os9) ?_); intro tkg9) | (with_reducible refine Mine.Internal.nilS ?_) | (with_reducible refine Mine.Internal.fin9 ?_) | (with_reducible refine Mine.Internal.fin0 ?_) | (with_reducible refine Mine.Internal.finS9 ?_) | (with_reducible refine Mine.Internal.finS0 ?_) | ((with_reducible refine Mine.Internal.nextU (g := gens9) (d := dr9) (o := os9) ?_ ?_); (k_extra "tok"); intro qk9 tkg9) | ((with_reducible refine Mine.Internal.lastU (g := gens9) (d := dr9) (o := os9) ?_ ?_); (k_extra "tok"); intro tkg9) | ((with_reducible refine Mine.Internal.nextZ (g := gens9) (d := dr9) (o := os9) ?_); intro qk9 tkg9) | ((with_reducible refine Mine.Internal.lastZ (g := gens9) (d := dr9) (o := os9) ?_); intro tkg9))
      k_with "execs cons" => k_extra "next"
      k_with "execs nil" => (with_reducible refine Mine.Internal.nilS ?_)
      k_with "eval Constant int" => (with_reducible refine Mine.Internal.c_int (g := gens9) (d := dr9) (o := os9) ?_)
      k_with "eval Constant str" => (with_reducible refine Mine.Internal.c_str (g := gens9) (d := dr9) (o := os9) ?_)
      k_with "storeName" => (first | (k_here; ktx_write) | (k_here; k_dflt (refine' Mine.Internal.st_name (gs := gens9) (d := dr9) (o := os9) ?tF_lref ?tN_lref ?_; (case tF_lref => k_asm); (case tN_lref => k_asm); k_whole; intro m9 h' F' N'; (try k_sweep))))
      k_with "call ref" => refine Mine.Internal.hold ?_
      k_with "lt" => (intro h9l; ((with_reducible rename Mine.Internal.Srt _ => S8); (have S9 := Mine.Internal.Srt.grow S8 (h9l (_, _) (by k_dflt k_mem))); clear S8))
      k_with "ne" => (refine neN ?_; first | exact Mine.Internal.ne_by (by with_reducible assumption) (by k_dflt k_mem) | exact Mine.Internal.ne_by' (by with_reducible assumption) (by k_dflt k_mem) | exact Mine.Internal.Srt.ne (by with_reducible assumption) (by with_reducible solve_by_elim (maxDepth := 40) only [Mine.Internal.Apart.l, Mine.Internal.Apart.r, Mine.Internal.Apart.t, List.Mem.head, List.Mem.tail]))
      k_with "call ref" => (k_here; (with_reducible show wpAny _ _ (call (Value.ref 787) _ _) _ _ _); k_dflt (refine' Mine.Internal.Ctr.useF (gs := gens9) (d := dr9) (o := os9) (Mine.Internal.CtrC.call ctr_lfig) ?cB_lref ?cF_lref ?cX_lref ?cN_lref ?cT_lref ?ca_lref ?cb_lref ?cc_lref ?ce_lref ?cd_lref ?cu_lref ?ck_lref ?cne_lref ?_; (case cB_lref => k_asm); (case cF_lref => k_asm); (case cX_lref => k_asm); (case cT_lref => k_asm); (case cN_lref => k_asm); (case ca_lref => exact rfl); (case cb_lref => exact rfl); (case cc_lref => exact rfl); (case ce_lref => exact rfl); (case cd_lref => exact Nat.le_of_ble_eq_true rfl); (case cu_lref => exact Nat.le_of_ble_eq_true rfl); (case ck_lref => ((try (refine' Mine.Internal.Take.cons ?_ ?_)); repeat' (first | exact Mine.Internal.Take.nil | exact Mine.Internal.Del.head | refine' Mine.Internal.Take.cons ?_ ?_ | refine' Mine.Internal.Del.tail ?_))); (case cne_lref => first | exact List.forall_mem_nil _ | exact (fun _ _ => List.forall_mem_nil _) | exact Mine.Internal.Srt.neL (by with_reducible assumption) (by k_extra "pos") (by k_extra "pos") (by exact rfl) | ((simp only [List.forall_mem_cons, List.not_mem_nil, false_implies, implies_true, and_true, true_and]); (repeat' (refine And.intro ?_ ?_)); all_goals k_ne)); (k_whole; intro v' fr' l' hp' hfr'; obtain ⟨e3', d', o', kv', e1', e2', hlo', hf', hd'⟩ := hp'; subst e3'; subst e1'; subst e2'; (first | ((with_reducible rename Mine.Internal.Srt _ => S8); (have S9 := Mine.Internal.fresh_grow S8 hfr' (by k_dflt k_mem)); clear S8; clear hfr') | simp only [List.cons_append, List.nil_append, List.forall_mem_cons, List.not_mem_nil, false_implies, implies_true, and_true, true_and] at hfr'); intro h' n' hn' F' N'; (try dsimp only [List.cons_append, List.nil_append] at N'); (try k_sweep); (try dsimp only); (try k_fold))))
      k_with "call ref" => (k_here; (with_reducible show wpAny _ _ (call (Value.ref 780) _ _) _ _ _); k_dflt (refine' Mine.Internal.Ctr.useF (gs := gens9) (d := dr9) (o := os9) (Mine.Internal.CtrC.call (ctr_lsignW ?p1_lref)) ?cB_lref ?cF_lref ?cX_lref ?cN_lref ?cT_lref ?ca_lref ?cb_lref ?cc_lref ?ce_lref ?cd_lref ?cu_lref ?ck_lref ?cne_lref ?_; (case cB_lref => k_asm); (case cF_lref => k_asm); (case cX_lref => k_asm); (case cT_lref => k_asm); (case cN_lref => k_asm); (case ca_lref => exact rfl); (case cb_lref => exact rfl); (case cc_lref => exact rfl); (case ce_lref => exact rfl); (case cd_lref => exact Nat.le_of_ble_eq_true rfl); (case cu_lref => exact Nat.le_of_ble_eq_true rfl); (case ck_lref => ((try (refine' Mine.Internal.Take.cons ?_ ?_)); repeat' (first | exact Mine.Internal.Take.nil | exact Mine.Internal.Del.head | refine' Mine.Internal.Take.cons ?_ ?_ | refine' Mine.Internal.Del.tail ?_))); (case cne_lref => first | exact List.forall_mem_nil _ | exact (fun _ _ => List.forall_mem_nil _) | exact Mine.Internal.Srt.neL (by with_reducible assumption) (by k_extra "pos") (by k_extra "pos") (by exact rfl) | ((simp only [List.forall_mem_cons, List.not_mem_nil, false_implies, implies_true, and_true, true_and]); (repeat' (refine And.intro ?_ ?_)); all_goals k_ne)); (case p1_lref => with_reducible assumption); (k_whole; intro v' fr' l' hp' hfr'; obtain ⟨e3', q', lf', a', b', oa', ob', fs', n', t', e1', e2', hfs', hfo', hla', hlb'⟩ := hp'; subst e3'; subst e1'; subst e2'; (first | ((with_reducible rename Mine.Internal.Srt _ => S8); (have S9 := Mine.Internal.fresh_grow S8 hfr' (by k_dflt k_mem)); clear S8; clear hfr') | simp only [List.cons_append, List.nil_append, List.forall_mem_cons, List.not_mem_nil, false_implies, implies_true, and_true, true_and] at hfr'); intro h' n' hn' F' N'; (try dsimp only [List.cons_append, List.nil_append] at N'); (try k_sweep); (try dsimp only); (try k_fold))))
      k_with "call ref" => (k_here; (with_reducible show wpAny _ _ (call (Value.ref 773) [Value.str _ _] _) _ _ _); k_dflt (refine' Mine.Internal.Ctr.useF (gs := gens9) (d := dr9) (o := os9) (Mine.Internal.CtrC.call ctr_lfault) ?cB_lref ?cF_lref ?cX_lref ?cN_lref ?cT_lref ?ca_lref ?cb_lref ?cc_lref ?ce_lref ?cd_lref ?cu_lref ?ck_lref ?cne_lref ?_; (case cB_lref => k_asm); (case cF_lref => k_asm); (case cX_lref => k_asm); (case cT_lref => k_asm); (case cN_lref => k_asm); (case ca_lref => exact rfl); (case cb_lref => exact rfl); (case cc_lref => exact rfl); (case ce_lref => exact rfl); (case cd_lref => exact Nat.le_of_ble_eq_true rfl); (case cu_lref => exact Nat.le_of_ble_eq_true rfl); (case ck_lref => ((try (refine' Mine.Internal.Take.cons ?_ ?_)); repeat' (first | exact Mine.Internal.Take.nil | exact Mine.Internal.Del.head | refine' Mine.Internal.Take.cons ?_ ?_ | refine' Mine.Internal.Del.tail ?_))); (case cne_lref => first | exact List.forall_mem_nil _ | exact (fun _ _ => List.forall_mem_nil _) | exact Mine.Internal.Srt.neL (by with_reducible assumption) (by k_extra "pos") (by k_extra "pos") (by exact rfl) | ((simp only [List.forall_mem_cons, List.not_mem_nil, false_implies, implies_true, and_true, true_and]); (repeat' (refine And.intro ?_ ?_)); all_goals k_ne)); (k_whole; intro v' fr' l' hp' hfr'; obtain ⟨e3', d', o', e1', e2', hlo', ta', tb', hd'⟩ := hp'; subst e3'; subst e1'; subst e2'; (first | ((with_reducible rename Mine.Internal.Srt _ => S8); (have S9 := Mine.Internal.fresh_grow S8 hfr' (by k_dflt k_mem)); clear S8; clear hfr') | simp only [List.cons_append, List.nil_append, List.forall_mem_cons, List.not_mem_nil, false_implies, implies_true, and_true, true_and] at hfr'); intro h' n' hn' F' N'; (try dsimp only [List.cons_append, List.nil_append] at N'); (try k_sweep); (try dsimp only); (try k_fold))))
      k_with "compareOp In" => (k_here; (with_reducible show wpAny _ _ (compareOp CmpOp.In (Value.str (Txt.slice T Option.none (Option.some 1)) _) (Value.ref _)) _ _ _); k_dflt (refine' Mine.Internal.in_elts (b := Mine.Internal.stopC al T.cps.toList) ?N_lref ?m_lref ?hi_lref ?hb_lref ?_; (case N_lref => k_asm); (case m_lref => k_mem); (case hi_lref => repeat' (first | exact List.forall_mem_nil _ | refine List.forall_mem_cons.mpr ⟨.inr ⟨_, _, rfl⟩, ?_⟩ | refine List.forall_mem_cons.mpr ⟨Mine.Internal.allow_is hal, ?_⟩)); (case hb_lref => (rw [Mine.Internal.slice1]; exact Mine.Internal.law_stop hal hcr)); k_whole))
      k_with "getMethod ref" => (k_here; (with_reducible show wpAny _ _ (getMethod (Value.ref _) (PySem.Str.ofString "get") _) _ _ _); k_dflt (refine' getMethod_tab PySem.F.slot_dict_get PySem.F.type_dict_get (Mine.Internal.fig_tab ?N_lref ?m_lref ?lo_lref ?hf_lref ?hd_lref) ?_; (case N_lref => k_asm); (case m_lref => k_mem); (case lo_lref => with_reducible assumption); (case hf_lref => with_reducible assumption); (case hd_lref => with_reducible assumption); k_whole))
      k_with "call builtin:dict.get" => (k_here; (with_reducible show wpAny _ _ (call (Value.builtin "dict.get") [Value.ref _, Value.str _ _, Value.int 99 _]) _ _ _); k_dflt (refine' Mine.Internal.fig_get ?N_lref ?m_lref ?lo_lref ?hf_lref ?hd_lref ?_; (case N_lref => k_asm); (case m_lref => k_mem); (case lo_lref => with_reducible assumption); (case hf_lref => with_reducible assumption); (case hd_lref => with_reducible assumption); k_whole); intro tg9)
      k_fill
      refine' ctr_introN (binds := [("text", .str T tt), ("allowed", av)]) (fun h h' T k => T.keeps k) (fun h T => T.nolimit) ?ho_lref ?hcd_lref ?hD_lref ?hb_lref ?hl_lref ?_ ?hc_lref ?c1_lref ?c2_lref ?c3_lref
      case ho_lref => k_is
      case hcd_lref => k_is
      case hD_lref => decide
      case hb_lref => (intro s X; (try (rcases hargs with ⟨rfl, rfl, rfl⟩ | ⟨rfl, rfl⟩)); all_goals (first | exact BindsTo.of_eq rfl | exact binds_K X rfl (by k_is) rfl rfl rfl))
      case hl_lref => exact locs rfl
      case hc_lref => decide
      case c1_lref => exact rfl
      case c2_lref => exact rfl
      case c3_lref => exact rfl
      intro A base g env outer L' h₁ hs9 gens9 dr9 t09 os9 tk B' F' X' N' T' l1
      intro e9 A9 q9
      (try clear l1)
      (try dsimp only at N')
      first | have S0 := Mine.Internal.Srt.eight ho hk hat | have S0 := Mine.Internal.Srt.grow (Mine.Internal.Srt.six ho) hoq | have S0 := Mine.Internal.Srt.five ho hk | have S0 := Mine.Internal.Srt.six ho | have S0 := Mine.Internal.Srt.two ho | have S0 := Mine.Internal.Srt.two hk | skip

      k_with "eval IfExp" => k_dflt ((fail_if_success (with_reducible show wpAny _ _ _ (Mine.Internal.MeetV _ _ _ _ _ _) _ _)); first
        | ((with_reducible show wpAny _ _ (PySem.eval (Expr.IfExp (Expr.Compare _ [CmpOp.In] _ _) _ _ _) _) _ _ _); (with_reducible rename Fr _ _ _ _ => F0); (with_reducible rename News _ _ _ _ => N0); (refine' Mine.Internal.wp_meetV (fun v => ∃ t, v = .int (baseOf hx : Nat) t) F0 N0 ?_ ?_); (intro v9 h9 k9 hv9 F9 N9); (clear F0 N0); (obtain ⟨tb9, rfl⟩ := hv9); (try dsimp only); (try k_fold))
        | ((with_reducible show wpAny _ _ (PySem.eval (Expr.IfExp (Expr.Compare _ [CmpOp.Eq] _ _) _ _ _) _) _ _ _); (with_reducible rename Fr _ _ _ _ => F0); (with_reducible rename News _ _ _ _ => N0); (refine' Mine.Internal.wp_meetV (fun v => ∃ t, v = .int (Mine.Internal.stN hx : Nat) t) F0 N0 ?_ ?_); (intro v9 h9 k9 hv9 F9 N9); (clear F0 N0); (obtain ⟨ts9, rfl⟩ := hv9); (try dsimp only); (try k_fold)))
      k_with "MeetV" => k_dflt ((with_reducible rename Fr _ _ _ _ => F9); (with_reducible rename News _ _ _ _ => N9); first
        | exact Mine.Internal.meetV_end F9 N9 (fun p9 hp9 => .tail _ hp9) (Mine.Internal.base_t hhx (by with_reducible assumption))
        | exact Mine.Internal.meetV_end F9 N9 (fun p9 hp9 => .tail _ hp9) (Mine.Internal.base_f hhx (by with_reducible assumption))
        | exact Mine.Internal.meetV_end F9 N9 (fun p9 hp9 => hp9) (Mine.Internal.start_t (by with_reducible assumption))
        | exact Mine.Internal.meetV_end F9 N9 (fun p9 hp9 => hp9) (Mine.Internal.start_f (by with_reducible assumption))
        | (refine Mine.Internal.hold ?_))
      k_with "exec While" => k_dflt ((with_reducible rename Fr _ _ _ _ => F0); (with_reducible rename News _ _ _ _ => N0); (refine' ksw_meet (σ := Mine.Internal.Lq) (fun _ => []) (fun c => [("end", .int c.e c.te), ("number", .int c.num c.tn)]) [] (Mine.Internal.Lq.ok hx (Mine.Internal.stN hx) (T.cps.toList.drop (Mine.Internal.stN hx))) (Mine.Internal.Lq.fin hx (Mine.Internal.stN hx) (T.cps.toList.drop (Mine.Internal.stN hx))) (fun c => (T.length - c.e).toNat) ⟨(Mine.Internal.stN hx : Nat), _, 0, _⟩ F0 (fun _ h9 => nomatch h9) ?kk_lref (Mine.Internal.Lq.start rfl rfl) ?hq_lref ?turn_lref); (case kk_lref => (intro p hp; (simp only [List.mem_cons, List.not_mem_nil, or_false] at hp); rcases hp with hp | hp <;> subst hp <;> rfl)); (case' hq_lref => (intro c u hh tk2 hi Ft Nt; (try clear F0 N0); obtain ⟨e9, te9, num9, tn9⟩ := c; (dsimp only at Ft Nt); have he9 := hi.e; (dsimp only at he9); have he0 : 0 ≤ e9 := (by omega); have hn9 := hi.num; (dsimp only at hn9); have hn0 : 0 ≤ num9 := (by omega))); (case' turn_lref => (intro c u hh tk2 hi Ft Nt; (try clear F0 N0); obtain ⟨e9, te9, num9, tn9⟩ := c; (dsimp only at Ft Nt); have he0 : 0 ≤ e9 := hi.lo)))
      k_with "binaryOp Mult" => k_dflt ((with_reducible show wpAny _ _ (binaryOp Operator.Mult (Value.int _ _) (Value.int _ _)) _ _ _); refine Mine.Internal.mulB ?_)
      k_with "subscriptTail" => k_dflt (first
        | ((try dsimp only); (with_reducible show wpAny _ _ (subscriptTail _ _ (Value.str T _) (Value.int e9 _)) _ _ _); obtain ⟨hy0, hy1, d9, hd9, had9, hnx9⟩ := Mine.Internal.Lq.yes hi rfl (by with_reducible assumption); (dsimp only at hy0 hy1 hd9 hnx9); (refine Mine.Internal.sub_chr hy0 (by omega) hd9 ?_))
        | ((with_reducible show wpAny _ _ (subscriptTail _ _ (Value.ref _) (Value.str ⟨#[d9]⟩ _)) _ _ _); (refine' Mine.Internal.fig_item (hex := hx) ?N_lref ?m_lref ?lo_lref ?hf_lref ?hd_lref had9 ?_; (case N_lref => k_asm); (case m_lref => k_mem); (case lo_lref => with_reducible assumption); (case hf_lref => with_reducible assumption); (case hd_lref => with_reducible assumption); k_whole); intro tg9))
      k_with "KswEnd" => k_dflt ((with_reducible rename Fr _ _ _ _ => F9); (with_reducible rename News _ _ _ _ => N9); first | ((refine' ksw_end (σ := Mine.Internal.Lq) ⟨e9 + 1, _, num9 * (baseOf hx : Nat) + (figV d9 : Nat), _⟩ F9 N9 (fun _ h => nomatch h) trivial ?bk1_lref ?br1_lref (hnx9 _ _ _ _ rfl rfl) ?bm1_lref); (case bk1_lref => (intro p hp; (simp only [List.mem_cons, List.not_mem_nil, or_false] at hp); rcases hp with hp | hp <;> subst hp <;> rfl)); (case br1_lref => (intro z9 hz9 hz8; have hz1 := hz9 _ (List.mem_cons_self ..); have hz2 := hz9 _ (List.mem_cons_of_mem _ (List.mem_cons_self ..)); (dsimp only at hz1 hz2); simp (zetaDelta := true) [hz1, hz2, kstB])); (case bm1_lref => (dsimp only; omega))) | (refine Mine.Internal.hold ?_))
      k_with "MeetW" => k_dflt ((with_reducible rename Fr _ _ _ _ => F9); (with_reducible rename News _ _ _ _ => N9); first | exact meetW_end (σ := Mine.Internal.Lq) ⟨e9, te9, num9, tn9⟩ u F9 N9 (fun _ h => nomatch h) (Mine.Internal.Lq.no hi rfl (by with_reducible assumption)) | (refine Mine.Internal.hold ?_))
      k_with "binaryOp Add ref ref" => k_dflt ((with_reducible show wpAny _ _ (binaryOp Operator.Add (Value.ref lf') (Value.ref _)) _ _ _); (refine Mine.Internal.add_fs (by k_asm) (by k_asm) (by k_mem) (by k_mem) (Nat.add_le_add (Mine.Internal.fs_len hfs') (Nat.le_of_ble_eq_true rfl : _ ≤ 99)) ?_); (intro D9 h9 F9 N9 l9); (try k_lt l9))
      k_steps
      all_goals (try dsimp only)
      all_goals (with_reducible rename Fr _ _ _ _ => F9; with_reducible rename News _ _ _ _ => N9)
      all_goals first
        | ((have hR9 := Mine.Internal.ce_stop (by with_reducible assumption : Mine.Internal.stopC al T.cps.toList = true)); refine' Mine.Internal.lr_end (fl := []) hR9 F9 N9 ?aq_lref ?al_lref (fun _ h => nomatch h) Mine.Internal.amp38 .nil (Int.le_refl 0) rfl (Nat.zero_le _); (case aq_lref => k_mem); (case al_lref => k_mem))
        | ((have hs9 : Mine.Internal.stopC al T.cps.toList = false := (by with_reducible assumption)); (have hR9 := Mine.Internal.first_not hs9 (by with_reducible assumption)); refine' Mine.Internal.lr_end (fl := [(_, _)]) (fs := [.ref _]) hR9 F9 N9 ?bq_lref ?bl_lref ?bf_lref Mine.Internal.amp38 (.cons ⟨_, _, rfl, .head _, ?bm_lref, ?bp_lref⟩ .nil) (Int.le_refl 0) rfl (Nat.zero_le _); (case bq_lref => k_mem); (case bl_lref => k_mem); (case bp_lref => first | exact ⟨_, _, by assumption⟩ | assumption); (case bm_lref => assumption); (case bf_lref => exact List.forall_mem_cons.mpr ⟨by k_mem, List.forall_mem_nil _⟩))
        | ((have hs9 : Mine.Internal.stopC al T.cps.toList = false := (by with_reducible assumption)); (have hR9 := Mine.Internal.lr_none hs9 (Mine.Internal.first_is hs9 (by with_reducible assumption)) hhx hi (by with_reducible assumption)); refine' Mine.Internal.lr_end (fl := [(_, _)]) (fs := [.ref _]) hR9 F9 N9 ?cq_lref ?cl_lref ?cf_lref ?co_lref (.cons ⟨_, _, rfl, .head _, ?cm_lref, ?cp_lref⟩ .nil) ?cz_lref ?cr_lref ?cw_lref; (case cq_lref => k_mem); (case cl_lref => k_mem); (case cz_lref => exact Int.natCast_nonneg _); (case cw_lref => exact Mine.Internal.st_le (Mine.Internal.first_is hs9 (by with_reducible assumption)) hhx); (case cr_lref => exact rfl); (case cp_lref => first | exact ⟨_, _, by assumption⟩ | assumption); (case cm_lref => assumption); (case co_lref => (rw [Mine.Internal.sliceN, Mine.Internal.out_app])); (case cf_lref => exact List.forall_mem_cons.mpr ⟨by k_mem, List.forall_mem_nil _⟩))
        | ((have hs9 : Mine.Internal.stopC al T.cps.toList = false := (by with_reducible assumption)); (have hR9 := Mine.Internal.lr_num hs9 (Mine.Internal.first_is hs9 (by with_reducible assumption)) hhx hi (by with_reducible assumption)); (have hq9 := Mine.Internal.semi_t he0 (by with_reducible assumption)); (dsimp only at hR9); (rw [hq9.1, hq9.2] at hR9); refine' Mine.Internal.lr_end (fl := [(a', oa'), (b', ob')]) hR9 F9 N9 ?dq_lref ?dl_lref ?df_lref ?dox_lref (Mine.Internal.num_qis hfs' hfo' hla' hlb' (.head _) (.tail _ (.head _))) ?dz_lref ?dr_lref (Mine.Internal.end_lt he0 (by with_reducible assumption)); (case dq_lref => k_mem); (case dl_lref => k_mem); (case dox_lref => exact rfl); (case dz_lref => omega); (case dr_lref => exact rfl); (case df_lref => exact List.forall_mem_cons.mpr ⟨by k_mem, List.forall_mem_cons.mpr ⟨by k_mem, List.forall_mem_nil _⟩⟩))
        | ((have hs9 : Mine.Internal.stopC al T.cps.toList = false := (by with_reducible assumption)); (have hR9 := Mine.Internal.lr_num hs9 (Mine.Internal.first_is hs9 (by with_reducible assumption)) hhx hi (by with_reducible assumption)); (have hq9 := Mine.Internal.semi_f he0 (by with_reducible assumption)); (dsimp only at hR9); (rw [hq9.1, hq9.2] at hR9); refine' Mine.Internal.lr_end (fl := [(a', oa'), (b', ob'), (_, _)]) hR9 F9 N9 ?eq_lref ?el_lref ?ef_lref ?eo_lref (Mine.Internal.num_qis1 hfs' hfo' hla' hlb' ?ep_lref ?em_lref) ?ez_lref ?er_lref (Mine.Internal.fin_le (Mine.Internal.first_is hs9 (by with_reducible assumption)) hhx hi); (case eq_lref => k_mem); (case el_lref => k_mem); (case eo_lref => exact rfl); (case ez_lref => exact he0); (case er_lref => exact rfl); (case ep_lref => first | exact ⟨_, _, by assumption⟩ | assumption); (case em_lref => assumption); (case ef_lref => exact List.forall_mem_cons.mpr ⟨by k_mem, List.forall_mem_cons.mpr ⟨by k_mem, List.forall_mem_cons.mpr ⟨by k_mem, List.forall_mem_nil _⟩⟩⟩))
        | fail
  have ctr_lmended {w : World} {loose : List Str} {mean : ExcName → Option Value} {mg mb : Str → Option Value} {x : Str} {tx : Tok} (hx : x.length ≤ 10000) :
      CtrC PySem.Challenge.rw_te0076_05.row.prog w (main.heap_1_39 w.params) (Top main.view_1_40 loose mean mg mb) 460 600 (.ref 806) ⟨[.str x tx], []⟩ [] (noF fun v l => ∃ t, v = .str (mendS x) t ∧ l = []) := by
    as_aux_lemma =>
      clear ctr_is_invalid ctr_charErrors ctr_read ctr_readE ctr_position0 ctr_unget ctr_ungetN ctr_ungetS ctr_readN ctr_readC ctr_readA ctr_char ctr_until ctr_tinit call_char call_unget call_ungetN call_until call_tok ctr_cne call_cne ctr_lfault ctr_lsignW ctr_bisect ctr_haskeys ctr_lfig ctr_lref
      k_with_none
      k_with "pos" => (repeat' (first | exact Mine.Internal.PosL.nil | (apply Mine.Internal.PosL.cons 0; exact rfl) | (apply Mine.Internal.PosL.cons 1; exact rfl) | (apply Mine.Internal.PosL.cons 2; exact rfl) | (apply Mine.Internal.PosL.cons 3; exact rfl) | (apply Mine.Internal.PosL.cons 4; exact rfl) | (apply Mine.Internal.PosL.cons 5; exact rfl) | (apply Mine.Internal.PosL.cons 6; exact rfl) | (apply Mine.Internal.PosL.cons 7; exact rfl) | (apply Mine.Internal.PosL.cons 8; exact rfl) | (apply Mine.Internal.PosL.cons 9; exact rfl) | (apply Mine.Internal.PosL.cons 10; exact rfl) | (apply Mine.Internal.PosL.cons 11; exact rfl) | (apply Mine.Internal.PosL.cons 12; exact rfl) | (apply Mine.Internal.PosL.cons 13; exact rfl) | (apply Mine.Internal.PosL.cons 14; exact rfl) | (apply Mine.Internal.PosL.cons 15; exact rfl) | (apply Mine.Internal.PosL.cons 16; exact rfl) | (apply Mine.Internal.PosL.cons 17; exact rfl) | (apply Mine.Internal.PosL.cons 18; exact rfl) | (apply Mine.Internal.PosL.cons 19; exact rfl) | (apply Mine.Internal.PosL.cons 20; exact rfl) | (apply Mine.Internal.PosL.cons 21; exact rfl) | (apply Mine.Internal.PosL.cons 22; exact rfl) | (apply Mine.Internal.PosL.cons 23; exact rfl)))
      k_with "slt" => exact Mine.Internal.Srt.lt (by with_reducible assumption) (by ((repeat (first | (with_reducible_and_instances refine Mine.Internal.Aft.here ?_; (repeat (first | with_reducible_and_instances exact List.Mem.head _ | with_reducible_and_instances refine List.Mem.tail _ ?_)); done) | with_reducible refine Mine.Internal.Aft.there ?_)); all_goals fail))
      k_with "upd" => (exact Mine.Internal.Srt.updP (by with_reducible assumption) (by repeat' (first | exact Mine.Internal.UpdI.head | refine' Mine.Internal.UpdI.tail ?_)) (by k_dflt (k_extra "pos")) (by exact rfl))
      k_with "all" => exact Mine.Internal.Ks.ne_all (by with_reducible assumption) (by first | exact .inr (by k_extra "slt") | exact .inl (by k_extra "slt"))
      k_with "ne" => (refine neN ?_; first | exact Mine.Internal.Srt.ne (by with_reducible assumption) (by with_reducible solve_by_elim (maxDepth := 40) only [Mine.Internal.Apart.l, Mine.Internal.Apart.r, Mine.Internal.Apart.t, List.Mem.head, List.Mem.tail]) | ((try dsimp only); omega))
      k_with "lt" => (intro h9l; first | ((with_reducible rename Mine.Internal.Srt _ => S8); (first | (have S9 := Mine.Internal.Srt.grow S8 (h9l (_, _) (by k_dflt k_mem)); clear S8) | (have S9 := Mine.Internal.Srt.grow S8.tl (h9l (_, _) (by k_dflt k_mem)); clear S8) | (have S9 := Mine.Internal.Srt.grow S8.tl.tl (h9l (_, _) (by k_dflt k_mem)); clear S8)); clear h9l) | (replace h9l := allLt_of h9l; simp only [AllLt, and_true] at h9l))
      k_with "call builtin:str.replace" => (k_here; (with_reducible show wpAny _ _ (call (Value.builtin "str.replace") [Value.str _ _, Value.str _ _, Value.str _ _]) _ _ _); (refine Mine.Internal.replaceM (by (try dsimp only); omega) (by (try dsimp only); omega) (by (try dsimp only); omega) (by decide +kernel) (by (refine Nat.le_trans (m := 10000) ?_ (by decide); repeat' (first | with_reducible assumption | with_reducible refine Mine.Internal.slice_len_le ?_ | (with_reducible refine Nat.le_trans (Mine.Internal.replace_len (by decide +kernel) (by decide +kernel)) ?_) | exact (by decide +kernel)))) (by decide +kernel) ?_); intro t9 kq9 hk9; (try dsimp only at hk9))
      k_with "execs cons" => (k_here; (with_reducible show wpAny _ _ _ _ _ (Shared.mk _ _ _ (_ + _) _)); (refine Mine.Internal.gentoks ?_); intro tkg9 htk9; (try dsimp only at htk9))
      k_with "size" => k_dflt (first | exact Nat.le_of_ble_eq_true rfl | ((with_reducible show Array.size (List.toArray _) ≤ PySem.sizeLine); rw [List.size_toArray, PySem.sizeLine_eq]; refine Nat.le_trans (m := 100002) ?_ (Nat.le_of_ble_eq_true rfl); first | with_reducible assumption | exact Nat.le_trans (m := 100000) (by with_reducible assumption) (Nat.le_of_ble_eq_true rfl)))
      k_with "subscriptTail Name Constant ref int" => k_extra "subscriptTail"
      k_with "tok" => (first | exact Nat.le_add_left 1 _ | with_reducible assumption | exact Nat.le_trans (Nat.le_add_left 1 _) (by with_reducible assumption))
      k_with "next" => (first | ((with_reducible refine Mine.Internal.nextS (g := gens9) (d := dr9) (o := os9) ?_); intro qk9 tkg9) | ((with_reducible refine Mine.Internal.lastS (g := gens9) (d := dr9) (o := os9) ?_); intro tkg9) | (with_reducible refine Mine.Internal.nilS ?_) | (with_reducible refine Mine.Internal.fin9 ?_) | (with_reducible refine Mine.Internal.fin0 ?_) | (with_reducible refine Mine.Internal.finS9 ?_) | (with_reducible refine Mine.Internal.finS0 ?_) | ((with_reducible refine Mine.Internal.nextU (g := gens9) (d := dr9) (o := os9) ?_ ?_); (k_extra "tok"); intro qk9 tkg9) | ((with_reducible refine Mine.Internal.lastU (g := gens9) (d := dr9) (o := os9) ?_ ?_); (k_extra "tok"); intro tkg9) | ((with_reducible refine Mine.Internal.nextZ (g := gens9) (d := dr9) (o := os9) ?_); intro qk9 tkg9) | ((with_reducible refine Mine.Internal.lastZ (g := gens9) (d := dr9) (o := os9) ?_); intro tkg9))
      k_with "execs cons" => k_extra "next"
      k_with "eval Constant str" => (with_reducible refine Mine.Internal.c_str (g := gens9) (d := dr9) (o := os9) ?_)
      k_with "call builtin:str.replace" => (k_here; (with_reducible show wpAny _ _ (call (Value.builtin "str.replace") [Value.str _ _, Value.str _ _, Value.str _ _]) _ _ _); (refine Mine.Internal.c_replace (gs := gens9) (d := dr9) (o := os9) (by first | exact Nat.ne_of_lt (Nat.lt_succ_self _) | omega) (by decide +kernel) (by (refine Nat.le_trans (m := 10000) ?_ (by decide); repeat' (first | with_reducible assumption | with_reducible refine Mine.Internal.slice_len_le ?_ | (with_reducible refine Nat.le_trans (Mine.Internal.replace_len (by decide +kernel) (by decide +kernel)) ?_) | exact (by decide +kernel)))) (by decide +kernel) ?_); intro t9 kq9)
      k_fill
      refine' ctr_introN (binds := [("text", .str x tx)]) (fun h h' T k => T.keeps k) (fun h T => T.nolimit) ?ho_lmended ?hcd_lmended ?hD_lmended ?hb_lmended ?hl_lmended ?_ ?hc_lmended ?c1_lmended ?c2_lmended ?c3_lmended
      case ho_lmended => k_is
      case hcd_lmended => k_is
      case hD_lmended => decide
      case hb_lmended => (intro s X; (try (rcases hargs with ⟨rfl, rfl, rfl⟩ | ⟨rfl, rfl⟩)); all_goals (first | exact BindsTo.of_eq rfl | exact binds_K X rfl (by k_is) rfl rfl rfl))
      case hl_lmended => exact locs rfl
      case hc_lmended => decide
      case c1_lmended => exact rfl
      case c2_lmended => exact rfl
      case c3_lmended => exact rfl
      intro A base g env outer L' h₁ hs9 gens9 dr9 t09 os9 tk B' F' X' N' T' l1
      have hb9 := Nat.succ_le_succ (Nat.zero_le tk)
      intro e9 A9 q9
      (try clear l1)
      (try dsimp only at N')
      first | have S0 := Mine.Internal.Srt.eight ho hk hat | have S0 := Mine.Internal.Srt.grow (Mine.Internal.Srt.six ho) hoq | have S0 := Mine.Internal.Srt.five ho hk | have S0 := Mine.Internal.Srt.six ho | have S0 := Mine.Internal.Srt.two ho | have S0 := Mine.Internal.Srt.two hk | skip

      k_steps
      all_goals (try dsimp only)
      all_goals (refine cend (P := fun v l => ∃ t, v = Value.str (mendS x) t ∧ l = []) (l := []) (by assumption) (by assumption) (fun _ h => nomatch h) ⟨_, rfl, rfl⟩)
  have call_lref {w : World} {loose : List Str} {mean : ExcName → Option Value} {mg mb : Str → Option Value} {T0 : Str} {tt : Tok} {av : Value} {al : Option Nat} {A A₀ : Around} {base h₀ : Heap} {env : Env} {outer : List Env} {L : Addr} {m : Str → Option Value} {s : Shared} {Q E : Value → Shared → Prop} {N : Led} (hT0 : T0.length ≤ 640) (hcr : ∀ c ∈ T0.cps.toList, c ≠ 13) (hal : AllowIs av al) (B : Below A₀ base outer h₀) (F : Fr h₀ L s.heap m) (X : (main.heap_1_39 w.params).In h₀) (T : (Top main.view_1_40 loose mean mg mb) h₀) (hA : A.frames = some (env :: outer)) (hf : env.frame = some L) (hke : env.scope.kind = .function) (hh : A.handled = none) (hdd : A.depth ≤ 440) (hu : A.units ≤ 400) (Nw : News h₀ L s.heap N)
      (hQ : ∀ (q lf : Addr) (fs : List Value) (n : Nat) (used : Int) (fl : Led) (t tu : Tok) (h' : Heap) (tk' : Nat), QIs PySem.Challenge.rw_te0076_05.row.prog w fl fs (ceR al T0.cps.toList).ks → 0 ≤ used → (ceR al T0.cps.toList).rem = T0.cps.toList.drop used.toNat → used.toNat ≤ T0.cps.toList.length → (∀ p ∈ fl, ∀ r ∈ N, @LT.lt Nat _ r.1 p.1) → (∀ r ∈ N, @LT.lt Nat _ r.1 q) → (∀ r ∈ N, @LT.lt Nat _ r.1 lf) → @LE.le Nat _ s.toks tk' → Fr h₀ L h' m →
        News h₀ L h' ((q, tupO [.str ⟨(ceR al T0.cps.toList).out.toArray⟩ t, .ref lf, .int used tu]) :: (lf, W.listOf fs.toArray n) :: (N ++ fl)) → Q (.ref q) { s with heap := h', toks := tk' }) :
      wpAny (model PySem.Challenge.rw_te0076_05.row.prog w) A (PySem.call (.ref 794) [.str T0 tt, av] []) Q E s := by
    as_aux_lemma =>
      clear ctr_is_invalid ctr_charErrors ctr_read ctr_readE ctr_position0 ctr_unget ctr_ungetN ctr_ungetS ctr_readN ctr_readC ctr_readA ctr_char ctr_until ctr_tinit call_char call_unget call_ungetN call_until call_tok ctr_cne call_cne ctr_lfault ctr_lsignW ctr_bisect ctr_haskeys ctr_lfig ctr_lmended
      refine CtrC.call (ctr_lref hT0 hcr hal) A A₀ base h₀ env outer L m s Q E N B F X Nw T hA hf hke hh hdd hu (fun _ _ => List.forall_mem_nil _) ?_
      intro v fr l' h' tk' hp ht hfr F' N'
      obtain ⟨rfl, q, lf, fs, n, used, fl, t, tu, rfl, rfl, hq, h0, hr, hl⟩ := hp
      refine hQ q lf fs n used fl t tu h' tk' hq h0 hr hl (fun p hp r hr => hfr p (.tail _ (.tail _ hp)) r hr) (fun r hr => hfr _ (.head _) r hr) (fun r hr => hfr _ (.tail _ (.head _)) r hr) ht F' (fun p hp => N' p ?_)
      rw [List.append_nil]
      rcases List.mem_cons.mp hp with rfl | hp
      · exact .head _
      rcases List.mem_cons.mp hp with rfl | hp
      · exact .tail _ (.head _)
      rcases List.mem_append.mp hp with hp | hp
      · exact List.mem_append_right _ hp
      · exact List.mem_append_left _ (.tail _ (.tail _ hp))
  have ctr_ceT {w : World} {loose : List Str} {mean : ExcName → Option Value} {mg mb : Str → Option Value} {K : Ks} {Z : Kz} {m7 : Tok} {tq : Addr} {B9 : At} {qs : List Value} {qn : Nat} {x : St} {val : Str} {vt : Tok} {av : Value} {al : Option Nat} (ho : K.ord) (hk : @LT.lt Nat _ Z.zd Z.za ∧ @LT.lt Nat _ Z.za K.sd ∧ @LT.lt Nat _ K.er tq) (hat : B9.ord tq) (hz6 : Z.v6 = .ref B9.ct) (hcd : B9.co.IsDictOf (PySem.strKind PySem.Challenge.rw_te0076_05.row.prog w) [(Str.ofString "data", .ref B9.dl)]) (ok : x.ok K.src) (hlen : (x.rem K.src).length ≤ 640) (hq : qs.length ≤ 100000) (hval : val.length ≤ 100000) (hal : AllowIs av al)
      (hname : ∀ c t, x.rem K.src = c :: t → stopC al (x.rem K.src) = false → c ≠ 35 → hasPre ⟨#[c]⟩ = false) :
      CtrS PySem.Challenge.rw_te0076_05.row.prog w (main.heap_1_39 w.params) (Top main.view_1_40 loose mean mg mb) 440 400 (.ref 283) ⟨[.ref Z.za], [("allowedChar", av), ("fromAttribute", .bool true)]⟩ (Mine.Internal.Lz w K Z m7 tq B9 qs qn val vt (K.led w x)) (CeP PySem.Challenge.rw_te0076_05.row.prog w K Z m7 tq B9 qs val (ceR al (x.rem K.src)) true) := by
    as_aux_lemma =>
      clear ctr_is_invalid ctr_charErrors ctr_read ctr_readE ctr_position0 ctr_unget ctr_ungetN ctr_ungetS ctr_readN ctr_readC ctr_readA ctr_char ctr_until ctr_tinit call_until call_tok ctr_cne ctr_lfault ctr_lsignW ctr_bisect ctr_lfig ctr_lref ctr_lmended call_lref
      have htq9 := Mine.Internal.one_lt_tq5 ho hk
      have hk1 := hk.2.2
      have hk2 := hk.2.1
      have hk3 := Nat.lt_trans hk.1 hk.2.1
      unfold Mine.Internal.Lz
      k_with_none
      k_with "pos" => (repeat' (first | exact Mine.Internal.PosL.nil | (apply Mine.Internal.PosL.cons 0; exact rfl) | (apply Mine.Internal.PosL.cons 1; exact rfl) | (apply Mine.Internal.PosL.cons 2; exact rfl) | (apply Mine.Internal.PosL.cons 3; exact rfl) | (apply Mine.Internal.PosL.cons 4; exact rfl) | (apply Mine.Internal.PosL.cons 5; exact rfl) | (apply Mine.Internal.PosL.cons 6; exact rfl) | (apply Mine.Internal.PosL.cons 7; exact rfl) | (apply Mine.Internal.PosL.cons 8; exact rfl) | (apply Mine.Internal.PosL.cons 9; exact rfl) | (apply Mine.Internal.PosL.cons 10; exact rfl) | (apply Mine.Internal.PosL.cons 11; exact rfl) | (apply Mine.Internal.PosL.cons 12; exact rfl) | (apply Mine.Internal.PosL.cons 13; exact rfl) | (apply Mine.Internal.PosL.cons 14; exact rfl) | (apply Mine.Internal.PosL.cons 15; exact rfl) | (apply Mine.Internal.PosL.cons 16; exact rfl) | (apply Mine.Internal.PosL.cons 17; exact rfl) | (apply Mine.Internal.PosL.cons 18; exact rfl) | (apply Mine.Internal.PosL.cons 19; exact rfl) | (apply Mine.Internal.PosL.cons 20; exact rfl) | (apply Mine.Internal.PosL.cons 21; exact rfl) | (apply Mine.Internal.PosL.cons 22; exact rfl) | (apply Mine.Internal.PosL.cons 23; exact rfl)))
      k_with "slt" => exact Mine.Internal.Srt.lt (by with_reducible assumption) (by ((repeat (first | (with_reducible_and_instances refine Mine.Internal.Aft.here ?_; (repeat (first | with_reducible_and_instances exact List.Mem.head _ | with_reducible_and_instances refine List.Mem.tail _ ?_)); done) | with_reducible refine Mine.Internal.Aft.there ?_)); all_goals fail))
      k_with "take" => k_dflt ((try dsimp only); repeat' (first | exact Mine.Internal.Take.nil | exact Mine.Internal.Del.head | refine' Mine.Internal.Take.blk ?_ | exact Mine.Internal.Tl.nil | exact Mine.Internal.Tl.app | refine' Mine.Internal.Take.cons ?_ ?_ | refine' Mine.Internal.Del.tail ?_ | refine' Mine.Internal.Tl.cons ?_))
      k_with "upd" => (exact Mine.Internal.Srt.updP (by with_reducible assumption) (by repeat' (first | exact Mine.Internal.UpdI.head | refine' Mine.Internal.UpdI.tail ?_)) (by k_dflt (k_extra "pos")) (by exact rfl))
      k_with "all" => exact Mine.Internal.Ks.ne_all (by with_reducible assumption) (by first | exact .inr (by k_extra "slt") | exact .inl (by k_extra "slt"))
      k_with "ne" => (refine neN ?_; first | exact Mine.Internal.Srt.ne (by with_reducible assumption) (by with_reducible solve_by_elim (maxDepth := 40) only [Mine.Internal.Apart.l, Mine.Internal.Apart.r, Mine.Internal.Apart.t, List.Mem.head, List.Mem.tail]) | ((try dsimp only); omega))
      k_with "lt" => (intro h9l; first | ((with_reducible rename Mine.Internal.Srt _ => S8); (first | (have S9 := Mine.Internal.Srt.grow S8 (h9l (_, _) (by k_dflt k_mem)); clear S8) | (have S9 := Mine.Internal.Srt.grow S8.tl (h9l (_, _) (by k_dflt k_mem)); clear S8) | (have S9 := Mine.Internal.Srt.grow S8.tl.tl (h9l (_, _) (by k_dflt k_mem)); clear S8)); clear h9l) | (replace h9l := allLt_of h9l; simp only [AllLt, and_true] at h9l))
      k_with "subscriptTail" => (k_here; (with_reducible show wpAny _ _ (subscriptTail _ _ (Value.str _ _) (Value.int _ _)) _ _ _); (refine Mine.Internal.sub_chr (by omega) (by omega) (by assumption) ?_))
      k_with "getMethod ref" => (k_here; k_dflt (first | (refine' method_inst ?k1_ceT ?k2_ceT ?k3_ceT ?k4_ceT ?k5_ceT ?k6_ceT ?k7_ceT ?_; (case k1_ceT => k_asm); (case k2_ceT => k_asm); (case k3_ceT => k_inst); (case k4_ceT => k_is); (case k5_ceT => k_is); (case k6_ceT => k_is); (case k7_ceT => k_get); k_whole) | (refine' kmu_own ?k1_ceT ?k2_ceT ?k3_ceT ?k4_ceT ?k5_ceT ?_; (case k1_ceT => k_asm); (case k2_ceT => k_asm); (case k3_ceT => k_inst); (case k4_ceT => k_is); (case k5_ceT => k_is); k_whole)))
      k_with "getMethod ref" => (k_here; (with_reducible show wpAny _ _ (getMethod (Value.ref _) (PySem.Str.ofString "append") _) _ _ _); k_dflt (refine' kl_method ?N_ceT ?m_ceT slot_list_append type_list_append ?_; (case N_ceT => k_asm); (case m_ceT => k_mem); k_whole))
      k_with "execs cons" => (k_here; (with_reducible show wpAny _ _ _ _ _ (Shared.mk _ _ _ (_ + _) _)); (refine Mine.Internal.gentoks ?_); intro tkg9 htk9; (try dsimp only at htk9))
      k_with "call builtin:len" => (k_here; (with_reducible show wpAny _ _ (call (Value.builtin "len") [Value.str _ _]) _ _ _); (refine SBL.len (by first | omega | exact Mine.Internal.fit63 (by (refine Nat.le_trans (m := 10000) ?_ (by decide); repeat' (first | with_reducible assumption | with_reducible refine Mine.Internal.slice_len_le ?_ | (with_reducible refine Nat.le_trans (Mine.Internal.replace_len (by decide +kernel) (by decide +kernel)) ?_) | exact (by decide +kernel))))) ?_))
      k_with "ite" => (k_here; k_openite; first
      | (refine ite_pos ?hq_ceT ?_; (case hq_ceT => first | (simp only [decide_eq_true_eq, beq_iff_eq, bne_iff_ne, ne_eq, Bool.not_eq_true', decide_eq_false_iff_not]; omega) | (simp; done)))
      | (refine ite_neg ?hq_ceT ?_; (case hq_ceT => first | (simp only [decide_eq_true_eq, beq_iff_eq, bne_iff_ne, ne_eq, Bool.not_eq_true', decide_eq_false_iff_not]; omega) | (simp; done))))
      k_with "exec If" => ((with_reducible show wpAny _ _ _ _ _ _); k_fold)
      k_with "exec While" => ((with_reducible show wpAny _ _ _ _ _ _); k_fold)
      k_with "size" => k_dflt (first | exact Nat.le_of_ble_eq_true rfl | ((with_reducible show Array.size (List.toArray _) ≤ PySem.sizeLine); rw [List.size_toArray, PySem.sizeLine_eq]; refine Nat.le_trans (m := 100002) ?_ (Nat.le_of_ble_eq_true rfl); first | with_reducible assumption | exact Nat.le_trans (m := 100000) (by with_reducible assumption) (Nat.le_of_ble_eq_true rfl)))
      k_with "subscriptTail Name Constant ref int" => k_extra "subscriptTail"
      k_with "tok" => (first | exact Nat.le_add_left 1 _ | with_reducible assumption | exact Nat.le_trans (Nat.le_add_left 1 _) (by with_reducible assumption))
      k_with "next" => (first | ((with_reducible refine Mine.Internal.nextS (g := gens9) (d := dr9) (o := os9) ?_); intro qk9 tkg9) | ((with_reducible refine Mine.Internal.lastS (g := gens9) (d := dr9) (o := os9) ?_); intro tkg9) | (with_reducible refine Mine.Internal.nilS ?_) | (with_reducible refine Mine.Internal.fin9 ?_) | (with_reducible refine Mine.Internal.fin0 ?_) | (with_reducible refine Mine.Internal.finS9 ?_) | (with_reducible refine Mine.Internal.finS0 ?_) | ((with_reducible refine Mine.Internal.nextU (g := gens9) (d := dr9) (o := os9) ?_ ?_); (k_extra "tok"); intro qk9 tkg9) | ((with_reducible refine Mine.Internal.lastU (g := gens9) (d := dr9) (o := os9) ?_ ?_); (k_extra "tok"); intro tkg9) | ((with_reducible refine Mine.Internal.nextZ (g := gens9) (d := dr9) (o := os9) ?_); intro qk9 tkg9) | ((with_reducible refine Mine.Internal.lastZ (g := gens9) (d := dr9) (o := os9) ?_); intro tkg9))
      k_with "execs cons" => k_extra "next"
      k_with "execs nil" => (with_reducible refine Mine.Internal.nilS ?_)
      k_with "eval Constant int" => (with_reducible refine Mine.Internal.c_int (g := gens9) (d := dr9) (o := os9) ?_)
      k_with "eval Constant str" => (with_reducible refine Mine.Internal.c_str (g := gens9) (d := dr9) (o := os9) ?_)
      k_with "eval Attribute Name" => (k_here; k_dflt (refine' Mine.Internal.at_name (gs := gens9) (d := dr9) (o := os9) ?nF_ceT ?nX_ceT ?nN_ceT ?nv_ceT ?n1_ceT ?n2_ceT ?ng_ceT ?nh_ceT ?na_ceT ?nn_ceT ?nl_ceT ?nd_ceT ?_; (case nF_ceT => k_asm); (case nX_ceT => k_asm); (case nN_ceT => k_asm); (case nv_ceT => exact rfl); (case n1_ceT => k_mem); (case n2_ceT => k_mem); (case ng_ceT => k_is); (case nh_ceT => k_is); (case na_ceT => k_is); (case nn_ceT => k_is); (case nl_ceT => k_get); (case nd_ceT => k_handed); k_whole))
      k_with "storeName" => (first | (k_here; ktx_write) | (k_here; k_dflt (refine' Mine.Internal.st_name (gs := gens9) (d := dr9) (o := os9) ?tF_ceT ?tN_ceT ?_; (case tF_ceT => k_asm); (case tN_ceT => k_asm); k_whole; intro m9 h' F' N'; (try k_sweep))))
      k_with "exec While" => (k_here; (with_reducible show wpAny _ _ (exec (Stmt.While (Expr.Compare _ _ _ _) _ _ _) _) _ _ _); k_dflt (refine whl_start 100 ?_))
      k_with "call ref" => ((fail_if_success (with_reducible show wpAny _ _ (call (Value.ref 227) _ _) _ _ _)); (fail_if_success (with_reducible show wpAny _ _ (call (Value.ref 199) _ _) _ _ _)); refine Mine.Internal.hold ?_)
      k_with "lt" => (intro h9l; ((with_reducible rename Mine.Internal.Srt _ => S8); (have S9 := Mine.Internal.Srt.grow S8 (h9l (_, _) (by k_dflt k_mem))); clear S8))
      k_with "ne" => (refine neN ?_; first | exact Mine.Internal.ne_by (by with_reducible assumption) (by k_dflt k_mem) | exact Mine.Internal.ne_by' (by with_reducible assumption) (by k_dflt k_mem) | exact Mine.Internal.Srt.ne (by with_reducible assumption) (by with_reducible solve_by_elim (maxDepth := 40) only [Mine.Internal.Apart.l, Mine.Internal.Apart.r, Mine.Internal.Apart.t, List.Mem.head, List.Mem.tail]))
      k_with "getMethod ref" => (k_here; (with_reducible show wpAny _ _ (getMethod (Value.ref (Mine.Internal.Ks.st _)) _ _) _ _ _); k_dflt (refine' Mine.Internal.meth_blk ?F_ceT ?X_ceT ?N_ceT ?tk_ceT ?hg_ceT ?hf_ceT ?ht_ceT ?hl_ceT ?_; (case F_ceT => k_asm); (case X_ceT => k_asm); (case N_ceT => k_asm); (case tk_ceT => (k_extra "take")); (case hg_ceT => k_is); (case hf_ceT => k_is); (case ht_ceT => k_is); (case hl_ceT => exact rfl); k_whole))
      k_with "call ref" => (k_here; (with_reducible show wpAny _ _ (call (Value.ref 133) _ _) _ _ _); k_dflt (refine' call_char ?p1_ceT ?p2_ceT ?cB_ceT ?cF_ceT ?cX_ceT ?cT_ceT ?ca_ceT ?cb_ceT ?cc_ceT ?ce_ceT ?cd_ceT ?cu_ceT ?cN_ceT ?tk_ceT ?ne_ceT ?_; (case p1_ceT => with_reducible assumption); (case p2_ceT => with_reducible assumption); (case cF_ceT => k_asm); (case cB_ceT => k_asm); (case cX_ceT => k_asm); (case cT_ceT => k_asm); (case ca_ceT => exact rfl); (case cb_ceT => exact rfl); (case cc_ceT => exact rfl); (case ce_ceT => exact rfl); (case cd_ceT => exact Nat.le_of_ble_eq_true rfl); (case cu_ceT => exact Nat.le_of_ble_eq_true rfl); (case cN_ceT => k_asm); (case tk_ceT => (k_extra "take")); (case ne_ceT => repeat' (first | exact Mine.Internal.Outs.nil | refine' Mine.Internal.Outs.hi (by with_reducible assumption) ?_ | refine' Mine.Internal.Outs.lo (by with_reducible assumption) ?_ | refine' Mine.Internal.Outs.hi (by k_extra "slt") ?_)); k_whole; intro x' v' h' tk' ok' hx' htk' F' N'; (try dsimp only at htk'); (try dsimp only [List.cons_append, List.nil_append] at N'); (try k_sweep); (try dsimp only); (try k_fold)))
      k_with "call ref" => (k_here; (with_reducible show wpAny _ _ (call (Value.ref 163) [Value.ref _, Value.none] _) _ _ _); k_dflt (refine' call_ungetN  ?cB_ceT ?cF_ceT ?cX_ceT ?cT_ceT ?ca_ceT ?cb_ceT ?cc_ceT ?ce_ceT ?cd_ceT ?cu_ceT ?cN_ceT  ?_; (case cF_ceT => k_asm); (case cB_ceT => k_asm); (case cX_ceT => k_asm); (case cT_ceT => k_asm); (case ca_ceT => exact rfl); (case cb_ceT => exact rfl); (case cc_ceT => exact rfl); (case ce_ceT => exact rfl); (case cd_ceT => exact Nat.le_of_ble_eq_true rfl); (case cu_ceT => exact Nat.le_of_ble_eq_true rfl); (case cN_ceT => k_asm); k_whole; intro h' tk' htk' F' N'; (try dsimp only at htk'); (try dsimp only [List.cons_append, List.nil_append] at N'); (try k_sweep); (try dsimp only); (try k_fold)))
      k_with "call ref" => (k_here; (with_reducible show wpAny _ _ (call (Value.ref 163) [Value.ref _, Value.str ⟨#[_]⟩ _] _) _ _ _); k_dflt (refine' call_unget ?p1_ceT ?p2_ceT ?p3_ceT ?p4_ceT ?cB_ceT ?cF_ceT ?cX_ceT ?cT_ceT ?ca_ceT ?cb_ceT ?cc_ceT ?ce_ceT ?cd_ceT ?cu_ceT ?cN_ceT ?tk_ceT ?ne_ceT ?_; (case p1_ceT => with_reducible assumption); (case p2_ceT => with_reducible assumption); (case p3_ceT => with_reducible assumption); (case p4_ceT => with_reducible assumption); (case cF_ceT => k_asm); (case cB_ceT => k_asm); (case cX_ceT => k_asm); (case cT_ceT => k_asm); (case ca_ceT => exact rfl); (case cb_ceT => exact rfl); (case cc_ceT => exact rfl); (case ce_ceT => exact rfl); (case cd_ceT => exact Nat.le_of_ble_eq_true rfl); (case cu_ceT => exact Nat.le_of_ble_eq_true rfl); (case cN_ceT => k_asm); (case tk_ceT => (k_extra "take")); (case ne_ceT => repeat' (first | exact Mine.Internal.Outs.nil | refine' Mine.Internal.Outs.hi (by with_reducible assumption) ?_ | refine' Mine.Internal.Outs.lo (by with_reducible assumption) ?_ | refine' Mine.Internal.Outs.hi (by k_extra "slt") ?_)); k_whole; intro x' h' tk' ok' hx' htk' F' N'; (try dsimp only at htk'); (try dsimp only [List.cons_append, List.nil_append] at N'); (try k_sweep); (try dsimp only); (try k_fold)))
      k_with "subscriptTail" => (k_here; first
      | ((with_reducible show wpAny _ _ (subscriptTail _ _ (Value.ref 48) (Value.str _ _)) _ _ _); k_dflt (first | (refine' Mine.Internal.item_tok 7 ?F_ceT ?X_ceT ?he_ceT ?hh_ceT ?hl_ceT ?_; (case hl_ceT => kernel_rfl)) | (refine' Mine.Internal.item_tok 1 ?F_ceT ?X_ceT ?he_ceT ?hh_ceT ?hl_ceT ?_; (case hl_ceT => kernel_rfl)) | (refine' Mine.Internal.item_tok 2 ?F_ceT ?X_ceT ?he_ceT ?hh_ceT ?hl_ceT ?_; (case hl_ceT => kernel_rfl)) | (refine' Mine.Internal.item_tok 3 ?F_ceT ?X_ceT ?he_ceT ?hh_ceT ?hl_ceT ?_; (case hl_ceT => kernel_rfl))); (case F_ceT => k_asm); (case X_ceT => k_asm); (case he_ceT => kernel_rfl); (case hh_ceT => kernel_rfl); k_whole; intro t9)
      | ((with_reducible show wpAny _ _ (subscriptTail _ _ (Value.ref 46) (Value.int _ _)) _ _ _); k_dflt (refine' Mine.Internal.item_repl ?F_ceT ?X_ceT ?hk_ceT ?hz_ceT ?_; (case F_ceT => k_asm); (case X_ceT => k_asm); (case hk_ceT => kernel_rfl); (case hz_ceT => with_reducible assumption); k_whole); intro t9))
      k_with "eval Dict" => (k_here; (with_reducible show wpAny _ _ (eval (Expr.Dict (_ :: _) _ _) _) _ _ _); k_dflt (refine' kdn_str ?q_ceT ?F_ceT ?N_ceT ?b_ceT ?a_ceT ?l_ceT ?e_ceT ?n_ceT ?_; (case q_ceT => rfl); (case F_ceT => k_asm); (case N_ceT => first | k_asm | exact News.nil); (case b_ceT => exact Top.nolimit (by k_asm)); (case a_ceT => rfl); (case l_ceT => rfl); (case e_ceT => exact List.cons_ne_nil _ _); (case n_ceT => exact Nat.le_of_ble_eq_true rfl)); intro d' h' o' F' N' l1 lo' hd'; (try k_lt l1))
      k_with "callWith" => (k_here; (with_reducible show wpAny _ _ (callWith _ (Value.builtin _) (_ :: _) (backTo _ (starEach [Expr.Dict _ _ _] _)) []) _ _ _); k_dflt (refine callWith_method1 ?_; k_whole))
      k_with "spliced" => (k_here; (with_reducible show wpAny _ _ (spliced (backTo _ (starEach [Expr.Dict _ _ _] _))) _ _ _); k_dflt (refine args_cons ?_; k_whole))
      k_with "subscriptTail" => (k_here; first
      | ((with_reducible show wpAny _ _ (subscriptTail (Expr.Name _ _) (Expr.Constant _ _ _) (Value.ref _) (Value.int _ _)) _ _ _); k_dflt (refine' item_listL (News.isList ?N_ceT ?m_ceT) ?h0_ceT ?h1_ceT ?hx_ceT ?_; (case N_ceT => k_asm); (case m_ceT => k_mem); (case h0_ceT => decide); (case h1_ceT => decide); (case hx_ceT => rfl); k_whole))
      | ((with_reducible show wpAny _ _ (subscriptTail (Expr.Name _ _) (Expr.UnaryOp _ _ _) (Value.ref _) (Value.int _ _)) _ _ _); k_dflt (refine' Mine.Internal.item_negL (News.isList ?N_ceT ?m_ceT) ?h0_ceT ?h1_ceT ?h2_ceT ?hx_ceT ?_; (case N_ceT => k_asm); (case m_ceT => k_mem); (case h0_ceT => decide); (case h1_ceT => exact of_decide_eq_true rfl); (case h2_ceT => decide); (case hx_ceT => rfl); k_whole)))
      k_with "compareOp In" => (k_here; first
      | ((with_reducible show wpAny _ _ (compareOp CmpOp.In Value.none (Value.ref _)) _ _ _); k_dflt (refine' Mine.Internal.in_elt_none ?N_ceT ?m_ceT ?_; (case N_ceT => k_asm); (case m_ceT => k_mem); k_whole))
      | ((with_reducible show wpAny _ _ (compareOp CmpOp.In (Value.str ⟨#[_]⟩ _) (Value.ref _)) _ _ _); k_dflt (refine' Mine.Internal.in_elt_chr ?N_ceT ?m_ceT ?_; (case N_ceT => k_asm); (case m_ceT => k_mem); k_whole))
      | ((with_reducible show wpAny _ _ (compareOp CmpOp.In (Value.str ⟨#[_]⟩ _) (Value.ref _)) _ _ _); k_dflt (refine' Mine.Internal.in_tupN ?N_ceT ?m_ceT ?hi_ceT ?he_ceT ?_; (case N_ceT => k_asm); (case m_ceT => k_mem); (case hi_ceT => repeat' constructor); (case he_ceT => exact Mine.Internal.xX_any); k_whole))
      | ((with_reducible show wpAny _ _ (compareOp CmpOp.In Value.none (Value.ref _)) _ _ _); k_dflt (refine' Mine.Internal.in_tupN_none ?N_ceT ?m_ceT ?hi_ceT ?_; (case N_ceT => k_asm); (case m_ceT => k_mem); (case hi_ceT => repeat' constructor); k_whole)))
      k_with "compareOp In" => (k_here; first
      | ((with_reducible show wpAny _ _ (compareOp CmpOp.In (Value.str ⟨#[_]⟩ _) (Value.ref _)) _ _ _); k_dflt (refine' Mine.Internal.in_tupK ?F_ceT ?X_ceT ?hk_ceT ?hi_ceT ?he_ceT ?_; (case F_ceT => k_asm); (case X_ceT => k_asm); (case hk_ceT => k_is); (case hi_ceT => repeat' constructor); (case he_ceT => first | exact Mine.Internal.dec_any | exact Mine.Internal.hex_any); k_whole))
      | ((with_reducible show wpAny _ _ (compareOp CmpOp.In Value.none (Value.ref _)) _ _ _); k_dflt (refine' Mine.Internal.in_tupK_none ?F_ceT ?X_ceT ?hk_ceT ?hi_ceT ?_; (case F_ceT => k_asm); (case X_ceT => k_asm); (case hk_ceT => k_is); (case hi_ceT => repeat' constructor); k_whole)))
      k_with "compareOp In" => (k_here; first
      | ((with_reducible show wpAny _ _ (compareOp CmpOp.In (Value.str ⟨#[_]⟩ _) (Value.ref 22)) _ _ _); k_dflt (refine' Mine.Internal.in_tupK ?F_ceT ?X_ceT ?hk_ceT ?hi_ceT ?he_ceT ?_; (case F_ceT => k_asm); (case X_ceT => k_asm); (case hk_ceT => k_is); (case hi_ceT => repeat' constructor); (case he_ceT => exact Mine.Internal.blank_any); k_whole))
      | ((with_reducible show wpAny _ _ (compareOp CmpOp.In (Value.str _ _) (Value.ref 22)) _ _ _); k_dflt (refine' Mine.Internal.in_tupX ?F_ceT ?X_ceT ?hk_ceT ?hi_ceT ?he_ceT ?_; (case F_ceT => k_asm); (case X_ceT => k_asm); (case hk_ceT => k_is); (case hi_ceT => repeat' constructor); (case he_ceT => exact Mine.Internal.space_any _); k_whole))
      | ((with_reducible show wpAny _ _ (compareOp CmpOp.In Value.none (Value.ref 22)) _ _ _); k_dflt (refine' Mine.Internal.in_tupK_none ?F_ceT ?X_ceT ?hk_ceT ?hi_ceT ?_; (case F_ceT => k_asm); (case X_ceT => k_asm); (case hk_ceT => k_is); (case hi_ceT => repeat' constructor); k_whole)))
      k_with "all" => first | exact Mine.Internal.tail_ne (by with_reducible assumption) (fun p9 hp9 => by repeat (first | exact hp9 | exact List.mem_append_left _ hp9 | refine List.mem_cons_of_mem _ ?_)) (by with_reducible assumption) (.inr (by k_extra "slt")) | ((with_reducible apply Mine.Internal.tail_gt); (with_reducible assumption); (first | exact Nat.le_of_lt (by k_extra "slt") | exact Nat.le_refl _); (with_reducible assumption); exact .inr (by k_extra "slt"))
      k_with "call ref" => (k_here; (with_reducible show wpAny _ _ (call (Value.ref 220) _ _) _ _ _); k_dflt (refine' Mine.Internal.Ctr.useN (gs := gens9) (d := dr9) (o := os9) (Mine.Internal.CtrC.call ctr_haskeys) ?cB_ceT ?cF_ceT ?cX_ceT ?cN_ceT ?cT_ceT ?ca_ceT ?cb_ceT ?cc_ceT ?ce_ceT ?cd_ceT ?cu_ceT ?ck_ceT ?cne_ceT ?_; (case cB_ceT => k_asm); (case cF_ceT => k_asm); (case cX_ceT => k_asm); (case cT_ceT => k_asm); (case cN_ceT => k_asm); (case ca_ceT => exact rfl); (case cb_ceT => exact rfl); (case cc_ceT => exact rfl); (case ce_ceT => exact rfl); (case cd_ceT => exact Nat.le_of_ble_eq_true rfl); (case cu_ceT => exact Nat.le_of_ble_eq_true rfl); (case ck_ceT => ((try (refine' Mine.Internal.Take.cons ?_ ?_)); repeat' (first | exact Mine.Internal.Take.nil | exact Mine.Internal.Del.head | refine' Mine.Internal.Take.cons ?_ ?_ | refine' Mine.Internal.Del.tail ?_))); (case cne_ceT => first | exact List.forall_mem_nil _ | exact (fun _ _ => List.forall_mem_nil _) | exact Mine.Internal.Srt.neL (by with_reducible assumption) (by k_extra "pos") (by k_extra "pos") (by exact rfl) | ((simp only [List.forall_mem_cons, List.not_mem_nil, false_implies, implies_true, and_true, true_and]); (repeat' (refine And.intro ?_ ?_)); all_goals k_ne)); (k_whole; intro v' l' hp'; obtain ⟨e1', e2'⟩ := hp'; subst e1'; subst e2'; intro h' n' hn' F' N'; (try dsimp only [List.cons_append, List.nil_append] at N'); (try k_sweep); (try dsimp only); (try k_fold))))
      k_with "subscriptTail" => (k_here; (with_reducible show wpAny _ _ (subscriptTail _ _ (Value.ref 48) (Value.str (Str.ofString "SpaceCharacters") _)) _ _ _); k_dflt (refine' Mine.Internal.item_tok 2 ?F_ceT ?X_ceT ?he_ceT ?hh_ceT ?hl_ceT ?_; (case hl_ceT => kernel_rfl); (case F_ceT => k_asm); (case X_ceT => k_asm); (case he_ceT => kernel_rfl); (case hh_ceT => kernel_rfl); k_whole; intro t9))
      k_with "subscriptTail" => (k_here; (with_reducible show wpAny _ _ (subscriptTail _ _ (Value.ref 48) (Value.str (Str.ofString "Characters") _)) _ _ _); k_dflt (refine' Mine.Internal.item_tok 1 ?F_ceT ?X_ceT ?he_ceT ?hh_ceT ?hl_ceT ?_; (case hl_ceT => kernel_rfl); (case F_ceT => k_asm); (case X_ceT => k_asm); (case he_ceT => kernel_rfl); (case hh_ceT => kernel_rfl); k_whole; intro t9))
      k_fill
      refine' ctrS_introN (binds := [("self", .ref Z.za), ("allowedChar", av), ("fromAttribute", .bool true)]) (fun h h' T k => T.keeps k) (fun h T => T.nolimit) ?ho_ceT ?hcd_ceT ?hD_ceT ?hb_ceT ?hl_ceT ?_ ?hc_ceT ?c1_ceT ?c2_ceT ?c3_ceT
      case ho_ceT => k_is
      case hcd_ceT => k_is
      case hD_ceT => decide
      case hb_ceT => (intro s X; (try (rcases hargs with ⟨rfl, rfl, rfl⟩ | ⟨rfl, rfl⟩)); all_goals (first | exact BindsTo.of_eq rfl | exact binds_K X rfl (by k_is) rfl rfl rfl))
      case hl_ceT => exact locs rfl
      case hc_ceT => decide
      case c1_ceT => exact rfl
      case c2_ceT => exact rfl
      case c3_ceT => exact rfl
      intro base g env outer L' h₁ hs9 gens9 dr9 t09 os9 tk B' F' XB' TB' D' X' N' T' l1
      intro e9 A9 q9
      (try k_lt l1)
      (try dsimp only)
      first | have S0 := Mine.Internal.Srt.eight ho hk hat | have S0 := Mine.Internal.Srt.grow (Mine.Internal.Srt.six ho) hoq | have S0 := Mine.Internal.Srt.five ho hk | have S0 := Mine.Internal.Srt.six ho | have S0 := Mine.Internal.Srt.two ho | have S0 := Mine.Internal.Srt.two hk | skip
      k_with "isTrue BoolOp" => k_dflt (first
        | ((fail_if_success (with_reducible show wpAny _ _ _ (Mine.Internal.MeetH _ _ _ _ _ _) _ _)); (with_reducible show wpAny _ _ (isTrue (Expr.BoolOp BoolOp.Or [Expr.Compare _ [CmpOp.In] _ _, _, _] _) _ _) _ _ _); (with_reducible rename Fr _ _ _ _ => F0); (with_reducible rename News _ _ _ _ => N0); (refine' Mine.Internal.wp_meetH (Mine.Internal.stopC al (x.rem K.src)) F0 N0 ?_ ?_); (intro h9 k9 F9 N9); clear F0 N0; (try dsimp only); (try k_fold); rotate_left; (rcases hx' with ⟨ev9, er9, ef9⟩ | ⟨c1, t1, ev9, er9, eo9, ec9⟩ <;> subst ev9))
        | ((with_reducible show wpAny _ _ (isTrue (Expr.BoolOp BoolOp.And [Expr.Compare _ [CmpOp.IsNot] _ _, _] _) _ _) _ _ _); (rcases hal with ⟨ea9, eb9⟩ | ⟨a1, ta1, ea9, eb9⟩ <;> subst ea9 eb9)))
      k_with "MeetH" => k_dflt (first
        | exact Mine.Internal.meetH_end (by assumption) (by assumption) (by first | exact Mine.Internal.stop_nil er9 | exact Mine.Internal.stop_blank er9 (by with_reducible assumption) | exact Mine.Internal.stop_lt er9 (by with_reducible assumption) | exact Mine.Internal.stop_al er9 (by with_reducible assumption) | exact Mine.Internal.stop_no er9 (by with_reducible assumption) (by with_reducible assumption) | exact Mine.Internal.stop_no' er9 (by with_reducible assumption) (by with_reducible assumption) (by with_reducible assumption))
        | exact Mine.Internal.meetH_sub (by assumption) (by assumption) (by first | exact Mine.Internal.stop_nil er9 | exact Mine.Internal.stop_blank er9 (by with_reducible assumption) | exact Mine.Internal.stop_lt er9 (by with_reducible assumption) | exact Mine.Internal.stop_al er9 (by with_reducible assumption) | exact Mine.Internal.stop_no er9 (by with_reducible assumption) (by with_reducible assumption) | exact Mine.Internal.stop_no' er9 (by with_reducible assumption) (by with_reducible assumption) (by with_reducible assumption))
        | (refine Mine.Internal.hold ?_))
      k_with "exec If" => k_dflt ((fail_if_success (with_reducible show wpAny _ _ _ (Mine.Internal.MeetXS _ _ _ _ _ _ _) _ _)); first
        | ((with_reducible show wpAny _ _ (exec (Stmt.If (Expr.BoolOp BoolOp.Or [_, _, _] _) _ _ _) _) _ _ _); (with_reducible rename Fr _ _ _ _ => F0); (with_reducible rename News _ _ _ _ => N0); (refine' Mine.Internal.wp_meetCs (K := K) (Z := Z) (B := B9) (m7 := m7) (tq := tq) (qs := qs) (val := val) (vt := vt) (R := ceR al (x.rem K.src)) (fun y => List.lookup y ([(Str.ofString "self", Value.ref Z.za), (Str.ofString "allowedChar", av), (Str.ofString "fromAttribute", Value.bool true)].reverse)) hz6 F0 B' XB' TB' D' (fun _ _ T9 k9 => T9.keeps k9) ?mxq_ceT ?mxw_ceT); (case' mxq_ceT => (intro g9 y9 out9 t9 u9 fl9 adds9 n9 h9 tk9 T9 B9' X9 P9 D9 sok9 hout9 hrem9 hgt9 hqis9 F9 N9; (clear F0 N0 B' X' T' D'); (with_reducible rename Mine.Internal.Srt _ => S8); (have S9 := Mine.Internal.Srt.eight ho hk hat); (clear S8); (have hlen9 := Mine.Internal.ce_len hq hqis9); (try dsimp only); (try k_fold))))
        | ((with_reducible show wpAny _ _ (exec (Stmt.If (Expr.Name _ _) _ _ _) _) _ _ _); cases fa))
      k_with "call builtin:list.append" => (k_here; (with_reducible show wpAny _ _ (call (Value.builtin _) [Value.ref _, Value.ref _]) _ _ _); k_dflt (refine' append_K ?y1_ceT ?y2_ceT ?y3_ceT ?_ ?y4_ceT; (case y1_ceT => k_asm); (case y2_ceT => k_asm); (case y3_ceT => k_upd); (case y4_ceT => size_fits); k_whole); intro h' F' N'; (try k_sweep))
      k_with "subscriptTail" => k_dflt ((try dsimp only); (with_reducible show wpAny _ _ (subscriptTail _ (Expr.UnaryOp _ _ _) (Value.ref _) (Value.int _ _)) _ _ _); (refine' Mine.Internal.item_lastL (News.isList ?N_ceT ?m_ceT) ?hb_ceT ?_; (case N_ceT => k_asm); (case m_ceT => k_mem); (case hb_ceT => rfl); k_whole))
      k_with "inplaceOp Add str str" => k_dflt ((with_reducible show wpAny _ _ (inplaceOp Operator.Add (Value.str _ _) (Value.str _ _)) _ _ _); (refine iadd_str ?_ (Mine.Internal.out_fits hval hout9)); intro ti9 ki9)
      k_with "getItem ref int" => k_dflt ((with_reducible show wpAny _ _ (PySem.getItem (Value.ref _) (Value.int _ _)) _ _ _); (refine' wpAny_getItem_list (x := Value.str _ _) (News.isList ?N_ceT ?m_ceT) ?h0_ceT ?h1_ceT ?hx_ceT ?_; (case N_ceT => k_asm); (case m_ceT => k_mem); (case h0_ceT => decide); (case h1_ceT => decide); (case hx_ceT => exact rfl); k_whole))
      k_with "call ref" => k_dflt ((with_reducible show wpAny _ _ (call (Value.ref 163) [Value.ref _, v'] _) _ _ _); (rcases hx' with ⟨ev9, er9, ef9⟩ | ⟨c1, t1, ev9, er9, eo9, ec9⟩ <;> subst ev9))
      k_with "compareOp Eq" => k_dflt ((with_reducible show wpAny _ _ (compareOp CmpOp.Eq v' (Value.str _ _)) _ _ _); (rcases hx' with ⟨ev9, er9, ef9⟩ | ⟨c1, t1, ev9, er9, eo9, ec9⟩ <;> subst ev9); first | exact (Mine.Internal.stop_abs (by with_reducible assumption) er9).elim | skip)
      k_with "call builtin:list.append" => k_dflt ((with_reducible show wpAny _ _ (call (Value.builtin "list.append") ([Value.ref _] ++ [v'])) _ _ _); first
        | (have q9 := ec8; clear q9; rcases hx' with ⟨ev7, er7, ef7⟩ | ⟨c3, t3, ev7, er7, eo7, ec7⟩ <;> subst ev7)
        | (rcases hx' with ⟨ev8, er8, ef8⟩ | ⟨c2, t2, ev8, er8, eo8, ec8⟩ <;> subst ev8)); (all_goals (dsimp only [List.cons_append, List.nil_append]))
      k_with "call builtin:str.join" => k_dflt ((with_reducible show wpAny _ _ (call (Value.builtin "str.join") [Value.str _ _, Value.ref _]) _ _ _); first
        | (refine' Mine.Internal.join_chs (g := Mine.Internal.chS) (ds := []) (fun _ => rfl) (News.isList (by k_asm) (by news_mem)) .nil (by decide) ?_; intro tj9 kj9)
        | (refine' Mine.Internal.join_chs (g := Mine.Internal.chS) (ds := [c1]) (fun _ => rfl) (News.isList (by k_asm) (by news_mem)) (.cons _ _ .nil) (Nat.le_of_ble_eq_true rfl) ?_; intro tj9 kj9)
        | (refine' Mine.Internal.join_chs (g := Mine.Internal.chS) (ds := [c1, c2]) (fun _ => rfl) (News.isList (by k_asm) (by news_mem)) (.cons _ _ (.cons _ _ .nil)) (Nat.le_of_ble_eq_true rfl) ?_; intro tj9 kj9))
      k_with "call ref" => k_dflt (first
        | ((with_reducible show wpAny _ _ (call (Value.ref 275) [Value.ref _, Value.bool false] _) _ _ _); have hfg9 := Mine.Internal.figs_of hx' (by with_reducible assumption : alD false c2 = true); have hfl9 := Nat.le_trans (Nat.le_of_eq (congrArg List.length (Mine.Internal.same_cons er8 hx'))) (Mine.Internal.len_one er9); refine' call_cne (hex := false) ho hk ok' hfg9.cut hfg9.all hfg9.stop hfg9.ne (Mine.Internal.figs_len hfg9 hlen hfl9) rfl (Int.natCast_nonneg _) hq ?cB_ceT ?cF_ceT ?cX_ceT ?cT_ceT ?ca_ceT ?cb_ceT ?cc_ceT ?ce_ceT ?cd_ceT ?cu_ceT ?cN_ceT ?tk_ceT ?ne_ceT ?_; (case cF_ceT => k_asm); (case cB_ceT => k_asm); (case cX_ceT => k_asm); (case cT_ceT => k_asm); (case ca_ceT => exact rfl); (case cb_ceT => exact rfl); (case cc_ceT => exact rfl); (case ce_ceT => exact rfl); (case cd_ceT => exact Nat.le_of_ble_eq_true rfl); (case cu_ceT => exact Nat.le_of_ble_eq_true rfl); (case cN_ceT => k_asm); (case tk_ceT => (k_extra "take")); (case ne_ceT => repeat' (first | exact List.forall_mem_nil _ | refine List.forall_mem_cons.mpr ⟨.inr (by k_extra "slt"), ?_⟩)); k_whole; intro x' fl' adds' n' t' h' tk' ok' hrem' hfr' hqi' htk' F' N'; (have hgt' : ∀ p ∈ fl', @LT.lt Nat _ B9.dl p.1 := fun p9 hp9 => hfr' p9 hp9 (B9.dl, _) (by k_mem)); clear hfr'; (try dsimp only at htk'); (try dsimp only [List.cons_append, List.nil_append] at N'); (try k_sweep); (try dsimp only); (try k_fold))
        | ((with_reducible show wpAny _ _ (call (Value.ref 275) [Value.ref _, Value.bool true] _) _ _ _); have hfg9 := Mine.Internal.figs_of hx' (by with_reducible assumption : alD true c3 = true); have hfl9 := Nat.le_trans (Nat.le_of_eq (congrArg List.length (Mine.Internal.same_cons er7 hx'))) (Mine.Internal.len_two er9 er8); refine' call_cne (hex := true) ho hk ok' hfg9.cut hfg9.all hfg9.stop hfg9.ne (Mine.Internal.figs_len hfg9 hlen hfl9) rfl (Int.natCast_nonneg _) hq ?cB_ceT ?cF_ceT ?cX_ceT ?cT_ceT ?ca_ceT ?cb_ceT ?cc_ceT ?ce_ceT ?cd_ceT ?cu_ceT ?cN_ceT ?tk_ceT ?ne_ceT ?_; (case cF_ceT => k_asm); (case cB_ceT => k_asm); (case cX_ceT => k_asm); (case cT_ceT => k_asm); (case ca_ceT => exact rfl); (case cb_ceT => exact rfl); (case cc_ceT => exact rfl); (case ce_ceT => exact rfl); (case cd_ceT => exact Nat.le_of_ble_eq_true rfl); (case cu_ceT => exact Nat.le_of_ble_eq_true rfl); (case cN_ceT => k_asm); (case tk_ceT => (k_extra "take")); (case ne_ceT => repeat' (first | exact List.forall_mem_nil _ | refine List.forall_mem_cons.mpr ⟨.inr (by k_extra "slt"), ?_⟩)); k_whole; intro x' fl' adds' n' t' h' tk' ok' hrem' hfr' hqi' htk' F' N'; (have hgt' : ∀ p ∈ fl', @LT.lt Nat _ B9.dl p.1 := fun p9 hp9 => hfr' p9 hp9 (B9.dl, _) (by k_mem)); clear hfr'; (try dsimp only at htk'); (try dsimp only [List.cons_append, List.nil_append] at N'); (try k_sweep); (try dsimp only); (try k_fold)))
      k_with "MeetXS" => k_dflt ((with_reducible rename Fr _ _ _ _ => F9); (with_reducible rename News _ _ _ _ => N9); (try simp only [List.push_toArray] at N9); first
        | (have hs9 : Mine.Internal.stopC al (x.rem K.src) = true := (by with_reducible assumption); have hR9 := Mine.Internal.ce_stop hs9; refine' Mine.Internal.ce_meet (fl := []) (adds := []) hR9 (by first | with_reducible assumption | exact KtsTurn.refl) F9 N9 ?em1_ceT ?er1_ceT ?eT1_ceT ?eq1_ceT ?ef1_ceT ?eg1_ceT ok' ?eo1_ceT ?eu1_ceT ?ek1_ceT; (case em1_ceT => exact rfl); (case er1_ceT => (intro z9 hz9 hz8; obtain ⟨hy1, hy2, hy3, hy4⟩ := Mine.Internal.ce_names hz8; (repeat' (first | refine (if_neg hz9).trans ?_ | refine (if_neg hy1).trans ?_ | refine (if_neg hy2).trans ?_ | refine (if_neg hy3).trans ?_ | refine (if_neg hy4).trans ?_ | exact rfl)))); (case eT1_ceT => (k_extra "take")); (case eq1_ceT => exact (List.append_nil _).symm); (case ef1_ceT => exact (fun _ h => nomatch h)); (case eg1_ceT => exact (fun _ h => nomatch h)); (case eo1_ceT => exact Mine.Internal.amp38); (case eu1_ceT => exact (hx'.trans er9.symm)); (case ek1_ceT => exact .nil))
        | (have hs9 : Mine.Internal.stopC al (x.rem K.src) = true := (by with_reducible assumption); have hR9 := Mine.Internal.ce_stop hs9; refine' Mine.Internal.ce_meet (fl := []) (adds := []) hR9 (by first | with_reducible assumption | exact KtsTurn.refl) F9 N9 ?em2_ceT ?er2_ceT ?eT2_ceT ?eq2_ceT ?ef2_ceT ?eg2_ceT ok' ?eo2_ceT ?eu2_ceT ?ek2_ceT; (case em2_ceT => exact rfl); (case er2_ceT => (intro z9 hz9 hz8; obtain ⟨hy1, hy2, hy3, hy4⟩ := Mine.Internal.ce_names hz8; (repeat' (first | refine (if_neg hz9).trans ?_ | refine (if_neg hy1).trans ?_ | refine (if_neg hy2).trans ?_ | refine (if_neg hy3).trans ?_ | refine (if_neg hy4).trans ?_ | exact rfl)))); (case eT2_ceT => (k_extra "take")); (case eq2_ceT => exact (List.append_nil _).symm); (case ef2_ceT => exact (fun _ h => nomatch h)); (case eg2_ceT => exact (fun _ h => nomatch h)); (case eo2_ceT => exact Mine.Internal.amp38); (case eu2_ceT => exact (ef9.trans er9.symm)); (case ek2_ceT => exact .nil))
        | (have hs9 : Mine.Internal.stopC al (x.rem K.src) = false := (by with_reducible assumption); have hR9 := Mine.Internal.ce_numD hs9 (Mine.Internal.at35 er9 (by with_reducible assumption)) (Mine.Internal.hexC_at er8 (by with_reducible assumption)) ((Mine.Internal.same_cons er8 hx') ▸ hfg9.ne) rfl; rw [← Mine.Internal.same_cons er8 hx'] at hR9; refine' Mine.Internal.ce_meet (fl := fl') (adds := adds') hR9 (by first | with_reducible assumption | exact KtsTurn.refl) F9 N9 ?em3_ceT ?er3_ceT ?eT3_ceT ?eq3_ceT ?ef3_ceT ?eg3_ceT ok' ?eo3_ceT ?eu3_ceT ?ek3_ceT; (case em3_ceT => exact rfl); (case er3_ceT => (intro z9 hz9 hz8; obtain ⟨hy1, hy2, hy3, hy4⟩ := Mine.Internal.ce_names hz8; (repeat' (first | refine (if_neg hz9).trans ?_ | refine (if_neg hy1).trans ?_ | refine (if_neg hy2).trans ?_ | refine (if_neg hy3).trans ?_ | refine (if_neg hy4).trans ?_ | exact rfl)))); (case eT3_ceT => (k_extra "take")); (case eq3_ceT => exact rfl); (case ef3_ceT => exact (fun p9 hp9 => by (repeat (first | exact List.mem_append_left _ hp9 | refine List.mem_cons_of_mem _ ?_)))); (case eg3_ceT => exact hgt'); (case eo3_ceT => exact rfl); (case eu3_ceT => exact hrem'); (case ek3_ceT => exact hqi'))
        | (have hs9 : Mine.Internal.stopC al (x.rem K.src) = false := (by with_reducible assumption); have hR9 := Mine.Internal.ce_numH hs9 (Mine.Internal.T35_2 er9 er8 (by with_reducible assumption)) (Mine.Internal.hexC_at rfl (by with_reducible assumption)) ((Mine.Internal.same_cons er7 hx') ▸ hfg9.ne) rfl; rw [← Mine.Internal.same_cons er7 hx'] at hR9; refine' Mine.Internal.ce_meet (fl := fl') (adds := adds') hR9 (by first | with_reducible assumption | exact KtsTurn.refl) F9 N9 ?em4_ceT ?er4_ceT ?eT4_ceT ?eq4_ceT ?ef4_ceT ?eg4_ceT ok' ?eo4_ceT ?eu4_ceT ?ek4_ceT; (case em4_ceT => exact rfl); (case er4_ceT => (intro z9 hz9 hz8; obtain ⟨hy1, hy2, hy3, hy4⟩ := Mine.Internal.ce_names hz8; (repeat' (first | refine (if_neg hz9).trans ?_ | refine (if_neg hy1).trans ?_ | refine (if_neg hy2).trans ?_ | refine (if_neg hy3).trans ?_ | refine (if_neg hy4).trans ?_ | exact rfl)))); (case eT4_ceT => (k_extra "take")); (case eq4_ceT => exact rfl); (case ef4_ceT => exact (fun p9 hp9 => by (repeat (first | exact List.mem_append_left _ hp9 | refine List.mem_cons_of_mem _ ?_)))); (case eg4_ceT => exact hgt'); (case eo4_ceT => exact rfl); (case eu4_ceT => exact hrem'); (case ek4_ceT => exact hqi'))
        | (have hs9 : Mine.Internal.stopC al (x.rem K.src) = false := (by with_reducible assumption); have hR9 := Mine.Internal.ce_num1 hs9 (Mine.Internal.T35_2 er9 er8 (by with_reducible assumption)) (Mine.Internal.hexC_at rfl (by with_reducible assumption)) (Mine.Internal.al_nil er7); refine' Mine.Internal.ce_meet (fl := [(_, _)]) (adds := [.ref _]) hR9 (by first | with_reducible assumption | exact KtsTurn.refl) F9 N9 ?em5_ceT ?er5_ceT ?eT5_ceT ?eq5_ceT ?ef5_ceT ?eg5_ceT ok' ?eo5_ceT ?eu5_ceT ?ek5_ceT; (case em5_ceT => exact rfl); (case er5_ceT => (intro z9 hz9 hz8; obtain ⟨hy1, hy2, hy3, hy4⟩ := Mine.Internal.ce_names hz8; (repeat' (first | refine (if_neg hz9).trans ?_ | refine (if_neg hy1).trans ?_ | refine (if_neg hy2).trans ?_ | refine (if_neg hy3).trans ?_ | refine (if_neg hy4).trans ?_ | exact rfl)))); (case eT5_ceT => (k_extra "take")); (case eq5_ceT => exact rfl); (case ef5_ceT => (exact List.forall_mem_cons.mpr ⟨by k_mem, List.forall_mem_nil _⟩)); (case eg5_ceT => (exact List.forall_mem_cons.mpr ⟨(by k_extra "slt"), List.forall_mem_nil _⟩)); (case eo5_ceT => exact Mine.Internal.out_app35 (by with_reducible assumption)); (case eu5_ceT => exact (ef7.trans er7.symm)); (case ek5_ceT => exact .cons ⟨_, _, rfl, .head _, Mine.Internal.not_mods (Nat.lt_trans htq9 (by k_extra "slt")), _, _, by assumption⟩ .nil))
        | (have hs9 : Mine.Internal.stopC al (x.rem K.src) = false := (by with_reducible assumption); have hR9 := Mine.Internal.ce_num1 hs9 (Mine.Internal.T35_2 er9 er8 (by with_reducible assumption)) (Mine.Internal.hexC_at rfl (by with_reducible assumption)) (Mine.Internal.al_no er7 (by with_reducible assumption)); refine' Mine.Internal.ce_meet (fl := [(_, _)]) (adds := [.ref _]) hR9 (by first | with_reducible assumption | exact KtsTurn.refl) F9 N9 ?em6_ceT ?er6_ceT ?eT6_ceT ?eq6_ceT ?ef6_ceT ?eg6_ceT ok' ?eo6_ceT ?eu6_ceT ?ek6_ceT; (case em6_ceT => exact rfl); (case er6_ceT => (intro z9 hz9 hz8; obtain ⟨hy1, hy2, hy3, hy4⟩ := Mine.Internal.ce_names hz8; (repeat' (first | refine (if_neg hz9).trans ?_ | refine (if_neg hy1).trans ?_ | refine (if_neg hy2).trans ?_ | refine (if_neg hy3).trans ?_ | refine (if_neg hy4).trans ?_ | exact rfl)))); (case eT6_ceT => (k_extra "take")); (case eq6_ceT => exact rfl); (case ef6_ceT => (exact List.forall_mem_cons.mpr ⟨by k_mem, List.forall_mem_nil _⟩)); (case eg6_ceT => (exact List.forall_mem_cons.mpr ⟨(by k_extra "slt"), List.forall_mem_nil _⟩)); (case eo6_ceT => exact Mine.Internal.out_app35 (by with_reducible assumption)); (case eu6_ceT => exact (hx'.trans er7.symm)); (case ek6_ceT => exact .cons ⟨_, _, rfl, .head _, Mine.Internal.not_mods (Nat.lt_trans htq9 (by k_extra "slt")), _, _, by assumption⟩ .nil))
        | (have hs9 : Mine.Internal.stopC al (x.rem K.src) = false := (by with_reducible assumption); have hR9 := Mine.Internal.ce_num0 hs9 (Mine.Internal.at35 er9 (by with_reducible assumption)) (Mine.Internal.hexC_nil er8) (Mine.Internal.al_nil er8); refine' Mine.Internal.ce_meet (fl := [(_, _)]) (adds := [.ref _]) hR9 (by first | with_reducible assumption | exact KtsTurn.refl) F9 N9 ?em7_ceT ?er7_ceT ?eT7_ceT ?eq7_ceT ?ef7_ceT ?eg7_ceT ok' ?eo7_ceT ?eu7_ceT ?ek7_ceT; (case em7_ceT => exact rfl); (case er7_ceT => (intro z9 hz9 hz8; obtain ⟨hy1, hy2, hy3, hy4⟩ := Mine.Internal.ce_names hz8; (repeat' (first | refine (if_neg hz9).trans ?_ | refine (if_neg hy1).trans ?_ | refine (if_neg hy2).trans ?_ | refine (if_neg hy3).trans ?_ | refine (if_neg hy4).trans ?_ | exact rfl)))); (case eT7_ceT => (k_extra "take")); (case eq7_ceT => exact rfl); (case ef7_ceT => (exact List.forall_mem_cons.mpr ⟨by k_mem, List.forall_mem_nil _⟩)); (case eg7_ceT => (exact List.forall_mem_cons.mpr ⟨(by k_extra "slt"), List.forall_mem_nil _⟩)); (case eo7_ceT => exact Mine.Internal.out_app35 (by with_reducible assumption)); (case eu7_ceT => exact (ef8.trans er8.symm)); (case ek7_ceT => exact .cons ⟨_, _, rfl, .head _, Mine.Internal.not_mods (Nat.lt_trans htq9 (by k_extra "slt")), _, _, by assumption⟩ .nil))
        | (have hs9 : Mine.Internal.stopC al (x.rem K.src) = false := (by with_reducible assumption); have hR9 := Mine.Internal.ce_num0 hs9 (Mine.Internal.at35 er9 (by with_reducible assumption)) (Mine.Internal.hexC_at er8 (by with_reducible assumption)) (Mine.Internal.al_no er8 (by with_reducible assumption)); refine' Mine.Internal.ce_meet (fl := [(_, _)]) (adds := [.ref _]) hR9 (by first | with_reducible assumption | exact KtsTurn.refl) F9 N9 ?em8_ceT ?er8_ceT ?eT8_ceT ?eq8_ceT ?ef8_ceT ?eg8_ceT ok' ?eo8_ceT ?eu8_ceT ?ek8_ceT; (case em8_ceT => exact rfl); (case er8_ceT => (intro z9 hz9 hz8; obtain ⟨hy1, hy2, hy3, hy4⟩ := Mine.Internal.ce_names hz8; (repeat' (first | refine (if_neg hz9).trans ?_ | refine (if_neg hy1).trans ?_ | refine (if_neg hy2).trans ?_ | refine (if_neg hy3).trans ?_ | refine (if_neg hy4).trans ?_ | exact rfl)))); (case eT8_ceT => (k_extra "take")); (case eq8_ceT => exact rfl); (case ef8_ceT => (exact List.forall_mem_cons.mpr ⟨by k_mem, List.forall_mem_nil _⟩)); (case eg8_ceT => (exact List.forall_mem_cons.mpr ⟨(by k_extra "slt"), List.forall_mem_nil _⟩)); (case eo8_ceT => exact Mine.Internal.out_app35 (by with_reducible assumption)); (case eu8_ceT => exact (hx'.trans er8.symm)); (case ek8_ceT => exact .cons ⟨_, _, rfl, .head _, Mine.Internal.not_mods (Nat.lt_trans htq9 (by k_extra "slt")), _, _, by assumption⟩ .nil))
        | (have hs9 : Mine.Internal.stopC al (x.rem K.src) = false := (by with_reducible assumption); have hR9 := Mine.Internal.ce_name hs9 er9 (Mine.Internal.ne35 (by with_reducible assumption)); refine' Mine.Internal.ce_meet (fl := [(_, _)]) (adds := [.ref _]) hR9 (by first | with_reducible assumption | exact KtsTurn.refl) F9 N9 ?em9_ceT ?er9_ceT ?eT9_ceT ?eq9_ceT ?ef9_ceT ?eg9_ceT ok' ?eo9_ceT ?eu9_ceT ?ek9_ceT; (case em9_ceT => exact rfl); (case er9_ceT => (intro z9 hz9 hz8; obtain ⟨hy1, hy2, hy3, hy4⟩ := Mine.Internal.ce_names hz8; (repeat' (first | refine (if_neg hz9).trans ?_ | refine (if_neg hy1).trans ?_ | refine (if_neg hy2).trans ?_ | refine (if_neg hy3).trans ?_ | refine (if_neg hy4).trans ?_ | exact rfl)))); (case eT9_ceT => (k_extra "take")); (case eq9_ceT => exact rfl); (case ef9_ceT => (exact List.forall_mem_cons.mpr ⟨by k_mem, List.forall_mem_nil _⟩)); (case eg9_ceT => (exact List.forall_mem_cons.mpr ⟨(by k_extra "slt"), List.forall_mem_nil _⟩)); (case eo9_ceT => first | exact Mine.Internal.out_app | exact Mine.Internal.amp38); (case eu9_ceT => exact (hx'.trans er9.symm)); (case ek9_ceT => exact .cons ⟨_, _, rfl, .head _, Mine.Internal.not_mods (Nat.lt_trans htq9 (by k_extra "slt")), _, _, by assumption⟩ .nil))
        | (refine Mine.Internal.hold ?_))
      k_with "ite" => (k_here; k_openite; k_dflt (refine ite_pos (Mine.Internal.not_of (hname _ _ er9 (by with_reducible assumption) (Mine.Internal.ne35 (by with_reducible assumption)))) ?_))

      k_steps
      all_goals (with_reducible rename Fr _ _ _ _ => F9; with_reducible rename News _ _ _ _ => N9; (try simp only [List.push_toArray] at N9))
      all_goals (try rw [← Mine.Internal.Kz.kd_at hz6] at N9)
      all_goals first
        | (refine' Mine.Internal.ce_end (fl := fl9) (adds := adds9) ho hk hat T9 F9 N9 ?eT1_ceT rfl ?ef1_ceT hgt9 sok9 hrem9 hqis9 ?ev1_ceT; (case eT1_ceT => (k_extra "take")); (case ef1_ceT => exact (fun p9 hp9 => by (repeat (first | exact List.mem_append_left _ hp9 | refine List.mem_cons_of_mem _ ?_)))); (case ev1_ceT => exact Mine.Internal.val_app hout9))
        | ((have hsp9 := Mine.Internal.space_is hout9 (by with_reducible assumption)); refine' Mine.Internal.ce_end (fl := (_, _) :: fl9) (adds := adds9 ++ [.ref _]) ho hk hat T9 F9 N9 ?eT2_ceT (List.append_assoc _ _ _) ?ef2_ceT ?eg2_ceT sok9 hrem9 (Mine.Internal.ks_tok hqis9 hout9 hsp9 ?em2_ceT ⟨_, _, ?ed2_ceT⟩) rfl; (case ed2_ceT => assumption); (case eT2_ceT => (k_extra "take")); (case ef2_ceT => exact List.forall_mem_cons.mpr ⟨by k_mem, (fun p9 hp9 => by (repeat (first | exact List.mem_append_left _ hp9 | refine List.mem_cons_of_mem _ ?_)))⟩); (case eg2_ceT => exact List.forall_mem_cons.mpr ⟨(by k_extra "slt"), hgt9⟩); (case em2_ceT => exact Mine.Internal.not_mods (Nat.lt_trans htq9 (by k_extra "slt"))))
        | fail
  have ctr_pe {w : World} {loose : List Str} {mean : ExcName → Option Value} {mg mb : Str → Option Value} {K : Ks} {Z : Kz} {m7 : Tok} {tq : Addr} {B9 : At} {qs : List Value} {qn : Nat} {x : St} {val : Str} {vt : Tok} {av : Value} {al : Option Nat} (ho : K.ord) (hk : @LT.lt Nat _ Z.zd Z.za ∧ @LT.lt Nat _ Z.za K.sd ∧ @LT.lt Nat _ K.er tq) (hat : B9.ord tq) (hz6 : Z.v6 = .ref B9.ct) (hcd : B9.co.IsDictOf (PySem.strKind PySem.Challenge.rw_te0076_05.row.prog w) [(Str.ofString "data", .ref B9.dl)]) (ok : x.ok K.src) (hlen : (x.rem K.src).length ≤ 640) (hq : qs.length ≤ 100000) (hval : val.length ≤ 100000) (hal : AllowIs av al) (hname : ∀ c t, x.rem K.src = c :: t → stopC al (x.rem K.src) = false → c ≠ 35 → hasPre ⟨#[c]⟩ = false) :
      CtrS PySem.Challenge.rw_te0076_05.row.prog w (main.heap_1_39 w.params) (Top main.view_1_40 loose mean mg mb) 435 350 (.ref 290) ⟨[.ref Z.za, av], []⟩ (Mine.Internal.Lz w K Z m7 tq B9 qs qn val vt (K.led w x)) (CeP PySem.Challenge.rw_te0076_05.row.prog w K Z m7 tq B9 qs val (ceR al (x.rem K.src)) true) := by
    as_aux_lemma =>
      clear ctr_is_invalid ctr_charErrors ctr_read ctr_readE ctr_position0 ctr_unget ctr_ungetN ctr_ungetS ctr_readN ctr_readC ctr_readA ctr_char ctr_until ctr_tinit call_char call_unget call_ungetN call_until call_tok ctr_cne call_cne ctr_lfault ctr_lsignW ctr_bisect ctr_haskeys ctr_lfig ctr_lref ctr_lmended call_lref
      have hk1 := hk.2.2
      have hk2 := hk.2.1
      have hk3 := Nat.lt_trans hk.1 hk.2.1
      unfold Mine.Internal.Lz
      k_with_none
      k_with "pos" => (repeat' (first | exact Mine.Internal.PosL.nil | (apply Mine.Internal.PosL.cons 0; exact rfl) | (apply Mine.Internal.PosL.cons 1; exact rfl) | (apply Mine.Internal.PosL.cons 2; exact rfl) | (apply Mine.Internal.PosL.cons 3; exact rfl) | (apply Mine.Internal.PosL.cons 4; exact rfl) | (apply Mine.Internal.PosL.cons 5; exact rfl) | (apply Mine.Internal.PosL.cons 6; exact rfl) | (apply Mine.Internal.PosL.cons 7; exact rfl) | (apply Mine.Internal.PosL.cons 8; exact rfl) | (apply Mine.Internal.PosL.cons 9; exact rfl) | (apply Mine.Internal.PosL.cons 10; exact rfl) | (apply Mine.Internal.PosL.cons 11; exact rfl) | (apply Mine.Internal.PosL.cons 12; exact rfl) | (apply Mine.Internal.PosL.cons 13; exact rfl) | (apply Mine.Internal.PosL.cons 14; exact rfl) | (apply Mine.Internal.PosL.cons 15; exact rfl) | (apply Mine.Internal.PosL.cons 16; exact rfl) | (apply Mine.Internal.PosL.cons 17; exact rfl) | (apply Mine.Internal.PosL.cons 18; exact rfl) | (apply Mine.Internal.PosL.cons 19; exact rfl) | (apply Mine.Internal.PosL.cons 20; exact rfl) | (apply Mine.Internal.PosL.cons 21; exact rfl) | (apply Mine.Internal.PosL.cons 22; exact rfl) | (apply Mine.Internal.PosL.cons 23; exact rfl)))
      k_with "slt" => exact Mine.Internal.Srt.lt (by with_reducible assumption) (by ((repeat (first | (with_reducible_and_instances refine Mine.Internal.Aft.here ?_; (repeat (first | with_reducible_and_instances exact List.Mem.head _ | with_reducible_and_instances refine List.Mem.tail _ ?_)); done) | with_reducible refine Mine.Internal.Aft.there ?_)); all_goals fail))
      k_with "take" => k_dflt ((try dsimp only); repeat' (first | exact Mine.Internal.Take.nil | exact Mine.Internal.Del.head | refine' Mine.Internal.Take.blk ?_ | exact Mine.Internal.Tl.nil | exact Mine.Internal.Tl.app | refine' Mine.Internal.Take.cons ?_ ?_ | refine' Mine.Internal.Del.tail ?_ | refine' Mine.Internal.Tl.cons ?_))
      k_with "upd" => (exact Mine.Internal.Srt.updP (by with_reducible assumption) (by repeat' (first | exact Mine.Internal.UpdI.head | refine' Mine.Internal.UpdI.tail ?_)) (by k_dflt (k_extra "pos")) (by exact rfl))
      k_with "all" => exact Mine.Internal.Ks.ne_all (by with_reducible assumption) (by first | exact .inr (by k_extra "slt") | exact .inl (by k_extra "slt"))
      k_with "ne" => (refine neN ?_; first | exact Mine.Internal.Srt.ne (by with_reducible assumption) (by with_reducible solve_by_elim (maxDepth := 40) only [Mine.Internal.Apart.l, Mine.Internal.Apart.r, Mine.Internal.Apart.t, List.Mem.head, List.Mem.tail]) | ((try dsimp only); omega))
      k_with "lt" => (intro h9l; first | ((with_reducible rename Mine.Internal.Srt _ => S8); (first | (have S9 := Mine.Internal.Srt.grow S8 (h9l (_, _) (by k_dflt k_mem)); clear S8) | (have S9 := Mine.Internal.Srt.grow S8.tl (h9l (_, _) (by k_dflt k_mem)); clear S8) | (have S9 := Mine.Internal.Srt.grow S8.tl.tl (h9l (_, _) (by k_dflt k_mem)); clear S8)); clear h9l) | (replace h9l := allLt_of h9l; simp only [AllLt, and_true] at h9l))
      k_with "getMethod ref" => (k_here; k_dflt (first | (refine' method_inst ?k1_peT ?k2_peT ?k3_peT ?k4_peT ?k5_peT ?k6_peT ?k7_peT ?_; (case k1_peT => k_asm); (case k2_peT => k_asm); (case k3_peT => k_inst); (case k4_peT => k_is); (case k5_peT => k_is); (case k6_peT => k_is); (case k7_peT => k_get); k_whole) | (refine' kmu_own ?k1_peT ?k2_peT ?k3_peT ?k4_peT ?k5_peT ?_; (case k1_peT => k_asm); (case k2_peT => k_asm); (case k3_peT => k_inst); (case k4_peT => k_is); (case k5_peT => k_is); k_whole)))
      k_with "getMethod ref" => (k_here; (with_reducible show wpAny _ _ (getMethod (Value.ref _) (PySem.Str.ofString "append") _) _ _ _); k_dflt (refine' kl_method ?N_peT ?m_peT slot_list_append type_list_append ?_; (case N_peT => k_asm); (case m_peT => k_mem); k_whole))
      k_with "execs cons" => (k_here; (with_reducible show wpAny _ _ _ _ _ (Shared.mk _ _ _ (_ + _) _)); (refine Mine.Internal.gentoks ?_); intro tkg9 htk9; (try dsimp only at htk9))
      k_with "size" => k_dflt (first | exact Nat.le_of_ble_eq_true rfl | ((with_reducible show Array.size (List.toArray _) ≤ PySem.sizeLine); rw [List.size_toArray, PySem.sizeLine_eq]; refine Nat.le_trans (m := 100002) ?_ (Nat.le_of_ble_eq_true rfl); first | with_reducible assumption | exact Nat.le_trans (m := 100000) (by with_reducible assumption) (Nat.le_of_ble_eq_true rfl)))
      k_with "subscriptTail Name Constant ref int" => k_extra "subscriptTail"
      k_with "tok" => (first | exact Nat.le_add_left 1 _ | with_reducible assumption | exact Nat.le_trans (Nat.le_add_left 1 _) (by with_reducible assumption))
      k_with "next" => (first | ((with_reducible refine Mine.Internal.nextS (g := gens9) (d := dr9) (o := os9) ?_); intro qk9 tkg9) | ((with_reducible refine Mine.Internal.lastS (g := gens9) (d := dr9) (o := os9) ?_); intro tkg9) | (with_reducible refine Mine.Internal.nilS ?_) | (with_reducible refine Mine.Internal.fin9 ?_) | (with_reducible refine Mine.Internal.fin0 ?_) | (with_reducible refine Mine.Internal.finS9 ?_) | (with_reducible refine Mine.Internal.finS0 ?_) | ((with_reducible refine Mine.Internal.nextU (g := gens9) (d := dr9) (o := os9) ?_ ?_); (k_extra "tok"); intro qk9 tkg9) | ((with_reducible refine Mine.Internal.lastU (g := gens9) (d := dr9) (o := os9) ?_ ?_); (k_extra "tok"); intro tkg9) | ((with_reducible refine Mine.Internal.nextZ (g := gens9) (d := dr9) (o := os9) ?_); intro qk9 tkg9) | ((with_reducible refine Mine.Internal.lastZ (g := gens9) (d := dr9) (o := os9) ?_); intro tkg9))
      k_with "execs cons" => k_extra "next"
      k_with "call ref" => refine Mine.Internal.hold ?_
      k_with "lt" => (intro h9l; ((with_reducible rename Mine.Internal.Srt _ => S8); (have S9 := Mine.Internal.Srt.grow S8 (h9l (_, _) (by k_dflt k_mem))); clear S8))
      k_with "ne" => (refine neN ?_; first | exact Mine.Internal.ne_by (by with_reducible assumption) (by k_dflt k_mem) | exact Mine.Internal.ne_by' (by with_reducible assumption) (by k_dflt k_mem) | exact Mine.Internal.Srt.ne (by with_reducible assumption) (by with_reducible solve_by_elim (maxDepth := 40) only [Mine.Internal.Apart.l, Mine.Internal.Apart.r, Mine.Internal.Apart.t, List.Mem.head, List.Mem.tail]))
      k_with "getMethod ref" => (k_here; (with_reducible show wpAny _ _ (getMethod (Value.ref (Mine.Internal.Ks.st _)) _ _) _ _ _); k_dflt (refine' Mine.Internal.meth_blk ?F_peT ?X_peT ?N_peT ?tk_peT ?hg_peT ?hf_peT ?ht_peT ?hl_peT ?_; (case F_peT => k_asm); (case X_peT => k_asm); (case N_peT => k_asm); (case tk_peT => (k_extra "take")); (case hg_peT => k_is); (case hf_peT => k_is); (case ht_peT => k_is); (case hl_peT => exact rfl); k_whole))
      k_with "all" => first | exact Mine.Internal.tail_ne (by with_reducible assumption) (fun p9 hp9 => by repeat (first | exact hp9 | exact List.mem_append_left _ hp9 | refine List.mem_cons_of_mem _ ?_)) (by with_reducible assumption) (.inr (by k_extra "slt")) | ((with_reducible apply Mine.Internal.tail_gt); (with_reducible assumption); (first | exact Nat.le_of_lt (by k_extra "slt") | exact Nat.le_refl _); (with_reducible assumption); exact .inr (by k_extra "slt"))
      k_fill
      refine' ctrS_introN (binds := [("self", .ref Z.za), ("allowedChar", av)]) (fun h h' T k => T.keeps k) (fun h T => T.nolimit) ?ho_peT ?hcd_peT ?hD_peT ?hb_peT ?hl_peT ?_ ?hc_peT ?c1_peT ?c2_peT ?c3_peT
      case ho_peT => k_is
      case hcd_peT => k_is
      case hD_peT => decide
      case hb_peT => (intro s X; (try (rcases hargs with ⟨rfl, rfl, rfl⟩ | ⟨rfl, rfl⟩)); all_goals (first | exact BindsTo.of_eq rfl | exact binds_K X rfl (by k_is) rfl rfl rfl))
      case hl_peT => exact locs rfl
      case hc_peT => decide
      case c1_peT => exact rfl
      case c2_peT => exact rfl
      case c3_peT => exact rfl
      intro base g env outer L' h₁ hs9 gens9 dr9 t09 os9 tk B' F' XB' TB' D' X' N' T' l1
      intro e9 A9 q9
      (try k_lt l1)
      (try dsimp only)
      first | have S0 := Mine.Internal.Srt.eight ho hk hat | have S0 := Mine.Internal.Srt.grow (Mine.Internal.Srt.six ho) hoq | have S0 := Mine.Internal.Srt.five ho hk | have S0 := Mine.Internal.Srt.six ho | have S0 := Mine.Internal.Srt.two ho | have S0 := Mine.Internal.Srt.two hk | skip
      k_with "call ref" => k_dflt ((with_reducible show wpAny _ _ (call (Value.ref 283) _ _) _ _ _); refine' Mine.Internal.CtrS.ce (fa := true) (ctr_ceT ho hk hat hz6 hcd ok hlen hq hval hal hname) ho hk hat ?cB_peT ?cF_peT ?cX_peT ?cT_peT ?cXB_peT ?cTB_peT ?cD_peT ?ca_peT ?cb_peT ?cc_peT ?ce_peT ?cd_peT ?cu_peT ?cN_peT ?tk_peT ?ne_peT ?_; (case cB_peT => k_asm); (case cF_peT => k_asm); (case cX_peT => k_asm); (case cT_peT => k_asm); (case cXB_peT => with_reducible assumption); (case cTB_peT => with_reducible assumption); (case cD_peT => with_reducible assumption); (case ca_peT => exact rfl); (case cb_peT => exact rfl); (case cc_peT => exact rfl); (case ce_peT => exact rfl); (case cd_peT => exact Nat.le_of_ble_eq_true rfl); (case cu_peT => exact Nat.le_of_ble_eq_true rfl); (case cN_peT => k_asm); (case tk_peT => (k_extra "take")); (case ne_peT => exact List.forall_mem_nil _); k_whole; intro g9 y9 fl9 adds9 n9 val9 vt9 h9 tk9 T9 B9' X9 P9 D9 ok9 hrem9 hfr9 hqi9 hval9 htk9 F9 N9; (try dsimp only at htk9); (clear B' X' T' D'); (try dsimp only [Mine.Internal.Lz, List.nil_append] at N9); (try k_sweep); (try dsimp only); (try k_fold))
      k_steps
      all_goals (try dsimp only)
      all_goals (refine' Mine.Internal.ce_end (fl := fl9) (adds := adds9) ho hk hat T9 F9 N9 ?eT1_peT rfl ?ef1_peT ?eg1_peT ok9 hrem9 hqi9 hval9; (case eT1_peT => (k_extra "take")); (case ef1_peT => exact (fun p9 hp9 => by (repeat (first | exact List.mem_append_left _ hp9 | refine List.mem_cons_of_mem _ ?_)))); (case eg1_peT => exact (fun p9 hp9 => hfr9 p9 hp9 (B9.dl, _) (by k_mem))))
  have ctr_avd {w : World} {loose : List Str} {mean : ExcName → Option Value} {mg mb : Str → Option Value} {K : Ks} {Z : Kz} {m7 : Tok} {tq : Addr} {B9 : At} {qs : List Value} {qn : Nat} {x : St} {val : Str} {vt : Tok} (ho : K.ord) (hk : @LT.lt Nat _ Z.zd Z.za ∧ @LT.lt Nat _ Z.za K.sd ∧ @LT.lt Nat _ K.er tq) (hat : B9.ord tq) (hcd : B9.co.IsDictOf (PySem.strKind PySem.Challenge.rw_te0076_05.row.prog w) [(Str.ofString "data", .ref B9.dl)]) (ok : x.ok K.src) (hlen : (x.rem K.src).length ≤ 640) (hq : qs.length ≤ 100000) (hval : val.length ≤ 100000)
      (hname : ∀ r, x.rem K.src = 38 :: r → ∀ c t, r = c :: t → stopC (some 34) r = false → c ≠ 35 → hasPre ⟨#[c]⟩ = false) :
      CtrS PySem.Challenge.rw_te0076_05.row.prog w (main.heap_1_39 w.params) (Top main.view_1_40 loose mean mg mb) 430 340 (.ref 563) ⟨[.ref Z.za], []⟩ (Mine.Internal.Lz w K (Z.at B9.ct) m7 tq B9 qs qn val vt (K.led w x)) (StP PySem.Challenge.rw_te0076_05.row.prog w K (Z.at B9.ct) m7 tq B9 qs val (stQ 34 (x.rem K.src))) := by
    as_aux_lemma =>
      clear ctr_is_invalid ctr_charErrors ctr_read ctr_readE ctr_position0 ctr_unget ctr_ungetN ctr_ungetS ctr_readN ctr_readC ctr_readA ctr_char ctr_until ctr_tinit call_unget call_ungetN call_tok ctr_cne call_cne ctr_lfault ctr_lsignW ctr_bisect ctr_haskeys ctr_lfig ctr_lref ctr_lmended call_lref ctr_ceT
      have htq9 := Mine.Internal.one_lt_tq5 ho hk
      have hk1 := hk.2.2
      have hk2 := hk.2.1
      have hk3 := Nat.lt_trans hk.1 hk.2.1
      unfold Mine.Internal.Lz
      k_with_none
      k_with "pos" => (repeat' (first | exact Mine.Internal.PosL.nil | (apply Mine.Internal.PosL.cons 0; exact rfl) | (apply Mine.Internal.PosL.cons 1; exact rfl) | (apply Mine.Internal.PosL.cons 2; exact rfl) | (apply Mine.Internal.PosL.cons 3; exact rfl) | (apply Mine.Internal.PosL.cons 4; exact rfl) | (apply Mine.Internal.PosL.cons 5; exact rfl) | (apply Mine.Internal.PosL.cons 6; exact rfl) | (apply Mine.Internal.PosL.cons 7; exact rfl) | (apply Mine.Internal.PosL.cons 8; exact rfl) | (apply Mine.Internal.PosL.cons 9; exact rfl) | (apply Mine.Internal.PosL.cons 10; exact rfl) | (apply Mine.Internal.PosL.cons 11; exact rfl) | (apply Mine.Internal.PosL.cons 12; exact rfl) | (apply Mine.Internal.PosL.cons 13; exact rfl) | (apply Mine.Internal.PosL.cons 14; exact rfl) | (apply Mine.Internal.PosL.cons 15; exact rfl) | (apply Mine.Internal.PosL.cons 16; exact rfl) | (apply Mine.Internal.PosL.cons 17; exact rfl) | (apply Mine.Internal.PosL.cons 18; exact rfl) | (apply Mine.Internal.PosL.cons 19; exact rfl) | (apply Mine.Internal.PosL.cons 20; exact rfl) | (apply Mine.Internal.PosL.cons 21; exact rfl) | (apply Mine.Internal.PosL.cons 22; exact rfl) | (apply Mine.Internal.PosL.cons 23; exact rfl)))
      k_with "slt" => exact Mine.Internal.Srt.lt (by with_reducible assumption) (by ((repeat (first | (with_reducible_and_instances refine Mine.Internal.Aft.here ?_; (repeat (first | with_reducible_and_instances exact List.Mem.head _ | with_reducible_and_instances refine List.Mem.tail _ ?_)); done) | with_reducible refine Mine.Internal.Aft.there ?_)); all_goals fail))
      k_with "take" => k_dflt ((try dsimp only); repeat' (first | exact Mine.Internal.Take.nil | exact Mine.Internal.Del.head | refine' Mine.Internal.Take.blk ?_ | exact Mine.Internal.Tl.nil | exact Mine.Internal.Tl.app | refine' Mine.Internal.Take.cons ?_ ?_ | refine' Mine.Internal.Del.tail ?_ | refine' Mine.Internal.Tl.cons ?_))
      k_with "upd" => (exact Mine.Internal.Srt.updP (by with_reducible assumption) (by repeat' (first | exact Mine.Internal.UpdI.head | refine' Mine.Internal.UpdI.tail ?_)) (by k_dflt (k_extra "pos")) (by exact rfl))
      k_with "all" => exact Mine.Internal.Ks.ne_all (by with_reducible assumption) (by first | exact .inr (by k_extra "slt") | exact .inl (by k_extra "slt"))
      k_with "ne" => (refine neN ?_; first | exact Mine.Internal.Srt.ne (by with_reducible assumption) (by with_reducible solve_by_elim (maxDepth := 40) only [Mine.Internal.Apart.l, Mine.Internal.Apart.r, Mine.Internal.Apart.t, List.Mem.head, List.Mem.tail]) | ((try dsimp only); omega))
      k_with "lt" => (intro h9l; first | ((with_reducible rename Mine.Internal.Srt _ => S8); (first | (have S9 := Mine.Internal.Srt.grow S8 (h9l (_, _) (by k_dflt k_mem)); clear S8) | (have S9 := Mine.Internal.Srt.grow S8.tl (h9l (_, _) (by k_dflt k_mem)); clear S8) | (have S9 := Mine.Internal.Srt.grow S8.tl.tl (h9l (_, _) (by k_dflt k_mem)); clear S8)); clear h9l) | (replace h9l := allLt_of h9l; simp only [AllLt, and_true] at h9l))
      k_with "subscriptTail" => (k_here; (with_reducible show wpAny _ _ (subscriptTail _ _ (Value.str _ _) (Value.int _ _)) _ _ _); (refine Mine.Internal.sub_chr (by omega) (by omega) (by assumption) ?_))
      k_with "getMethod ref" => (k_here; k_dflt (first | (refine' method_inst ?k1_avd ?k2_avd ?k3_avd ?k4_avd ?k5_avd ?k6_avd ?k7_avd ?_; (case k1_avd => k_asm); (case k2_avd => k_asm); (case k3_avd => k_inst); (case k4_avd => k_is); (case k5_avd => k_is); (case k6_avd => k_is); (case k7_avd => k_get); k_whole) | (refine' kmu_own ?k1_avd ?k2_avd ?k3_avd ?k4_avd ?k5_avd ?_; (case k1_avd => k_asm); (case k2_avd => k_asm); (case k3_avd => k_inst); (case k4_avd => k_is); (case k5_avd => k_is); k_whole)))
      k_with "getMethod ref" => (k_here; (with_reducible show wpAny _ _ (getMethod (Value.ref _) (PySem.Str.ofString "append") _) _ _ _); k_dflt (refine' kl_method ?N_avd ?m_avd slot_list_append type_list_append ?_; (case N_avd => k_asm); (case m_avd => k_mem); k_whole))
      k_with "execs cons" => (k_here; (with_reducible show wpAny _ _ _ _ _ (Shared.mk _ _ _ (_ + _) _)); (refine Mine.Internal.gentoks ?_); intro tkg9 htk9; (try dsimp only at htk9))
      k_with "size" => k_dflt (first | exact Nat.le_of_ble_eq_true rfl | ((with_reducible show Array.size (List.toArray _) ≤ PySem.sizeLine); rw [List.size_toArray, PySem.sizeLine_eq]; refine Nat.le_trans (m := 100002) ?_ (Nat.le_of_ble_eq_true rfl); first | with_reducible assumption | exact Nat.le_trans (m := 100000) (by with_reducible assumption) (Nat.le_of_ble_eq_true rfl)))
      k_with "subscriptTail Name Constant ref int" => k_extra "subscriptTail"
      k_with "tok" => (first | exact Nat.le_add_left 1 _ | with_reducible assumption | exact Nat.le_trans (Nat.le_add_left 1 _) (by with_reducible assumption))
      k_with "next" => (first | ((with_reducible refine Mine.Internal.nextS (g := gens9) (d := dr9) (o := os9) ?_); intro qk9 tkg9) | ((with_reducible refine Mine.Internal.lastS (g := gens9) (d := dr9) (o := os9) ?_); intro tkg9) | (with_reducible refine Mine.Internal.nilS ?_) | (with_reducible refine Mine.Internal.fin9 ?_) | (with_reducible refine Mine.Internal.fin0 ?_) | (with_reducible refine Mine.Internal.finS9 ?_) | (with_reducible refine Mine.Internal.finS0 ?_) | ((with_reducible refine Mine.Internal.nextU (g := gens9) (d := dr9) (o := os9) ?_ ?_); (k_extra "tok"); intro qk9 tkg9) | ((with_reducible refine Mine.Internal.lastU (g := gens9) (d := dr9) (o := os9) ?_ ?_); (k_extra "tok"); intro tkg9) | ((with_reducible refine Mine.Internal.nextZ (g := gens9) (d := dr9) (o := os9) ?_); intro qk9 tkg9) | ((with_reducible refine Mine.Internal.lastZ (g := gens9) (d := dr9) (o := os9) ?_); intro tkg9))
      k_with "execs cons" => k_extra "next"
      k_with "eval Constant int" => (with_reducible refine Mine.Internal.c_int (g := gens9) (d := dr9) (o := os9) ?_)
      k_with "eval Constant str" => (with_reducible refine Mine.Internal.c_str (g := gens9) (d := dr9) (o := os9) ?_)
      k_with "eval Attribute Name" => (k_here; k_dflt (refine' Mine.Internal.at_name (gs := gens9) (d := dr9) (o := os9) ?nF_avd ?nX_avd ?nN_avd ?nv_avd ?n1_avd ?n2_avd ?ng_avd ?nh_avd ?na_avd ?nn_avd ?nl_avd ?nd_avd ?_; (case nF_avd => k_asm); (case nX_avd => k_asm); (case nN_avd => k_asm); (case nv_avd => exact rfl); (case n1_avd => k_mem); (case n2_avd => k_mem); (case ng_avd => k_is); (case nh_avd => k_is); (case na_avd => k_is); (case nn_avd => k_is); (case nl_avd => k_get); (case nd_avd => k_handed); k_whole))
      k_with "setAttr ref" => (first | (k_here; ktx_write) | (k_here; k_dflt (refine' Mine.Internal.st_attr (gs := gens9) (d := dr9) (o := os9) ?sF_avd ?sX_avd ?sN_avd ?s1_avd ?s2_avd ?ss_avd ?sp_avd ?st_avd ?sh_avd ?sl_avd ?se_avd ?sU_avd ?sz_avd ?_; (case sF_avd => k_asm); (case sX_avd => k_asm); (case sN_avd => k_asm); (case s1_avd => k_mem); (case s2_avd => k_mem); (case ss_avd => k_is); (case sp_avd => k_is); (case st_avd => k_is); (case sh_avd => k_is); (case sl_avd => k_get); (case se_avd => k_put); (case sU_avd => k_upd); (case sz_avd => exact Nat.le_of_ble_eq_true rfl); k_whole; intro h' F' N'; (try k_sweep))))
      k_with "storeName" => (first | (k_here; ktx_write) | (k_here; k_dflt (refine' Mine.Internal.st_name (gs := gens9) (d := dr9) (o := os9) ?tF_avd ?tN_avd ?_; (case tF_avd => k_asm); (case tN_avd => k_asm); k_whole; intro m9 h' F' N'; (try k_sweep))))
      k_with "call ref" => refine Mine.Internal.hold ?_
      k_with "lt" => (intro h9l; ((with_reducible rename Mine.Internal.Srt _ => S8); (have S9 := Mine.Internal.Srt.grow S8 (h9l (_, _) (by k_dflt k_mem))); clear S8))
      k_with "ne" => (refine neN ?_; first | exact Mine.Internal.ne_by (by with_reducible assumption) (by k_dflt k_mem) | exact Mine.Internal.ne_by' (by with_reducible assumption) (by k_dflt k_mem) | exact Mine.Internal.Srt.ne (by with_reducible assumption) (by with_reducible solve_by_elim (maxDepth := 40) only [Mine.Internal.Apart.l, Mine.Internal.Apart.r, Mine.Internal.Apart.t, List.Mem.head, List.Mem.tail]))
      k_with "getMethod ref" => (k_here; (with_reducible show wpAny _ _ (getMethod (Value.ref (Mine.Internal.Ks.st _)) _ _) _ _ _); k_dflt (refine' Mine.Internal.meth_blk ?F_avd ?X_avd ?N_avd ?tk_avd ?hg_avd ?hf_avd ?ht_avd ?hl_avd ?_; (case F_avd => k_asm); (case X_avd => k_asm); (case N_avd => k_asm); (case tk_avd => (k_extra "take")); (case hg_avd => k_is); (case hf_avd => k_is); (case ht_avd => k_is); (case hl_avd => exact rfl); k_whole))
      k_with "call ref" => (k_here; (with_reducible show wpAny _ _ (call (Value.ref 133) _ _) _ _ _); k_dflt (refine' call_char ?p1_avd ?p2_avd ?cB_avd ?cF_avd ?cX_avd ?cT_avd ?ca_avd ?cb_avd ?cc_avd ?ce_avd ?cd_avd ?cu_avd ?cN_avd ?tk_avd ?ne_avd ?_; (case p1_avd => with_reducible assumption); (case p2_avd => with_reducible assumption); (case cF_avd => k_asm); (case cB_avd => k_asm); (case cX_avd => k_asm); (case cT_avd => k_asm); (case ca_avd => exact rfl); (case cb_avd => exact rfl); (case cc_avd => exact rfl); (case ce_avd => exact rfl); (case cd_avd => exact Nat.le_of_ble_eq_true rfl); (case cu_avd => exact Nat.le_of_ble_eq_true rfl); (case cN_avd => k_asm); (case tk_avd => (k_extra "take")); (case ne_avd => repeat' (first | exact Mine.Internal.Outs.nil | refine' Mine.Internal.Outs.hi (by with_reducible assumption) ?_ | refine' Mine.Internal.Outs.lo (by with_reducible assumption) ?_ | refine' Mine.Internal.Outs.hi (by k_extra "slt") ?_)); k_whole; intro x' v' h' tk' ok' hx' htk' F' N'; (try dsimp only at htk'); (try dsimp only [List.cons_append, List.nil_append] at N'); (try k_sweep); (try dsimp only); (try k_fold)))
      k_with "subscriptTail" => (k_here; first
      | ((with_reducible show wpAny _ _ (subscriptTail _ _ (Value.ref 48) (Value.str _ _)) _ _ _); k_dflt (first | (refine' Mine.Internal.item_tok 7 ?F_avd ?X_avd ?he_avd ?hh_avd ?hl_avd ?_; (case hl_avd => kernel_rfl)) | (refine' Mine.Internal.item_tok 1 ?F_avd ?X_avd ?he_avd ?hh_avd ?hl_avd ?_; (case hl_avd => kernel_rfl)) | (refine' Mine.Internal.item_tok 2 ?F_avd ?X_avd ?he_avd ?hh_avd ?hl_avd ?_; (case hl_avd => kernel_rfl)) | (refine' Mine.Internal.item_tok 3 ?F_avd ?X_avd ?he_avd ?hh_avd ?hl_avd ?_; (case hl_avd => kernel_rfl))); (case F_avd => k_asm); (case X_avd => k_asm); (case he_avd => kernel_rfl); (case hh_avd => kernel_rfl); k_whole; intro t9)
      | ((with_reducible show wpAny _ _ (subscriptTail _ _ (Value.ref 46) (Value.int _ _)) _ _ _); k_dflt (refine' Mine.Internal.item_repl ?F_avd ?X_avd ?hk_avd ?hz_avd ?_; (case F_avd => k_asm); (case X_avd => k_asm); (case hk_avd => kernel_rfl); (case hz_avd => with_reducible assumption); k_whole); intro t9))
      k_with "eval Dict" => (k_here; (with_reducible show wpAny _ _ (eval (Expr.Dict (_ :: _) _ _) _) _ _ _); k_dflt (refine' kdn_str ?q_avd ?F_avd ?N_avd ?b_avd ?a_avd ?l_avd ?e_avd ?n_avd ?_; (case q_avd => rfl); (case F_avd => k_asm); (case N_avd => first | k_asm | exact News.nil); (case b_avd => exact Top.nolimit (by k_asm)); (case a_avd => rfl); (case l_avd => rfl); (case e_avd => exact List.cons_ne_nil _ _); (case n_avd => exact Nat.le_of_ble_eq_true rfl)); intro d' h' o' F' N' l1 lo' hd'; (try k_lt l1))
      k_with "callWith" => (k_here; (with_reducible show wpAny _ _ (callWith _ (Value.builtin _) (_ :: _) (backTo _ (starEach [Expr.Dict _ _ _] _)) []) _ _ _); k_dflt (refine callWith_method1 ?_; k_whole))
      k_with "spliced" => (k_here; (with_reducible show wpAny _ _ (spliced (backTo _ (starEach [Expr.Dict _ _ _] _))) _ _ _); k_dflt (refine args_cons ?_; k_whole))
      k_with "all" => first | exact Mine.Internal.Ks.ne_all (by with_reducible assumption) (.inl (by with_reducible assumption)) | exact Mine.Internal.tail_ne (by with_reducible assumption) (fun p9 hp9 => by repeat (first | exact hp9 | exact List.mem_append_left _ hp9 | refine List.mem_cons_of_mem _ ?_)) (by with_reducible assumption) (.inr (by k_extra "slt")) | ((with_reducible apply Mine.Internal.tail_gt); (with_reducible assumption); (first | exact Nat.le_of_lt (by k_extra "slt") | exact Nat.le_refl _); (with_reducible assumption); exact .inr (by k_extra "slt"))
      k_fill
      refine' ctrS_introN (binds := [("self", .ref Z.za)]) (fun h h' T k => T.keeps k) (fun h T => T.nolimit) ?ho_avd ?hcd_avd ?hD_avd ?hb_avd ?hl_avd ?_ ?hc_avd ?c1_avd ?c2_avd ?c3_avd
      case ho_avd => k_is
      case hcd_avd => k_is
      case hD_avd => decide
      case hb_avd => (intro s X; (try (rcases hargs with ⟨rfl, rfl, rfl⟩ | ⟨rfl, rfl⟩)); all_goals (first | exact BindsTo.of_eq rfl | exact binds_K X rfl (by k_is) rfl rfl rfl))
      case hl_avd => exact locs rfl
      case hc_avd => decide
      case c1_avd => exact rfl
      case c2_avd => exact rfl
      case c3_avd => exact rfl
      intro base g env outer L' h₁ hs9 gens9 dr9 t09 os9 tk B' F' XB' TB' D' X' N' T' l1
      intro e9 A9 q9
      (try k_lt l1)
      (try dsimp only)
      first | have S0 := Mine.Internal.Srt.eight ho hk hat | have S0 := Mine.Internal.Srt.grow (Mine.Internal.Srt.six ho) hoq | have S0 := Mine.Internal.Srt.five ho hk | have S0 := Mine.Internal.Srt.six ho | have S0 := Mine.Internal.Srt.two ho | have S0 := Mine.Internal.Srt.two hk | skip
      k_with "call ref" => k_dflt ((with_reducible show wpAny _ _ (call (Value.ref 290) _ _) _ _ _); (have hc38 := Mine.Internal.chr_is (a := 38) (x := Str.ofString "&") (by with_reducible assumption)); refine' Mine.Internal.CtrS.ce (fa := true) (ctr_pe (Z := Z.at B9.ct) ho hk hat rfl hcd ok' (Mine.Internal.rem_len er9 hlen) hq hval Mine.Internal.allow34 (hname _ (hc38 ▸ er9))) ho hk hat ?cB_avd ?cF_avd ?cX_avd ?cT_avd ?cXB_avd ?cTB_avd ?cD_avd ?ca_avd ?cb_avd ?cc_avd ?ce_avd ?cd_avd ?cu_avd ?cN_avd ?tk_avd ?ne_avd ?_; (case cB_avd => k_asm); (case cF_avd => k_asm); (case cX_avd => k_asm); (case cT_avd => k_asm); (case cXB_avd => with_reducible assumption); (case cTB_avd => with_reducible assumption); (case cD_avd => with_reducible assumption); (case ca_avd => exact rfl); (case cb_avd => exact rfl); (case cc_avd => exact rfl); (case ce_avd => exact rfl); (case cd_avd => exact Nat.le_of_ble_eq_true rfl); (case cu_avd => exact Nat.le_of_ble_eq_true rfl); (case cN_avd => k_asm); (case tk_avd => (k_extra "take")); (case ne_avd => exact List.forall_mem_nil _); k_whole; intro g9 y9 fl9 adds9 n9 val9 vt9 h9 tk9 T9 B9' X9 P9 D9 ok9 hrem9 hfr9 hqi9 hval9 htk9 F9 N9; (try dsimp only at htk9); (clear B' X' T' D'); (try dsimp only [Mine.Internal.Lz, List.nil_append] at N9); (try k_sweep); (try dsimp only); (try k_fold))
      k_with "call ref" => k_dflt ((with_reducible show wpAny _ _ (call (Value.ref 156) [Value.ref _, Value.ref _] _) _ _ _); refine' call_until (al := Mine.Internal.stopQ 34) ho ?hoq_avd ok' ?hvs_avd ?hal_avd ?cB_avd ?cF_avd ?cX_avd ?cT_avd ?ca_avd ?cb_avd ?cc_avd ?ce_avd ?cd_avd ?cu_avd ?cN_avd ?tk_avd ?ne_avd ?nq_avd ?_; (case cF_avd => k_asm); (case cB_avd => k_asm); (case cX_avd => k_asm); (case cT_avd => k_asm); (case ca_avd => exact rfl); (case cb_avd => exact rfl); (case cc_avd => exact rfl); (case ce_avd => exact rfl); (case cd_avd => exact Nat.le_of_ble_eq_true rfl); (case cu_avd => exact Nat.le_of_ble_eq_true rfl); (case cN_avd => k_asm); (case tk_avd => (k_extra "take")); (case hvs_avd => repeat' constructor); (case hal_avd => exact Mine.Internal.stop_any34); (case hoq_avd => exact (by k_extra "slt")); (case ne_avd => repeat' (first | exact Mine.Internal.Outs.nil | refine' Mine.Internal.Outs.hi (by with_reducible assumption) ?_ | refine' Mine.Internal.Outs.lo (by with_reducible assumption) ?_ | refine' Mine.Internal.Outs.hi (by k_extra "slt") ?_)); (case nq_avd => (repeat' (first | exact List.forall_mem_nil _ | refine List.forall_mem_cons.mpr ⟨(by k_extra "slt"), ?_⟩))); k_whole; intro x2' pp tpp h' tk' ok2' hrem2' hal2' hst2' htk' F' N'; (try dsimp only at htk'); (try dsimp only [List.cons_append, List.nil_append] at N'); (try k_sweep); (try dsimp only); (try k_fold))
      k_with "compareOp Eq" => k_dflt ((with_reducible show wpAny _ _ (compareOp CmpOp.Eq v' (Value.str _ _)) _ _ _); (rcases hx' with ⟨ev9, er9, ef9⟩ | ⟨c1, t1, ev9, er9, eo9, ec9⟩ <;> subst ev9))
      k_with "inplaceOp Add str str" => k_dflt ((with_reducible show wpAny _ _ (inplaceOp Operator.Add (Value.str _ _) (Value.str _ _)) _ _ _); (first | refine iadd_str ?_ (Mine.Internal.val_nul hval) | refine iadd_str ?_ (Mine.Internal.val_run hval er9 hrem2' hlen)); intro ti9 ki9)
      k_with "binaryOp Add str str" => k_dflt ((with_reducible show wpAny _ _ (binaryOp Operator.Add (Value.str _ _) (Value.str _ _)) _ _ _); (refine KOpn.add (Mine.Internal.run_fits er9 hrem2' hlen) ?_); intro ti9 ki9 hi9)
      k_with "getItem ref int" => k_dflt ((with_reducible show wpAny _ _ (PySem.getItem (Value.ref _) (Value.int _ _)) _ _ _); (refine' wpAny_getItem_list (x := Value.str _ _) (News.isList ?N_avd ?m_avd) ?h0_avd ?h1_avd ?hx_avd ?_; (case N_avd => k_asm); (case m_avd => k_mem); (case h0_avd => decide); (case h1_avd => decide); (case hx_avd => exact rfl); k_whole))
      k_with "subscriptTail" => k_dflt ((try dsimp only); (with_reducible show wpAny _ _ (subscriptTail _ (Expr.UnaryOp _ _ _) (Value.ref _) (Value.int _ _)) _ _ _); (refine' Mine.Internal.item_lastL (News.isList ?N_avd ?m_avd) ?hb_avd ?_; (case N_avd => k_asm); (case m_avd => k_mem); (case hb_avd => rfl); k_whole))
      k_steps
      all_goals (try dsimp only)
      all_goals first | ((with_reducible rename Fr _ _ _ _ => F9); (with_reducible rename News _ _ _ _ => N9); have hR9 := Mine.Internal.stQ_q (q := 34) er9 (Mine.Internal.chr_is (a := 34) (x := Str.ofString "\"") (by with_reducible assumption)); (try simp only [List.push_toArray] at N9); refine' Mine.Internal.go_end (Z := Z.at B9.ct) (fl := []) (adds := []) ho hk hat hR9 (by first | with_reducible assumption | exact KtsTurn.refl) F9 N9 ?avTavd1_avd ?avqavd1_avd ?avfavd1_avd ?avgavd1_avd ok' rfl ?avkavd1_avd ?avvavd1_avd; (case avTavd1_avd => (k_extra "take")); (case avqavd1_avd => exact (List.append_nil _).symm); (case avfavd1_avd => exact (fun _ h => nomatch h)); (case avgavd1_avd => exact (fun _ h => nomatch h)); (case avkavd1_avd => exact .nil); (case avvavd1_avd => exact (List.append_nil _).symm)) | ((with_reducible rename Fr _ _ _ _ => F9); (with_reducible rename News _ _ _ _ => N9); have hR9 := Mine.Internal.stQ_amp (q := 34) er9 (Mine.Internal.chr_no (a := 34) (x := Str.ofString "\"") (by with_reducible assumption)) (Mine.Internal.chr_is (a := 38) (x := Str.ofString "&") (by with_reducible assumption)); (try simp only [List.push_toArray] at N9); refine' Mine.Internal.go_end (Z := Z.at B9.ct) (fl := fl9) (adds := adds9) ho hk hat hR9 (by first | with_reducible assumption | exact KtsTurn.refl) F9 N9 ?avTavd2_avd ?avqavd2_avd ?avfavd2_avd ?avgavd2_avd ok9 hrem9 ?avkavd2_avd ?avvavd2_avd; (case avTavd2_avd => (k_extra "take")); (case avqavd2_avd => exact rfl); (case avfavd2_avd => exact (fun p9 hp9 => by (repeat (first | exact List.mem_append_left _ hp9 | refine List.mem_cons_of_mem _ ?_)))); (case avgavd2_avd => exact (fun p9 hp9 => hfr9 p9 hp9 (B9.dl, _) (by k_mem))); (case avkavd2_avd => exact hqi9); (case avvavd2_avd => exact hval9)) | ((with_reducible rename Fr _ _ _ _ => F9); (with_reducible rename News _ _ _ _ => N9); have hR9 := Mine.Internal.stQ_nul (q := 34) er9 (Mine.Internal.chr_no (a := 34) (x := Str.ofString "\"") (by with_reducible assumption)) (Mine.Internal.chr_no (a := 38) (x := Str.ofString "&") (by with_reducible assumption)) (Mine.Internal.chr_is (a := 0) (x := Str.ofString "\x00") (by with_reducible assumption)); (try simp only [List.push_toArray] at N9); refine' Mine.Internal.go_end1 (Z := Z.at B9.ct) ho hk hat hR9 (by first | with_reducible assumption | exact KtsTurn.refl) F9 N9 ?avTavd3_avd ?avmavd3_avd ?avgavd3_avd ?avlavd3_avd ?avdavd3_avd ok' rfl ?avvavd3_avd; (case avTavd3_avd => (k_extra "take")); (case avmavd3_avd => k_mem); (case avgavd3_avd => exact (by k_extra "slt")); (case avlavd3_avd => exact Mine.Internal.not_mods (Nat.lt_trans htq9 (by k_extra "slt"))); (case avdavd3_avd => exact ⟨_, _, by assumption⟩); (case avvavd3_avd => exact Mine.Internal.toList_nul _)) | ((with_reducible rename Fr _ _ _ _ => F9); (with_reducible rename News _ _ _ _ => N9); have hR9 := Mine.Internal.stQ_nil34 er9; (try simp only [List.push_toArray] at N9); refine' Mine.Internal.go_end1 (Z := Z.at B9.ct) ho hk hat hR9 (by first | with_reducible assumption | exact KtsTurn.refl) F9 N9 ?avTavd4_avd ?avmavd4_avd ?avgavd4_avd ?avlavd4_avd ?avdavd4_avd ok' ef9 ?avvavd4_avd; (case avTavd4_avd => (k_extra "take")); (case avmavd4_avd => k_mem); (case avgavd4_avd => exact (by k_extra "slt")); (case avlavd4_avd => exact Mine.Internal.not_mods (Nat.lt_trans htq9 (by k_extra "slt"))); (case avdavd4_avd => exact ⟨_, _, by assumption⟩); (case avvavd4_avd => exact (List.append_nil _).symm)) | ((with_reducible rename Fr _ _ _ _ => F9); (with_reducible rename News _ _ _ _ => N9); have hR9 := Mine.Internal.stQ_run (q := 34) er9 (Mine.Internal.chr_no (a := 34) (x := Str.ofString "\"") (by with_reducible assumption)) (Mine.Internal.chr_no (a := 38) (x := Str.ofString "&") (by with_reducible assumption)) (Mine.Internal.chr_no (a := 0) (x := Str.ofString "\x00") (by with_reducible assumption)) hrem2' hal2' hst2'; (try simp only [List.push_toArray] at N9); refine' Mine.Internal.go_end (Z := Z.at B9.ct) (fl := []) (adds := []) ho hk hat hR9 (by first | with_reducible assumption | exact KtsTurn.refl) F9 N9 ?avTavd5_avd ?avqavd5_avd ?avfavd5_avd ?avgavd5_avd ok2' rfl ?avkavd5_avd ?avvavd5_avd; (case avTavd5_avd => (k_extra "take")); (case avqavd5_avd => exact (List.append_nil _).symm); (case avfavd5_avd => exact (fun _ h => nomatch h)); (case avgavd5_avd => exact (fun _ h => nomatch h)); (case avkavd5_avd => exact .nil); (case avvavd5_avd => exact Mine.Internal.toList_run _ _ _)) | fail
  have ctr_avs {w : World} {loose : List Str} {mean : ExcName → Option Value} {mg mb : Str → Option Value} {K : Ks} {Z : Kz} {m7 : Tok} {tq : Addr} {B9 : At} {qs : List Value} {qn : Nat} {x : St} {val : Str} {vt : Tok} (ho : K.ord) (hk : @LT.lt Nat _ Z.zd Z.za ∧ @LT.lt Nat _ Z.za K.sd ∧ @LT.lt Nat _ K.er tq) (hat : B9.ord tq) (hcd : B9.co.IsDictOf (PySem.strKind PySem.Challenge.rw_te0076_05.row.prog w) [(Str.ofString "data", .ref B9.dl)]) (ok : x.ok K.src) (hlen : (x.rem K.src).length ≤ 640) (hq : qs.length ≤ 100000) (hval : val.length ≤ 100000)
      (hname : ∀ r, x.rem K.src = 38 :: r → ∀ c t, r = c :: t → stopC (some 39) r = false → c ≠ 35 → hasPre ⟨#[c]⟩ = false) :
      CtrS PySem.Challenge.rw_te0076_05.row.prog w (main.heap_1_39 w.params) (Top main.view_1_40 loose mean mg mb) 430 340 (.ref 570) ⟨[.ref Z.za], []⟩ (Mine.Internal.Lz w K (Z.at B9.ct) m7 tq B9 qs qn val vt (K.led w x)) (StP PySem.Challenge.rw_te0076_05.row.prog w K (Z.at B9.ct) m7 tq B9 qs val (stQ 39 (x.rem K.src))) := by
    as_aux_lemma =>
      clear ctr_is_invalid ctr_charErrors ctr_read ctr_readE ctr_position0 ctr_unget ctr_ungetN ctr_ungetS ctr_readN ctr_readC ctr_readA ctr_char ctr_until ctr_tinit call_unget call_ungetN call_tok ctr_cne call_cne ctr_lfault ctr_lsignW ctr_bisect ctr_haskeys ctr_lfig ctr_lref ctr_lmended call_lref ctr_ceT ctr_avd
      have htq9 := Mine.Internal.one_lt_tq5 ho hk
      have hk1 := hk.2.2
      have hk2 := hk.2.1
      have hk3 := Nat.lt_trans hk.1 hk.2.1
      unfold Mine.Internal.Lz
      k_with_none
      k_with "pos" => (repeat' (first | exact Mine.Internal.PosL.nil | (apply Mine.Internal.PosL.cons 0; exact rfl) | (apply Mine.Internal.PosL.cons 1; exact rfl) | (apply Mine.Internal.PosL.cons 2; exact rfl) | (apply Mine.Internal.PosL.cons 3; exact rfl) | (apply Mine.Internal.PosL.cons 4; exact rfl) | (apply Mine.Internal.PosL.cons 5; exact rfl) | (apply Mine.Internal.PosL.cons 6; exact rfl) | (apply Mine.Internal.PosL.cons 7; exact rfl) | (apply Mine.Internal.PosL.cons 8; exact rfl) | (apply Mine.Internal.PosL.cons 9; exact rfl) | (apply Mine.Internal.PosL.cons 10; exact rfl) | (apply Mine.Internal.PosL.cons 11; exact rfl) | (apply Mine.Internal.PosL.cons 12; exact rfl) | (apply Mine.Internal.PosL.cons 13; exact rfl) | (apply Mine.Internal.PosL.cons 14; exact rfl) | (apply Mine.Internal.PosL.cons 15; exact rfl) | (apply Mine.Internal.PosL.cons 16; exact rfl) | (apply Mine.Internal.PosL.cons 17; exact rfl) | (apply Mine.Internal.PosL.cons 18; exact rfl) | (apply Mine.Internal.PosL.cons 19; exact rfl) | (apply Mine.Internal.PosL.cons 20; exact rfl) | (apply Mine.Internal.PosL.cons 21; exact rfl) | (apply Mine.Internal.PosL.cons 22; exact rfl) | (apply Mine.Internal.PosL.cons 23; exact rfl)))
      k_with "slt" => exact Mine.Internal.Srt.lt (by with_reducible assumption) (by ((repeat (first | (with_reducible_and_instances refine Mine.Internal.Aft.here ?_; (repeat (first | with_reducible_and_instances exact List.Mem.head _ | with_reducible_and_instances refine List.Mem.tail _ ?_)); done) | with_reducible refine Mine.Internal.Aft.there ?_)); all_goals fail))
      k_with "take" => k_dflt ((try dsimp only); repeat' (first | exact Mine.Internal.Take.nil | exact Mine.Internal.Del.head | refine' Mine.Internal.Take.blk ?_ | exact Mine.Internal.Tl.nil | exact Mine.Internal.Tl.app | refine' Mine.Internal.Take.cons ?_ ?_ | refine' Mine.Internal.Del.tail ?_ | refine' Mine.Internal.Tl.cons ?_))
      k_with "upd" => (exact Mine.Internal.Srt.updP (by with_reducible assumption) (by repeat' (first | exact Mine.Internal.UpdI.head | refine' Mine.Internal.UpdI.tail ?_)) (by k_dflt (k_extra "pos")) (by exact rfl))
      k_with "all" => exact Mine.Internal.Ks.ne_all (by with_reducible assumption) (by first | exact .inr (by k_extra "slt") | exact .inl (by k_extra "slt"))
      k_with "ne" => (refine neN ?_; first | exact Mine.Internal.Srt.ne (by with_reducible assumption) (by with_reducible solve_by_elim (maxDepth := 40) only [Mine.Internal.Apart.l, Mine.Internal.Apart.r, Mine.Internal.Apart.t, List.Mem.head, List.Mem.tail]) | ((try dsimp only); omega))
      k_with "lt" => (intro h9l; first | ((with_reducible rename Mine.Internal.Srt _ => S8); (first | (have S9 := Mine.Internal.Srt.grow S8 (h9l (_, _) (by k_dflt k_mem)); clear S8) | (have S9 := Mine.Internal.Srt.grow S8.tl (h9l (_, _) (by k_dflt k_mem)); clear S8) | (have S9 := Mine.Internal.Srt.grow S8.tl.tl (h9l (_, _) (by k_dflt k_mem)); clear S8)); clear h9l) | (replace h9l := allLt_of h9l; simp only [AllLt, and_true] at h9l))
      k_with "subscriptTail" => (k_here; (with_reducible show wpAny _ _ (subscriptTail _ _ (Value.str _ _) (Value.int _ _)) _ _ _); (refine Mine.Internal.sub_chr (by omega) (by omega) (by assumption) ?_))
      k_with "getMethod ref" => (k_here; k_dflt (first | (refine' method_inst ?k1_avs ?k2_avs ?k3_avs ?k4_avs ?k5_avs ?k6_avs ?k7_avs ?_; (case k1_avs => k_asm); (case k2_avs => k_asm); (case k3_avs => k_inst); (case k4_avs => k_is); (case k5_avs => k_is); (case k6_avs => k_is); (case k7_avs => k_get); k_whole) | (refine' kmu_own ?k1_avs ?k2_avs ?k3_avs ?k4_avs ?k5_avs ?_; (case k1_avs => k_asm); (case k2_avs => k_asm); (case k3_avs => k_inst); (case k4_avs => k_is); (case k5_avs => k_is); k_whole)))
      k_with "getMethod ref" => (k_here; (with_reducible show wpAny _ _ (getMethod (Value.ref _) (PySem.Str.ofString "append") _) _ _ _); k_dflt (refine' kl_method ?N_avs ?m_avs slot_list_append type_list_append ?_; (case N_avs => k_asm); (case m_avs => k_mem); k_whole))
      k_with "execs cons" => (k_here; (with_reducible show wpAny _ _ _ _ _ (Shared.mk _ _ _ (_ + _) _)); (refine Mine.Internal.gentoks ?_); intro tkg9 htk9; (try dsimp only at htk9))
      k_with "size" => k_dflt (first | exact Nat.le_of_ble_eq_true rfl | ((with_reducible show Array.size (List.toArray _) ≤ PySem.sizeLine); rw [List.size_toArray, PySem.sizeLine_eq]; refine Nat.le_trans (m := 100002) ?_ (Nat.le_of_ble_eq_true rfl); first | with_reducible assumption | exact Nat.le_trans (m := 100000) (by with_reducible assumption) (Nat.le_of_ble_eq_true rfl)))
      k_with "subscriptTail Name Constant ref int" => k_extra "subscriptTail"
      k_with "tok" => (first | exact Nat.le_add_left 1 _ | with_reducible assumption | exact Nat.le_trans (Nat.le_add_left 1 _) (by with_reducible assumption))
      k_with "next" => (first | ((with_reducible refine Mine.Internal.nextS (g := gens9) (d := dr9) (o := os9) ?_); intro qk9 tkg9) | ((with_reducible refine Mine.Internal.lastS (g := gens9) (d := dr9) (o := os9) ?_); intro tkg9) | (with_reducible refine Mine.Internal.nilS ?_) | (with_reducible refine Mine.Internal.fin9 ?_) | (with_reducible refine Mine.Internal.fin0 ?_) | (with_reducible refine Mine.Internal.finS9 ?_) | (with_reducible refine Mine.Internal.finS0 ?_) | ((with_reducible refine Mine.Internal.nextU (g := gens9) (d := dr9) (o := os9) ?_ ?_); (k_extra "tok"); intro qk9 tkg9) | ((with_reducible refine Mine.Internal.lastU (g := gens9) (d := dr9) (o := os9) ?_ ?_); (k_extra "tok"); intro tkg9) | ((with_reducible refine Mine.Internal.nextZ (g := gens9) (d := dr9) (o := os9) ?_); intro qk9 tkg9) | ((with_reducible refine Mine.Internal.lastZ (g := gens9) (d := dr9) (o := os9) ?_); intro tkg9))
      k_with "execs cons" => k_extra "next"
      k_with "eval Constant int" => (with_reducible refine Mine.Internal.c_int (g := gens9) (d := dr9) (o := os9) ?_)
      k_with "eval Constant str" => (with_reducible refine Mine.Internal.c_str (g := gens9) (d := dr9) (o := os9) ?_)
      k_with "eval Attribute Name" => (k_here; k_dflt (refine' Mine.Internal.at_name (gs := gens9) (d := dr9) (o := os9) ?nF_avs ?nX_avs ?nN_avs ?nv_avs ?n1_avs ?n2_avs ?ng_avs ?nh_avs ?na_avs ?nn_avs ?nl_avs ?nd_avs ?_; (case nF_avs => k_asm); (case nX_avs => k_asm); (case nN_avs => k_asm); (case nv_avs => exact rfl); (case n1_avs => k_mem); (case n2_avs => k_mem); (case ng_avs => k_is); (case nh_avs => k_is); (case na_avs => k_is); (case nn_avs => k_is); (case nl_avs => k_get); (case nd_avs => k_handed); k_whole))
      k_with "setAttr ref" => (first | (k_here; ktx_write) | (k_here; k_dflt (refine' Mine.Internal.st_attr (gs := gens9) (d := dr9) (o := os9) ?sF_avs ?sX_avs ?sN_avs ?s1_avs ?s2_avs ?ss_avs ?sp_avs ?st_avs ?sh_avs ?sl_avs ?se_avs ?sU_avs ?sz_avs ?_; (case sF_avs => k_asm); (case sX_avs => k_asm); (case sN_avs => k_asm); (case s1_avs => k_mem); (case s2_avs => k_mem); (case ss_avs => k_is); (case sp_avs => k_is); (case st_avs => k_is); (case sh_avs => k_is); (case sl_avs => k_get); (case se_avs => k_put); (case sU_avs => k_upd); (case sz_avs => exact Nat.le_of_ble_eq_true rfl); k_whole; intro h' F' N'; (try k_sweep))))
      k_with "storeName" => (first | (k_here; ktx_write) | (k_here; k_dflt (refine' Mine.Internal.st_name (gs := gens9) (d := dr9) (o := os9) ?tF_avs ?tN_avs ?_; (case tF_avs => k_asm); (case tN_avs => k_asm); k_whole; intro m9 h' F' N'; (try k_sweep))))
      k_with "call ref" => refine Mine.Internal.hold ?_
      k_with "lt" => (intro h9l; ((with_reducible rename Mine.Internal.Srt _ => S8); (have S9 := Mine.Internal.Srt.grow S8 (h9l (_, _) (by k_dflt k_mem))); clear S8))
      k_with "ne" => (refine neN ?_; first | exact Mine.Internal.ne_by (by with_reducible assumption) (by k_dflt k_mem) | exact Mine.Internal.ne_by' (by with_reducible assumption) (by k_dflt k_mem) | exact Mine.Internal.Srt.ne (by with_reducible assumption) (by with_reducible solve_by_elim (maxDepth := 40) only [Mine.Internal.Apart.l, Mine.Internal.Apart.r, Mine.Internal.Apart.t, List.Mem.head, List.Mem.tail]))
      k_with "getMethod ref" => (k_here; (with_reducible show wpAny _ _ (getMethod (Value.ref (Mine.Internal.Ks.st _)) _ _) _ _ _); k_dflt (refine' Mine.Internal.meth_blk ?F_avs ?X_avs ?N_avs ?tk_avs ?hg_avs ?hf_avs ?ht_avs ?hl_avs ?_; (case F_avs => k_asm); (case X_avs => k_asm); (case N_avs => k_asm); (case tk_avs => (k_extra "take")); (case hg_avs => k_is); (case hf_avs => k_is); (case ht_avs => k_is); (case hl_avs => exact rfl); k_whole))
      k_with "call ref" => (k_here; (with_reducible show wpAny _ _ (call (Value.ref 133) _ _) _ _ _); k_dflt (refine' call_char ?p1_avs ?p2_avs ?cB_avs ?cF_avs ?cX_avs ?cT_avs ?ca_avs ?cb_avs ?cc_avs ?ce_avs ?cd_avs ?cu_avs ?cN_avs ?tk_avs ?ne_avs ?_; (case p1_avs => with_reducible assumption); (case p2_avs => with_reducible assumption); (case cF_avs => k_asm); (case cB_avs => k_asm); (case cX_avs => k_asm); (case cT_avs => k_asm); (case ca_avs => exact rfl); (case cb_avs => exact rfl); (case cc_avs => exact rfl); (case ce_avs => exact rfl); (case cd_avs => exact Nat.le_of_ble_eq_true rfl); (case cu_avs => exact Nat.le_of_ble_eq_true rfl); (case cN_avs => k_asm); (case tk_avs => (k_extra "take")); (case ne_avs => repeat' (first | exact Mine.Internal.Outs.nil | refine' Mine.Internal.Outs.hi (by with_reducible assumption) ?_ | refine' Mine.Internal.Outs.lo (by with_reducible assumption) ?_ | refine' Mine.Internal.Outs.hi (by k_extra "slt") ?_)); k_whole; intro x' v' h' tk' ok' hx' htk' F' N'; (try dsimp only at htk'); (try dsimp only [List.cons_append, List.nil_append] at N'); (try k_sweep); (try dsimp only); (try k_fold)))
      k_with "subscriptTail" => (k_here; first
      | ((with_reducible show wpAny _ _ (subscriptTail _ _ (Value.ref 48) (Value.str _ _)) _ _ _); k_dflt (first | (refine' Mine.Internal.item_tok 7 ?F_avs ?X_avs ?he_avs ?hh_avs ?hl_avs ?_; (case hl_avs => kernel_rfl)) | (refine' Mine.Internal.item_tok 1 ?F_avs ?X_avs ?he_avs ?hh_avs ?hl_avs ?_; (case hl_avs => kernel_rfl)) | (refine' Mine.Internal.item_tok 2 ?F_avs ?X_avs ?he_avs ?hh_avs ?hl_avs ?_; (case hl_avs => kernel_rfl)) | (refine' Mine.Internal.item_tok 3 ?F_avs ?X_avs ?he_avs ?hh_avs ?hl_avs ?_; (case hl_avs => kernel_rfl))); (case F_avs => k_asm); (case X_avs => k_asm); (case he_avs => kernel_rfl); (case hh_avs => kernel_rfl); k_whole; intro t9)
      | ((with_reducible show wpAny _ _ (subscriptTail _ _ (Value.ref 46) (Value.int _ _)) _ _ _); k_dflt (refine' Mine.Internal.item_repl ?F_avs ?X_avs ?hk_avs ?hz_avs ?_; (case F_avs => k_asm); (case X_avs => k_asm); (case hk_avs => kernel_rfl); (case hz_avs => with_reducible assumption); k_whole); intro t9))
      k_with "eval Dict" => (k_here; (with_reducible show wpAny _ _ (eval (Expr.Dict (_ :: _) _ _) _) _ _ _); k_dflt (refine' kdn_str ?q_avs ?F_avs ?N_avs ?b_avs ?a_avs ?l_avs ?e_avs ?n_avs ?_; (case q_avs => rfl); (case F_avs => k_asm); (case N_avs => first | k_asm | exact News.nil); (case b_avs => exact Top.nolimit (by k_asm)); (case a_avs => rfl); (case l_avs => rfl); (case e_avs => exact List.cons_ne_nil _ _); (case n_avs => exact Nat.le_of_ble_eq_true rfl)); intro d' h' o' F' N' l1 lo' hd'; (try k_lt l1))
      k_with "callWith" => (k_here; (with_reducible show wpAny _ _ (callWith _ (Value.builtin _) (_ :: _) (backTo _ (starEach [Expr.Dict _ _ _] _)) []) _ _ _); k_dflt (refine callWith_method1 ?_; k_whole))
      k_with "spliced" => (k_here; (with_reducible show wpAny _ _ (spliced (backTo _ (starEach [Expr.Dict _ _ _] _))) _ _ _); k_dflt (refine args_cons ?_; k_whole))
      k_with "all" => first | exact Mine.Internal.Ks.ne_all (by with_reducible assumption) (.inl (by with_reducible assumption)) | exact Mine.Internal.tail_ne (by with_reducible assumption) (fun p9 hp9 => by repeat (first | exact hp9 | exact List.mem_append_left _ hp9 | refine List.mem_cons_of_mem _ ?_)) (by with_reducible assumption) (.inr (by k_extra "slt")) | ((with_reducible apply Mine.Internal.tail_gt); (with_reducible assumption); (first | exact Nat.le_of_lt (by k_extra "slt") | exact Nat.le_refl _); (with_reducible assumption); exact .inr (by k_extra "slt"))
      k_fill
      refine' ctrS_introN (binds := [("self", .ref Z.za)]) (fun h h' T k => T.keeps k) (fun h T => T.nolimit) ?ho_avs ?hcd_avs ?hD_avs ?hb_avs ?hl_avs ?_ ?hc_avs ?c1_avs ?c2_avs ?c3_avs
      case ho_avs => k_is
      case hcd_avs => k_is
      case hD_avs => decide
      case hb_avs => (intro s X; (try (rcases hargs with ⟨rfl, rfl, rfl⟩ | ⟨rfl, rfl⟩)); all_goals (first | exact BindsTo.of_eq rfl | exact binds_K X rfl (by k_is) rfl rfl rfl))
      case hl_avs => exact locs rfl
      case hc_avs => decide
      case c1_avs => exact rfl
      case c2_avs => exact rfl
      case c3_avs => exact rfl
      intro base g env outer L' h₁ hs9 gens9 dr9 t09 os9 tk B' F' XB' TB' D' X' N' T' l1
      intro e9 A9 q9
      (try k_lt l1)
      (try dsimp only)
      first | have S0 := Mine.Internal.Srt.eight ho hk hat | have S0 := Mine.Internal.Srt.grow (Mine.Internal.Srt.six ho) hoq | have S0 := Mine.Internal.Srt.five ho hk | have S0 := Mine.Internal.Srt.six ho | have S0 := Mine.Internal.Srt.two ho | have S0 := Mine.Internal.Srt.two hk | skip
      k_with "call ref" => k_dflt ((with_reducible show wpAny _ _ (call (Value.ref 290) _ _) _ _ _); (have hc38 := Mine.Internal.chr_is (a := 38) (x := Str.ofString "&") (by with_reducible assumption)); refine' Mine.Internal.CtrS.ce (fa := true) (ctr_pe (Z := Z.at B9.ct) ho hk hat rfl hcd ok' (Mine.Internal.rem_len er9 hlen) hq hval Mine.Internal.allow39 (hname _ (hc38 ▸ er9))) ho hk hat ?cB_avs ?cF_avs ?cX_avs ?cT_avs ?cXB_avs ?cTB_avs ?cD_avs ?ca_avs ?cb_avs ?cc_avs ?ce_avs ?cd_avs ?cu_avs ?cN_avs ?tk_avs ?ne_avs ?_; (case cB_avs => k_asm); (case cF_avs => k_asm); (case cX_avs => k_asm); (case cT_avs => k_asm); (case cXB_avs => with_reducible assumption); (case cTB_avs => with_reducible assumption); (case cD_avs => with_reducible assumption); (case ca_avs => exact rfl); (case cb_avs => exact rfl); (case cc_avs => exact rfl); (case ce_avs => exact rfl); (case cd_avs => exact Nat.le_of_ble_eq_true rfl); (case cu_avs => exact Nat.le_of_ble_eq_true rfl); (case cN_avs => k_asm); (case tk_avs => (k_extra "take")); (case ne_avs => exact List.forall_mem_nil _); k_whole; intro g9 y9 fl9 adds9 n9 val9 vt9 h9 tk9 T9 B9' X9 P9 D9 ok9 hrem9 hfr9 hqi9 hval9 htk9 F9 N9; (try dsimp only at htk9); (clear B' X' T' D'); (try dsimp only [Mine.Internal.Lz, List.nil_append] at N9); (try k_sweep); (try dsimp only); (try k_fold))
      k_with "call ref" => k_dflt ((with_reducible show wpAny _ _ (call (Value.ref 156) [Value.ref _, Value.ref _] _) _ _ _); refine' call_until (al := Mine.Internal.stopQ 39) ho ?hoq_avs ok' ?hvs_avs ?hal_avs ?cB_avs ?cF_avs ?cX_avs ?cT_avs ?ca_avs ?cb_avs ?cc_avs ?ce_avs ?cd_avs ?cu_avs ?cN_avs ?tk_avs ?ne_avs ?nq_avs ?_; (case cF_avs => k_asm); (case cB_avs => k_asm); (case cX_avs => k_asm); (case cT_avs => k_asm); (case ca_avs => exact rfl); (case cb_avs => exact rfl); (case cc_avs => exact rfl); (case ce_avs => exact rfl); (case cd_avs => exact Nat.le_of_ble_eq_true rfl); (case cu_avs => exact Nat.le_of_ble_eq_true rfl); (case cN_avs => k_asm); (case tk_avs => (k_extra "take")); (case hvs_avs => repeat' constructor); (case hal_avs => exact Mine.Internal.stop_any39); (case hoq_avs => exact (by k_extra "slt")); (case ne_avs => repeat' (first | exact Mine.Internal.Outs.nil | refine' Mine.Internal.Outs.hi (by with_reducible assumption) ?_ | refine' Mine.Internal.Outs.lo (by with_reducible assumption) ?_ | refine' Mine.Internal.Outs.hi (by k_extra "slt") ?_)); (case nq_avs => (repeat' (first | exact List.forall_mem_nil _ | refine List.forall_mem_cons.mpr ⟨(by k_extra "slt"), ?_⟩))); k_whole; intro x2' pp tpp h' tk' ok2' hrem2' hal2' hst2' htk' F' N'; (try dsimp only at htk'); (try dsimp only [List.cons_append, List.nil_append] at N'); (try k_sweep); (try dsimp only); (try k_fold))
      k_with "compareOp Eq" => k_dflt ((with_reducible show wpAny _ _ (compareOp CmpOp.Eq v' (Value.str _ _)) _ _ _); (rcases hx' with ⟨ev9, er9, ef9⟩ | ⟨c1, t1, ev9, er9, eo9, ec9⟩ <;> subst ev9))
      k_with "inplaceOp Add str str" => k_dflt ((with_reducible show wpAny _ _ (inplaceOp Operator.Add (Value.str _ _) (Value.str _ _)) _ _ _); (first | refine iadd_str ?_ (Mine.Internal.val_nul hval) | refine iadd_str ?_ (Mine.Internal.val_run hval er9 hrem2' hlen)); intro ti9 ki9)
      k_with "binaryOp Add str str" => k_dflt ((with_reducible show wpAny _ _ (binaryOp Operator.Add (Value.str _ _) (Value.str _ _)) _ _ _); (refine KOpn.add (Mine.Internal.run_fits er9 hrem2' hlen) ?_); intro ti9 ki9 hi9)
      k_with "getItem ref int" => k_dflt ((with_reducible show wpAny _ _ (PySem.getItem (Value.ref _) (Value.int _ _)) _ _ _); (refine' wpAny_getItem_list (x := Value.str _ _) (News.isList ?N_avs ?m_avs) ?h0_avs ?h1_avs ?hx_avs ?_; (case N_avs => k_asm); (case m_avs => k_mem); (case h0_avs => decide); (case h1_avs => decide); (case hx_avs => exact rfl); k_whole))
      k_with "subscriptTail" => k_dflt ((try dsimp only); (with_reducible show wpAny _ _ (subscriptTail _ (Expr.UnaryOp _ _ _) (Value.ref _) (Value.int _ _)) _ _ _); (refine' Mine.Internal.item_lastL (News.isList ?N_avs ?m_avs) ?hb_avs ?_; (case N_avs => k_asm); (case m_avs => k_mem); (case hb_avs => rfl); k_whole))
      k_steps
      all_goals (try dsimp only)
      all_goals first | ((with_reducible rename Fr _ _ _ _ => F9); (with_reducible rename News _ _ _ _ => N9); have hR9 := Mine.Internal.stQ_q (q := 39) er9 (Mine.Internal.chr_is (a := 39) (x := Str.ofString "'") (by with_reducible assumption)); (try simp only [List.push_toArray] at N9); refine' Mine.Internal.go_end (Z := Z.at B9.ct) (fl := []) (adds := []) ho hk hat hR9 (by first | with_reducible assumption | exact KtsTurn.refl) F9 N9 ?avTavs1_avs ?avqavs1_avs ?avfavs1_avs ?avgavs1_avs ok' rfl ?avkavs1_avs ?avvavs1_avs; (case avTavs1_avs => (k_extra "take")); (case avqavs1_avs => exact (List.append_nil _).symm); (case avfavs1_avs => exact (fun _ h => nomatch h)); (case avgavs1_avs => exact (fun _ h => nomatch h)); (case avkavs1_avs => exact .nil); (case avvavs1_avs => exact (List.append_nil _).symm)) | ((with_reducible rename Fr _ _ _ _ => F9); (with_reducible rename News _ _ _ _ => N9); have hR9 := Mine.Internal.stQ_amp (q := 39) er9 (Mine.Internal.chr_no (a := 39) (x := Str.ofString "'") (by with_reducible assumption)) (Mine.Internal.chr_is (a := 38) (x := Str.ofString "&") (by with_reducible assumption)); (try simp only [List.push_toArray] at N9); refine' Mine.Internal.go_end (Z := Z.at B9.ct) (fl := fl9) (adds := adds9) ho hk hat hR9 (by first | with_reducible assumption | exact KtsTurn.refl) F9 N9 ?avTavs2_avs ?avqavs2_avs ?avfavs2_avs ?avgavs2_avs ok9 hrem9 ?avkavs2_avs ?avvavs2_avs; (case avTavs2_avs => (k_extra "take")); (case avqavs2_avs => exact rfl); (case avfavs2_avs => exact (fun p9 hp9 => by (repeat (first | exact List.mem_append_left _ hp9 | refine List.mem_cons_of_mem _ ?_)))); (case avgavs2_avs => exact (fun p9 hp9 => hfr9 p9 hp9 (B9.dl, _) (by k_mem))); (case avkavs2_avs => exact hqi9); (case avvavs2_avs => exact hval9)) | ((with_reducible rename Fr _ _ _ _ => F9); (with_reducible rename News _ _ _ _ => N9); have hR9 := Mine.Internal.stQ_nul (q := 39) er9 (Mine.Internal.chr_no (a := 39) (x := Str.ofString "'") (by with_reducible assumption)) (Mine.Internal.chr_no (a := 38) (x := Str.ofString "&") (by with_reducible assumption)) (Mine.Internal.chr_is (a := 0) (x := Str.ofString "\x00") (by with_reducible assumption)); (try simp only [List.push_toArray] at N9); refine' Mine.Internal.go_end1 (Z := Z.at B9.ct) ho hk hat hR9 (by first | with_reducible assumption | exact KtsTurn.refl) F9 N9 ?avTavs3_avs ?avmavs3_avs ?avgavs3_avs ?avlavs3_avs ?avdavs3_avs ok' rfl ?avvavs3_avs; (case avTavs3_avs => (k_extra "take")); (case avmavs3_avs => k_mem); (case avgavs3_avs => exact (by k_extra "slt")); (case avlavs3_avs => exact Mine.Internal.not_mods (Nat.lt_trans htq9 (by k_extra "slt"))); (case avdavs3_avs => exact ⟨_, _, by assumption⟩); (case avvavs3_avs => exact Mine.Internal.toList_nul _)) | ((with_reducible rename Fr _ _ _ _ => F9); (with_reducible rename News _ _ _ _ => N9); have hR9 := Mine.Internal.stQ_nil39 er9; (try simp only [List.push_toArray] at N9); refine' Mine.Internal.go_end1 (Z := Z.at B9.ct) ho hk hat hR9 (by first | with_reducible assumption | exact KtsTurn.refl) F9 N9 ?avTavs4_avs ?avmavs4_avs ?avgavs4_avs ?avlavs4_avs ?avdavs4_avs ok' ef9 ?avvavs4_avs; (case avTavs4_avs => (k_extra "take")); (case avmavs4_avs => k_mem); (case avgavs4_avs => exact (by k_extra "slt")); (case avlavs4_avs => exact Mine.Internal.not_mods (Nat.lt_trans htq9 (by k_extra "slt"))); (case avdavs4_avs => exact ⟨_, _, by assumption⟩); (case avvavs4_avs => exact (List.append_nil _).symm)) | ((with_reducible rename Fr _ _ _ _ => F9); (with_reducible rename News _ _ _ _ => N9); have hR9 := Mine.Internal.stQ_run (q := 39) er9 (Mine.Internal.chr_no (a := 39) (x := Str.ofString "'") (by with_reducible assumption)) (Mine.Internal.chr_no (a := 38) (x := Str.ofString "&") (by with_reducible assumption)) (Mine.Internal.chr_no (a := 0) (x := Str.ofString "\x00") (by with_reducible assumption)) hrem2' hal2' hst2'; (try simp only [List.push_toArray] at N9); refine' Mine.Internal.go_end (Z := Z.at B9.ct) (fl := []) (adds := []) ho hk hat hR9 (by first | with_reducible assumption | exact KtsTurn.refl) F9 N9 ?avTavs5_avs ?avqavs5_avs ?avfavs5_avs ?avgavs5_avs ok2' rfl ?avkavs5_avs ?avvavs5_avs; (case avTavs5_avs => (k_extra "take")); (case avqavs5_avs => exact (List.append_nil _).symm); (case avfavs5_avs => exact (fun _ h => nomatch h)); (case avgavs5_avs => exact (fun _ h => nomatch h)); (case avkavs5_avs => exact .nil); (case avvavs5_avs => exact Mine.Internal.toList_run _ _ _)) | fail
  have call_lfault {w : World} {loose : List Str} {mean : ExcName → Option Value} {mg mb : Str → Option Value} {n : Str} {tn : Tok} {A A₀ : Around} {base h₀ : Heap} {env : Env} {outer : List Env} {L : Addr} {m : Str → Option Value} {s : Shared} {Q E : Value → Shared → Prop} {N : Led} (B : Below A₀ base outer h₀) (F : Fr h₀ L s.heap m) (X : (main.heap_1_39 w.params).In h₀) (T : (Top main.view_1_40 loose mean mg mb) h₀) (hA : A.frames = some (env :: outer)) (hf : env.frame = some L) (hke : env.scope.kind = .function) (hh : A.handled = none) (hdd : A.depth ≤ 460) (hu : A.units ≤ 600) (Nw : News h₀ L s.heap N)
      (hQ : ∀ (d : Addr) (o : Obj) (h' : Heap) (tk' : Nat), (d == sysModules) = false → PlainO PySem.Challenge.rw_te0076_05.row.prog w n o → (∀ r ∈ N, @LT.lt Nat _ r.1 d) → Fr h₀ L h' m → News h₀ L h' ((d, o) :: N) → Q (.ref d) { s with heap := h', toks := tk' }) :
      wpAny (model PySem.Challenge.rw_te0076_05.row.prog w) A (PySem.call (.ref 773) [.str n tn] []) Q E s := by
    as_aux_lemma =>
      clear ctr_is_invalid ctr_charErrors ctr_read ctr_readE ctr_position0 ctr_unget ctr_ungetN ctr_ungetS ctr_readN ctr_readC ctr_readA ctr_char ctr_until ctr_tinit call_char call_unget call_ungetN call_until call_tok ctr_cne call_cne ctr_lsignW ctr_bisect ctr_haskeys ctr_lfig ctr_lref ctr_lmended call_lref ctr_ceT ctr_pe ctr_avd ctr_avs
      refine CtrC.call ctr_lfault A A₀ base h₀ env outer L m s Q E N B F X Nw T hA hf hke hh hdd hu (fun _ _ => List.forall_mem_nil _) ?_
      intro v fr l' h' tk' hp ht hfr F' N'
      obtain ⟨rfl, d, o, rfl, rfl, lo, hp⟩ := hp
      exact hQ d o h' tk' lo hp (hfr _ (.head _)) F' N'
  have call_av {w : World} {loose : List Str} {mean : ExcName → Option Value} {mg mb : Str → Option Value} {K : Ks} {Z : Kz} {m7 : Tok} {tq ct dl p2 p1 : Addr} {co : Obj} {dn : Nat} {nm : Value} {pn qn : Nat} {qs : List Value} {v4 : Value} {x : St} {val : Str} {vt : Tok} {f : Addr} {q : Nat} {r : List Nat} {A A₀ : Around} {base h₀ : Heap} {env : Env} {L : Addr} {m : Str → Option Value} {s : Shared} {Q E : Value → Shared → Prop} {N rest : Led}
      (hf : (f = 563 ∧ q = 34) ∨ (f = 570 ∧ q = 39)) (ho : K.ord) (hzo : @LT.lt Nat _ Z.zd Z.za ∧ @LT.lt Nat _ Z.za K.sd) (ok : x.ok K.src) (hrem : x.rem K.src = r) (hamp : ampB r = true) (hlen : r.length ≤ 640) (hq : qs.length ≤ 100000) (hval : val.length ≤ 100000)
      (h1 : @LT.lt Nat _ K.er tq) (h2 : @LT.lt Nat _ tq ct) (h3 : @LT.lt Nat _ ct p2) (h4 : @LT.lt Nat _ p2 dl) (hcd : co.IsDictOf (PySem.strKind PySem.Challenge.rw_te0076_05.row.prog w) [(Str.ofString "data", .ref dl)])
      (B : Below A₀ base [] h₀) (F : Fr h₀ L s.heap m) (X : (main.heap_1_39 w.params).In h₀) (T : (Top main.view_1_40 loose mean mg mb) h₀) (XB : (main.heap_1_39 w.params).In base) (TB : (Top main.view_1_40 loose mean mg mb) base)
      (hA : A.frames = some [env]) (hfr : env.frame = some L) (hke : env.scope.kind = .function) (hh : A.handled = none) (hd : A.depth ≤ 430) (hu : A.units ≤ 340) (Nw : News h₀ L s.heap N)
      (tk : Take (Lz w K ((Z.at ct).go v4) m7 tq ⟨ct, dl, p2, co, [.ref p1], dn, nm, pn⟩ qs qn val vt (K.led w x)) N rest)
      (hne : ∀ p ∈ rest, @LT.lt Nat _ p.1 Z.zd ∨ @LT.lt Nat _ dl p.1 ∨ (@LT.lt Nat _ ct p.1 ∧ @LT.lt Nat _ p.1 p2))
      (hQ : ∀ (v4 : Value) (y : St) (fl : Led) (adds : List Value) (n : Nat) (val' : Str) (vt' : Tok) (h' : Heap) (tk' : Nat), y.ok K.src → y.rem K.src = (stQ q r).rem → (∀ p ∈ fl, ∀ r ∈ N, @LT.lt Nat _ r.1 p.1) → QIs PySem.Challenge.rw_te0076_05.row.prog w fl adds (stQ q r).ks → val'.cps.toList = val.cps.toList ++ (stQ q r).out →
        Fr h₀ L h' m → News h₀ L h' (Lz w K ((Z.at ct).go v4) m7 tq ⟨ct, dl, p2, co, [.ref p1], dn, nm, pn⟩ (qs ++ adds) n val' vt' (rest ++ (fl ++ K.led w y))) → Q (.bool true) { s with heap := h', toks := tk' }) :
      wpAny (model PySem.Challenge.rw_te0076_05.row.prog w) A (PySem.call (.ref f) [.ref Z.za] []) Q E s := by
    as_aux_lemma =>
      clear ctr_is_invalid ctr_charErrors ctr_read ctr_readE ctr_position0 ctr_unget ctr_ungetN ctr_ungetS ctr_readN ctr_readC ctr_readA ctr_char ctr_until ctr_tinit call_char call_unget call_ungetN call_until call_tok ctr_cne call_cne ctr_lfault ctr_lsignW ctr_bisect ctr_haskeys ctr_lfig ctr_lref ctr_lmended call_lref ctr_ceT ctr_pe call_lfault
      subst hrem
      have hk : @LT.lt Nat _ Z.zd Z.za ∧ @LT.lt Nat _ Z.za K.sd ∧ @LT.lt Nat _ K.er tq := ⟨hzo.1, hzo.2, h1⟩
      rcases hf with ⟨rfl, rfl⟩ | ⟨rfl, rfl⟩
      · exact CtrS.st0 (ctr_avd (B9 := ⟨ct, dl, p2, co, [.ref p1], dn, nm, pn⟩) (Z := (Z.at ct).go v4) (m7 := m7) (qs := qs) (qn := qn) (vt := vt) ho hk ⟨h2, h3, h4⟩ hcd ok hlen hq hval (amp_no hamp)) ho hk ⟨h2, h3, h4⟩ B F X T XB TB hA hfr hke hh (Nat.le_trans hd (by decide)) (Nat.le_trans hu (by decide)) Nw tk hne hQ
      · exact CtrS.st0 (ctr_avs (B9 := ⟨ct, dl, p2, co, [.ref p1], dn, nm, pn⟩) (Z := (Z.at ct).go v4) (m7 := m7) (qs := qs) (qn := qn) (vt := vt) ho hk ⟨h2, h3, h4⟩ hcd ok hlen hq hval (amp_no hamp)) ho hk ⟨h2, h3, h4⟩ B F X T XB TB hA hfr hke hh (Nat.le_trans hd (by decide)) (Nat.le_trans hu (by decide)) Nw tk hne hQ
  as_aux_lemma =>
        w_strict (
    k_with_none
    k_with "pos" => (repeat' (first | exact Mine.Internal.PosL.nil | (apply Mine.Internal.PosL.cons 0; exact rfl) | (apply Mine.Internal.PosL.cons 1; exact rfl) | (apply Mine.Internal.PosL.cons 2; exact rfl) | (apply Mine.Internal.PosL.cons 3; exact rfl) | (apply Mine.Internal.PosL.cons 4; exact rfl) | (apply Mine.Internal.PosL.cons 5; exact rfl) | (apply Mine.Internal.PosL.cons 6; exact rfl) | (apply Mine.Internal.PosL.cons 7; exact rfl) | (apply Mine.Internal.PosL.cons 8; exact rfl) | (apply Mine.Internal.PosL.cons 9; exact rfl) | (apply Mine.Internal.PosL.cons 10; exact rfl) | (apply Mine.Internal.PosL.cons 11; exact rfl) | (apply Mine.Internal.PosL.cons 12; exact rfl) | (apply Mine.Internal.PosL.cons 13; exact rfl) | (apply Mine.Internal.PosL.cons 14; exact rfl) | (apply Mine.Internal.PosL.cons 15; exact rfl) | (apply Mine.Internal.PosL.cons 16; exact rfl) | (apply Mine.Internal.PosL.cons 17; exact rfl) | (apply Mine.Internal.PosL.cons 18; exact rfl) | (apply Mine.Internal.PosL.cons 19; exact rfl) | (apply Mine.Internal.PosL.cons 20; exact rfl) | (apply Mine.Internal.PosL.cons 21; exact rfl) | (apply Mine.Internal.PosL.cons 22; exact rfl) | (apply Mine.Internal.PosL.cons 23; exact rfl)))
    k_with "slt" => exact Mine.Internal.Srt.lt (by with_reducible assumption) (by ((repeat (first | (with_reducible_and_instances refine Mine.Internal.Aft.here ?_; (repeat (first | with_reducible_and_instances exact List.Mem.head _ | with_reducible_and_instances refine List.Mem.tail _ ?_)); done) | with_reducible refine Mine.Internal.Aft.there ?_)); all_goals fail))
    k_with "take" => k_dflt ((try dsimp only); repeat' (first | exact Mine.Internal.Take.nil | exact Mine.Internal.Del.head | refine' Mine.Internal.Take.blk ?_ | exact Mine.Internal.Tl.nil | exact Mine.Internal.Tl.app | refine' Mine.Internal.Take.cons ?_ ?_ | refine' Mine.Internal.Del.tail ?_ | refine' Mine.Internal.Tl.cons ?_))
    k_with "upd" => (exact Mine.Internal.Srt.updP (by with_reducible assumption) (by repeat' (first | exact Mine.Internal.UpdI.head | refine' Mine.Internal.UpdI.tail ?_)) (by k_dflt (k_extra "pos")) (by exact rfl))
    k_with "all" => exact Mine.Internal.Ks.ne_all (by with_reducible assumption) (by first | exact .inr (by k_extra "slt") | exact .inl (by k_extra "slt"))
    k_with "ne" => (refine neN ?_; first | exact Mine.Internal.Srt.ne (by with_reducible assumption) (by with_reducible solve_by_elim (maxDepth := 40) only [Mine.Internal.Apart.l, Mine.Internal.Apart.r, Mine.Internal.Apart.t, List.Mem.head, List.Mem.tail]) | ((try dsimp only); omega))
    k_with "lt" => (intro h9l; first | ((with_reducible rename Mine.Internal.Srt _ => S8); (first | (have S9 := Mine.Internal.Srt.grow S8 (h9l (_, _) (by k_dflt k_mem)); clear S8) | (have S9 := Mine.Internal.Srt.grow S8.tl (h9l (_, _) (by k_dflt k_mem)); clear S8) | (have S9 := Mine.Internal.Srt.grow S8.tl.tl (h9l (_, _) (by k_dflt k_mem)); clear S8)); clear h9l) | (replace h9l := allLt_of h9l; simp only [AllLt, and_true] at h9l))
    k_with "subscriptTail" => (k_here; (with_reducible show wpAny _ _ (subscriptTail _ _ (Value.str _ _) (Value.int _ _)) _ _ _); (refine Mine.Internal.sub_chr (by omega) (by omega) (by assumption) ?_))
    k_with "getMethod ref" => (k_here; k_dflt (first | (refine' method_inst ?k1_law5 ?k2_law5 ?k3_law5 ?k4_law5 ?k5_law5 ?k6_law5 ?k7_law5 ?_; (case k1_law5 => k_asm); (case k2_law5 => k_asm); (case k3_law5 => k_inst); (case k4_law5 => k_is); (case k5_law5 => k_is); (case k6_law5 => k_is); (case k7_law5 => k_get); k_whole) | (refine' kmu_own ?k1_law5 ?k2_law5 ?k3_law5 ?k4_law5 ?k5_law5 ?_; (case k1_law5 => k_asm); (case k2_law5 => k_asm); (case k3_law5 => k_inst); (case k4_law5 => k_is); (case k5_law5 => k_is); k_whole)))
    k_with "getMethod ref" => (k_here; (with_reducible show wpAny _ _ (getMethod (Value.ref _) (PySem.Str.ofString "append") _) _ _ _); k_dflt (refine' kl_method ?N_law5 ?m_law5 slot_list_append type_list_append ?_; (case N_law5 => k_asm); (case m_law5 => k_mem); k_whole))
    k_with "execs cons" => (k_here; (with_reducible show wpAny _ _ _ _ _ (Shared.mk _ _ _ (_ + _) _)); (refine Mine.Internal.gentoks ?_); intro tkg9 htk9; (try dsimp only at htk9))
    k_with "exec If" => ((with_reducible show wpAny _ _ _ _ _ _); k_fold)
    k_with "exec AugAssign" => ((with_reducible show wpAny _ _ _ _ _ _); k_fold)
    k_with "exec While" => ((with_reducible show wpAny _ _ _ _ _ _); k_fold)
    k_with "size" => k_dflt (first | exact Nat.le_of_ble_eq_true rfl | ((with_reducible show Array.size (List.toArray _) ≤ PySem.sizeLine); rw [List.size_toArray, PySem.sizeLine_eq]; refine Nat.le_trans (m := 100002) ?_ (Nat.le_of_ble_eq_true rfl); first | with_reducible assumption | exact Nat.le_trans (m := 100000) (by with_reducible assumption) (Nat.le_of_ble_eq_true rfl)))
    k_with "subscriptTail Name Constant ref int" => k_extra "subscriptTail"
    k_with "tok" => (first | exact Nat.le_add_left 1 _ | with_reducible assumption | exact Nat.le_trans (Nat.le_add_left 1 _) (by with_reducible assumption))
    k_with "next" => (first | ((with_reducible refine Mine.Internal.nextS (g := gens9) (d := dr9) (o := os9) ?_); intro qk9 tkg9) | ((with_reducible refine Mine.Internal.lastS (g := gens9) (d := dr9) (o := os9) ?_); intro tkg9) | (with_reducible refine Mine.Internal.nilS ?_) | (with_reducible refine Mine.Internal.fin9 ?_) | (with_reducible refine Mine.Internal.fin0 ?_) | (with_reducible refine Mine.Internal.finS9 ?_) | (with_reducible refine Mine.Internal.finS0 ?_) | ((with_reducible refine Mine.Internal.nextU (g := gens9) (d := dr9) (o := os9) ?_ ?_); (k_extra "tok"); intro qk9 tkg9) | ((with_reducible refine Mine.Internal.lastU (g := gens9) (d := dr9) (o := os9) ?_ ?_); (k_extra "tok"); intro tkg9) | ((with_reducible refine Mine.Internal.nextZ (g := gens9) (d := dr9) (o := os9) ?_); intro qk9 tkg9) | ((with_reducible refine Mine.Internal.lastZ (g := gens9) (d := dr9) (o := os9) ?_); intro tkg9))
    k_with "execs cons" => k_extra "next"
    k_with "execs nil" => (with_reducible refine Mine.Internal.nilS ?_)
    k_with "eval Constant int" => (with_reducible refine Mine.Internal.c_int (g := gens9) (d := dr9) (o := os9) ?_)
    k_with "eval Constant str" => (with_reducible refine Mine.Internal.c_str (g := gens9) (d := dr9) (o := os9) ?_)
    k_with "eval Attribute Name" => (k_here; k_dflt (refine' Mine.Internal.at_name (gs := gens9) (d := dr9) (o := os9) ?nF_law5 ?nX_law5 ?nN_law5 ?nv_law5 ?n1_law5 ?n2_law5 ?ng_law5 ?nh_law5 ?na_law5 ?nn_law5 ?nl_law5 ?nd_law5 ?_; (case nF_law5 => k_asm); (case nX_law5 => k_asm); (case nN_law5 => k_asm); (case nv_law5 => exact rfl); (case n1_law5 => k_mem); (case n2_law5 => k_mem); (case ng_law5 => k_is); (case nh_law5 => k_is); (case na_law5 => k_is); (case nn_law5 => k_is); (case nl_law5 => k_get); (case nd_law5 => k_handed); k_whole))
    k_with "setAttr ref" => (first | (k_here; ktx_write) | (k_here; k_dflt (refine' Mine.Internal.st_attr (gs := gens9) (d := dr9) (o := os9) ?sF_law5 ?sX_law5 ?sN_law5 ?s1_law5 ?s2_law5 ?ss_law5 ?sp_law5 ?st_law5 ?sh_law5 ?sl_law5 ?se_law5 ?sU_law5 ?sz_law5 ?_; (case sF_law5 => k_asm); (case sX_law5 => k_asm); (case sN_law5 => k_asm); (case s1_law5 => k_mem); (case s2_law5 => k_mem); (case ss_law5 => k_is); (case sp_law5 => k_is); (case st_law5 => k_is); (case sh_law5 => k_is); (case sl_law5 => k_get); (case se_law5 => k_put); (case sU_law5 => k_upd); (case sz_law5 => exact Nat.le_of_ble_eq_true rfl); k_whole; intro h' F' N'; (try k_sweep))))
    k_with "storeName" => (first | (k_here; ktx_write) | (k_here; k_dflt (refine' Mine.Internal.st_name (gs := gens9) (d := dr9) (o := os9) ?tF_law5 ?tN_law5 ?_; (case tF_law5 => k_asm); (case tN_law5 => k_asm); k_whole; intro m9 h' F' N'; (try k_sweep))))
    k_go0
    (all_goals try k_fold)
    (all_goals with_reducible rename World => w9)
    (all_goals (with_reducible rename Shared => s9))
    (all_goals (obtain ⟨hs9, gens9, dr9, t09, os9⟩ := s9))
    (all_goals (try dsimp only at *))
    k_with "call ref" => ((fail_if_success (with_reducible show wpAny _ _ (call (Value.ref 799) _ _) _ _ _)); refine Mine.Internal.hold ?_)
    k_with "call ref" => k_dflt ((fail_if_success (with_reducible show wpAny _ _ _ (Mine.Internal.MeetT _ _ _ _ _) _ _)); (with_reducible show wpAny _ _ (call (Value.ref 799) _ _) _ _ _); (with_reducible rename Fr _ _ _ _ => F0); (first | (with_reducible rename News _ _ _ _ => N0; refine' Mine.Internal.wp_meetT F0 N0 ?_ ?_) | refine' Mine.Internal.wp_meetT (news := []) F0 News.nil ?_ ?_); (intro l9 vs1 ns1 n9 h9 k9 hi1 hl1 F9 N9); (try clear F0 N0); (try dsimp only))
    k_with "call builtin:str.join" => k_dflt ((with_reducible show wpAny _ _ (call (Value.builtin "str.join") [Value.str _ _, Value.ref _]) _ _ _); (refine' Mine.Internal.join5 ?jN_law5 ?jm_law5 ?jc_law5 hl1 ?_); (case jN_law5 => k_asm); (case jm_law5 => k_mem); (case jc_law5 => assumption); intro x0 tx0 kx0 hx0; have hx0l := Mine.Internal.len5 hx0; (with_reducible rename CarriedAll _ _ => hca9; clear hca9))
    k_with "CompSrc" => k_dflt ((refine LCg.CompSrc.ledger (by rfl) (by k_asm) (by k_asm) (by k_mem) (Mine.Internal.size10 hi1 hl1) ?_); intro g'; (refine' kct_list (fun k => Mine.Internal.piece5.getD (k.fmod 32).toNat Str.empty) hi1 (fun k' t' I' oI' C' oC' D' m' ys' h' tk' E' hk' hC' hx' F' N' off' ne' mk' => ?_) ?_); (all_goals (try (simp only [LCg.Off3, and_true] at off'))); (all_goals (try dsimp only)); (all_goals (try k_fold)))
    k_with "KCtEl" => k_dflt (exact kct_el rfl rfl rfl)
    k_with "pyIter ref" => k_dflt ((with_reducible show wpAny _ _ (pyIter (Value.ref _)) (fun it s₂ => LoopAtV _ _ _ _ _ _ _ _ _ it s₂) _ _); (with_reducible rename Fr _ _ _ _ => F0); (with_reducible rename News _ _ _ _ => N0); (refine' Mine.Internal.loop5 ["reader", "value", "due", "at", "ended", "sign", "output", "faults", "used", "went"] [] ?lh_law5 F0 (kst_newsOf N0 ?ls_law5) ?tT_law5 ?dn_law5); (case lh_law5 => exact rfl); (case ls_law5 => (intro p hp; cases List.mem_singleton.mp hp; exact .head _)); (case' tT_law5 => (intro qc9 tqc9 u h9 k9 own hqc9 F9 N9; (try clear F0 N0))); (case' dn_law5 => (intro u h9 k9 F9 N9; (try clear F0 N0))); all_goals (try dsimp only [List.nil_append] at N9); all_goals (try k_fold))
    k_with "call ref" => ((with_reducible show wpAny _ _ (call (Value.ref 762) _ _) _ _ _); k_dflt (refine' call_tok hx0l hx0.small ?cB_law5 ?cF_law5 ?cX_law5 ?cT_law5 ?ca_law5 ?cb_law5 ?cc_law5 ?ce_law5 ?cd_law5 ?cu_law5 ?cN_law5  ?_; (case cF_law5 => k_asm); (case cB_law5 => k_asm); (case cX_law5 => k_asm); (case cT_law5 => k_asm); (case ca_law5 => exact rfl); (case cb_law5 => exact rfl); (case cc_law5 => exact rfl); (case ce_law5 => exact rfl); (case cd_law5 => exact Nat.le_of_ble_eq_true rfl); (case cu_law5 => exact Nat.le_of_ble_eq_true rfl); (case cN_law5 => k_asm); k_whole; intro K Z y0 h' tk' ho hzo hown' hksrc' ok' hrem' htk' F' N'; have hzs := Nat.lt_trans hzo.1 hzo.2; have hzz := hzo.1; have hza := hzo.2; have hrT := hrem'.trans (Mine.Internal.mendS_toList x0).symm; (try dsimp only at htk'); (try dsimp only [List.cons_append, List.nil_append] at N'); (try k_sweep); (try dsimp only); (try k_fold)))
    k_with "MeetT" => k_dflt ((with_reducible rename Fr _ _ _ _ => F9); (with_reducible rename News _ _ _ _ => N9); (with_reducible rename IntsAre _ _ => I9); first | exact Mine.Internal.meetT_lc F9 N9 I9 (by (rw [Mine.Internal.ints_len I9, List.length_map]; rfl)) | (refine Mine.Internal.hold ?_))
    k_with "exec While" => k_dflt (first
      | ((with_reducible show wpAny _ _ (exec (Stmt.While (Expr.UnaryOp _ _ _) _ _ _) _) _ _ _); (with_reducible rename Fr _ _ _ _ => F0); (with_reducible rename News _ _ _ _ => N0); (have hml := Mine.Internal.mend5t hx0); (refine' Mine.Internal.while5 (M := (mendS x0).cps.toList) (Z := Z) (K := K) F0 N0 ?wT_law5 rfl rfl rfl rfl rfl rfl ok' hrT (fun p9 hp9 => hown' p9 (.tail _ hp9)) ?wo_law5 ?wq_law5 ?wt_law5); (case wT_law5 => (k_extra "take")); (case wo_law5 => exact ⟨(Mine.Internal.Ks.er_lt (by with_reducible assumption) (fun p9 hp9 => by ((repeat (first | exact hp9 | exact List.mem_append_right _ (List.mem_append_right _ hp9) | exact List.mem_append_right _ hp9 | refine List.mem_cons_of_mem _ ?_)); all_goals fail))), (Mine.Internal.lt_by (by with_reducible assumption) (by k_dflt k_mem)), (Mine.Internal.lt_by (by with_reducible assumption) (by k_dflt k_mem)), (Mine.Internal.lt_by (by with_reducible assumption) (by k_dflt k_mem)), (Mine.Internal.lt_by (by with_reducible assumption) (by k_dflt k_mem)), (Mine.Internal.lt_by (by with_reducible assumption) (by k_dflt k_mem)), (Mine.Internal.lt_by (by with_reducible assumption) (by k_dflt k_mem)), hown' _ (.head _)⟩); (case' wq_law5 => (intro o59 y9 v49 ad9 n9 vs9 vt9 ds9 dn9 tv9 a9 ta9 b9 own9 u9 h9 k9 sok9 hrem9 ha0 hown9 hmo9 F9 N9; (clear F0 N0); (have hog9 := Mine.Internal.own_outs hown9 hzs o59.er); (try dsimp only); (try k_fold))); (case' wt_law5 => (intro o59 y9 v49 ad9 n9 vs9 vt9 ds9 dn9 tv9 a9 ta9 b9 own9 ks9 u9 h9 k9 sok9 hrem9 ha0 hahi hago hq1 hq2 hks9 hlen9 hown9 hmo9 F9 N9; (clear F0 N0); cases b9; (try (have hvl9 := Mine.Internal.fit5 hlen9 (hago rfl) hml; have hdl9 := Mine.Internal.fitq5 hq2 hks9 (hago rfl) hml; have hal9 := Mine.Internal.fitq5 hq1 hks9 (hago rfl) hml)); (try dsimp only); (try k_fold))))
      | ((with_reducible show wpAny _ _ (exec (Stmt.While (Expr.Compare _ _ _ _) _ _ _) _) _ _ _); (with_reducible rename Fr _ _ _ _ => F0); (with_reducible rename News _ _ _ _ => N0); (refine' ksw_meet (σ := Mine.Internal.Cr) (fun _ => _) (fun c => [("value", .str c.vs c.tv), ("at", .int c.a c.ta)]) [] (Mine.Internal.Cr.ok qc9 (vs9 ++ Txt.slice (mendS x0) (some a9) (some (a9 + 1))).cps.toList ((mendS x0).cps.toList.drop (a9 + 1).toNat) (a9 + 1)) (Mine.Internal.Cr.fin qc9 (vs9 ++ Txt.slice (mendS x0) (some a9) (some (a9 + 1))).cps.toList ((mendS x0).cps.toList.drop (a9 + 1).toNat) (a9 + 1)) (fun c => ((mendS x0).length - c.a).toNat) ⟨_, _, a9 + 1, _⟩ F0 N0 ?rk_law5 (Mine.Internal.Cr.start rfl) ?rq_law5 ?rt_law5); (case rk_law5 => (intro p hp; (simp only [List.mem_cons, List.not_mem_nil, or_false] at hp); rcases hp with hp | hp <;> subst hp <;> rfl)); (case' rq_law5 => (intro c u hh tk2 hfi Ft Nt; (try clear F0 N0); obtain ⟨w9s, tw9, e9, te9⟩ := c; (try dsimp only at Ft Nt))); (case' rt_law5 => (intro c u hh tk2 hi Ft Nt; (try clear F0 N0); obtain ⟨w9s, tw9, e9, te9⟩ := c; have he0 : 0 ≤ e9 := Mine.Internal.Cr.ok.lo hi (by omega); have hwl := Mine.Internal.Cr.ok.len (n := 3000) hi (Mine.Internal.b0_len hlen9 hahi hml) (Mine.Internal.drop_len hml); (try dsimp only at Ft Nt hwl)))))
    k_with "KswEnd" => k_dflt ((with_reducible rename Fr _ _ _ _ => F9); (with_reducible rename News _ _ _ _ => N9); first
      | ((with_reducible show KswEnd _ _ _ _ _ _ [] _ _ _ _ _); (refine' ksw_end (σ := Mine.Internal.Cr) ⟨w9s ++ (⟨#[d9]⟩ : Str), _, e9 + 1, _⟩ F9 N9 ?kn1_law5 trivial ?kk1_law5 ?kr1_law5 (hnx9 _ _ _ _ rfl rfl) ?km1_law5); (case kn1_law5 => exact (fun p9 hp9 => by (repeat (first | exact hp9 | refine List.mem_cons_of_mem _ ?_)))); (case kk1_law5 => (intro p hp; (simp only [List.mem_cons, List.not_mem_nil, or_false] at hp); rcases hp with hp | hp <;> subst hp <;> rfl)); (case kr1_law5 => (intro z9 hz9 hz8; have hy0 := hz9 _ (List.mem_cons_self ..); have hy1 := hz9 _ (List.mem_cons_of_mem _ (List.mem_cons_self ..)); (dsimp only at hy0 hy1); exact Mine.Internal.two_same hy0 hy1)); (case km1_law5 => (dsimp only; omega)))
      | (refine' Mine.Internal.turn5 (Z := Z) (M := (mendS x0).cps.toList) (ks := ks9 ++ (Mine.Internal.stQ qc9 ((mendS x0).cps.toList.drop a9.toNat)).ks) (own := own7) F9 N9 ?tn_law5 rfl rfl rfl rfl ?tr_law5 sok7 (hrem7.trans hrm8.symm) (Int.le_trans (Int.le_trans ha0 (Int.le_of_lt (Int.lt_succ a9))) hlo8) hhi8 hgo8 hq7 (hqs8.mono hmo7) (Mine.Internal.ks5w hks9 hlo8 ha0) (Mine.Internal.len5w hvs8 hrm8 hlo8 ha0 (hago rfl) hlen9) hown7 (fun p9 hp9 => hmo7 _ (hmo8 _ (hmo9 _ hp9))) ?th_law5 ?tl_law5; (case th_law5 => exact hago rfl); (case tn_law5 => ((try dsimp only [List.cons_append]); refine' Mine.Internal.Take.sub (rest := ?_) ?_; rotate_left; repeat' (first | exact Mine.Internal.Take.nil | exact Mine.Internal.Del.head | refine' Mine.Internal.Take.cons ?_ ?_ | refine' Mine.Internal.Del.tail ?_ | refine' Mine.Internal.Take.all ?_ | exact Mine.Internal.Tl.nil | refine' Mine.Internal.Tl.cons ?_))); (case tl_law5 => exact Mine.Internal.lo5 hlo8 ha0); (case tr_law5 => (intro z9 hz1_ hz2_ hz3_ hz4_ hz8; have hm5 := Mine.Internal.mid_sto hz8; (have hw0_ : z9 ≠ Str.ofString "went" := fun e => by (subst e; exact absurd hz8 (by decide))); (have hw1_ : z9 ≠ Str.ofString "sign" := fun e => by (subst e; exact absurd hz8 (by decide))); (repeat (first | refine (if_neg hz1_).trans ?_ | refine (if_neg hz2_).trans ?_ | refine (if_neg hz3_).trans ?_ | refine (if_neg hz4_).trans ?_ | refine (if_neg hw0_).trans ?_ | refine (if_neg hw1_).trans ?_ | refine (if_neg hm5).trans ?_)); exact if_neg (by rw [hz8]; decide))))
      | (refine Mine.Internal.hold ?_))
    k_with "MeetW" => k_dflt ((with_reducible rename Fr _ _ _ _ => F9); (with_reducible rename News _ _ _ _ => N9); first
      | exact Mine.Internal.out5 sok9 hrem9 ha0 hown9 hmo9 F9 N9
      | exact meetW_end (σ := Mine.Internal.Cr) ⟨w9s, tw9, e9, te9⟩ u F9 N9 (fun p9 hp9 => by (repeat (first | exact hp9 | refine List.mem_cons_of_mem _ ?_))) (Mine.Internal.Cr.no hi rfl (by omega) (Mine.Internal.run_lib (by with_reducible assumption) he0))
      | (refine Mine.Internal.hold ?_))
    k_with "exec If" => k_dflt ((fail_if_success (with_reducible show wpAny _ _ _ (Mine.Internal.MeetX _ _ _ _ _ _) _ _)); (with_reducible show wpAny _ _ (exec (Stmt.If (Expr.Compare (Expr.Name _ _) [CmpOp.Eq] [Expr.Constant _ _ _] _) _ _ _) _) _ _ _); (with_reducible rename Fr _ _ _ _ => F0); (with_reducible rename News _ _ _ _ => N0); (refine' Mine.Internal.wp_meetI (Z := Z) (M := (mendS x0).cps.toList) (a0 := a9) (q := qc9) (ks := ks9) F0 N0 ?mq_law5 ?mw_law5); (case' mq_law5 => (intro vs8 tv8 a8 ta8 b8 ds8 dn8 own8 u8 h8 k8 hvs8 hrm8 hlo8 hhi8 hgo8 hqs8 hmo8 hown8 F8 N8; (clear F0 N0); (try dsimp only); (try k_fold))))
    k_with "eval IfExp" => k_dflt (first
      | ((fail_if_success (with_reducible show wpAny _ _ _ (Mine.Internal.MeetV _ _ _ _ _ _) _ _)); (with_reducible show wpAny _ _ (PySem.eval (Expr.IfExp _ (Expr.Constant _ _ _) _ _) _) _ _ _); (with_reducible rename Fr _ _ _ _ => F0); (with_reducible rename News _ _ _ _ => N0); (refine' Mine.Internal.wp_meetV (fun v => ∃ t, v = .str (Mine.Internal.eofN qc9) t) F0 N0 ?_ ?_); (intro v9 h9 k9 hv9 F9 N9); (clear F0 N0); (obtain ⟨tb9, rfl⟩ := hv9); (try dsimp only); (try k_fold))
      | ((fail_if_success (with_reducible show wpAny _ _ _ (Mine.Internal.MeetS _ _ _ _ _ _) _ _)); (with_reducible show wpAny _ _ (PySem.eval (Expr.IfExp _ (Expr.Call _ _ _ _) _ _) _) _ _ _); (with_reducible rename Fr _ _ _ _ => F0); (with_reducible rename News _ _ _ _ => N0); (refine' Mine.Internal.wp_meetS (Z := Z) (ks := ks9) F0 N0 hvs8 ?sq_law5 ?sw_law5); (case' sq_law5 => (intro y7 v47 ad7 n7 vt7 own7 h7 k7 sok7 hrem7 hq7 hmo7 hown7 F7 N7; (clear F0 N0); (try dsimp only); (try k_fold)))))
    k_with "MeetV" => k_dflt ((with_reducible rename Fr _ _ _ _ => F9); (with_reducible rename News _ _ _ _ => N9); first | exact Mine.Internal.meetV_end F9 N9 (fun p9 hp9 => .tail _ hp9) (Mine.Internal.eof_t (by with_reducible assumption)) | exact Mine.Internal.meetV_end F9 N9 (fun p9 hp9 => .tail _ hp9) (Mine.Internal.eof_f hqc9 (by with_reducible assumption)) | exact Mine.Internal.meetV_end F9 N9 (fun p9 hp9 => hp9) (Mine.Internal.eof_t (by with_reducible assumption)) | exact Mine.Internal.meetV_end F9 N9 (fun p9 hp9 => hp9) (Mine.Internal.eof_f hqc9 (by with_reducible assumption)) | (refine Mine.Internal.hold ?_))
    k_with "MeetS" => k_dflt ((with_reducible rename Fr _ _ _ _ => F9); (with_reducible rename News _ _ _ _ => N9); first | exact Mine.Internal.meetS_end F9 N9 hvs8 hval7 sok7 hrem7 (hq1.mono hmo8) hq7 hown8 hfl7 (by k_mem) | (refine Mine.Internal.hold ?_))
    k_with "MeetX" => k_dflt ((with_reducible rename Fr _ _ _ _ => F9); (with_reducible rename News _ _ _ _ => N9); (try simp only [List.push_toArray] at N9); first | (have hA5 := Mine.Internal.amp5 (by with_reducible assumption : (Txt.slice (mendS x0) (some a9) (some (a9 + 1)) == (Str.ofString "&")) = true) ha0 hqc9 hu09 hur9 hul9; have hR5 := hA5.1; refine' Mine.Internal.meetI_end (Z := Z) (M := (mendS x0).cps.toList) (q := qc9) (own := o29) hR5 F9 N9 ?mina_law5 rfl rfl rfl rfl ?mira_law5 (Mine.Internal.app_out _ _) hA5.2.1 hA5.2.2.1 (Nat.le_succ_of_le hA5.2.2.2) (fun _ => hA5.2.2.2) ?miqa_law5 hoa9 ?mioa_law5; (case mina_law5 => ((try dsimp only [List.cons_append]); refine' Mine.Internal.Take.sub (rest := ?_) ?_; rotate_left; repeat' (first | exact Mine.Internal.Take.nil | exact Mine.Internal.Del.head | refine' Mine.Internal.Take.cons ?_ ?_ | refine' Mine.Internal.Del.tail ?_ | refine' Mine.Internal.Take.all ?_ | exact Mine.Internal.Tl.nil | refine' Mine.Internal.Tl.cons ?_))); (case mira_law5 => (intro z9 hy0 hy1 hy2 hy3 hz8; (have hy4 : z9 ≠ Str.ofString "output" := fun e => by (subst e; exact absurd hz8 (by decide))); (have hy5 : z9 ≠ Str.ofString "faults" := fun e => by (subst e; exact absurd hz8 (by decide))); (have hy6 : z9 ≠ Str.ofString "used" := fun e => by (subst e; exact absurd hz8 (by decide))); (repeat (first | with_reducible exact rfl | refine (if_neg hy0).trans ?_ | refine (if_neg hy1).trans ?_ | refine (if_neg hy2).trans ?_ | refine (if_neg hy3).trans ?_ | refine (if_neg hy4).trans ?_ | refine (if_neg hy5).trans ?_ | refine (if_neg hy6).trans ?_ | exact rfl)))); (case miqa_law5 => exact ((hq2.mono hoa9).app hfq9)); (case mioa_law5 => exact hown29)) | (have hA5 := Mine.Internal.nul5 (by with_reducible assumption : (Txt.slice (mendS x0) (some a9) (some (a9 + 1)) == (Str.ofString "\x00")) = true) ha0 hqc9; have hR5 := hA5.1; refine' Mine.Internal.meetI_end (Z := Z) (M := (mendS x0).cps.toList) (q := qc9) (own := (dq, odq) :: own9) hR5 F9 N9 ?minz_law5 rfl rfl rfl rfl ?mirz_law5 (Mine.Internal.toList_nul _) rfl (Int.le_refl _) (Nat.le_succ_of_le hA5.2) (fun _ => hA5.2) ?miqz_law5 (fun p9 hp9 => .tail _ hp9) ?mioz_law5; (case minz_law5 => ((try dsimp only [List.cons_append]); refine' Mine.Internal.Take.sub (rest := ?_) ?_; rotate_left; repeat' (first | exact Mine.Internal.Take.nil | exact Mine.Internal.Del.head | refine' Mine.Internal.Take.cons ?_ ?_ | refine' Mine.Internal.Del.tail ?_ | refine' Mine.Internal.Take.all ?_ | exact Mine.Internal.Tl.nil | refine' Mine.Internal.Tl.cons ?_))); (case mirz_law5 => (intro z9 hy0 hy1 hy2 hy3 hz8; (have hy4 : z9 ≠ Str.ofString "output" := fun e => by (subst e; exact absurd hz8 (by decide))); (have hy5 : z9 ≠ Str.ofString "faults" := fun e => by (subst e; exact absurd hz8 (by decide))); (have hy6 : z9 ≠ Str.ofString "used" := fun e => by (subst e; exact absurd hz8 (by decide))); (repeat (first | with_reducible exact rfl | refine (if_neg hy0).trans ?_ | refine (if_neg hy1).trans ?_ | refine (if_neg hy2).trans ?_ | refine (if_neg hy3).trans ?_ | refine (if_neg hy4).trans ?_ | refine (if_neg hy5).trans ?_ | refine (if_neg hy6).trans ?_ | exact rfl)))); (case miqz_law5 => exact ((hq2.mono (fun p9 hp9 => .tail _ hp9)).app (.cons ⟨dq, odq, rfl, .head _, lo9, hpl9⟩ .nil))); (case mioz_law5 => exact (Mine.Internal.own_cons hown9 (Mine.Internal.lt_by hdq9 (by k_dflt k_mem))))) | (have hA5 := Mine.Internal.quo5 (by with_reducible assumption : (Txt.slice (mendS x0) (some a9) (some (a9 + 1)) == (⟨#[qc9]⟩ : Str)) = true) ha0; have hR5 := hA5.1; refine' Mine.Internal.meetI_end (Z := Z) (M := (mendS x0).cps.toList) (q := qc9) (own := own9) hR5 F9 N9 ?minq_law5 rfl rfl rfl rfl ?mirq_law5 (List.append_nil _).symm rfl (Int.le_refl _) (Nat.le_succ_of_le hA5.2) (fun h9 => nomatch h9) ?miqq_law5 (fun _ h9 => h9) ?mioq_law5; (case minq_law5 => ((try dsimp only [List.cons_append]); refine' Mine.Internal.Take.sub (rest := ?_) ?_; rotate_left; repeat' (first | exact Mine.Internal.Take.nil | exact Mine.Internal.Del.head | refine' Mine.Internal.Take.cons ?_ ?_ | refine' Mine.Internal.Del.tail ?_ | refine' Mine.Internal.Take.all ?_ | exact Mine.Internal.Tl.nil | refine' Mine.Internal.Tl.cons ?_))); (case mirq_law5 => (intro z9 hy0 hy1 hy2 hy3 hz8; (have hy4 : z9 ≠ Str.ofString "output" := fun e => by (subst e; exact absurd hz8 (by decide))); (have hy5 : z9 ≠ Str.ofString "faults" := fun e => by (subst e; exact absurd hz8 (by decide))); (have hy6 : z9 ≠ Str.ofString "used" := fun e => by (subst e; exact absurd hz8 (by decide))); (repeat (first | with_reducible exact rfl | refine (if_neg hy0).trans ?_ | refine (if_neg hy1).trans ?_ | refine (if_neg hy2).trans ?_ | refine (if_neg hy3).trans ?_ | refine (if_neg hy4).trans ?_ | refine (if_neg hy5).trans ?_ | refine (if_neg hy6).trans ?_ | exact rfl)))); (case miqq_law5 => exact ((List.append_nil ks9).symm ▸ hq2)); (case mioq_law5 => exact hown9)) | (have hA5 := Mine.Internal.eof5 (q := qc9) (by with_reducible assumption : (Txt.slice (mendS x0) (some a9) (some (a9 + 1)) == (Str.ofString "")) = true) ha0 (hago rfl); have hR5 := hA5.1; refine' Mine.Internal.meetI_end (Z := Z) (M := (mendS x0).cps.toList) (q := qc9) (own := (dq, odq) :: own9) hR5 F9 N9 ?mine_law5 rfl rfl rfl rfl ?mire_law5 (List.append_nil _).symm rfl (Int.le_refl _) hA5.2 (fun h9 => nomatch h9) ?miqe_law5 (fun p9 hp9 => .tail _ hp9) ?mioe_law5; (case mine_law5 => ((try dsimp only [List.cons_append]); refine' Mine.Internal.Take.sub (rest := ?_) ?_; rotate_left; repeat' (first | exact Mine.Internal.Take.nil | exact Mine.Internal.Del.head | refine' Mine.Internal.Take.cons ?_ ?_ | refine' Mine.Internal.Del.tail ?_ | refine' Mine.Internal.Take.all ?_ | exact Mine.Internal.Tl.nil | refine' Mine.Internal.Tl.cons ?_))); (case mire_law5 => (intro z9 hy0 hy1 hy2 hy3 hz8; (have hy4 : z9 ≠ Str.ofString "output" := fun e => by (subst e; exact absurd hz8 (by decide))); (have hy5 : z9 ≠ Str.ofString "faults" := fun e => by (subst e; exact absurd hz8 (by decide))); (have hy6 : z9 ≠ Str.ofString "used" := fun e => by (subst e; exact absurd hz8 (by decide))); (repeat (first | with_reducible exact rfl | refine (if_neg hy0).trans ?_ | refine (if_neg hy1).trans ?_ | refine (if_neg hy2).trans ?_ | refine (if_neg hy3).trans ?_ | refine (if_neg hy4).trans ?_ | refine (if_neg hy5).trans ?_ | refine (if_neg hy6).trans ?_ | exact rfl)))); (case miqe_law5 => exact ((hq2.mono (fun p9 hp9 => .tail _ hp9)).app (.cons ⟨dq, odq, rfl, .head _, lo9, hpl9⟩ .nil))); (case mioe_law5 => exact (Mine.Internal.own_cons hown9 (Mine.Internal.lt_by hdq9 (by k_dflt k_mem))))) | (obtain ⟨R9, hR5, ho5, hr5, hl5, hh5, hk5⟩ := Mine.Internal.run5 (vs := vs9) (by with_reducible assumption : (Txt.slice (mendS x0) (some a9) (some (a9 + 1)) == (Str.ofString "&")) = false) (by with_reducible assumption : (Txt.slice (mendS x0) (some a9) (some (a9 + 1)) == (Str.ofString "\x00")) = false) (by with_reducible assumption : (Txt.slice (mendS x0) (some a9) (some (a9 + 1)) == (⟨#[qc9]⟩ : Str)) = false) (by with_reducible assumption : (Txt.slice (mendS x0) (some a9) (some (a9 + 1)) == (Str.ofString "")) = false) ha0 rfl hfi; refine' Mine.Internal.meetI_end (Z := Z) (M := (mendS x0).cps.toList) (q := qc9) (own := own9) hR5 F9 N9 ?minr_law5 rfl rfl rfl rfl ?mirr_law5 ho5 hr5 hl5 (Nat.le_succ_of_le hh5) (fun _ => hh5) ?miqr_law5 (fun _ h9 => h9) ?mior_law5; (case minr_law5 => ((try dsimp only [List.cons_append]); refine' Mine.Internal.Take.sub (rest := ?_) ?_; rotate_left; repeat' (first | exact Mine.Internal.Take.nil | exact Mine.Internal.Del.head | refine' Mine.Internal.Take.cons ?_ ?_ | refine' Mine.Internal.Del.tail ?_ | refine' Mine.Internal.Take.all ?_ | exact Mine.Internal.Tl.nil | refine' Mine.Internal.Tl.cons ?_))); (case mirr_law5 => (intro z9 hy0 hy1 hy2 hy3 hz8; (have hy4 : z9 ≠ Str.ofString "output" := fun e => by (subst e; exact absurd hz8 (by decide))); (have hy5 : z9 ≠ Str.ofString "faults" := fun e => by (subst e; exact absurd hz8 (by decide))); (have hy6 : z9 ≠ Str.ofString "used" := fun e => by (subst e; exact absurd hz8 (by decide))); (repeat (first | with_reducible exact rfl | refine (if_neg hy0).trans ?_ | refine (if_neg hy1).trans ?_ | refine (if_neg hy2).trans ?_ | refine (if_neg hy3).trans ?_ | refine (if_neg hy4).trans ?_ | refine (if_neg hy5).trans ?_ | refine (if_neg hy6).trans ?_ | exact rfl)))); (case miqr_law5 => exact (by rw [hk5, List.append_nil]; exact hq2)); (case mior_law5 => exact hown9)) | (refine Mine.Internal.hold ?_))
    k_with "Turn5" => k_dflt ((show KswEnd _ _ _ _ _ _ _ _ _ _ _ _); (with_reducible rename Fr _ _ _ _ => F9); (with_reducible rename News _ _ _ _ => N9); (refine' Mine.Internal.turn5 (Z := Z) (M := (mendS x0).cps.toList) (ks := ks9 ++ (Mine.Internal.stQ qc9 ((mendS x0).cps.toList.drop a9.toNat)).ks) (own := own7) F9 N9 ?tn_law5 rfl rfl rfl rfl ?tr_law5 sok7 (hrem7.trans hrm8.symm) (Int.le_trans (Int.le_trans ha0 (Int.le_of_lt (Int.lt_succ a9))) hlo8) hhi8 hgo8 hq7 (hqs8.mono hmo7) (Mine.Internal.ks5w hks9 hlo8 ha0) (Mine.Internal.len5w hvs8 hrm8 hlo8 ha0 (hago rfl) hlen9) hown7 (fun p9 hp9 => hmo7 _ (hmo8 _ (hmo9 _ hp9))) ?th_law5 ?tl_law5; (case th_law5 => exact hago rfl); (case tn_law5 => ((try dsimp only [List.cons_append]); refine' Mine.Internal.Take.sub (rest := ?_) ?_; rotate_left; repeat' (first | exact Mine.Internal.Take.nil | exact Mine.Internal.Del.head | refine' Mine.Internal.Take.cons ?_ ?_ | refine' Mine.Internal.Del.tail ?_ | refine' Mine.Internal.Take.all ?_ | exact Mine.Internal.Tl.nil | refine' Mine.Internal.Tl.cons ?_))); (case tl_law5 => exact Mine.Internal.lo5 hlo8 ha0); (case tr_law5 => (intro z9 hz1_ hz2_ hz3_ hz4_ hz8; have hm5 := Mine.Internal.mid_sto hz8; (have hw0_ : z9 ≠ Str.ofString "went" := fun e => by (subst e; exact absurd hz8 (by decide))); (have hw1_ : z9 ≠ Str.ofString "sign" := fun e => by (subst e; exact absurd hz8 (by decide))); (repeat (first | refine (if_neg hz1_).trans ?_ | refine (if_neg hz2_).trans ?_ | refine (if_neg hz3_).trans ?_ | refine (if_neg hz4_).trans ?_ | refine (if_neg hw0_).trans ?_ | refine (if_neg hw1_).trans ?_ | refine (if_neg hm5).trans ?_)); exact if_neg (by rw [hz8]; decide)))))
    k_with "TurnGo" => k_dflt ((with_reducible rename Fr _ _ _ _ => F9); (with_reducible rename News _ _ _ _ => N9); first | (refine' Mine.Internal.turn_end (s₁ := ⟨_, gens9, dr9, _, os9⟩) F9 N9 ?hn8_law5 ?hr8_law5; (case hn8_law5 => exact List.forall_mem_cons.mpr ⟨by k_mem, (fun p9 hp9 => by (have hp8 := List.mem_append_left (Mine.Internal.Ks.led w9 K y2) (hmo9 _ hp9); (repeat (first | exact hp8 | refine List.mem_cons_of_mem _ ?_))))⟩); (case hr8_law5 => (intro z9 hz9 hz8; have hs5 := Mine.Internal.sto_law hz8; (have hz0_ : z9 ≠ Str.ofString "value" := fun e => by (subst e; exact absurd hz8 (by decide))); (have hz1_ : z9 ≠ Str.ofString "due" := fun e => by (subst e; exact absurd hz8 (by decide))); (have hz2_ : z9 ≠ Str.ofString "at" := fun e => by (subst e; exact absurd hz8 (by decide))); (have hz3_ : z9 ≠ Str.ofString "ended" := fun e => by (subst e; exact absurd hz8 (by decide))); (have hz4_ : z9 ≠ Str.ofString "reader" := fun e => by (subst e; exact absurd hz8 (by decide))); (repeat (first | refine (if_neg hz0_).trans ?_ | refine (if_neg hz1_).trans ?_ | refine (if_neg hz2_).trans ?_ | refine (if_neg hz3_).trans ?_ | refine (if_neg hz4_).trans ?_ | refine (if_neg hs5).trans ?_ | refine (if_neg hz9).trans ?_)); (show (if List.contains _ z9 = true then _ else _) = _); rw [hz8]; rfl))) | (refine Mine.Internal.hold ?_))
    k_with "inplaceOp Add str str" => k_dflt ((with_reducible show wpAny _ _ (inplaceOp Operator.Add (Value.str _ _) (Value.str _ _)) _ _ _); (first | refine iadd_str ?_ (Mine.Internal.val_nul hvl9) | refine iadd_str ?_ (Mine.Internal.val_sl hvl9 hml) | refine iadd_str ?_ (Mine.Internal.val_one hwl) | refine iadd_str ?_ (Mine.Internal.out_fits hvl9 rfl)); intro ti9 ki9)
    k_with "inplaceOp Add ref ref" => k_dflt ((try dsimp only); (with_reducible show wpAny _ _ (inplaceOp Operator.Add (Value.ref _) (Value.ref lf9)) _ _ _); (obtain ⟨nz9, hnz9⟩ := Mine.Internal.some_nat (if (ds9.toArray ++ fs9.toArray).size == ds9.toArray.size then dn9 else dn9 + 1)); refine' Mine.Internal.iadd_list (n' := nz9) (xs := ds9) (ys := fs9) hnz9 ?aF_law5 ?aN_law5 ?aU_law5 ?ab_law5 (Mine.Internal.iadd_fits hdl9 hfq9) ?_; (case aF_law5 => k_asm); (case aN_law5 => k_asm); (case aU_law5 => k_upd); (case ab_law5 => k_mem); k_whole; intro h' F' N'; (try k_sweep))
    k_with "subscriptTail" => k_dflt (first
      | ((with_reducible show wpAny _ _ (subscriptTail _ (Expr.Slice (some _) none none _) (Value.str (Mine.Internal.mendS x0) _) (Value.ref _)) _ _ _); (with_reducible rename Fr _ _ _ _ => F'); (with_reducible rename News _ _ _ _ => N'); (refine slice_strN_sn (hsz := Nat.le_trans hml (by rw [sizeLine_eq]; decide)) (s := ⟨_, _, _, _, _⟩) F' N' ?_); intro h9 t9 k9 F9 N9)
      | ((try dsimp only); (with_reducible show wpAny _ _ (subscriptTail _ _ (Value.str (Mine.Internal.mendS x0) _) (Value.int e9 _)) _ _ _); obtain ⟨hy0, hy1, d9, hd9, hnx9⟩ := Mine.Internal.Cr.yes hi rfl (by omega) (Mine.Internal.run_lib (by with_reducible assumption) he0); (dsimp only at hy0 hy1 hd9 hnx9); (refine Mine.Internal.sub_chr hy0 (Mine.Internal.fit63m hy1 hml) hd9 ?_)))
    k_with "compareOp NotEq str str" => k_dflt ((with_reducible show wpAny _ _ (compareOp CmpOp.NotEq (Value.str _ _) (Value.str _ _)) _ _ _); (refine Mine.Internal.ne_txt (Mine.Internal.rest_ok hrem2' hst2' hrem9 rfl ha0) ?_))
    k_with "compareOp NotEq ref ref" => k_dflt ((with_reducible show wpAny _ _ (compareOp CmpOp.NotEq (Value.ref _) (Value.ref _)) _ _ _); first
      | (refine' Mine.Internal.queues_ne (fl := own7) (fl' := own7) ?N_law5 ?m1_law5 ?m2_law5 ?m3_law5 ?m4_law5 hq7 (hqs8.mono hmo7) ?hu_law5 ?_; (case N_law5 => k_asm); (case m1_law5 => k_mem); (case m2_law5 => k_mem); (case m3_law5 => exact (fun p9 hp9 => by (repeat (first | exact List.mem_append_left _ hp9 | refine List.mem_cons_of_mem _ ?_)))); (case m4_law5 => exact (fun p9 hp9 => by (repeat (first | exact List.mem_append_left _ hp9 | refine List.mem_cons_of_mem _ ?_)))); (case hu_law5 => exact Nat.le_of_ble_eq_true rfl); k_whole)
      | (refine' Mine.Internal.attrs_ne ?N_law5 ?m1_law5 ?m2_law5 ?m3_law5 ?m4_law5 ?m5_law5 ?m6_law5 ?hu_law5 ?_; (case N_law5 => k_asm); (case m1_law5 => k_mem); (case m4_law5 => k_mem); (case m2_law5 => k_mem); (case m3_law5 => k_mem); (case m5_law5 => k_mem); (case m6_law5 => k_mem); (case hu_law5 => exact Nat.le_of_ble_eq_true rfl); k_whole))
    k_with "call ref" => (first | ((with_reducible show wpAny _ _ (call (Value.ref 794) _ _) _ _ _); k_dflt (refine' call_lref (T0 := Txt.slice (mendS x0) (some (a9 + 1)) none) (Mine.Internal.slice5 ha0 hml) (Mine.Internal.slice13 ha0) (Or.inr ⟨qc9, _, rfl, rfl⟩) ?cB_law5 ?cF_law5 ?cX_law5 ?cT_law5 ?ca_law5 ?cb_law5 ?cc_law5 ?ce_law5 ?cd_law5 ?cu_law5 ?cN_law5  ?_; (case cF_law5 => k_asm); (case cB_law5 => k_asm); (case cX_law5 => k_asm); (case cT_law5 => k_asm); (case ca_law5 => exact rfl); (case cb_law5 => exact rfl); (case cc_law5 => exact rfl); (case ce_law5 => exact rfl); (case cd_law5 => exact Nat.le_of_ble_eq_true rfl); (case cu_law5 => exact Nat.le_of_ble_eq_true rfl); (case cN_law5 => k_asm); k_whole; intro q9 lf9 fs9 nf9 used9 fl9 to9 tu9 h' tk' hfq8 hu09 hur9 hul9 hfr9 hq9 hlf9 htk' F' N8; obtain ⟨o29, eo9, hfq9, hoa9, hob9⟩ := Mine.Internal.own_grow (o := own9) hfq8 hfr9; (have hown29 := Mine.Internal.own_more hown9 hob9 (by k_dflt k_mem)); (have N' := Mine.Internal.mid_news (o := own9) eo9 N8 (by repeat' (first | exact Mine.Internal.Mid.here | refine' Mine.Internal.Mid.cons ?_))); clear N8 hfq8 hfr9 eo9 hob9; (try dsimp only at htk'); (try dsimp only [List.cons_append, List.nil_append] at N'); (try k_sweep); (try dsimp only); (try k_fold))) | ((with_reducible show wpAny _ _ (call (Value.ref 773) [Value.str _ _] _) _ _ _); k_dflt (refine' call_lfault ?cB_law5 ?cF_law5 ?cX_law5 ?cT_law5 ?ca_law5 ?cb_law5 ?cc_law5 ?ce_law5 ?cd_law5 ?cu_law5 ?cN_law5  ?_; (case cF_law5 => k_asm); (case cB_law5 => k_asm); (case cX_law5 => k_asm); (case cT_law5 => k_asm); (case ca_law5 => exact rfl); (case cb_law5 => exact rfl); (case cc_law5 => exact rfl); (case ce_law5 => exact rfl); (case cd_law5 => exact Nat.le_of_ble_eq_true rfl); (case cu_law5 => exact Nat.le_of_ble_eq_true rfl); (case cN_law5 => k_asm); k_whole; intro dq odq h' tk' lo9 hpl9 hdq9 F' N'; (try dsimp only [List.cons_append, List.nil_append] at N'); (try k_sweep); (try dsimp only); (try k_fold))) | k_dflt ((show wpAny _ _ (call (Value.ref 563) [Value.ref Z.za] []) _ _ _); (refine' call_av (q := qc9) (.inl ⟨rfl, Mine.Internal.chr_is (by with_reducible assumption)⟩) ho hzo sok9 hrem9 (Mine.Internal.ampB_drop (Mine.Internal.mend5_amp hx0) _) (Mine.Internal.drop_640 hml) hal9 hvl9 o59.h1 o59.h2 o59.h3 o59.h4 ?hcd_law5 ?cB_law5 ?cF_law5 ?cX_law5 ?cT_law5 ?cXB_law5 ?cTB_law5 ?ca_law5 ?cb_law5 ?cc_law5 ?ce_law5 ?cd_law5 ?cu_law5 ?cN_law5 ?tk_law5 ?hne_law5 ?_; (case cF_law5 => k_asm); (case cB_law5 => k_asm); (case cX_law5 => k_asm); (case cT_law5 => k_asm); (case cXB_law5 => k_asm); (case cTB_law5 => k_asm); (case ca_law5 => exact rfl); (case cb_law5 => exact rfl); (case cc_law5 => exact rfl); (case ce_law5 => exact rfl); (case cd_law5 => exact Nat.le_of_ble_eq_true rfl); (case cu_law5 => exact Nat.le_of_ble_eq_true rfl); (case cN_law5 => k_asm); (case tk_law5 => (k_extra "take")); (case hcd_law5 => k_asm); (case hne_law5 => exact o59.hne hown8); k_whole; intro v47 y7 fl7 ad7 n7 val7 vt7 h' tk' sok7 hrem7 hfl7 hq7 hval7 F' N'; (try dsimp only))) | k_dflt ((show wpAny _ _ (call (Value.ref 570) [Value.ref Z.za] []) _ _ _); (refine' call_av (q := qc9) (.inr ⟨rfl, hqc9.resolve_left (Mine.Internal.chr_no (by with_reducible assumption))⟩) ho hzo sok9 hrem9 (Mine.Internal.ampB_drop (Mine.Internal.mend5_amp hx0) _) (Mine.Internal.drop_640 hml) hal9 hvl9 o59.h1 o59.h2 o59.h3 o59.h4 ?hcd_law5 ?cB_law5 ?cF_law5 ?cX_law5 ?cT_law5 ?cXB_law5 ?cTB_law5 ?ca_law5 ?cb_law5 ?cc_law5 ?ce_law5 ?cd_law5 ?cu_law5 ?cN_law5 ?tk_law5 ?hne_law5 ?_; (case cF_law5 => k_asm); (case cB_law5 => k_asm); (case cX_law5 => k_asm); (case cT_law5 => k_asm); (case cXB_law5 => k_asm); (case cTB_law5 => k_asm); (case ca_law5 => exact rfl); (case cb_law5 => exact rfl); (case cc_law5 => exact rfl); (case ce_law5 => exact rfl); (case cd_law5 => exact Nat.le_of_ble_eq_true rfl); (case cu_law5 => exact Nat.le_of_ble_eq_true rfl); (case cN_law5 => k_asm); (case tk_law5 => (k_extra "take")); (case hcd_law5 => k_asm); (case hne_law5 => exact o59.hne hown8); k_whole; intro v47 y7 fl7 ad7 n7 val7 vt7 h' tk' sok7 hrem7 hfl7 hq7 hval7 F' N'; (try dsimp only))) | ((with_reducible show wpAny _ _ (call (Value.ref 156) _ _) _ _ _); k_dflt (refine' call_until (vs0 := []) (ys0 := []) (al := fun _ => false) ho ?hoq_law5 sok9 .nil (fun _ => rfl) ?cB_law5 ?cF_law5 ?cX_law5 ?cT_law5 ?ca_law5 ?cb_law5 ?cc_law5 ?ce_law5 ?cd_law5 ?cu_law5 ?cN_law5 ?tk_law5 ?ne_law5 ?nq_law5 ?_; (case cF_law5 => k_asm); (case cB_law5 => k_asm); (case cX_law5 => k_asm); (case cT_law5 => k_asm); (case ca_law5 => exact rfl); (case cb_law5 => exact rfl); (case cc_law5 => exact rfl); (case ce_law5 => exact rfl); (case cd_law5 => exact Nat.le_of_ble_eq_true rfl); (case cu_law5 => exact Nat.le_of_ble_eq_true rfl); (case cN_law5 => k_asm); (case tk_law5 => (k_extra "take")); (case hoq_law5 => exact (Mine.Internal.Ks.er_lt (by with_reducible assumption) (fun p9 hp9 => by ((repeat (first | exact hp9 | exact List.mem_append_right _ (List.mem_append_right _ hp9) | exact List.mem_append_right _ hp9 | refine List.mem_cons_of_mem _ ?_)); all_goals fail)))); (case ne_law5 => repeat' (first | exact Mine.Internal.Outs.nil | exact hog9 | refine' Mine.Internal.Outs.hi (by with_reducible assumption) ?_ | refine' Mine.Internal.Outs.lo (by with_reducible assumption) ?_ | refine' Mine.Internal.Outs.lo (Nat.lt_trans (hown' _ (.head _)) hzs) ?_ | refine' Mine.Internal.Outs.hi (Mine.Internal.Ks.er_lt (by with_reducible assumption) (fun p9 hp9 => by ((repeat (first | exact hp9 | exact List.mem_append_right _ (List.mem_append_right _ hp9) | exact List.mem_append_right _ hp9 | refine List.mem_cons_of_mem _ ?_)); all_goals fail))) ?_ | fail)); (case nq_law5 => (refine' Mine.Internal.Tl.lt (T := K.led _ y9) ?nq1_law5 ?nq2_law5; (case nq1_law5 => with_reducible assumption); (case nq2_law5 => repeat' (first | exact Mine.Internal.Tl.nil | exact Mine.Internal.Tl.app | refine' Mine.Internal.Tl.cons ?_)))); k_whole; intro y2 pp tpp h' tk' ok2' hrem2' hal2' hst2' htk' F' N'; (try dsimp only at htk'); (try dsimp only [List.cons_append, List.nil_append] at N'); (try k_sweep); (try dsimp only); (try k_fold))))
    k_with "in" => first | with_reducible assumption | exact Frag.In.keeps (by with_reducible assumption) (Fr.keep (by with_reducible assumption))
    k_with "lt" => (intro h9l; ((have l1r9 := h9l); clear h9l))
    k_with "ne" => (refine neN ?_; first | exact Mine.Internal.ne_by (by with_reducible assumption) (by k_dflt k_mem) | exact Mine.Internal.ne_by' (by with_reducible assumption) (by k_dflt k_mem) | exact Nat.ne_of_lt (by with_reducible assumption) | exact Nat.ne_of_gt (by with_reducible assumption))
    k_with "all" => first | exact Mine.Internal.cons_ne (by with_reducible assumption) (by with_reducible assumption) (by with_reducible assumption) | exact Mine.Internal.tail_ne (by with_reducible assumption) (fun p9 hp9 => by ((repeat (first | exact hp9 | refine List.mem_cons_of_mem _ ?_)); all_goals fail)) (by with_reducible assumption) (.inl (by with_reducible assumption)) | exact Mine.Internal.all_ne (by with_reducible assumption) (fun p9 hp9 => by ((repeat (first | exact hp9 | refine List.mem_cons_of_mem _ ?_)); all_goals fail))
    k_with "all" => first | exact Mine.Internal.own_ne2 o59 (by with_reducible assumption) ho hzs | exact Mine.Internal.cons_ne (by with_reducible assumption) (by with_reducible assumption) (by with_reducible assumption) | exact Mine.Internal.tail_ne (by with_reducible assumption) (fun p9 hp9 => by ((repeat (first | exact hp9 | refine List.mem_cons_of_mem _ ?_)); all_goals fail)) (by with_reducible assumption) (.inl (by with_reducible assumption)) | exact Mine.Internal.all_ne (by with_reducible assumption) (fun p9 hp9 => by ((repeat (first | exact hp9 | refine List.mem_cons_of_mem _ ?_)); all_goals fail))
    k_with "getMethod ref" => (k_here; (with_reducible show wpAny _ _ (getMethod (Value.ref (Mine.Internal.Ks.st _)) _ _) _ _ _); k_dflt (refine' Mine.Internal.meth_blk ?F_law5 ?X_law5 ?N_law5 ?tk_law5 ?hg_law5 ?hf_law5 ?ht_law5 ?hl_law5 ?_; (case F_law5 => k_asm); (case X_law5 => k_asm); (case N_law5 => k_asm); (case tk_law5 => (k_extra "take")); (case hg_law5 => k_is); (case hf_law5 => k_is); (case ht_law5 => k_is); (case hl_law5 => exact rfl); k_whole))
    k_with "call ref" => (k_here; (with_reducible show wpAny _ _ (call (Value.ref 806) _ _) _ _ _); k_dflt (refine' Mine.Internal.Ctr.useN (gs := gens9) (d := dr9) (o := os9) (Mine.Internal.CtrC.call (ctr_lmended hx0l)) ?cB_law5 ?cF_law5 ?cX_law5 ?cN_law5 ?cT_law5 ?ca_law5 ?cb_law5 ?cc_law5 ?ce_law5 ?cd_law5 ?cu_law5 ?ck_law5 ?cne_law5 ?_; (case cB_law5 => k_asm); (case cF_law5 => k_asm); (case cX_law5 => k_asm); (case cT_law5 => k_asm); (case cN_law5 => k_asm); (case ca_law5 => exact rfl); (case cb_law5 => exact rfl); (case cc_law5 => exact rfl); (case ce_law5 => exact rfl); (case cd_law5 => exact Nat.le_of_ble_eq_true rfl); (case cu_law5 => exact Nat.le_of_ble_eq_true rfl); (case ck_law5 => ((try (refine' Mine.Internal.Take.cons ?_ ?_)); repeat' (first | exact Mine.Internal.Take.nil | exact Mine.Internal.Del.head | refine' Mine.Internal.Take.cons ?_ ?_ | refine' Mine.Internal.Del.tail ?_))); (case cne_law5 => first | exact List.forall_mem_nil _ | exact (fun _ _ => List.forall_mem_nil _) | exact Mine.Internal.Srt.neL (by with_reducible assumption) (by k_extra "pos") (by k_extra "pos") (by exact rfl) | ((simp only [List.forall_mem_cons, List.not_mem_nil, false_implies, implies_true, and_true, true_and]); (repeat' (refine And.intro ?_ ?_)); all_goals k_ne)); (k_whole; intro v' l' hp'; obtain ⟨tm9, e1', e2'⟩ := hp'; subst e1'; subst e2'; intro h' n' hn' F' N'; (try dsimp only [List.cons_append, List.nil_append] at N'); (try k_sweep); (try dsimp only); (try k_fold))))
    k_with "subscriptTail" => (k_here; (with_reducible show wpAny _ _ (subscriptTail _ _ (Value.ref 48) (Value.str (Str.ofString "SpaceCharacters") _)) _ _ _); k_dflt (refine' Mine.Internal.item_tok 2 ?F_law5 ?X_law5 ?he_law5 ?hh_law5 ?hl_law5 ?_; (case hl_law5 => kernel_rfl); (case F_law5 => k_asm); (case X_law5 => k_asm); (case he_law5 => kernel_rfl); (case hh_law5 => kernel_rfl); k_whole; intro t9))
    k_with "subscriptTail" => (k_here; (with_reducible show wpAny _ _ (subscriptTail _ _ (Value.ref 48) (Value.str (Str.ofString "Characters") _)) _ _ _); k_dflt (refine' Mine.Internal.item_tok 1 ?F_law5 ?X_law5 ?he_law5 ?hh_law5 ?hl_law5 ?_; (case hl_law5 => kernel_rfl); (case F_law5 => k_asm); (case X_law5 => k_asm); (case he_law5 => kernel_rfl); (case hh_law5 => kernel_rfl); k_whole; intro t9))
    k_with "eval Dict" => (k_here; (with_reducible show wpAny _ _ (eval (Expr.Dict (_ :: _) _ _) _) _ _ _); k_dflt (refine' kdn_str ?q_law5 ?F_law5 ?N_law5 ?b_law5 ?a_law5 ?l_law5 ?e_law5 ?n_law5 ?_; (case q_law5 => rfl); (case F_law5 => k_asm); (case N_law5 => first | k_asm | exact News.nil); (case b_law5 => exact Top.nolimit (by k_asm)); (case a_law5 => rfl); (case l_law5 => rfl); (case e_law5 => exact List.cons_ne_nil _ _); (case n_law5 => exact Nat.le_of_ble_eq_true rfl)); intro d' h' o' F' N' l1 lo' hd'; (try k_lt l1))
    k_steps
    )
end Mine.Internal
end
theorem PySem.Challenge.cw_te0076_05_holds : PySem.Challenge.rw_te0076_05.Holds :=
  Mine.Internal.main
