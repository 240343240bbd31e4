import PyProof.Rows.All
import Wide.All
import OpenK.AllK
import Wide.FinOn
import Lean
import PySem.Challenge.RW_te0076_01
open PySem PySem.W PyProof.Rows
set_option Elab.async false
set_option linter.all false
set_option genInjectivity false
set_option genSizeOf false
set_option genSizeOfSpec false
set_option genCtorIdx false
set_option compiler.extract_closed false
set_option bootstrap.genMatcherCode false
section
set_option tactic.hygienic false
open PySem PySem.W PyProof.Rows PySem.Calls PySem.Spec
namespace Mine.Internal
noncomputable abbrev Led := List (Addr × Obj)

theorem wp_weaken {α : Type} {M : Model} {A A' : Around} {t : Sem α} {Q : α → Shared → Prop} {E : Value → Shared → Prop} {s : Shared}
    (h1 : A.handled = A'.handled) (h2 : A.depth ≤ A'.depth) (h3 : A'.frames = A.frames) (h4 : A'.guards = none) (h5 : A.units ≤ A'.units)
    (h : wpAny M A' t Q E s) : wpAny M A t Q E s := fun Γ p hΓ =>
  h Γ p ⟨hΓ.1.trans h1, Nat.le_trans hΓ.2.1 h2, fun l hl => hΓ.2.2.1 l (h3 ▸ hl), fun g hg => (by rw [h4] at hg; cases hg), Nat.le_trans hΓ.2.2.2.2 h5⟩


structure Later (s s' : Shared) : Prop where
  toks : s.toks ≤ s'.toks
  size : s.heap.objs.size ≤ s'.heap.objs.size
  dead : ∀ a, a < s.heap.objs.size → s.heap.get? a = none → s'.heap.get? a = none
theorem Later.refl (s : Shared) : Later s s := ⟨Nat.le_refl _, Nat.le_refl _, fun _ _ h => h⟩
theorem Later.trans {a b c : Shared} (x : Later a b) (y : Later b c) : Later a c :=
  ⟨Nat.le_trans x.toks y.toks, Nat.le_trans x.size y.size, fun i h1 h2 => y.dead i (Nat.lt_of_lt_of_le h1 x.size) (x.dead i h1 h2)⟩
theorem Later.same {s s' : Shared} (h1 : s'.toks = s.toks) (h2 : s'.heap = s.heap) : Later s s' := ⟨by rw [h1]; exact Nat.le_refl _, by rw [h2]; exact Nat.le_refl _, fun a _ h => by rw [h2]; exact h⟩
theorem Later.via {s s1 s' : Shared} (ih : Later s1 s') (h1 : s1.toks = s.toks) (h2 : s1.heap = s.heap) : Later s s' := (Later.same h1 h2).trans ih
theorem Later.upd {s : Shared} {a : Addr} {f : Obj → Obj} (h : (s.heap.get? a).isSome = true) : Later s { s with heap := s.heap.update a f } :=
  ⟨Nat.le_refl _, Nat.le_of_eq (Heap.size_after_update ..).symm, fun b _ hb => by
    have hne : a ≠ b := fun e => by rw [e, hb] at h; cases h
    exact (Heap.get?_update_other s.heap f hne).trans hb⟩
theorem Later.push {s : Shared} {o : Obj} : Later s { s with heap := s.heap.push o } := by
  refine ⟨Nat.le_refl _, by rw [Heap.size_push]; exact Nat.le_succ _, fun b hlt hb => ?_⟩
  show (s.heap.push o).get? b = none
  cases q : (s.heap.push o).get? b with
  | none => rfl
  | some x =>
    obtain ⟨q1, q2⟩ := Heap.get?_some_iff.mp q
    have hne : b ≠ s.heap.objs.size := Nat.ne_of_lt hlt
    have q3 : s.heap.objs[b]? = some x := by
      have e : (s.heap.push o).objs = s.heap.objs.push o := by cases s.heap; rfl
      rw [e, Array.getElem?_push, if_neg hne] at q1
      exact q1
    have : s.heap.get? b = some x := Heap.get?_some_iff.mpr ⟨q3, q2⟩
    rw [hb] at this; cases this
theorem Later.tick {s : Shared} : Later s { s with toks := s.toks + 1 } := ⟨Nat.le_succ _, Nat.le_refl _, fun _ _ h => h⟩
theorem runs_later {M : Model} {Γ : PySem.Ctx} {p : Pos} {t : Sem Fin} {fs : List Frame} {s s' : Shared} {e : End} (h : Runs M Γ p t fs s e s') : Later s s' := by
  induction h with
  | done => exact .refl _
  | raise => exact .refl _
  | again _ _ ih => exact ih
  | rule _ ih => exact ih
  | «at» _ ih => exact ih
  | load _ _ ih => exact ih
  | update h _ ih => exact (Later.upd h).trans ih
  | loadIfAlive _ ih => exact ih
  | point _ ih => exact ih
  | alloc _ ih => exact Later.push.trans ih
  | fresh _ ih => exact Later.tick.trans ih
  | ask _ ih => exact ih
  | choose _ _ ih => exact Later.via ih rfl rfl
  | os _ ih => exact Later.via ih rfl rfl
  | handled _ ih => exact ih
  | genState _ _ ih => exact ih
  | stack _ ih => exact ih
  | thread _ ih => exact ih
  | newGen _ ih => exact Later.via ih rfl rfl
  | call _ _ i1 i2 => exact i1.trans i2
  | callSusp _ i1 => exact i1
  | yield => exact .refl _
  | resumeFresh _ _ _ _ i1 i2 => exact Later.via (i1.trans (Later.via i2 rfl rfl)) rfl rfl
  | resumeSuspended _ _ _ _ i1 i2 => exact Later.via (i1.trans (Later.via i2 rfl rfl)) rfl rfl
  | resumeJustStarted _ _ _ ih => exact ih
  | resumeThrowFresh _ _ ih => exact Later.via ih rfl rfl
  | resumeRunning _ _ ih => exact ih
  | resumeFinished _ _ ih => exact ih
  | segRet _ _ i1 i2 => exact i1.trans i2
  | segGen _ _ i1 i2 => exact i1.trans (Later.via i2 rfl rfl)
  | segSuspOut _ _ i1 => exact i1
  | segSuspGen _ _ _ _ i1 i2 => exact i1.trans (Later.via i2 rfl rfl)
noncomputable abbrev topA (D U : Nat) (env : Env) (outer : List Env) : Around := { handled := none, depth := D, frames := some (env :: outer), guards := none, units := U }

noncomputable abbrev CPost := Value → Led → Led → Prop
noncomputable def noF (P : Value → Led → Prop) : CPost := fun v fr l => fr = [] ∧ P v l
noncomputable def CEnd (g : Heap) (lo : Led) (Post : CPost) (s₁ : Shared) (v : Value) (s' : Shared) : Prop :=
  ∃ L' m' fr l' h' tk', s' = { s₁ with heap := h', toks := tk' } ∧ Fr g L' h' m' ∧ News g L' h' (fr ++ l') ∧ (∀ p ∈ fr, ∀ q ∈ lo, p.1 ≠ q.1) ∧ Post v fr l'

theorem cend {g : Heap} {lo : Led} {P : Value → Led → Prop} {s₁ : Shared} {v : Value} {L' : Addr} {m' : Str → Option Value} {l l' : Led} {h' : Heap} {tk' : Nat}
    (F : Fr g L' h' m') (N : News g L' h' l') (hs : ∀ p ∈ l, p ∈ l') (hp : P v l) : CEnd g lo (noF P) s₁ v { s₁ with heap := h', toks := tk' } :=
  ⟨L', m', [], l, h', tk', rfl, F, fun p hp => N p (hs p hp), (fun _ h => nomatch h), rfl, hp⟩
theorem cendF {g : Heap} {lo : Led} {P : CPost} {s₁ : Shared} {v : Value} {L' : Addr} {m' : Str → Option Value} {fr l l' : Led} {h' : Heap} {tk' : Nat}
    (F : Fr g L' h' m') (N : News g L' h' l') (hs : ∀ p ∈ fr ++ l, p ∈ l') (hf : ∀ p ∈ fr, ∀ q ∈ lo, p.1 ≠ q.1) (hp : P v fr l) : CEnd g lo P s₁ v { s₁ with heap := h', toks := tk' } :=
  ⟨L', m', fr, l, h', tk', rfl, F, fun p hp => N p (hs p hp), hf, hp⟩

theorem code_weaken {M : Model} {A A' : Around} {c : Code} {R : Result → Shared → Prop} {s : Shared}
    (h1 : A.handled = A'.handled) (h2 : A.depth ≤ A'.depth) (h3 : A'.frames = A.frames) (h4 : A'.guards = none) (h5 : A.units ≤ A'.units)
    (h : codeAny M A' c R s) : codeAny M A c R s := fun Γ p hc hΓ =>
  h Γ p hc ⟨hΓ.1.trans h1, Nat.le_trans hΓ.2.1 h2, fun l hl => hΓ.2.2.1 l (h3 ▸ hl), fun g hg => (by rw [h4] at hg; cases hg), Nat.le_trans hΓ.2.2.2.2 h5⟩

noncomputable def CtrC (prog : Program) (w : World) (K : Frag) (TP : Heap → Prop) (D U : Nat) (f : Value) (args : Args) (l : Led) (Post : CPost) : Prop :=
  ∀ (A A₀ : Around) (base h₀ : Heap) (env : Env) (outer : List Env) (L : Addr) (m : Str → Option Value) (s : Shared) (R : Result → Shared → Prop) (rest : Led),
    Below A₀ base outer h₀ → Fr h₀ L s.heap m → K.In h₀ → News h₀ L s.heap (l ++ rest) → TP h₀ →
    A.frames = some (env :: outer) → env.frame = some L → env.scope.kind = .function → A.handled = none → A.depth ≤ D → A.units ≤ U →
    (∀ p ∈ rest, ∀ q ∈ l, p.1 ≠ q.1) →
    (∀ v fr l' h' tk', Post v fr l' → s.toks ≤ tk' → (∀ p ∈ fr, ∀ r ∈ l ++ rest, @LT.lt Nat _ r.1 p.1) → Fr h₀ L h' m → News h₀ L h' (fr ++ l' ++ rest) → R (.ok (.ret v)) { s with heap := h', toks := tk' }) →
    codeAny (model prog w) A (.call f args) R s

noncomputable def Ctr (prog : Program) (w : World) (K : Frag) (TP : Heap → Prop) (D U : Nat) (t : Sem Value) (l : Led) (Post : CPost) : Prop :=
  ∀ (A A₀ : Around) (base h₀ : Heap) (env : Env) (outer : List Env) (L : Addr) (m : Str → Option Value) (s : Shared) (Q E : Value → Shared → Prop) (rest : Led),
    Below A₀ base outer h₀ → Fr h₀ L s.heap m → K.In h₀ → News h₀ L s.heap (l ++ rest) → TP h₀ →
    A.frames = some (env :: outer) → env.frame = some L → env.scope.kind = .function → A.handled = none → A.depth ≤ D → A.units ≤ U →
    (∀ p ∈ rest, ∀ q ∈ l, p.1 ≠ q.1) →
    (∀ v fr l' h' tk', Post v fr l' → s.toks ≤ tk' → (∀ p ∈ fr, ∀ r ∈ l ++ rest, @LT.lt Nat _ r.1 p.1) → Fr h₀ L h' m → News h₀ L h' (fr ++ l' ++ rest) → Q v { s with heap := h', toks := tk' }) →
    wpAny (model prog w) A t Q E s

theorem CtrC.call {prog : Program} {w : World} {K : Frag} {TP : Heap → Prop} {D U : Nat} {f : Value} {pos : List Value} {kw : List (Str × Value)} {l : Led} {Post : CPost}
    (C : CtrC prog w K TP D U f ⟨pos, kw⟩ l Post) : Ctr prog w K TP D U (PySem.call f pos kw) l Post := by
  intro A A₀ base h₀ env outer L m s Q E rest B F X N T hA hf hke hh hd hu hne hQ
  exact wpAny_call (C A A₀ base h₀ env outer L m s _ rest B F X N T hA hf hke hh hd hu hne hQ)
theorem CtrC.bound {prog : Program} {w : World} {K : Frag} {TP : Heap → Prop} {D U : Nat} {f self : Value} {q : Addr} {pos : List Value} {kw : List (Str × Value)} {l : Led} {Post : CPost}
    (C : CtrC prog w K TP D U f ⟨self :: pos, kw⟩ l Post) (hql : ∀ p ∈ l, q ≠ p.1) :
    Ctr prog w K TP D U (PySem.call (.ref q) pos kw) ((q, methodObj f self) :: l) (fun v fr l' => ∃ l'', l' = (q, methodObj f self) :: l'' ∧ Post v fr l'') := by
  intro A A₀ base h₀ env outer L m s Q E rest B F X N T hA hf hke hh hd hu hne hQ
  have N2 : News h₀ L s.heap (l ++ (q, methodObj f self) :: rest) := fun p hp => N p (by
    simp only [List.cons_append, List.mem_append, List.mem_cons] at hp ⊢
    rcases hp with h | h | h
    · exact .inr (.inl h)
    · exact .inl h
    · exact .inr (.inr h))
  refine wpAny_call (method_call (N (q, methodObj f self) (List.mem_append_left _ (List.mem_cons_self ..))).1 (C A A₀ base h₀ env outer L m s _ ((q, methodObj f self) :: rest) B F X N2 T hA hf hke hh hd hu (fun p hp r hr => ?_) (fun v fr l' h' tk' hp ht hfr F' N' => ?_)))
  · rcases List.mem_cons.mp hp with rfl | hp
    · exact hql r hr
    · exact hne p hp r (List.mem_cons_of_mem _ hr)
  · refine hQ v fr ((q, methodObj f self) :: l') h' tk' ⟨l', rfl, hp⟩ ht (fun p hp r hr => hfr p hp r ?_) F' (fun p hp => N' p ?_)
    · simp only [List.cons_append, List.mem_append, List.mem_cons] at hr ⊢
      rcases hr with h | h | h
      · exact .inr (.inl h)
      · exact .inl h
      · exact .inr (.inr h)
    · simp only [List.cons_append, List.mem_append, List.mem_cons] at hp ⊢
      rcases hp with (h | h | h) | h
      · exact .inl (.inl h)
      · exact .inr (.inl h)
      · exact .inl (.inr h)
      · exact .inr (.inr h)

theorem fresh_gt {s s' : Shared} {h₀ : Heap} {L : Addr} {l rest fr : Led} (lat : Later s s') (N : News h₀ L s.heap (l ++ rest)) (hn : ∀ p ∈ fr, ∀ o, (hideAll s.heap (l.map (·.1))).get? p.1 = some o → False)
    (hh : ∀ p ∈ fr, s'.heap.get? p.1 ≠ none) (hfr : ∀ p ∈ fr, ∀ q ∈ l, p.1 ≠ q.1) : ∀ p ∈ fr, ∀ r ∈ l ++ rest, @LT.lt Nat _ r.1 p.1 := fun p hp r hr => by
  refine Nat.lt_of_lt_of_le (Heap.lt_size (N r hr).1) (Nat.le_of_not_lt fun q => hh p hp (lat.dead p.1 q ?_))
  cases q : s.heap.get? p.1 with
  | none => rfl
  | some o =>
    refine (hn p hp o (hideAll_get (l.map (·.1)) q fun hm => ?_)).elim
    obtain ⟨z, hz, e⟩ := List.mem_map.mp hm
    exact hfr p hp z hz e.symm
theorem ctr_intro1 {prog : Program} {w : World} {K : Frag} {TP : Heap → Prop} {D U : Nat} {l : Led} {Post : CPost}
    {name qual : Str} {params : Arguments} {body : List Stmt} {scope : Scope} {dV kV doc pm cdv ct oc : Value} {an od : Option Addr} {osl : Array (Option Value)} {f : Addr} {pos : List Value} {kw : List (Str × Value)} {binds : List (Str × Value)}
    (hT : ∀ h h' : Heap, TP h → h.StaysIn h' → TP h') (hlim : ∀ h : Heap, TP h → h.NoLimit)
    (ho : K.lookup f = some ⟨oc, od, .func (fnOf name qual params body scope dV kV doc pm an cdv ct), osl⟩) (hcd : codeIn K cdv qual = true) (hD : D < recursionLimit)
    (hbind : ∀ s : Shared, K.In s.heap → BindsTo s (fnOf name qual params body scope dV kV doc pm an cdv ct) ⟨pos, kw⟩ binds) (hloc : ∀ y ∈ binds, scope.names.lookup y.1 = some .local)
    (h : ∀ (A : Around) (base g : Heap) (env : Env) (outer : List Env) (L' : Addr) (h₁ : Heap) (s : Shared) (tk : Nat),
      Below A base (env :: outer) g → Fr g L' h₁ (fun y => binds.reverse.lookup y) → K.In g → News g L' h₁ l → TP g → (∀ p ∈ l, p.1 < L') → @LE.le Nat _ binds.length tk →
      wpAny (model prog w) ((topA D (U + 1) env outer).deeper (envOf qual scope L' f cdv)) (execs body (envOf qual scope L' f cdv))
        (fun fl s' => CEnd g l Post s (match fl with | .ret v => v | _ => .none) s') (fun _ _ => False) { s with heap := h₁, toks := tk })
    (hcell : ∀ x ∈ scope.names, x.2 ≠ .cell) (hco : scope.isCoroutine = false) (hgen : scope.isGenerator = false) (hk : scope.kind = .function) :
    CtrC prog w K TP D U (.ref f) ⟨pos, kw⟩ l Post := by
  intro A A₀ base h₀ env outer L m s R rest B F X N T hA hf hke hh hd hu hne hQ
  have Ns : News h₀ L s.heap l := fun p hp => N p (List.mem_append_left _ hp)
  refine code_weaken (A' := topA D U env outer) hh hd hA.symm rfl hu ?_
  have hA' : (topA D U env outer).frames = some (env :: outer) := rfl
  obtain ⟨FG, BG, st, lv⟩ := groundX (A := topA D U env outer) (R := fun _ _ => True) B F Ns hA' hf hke
  have X' : K.In s.heap := X.keeps F.keep
  have key : codeAny (model prog w) (topA D U env outer) (.call (.ref f) ⟨pos, kw⟩) (fun r s' => ∃ v, r = .ok (.ret v) ∧ CEnd (hideAll s.heap (l.map (·.1))) l Post s v s') s := by
    refine codeAny_call_def (fd := fnOf name qual params body scope dV kV doc pm an cdv ct) (body := body) (binds := binds) hD (X' _ _ ho) rfl ((hlim _ T).keeps F.keep) (codeRec_of X' hcd) rfl (hbind s X') hcell hloc (fun h₁ hns hk₁ => ?_) hco hgen hk
    have key := h (topA D U env outer) base (hideAll s.heap (l.map (·.1))) env outer s.heap.objs.size h₁ s (s.toks + binds.length) BG
      ⟨hns, fun b o e => hk₁ b o (of_hideAll _ e), Nat.le_of_eq (hideAll_size _ _)⟩ (X.keeps st)
      (fun p hp => ⟨hk₁ _ _ (Ns p hp).1, Nat.ne_of_lt (Heap.lt_size (Ns p hp).1), hideAll_none _ (List.mem_map_of_mem hp)⟩) (hT _ _ T st) (fun p hp => Heap.lt_size (Ns p hp).1) (Nat.le_add_left _ _)
    exact wpAny_mono (wp_weaken (A' := (topA D (U + 1) env outer).deeper (envOf qual scope s.heap.objs.size f cdv)) rfl (Nat.le_refl _) rfl rfl (by show U + 3 ≤ U + 1 + 3; omega) key) (fun fl s' hl => ⟨_, rfl, hl⟩) fun _ _ y => y.elim
  intro Γ p hc hΓ
  obtain ⟨r, s', hr, v, rfl, L', m', fr, l', h', tk', rfl, F', N', hfr, hp⟩ := key Γ p hc hΓ
  have hlat : Later s _ := runs_later hr
  refine ⟨_, _, hr, ?_⟩
  obtain ⟨oL, es, ep, hL, r⟩ := FG.ns
  have keep : ∀ b o, h₀.get? b = some o → h'.get? b = some o := fun b o e => F'.keep b o (st b o e)
  refine hQ _ fr l' h' tk' hp hlat.toks ?_ ⟨⟨oL, es, ep, F'.keep L oL hL, r⟩, keep, F.above⟩ (fun p hp => ?_)
  · refine fresh_gt hlat N (fun p hp o q => ?_) (fun p hp q => ?_) hfr
    · have := (N' p (List.mem_append_left _ hp)).2.2; rw [q] at this; cases this
    · have := (N' p (List.mem_append_left _ hp)).1; rw [q] at this; cases this
  rcases List.mem_append.mp hp with hp | hp
  · refine ⟨(N' p hp).1, fun q => ?_, ?_⟩
    · have := (N' p hp).2.2; rw [q, hL] at this; cases this
    · cases q : h₀.get? p.1 with
      | none => rfl
      | some o => have := (N' p hp).2.2; rw [st _ _ q] at this; cases this
  · have q := N p (List.mem_append_right _ hp)
    refine ⟨F'.keep _ _ (hideAll_get _ q.1 fun hm => ?_), q.2.1, q.2.2⟩
    obtain ⟨z, hz, e⟩ := List.mem_map.mp hm
    exact hne p hp z hz e.symm

inductive Del (p : Addr × Obj) : Led → Led → Prop
  | head {r} : Del p (p :: r) r
  | tail {q r r'} : Del p r r' → Del p (q :: r) (q :: r')
theorem Del.mem {p : Addr × Obj} {l r : Led} (h : Del p l r) : ∀ x, x = p ∨ x ∈ r → x ∈ l := by
  induction h with
  | head => intro x hx; rcases hx with rfl | hx; exact .head _; exact .tail _ hx
  | tail _ ih => intro x hx; rcases hx with rfl | hx; exact .tail _ (ih _ (.inl rfl)); cases hx with | head => exact .head _ | tail _ hx => exact .tail _ (ih _ (.inr hx))
inductive Tl (T : Led) : Led → Led → Prop
  | nil : Tl T T []
  | app {o} : Tl T (o ++ T) o
  | cons {e N cs} : Tl T N cs → Tl T (e :: N) (e :: cs)
theorem Tl.eq {T N cs : Led} (t : Tl T N cs) : N = cs ++ T := by
  induction t with
  | nil => rfl
  | app => rfl
  | cons _ ih => rw [ih]; rfl
inductive Take : Led → Led → Led → Prop
  | nil {l} : Take [] l l
  | cons {p ps l l' r} : Del p l l' → Take ps l' r → Take (p :: ps) l r
  | all {T N cs} : Tl T N cs → Take T N cs
theorem Take.news {l c rest : Led} (t : Take l c rest) {h₀ h : Heap} {L : Addr} (N : News h₀ L h c) : News h₀ L h (l ++ rest) := by
  intro p hp
  refine N p ?_
  induction t with
  | nil => simpa using hp
  | all q => rw [q.eq]; rcases List.mem_append.mp hp with hp | hp; exact List.mem_append_right _ hp; exact List.mem_append_left _ hp
  | cons d _ ih =>
    refine d.mem p ?_
    rcases List.mem_append.mp hp with hp | hp
    · cases hp with
      | head => exact .inl rfl
      | tail _ hp => exact .inr (ih (fun q hq => N q (d.mem q (.inr hq))) (List.mem_append_left _ hp))
    · exact .inr (ih (fun q hq => N q (d.mem q (.inr hq))) (List.mem_append_right _ hp))
end Mine.Internal

end
section
set_option tactic.hygienic false
open PySem PySem.W PyProof.Rows
namespace Mine.Internal
noncomputable def Srt : List Addr → Prop
  | [] => True
  | a :: l => (∀ b ∈ l, @LT.lt Nat _ b a) ∧ Srt l
inductive Aft : List Addr → Addr → Addr → Prop
  | here {a b : Addr} {l : List Addr} : b ∈ l → Aft (a :: l) a b
  | there {x a b : Addr} {l : List Addr} : Aft l a b → Aft (x :: l) a b
inductive Apart : List Addr → Addr → Addr → Prop
  | l {a b : Addr} {l : List Addr} : b ∈ l → Apart (a :: l) a b
  | r {a b : Addr} {l : List Addr} : a ∈ l → Apart (b :: l) a b
  | t {x a b : Addr} {l : List Addr} : Apart l a b → Apart (x :: l) a b
theorem Srt.lt {l : List Addr} {a b : Addr} (S : Srt l) (h : Aft l a b) : @LT.lt Nat _ b a := by
  induction h with
  | here h => exact S.1 _ h
  | there _ ih => exact ih S.2
theorem Srt.ne {l : List Addr} {a b : Addr} (S : Srt l) (h : Apart l a b) : @Ne Nat a b := by
  induction h with
  | l h => exact Nat.ne_of_gt (S.1 _ h)
  | r h => exact Nat.ne_of_lt (S.1 _ h)
  | t _ ih => exact ih S.2
theorem Srt.grow {t d : Addr} {l : List Addr} (S : Srt (t :: l)) (h : @LT.lt Nat _ t d) : Srt (d :: t :: l) :=
  ⟨fun b hb => by
    rcases List.mem_cons.mp hb with rfl | hb
    · exact h
    · exact Nat.lt_trans (S.1 b hb) h, S⟩
theorem Srt.six {sd st rce dd ds er : Addr} (h : @LT.lt Nat _ sd st ∧ @LT.lt Nat _ st rce ∧ @LT.lt Nat _ rce dd ∧ @LT.lt Nat _ dd ds ∧ @LT.lt Nat _ ds er) : Srt [er, ds, dd, rce, st, sd] := by
  obtain ⟨h1, h2, h3, h4, h5⟩ := h
  have S0 : Srt [sd] := ⟨fun _ h => (nomatch h), trivial⟩
  exact ((((S0.grow h1).grow h2).grow h3).grow h4).grow h5
theorem Srt.two {a b : Addr} (h : @LT.lt Nat _ a b) : Srt [b, a] := by
  have S0 : Srt [a] := ⟨fun _ h => (nomatch h), trivial⟩
  exact S0.grow h
end Mine.Internal
namespace Mine.Internal
end Mine.Internal

end
section
set_option tactic.hygienic false
open PySem PySem.W PyProof.Rows PySem.Calls PySem.Spec PyProof.V
namespace Mine.Internal
noncomputable abbrev tupO (vs : List Value) : Obj := { cls := .type "tuple", data := .seq vs.toArray }
structure Hold (p : Prop) : Prop where
  out : p
theorem hold {p : Prop} (h : Hold p) : p := h.out
theorem fit63 {n : Nat} (h : n ≤ 1048576) : (n : Int) < 9223372036854775808 := by omega
section
variable {prog : Program} {w : World} {A : Around} {E : Value → Shared → Prop} {s : Shared} {value slice : Expr} {x : Str} {t u : Tok} {i : Int} {c : Nat} {Q : Value → Shared → Prop}
theorem sub_chr (h0 : 0 ≤ i) (h1 : i < 9223372036854775808) (hc : x.cps[i.toNat]? = some c) (h : Q (.str ⟨#[c]⟩ s.toks) { s with toks := s.toks + 1 })
    (hs : subscripted slice false (.str x t) (.int i u) = operate [.str x t, .int i u] (getItem (.str x t) (.int i u)) := by with_unfolding_all rfl)
    (ht : ∀ r, letTemporaryGo value (.str x t) r = pure () := by intro _; with_unfolding_all rfl) :
    wpAny (model prog w) A (subscriptTail value slice (.str x t) (.int i u)) Q E s := by
  obtain ⟨k, rfl⟩ := Int.eq_ofNat_of_zero_le h0
  simp only [Int.toNat_natCast] at hc
  have hk : k < x.cps.size := by
    obtain ⟨hk, _⟩ := Array.getElem?_eq_some_iff.mp hc
    exact hk
  have hkz : (k : Int) < (x.cps.size : Int) := by omega
  have hn : ¬ ((k : Int) < 0) := by omega
  have e : Txt.charAt x (k : Int) = some c := by
    have e1 : seqIndex? (k : Int) x.length = some k := by
      unfold seqIndex?
      simp [Str.length, hn, hk]
    unfold Txt.charAt
    rw [e1]; exact hc
  have e2 : Txt.item x (k : Int) = ⟨#[c]⟩ := by unfold Txt.item; rw [e]; rfl
  refine item_str (fitsSsize_of (N := 9223372036854775808) (by omega) (by omega) (Int.le_refl _)) (by omega) (by show (k : Int) < (x.cps.size : Int); omega) (fun _ => ?_) hs ht
  rw [e2]; exact h
theorem sub_last (h0 : i = -1) (h1 : 1 ≤ x.length) (h2 : x.length < 9223372036854775808) (h : ∀ c, x.cps.toList.getLast? = some c → Q (.str ⟨#[c]⟩ s.toks) { s with toks := s.toks + 1 })
    (hs : subscripted slice false (.str x t) (.int i u) = operate [.str x t, .int i u] (getItem (.str x t) (.int i u)) := by with_unfolding_all rfl)
    (ht : ∀ r, letTemporaryGo value (.str x t) r = pure () := by intro _; with_unfolding_all rfl) :
    wpAny (model prog w) A (subscriptTail value slice (.str x t) (.int i u)) Q E s := by
  subst h0
  have hlen : x.cps.toList.length = x.length := by simp [Str.length]
  obtain ⟨c, hc⟩ : ∃ c, x.cps.toList.getLast? = some c := by
    cases q : x.cps.toList.getLast? with
    | some c => exact ⟨c, rfl⟩
    | none => rw [List.getLast?_eq_none_iff] at q; rw [q] at hlen; exact absurd (hlen ▸ h1) (by decide)
  have hi : x.cps[x.length - 1]? = some c := by
    rw [List.getLast?_eq_getElem?] at hc
    rw [hlen] at hc
    simpa using hc
  have e2 : Txt.item x (-1) = ⟨#[c]⟩ := by
    unfold Txt.item Txt.charAt
    have e1 : seqIndex? (-1) x.length = some (x.length - 1) := by
      unfold seqIndex?
      obtain ⟨k, hk⟩ : ∃ k, x.length = k + 1 := ⟨x.length - 1, (Nat.sub_add_cancel h1).symm⟩
      rw [hk]
      have b : (-1 : Int) + ((k + 1 : Nat) : Int) = (k : Int) := by rw [Int.natCast_add, Int.add_comm]; exact Int.add_sub_cancel (k : Int) 1
      have b2 : (k : Int) < ((k + 1 : Nat) : Int) := Int.ofNat_lt.mpr (Nat.lt_succ_self k)
      simp only [show ((-1 : Int) < 0) = True from by decide, if_true, b, Int.natCast_nonneg, b2, and_self, Int.toNat_natCast, Nat.add_sub_cancel]
      rfl
    rw [e1]
    show (⟨#[(x.cps[x.length - 1]?).getD 0]⟩ : Str) = _
    rw [hi]; rfl
  refine item_str (fitsSsize_of (N := 9223372036854775808) (by omega) (by omega) (Int.le_refl _)) (by omega) (by omega) (fun _ => ?_) hs ht
  rw [e2]; exact h c hc
open Builtin Builtin.Str in
theorem gives_count4 (x y : Str) (i j : Int) (t u v v' : Tok) : Gives («str.count» ⟨[.str x t, .str y u, .int i v, .int j v'], []⟩) (.int (occurrences x y (fromIndex x.length i) (min (fromIndex x.length j) x.length) (x.length + 1)).length) := by
  show Gives (retInt (occurrences x y (fromIndex x.length i) (min (fromIndex x.length j) x.length) (x.length + 1)).length) _
  exact .of_eq rfl
open Builtin Builtin.Str in
theorem gives_rfind4 (x y : Str) (i j : Int) (t u v v' : Tok) : Gives («str.rfind» ⟨[.str x t, .str y u, .int i v, .int j v'], []⟩) (.int (match lastOccurrence x y (fromIndex x.length i) (min (fromIndex x.length j) x.length) with | some i => (i : Int) | none => -1)) := by
  show Gives (match lastOccurrence x y (fromIndex x.length i) (min (fromIndex x.length j) x.length) with | some i => retInt i | none => (do rule "str.rfind.not-found"; retInt (-1))) _
  cases lastOccurrence x y (fromIndex x.length i) (min (fromIndex x.length j) x.length) with
  | none => exact .rule (.of_eq rfl)
  | some k => exact .of_eq rfl
open Builtin Builtin.Str in
noncomputable def countTo (x y : Str) (i j : Int) : Int := (occurrences x y (fromIndex x.length i) (min (fromIndex x.length j) x.length) (x.length + 1)).length
open Builtin Builtin.Str in
noncomputable def rfindTo (x y : Str) (i j : Int) : Int := match lastOccurrence x y (fromIndex x.length i) (min (fromIndex x.length j) x.length) with | some i => (i : Int) | none => -1
section
variable {y : Str} {j : Int} {v v' : Tok}
theorem count4 (hq : Q (.int (countTo x y i j) s.toks) { s with toks := s.toks + 1 }) : wpAny (model prog w) A (call (.builtin "str.count") [.str x t, .str y u, .int i v, .int j v']) Q E s :=
  call_gives F.slot_str_count (typeIs_str _ _ _) F.entry_str_count (F.args_str_count_4 _ _ _ _) (gives_count4 x y i j t u v v') hq
theorem rfind4 (hq : Q (.int (rfindTo x y i j) s.toks) { s with toks := s.toks + 1 }) : wpAny (model prog w) A (call (.builtin "str.rfind") [.str x t, .str y u, .int i v, .int j v']) Q E s :=
  call_gives F.slot_str_rfind (typeIs_str _ _ _) F.entry_str_rfind (F.args_str_rfind_4 _ _ _ _) (gives_rfind4 x y i j t u v v') hq
end
theorem method_nobool : typeLookup (.type "method") "__bool__" = pure none := by rw [typeLookup_type, builtinLookup_eq_fast]; kernel_rfl
theorem method_nolen : typeLookup (.type "method") "__len__" = pure none := by rw [typeLookup_type, builtinLookup_eq_fast]; kernel_rfl
theorem truthy_meth {q : Addr} {f self : Value} {h₀ : Heap} {L : Addr} {news : List (Addr × Obj)} {Q : Bool → Shared → Prop} (N : News h₀ L s.heap news) (hq : (q, methodObj f self) ∈ news) (h : Q true s) :
    wpAny (model prog w) A (truthy (.ref q)) Q E s := by
  have ty : Looks (model prog w) s.heap (typeOf (.ref q)) (.type "method") := (Looks.ld (part := none) (N _ hq).1).andThen .now
  unfold truthy
  refine wpAny_bind (m := callSpecial? (.ref q) (Str.ofString "__bool__")) (wpAny_bind (wpAny_bind (ty.here ((Looks.of_pure method_nobool).here (wpAny_pure ?_)))))
  refine wpAny_bind (wpAny_bind (ty.here ((Looks.of_pure method_nolen).here ?_)))
  exact wpAny_pure h
theorem last_lt {src x : Str} {k B c : Nat} (hs : ∀ c ∈ src.cps.toList, c < B) (hx : x.cps.toList = src.cps.toList.drop k) (hc : x.cps.toList.getLast? = some c) : c < B := by
  refine hs c (List.mem_of_mem_drop (i := k) ?_)
  rw [← hx]; exact List.mem_of_getLast? hc
open Builtin Builtin.Str in
theorem replaceM {x y z : Str} {t u v : Tok} (hu : @Ne Nat u 0) (hv : @Ne Nat v 0) (huv : @Ne Nat u v) (hyz : (y == z) = false) (hx : x.length ≤ 1048576) (hz : z.length ≤ 14)
    (hq : ∀ t' k, s.toks ≤ k → Q (.str (Txt.replace x y z) t') { s with toks := k }) : wpAny (model prog w) A (call (.builtin "str.replace") [.str x t, .str y u, .str z v]) Q E s := by
  have h1 : (x.length + 1) * z.length ≤ (x.length + 1) * 14 := Nat.mul_le_mul_left _ hz
  have hb : x.length + (x.length + 1) * z.length ≤ 16777216 := by omega
  have e : (2 : Nat) ^ 24 = 16777216 := by decide
  have hl : tooLong (x.length + (occurrences x y 0 x.length (x.length + 1)).length * z.length) = false := by
    have h1 := StrLaws.occ_length_le x y 0 x.length (x.length + 1)
    have h2 : (occurrences x y 0 x.length (x.length + 1)).length * z.length ≤ (x.length + 1) * z.length := Nat.mul_le_mul_right _ h1
    unfold tooLong sizeLine
    exact decide_eq_false (by omega)
  refine call_gives F.slot_str_replace (typeIs_str _ _ _) F.entry_str_replace (F.args_str_replace_3 _ _ _)
    (gives_str_replace x y z t u v fun _ => ⟨by simp [hu, hv], by simp [huv], hyz, hl⟩) ?_
  have hq' := hq
  unfold Txt.replace at hq'
  cases hc : ((occurrences x y 0 x.length (x.length + 1)).isEmpty || (y.length == 0 && z.length == 0))
  · rw [hc] at hq'
    simp only [Bool.false_eq_true, if_false] at hq' ⊢
    exact ⟨fits_replaced y hb, hq' _ _ (Nat.le_succ _)⟩
  · rw [hc] at hq'
    simp only [if_true] at hq' ⊢
    exact hq' t s.toks (Nat.le_refl _)
end
end Mine.Internal

end
section
set_option tactic.hygienic false
open PySem PySem.W PyProof.Rows PySem.Calls PySem.Spec PyProof.V
namespace Mine.Internal
open Builtin Builtin.Str

noncomputable def clipI (n : Nat) (i : Int) : Nat := (max 0 (min (if i < 0 then i + n else i) n)).toNat
noncomputable def sliceLo (n : Nat) : Option Int → Nat | none => 0 | some i => clipI n i
noncomputable def sliceHi (n : Nat) : Option Int → Nat | none => n | some i => clipI n i
theorem sliceLo_n {n : Nat} : sliceLo n none = 0 := rfl
theorem sliceLo_s {n : Nat} {i : Int} : sliceLo n (some i) = clipI n i := rfl
theorem sliceHi_n {n : Nat} : sliceHi n none = n := rfl
theorem sliceHi_s {n : Nat} {i : Int} : sliceHi n (some i) = clipI n i := rfl
theorem clipI_le (n : Nat) (i : Int) : clipI n i ≤ n := Int.toNat_le.mpr (Int.max_le.mpr ⟨Int.natCast_nonneg n, Int.min_le_right _ _⟩)
theorem sliceLo_le (n : Nat) (o : Option Int) : sliceLo n o ≤ n := by cases o; exact Nat.zero_le _; exact clipI_le _ _
theorem sliceHi_le (n : Nat) (o : Option Int) : sliceHi n o ≤ n := by cases o; exact Nat.le_refl _; exact clipI_le _ _
theorem indices_gen (l u : Option Int) (n : Nat) : strSliceIndices l u 1 n = (List.range (sliceHi n u - sliceLo n l)).map (fun k => sliceLo n l + k) := by
  have key : ∀ a b : Int, 0 ≤ a → 0 ≤ b → sliceRange a b 1 = (List.range (b.toNat - a.toNat)).map (fun k => a.toNat + k) := by
    intro a b ha hb
    obtain ⟨a, rfl⟩ := Int.eq_ofNat_of_zero_le ha
    obtain ⟨b, rfl⟩ := Int.eq_ofNat_of_zero_le hb
    unfold sliceRange
    simp only [show ((1 : Int) > 0) = True from by simp, if_true, Int.toNat_natCast]
    by_cases hlt : (a : Int) < b
    · have e3 : (((b : Int) - a + 1 - 1) / 1).toNat = b - a := by rw [Int.ediv_one, Int.add_sub_cancel, Int.toNat_sub]
      simp only [hlt, if_true, e3]
      refine List.map_congr_left fun k _ => ?_
      rw [Int.one_mul]
      exact Int.toNat_natCast (a + k)
    · have : b - a = 0 := Nat.sub_eq_zero_of_le (Int.ofNat_le.mp (Int.not_lt.mp hlt))
      simp [hlt, this]
  cases l <;> cases u <;> (unfold strSliceIndices; simp only [show ((1 : Int) > 0) = True from by simp, if_true]; rw [key _ _ (by first | exact Int.le_max_left _ _ | exact Int.le_refl 0 | exact Int.natCast_nonneg _) (by first | exact Int.le_max_left _ _ | exact Int.le_refl 0 | exact Int.natCast_nonneg _)]; simp [sliceLo_n, sliceLo_s, sliceHi_n, sliceHi_s, clipI])
set_option tactic.hygienic true
theorem slice_gen (x : Str) (l u : Option Int) : Txt.slice x l u = ⟨((x.cps.toList.drop (sliceLo x.length l)).take (sliceHi x.length u - sliceLo x.length l)).toArray⟩ := by
  have hl := sliceLo_le x.length l
  have hu := sliceHi_le x.length u
  have e : (strSliceIndices l u 1 x.length).filterMap (x.cps[·]?) = (x.cps.toList.drop (sliceLo x.length l)).take (sliceHi x.length u - sliceLo x.length l) := by
    rw [indices_gen]
    by_cases h : sliceLo x.length l ≤ sliceHi x.length u
    · have h := StrLaws.picks x.cps.toList (sliceHi x.length u - sliceLo x.length l) (sliceLo x.length l) (by have e : x.cps.toList.length = x.length := (by simp [Str.length]); omega)
      simpa using h
    · have h0 : sliceHi x.length u - sliceLo x.length l = 0 := by omega
      rw [h0]; simp
  unfold Txt.slice
  rw [e]
  split
  · rename_i hc
    have hc' : (strSliceIndices l u 1 x.length).length = x.length := by simpa using hc
    rw [indices_gen] at hc'
    simp only [List.length_map, List.length_range] at hc'
    have h0 : sliceLo x.length l = 0 := by omega
    have h1 : sliceHi x.length u = x.length := by omega
    rw [h0, h1]
    refine Str.ext' ?_
    show x.cps = _
    rw [List.drop_zero, Nat.sub_zero, List.take_of_length_le (by simp [Str.length])]
  · rfl
set_option tactic.hygienic false
theorem maxmin (a n : Nat) : (max 0 (min (a : Int) (n : Int))).toNat = min a n := by
  rcases Nat.le_total a n with h | h
  · rw [Int.min_eq_left (Int.ofNat_le.mpr h), Nat.min_eq_left h, Int.max_eq_right (Int.natCast_nonneg a), Int.toNat_natCast]
  · rw [Int.min_eq_right (Int.ofNat_le.mpr h), Nat.min_eq_right h, Int.max_eq_right (Int.natCast_nonneg n), Int.toNat_natCast]
theorem clip_nat (n a : Nat) : clipI n (a : Int) = min a n := by
  unfold clipI
  rw [if_neg (Int.not_lt.mpr (Int.natCast_nonneg a)), maxmin]
theorem drop_min {l : List Nat} {a b n : Nat} (hn : l.length = n) : (l.drop (min a n)).take (min b n - min a n) = (l.drop a).take (b - a) := by
  subst hn
  rw [← List.drop_take, ← List.drop_take, ← List.take_eq_take_min]
  rcases Nat.le_total a l.length with h | h
  · rw [Nat.min_eq_left h]
  · rw [Nat.min_eq_right h, List.drop_of_length_le (by rw [List.length_take]; exact Nat.min_le_right _ _), List.drop_of_length_le (by rw [List.length_take]; exact Nat.le_trans (Nat.min_le_right _ _) h)]
theorem cps_len (x : Str) : x.cps.toList.length = x.length := Array.length_toList
theorem slice_ss {x : Str} {i j : Int} (h0 : 0 ≤ i) (h1 : i ≤ j) : Txt.slice x (some i) (some j) = ⟨((x.cps.toList.drop i.toNat).take (j - i).toNat).toArray⟩ := by
  obtain ⟨a, rfl⟩ := Int.eq_ofNat_of_zero_le h0
  obtain ⟨b, rfl⟩ := Int.eq_ofNat_of_zero_le (Int.le_trans h0 h1)
  rw [slice_gen]
  refine Str.ext' (congrArg List.toArray ?_)
  simp only [sliceLo_n, sliceLo_s, sliceHi_n, sliceHi_s, clip_nat]
  rw [drop_min (cps_len x), Int.toNat_natCast, Int.toNat_sub]
theorem slice_sn {x : Str} {i : Int} (h0 : 0 ≤ i) : Txt.slice x (some i) none = ⟨(x.cps.toList.drop i.toNat).toArray⟩ := by
  obtain ⟨a, rfl⟩ := Int.eq_ofNat_of_zero_le h0
  rw [slice_gen]
  refine Str.ext' (congrArg List.toArray ?_)
  simp only [sliceLo_n, sliceLo_s, sliceHi_n, sliceHi_s, clip_nat, Int.toNat_natCast]
  have q := drop_min (a := a) (b := x.length) (cps_len x)
  rw [Nat.min_self] at q
  rw [q, List.take_of_length_le (by rw [List.length_drop, cps_len]; exact Nat.le_refl _)]
theorem clip_m1 (n : Nat) : clipI n (-1) = n - 1 := by
  unfold clipI
  rw [if_pos (by decide)]
  cases n with
  | zero => rfl
  | succ n => rw [show (-1 : Int) + ((n + 1 : Nat) : Int) = (n : Int) from by rw [Int.natCast_add, Int.add_comm]; exact Int.add_sub_cancel (n : Int) 1, maxmin, Nat.min_eq_left (Nat.le_succ n)]; rfl
theorem slice_last {x : Str} {j : Int} (h0 : j = -1) : Txt.slice x none (some j) = ⟨x.cps.toList.dropLast.toArray⟩ := by
  subst h0
  rw [slice_gen]
  refine Str.ext' (congrArg List.toArray ?_)
  simp only [sliceLo_n, sliceLo_s, sliceHi_n, sliceHi_s, List.drop_zero, Nat.sub_zero]
  rw [List.dropLast_eq_take, cps_len, clip_m1]
theorem slice_len_le {x : Str} {l u : Option Int} {n : Nat} (h : x.length ≤ n) : (Txt.slice x l u).length ≤ n := Nat.le_trans (Txt.slice_le x l u) h
end Mine.Internal

end
section
set_option tactic.hygienic false
open PySem PySem.W PyProof.Rows PySem.Calls PySem.Spec PyProof.V
namespace Mine.Internal
open Builtin Builtin.Str
noncomputable def repS (y z : List Nat) : Nat → List Nat → List Nat
  | _, [] => []
  | k + 1, _ :: r => repS y z k r
  | 0, c :: r => if y.isPrefixOf (c :: r) then z ++ repS y z (y.length - 1) r else c :: repS y z 0 r
theorem repS_n {y z : List Nat} {k : Nat} : repS y z k [] = [] := by cases k <;> rfl
theorem repS_s {y z : List Nat} {k c : Nat} {r : List Nat} : repS y z (k + 1) (c :: r) = repS y z k r := rfl
theorem repS_z {y z : List Nat} {c : Nat} {r : List Nat} : repS y z 0 (c :: r) = if y.isPrefixOf (c :: r) then z ++ repS y z (y.length - 1) r else c :: repS y z 0 r := rfl
theorem repS_drop (y z : List Nat) : ∀ (k : Nat) (l : List Nat), repS y z k l = repS y z 0 (l.drop k)
  | 0, l => rfl
  | k + 1, [] => by simp [repS_n]
  | k + 1, c :: r => by rw [repS_s, List.drop_succ_cons]; exact repS_drop y z k r
noncomputable def scanF (hit : Nat → Bool) (w : Nat) : Nat → Nat → Nat → List Nat
  | 0, _, _ => []
  | n + 1, i, free => if free ≤ i ∧ hit i = true then i :: scanF hit w n (i + 1) (i + w) else scanF hit w n (i + 1) free
noncomputable def hitAt (x y : Str) (i : Nat) : Bool := decide (i + y.length ≤ x.length) && subAt x y i
theorem scanF_s {hit : Nat → Bool} {w n i free : Nat} : scanF hit w (n + 1) i free = if free ≤ i ∧ hit i = true then i :: scanF hit w n (i + 1) (i + w) else scanF hit w n (i + 1) free := rfl
theorem fold_scan (x y : Str) (limit : Nat) : ∀ (n i free : Nat) (F : Array Nat), F.size + n ≤ limit →
    (forIn (List.range' i n) (F, free) (StrLaws.occBody x y x.length limit)).run.fst.toList = F.toList ++ scanF (hitAt x y) y.length n i free
  | 0, i, free, F, _ => (List.append_nil _).symm
  | n + 1, i, free, F, h => by
    rw [List.range'_succ, List.forIn_cons]
    unfold StrLaws.occBody
    rw [scanF_s]
    by_cases hc : free ≤ i ∧ hitAt x y i = true
    · have h2 := hc.2
      unfold hitAt at h2
      simp only [Bool.and_eq_true, decide_eq_true_eq] at h2
      have c1 : ((F.size < limit ∧ free ≤ i) ∧ i + y.length ≤ x.length) ∧ subAt x y i = true := ⟨⟨⟨by omega, hc.1⟩, h2.1⟩, h2.2⟩
      rw [if_pos hc]
      simp only [c1, if_true, and_self, pure_bind]
      have ih := fold_scan x y limit n (i + 1) (i + y.length) (F.push i) (by simp; omega)
      unfold StrLaws.occBody at ih
      rw [ih]; simp
    · have c1 : ¬ (((F.size < limit ∧ free ≤ i) ∧ i + y.length ≤ x.length) ∧ subAt x y i = true) := by
        rintro ⟨⟨⟨_, a⟩, b⟩, c⟩
        exact hc ⟨a, by unfold hitAt; simp [b, c]⟩
      rw [if_neg hc]
      simp only [c1, if_false, pure_bind]
      have ih := fold_scan x y limit n (i + 1) free F (by omega)
      unfold StrLaws.occBody at ih
      rw [ih]
theorem hit_iff {x y : Str} (hy : 1 ≤ y.length) (i : Nat) : hitAt x y i = y.cps.toList.isPrefixOf (x.cps.toList.drop i) := by
  unfold hitAt
  rw [StrLaws.subAt_eq]
  have hyl : y.cps.toList.length = y.length := by simp [Str.length]
  have hxl : x.cps.toList.length = x.length := by simp [Str.length]
  rw [Bool.eq_iff_iff]
  simp only [Bool.and_eq_true, decide_eq_true_eq, beq_iff_eq, List.isPrefixOf_iff_prefix]
  constructor
  · rintro ⟨_, h⟩
    rw [← h]; exact List.take_prefix _ _
  · intro h
    have hle := h.length_le
    rw [List.length_drop, hyl, hxl] at hle
    exact ⟨by omega, by rw [← hyl]; exact (List.prefix_iff_eq_take.mp h).symm⟩
theorem parts_rep {x y : Str} (z : Str) (hy : 1 ≤ y.length) : ∀ (n i free a : Nat), i + n = x.length + 1 → a ≤ x.length → (free ≤ i → a ≤ i) → (i < free → a = free) → free ≤ x.length →
    (Str.join z (StrLaws.partsFrom x y.length a (scanF (hitAt x y) y.length n i free))).cps.toList = (x.cps.toList.drop a).take (max i free - a) ++ repS y.cps.toList z.cps.toList 0 (x.cps.toList.drop (max i free)) := by
  intro n
  induction n with
  | zero =>
    intro i free a h1 h2 h3 h4 h5
    have hxl : x.cps.toList.length = x.length := by simp [Str.length]
    have hi : i = x.length + 1 := h1
    subst hi
    have q1 : x.cps.toList.drop (x.length + 1) = [] := List.drop_of_length_le (by rw [hxl]; exact Nat.le_succ _)
    rw [Nat.max_eq_left (Nat.le_trans h5 (Nat.le_succ _)), q1]
    show (strSub x a x.length).cps.toList = _ ++ []
    rw [StrLaws.strSub_toList, List.append_nil, List.take_of_length_le (by rw [List.length_drop, hxl]; exact Nat.le_refl _), List.take_of_length_le (by rw [List.length_drop, hxl]; exact Nat.sub_le_sub_right (Nat.le_succ _) _)]
  | succ n ih0 =>
    intro i free a h1 h2 h3 h4 h5
    have hxl : x.cps.toList.length = x.length := by simp [Str.length]
    have hxs : x.cps.size = x.length := rfl
    rw [scanF_s]
    by_cases hc : free ≤ i ∧ hitAt x y i = true
    · rw [if_pos hc]
      have hp := hc.2
      rw [hit_iff hy] at hp
      have hle : i + y.length ≤ x.length := by
        have := hc.2; unfold hitAt at this; simp only [Bool.and_eq_true, decide_eq_true_eq] at this; exact this.1
      have ih := ih0 (i + 1) (i + y.length) (i + y.length) ((Nat.add_right_comm i 1 n).trans h1) hle (fun h => h) (fun _ => rfl) hle
      rw [Nat.max_eq_right (Nat.add_le_add_left hy i), Nat.sub_self, List.take_zero, List.nil_append] at ih
      obtain ⟨p, r, e⟩ := StrLaws.partsFrom_ne x y.length (i + y.length) (scanF (hitAt x y) y.length n (i + 1) (i + y.length))
      have ej : Str.join z (strSub x a i :: StrLaws.partsFrom x y.length (i + y.length) (scanF (hitAt x y) y.length n (i + 1) (i + y.length))) = strSub x a i ++ z ++ Str.join z (StrLaws.partsFrom x y.length (i + y.length) (scanF (hitAt x y) y.length n (i + 1) (i + y.length))) := by
        rw [e]; rfl
      show (Str.join z (strSub x a i :: StrLaws.partsFrom x y.length (i + y.length) _)).cps.toList = _
      rw [ej]
      simp only [Str.cps_append, Array.toList_append, StrLaws.strSub_toList]
      rw [ih]
      rw [Nat.max_eq_left hc.1, List.append_assoc]
      congr 1
      obtain ⟨c, t, ed⟩ : ∃ c t, x.cps.toList.drop i = c :: t := by
        cases q : x.cps.toList.drop i with
        | cons c t => exact ⟨c, t, rfl⟩
        | nil => exact absurd (List.drop_eq_nil_iff.mp q) (Nat.not_le.mpr (by rw [hxl]; exact Nat.lt_of_lt_of_le (Nat.lt_add_of_pos_right hy) hle))
      rw [ed] at hp ⊢
      rw [repS_z, if_pos hp, repS_drop _ _ (y.cps.toList.length - 1) t]
      congr 1
      have hyl : y.cps.toList.length = y.length := by simp [Str.length]
      have e3 : t = x.cps.toList.drop (i + 1) := by
        have := congrArg List.tail ed
        rw [List.tail_drop] at this; exact this.symm
      rw [e3, List.drop_drop, hyl]
      rw [Nat.add_assoc, Nat.add_sub_cancel' hy]
    · rw [if_neg hc]
      have ih := ih0 (i + 1) free a ((Nat.add_right_comm i 1 n).trans h1) h2 (fun h => (Nat.lt_or_ge i free).elim (fun hf => by rw [h4 hf]; exact h) (fun hf => Nat.le_succ_of_le (h3 hf))) (fun h => h4 (Nat.lt_of_succ_lt h)) h5
      rw [ih]
      by_cases hf : i < free
      · rw [Nat.max_eq_right hf, Nat.max_eq_right (Nat.le_of_lt hf)]
      · have hfi := Nat.le_of_not_lt hf
        rw [Nat.max_eq_left (Nat.le_succ_of_le hfi), Nat.max_eq_left hfi]
        have hnp : ¬ (y.cps.toList.isPrefixOf (x.cps.toList.drop i) = true) := fun h => hc ⟨hfi, by rw [hit_iff hy]; exact h⟩
        have hai : a ≤ i := h3 hfi
        clear ih h1 h3 h4 hc
        by_cases hi : i < x.length
        · obtain ⟨c, t, ed⟩ : ∃ c t, x.cps.toList.drop i = c :: t := by
            cases q : x.cps.toList.drop i with
            | cons c t => exact ⟨c, t, rfl⟩
            | nil => exact absurd (List.drop_eq_nil_iff.mp q) (Nat.not_le.mpr (by rw [hxl]; exact hi))
          have e3 : x.cps.toList.drop (i + 1) = t := by
            have := congrArg List.tail ed
            rw [List.tail_drop] at this; exact this
          rw [ed] at hnp
          rw [ed, repS_z, if_neg hnp, e3]
          have e4 : (x.cps.toList.drop a).take (i + 1 - a) = (x.cps.toList.drop a).take (i - a) ++ [c] := by
            have e5 : i + 1 - a = (i - a) + 1 := Nat.succ_sub hai
            rw [e5, List.take_add_one, List.getElem?_drop]
            have e6 : x.cps.toList[a + (i - a)]? = some c := by
              have : (x.cps.toList.drop i)[0]? = some c := by rw [ed]; rfl
              rw [List.getElem?_drop] at this
              rw [← this, Nat.add_sub_cancel' hai]; rfl
            rw [e6]; rfl
          rw [e4]; simp
        · have q1 : x.cps.toList.drop (i + 1) = [] := List.drop_of_length_le (by omega)
          have q2 : x.cps.toList.drop i = [] := List.drop_of_length_le (by omega)
          rw [q1, q2, List.take_of_length_le (i := i + 1 - a) (by rw [List.length_drop]; omega), List.take_of_length_le (i := i - a) (by rw [List.length_drop]; omega)]
set_option tactic.hygienic true
theorem replace_toList (x y z : Str) (hy : 1 ≤ y.length) : (Txt.replace x y z).cps.toList = repS y.cps.toList z.cps.toList 0 x.cps.toList := by
  have hs : occurrences x y 0 x.length (x.length + 1) = scanF (hitAt x y) y.length (x.length + 1) 0 0 := by
    rw [StrLaws.occ_eq]
    have := fold_scan x y (x.length + 1) (x.length + 1) 0 0 #[] (by simp)
    simpa using this
  have key := parts_rep (x := x) z hy (x.length + 1) 0 0 0 (Nat.zero_add _) (Nat.zero_le _) (fun _ => Nat.le_refl _) (fun h => absurd h (by omega)) (Nat.zero_le _)
  simp only [Nat.max_self, Nat.sub_self, List.take_zero, List.nil_append, List.drop_zero] at key
  unfold Txt.replace
  split
  · rename_i hc
    have hempty : (occurrences x y 0 x.length (x.length + 1)).isEmpty = true := by
      simp only [Bool.or_eq_true, Bool.and_eq_true, beq_iff_eq] at hc
      rcases hc with h | h
      · exact h
      · omega
    rw [hs] at hempty
    have h0 : scanF (hitAt x y) y.length (x.length + 1) 0 0 = [] := List.isEmpty_iff.mp hempty
    rw [h0] at key
    rw [← key]
    show x.cps.toList = (strSub x 0 x.length).cps.toList
    rw [StrLaws.sub_whole]
  · rw [StrLaws.glued_eq_join, hs, StrLaws.partsBetween_eq]
    exact key
set_option tactic.hygienic false
noncomputable def mendL (l : List Nat) : List Nat := repS [13] [10] 0 (repS [13, 10] [10] 0 l)
noncomputable abbrev mendS (x : Str) : Str := Txt.replace (Txt.replace x (Str.ofString "\x0d\n") (Str.ofString "\n")) (Str.ofString "\x0d") (Str.ofString "\n")
theorem mendS_toList (x : Str) : (mendS x).cps.toList = mendL x.cps.toList := by
  have a : (Str.ofString "\x0d\n").cps.toList = [13, 10] := by decide +kernel
  have b : (Str.ofString "\n").cps.toList = [10] := by decide +kernel
  have c : (Str.ofString "\x0d").cps.toList = [13] := by decide +kernel
  unfold mendS mendL
  rw [replace_toList _ _ _ (by decide +kernel), replace_toList _ _ _ (by decide +kernel), a, b, c]
theorem rs_ar {z y q r : Nat} (h : z ≤ y) (h1 : q ≤ r - (y - 1)) (h2 : y ≤ r + 1) (h3 : 1 ≤ y) : z + q ≤ r + 1 := by
  refine Nat.le_trans (Nat.add_le_add h h1) ?_
  have h4 : y - 1 ≤ r := Nat.sub_le_of_le_add h2
  have h5 : y = (y - 1) + 1 := (Nat.sub_add_cancel h3).symm
  rw [Nat.add_comm y, h5, ← Nat.add_assoc, Nat.add_sub_cancel, Nat.sub_add_cancel h4]
  exact Nat.le_refl _
set_option tactic.hygienic true
theorem repS_len {y z : List Nat} (h : z.length ≤ y.length) (hy : y ≠ []) : ∀ (l : List Nat) (k : Nat), (repS y z k l).length ≤ l.length - k
  | [], k => by simp [repS_n]
  | c :: r, k + 1 => by rw [repS_s]; have := repS_len h hy r k; simp; omega
  | c :: r, 0 => by
    rw [repS_z]
    split
    · rename_i hp
      have h1 := repS_len h hy r (y.length - 1)
      have h2 := (List.isPrefixOf_iff_prefix.mp hp).length_le
      have h3 : 1 ≤ y.length := by cases y with | nil => exact absurd rfl hy | cons _ _ => simp
      simp only [List.length_append, List.length_cons] at h2 ⊢
      exact rs_ar h h1 h2 h3
    · have := repS_len h hy r 0
      simp only [List.length_cons]; omega
set_option tactic.hygienic false
theorem replace_len {x y z : Str} (hy : 1 ≤ y.length) (hz : z.length ≤ y.length) : (Txt.replace x y z).length ≤ x.length := by
  have e : ∀ s : Str, s.length = s.cps.toList.length := fun s => by simp [Str.length]
  rw [e, replace_toList x y z hy, e x]
  refine Nat.le_trans (repS_len (by rw [← e, ← e]; exact hz) ?_ _ 0) (Nat.sub_le _ _)
  intro h0; rw [e, h0] at hy; simp at hy
end Mine.Internal

end
section
set_option tactic.hygienic false
open PyProof.V PySem PySem.W PyProof.Rows PySem.Calls PySem.Spec
namespace Mine.Internal
section
variable {prog : Program} {w : World} {A : Around} {E : Value → Shared → Prop} {s : Shared}
theorem eqBool_str_none {x : Str} {t : Tok} {Q : Bool → Shared → Prop} (h : Q false s) : wpAny (model prog w) A (eqBool (.str x t) .none) Q E s := by
  unfold eqBool
  refine wpAny_holding ?_
  have hab : ¬ (Value.str x t == Value.none) = true := fun e => by have := eq_of_beq e; cases this
  rw [if_neg hab]
  exact wpAny_bind (EqNone.eq_str_none (wpAny_truthy_bool h))
theorem tuple_contains_none {t : Addr} {items : Array Value} {ys : List Str} {P : Fin → Shared → Prop} (ht : IsTup s.heap t items) (hi : StrsAre items.toList ys)
    (h : P (.done (.ret (.bool false))) s) : wpAny (model prog w) A (Builtin.«tuple.__contains__» ⟨[.ref t, .none], []⟩) P E s := by
  show wpAny _ _ (Builtin.Tuple.tupleItemsOf (.ref t) >>= _) _ _ s
  refine wpAny_bind (tupleItemsOf_ ht ?_)
  refine wpAny_bind (forIn_array_ _ (fun rest b s' => b.1 = none ∧ s' = s ∧ ∃ ms, StrsAre rest ms) _ ?_ ?_ items _ ⟨rfl, rfl, ys, hi⟩)
  · rintro y rest b s' ⟨hb, rfl, ms, hm⟩
    cases hm with
    | cons n tk hm' => exact wpAny_bind (eqBool_str_none (wpAny_pure ⟨rfl, rfl, _, hm'⟩))
  · rintro ⟨b1, b2⟩ s' ⟨hb, rfl, ms, hm⟩
    simp only at hb
    subst hb
    exact wpAny_pure h
theorem in_tuple_none {t : Addr} {items : Array Value} {ys : List Str} {Q : Value → Shared → Prop} (ht : IsTup s.heap t items) (hi : StrsAre items.toList ys)
    (h : Q (.bool false) s) : wpAny (model prog w) A (compareOp .In .none (.ref t)) Q E s := by
  show wpAny _ _ (do return .bool (← contains (.ref t) .none)) Q E s
  refine wpAny_bind ?_
  unfold contains
  refine wpAny_holding ?_
  refine wpAny_bind (wpAny_specialOf ht.typeIs slot_tuple_contains.lookup ?_)
  rw [if_neg (by decide)]
  exact wpAny_bind (wpAny_callSpecialUnlessNone?_slot (name := Str.ofString "__contains__") ht.typeIs slot_tuple_contains
    (wpAny_call_entry slot_tuple_contains ht.typeIs entry_tuple_contains (tuple_contains_none ht hi ⟨_, rfl, wpAny_truthy_bool (wpAny_pure h)⟩) (args_tuple_contains _ _)))
theorem K_tup {K : Frag} {h₀ : Heap} {L q : Addr} {m : Str → Option Value} {od : Option Addr} {items : Array Value} {n : Nat} {osl : Array (Option Value)} (F : Fr h₀ L s.heap m) (X : K.In h₀)
    (hk : K.lookup q = some ⟨.type "tuple", od, .seq items n, osl⟩) : IsTup s.heap q items := ⟨_, F.keep _ _ (X _ _ hk), rfl, n, rfl⟩
theorem in_tupK {K : Frag} {h₀ : Heap} {L q : Addr} {m : Str → Option Value} {od : Option Addr} {items : Array Value} {n : Nat} {osl : Array (Option Value)} {ys : List Str} {al : Nat → Bool} {c : Nat} {u : Tok} {Q : Value → Shared → Prop}
    (F : Fr h₀ L s.heap m) (X : K.In h₀) (hk : K.lookup q = some ⟨.type "tuple", od, .seq items n, osl⟩) (hi : StrsAre items.toList ys) (he : ∀ c : Nat, ys.any (· == ⟨#[c]⟩) = al c)
    (h : Q (.bool (al c)) s) : wpAny (model prog w) A (compareOp .In (.str ⟨#[c]⟩ u) (.ref q)) Q E s := in_tuple_strs (K_tup F X hk) hi (by rw [he]; exact h)
theorem in_tupK_none {K : Frag} {h₀ : Heap} {L q : Addr} {m : Str → Option Value} {od : Option Addr} {items : Array Value} {n : Nat} {osl : Array (Option Value)} {ys : List Str} {Q : Value → Shared → Prop}
    (F : Fr h₀ L s.heap m) (X : K.In h₀) (hk : K.lookup q = some ⟨.type "tuple", od, .seq items n, osl⟩) (hi : StrsAre items.toList ys)
    (h : Q (.bool false) s) : wpAny (model prog w) A (compareOp .In .none (.ref q)) Q E s := in_tuple_none (K_tup F X hk) hi h
end
noncomputable def alD (hex : Bool) (c : Nat) : Bool := decide (48 ≤ c ∧ c ≤ 57) || (hex && (decide (65 ≤ c ∧ c ≤ 70) || decide (97 ≤ c ∧ c ≤ 102)))
theorem chr_eq (d c : Nat) : ((⟨#[d]⟩ : Str) == ⟨#[c]⟩) = decide (c = d) := by
  rw [Bool.eq_iff_iff, beq_iff_eq, decide_eq_true_iff]
  constructor
  · intro h; injection h with h; have := congrArg Array.toList h; simp at this; exact this.symm
  · rintro rfl; rfl
theorem chr_any (c : Nat) : ∀ L : List Nat, (L.map (fun d => (⟨#[d]⟩ : Str))).any (· == ⟨#[c]⟩) = decide (c ∈ L)
  | [] => by simp
  | d :: r => by rw [List.map_cons, List.any_cons, chr_any c r, chr_eq]; simp [List.mem_cons]
theorem alD_far {c : Nat} (b : Bool) (h : 128 ≤ c) : alD b c = false := by
  have h1 : ¬ c ≤ 57 := Nat.not_le.mpr (Nat.lt_of_lt_of_le (by decide) h)
  have h2 : ¬ c ≤ 70 := Nat.not_le.mpr (Nat.lt_of_lt_of_le (by decide) h)
  have h3 : ¬ c ≤ 102 := Nat.not_le.mpr (Nat.lt_of_lt_of_le (by decide) h)
  simp [alD, h1, h2, h3]
theorem alD_any {b : Bool} {L : List Nat} (hL : ∀ d ∈ L, d < 128) (hb : ∀ c : Nat, c < 128 → decide (c ∈ L) = alD b c) (c : Nat) : (L.map (fun d => (⟨#[d]⟩ : Str))).any (· == ⟨#[c]⟩) = alD b c := by
  rw [chr_any]
  by_cases h : c < 128
  · exact hb c h
  · rw [alD_far b (Nat.not_lt.mp h)]
    exact decide_eq_false fun hc => h (hL c hc)
theorem dec_any (c : Nat) : ([⟨#[48]⟩, ⟨#[49]⟩, ⟨#[50]⟩, ⟨#[51]⟩, ⟨#[52]⟩, ⟨#[53]⟩, ⟨#[54]⟩, ⟨#[55]⟩, ⟨#[56]⟩, ⟨#[57]⟩] : List Str).any (· == ⟨#[c]⟩) = alD false c :=
  alD_any (L := [48, 49, 50, 51, 52, 53, 54, 55, 56, 57]) (by decide +kernel) (by decide +kernel) c
section
variable {prog : Program} {w : World} {A : Around} {E : Value → Shared → Prop} {s : Shared} {K : Frag} {h₀ : Heap} {L q : Addr} {m : Str → Option Value} {z : Int} {u : Tok}
end
noncomputable def tokT : List (Str × PyData) := [(Str.ofString "Doctype", .int 0), (Str.ofString "Characters", .int 1), (Str.ofString "SpaceCharacters", .int 2), (Str.ofString "StartTag", .int 3), (Str.ofString "EndTag", .int 4), (Str.ofString "EmptyTag", .int 5), (Str.ofString "Comment", .int 6), (Str.ofString "ParseError", .int 7)]
theorem tokT_nodup : (tokT.map (·.1)).Nodup := by decide +kernel
section
variable {prog : Program} {w : World} {A : Around} {E : Value → Shared → Prop} {s : Shared} {K : Frag} {h₀ : Heap} {L q : Addr} {m : Str → Option Value} {u : Tok}
theorem item_tok {value slice : Expr} {Q : Value → Shared → Prop} {x : Str} (i : Int) (F : Fr h₀ L s.heap m) (X : K.In h₀) (e : KTD.tabLook KTD.flatLooks (fun b => K.lookup b) q tokT = true)
    (hh : KTD.hashesOf (fun b => K.lookup b) q = tokT.map fun p => (PySem.strKind prog w).hash p.1) (hl : lookup (.str x) (tokT.map fun p => (PyData.str p.1, p.2)) = some (.int i))
    (h : ∀ t, Q (.int i t) { s with toks := s.toks + 1 })
    (hs : subscripted slice false (.ref q) (.str x u) = operate [.ref q, .str x u] (getItem (.ref q) (.str x u)) := by with_unfolding_all rfl) (hg : ∀ r, letTemporaryGo value (.ref q) r = pure () := by intro _; with_unfolding_all rfl) :
    wpAny (model prog w) A (subscriptTail value slice (.ref q) (.str x u)) Q E s := by
  obtain ⟨lo, kvs, ⟨o, es, ep, ho, r⟩, hf⟩ := kt_tab_in prog w X e tokT_nodup hh
  exact item_strTab ⟨lo, kvs, ⟨o, es, ep, F.keep _ _ ho, r⟩, hf⟩ hl (fun v hv => by obtain ⟨t, rfl⟩ := PyProof.V.Flat.int_inv hv; exact h t) hs hg
end
structure MeetH (g : Heap) (L : Addr) (m : Str → Option Value) (news : List (Addr × Obj)) (b0 : Bool) (s : Shared) (b : Bool) (s' : Shared) : Prop where
  val : b = b0
  st : ∃ h' k, s' = { s with heap := h', toks := k } ∧ Fr g L h' m ∧ News g L h' news
section
variable {prog : Program} {w : World} {A : Around} {E : Value → Shared → Prop} {s : Shared} {g : Heap} {L : Addr} {m : Str → Option Value} {news : List (Addr × Obj)}
theorem wp_meetH {t : Sem Bool} {Q : Bool → Shared → Prop} (b0 : Bool) (_ : Fr g L s.heap m) (_ : News g L s.heap news) (hq : ∀ h' k, Fr g L h' m → News g L h' news → Q b0 { s with heap := h', toks := k }) (hw : wpAny (model prog w) A t (MeetH g L m news b0 s) E s) : wpAny (model prog w) A t Q E s :=
  wpAny_mono hw (fun b s' h => by obtain ⟨rfl, h', k, rfl, F', N'⟩ := h; exact hq h' k F' N') (fun _ _ h => h)
theorem meetH_end {b0 b : Bool} {h' : Heap} {k : Nat} (F : Fr g L h' m) (N : News g L h' news) (hb : b = b0) : MeetH g L m news b0 s b { s with heap := h', toks := k } := ⟨hb, h', k, rfl, F, N⟩
end
end Mine.Internal

end
section
set_option tactic.hygienic false
open PySem PySem.W PyProof.Rows PySem.Calls PySem.Spec PySem.NumText
set_option maxRecDepth 100000
namespace Mine.Internal
set_option maxHeartbeats 4000000 in
theorem toList_app (x y : Str) : (x ++ y).cps.toList = x.cps.toList ++ y.cps.toList := by
  show (x.cps ++ y.cps).toList = _
  rw [Array.toList_append]
theorem join_flat : ∀ ys : List Str, (Txt.join (Str.ofString "") ys).cps.toList = (ys.map (·.cps.toList)).flatten := by
  intro ys
  show (Builtin.Str.glued _ ys).cps.toList = _
  rw [StrLaws.glued_eq_join]
  have e0 : (Str.ofString "").cps.toList = [] := by decide +kernel
  induction ys with
  | nil => rfl
  | cons x r ih =>
    cases r with
    | nil => simp [Str.join]
    | cons y r =>
      rw [Str.join, toList_app, toList_app, ih, e0]
      · simp
      · intro h; cases h
section
variable {prog : Program} {w : World} {A : Around} {E : Value → Shared → Prop} {s : Shared} {Q : Value → Shared → Prop}
theorem sum_ones (f : Nat → Str) (hf : ∀ d, (f d).length = 1) : ∀ ds : List Nat, ((ds.map f).map (·.length)).sum = ds.length
  | [] => rfl
  | c :: r => by simp only [List.map_cons, List.sum_cons, hf, sum_ones f hf r, List.length_cons]; omega
theorem join_chs {g : Nat → Str} (hg : ∀ d, g d = ⟨#[d]⟩) {D : Addr} {vs : List Value} {ds : List Nat} {t : Tok} (hl : s.heap.IsList D vs.toArray) (hi : StrsAre vs (ds.map g)) (hn : ds.length ≤ 100000)
    (h : ∀ t' k, Q (.str ⟨ds.toArray⟩ t') { s with toks := k }) : wpAny (model prog w) A (call (.builtin "str.join") [.str (Str.ofString "") t, .ref D]) Q E s := by
  refine join_listW hl hi (by decide) ?_ (fun t' k => ?_)
  · rw [sum_ones g (fun d => by rw [hg]; rfl), List.length_map]; omega
  · have e : Txt.join (Str.ofString "") (ds.map g) = ⟨ds.toArray⟩ := by
      refine Str.ext' (Array.toList_inj.mp ?_)
      rw [join_flat, List.map_map]
      have : ∀ ds : List Nat, (ds.map ((·.cps.toList) ∘ g)).flatten = ds := by
        intro ds
        induction ds with
        | nil => rfl
        | cons c r ih => rw [List.map_cons, List.flatten_cons, ih, Function.comp, hg]; rfl
      exact this ds
    rw [e]; exact h t' k
end
end Mine.Internal

end
section
set_option tactic.hygienic false
open PySem PySem.W PyProof.Rows PySem.Calls PySem.Spec PyProof.V
namespace Mine.Internal
noncomputable abbrev sdict (P : Params) (k0 k1 k2 k3 k4 k5 k6 k7 k8 k9 : Tok) (rce nl ds : Addr) (chunk : Str) (tc : Tok) (size : Int) (ts : Tok) (off : Int) (to : Tok) (er : Addr) (pl : Int) (tl : Tok) (pc : Int) (tp : Tok) (buf : Value) : List DictEntry :=
  [⟨PyData.keyHash P "reportCharacterErrors", .str "reportCharacterErrors" k0, .ref rce⟩,
   ⟨PyData.keyHash P "newLines", .str "newLines" k1, .ref nl⟩,
   ⟨PyData.keyHash P "dataStream", .str "dataStream" k2, .ref ds⟩,
   ⟨PyData.keyHash P "chunk", .str "chunk" k3, .str chunk tc⟩,
   ⟨PyData.keyHash P "chunkSize", .str "chunkSize" k4, .int size ts⟩,
   ⟨PyData.keyHash P "chunkOffset", .str "chunkOffset" k5, .int off to⟩,
   ⟨PyData.keyHash P "errors", .str "errors" k6, .ref er⟩,
   ⟨PyData.keyHash P "prevNumLines", .str "prevNumLines" k7, .int pl tl⟩,
   ⟨PyData.keyHash P "prevNumCols", .str "prevNumCols" k8, .int pc tp⟩,
   ⟨PyData.keyHash P "_bufferedCharacter", .str "_bufferedCharacter" k9, buf⟩]
noncomputable abbrev tdict (P : Params) (j0 j1 : Tok) (src : Str) (tsr : Tok) (place : Int) (tpl : Tok) : List DictEntry :=
  [⟨PyData.keyHash P "text", .str "text" j0, .str src tsr⟩, ⟨PyData.keyHash P "place", .str "place" j1, .int place tpl⟩]
structure St where
  chunk : Str
  tc : Tok
  size : Int
  ts : Tok
  off : Int
  to : Tok
  pl : Int
  tl : Tok
  pc : Int
  tp : Tok
  buf : Value
  pend : List Nat
  place : Int
  tpl : Tok
  es : List Value
  n : Nat
noncomputable def BufIs (buf : Value) (p : List Nat) : Prop := (buf = .none ∧ p = []) ∨ (∃ t, buf = .str ⟨#[13]⟩ t ∧ p = [13])
noncomputable def Hist (src : Str) (pl pc : Int) (r : List Nat) : Prop := ∃ P0 : List Nat, (10 ∉ P0 → pl = 0 ∧ pc = P0.length) ∧ P0 ++ r = mendL src.cps.toList
structure St.ok (src : Str) (x : St) : Prop where
  csize : x.size = x.chunk.length
  off0 : 0 ≤ x.off
  off1 : x.off ≤ x.size
  clen : x.chunk.length ≤ 10000
  place0 : 0 ≤ x.place
  place1 : x.place ≤ src.length
  slen : src.length ≤ 10000
  bufis : BufIs x.buf x.pend
  bud : x.es.length + (src.length - x.place.toNat) + x.pend.length ≤ 50000
  sur : ∀ c ∈ src.cps.toList, c < 55296
  pendat : x.pend ≠ [] → x.place = src.length
  hist : Hist src x.pl x.pc (x.chunk.cps.toList ++ mendL (x.pend ++ src.cps.toList.drop x.place.toNat))
noncomputable def St.rem (src : Str) (x : St) : List Nat := x.chunk.cps.toList.drop x.off.toNat ++ mendL (x.pend ++ src.cps.toList.drop x.place.toNat)
noncomputable abbrev kdict (P : Params) (m0 m1 m2 m3 m4 m5 m6 m7 : Tok) (st : Addr) (v1 v2 v3 v4 v5 v6 : Value) (tq : Addr) : List DictEntry :=
  [⟨PyData.keyHash P "stream", .str "stream" m0, .ref st⟩,
   ⟨PyData.keyHash P "parser", .str "parser" m1, v1⟩,
   ⟨PyData.keyHash P "escapeFlag", .str "escapeFlag" m2, v2⟩,
   ⟨PyData.keyHash P "lastFourChars", .str "lastFourChars" m3, v3⟩,
   ⟨PyData.keyHash P "state", .str "state" m4, v4⟩,
   ⟨PyData.keyHash P "escape", .str "escape" m5, v5⟩,
   ⟨PyData.keyHash P "currentToken", .str "currentToken" m6, v6⟩,
   ⟨PyData.keyHash P "tokenQueue", .str "tokenQueue" m7, .ref tq⟩]
noncomputable def chS (c : Nat) : Str := ⟨#[c]⟩
structure Cn where
  x : St
  vs : List Value
  n : Nat
  cv : Value
noncomputable def CvIs (src : Str) (x : St) (cv : Value) (r : List Nat) : Prop :=
  (cv = .none ∧ r = [] ∧ x.rem src = []) ∨ ∃ (c : Nat) (t : Tok), cv = .str ⟨#[c]⟩ t ∧ r = c :: x.rem src ∧ 1 ≤ x.off ∧ x.chunk.cps[(x.off - 1).toNat]? = some c
noncomputable def posL (chunk : Str) (o pl : Int) : Int := pl + countTo chunk (Str.ofString "\n") 0 o
noncomputable def posC (chunk : Str) (o pc : Int) : Int := if rfindTo chunk (Str.ofString "\n") 0 o = -1 then pc + o else o - (rfindTo chunk (Str.ofString "\n") 0 o + 1)
inductive RPost (w : World) (st sd : Addr) (k0 k1 k2 k3 k4 k5 k6 k7 k8 k9 : Tok) (rce nl ds er dd : Addr) (j0 j1 : Tok) (src : Str) (tsr : Tok) (x : St) : Value → List (Addr × Obj) → Prop
  | mk (x' : St) (b : Bool) (ok : x'.ok src) (h0 : x'.off = 0) (hr : x'.rem src = mendL (x.pend ++ src.cps.toList.drop x.place.toNat)) (h1 : b = true → 1 ≤ x'.size) (h2 : b = false → x'.rem src = []) (hpl : x'.pl = posL x.chunk x.size x.pl) (hpc : x'.pc = posC x.chunk x.size x.pc) :
    RPost w st sd k0 k1 k2 k3 k4 k5 k6 k7 k8 k9 rce nl ds er dd j0 j1 src tsr x (.bool b) [(st, instObj 166 sd), (sd, dictOf (sdict w.params k0 k1 k2 k3 k4 k5 k6 k7 k8 k9 rce nl ds x'.chunk x'.tc x'.size x'.ts x'.off x'.to er x'.pl x'.tl x'.pc x'.tp x'.buf) 10), (ds, instObj 73 dd), (dd, dictOf (tdict w.params j0 j1 src tsr x'.place x'.tpl) 2), (rce, methodObj (.ref 148) (.ref st)), (er, W.listOf x'.es.toArray x'.n)]
noncomputable abbrev kdict7 (P : Params) (m0 m1 m2 m3 m4 m5 m6 : Tok) (st : Addr) (v1 v2 v3 v4 v5 v6 : Value) : List DictEntry :=
  [⟨PyData.keyHash P "stream", .str "stream" m0, .ref st⟩,
   ⟨PyData.keyHash P "parser", .str "parser" m1, v1⟩,
   ⟨PyData.keyHash P "escapeFlag", .str "escapeFlag" m2, v2⟩,
   ⟨PyData.keyHash P "lastFourChars", .str "lastFourChars" m3, v3⟩,
   ⟨PyData.keyHash P "state", .str "state" m4, v4⟩,
   ⟨PyData.keyHash P "escape", .str "escape" m5, v5⟩,
   ⟨PyData.keyHash P "currentToken", .str "currentToken" m6, v6⟩]
inductive TinitP (w : World) (src : Str) (tsr : Tok) (za zd : Addr) : Obj → List (Addr × Obj) → Prop
  | mk (st sd : Addr) (k0 k1 k2 k3 k4 k5 k6 k7 k8 k9 : Tok) (rce nl ds er dd : Addr) (j0 j1 : Tok) (x : St) (m0 m1 m2 m3 m4 m5 m6 : Tok) (v1 v2 v3 v4 v5 v6 : Value)
    (ho : @LT.lt Nat _ sd st ∧ @LT.lt Nat _ st rce ∧ @LT.lt Nat _ rce dd ∧ @LT.lt Nat _ dd ds ∧ @LT.lt Nat _ ds er) (ok : x.ok src) (hrem : x.rem src = mendL src.cps.toList) :
    TinitP w src tsr za zd (W.dictOf (kdict7 w.params m0 m1 m2 m3 m4 m5 m6 st v1 v2 v3 v4 v5 v6) 7) [(st, instObj 166 sd), (sd, dictOf (sdict w.params k0 k1 k2 k3 k4 k5 k6 k7 k8 k9 rce nl ds x.chunk x.tc x.size x.ts x.off x.to er x.pl x.tl x.pc x.tp x.buf) 10), (ds, instObj 73 dd), (dd, dictOf (tdict w.params j0 j1 src tsr x.place x.tpl) 2), (rce, methodObj (.ref 148) (.ref st)), (er, W.listOf x.es.toArray x.n)]

end Mine.Internal

end
section
set_option tactic.hygienic false
open PySem PySem.W PyProof.Rows PySem.Calls PySem.Spec PyProof.V
namespace Mine.Internal
open Builtin Builtin.Str
theorem occ_no {x y : Str} {lo hi lim : Nat} (h : ∀ i, i + y.length ≤ hi → subAt x y i = false) : occurrences x y lo hi lim = [] := by
  rw [StrLaws.occ_eq]
  have key : ∀ l : List Nat, (forIn (m := Id) l ((#[] : Array Nat), lo) (StrLaws.occBody x y hi lim)) = pure (#[], lo) := by
    intro l
    induction l with
    | nil => rfl
    | cons a l ih =>
      have e : StrLaws.occBody x y hi lim a (#[], lo) = pure (.yield (#[], lo)) := by
        unfold StrLaws.occBody
        rw [if_neg]
        rintro ⟨⟨_, h1⟩, h2⟩
        rw [h a h1] at h2; cases h2
      rw [List.forIn_cons, e]; exact ih
  rw [key]; rfl
theorem last_no {x y : Str} {lo hi : Nat} (h : ∀ i, i + y.length ≤ hi → subAt x y i = false) : lastOccurrence x y lo hi = none := by
  rw [StrLaws.last_eq]
  have key : ∀ l : List Nat, (forIn (m := Id) l (none : Option Nat) (StrLaws.lastBody x y hi)) = pure none := by
    intro l
    induction l with
    | nil => rfl
    | cons a l ih =>
      have e : StrLaws.lastBody x y hi a none = pure (.yield none) := by
        unfold StrLaws.lastBody
        rw [if_neg]
        rintro ⟨h1, h2⟩
        rw [h a h1] at h2; cases h2
      rw [List.forIn_cons, e]; exact ih
  rw [key]; rfl
theorem nl_no {x : Str} {n : Nat} (h : 10 ∉ x.cps.toList.take n) {i : Nat} (hi : i + (Str.ofString "\n").length ≤ n) : subAt x (Str.ofString "\n") i = false := by
  have e : (Str.ofString "\n") = ⟨#[10]⟩ := by decide +kernel
  rw [e] at hi ⊢
  have hi : i + 1 ≤ n := hi
  unfold subAt
  rw [beq_eq_false_iff_ne]
  intro q
  have q1 := congrArg (·[0]?) q
  simp only [Array.getElem?_extract] at q1
  have hl : (⟨#[10]⟩ : Str).length = 1 := rfl
  rw [hl] at q1
  by_cases hb : i < x.cps.size
  · have q2 : x.cps[i]? = some 10 := by
      rw [if_pos (by omega)] at q1
      exact q1
    refine h (List.mem_of_getElem? (i := i) ?_)
    rw [List.getElem?_take, if_pos (by omega), Array.getElem?_toList]; exact q2
  · rw [if_neg (by omega)] at q1; cases q1
end Mine.Internal
namespace Mine.Internal
open Builtin Builtin.Str
theorem count_no {x : Str} {o : Int} (h0 : 0 ≤ o) (h : 10 ∉ x.cps.toList.take o.toNat) : countTo x (Str.ofString "\n") 0 o = 0 := by
  unfold countTo
  rw [occ_no (fun i hi => nl_no h (Nat.le_trans hi (Nat.le_trans (Nat.min_le_left _ _) (by unfold fromIndex; split <;> omega))))]; rfl
theorem rfind_no {x : Str} {o : Int} (h0 : 0 ≤ o) (h : 10 ∉ x.cps.toList.take o.toNat) : rfindTo x (Str.ofString "\n") 0 o = -1 := by
  unfold rfindTo
  rw [last_no (fun i hi => nl_no h (Nat.le_trans hi (Nat.le_trans (Nat.min_le_left _ _) (by unfold fromIndex; split <;> omega))))]
theorem pos_no {x : Str} {o pl pc : Int} (h0 : 0 ≤ o) (h : 10 ∉ x.cps.toList.take o.toNat) : posL x o pl = pl ∧ posC x o pc = pc + o := by
  unfold posL posC
  rw [count_no h0 h, rfind_no h0 h, if_pos rfl]
  exact ⟨Int.add_zero _, rfl⟩
theorem hist_step {src chunk : Str} {pl pc size : Int} {R : List Nat} (h : Hist src pl pc (chunk.cps.toList ++ R)) (hs : size = chunk.length) : Hist src (posL chunk size pl) (posC chunk size pc) R := by
  obtain ⟨P0, h1, h2⟩ := h
  refine ⟨P0 ++ chunk.cps.toList, fun hn => ?_, by rw [List.append_assoc]; exact h2⟩
  obtain ⟨e1, e2⟩ := h1 (fun h => hn (List.mem_append_left _ h))
  have ht : 10 ∉ chunk.cps.toList.take size.toNat := fun h => hn (List.mem_append_right _ (List.mem_of_mem_take h))
  have q := pos_no (pl := pl) (pc := pc) (by rw [hs]; exact Int.natCast_nonneg _ : 0 ≤ size) ht
  rw [q.1, q.2, e1, e2, List.length_append, cps_len, hs]
  exact ⟨rfl, (Int.natCast_add _ _).symm⟩
end Mine.Internal

end
section
set_option tactic.hygienic false
open PySem PySem.W PyProof.Rows PySem.Calls PySem.Spec PyProof.V
namespace Mine.Internal
theorem Take.sub {l c rest : Led} (t : Take l c rest) : ∀ p ∈ l, p ∈ c := by
  induction t with
  | nil => intro p hp; cases hp
  | all q => intro p hp; rw [q.eq]; exact List.mem_append_right _ hp
  | cons d _ ih =>
    intro p hp
    refine d.mem p ?_
    cases hp with
    | head => exact .inl rfl
    | tail _ hp => exact .inr (ih p hp)
theorem CtrC.mono {prog : Program} {w : World} {K : Frag} {TP : Heap → Prop} {D U : Nat} {f : Value} {args : Args} {l : Led} {Post Post' : CPost}
    (hp : ∀ v fr l, Post v fr l → Post' v fr l) (C : CtrC prog w K TP D U f args l Post) : CtrC prog w K TP D U f args l Post' := by
  intro A A₀ base h₀ env outer L m s R rest B F X N T hA hf hke hh hd hu hne hQ
  exact C A A₀ base h₀ env outer L m s R rest B F X N T hA hf hke hh hd hu hne (fun v fr l' h' tk' h => hQ v fr l' h' tk' (hp _ _ _ h))
noncomputable def mendF : Bool → List Nat → List Nat
  | _, [] => []
  | f, c :: r => if c = 10 ∧ f = true then mendF false r else if c = 13 then 10 :: mendF true r else c :: mendF false r
theorem mendF_n {f : Bool} : mendF f [] = [] := rfl
theorem mendF_c {f : Bool} {c : Nat} {r : List Nat} : mendF f (c :: r) = if c = 10 ∧ f = true then mendF false r else if c = 13 then 10 :: mendF true r else c :: mendF false r := rfl
theorem mendF_flag {r : List Nat} (h : ∀ t, r ≠ 10 :: t) : mendF true r = mendF false r := by
  cases r with
  | nil => rfl
  | cons c t =>
    have hc : c ≠ 10 := fun e => h t (by rw [e])
    simp [mendF_c, hc]
theorem mendL_eq : ∀ (n : Nat) (l : List Nat), l.length ≤ n → mendL l = mendF false l
  | _, [], _ => rfl
  | 0, c :: r, h => by simp at h
  | n + 1, [c], _ => by
    by_cases hc : c = 13
    · subst hc; decide
    · have hc' : ¬ 13 = c := fun e => hc e.symm
      simp [mendL, repS_n, repS_z, mendF_n, mendF_c, hc, hc', List.isPrefixOf]
  | n + 1, c :: d :: r, h => by
    have h1 : (d :: r).length ≤ n := by simp at h ⊢; omega
    have h2 : r.length ≤ n := by simp at h ⊢; omega
    have i1 := mendL_eq n (d :: r) h1
    have i2 := mendL_eq n r h2
    unfold mendL at i1 i2 ⊢
    by_cases hc : c = 13
    · subst hc
      by_cases hd : d = 10
      · subst hd
        have e : repS [13, 10] [10] 0 (13 :: 10 :: r) = 10 :: repS [13, 10] [10] 0 r := by simp [repS_n, repS_s, repS_z, List.isPrefixOf]
        rw [e]
        have e2 : ∀ t, repS [13] [10] 0 (10 :: t) = 10 :: repS [13] [10] 0 t := fun t => by simp [repS_n, repS_s, repS_z, List.isPrefixOf]
        rw [e2, i2]
        simp [mendF_n, mendF_c]
      · have hd' : ¬ 10 = d := fun e => hd e.symm
        have e : repS [13, 10] [10] 0 (13 :: d :: r) = 13 :: repS [13, 10] [10] 0 (d :: r) := by rw [repS_z, if_neg (by simp [List.isPrefixOf, hd'])]
        have e2 : ∀ t, repS [13] [10] 0 (13 :: t) = 10 :: repS [13] [10] 0 t := fun t => by simp [repS_n, repS_s, repS_z, List.isPrefixOf]
        rw [e, e2, i1]
        have e3 : mendF false (13 :: d :: r) = 10 :: mendF true (d :: r) := by simp [mendF_n, mendF_c]
        rw [e3, mendF_flag (fun t e => hd (List.cons.inj e).1)]
    · have hc' : ¬ 13 = c := fun e => hc e.symm
      have e : repS [13, 10] [10] 0 (c :: d :: r) = c :: repS [13, 10] [10] 0 (d :: r) := by rw [repS_z, if_neg (by simp [List.isPrefixOf, hc'])]
      have e2 : ∀ t, repS [13] [10] 0 (c :: t) = c :: repS [13] [10] 0 t := fun t => by rw [repS_z, if_neg (by simp [List.isPrefixOf, hc'])]
      have e3 : mendF false (c :: d :: r) = c :: mendF false (d :: r) := by simp [mendF_c, hc]
      rw [e, e2, i1, e3]
theorem mendL_F (l : List Nat) : mendL l = mendF false l := mendL_eq l.length l (Nat.le_refl _)
theorem mendF_cr : ∀ (y : List Nat) (f : Bool), mendF f (y ++ [13]) = mendF f y ++ [10]
  | [], f => by cases f <;> rfl
  | c :: r, f => by
    have i := mendF_cr r
    simp only [List.cons_append, mendF_c]
    split
    · exact i _
    · split
      · rw [i]; rfl
      · rw [i]; rfl
set_option tactic.hygienic true
theorem mendF_ne {l : List Nat} (h : l ≠ []) : mendF false l ≠ [] := by
  cases l with
  | nil => exact absurd rfl h
  | cons c r => simp only [mendF_c]; split; (rename_i q; simp at q); split <;> simp
set_option tactic.hygienic false
theorem len_toList (x : Str) : x.cps.toList.length = x.length := by simp [Str.length]
theorem rd_ar {e' e y p x p0 r : Nat} {s : Nat} (hl : e' ≤ e + y) (hyy : x = y + p) (hxx : x = p0 + r) (hes : e + r + p0 ≤ s) : e' + 0 + p ≤ s := by
  have h : y + p = p0 + r := hyy.symm.trans hxx
  clear hyy hxx
  omega
theorem rd_fin {src x y : Str} {p0 pend' : List Nat} {place p' off : Int} {buf' : Value} {es es' : List Value}
    (h0 : 0 ≤ place) (hs : src.length ≤ 10000) (hsu : ∀ c ∈ src.cps.toList, c < 55296)
    (hes : es.length + (src.length - place.toNat) + p0.length ≤ 50000)
    (hx : x.cps.toList = p0 ++ src.cps.toList.drop place.toNat) (hxl : x.length ≤ 10000) (hp' : p' = src.length)
    (hy : x.cps.toList = y.cps.toList ++ pend') (hb : BufIs buf' pend') (hl : es'.length ≤ es.length + y.length) (hoff : off = 0) : ∀ tc ts to pl tl pc tp tpl n,
    (Hist src pl pc (mendL (p0 ++ src.cps.toList.drop place.toNat)) → St.ok src ⟨mendS y, tc, (mendS y).length, ts, off, to, pl, tl, pc, tp, buf', pend', p', tpl, es', n⟩) ∧
    St.rem src ⟨mendS y, tc, (mendS y).length, ts, off, to, pl, tl, pc, tp, buf', pend', p', tpl, es', n⟩ = mendL (p0 ++ src.cps.toList.drop place.toNat) ∧
    (1 ≤ y.length → 1 ≤ ((mendS y).length : Int)) := by
  intro tc ts to pl tl pc tp tpl n
  subst hoff
  have hxx : x.length = p0.length + (src.length - place.toNat) := by
    rw [← len_toList, hx, List.length_append, List.length_drop, len_toList]
  have hyy : x.length = y.length + pend'.length := by rw [← len_toList, hy, List.length_append, len_toList]
  have hm : (mendS y).length ≤ y.length := Nat.le_trans (replace_len (by decide +kernel) (by decide +kernel)) (replace_len (by decide +kernel) (by decide +kernel))
  have hd : src.cps.toList.drop (p'.toNat) = [] := List.drop_of_length_le (by rw [len_toList, hp', Int.toNat_natCast]; exact Nat.le_refl _)
  have hrem : (mendS y).cps.toList ++ mendL (pend' ++ src.cps.toList.drop p'.toNat) = mendL (p0 ++ src.cps.toList.drop place.toNat) := by
    rw [hd, List.append_nil, ← hx, hy, mendS_toList, mendL_F, mendL_F, mendL_F]
    rcases hb with ⟨_, h⟩ | ⟨_, _, h⟩
    · subst h; simp [mendF_n, mendF_c]
    · subst h
      rw [mendF_cr]; rfl
  have hz : src.length - p'.toNat = 0 := by rw [hp', Int.toNat_natCast, Nat.sub_self]
  refine ⟨fun hh => ⟨rfl, Int.le_refl _, Int.natCast_nonneg _, Nat.le_trans hm (Nat.le_trans (Nat.le_trans (Nat.le_add_right _ _) (Nat.le_of_eq hyy.symm)) hxl), hp' ▸ Int.natCast_nonneg _, Int.le_of_eq hp', hs, hb, by dsimp only; rw [hz]; exact rd_ar hl hyy hxx hes, hsu, fun _ => hp', hrem ▸ hh⟩, hrem, ?_⟩
  · intro h1
    have : y.cps.toList ≠ [] := fun e => by have := len_toList y; rw [e] at this; simp at this; omega
    have h2 := mendF_ne this
    rw [← mendL_F, ← mendS_toList] at h2
    have h3 : (mendS y).length ≠ 0 := fun e => h2 (List.length_eq_zero_iff.mp (by rw [len_toList]; exact e))
    omega
theorem rd_none {src x : Str} {place p' size off : Int} {chunk : Str} {es : List Value}
    (h0 : 0 ≤ place) (hs : src.length ≤ 10000) (hsu : ∀ c ∈ src.cps.toList, c < 55296)
    (hes : es.length + (src.length - place.toNat) + ([] : List Nat).length ≤ 50000)
    (hx : x.cps.toList = src.cps.toList.drop place.toNat) (hp' : p' = src.length) (hn : x.length = 0) (hoff : off = 0) (hsize : size = 0) (hch : chunk = Str.ofString "") : ∀ tc ts to pl tl pc tp tpl n,
    (Hist src pl pc (mendL (src.cps.toList.drop place.toNat)) → St.ok src ⟨chunk, tc, size, ts, off, to, pl, tl, pc, tp, .none, [], p', tpl, es, n⟩) ∧
    St.rem src ⟨chunk, tc, size, ts, off, to, pl, tl, pc, tp, .none, [], p', tpl, es, n⟩ = [] ∧ mendL (src.cps.toList.drop place.toNat) = [] := by
  intro tc ts to pl tl pc tp tpl n
  subst hoff; subst hsize; subst hch
  have hl : (Str.ofString "").length = 0 := by decide +kernel
  have hc : (Str.ofString "").cps.toList = [] := by decide +kernel
  have hd : src.cps.toList.drop (p'.toNat) = [] := List.drop_of_length_le (by rw [len_toList, hp', Int.toNat_natCast]; exact Nat.le_refl _)
  have hx0 : x.cps.toList = [] := List.length_eq_zero_iff.mp (by rw [len_toList]; exact hn)
  have hm : mendL (src.cps.toList.drop place.toNat) = [] := by rw [← hx, hx0]; rfl
  refine ⟨fun hh => ⟨by dsimp only; rw [hl]; rfl, Int.le_refl _, Int.le_refl _, by dsimp only; rw [hl]; decide, hp' ▸ Int.natCast_nonneg _, Int.le_of_eq hp', hs, .inl ⟨rfl, rfl⟩, ?_, hsu, fun h => absurd rfl h, by dsimp only; rw [hd, hc]; rw [hm] at hh; exact hh⟩, ?_, hm⟩
  · have hxx : x.length = src.length - place.toNat := by
      rw [← len_toList, hx, List.length_drop, len_toList]
    have hz : src.length - p'.toNat = 0 := by rw [hp', Int.toNat_natCast, Nat.sub_self]
    dsimp only; rw [hz]; exact Nat.le_trans (Nat.add_le_add_right (Nat.add_le_add_left (Nat.zero_le _) _) _) hes
  · unfold St.rem; dsimp only; rw [hd, hc]; rfl
theorem rd_fin0 {src x y : Str} {pend' : List Nat} {place p' : Int} {buf' : Value} {es es' : List Value}
    (h0 : 0 ≤ place) (hs : src.length ≤ 10000) (hsu : ∀ c ∈ src.cps.toList, c < 55296)
    (hes : es.length + (src.length - place.toNat) + ([] : List Nat).length ≤ 50000)
    (hx : x.cps.toList = src.cps.toList.drop place.toNat) (hxl : x.length ≤ 10000) (hp' : p' = src.length)
    (hy : x.cps.toList = y.cps.toList ++ pend') (hb : BufIs buf' pend') (hl : es'.length ≤ es.length + y.length) (hy1 : 1 ≤ y.length) : ∀ tc ts to pl tl pc tp tpl n,
    (Hist src pl pc (mendL (src.cps.toList.drop place.toNat)) → St.ok src ⟨mendS y, tc, (mendS y).length, ts, 0, to, pl, tl, pc, tp, buf', pend', p', tpl, es', n⟩) ∧
    St.rem src ⟨mendS y, tc, (mendS y).length, ts, 0, to, pl, tl, pc, tp, buf', pend', p', tpl, es', n⟩ = mendL (src.cps.toList.drop place.toNat) ∧
    1 ≤ ((mendS y).length : Int) := fun tc ts to pl tl pc tp tpl n =>
  have h := rd_fin (off := 0) h0 hs hsu hes (hx.trans (List.nil_append _).symm) hxl hp' hy hb hl rfl tc ts to pl tl pc tp tpl n
  ⟨h.1, h.2.1, h.2.2 hy1⟩
theorem c13 {c d : Nat} {l : List Nat} (h : (c : Int) = 13) (h1 : l.getLast? = some c) (h2 : l.getLast? = some d) : d = 13 := by
  rw [h1] at h2; cases h2; omega
theorem cut_len {x y : Str} {c : Nat} (hy : x.cps.toList = y.cps.toList ++ [c]) (h : 1 < (x.length : Int)) : 1 ≤ y.length := by
  have := congrArg List.length hy
  rw [List.length_append, len_toList, len_toList] at this
  simp only [List.length_cons, List.length_nil] at this
  omega
theorem last_cut {x : Str} {j : Int} {c : Nat} (hj : j = -1) (hc : x.cps.toList.getLast? = some c) : x.cps.toList = (Txt.slice x none (some j)).cps.toList ++ [c] := by
  rw [slice_last hj]
  show _ = x.cps.toList.dropLast ++ [c]
  have hne : x.cps.toList ≠ [] := fun e => by rw [e] at hc; cases hc
  have := List.dropLast_concat_getLast hne
  rw [List.getLast?_eq_some_getLast hne] at hc
  rw [← Option.some.inj hc]; exact this.symm
theorem St.ok.at {src : Str} {x : St} (ok : x.ok src) (h : x.off < x.size) : ∃ c, x.chunk.cps[x.off.toNat]? = some c := by
  have h1 := ok.off0; have h2 := ok.csize
  have h3 : x.off.toNat < x.chunk.cps.size := by simp only [Str.length] at h2; omega
  exact ⟨x.chunk.cps[x.off.toNat], Array.getElem?_eq_getElem h3⟩
theorem St.ok.small {src : Str} {x : St} (ok : x.ok src) : x.off < 9223372036854775808 := by
  have h1 := ok.off1; have h2 := ok.csize; have h3 := ok.clen; omega
theorem getq {x : Str} {k c : Nat} (hc : x.cps[k]? = some c) : x.cps.toList[k]? = some c := by rw [Array.getElem?_toList]; exact hc
theorem drop_at {l : List Nat} {k c : Nat} (hc : l[k]? = some c) : l.drop k = c :: l.drop (k + 1) := by
  obtain ⟨h, e⟩ := List.getElem?_eq_some_iff.mp hc
  rw [List.drop_eq_getElem_cons h, e]
theorem rem_step {src : Str} {x : St} (ok : x.ok src) {c : Nat} (hc : x.chunk.cps[x.off.toNat]? = some c) {o : Int} (ho : o = x.off + 1) : ∀ to, ∀ t : Tok, 
    St.ok src { x with off := o, to := to } ∧ x.rem src = c :: St.rem src { x with off := o, to := t } ∧ 1 ≤ o ∧ x.chunk.cps[(o - 1).toNat]? = some c := by
  intro to t
  subst ho
  have h1 := ok.off0; have h2 := ok.csize; have h4 := ok.off1
  have h3 : x.off.toNat < x.chunk.cps.size := (Array.getElem?_eq_some_iff.mp hc).1
  have h5 : x.off < x.size := by rw [h2]; exact (Int.toNat_lt h1).mp h3
  have e1 : (x.off + 1).toNat = x.off.toNat + 1 := Int.toNat_add h1 (by decide)
  have e2 : (x.off + 1 - 1).toNat = x.off.toNat := by rw [Int.add_sub_cancel]
  refine ⟨⟨ok.csize, Int.le_trans h1 (Int.le_of_lt (Int.lt_succ _)), h5, ok.clen, ok.place0, ok.place1, ok.slen, ok.bufis, ok.bud, ok.sur, ok.pendat, ok.hist⟩, ?_, Int.add_le_add_right h1 1, by rw [e2]; exact hc⟩
  unfold St.rem
  dsimp only
  rw [e1, drop_at (getq hc), List.cons_append]
theorem rem_end {src : Str} {x : St} (ok : x.ok src) (h : x.size ≤ x.off) : x.rem src = mendL (x.pend ++ src.cps.toList.drop x.place.toNat) := by
  unfold St.rem
  have h1 := ok.off0; have h2 := ok.csize
  rw [List.drop_of_length_le (by rw [len_toList]; omega), List.nil_append]
theorem rem_back {src : Str} {x : St} (ok : x.ok src) {c : Nat} (h1 : 1 ≤ x.off) (hc : x.chunk.cps[(x.off - 1).toNat]? = some c) {o : Int} (ho : o = x.off - 1) : ∀ to t : Tok,
    St.ok src { x with off := o, to := to } ∧ St.rem src { x with off := o, to := t } = c :: x.rem src := by
  intro to t
  subst ho
  have h4 := ok.off1
  have h0 : 0 ≤ x.off - 1 := Int.sub_nonneg.mpr h1
  have e1 : x.off.toNat = (x.off - 1).toNat + 1 := (congrArg Int.toNat (Int.sub_add_cancel x.off 1)).symm.trans (Int.toNat_add h0 (by decide : (0 : Int) ≤ 1))
  refine ⟨⟨ok.csize, h0, Int.le_trans (Int.sub_le_self _ (by decide)) h4, ok.clen, ok.place0, ok.place1, ok.slen, ok.bufis, ok.bud, ok.sur, ok.pendat, ok.hist⟩, ?_⟩
  unfold St.rem
  dsimp only
  rw [drop_at (getq hc), ← e1, List.cons_append]
section
variable {prog : Program} {w : World} {A : Around} {E : Value → Shared → Prop} {s : Shared} {value slice : Expr} {src : Str} {x : St} {t u : Tok} {Q : Value → Shared → Prop}
theorem sub_st (ok : x.ok src) (h : x.off < x.size) (hq : ∀ c, x.chunk.cps[x.off.toNat]? = some c → Q (.str ⟨#[c]⟩ s.toks) { s with toks := s.toks + 1 })
    (hs : subscripted slice false (.str x.chunk t) (.int x.off u) = operate [.str x.chunk t, .int x.off u] (getItem (.str x.chunk t) (.int x.off u)) := by with_unfolding_all rfl)
    (ht : ∀ r, letTemporaryGo value (.str x.chunk t) r = pure () := by intro _; with_unfolding_all rfl) :
    wpAny (model prog w) A (subscriptTail value slice (.str x.chunk t) (.int x.off u)) Q E s := by
  obtain ⟨c, hc⟩ := ok.at h
  exact sub_chr ok.off0 ok.small hc (hq c hc) hs ht
end
theorem rd_cr {src : Str} {place p' : Int} {es es' : List Value} (h0 : 0 ≤ place) (hs : src.length ≤ 10000) (hsu : ∀ c ∈ src.cps.toList, c < 55296)
    (hes : es.length + (src.length - place.toNat) + ([13] : List Nat).length ≤ 50000) (hpl : place = src.length) (hp' : p' = src.length)
    (hl : es'.length ≤ es.length + (Str.ofString "\x0d").length) : ∀ tc ts to pl tl pc tp tpl n,
    (Hist src pl pc (mendL (13 :: src.cps.toList.drop place.toNat)) → St.ok src ⟨Str.ofString "\n", tc, (Str.ofString "\n").length, ts, 0, to, pl, tl, pc, tp, .none, [], p', tpl, es', n⟩) ∧
    St.rem src ⟨Str.ofString "\n", tc, (Str.ofString "\n").length, ts, 0, to, pl, tl, pc, tp, .none, [], p', tpl, es', n⟩ = mendL (13 :: src.cps.toList.drop place.toNat) ∧
    1 ≤ ((Str.ofString "\n").length : Int) := by
  intro tc ts to pl tl pc tp tpl n
  have l1 : (Str.ofString "\n").length = 1 := by decide +kernel
  have l2 : (Str.ofString "\x0d").length = 1 := by decide +kernel
  have c1 : (Str.ofString "\n").cps.toList = [10] := by decide +kernel
  rw [l2] at hl
  have hd : src.cps.toList.drop (p'.toNat) = [] := List.drop_of_length_le (by rw [len_toList, hp', Int.toNat_natCast]; exact Nat.le_refl _)
  have hd2 : src.cps.toList.drop (place.toNat) = [] := List.drop_of_length_le (by rw [len_toList, hpl, Int.toNat_natCast]; exact Nat.le_refl _)
  have hz : src.length - p'.toNat = 0 := by rw [hp', Int.toNat_natCast, Nat.sub_self]
  simp only [List.length_cons, List.length_nil] at hes
  have hrem : (Str.ofString "\n").cps.toList ++ mendL ([] ++ src.cps.toList.drop p'.toNat) = mendL (13 :: src.cps.toList.drop place.toNat) := by
    rw [hd, hd2, c1, mendL_F, mendL_F]
    rfl
  exact ⟨fun hh => ⟨rfl, Int.le_refl _, Int.natCast_nonneg _, by dsimp only; rw [l1]; decide, hp' ▸ Int.natCast_nonneg _, Int.le_of_eq hp', hs, .inl ⟨rfl, rfl⟩, by dsimp only [List.length_nil]; rw [hz]; exact Nat.le_trans hl (Nat.le_trans (Nat.add_le_add_right (Nat.le_add_right _ _) _) hes), hsu, fun h => absurd rfl h, hrem ▸ hh⟩, hrem, by rw [l1]; decide⟩
theorem CtrC.frame {prog : Program} {w : World} {K : Frag} {TP : Heap → Prop} {D U : Nat} {f : Value} {args : Args} {l e : Led} {Post : CPost}
    (C : CtrC prog w K TP D U f args l Post) (hd : ∀ p ∈ e, ∀ q ∈ l, p.1 ≠ q.1) : CtrC prog w K TP D U f args (l ++ e) (fun v fr l' => ∃ l'', l' = l'' ++ e ∧ Post v fr l'') := by
  intro A A₀ base h₀ env outer L m s R rest B F X N T hA hf hke hh hdp hu hne hQ
  rw [List.append_assoc] at N
  refine C A A₀ base h₀ env outer L m s R (e ++ rest) B F X N T hA hf hke hh hdp hu (fun p hp q hq => ?_) (fun v fr l' h' tk' h ht hfr F' N' => ?_)
  · rcases List.mem_append.mp hp with hp | hp
    · exact hd p hp q hq
    · exact hne p hp q (List.mem_append_left _ hq)
  · refine hQ v fr (l' ++ e) h' tk' ⟨l', rfl, h⟩ ht (fun p hp r hr => hfr p hp r (by rw [← List.append_assoc]; exact hr)) F' ?_
    rw [show fr ++ (l' ++ e) ++ rest = fr ++ l' ++ (e ++ rest) from by simp [List.append_assoc]]
    exact N'
noncomputable def Cn.mu (src : Str) (c : Cn) : Nat := (c.x.rem src).length + (match c.cv with | .none => 0 | _ => 1)
theorem mendF_len : ∀ (l : List Nat) (f : Bool), (mendF f l).length ≤ l.length
  | [], _ => Nat.le_refl _
  | c :: r, f => by
    have i1 := mendF_len r false
    have i2 := mendF_len r true
    simp only [mendF_c]
    split
    · simp only [List.length_cons]; omega
    · split <;> (simp only [List.length_cons]; omega)
theorem St.ok.remlen {src : Str} {x : St} (ok : x.ok src) : (x.rem src).length ≤ 20001 := by
  have h1 := ok.clen; have h2 := ok.slen
  have h3 : x.pend.length ≤ 1 := by rcases ok.bufis with ⟨_, h⟩ | ⟨_, _, h⟩ <;> rw [h] <;> simp
  have h4 := mendF_len (x.pend ++ src.cps.toList.drop x.place.toNat) false
  unfold St.rem
  rw [mendL_F, List.length_append, List.length_drop, len_toList]
  rw [List.length_append, List.length_drop, len_toList] at h4
  exact Nat.le_trans (Nat.add_le_add (Nat.le_trans (Nat.sub_le _ _) h1) (Nat.le_trans h4 (Nat.add_le_add h3 (Nat.le_trans (Nat.sub_le _ _) h2)))) (by decide)
theorem strs_len {vs : List Value} {ys : List Str} (h : StrsAre vs ys) : vs.length = ys.length := by
  induction h with
  | nil => rfl
  | cons _ _ _ ih => rw [List.length_cons, List.length_cons, ih]
theorem strs_snoc {vs : List Value} {ys : List Str} (y : Str) (t : Tok) (h : StrsAre vs ys) : StrsAre (vs ++ [.str y t]) (ys ++ [y]) := by
  induction h with
  | nil => exact .cons y t .nil
  | cons y' t' _ ih => exact .cons y' t' ih
structure MeetW {σ : Type} (g : Heap) (L : Addr) (s : Shared) (Led : σ → List (Addr × Obj)) (ps : σ → List (Str × Value)) (stored : List Str) (m₀ : Str → Option Value) (X : σ → Prop) (f : Flow) (s' : Shared) : Prop where
  fl : f = .next
  st : ∃ (c : σ) (u : Str → Option Value) (h' : Heap) (k : Nat), s' = { s with heap := h', toks := k } ∧ Fr g L h' (kstB (fun z => if stored.contains z then u z else m₀ z) (ps c)) ∧ News g L h' (Led c) ∧ X c
section
variable {prog : Program} {w : World} {A : Around} {E : Value → Shared → Prop} {Q : Flow → Shared → Prop} {s : Shared} {env : Env} {g : Heap} {L : Addr} {σ : Type}
theorem meetW_end {Led : σ → List (Addr × Obj)} {ps : σ → List (Str × Value)} {stored : List Str} {m₀ : Str → Option Value} {X : σ → Prop} {h' : Heap} {k : Nat} {news : List (Addr × Obj)} (c : σ) (u : Str → Option Value)
    (F : Fr g L h' (kstB (fun z => if stored.contains z then u z else m₀ z) (ps c))) (N : News g L h' news) (hn : ∀ p ∈ Led c, p ∈ news) (x : X c) : MeetW g L s Led ps stored m₀ X .next { s with heap := h', toks := k } :=
  ⟨rfl, c, u, h', k, rfl, F, fun p hp => N p (hn p hp), x⟩
theorem ksw_meet {test : Expr} {body : List Stmt} {pos : Pos} {m₀ : Str → Option Value} (Led : σ → List (Addr × Obj)) (ps : σ → List (Str × Value)) (stored : List Str) (P X : σ → Prop) (μ : σ → Nat) (c₀ : σ)
    (F : Fr g L s.heap m₀) (N : News g L s.heap (Led c₀)) (hk : ∀ p ∈ ps c₀, m₀ p.1 = some p.2) (hp : P c₀)
    (hq : ∀ (c : σ) (u : Str → Option Value) h k, X c → Fr g L h (kstB (fun z => if stored.contains z then u z else m₀ z) (ps c)) → News g L h (Led c) → Q .next { s with heap := h, toks := k })
    (turn : ∀ (c : σ) (u : Str → Option Value) h tk, P c → Fr g L h (kstB (fun z => if stored.contains z then u z else m₀ z) (ps c)) → News g L h (Led c) →
      wpAny (model prog w) A (isTrue test env (eval test env)) (fun b s₂ =>
        if b = true then wpAny (model prog w) A (execs body env) (KswPost g L s Led ps (fun _ => True) stored m₀ P μ (MeetW g L s Led ps stored m₀ X) c) E s₂ else MeetW g L s Led ps stored m₀ X .next s₂) E { s with heap := h, toks := tk })
    (hE : PassesOwn (model prog w) A env E := by passes_own) :
    wpAny (model prog w) A (exec (.While test body [] pos) env) Q E s := by
  refine wpAny_mono (ksw_while Led ps (fun _ => True) stored P μ c₀ F N trivial hk hp (Q := MeetW g L s Led ps stored m₀ X) (fun c u h tk _ hp' F' N' => turn c u h tk hp' F' N') hE) (fun f s' h => ?_) (fun _ _ e => e)
  obtain ⟨hf, c, u, h', k, hs, F', N', x⟩ := h
  rw [hf, hs]
  exact hq c u h' k x F' N'
end
end Mine.Internal

end
section
set_option tactic.hygienic false
open PySem PySem.W PyProof.Rows PySem.Calls PySem.Spec
namespace Mine.Internal
noncomputable def InitP (C x dx : Addr) (P : Addr → Addr → Obj → Led → Prop) : CPost := fun v fr l => v = .none ∧ ∃ d, l = [(x, instObj C dx), (dx, d)] ∧ P x dx d fr
noncomputable def ClsP (C : Addr) (P : Addr → Addr → Obj → Led → Prop) : CPost := fun v fr l => l = [] ∧ ∃ x dx d fr', @LT.lt Nat _ dx x ∧ (∀ p ∈ fr', @LT.lt Nat _ x p.1) ∧ v = .ref x ∧ fr = fr' ++ [(x, instObj C dx), (dx, d)] ∧ P x dx d fr'
theorem CtrC.cls {prog : Program} {w : World} {K : Frag} {TP : Heap → Prop} {D U : Nat} {C fI : Addr} {pos : List Value} {kw : List (Str × Value)} {P : Addr → Addr → Obj → Led → Prop}
    (hm : makesIn K C = true) (hi : findIn K (.ref C) "__init__" = some (some (.ref fI))) (hf : isFn K (.ref fI) = true)
    (c : ∀ x dx, @LT.lt Nat _ dx x → CtrC prog w K TP (D + 1) (U + 9) (.ref fI) ⟨.ref x :: pos, kw⟩ [(x, instObj C dx), (dx, dictOf [] 0)] (InitP C x dx P)) :
    Ctr prog w K TP D U (PySem.call (.ref C) pos kw) [] (ClsP C P) := by
  intro A A₀ base h₀ env outer L m s Q E rest B F X N T hA hf' hke hh hd hu hne hQ
  refine call_cls (news := rest) F X N hm hi hf fun x dx h' F' N' l1 l2 => ?_
  refine c x dx l2 _ A₀ base h₀ env outer L m { s with heap := h' } _ rest B F' X N' T hA hf' hke hh (Nat.succ_le_succ hd) (by have e : (Code.builtin "type.__call__" ⟨Value.ref C :: pos, kw⟩).cUnits ≤ 9 := Nat.le_of_ble_eq_true rfl; show _ ≤ _; simp only [Around.under]; omega) ?_ ?_
  · intro p hp q hq
    have h1 : @LT.lt Nat _ p.1 dx := l1 p hp
    simp only [List.mem_cons, List.not_mem_nil, or_false] at hq
    rcases hq with rfl | rfl
    · exact Nat.ne_of_lt (Nat.lt_trans h1 l2)
    · exact Nat.ne_of_lt h1
  · intro v fr l' h2 tk' hp ht hfr F2 N2
    obtain ⟨rfl, d, rfl, hp⟩ := hp
    refine ⟨rfl, hQ _ (fr ++ [(x, instObj C dx), (dx, d)]) [] h2 tk' ⟨rfl, x, dx, d, fr, l2, fun p hp => hfr p hp _ (.head _), rfl, rfl, hp⟩ ht ?_ F2 (fun p hp => N2 p (by simpa using hp))⟩
    intro p hp r hr
    have hr' : @LT.lt Nat _ r.1 dx := l1 r hr
    rcases List.mem_append.mp hp with hp | hp
    · exact hfr p hp r (List.mem_append_right _ hr)
    · simp only [List.mem_cons, List.not_mem_nil, or_false] at hp
      rcases hp with rfl | rfl
      · exact Nat.lt_trans hr' l2
      · exact hr'
end Mine.Internal

end
section
set_option tactic.hygienic false
open PySem PySem.W PyProof.Rows PySem.Calls PySem.Spec PyProof.V
namespace Mine.Internal
structure Ks where
  st : Addr
  sd : Addr
  k0 : Tok
  k1 : Tok
  k2 : Tok
  k3 : Tok
  k4 : Tok
  k5 : Tok
  k6 : Tok
  k7 : Tok
  k8 : Tok
  k9 : Tok
  rce : Addr
  nl : Addr
  ds : Addr
  er : Addr
  dd : Addr
  j0 : Tok
  j1 : Tok
  src : Str
  tsr : Tok
noncomputable def Ks.ord (K : Ks) : Prop := @LT.lt Nat _ K.sd K.st ∧ @LT.lt Nat _ K.st K.rce ∧ @LT.lt Nat _ K.rce K.dd ∧ @LT.lt Nat _ K.dd K.ds ∧ @LT.lt Nat _ K.ds K.er
@[irreducible] noncomputable def Ks.led (w : World) (K : Ks) (x : St) : Led :=
  [(K.st, instObj 166 K.sd), (K.sd, dictOf (sdict w.params K.k0 K.k1 K.k2 K.k3 K.k4 K.k5 K.k6 K.k7 K.k8 K.k9 K.rce K.nl K.ds x.chunk x.tc x.size x.ts x.off x.to K.er x.pl x.tl x.pc x.tp x.buf) 10),
   (K.ds, instObj 73 K.dd), (K.dd, dictOf (tdict w.params K.j0 K.j1 K.src K.tsr x.place x.tpl) 2), (K.rce, methodObj (.ref 148) (.ref K.st)), (K.er, W.listOf x.es.toArray x.n)]
theorem Ks.led_eq (w : World) (K : Ks) (x : St) : K.led w x =
  [(K.st, instObj 166 K.sd), (K.sd, dictOf (sdict w.params K.k0 K.k1 K.k2 K.k3 K.k4 K.k5 K.k6 K.k7 K.k8 K.k9 K.rce K.nl K.ds x.chunk x.tc x.size x.ts x.off x.to K.er x.pl x.tl x.pc x.tp x.buf) 10),
   (K.ds, instObj 73 K.dd), (K.dd, dictOf (tdict w.params K.j0 K.j1 K.src K.tsr x.place x.tpl) 2), (K.rce, methodObj (.ref 148) (.ref K.st)), (K.er, W.listOf x.es.toArray x.n)] := by
  unfold Ks.led; rfl
theorem Take.blk {w : World} {K : Ks} {x : St} {N cs : Led} (t : Tl (K.led w x) N cs) : Take (K.led w x) N cs := .all t
theorem Ks.between {w : World} {K : Ks} {x : St} (o : K.ord) : ∀ q ∈ K.led w x, @LE.le Nat _ K.sd q.1 ∧ @LE.le Nat _ q.1 K.er := by
  obtain ⟨h1, h2, h3, h4, h5⟩ := o
  unfold Ks.led
  simp only [List.forall_mem_cons]
  have a2 := Nat.lt_trans h1 h2; have a3 := Nat.lt_trans a2 h3; have a4 := Nat.lt_trans a3 h4; have a5 := Nat.lt_trans a4 h5; have b2 := Nat.lt_trans h4 h5; have b3 := Nat.lt_trans h3 b2; have b4 := Nat.lt_trans h2 b3
  refine ⟨?_, ?_, ?_, ?_, ?_, ?_, fun _ h => nomatch h⟩ <;> constructor <;> first | exact Nat.le_refl _ | exact Nat.le_of_lt (by assumption)
noncomputable def Outs (K : Ks) (es : Led) : Prop := ∀ p ∈ es, @LT.lt Nat _ p.1 K.sd ∨ @LT.lt Nat _ K.er p.1
theorem Outs.nil {K : Ks} : Outs K [] := fun _ h => nomatch h
theorem Outs.lo {K : Ks} {a : Addr} {o : Obj} {es : Led} (h : @LT.lt Nat _ a K.sd) (r : Outs K es) : Outs K ((a, o) :: es) := fun p hp => by
  cases hp with
  | head => exact .inl h
  | tail _ hp => exact r p hp
theorem Outs.hi {K : Ks} {a : Addr} {o : Obj} {es : Led} (h : @LT.lt Nat _ K.er a) (r : Outs K es) : Outs K ((a, o) :: es) := fun p hp => by
  cases hp with
  | head => exact .inr h
  | tail _ hp => exact r p hp
theorem Outs.ne {w : World} {K : Ks} {x : St} {es : Led} (h : Outs K es) (o : K.ord) : ∀ p ∈ es, ∀ q ∈ K.led w x, @Ne Nat p.1 q.1 := fun p hp q hq e => by
  obtain ⟨h1, h2⟩ := Ks.between (w := w) (x := x) o q hq
  rcases h p hp with h | h
  · exact absurd (Nat.lt_of_lt_of_le h h1) (by rw [e]; exact Nat.lt_irrefl _)
  · exact absurd (Nat.lt_of_le_of_lt h2 h) (by rw [e]; exact Nat.lt_irrefl _)
theorem Ks.ne_all {w : World} {K : Ks} {x : St} {a : Addr} (o : K.ord) (h : @LT.lt Nat _ a K.sd ∨ @LT.lt Nat _ K.er a) : ∀ q ∈ K.led w x, q.1 ≠ a := fun q hq e =>
  Outs.ne (es := [(a, instObj 0 0)]) (fun p hp => by cases List.mem_singleton.mp hp; exact h) o _ (.head _) q hq e.symm
theorem ne_by {a d : Addr} {o : Obj} {l : Led} (h : ∀ p ∈ l, p.1 < d) (m : (a, o) ∈ l) : @Ne Nat a d := Nat.ne_of_lt (h _ m)
theorem ne_by' {a d : Addr} {o : Obj} {l : Led} (h : ∀ p ∈ l, p.1 < d) (m : (a, o) ∈ l) : @Ne Nat d a := Nat.ne_of_gt (h _ m)
theorem Ks.lo_hi (K : Ks) (o : K.ord) : @LT.lt Nat _ K.sd K.er := by
  obtain ⟨h1, h2, h3, h4, h5⟩ := o
  exact Nat.lt_trans h1 (Nat.lt_trans h2 (Nat.lt_trans h3 (Nat.lt_trans h4 h5)))
theorem Ks.er_lt {w : World} {K : Ks} {x : St} {d : Addr} {N : Led} (h : ∀ p ∈ N, p.1 < d) (s : ∀ p ∈ K.led w x, p ∈ N) : @LT.lt Nat _ K.er d :=
  h (K.er, W.listOf x.es.toArray x.n) (s _ (by rw [Ks.led_eq]; exact .tail _ (.tail _ (.tail _ (.tail _ (.tail _ (.head _)))))))
theorem tail_ne {w : World} {K : Ks} {x : St} {d : Addr} {N o : Led} (h : ∀ p ∈ N, p.1 < d) (s : ∀ p ∈ o, p ∈ N) (k : K.ord) (hd : @LT.lt Nat _ d K.sd ∨ @LT.lt Nat _ K.er d) : ∀ q ∈ o ++ K.led w x, q.1 ≠ d := fun q hq => by
  rcases List.mem_append.mp hq with hq | hq
  · exact Nat.ne_of_lt (h q (s q hq))
  · exact Ks.ne_all k hd q hq
structure Kz where
  za : Addr
  zd : Addr
  m0 : Tok
  m1 : Tok
  m2 : Tok
  m3 : Tok
  m4 : Tok
  m5 : Tok
  m6 : Tok
  v1 : Value
  v2 : Value
  v3 : Value
  v4 : Value
  v5 : Value
  v6 : Value
noncomputable abbrev Kz.kd (w : World) (Z : Kz) (st : Addr) (m7 : Tok) (tq : Addr) : Obj := dictOf (kdict w.params Z.m0 Z.m1 Z.m2 Z.m3 Z.m4 Z.m5 Z.m6 m7 st Z.v1 Z.v2 Z.v3 Z.v4 Z.v5 Z.v6 tq) 8
noncomputable abbrev Kz.kd7 (w : World) (Z : Kz) (st : Addr) : Obj := dictOf (kdict7 w.params Z.m0 Z.m1 Z.m2 Z.m3 Z.m4 Z.m5 Z.m6 st Z.v1 Z.v2 Z.v3 Z.v4 Z.v5 Z.v6) 7
theorem Srt.five {K : Ks} {Z : Kz} {tq : Addr} (h : K.ord) (k : @LT.lt Nat _ Z.zd Z.za ∧ @LT.lt Nat _ Z.za K.sd ∧ @LT.lt Nat _ K.er tq) : Srt [tq, K.er, K.sd, Z.za, Z.zd] := by
  obtain ⟨h1, h2, h3, h4, h5⟩ := h
  obtain ⟨k1, k2, k3⟩ := k
  have S0 : Srt [Z.zd] := ⟨fun _ h => (nomatch h), trivial⟩
  exact (((S0.grow k1).grow k2).grow (Nat.lt_trans h1 (Nat.lt_trans h2 (Nat.lt_trans h3 (Nat.lt_trans h4 h5))))).grow k3
theorem one_lt_tq5 {K : Ks} {Z : Kz} {tq : Addr} (h : K.ord) (k : @LT.lt Nat _ Z.zd Z.za ∧ @LT.lt Nat _ Z.za K.sd ∧ @LT.lt Nat _ K.er tq) : @LT.lt Nat _ 1 tq := by
  obtain ⟨h1, h2, h3, h4, h5⟩ := h
  have e1 : @LT.lt Nat _ 0 K.st := Nat.lt_of_le_of_lt (Nat.zero_le K.sd) h1
  have e2 : @LT.lt Nat _ 1 K.rce := Nat.lt_of_le_of_lt e1 h2
  exact Nat.lt_trans e2 (Nat.lt_trans h3 (Nat.lt_trans h4 (Nat.lt_trans h5 k.2.2)))
section
variable {prog : Program} {w : World} {A : Around} {E : Value → Shared → Prop} {s : Shared} {Kf : Frag} {L : Addr} {h₀ : Heap} {m : Str → Option Value}
theorem meth_blk {K : Ks} {x : St} {nl rest : Led} {name : Str} {f : Addr} {pl : Sem Bool} {Q : Value × List Value → Shared → Prop} (F : Fr h₀ L s.heap m) (X₀ : Kf.In h₀) (N : News h₀ L s.heap nl) (tk : Take (K.led w x) nl rest)
    (hg : plainGet Kf 166 name = true) (hf : findIn Kf (.ref 166) name = some (some (.ref f))) (ht : isFn Kf (.ref f) = true)
    (hl : getL name (sdict w.params K.k0 K.k1 K.k2 K.k3 K.k4 K.k5 K.k6 K.k7 K.k8 K.k9 K.rce K.nl K.ds x.chunk x.tc x.size x.ts x.off x.to K.er x.pl x.tl x.pc x.tp x.buf) = some none)
    (h : Q (.ref f, [.ref K.st]) s) : wpAny (model prog w) A (getMethod (.ref K.st) name pl) Q E s := by
  have N2 : News h₀ L s.heap (K.led w x) := fun p hp => N p (tk.sub p hp)
  rw [Ks.led_eq] at N2
  exact method_inst F X₀ (InstAt.of_news N2 (.head _) (.tail _ (.head _))) hg hf ht hl h
end
end Mine.Internal

end
section
set_option tactic.hygienic false
open PySem PySem.W PyProof.Rows PySem.Calls PySem.Spec PyProof.V
namespace Mine.Internal
theorem ok_start {src : Str} (hs : src.length ≤ 10000) (hsu : ∀ c ∈ src.cps.toList, c < 55296) {tc ts to tl tp tpl : Tok} {n : Nat} :
    St.ok src ⟨Str.ofString "", tc, 0, ts, 0, to, 0, tl, 0, tp, .none, [], 0, tpl, [], n⟩ := by
  have hl : (Str.ofString "").length = 0 := by decide +kernel
  exact ⟨by dsimp only; rw [hl]; rfl, Int.le_refl _, Int.le_refl _, by dsimp only; omega, Int.le_refl _, by dsimp only; omega, hs, .inl ⟨rfl, rfl⟩, by simp only [List.length_nil]; omega, hsu, fun h => absurd rfl h, ⟨[], fun _ => ⟨rfl, rfl⟩, by rw [show (Str.ofString "").cps.toList = [] from by decide +kernel]; rfl⟩⟩
theorem rem_start {src : Str} (_ : src.length ≤ 10000) {tc ts to tl tp tpl : Tok} {n : Nat} :
    St.rem src ⟨Str.ofString "", tc, 0, ts, 0, to, 0, tl, 0, tp, .none, [], 0, tpl, [], n⟩ = mendL src.cps.toList := by
  have hc : (Str.ofString "").cps.toList = [] := by decide +kernel
  unfold St.rem
  dsimp only
  rw [hc]
  rfl

theorem al_f {b : Bool} (h : (b == false) = true) : b = false := by cases b <;> first | rfl | cases h
theorem al_t {b : Bool} (h : (b == false) = false) : b = true := by cases b <;> first | rfl | cases h
structure Cu where
  x : St
  vs : List Value
  n : Nat
noncomputable def flat (ws : List Str) : List Nat := (ws.map (·.cps.toList)).flatten
theorem flat_snoc (ws : List Str) (y : Str) : flat (ws ++ [y]) = flat ws ++ y.cps.toList := by simp [flat]
structure Cu.ok (src : Str) (al : Nat → Bool) (L : List Nat) (c : Cu) : Prop where
  sok : c.x.ok src
  ex : ∃ ws, StrsAre c.vs ws ∧ L = flat ws ++ c.x.rem src ∧ (∀ d ∈ flat ws, al d = false) ∧ c.vs.length + 2 * (c.x.rem src).length + (if c.x.off = c.x.size then 1 else 0) ≤ 2 * L.length + 1
structure CuX (src : Str) (al : Nat → Bool) (L : List Nat) (c : Cu) : Prop where
  sok : c.x.ok src
  vl : c.vs.length ≤ 100000
  ex : ∃ ws, StrsAre c.vs ws ∧ L = flat ws ++ c.x.rem src ∧ (∀ d ∈ flat ws, al d = false) ∧ (∀ d t, c.x.rem src = d :: t → al d = true)
noncomputable def Cu.mu (src : Str) (c : Cu) : Nat := 2 * (c.x.rem src).length + (if c.x.off = c.x.size then 1 else 0)
theorem Cu.start {src : Str} {al : Nat → Bool} {x : St} (ok : x.ok src) : Cu.ok src al (x.rem src) ⟨x, [], 0⟩ :=
  ⟨ok, [], .nil, rfl, (fun _ h => nomatch h), by simp only [List.length_nil]; split <;> omega⟩
theorem Cu.vlen {src : Str} {L : List Nat} {m k : Nat} {x : St} (ok : x.ok src) (hL : x.rem src = L) (h : m + 2 * k + b ≤ 2 * L.length + 1) : m ≤ 50000 := by
  have := ok.remlen; rw [hL] at this; omega
structure RunTo (al : Nat → Bool) (x : St) (e : Int) : Prop where
  lo : x.off ≤ e
  hi : e ≤ x.size
  all : ∀ k : Nat, x.off ≤ k → (k : Int) < e → ∀ d, x.chunk.cps[k]? = some d → al d = false
theorem RunTo.start {src : Str} {al : Nat → Bool} {x : St} (ok : x.ok src) : RunTo al x x.off := ⟨Int.le_refl _, ok.off1, fun k h1 h2 => by omega⟩
theorem RunTo.step {al : Nat → Bool} {x : St} {e : Int} (h0 : 0 ≤ x.off) (r : RunTo al x e) {c : Nat} (hc : x.chunk.cps[e.toNat]? = some c) (ha : al c = false) (he : e < x.size) : RunTo al x (e + 1) :=
  ⟨by have := r.lo; omega, by omega, fun k h1 h2 d hd => by
    have hlo := r.lo
    rcases (show (k : Int) < e ∨ e ≤ k by omega) with h | h
    · exact r.all k h1 h d hd
    · have : k = e.toNat := by omega
      rw [this, hc] at hd; cases hd; exact ha⟩
theorem St.ok.at2 {src : Str} {x : St} (ok : x.ok src) {e : Int} (h0 : 0 ≤ e) (h : e < x.size) : ∃ c, x.chunk.cps[e.toNat]? = some c := by
  have h2 := ok.csize
  have h3 : e.toNat < x.chunk.cps.size := by simp only [Str.length] at h2; omega
  exact ⟨x.chunk.cps[e.toNat], Array.getElem?_eq_getElem h3⟩
theorem run_stop {al : Nat → Bool} {ys0 : List Str} (hal0 : ∀ c : Nat, ys0.any (· == ⟨#[c]⟩) = al c) (x : St) (e : Int) {c : Nat} (hc : x.chunk.cps[e.toNat]? = some c) (h : ((ys0.any fun z => z == ⟨#[c]⟩) == false) = false) (h2 : e ≤ x.size) (h3 : e ≠ x.size) :
    ∃ d, x.chunk.cps[e.toNat]? = some d ∧ al d = true ∧ e < x.size := ⟨c, hc, (hal0 c).symm.trans (al_t h), by omega⟩
theorem lo_at {a : Int} {i : Nat} (h0 : 0 ≤ a) : a ≤ ((a.toNat + i : Nat) : Int) := by
  rw [Int.natCast_add, Int.toNat_of_nonneg h0]; exact Int.le_add_of_nonneg_right (Int.natCast_nonneg i)
theorem hi_at {a e : Int} {i : Nat} (h0 : 0 ≤ a) (h : i < (e - a).toNat) : ((a.toNat + i : Nat) : Int) < e := by
  rw [Int.natCast_add, Int.toNat_of_nonneg h0]; exact Int.add_lt_of_lt_sub_left (Int.lt_toNat.mp h)
theorem to_at {a e : Int} (h0 : 0 ≤ a) (h : a ≤ e) : e.toNat = a.toNat + (e - a).toNat := by
  rw [← Int.toNat_add h0 (Int.sub_nonneg.mpr h), Int.add_comm, Int.sub_add_cancel]
theorem len_at {a e : Int} {n : Nat} (h0 : 0 ≤ a) (h : a ≤ e) (he : e = (n : Int)) : n - a.toNat = (e - a).toNat := by
  have h1 := to_at h0 h
  have h2 : n = a.toNat + (e - a).toNat := by rw [← h1, he, Int.toNat_natCast]
  exact Nat.sub_eq_of_eq_add (h2.trans (Nat.add_comm _ _))
theorem RunTo.take {src : Str} {al : Nat → Bool} {x : St} {e : Int} (ok : x.ok src) (r : RunTo al x e) :
    (∀ d ∈ (x.chunk.cps.toList.drop x.off.toNat).take (e - x.off).toNat, al d = false) ∧ x.rem src = (x.chunk.cps.toList.drop x.off.toNat).take (e - x.off).toNat ++ St.rem src { x with off := e } := by
  have h0 := ok.off0; have h1 := r.lo; have h2 := r.hi; have h3 := ok.csize
  constructor
  · intro d hd
    obtain ⟨i, hi, e1⟩ := List.mem_iff_getElem.mp hd
    rw [List.length_take, List.length_drop, len_toList] at hi
    have : x.chunk.cps[x.off.toNat + i]? = some d := by
      rw [← Array.getElem?_toList, ← e1, List.getElem_take, List.getElem_drop, List.getElem?_eq_getElem]
    exact r.all (x.off.toNat + i) (lo_at h0) (hi_at h0 (Nat.lt_of_lt_of_le hi (Nat.min_le_left _ _))) d this
  · unfold St.rem
    dsimp only
    rw [← List.append_assoc]
    congr 1
    rw [to_at h0 h1, ← List.drop_drop, List.take_append_drop]
theorem St.ok.to {src : Str} {x : St} (ok : x.ok src) {e : Int} (h0 : 0 ≤ e) (h1 : e ≤ x.size) (t : Tok) : St.ok src { x with off := e, to := t } :=
  ⟨ok.csize, h0, h1, ok.clen, ok.place0, ok.place1, ok.slen, ok.bufis, ok.bud, ok.sur, ok.pendat, ok.hist⟩
theorem rem_at {src : Str} {x : St} {e : Int} {c : Nat} (hc : x.chunk.cps[e.toNat]? = some c) : ∃ t, St.rem src { x with off := e } = c :: t := by
  unfold St.rem
  dsimp only
  rw [drop_at (getq hc)]
  exact ⟨_, rfl⟩
theorem cux_stop {src : Str} {al : Nat → Bool} {L : List Nat} {x : St} {vs : List Value} {n : Nat} {ws : List Str} {c : Nat} (ok : x.ok src) (hv : StrsAre vs ws) (hL : L = flat ws ++ x.rem src) (ha : ∀ d ∈ flat ws, al d = false)
    (hc : x.chunk.cps[x.off.toNat]? = some c) (hs : al c = true) (hvl : vs.length ≤ 50000) : CuX src al L ⟨x, vs, n⟩ := by
  refine ⟨ok, by dsimp only; omega, ws, hv, hL, ha, fun d t h => ?_⟩
  obtain ⟨t', h'⟩ := rem_at (src := src) hc
  have : c :: t' = d :: t := h'.symm.trans h
  injection this with e; rw [← e]; exact hs
theorem cux_run {src : Str} {al : Nat → Bool} {L : List Nat} {x : St} {vs : List Value} {n : Nat} {ws : List Str} {c : Nat} {e : Int} {t1 t2 : Tok} (ok : x.ok src) (hv : StrsAre vs ws) (hL : L = flat ws ++ x.rem src) (ha : ∀ d ∈ flat ws, al d = false)
    (r : RunTo al x e) (hc : x.chunk.cps[e.toNat]? = some c) (hs : al c = true) (hvl : vs.length ≤ 50000) : CuX src al L ⟨{ x with off := e, to := t2 }, vs ++ [.str (Txt.slice x.chunk (some x.off) (some e)) t1], n⟩ := by
  have h0 := ok.off0; have h1 := r.lo
  obtain ⟨q1, q2⟩ := r.take ok
  have e1 : (Txt.slice x.chunk (some x.off) (some e)).cps.toList = (x.chunk.cps.toList.drop x.off.toNat).take (e - x.off).toNat := by rw [slice_ss h0 h1]
  refine ⟨ok.to (by omega) r.hi t2, by dsimp only; rw [List.length_append, List.length_singleton]; omega, ws ++ [_], strs_snoc _ _ hv, ?_, ?_, fun d t h => ?_⟩
  · rw [flat_snoc, e1, hL, q2, List.append_assoc]; rfl
  · intro d hd
    rw [flat_snoc, e1] at hd
    rcases List.mem_append.mp hd with hd | hd
    · exact ha d hd
    · exact q1 d hd
  · obtain ⟨t', h'⟩ := rem_at (src := src) hc
    have : c :: t' = d :: t := h'.symm.trans h
    injection this with e; rw [← e]; exact hs
theorem cu_end {src : Str} {al : Nat → Bool} {L : List Nat} {x y : St} {vs : List Value} {n : Nat} {ws : List Str} {e : Int} {t1 : Tok} (ok : x.ok src) (hv : StrsAre vs ws) (hL : L = flat ws ++ x.rem src) (ha : ∀ d ∈ flat ws, al d = false)
    (r : RunTo al x e) (he : e = x.size) (hy : y.ok src) (hyr : y.rem src = mendL (x.pend ++ src.cps.toList.drop x.place.toNat)) :
    ∃ ws', StrsAre (vs ++ [.str (Txt.slice x.chunk (some x.off) none) t1]) ws' ∧ L = flat ws' ++ y.rem src ∧ (∀ d ∈ flat ws', al d = false) ∧ (x.rem src).length = (x.size - x.off).toNat + (y.rem src).length := by
  have h0 := ok.off0; have h1 := r.lo; have h3 := ok.csize
  obtain ⟨q1, q2⟩ := r.take ok
  have e1 : (Txt.slice x.chunk (some x.off) none).cps.toList = x.chunk.cps.toList.drop x.off.toNat := by rw [slice_sn h0]
  have e2 : (x.chunk.cps.toList.drop x.off.toNat).take (e - x.off).toNat = x.chunk.cps.toList.drop x.off.toNat := List.take_of_length_le (Nat.le_of_eq (by rw [List.length_drop, len_toList]; exact len_at h0 h1 (he.trans h3)))
  rw [e2] at q1
  refine ⟨ws ++ [_], strs_snoc _ _ hv, ?_, ?_, ?_⟩
  · rw [flat_snoc, e1, hL, hyr, List.append_assoc]; rfl
  · intro d hd
    rw [flat_snoc, e1] at hd
    rcases List.mem_append.mp hd with hd | hd
    · exact ha d hd
    · exact q1 d hd
  · rw [hyr]; unfold St.rem; rw [List.length_append, List.length_drop, len_toList, len_at h0 (he ▸ h1) h3]
theorem cu_ar1 {v xr yr L : Nat} {o s : Int} (hb : v + 2 * xr + (if o = s then 1 else 0) ≤ 2 * L + 1) (q : xr = (s - o).toNat + yr) (h : o ≤ s) : v + 1 + 2 * yr + 0 ≤ 2 * L + 1 := by
  by_cases e : o = s
  · rw [if_pos e] at hb; omega
  · have h1 : 1 ≤ (s - o).toNat := Int.lt_toNat.mpr (Int.sub_pos_of_lt (Int.lt_iff_le_and_ne.mpr ⟨h, e⟩))
    clear h e; omega
theorem cu_ar2 {xr yr : Nat} {o s : Int} (q : xr = (s - o).toNat + yr) (h : o ≤ s) : 2 * yr + 0 < 2 * xr + (if o = s then 1 else 0) := by
  by_cases e : o = s
  · rw [if_pos e]; omega
  · have h1 : 1 ≤ (s - o).toNat := Int.lt_toNat.mpr (Int.sub_pos_of_lt (Int.lt_iff_le_and_ne.mpr ⟨h, e⟩))
    rw [if_neg e]; clear h e; omega
theorem cu_next {src : Str} {al : Nat → Bool} {L : List Nat} {x y : St} {vs : List Value} {n : Nat} {ws : List Str} {e : Int} {t1 : Tok} (ok : x.ok src) (hv : StrsAre vs ws) (hL : L = flat ws ++ x.rem src) (ha : ∀ d ∈ flat ws, al d = false)
    (hb : vs.length + 2 * (x.rem src).length + (if x.off = x.size then 1 else 0) ≤ 2 * L.length + 1)
    (r : RunTo al x e) (he : e = x.size) (hy : y.ok src) (hyr : y.rem src = mendL (x.pend ++ src.cps.toList.drop x.place.toNat)) (hy0 : y.off = 0) (hy1 : 1 ≤ y.size) :
    Cu.ok src al L ⟨y, vs ++ [.str (Txt.slice x.chunk (some x.off) none) t1], n⟩ ∧ ∀ m, Cu.mu src ⟨y, vs ++ [.str (Txt.slice x.chunk (some x.off) none) t1], n⟩ < Cu.mu src ⟨x, vs, m⟩ := by
  obtain ⟨ws', q1, q2, q3, q4⟩ := cu_end (n := 0) (t1 := t1) ok hv hL ha r he hy hyr
  have h4 := ok.off1
  have hs : ¬ y.off = y.size := fun e => absurd (hy0.symm.trans e ▸ hy1) (by decide)
  refine ⟨⟨hy, ws', q1, q2, q3, ?_⟩, fun m => ?_⟩
  · dsimp only
    rw [if_neg hs, List.length_append, List.length_singleton]
    exact cu_ar1 hb q4 h4
  · unfold Cu.mu
    dsimp only
    rw [if_neg hs]
    exact cu_ar2 q4 h4
theorem cux_end {src : Str} {al : Nat → Bool} {L : List Nat} {x y : St} {vs : List Value} {n : Nat} {ws : List Str} {e : Int} {t1 : Tok} (ok : x.ok src) (hv : StrsAre vs ws) (hL : L = flat ws ++ x.rem src) (ha : ∀ d ∈ flat ws, al d = false)
    (r : RunTo al x e) (he : e = x.size) (hy : y.ok src) (hyr : y.rem src = mendL (x.pend ++ src.cps.toList.drop x.place.toNat)) (hy0 : y.rem src = []) (hvl : vs.length ≤ 50000) :
    CuX src al L ⟨y, vs ++ [.str (Txt.slice x.chunk (some x.off) none) t1], n⟩ := by
  obtain ⟨ws', q1, q2, q3, q4⟩ := cu_end (n := 0) (t1 := t1) ok hv hL ha r he hy hyr
  exact ⟨hy, by dsimp only; rw [List.length_append, List.length_singleton]; omega, ws', q1, q2, q3, fun d t h => by dsimp only at h; rw [hy0] at h; cases h⟩
section
variable {prog : Program} {w : World} {A : Around} {E : Value → Shared → Prop} {s : Shared} {h₀ : Heap} {L : Addr} {m : Str → Option Value} {news : List (Addr × Obj)}
theorem meetW_fin {σ : Type} {g : Heap} {Led : σ → List (Addr × Obj)} {ps : σ → List (Str × Value)} {stored : List Str} {m₀ m' : Str → Option Value} {X : σ → Prop} {h' : Heap} {k : Nat} {news : List (Addr × Obj)} (c : σ)
    (F : Fr g L h' m') (N : News g L h' news) (hn : ∀ p ∈ Led c, p ∈ news) (hk : ∀ p ∈ ps c, m' p.1 = some p.2) (hr : ∀ z, (∀ p ∈ ps c, z ≠ p.1) → stored.contains z = false → m' z = m₀ z) (x : X c) : MeetW g L s Led ps stored m₀ X .next { s with heap := h', toks := k } :=
  meetW_end c m' (ksw_fr hk hr F) N hn x
theorem flat_sum : ∀ ws : List Str, (ws.map (·.length)).sum = (flat ws).length
  | [] => rfl
  | y :: r => by
    have := flat_sum r
    rw [List.map_cons, List.sum_cons, this]
    show y.length + _ = (flat ([y] ++ r)).length
    rw [show flat ([y] ++ r) = y.cps.toList ++ flat r from by simp [flat], List.length_append, len_toList]
theorem join_flats {D : Addr} {vs : List Value} {ws : List Str} {t : Tok} {Q : Value → Shared → Prop} (hl : s.heap.IsList D vs.toArray) (hi : StrsAre vs ws) (hn : vs.length ≤ 100000) (hm : (flat ws).length ≤ 100000)
    (h : ∀ t' k, Q (.str ⟨(flat ws).toArray⟩ t') { s with toks := k }) : wpAny (model prog w) A (call (.builtin "str.join") [.str (Str.ofString "") t, .ref D]) Q E s := by
  refine join_listW hl hi (by decide) ?_ (fun t' k => ?_)
  · rw [flat_sum, ← strs_len hi]; omega
  · have e : Txt.join (Str.ofString "") ws = ⟨(flat ws).toArray⟩ := Str.ext' (Array.toList_inj.mp (join_flat ws))
    rw [e]; exact h t' k
theorem sub_st2 {src : Str} {x : St} {value slice : Expr} {t u : Tok} {e : Int} {Q : Value → Shared → Prop} (ok : x.ok src) (h0 : 0 ≤ e) (h : e < x.size) (hq : ∀ c, x.chunk.cps[e.toNat]? = some c → Q (.str ⟨#[c]⟩ s.toks) { s with toks := s.toks + 1 })
    (hs : subscripted slice false (.str x.chunk t) (.int e u) = operate [.str x.chunk t, .int e u] (getItem (.str x.chunk t) (.int e u)) := by with_unfolding_all rfl)
    (ht : ∀ r, letTemporaryGo value (.str x.chunk t) r = pure () := by intro _; with_unfolding_all rfl) :
    wpAny (model prog w) A (subscriptTail value slice (.str x.chunk t) (.int e u)) Q E s := by
  obtain ⟨c, hc⟩ := ok.at2 h0 h
  have := ok.csize; have := ok.clen
  exact sub_chr h0 (by omega) hc (hq c hc) hs ht
end
theorem CuX.vlen {src : Str} {x : St} {ws : List Str} {y : St} (ok : x.ok src) (hL : x.rem src = flat ws ++ y.rem src) : (flat ws).length ≤ 100000 := by
  have := ok.remlen; rw [hL, List.length_append] at this; omega
end Mine.Internal

end
section
set_option tactic.hygienic false
open PySem PySem.W PyProof.Rows PySem.Calls PySem.Spec PyProof.V
namespace Mine.Internal
structure FaultO (prog : Program) (w : World) (z : Int) (b : Addr) (oa ob : Obj) : Prop where
  tok : ∃ t1 t2, oa.IsDictOf (PySem.strKind prog w) [(Str.ofString "type", .int 7 t1), (Str.ofString "data", .str (Str.ofString "illegal-codepoint-for-numeric-entity") t2), (Str.ofString "datavars", .ref b)]
  vars : ∃ t, ob.IsDictOf (PySem.strKind prog w) [(Str.ofString "charAsInt", .int z t)]
theorem not_mods {a : Addr} (h : @LT.lt Nat _ 1 a) : (a == sysModules) = false := beq_eq_false_iff_ne.mpr (Nat.ne_of_gt h)
end Mine.Internal
namespace Mine.Internal
theorem ne59 {c : Nat} (h : ((⟨#[c]⟩ : Str) != Str.ofString ";") = true) : c ≠ 59 := by
  rintro rfl
  exact absurd h (by decide +kernel)
theorem eq59 {c : Nat} (h : ((⟨#[c]⟩ : Str) != Str.ofString ";") = false) : c = 59 := by
  have h1 : (⟨#[c]⟩ : Str) = Str.ofString ";" := by simpa using h
  have h2 : (Str.ofString ";") = ⟨#[59]⟩ := by decide +kernel
  rw [h2] at h1
  injection h1 with h1
  have := congrArg Array.toList h1
  simpa using this
end Mine.Internal
namespace Mine.Internal
end Mine.Internal
namespace Mine.Internal
end Mine.Internal
namespace Mine.Internal
end Mine.Internal

end
section
set_option tactic.hygienic false
open PySem PySem.W PyProof.Rows PySem.Calls PySem.Spec PyProof.V
namespace Mine.Internal
inductive Kd where
  | tok (ty : Int) (x : Str)
  | num (z : Int)
noncomputable def TokO (prog : Program) (w : World) (ty : Int) (x : Str) (o : Obj) : Prop := ∃ t1 t2, o.IsDictOf (PySem.strKind prog w) [(Str.ofString "type", .int ty t1), (Str.ofString "data", .str x t2)]
noncomputable def KdO (prog : Program) (w : World) (fl : Led) : Kd → Value → Prop
  | .tok ty x, v => ∃ a o, v = .ref a ∧ (a, o) ∈ fl ∧ (a == sysModules) = false ∧ TokO prog w ty x o
  | .num z, v => ∃ a oa b ob, v = .ref a ∧ (a, oa) ∈ fl ∧ (b, ob) ∈ fl ∧ (a == sysModules) = false ∧ (b == sysModules) = false ∧ FaultO prog w z b oa ob
inductive QIs (prog : Program) (w : World) (fl : Led) : List Value → List Kd → Prop
  | nil : QIs prog w fl [] []
  | cons {v : Value} {vs : List Value} {k : Kd} {ks : List Kd} : KdO prog w fl k v → QIs prog w fl vs ks → QIs prog w fl (v :: vs) (k :: ks)
section
variable {prog : Program} {w : World} {A : Around} {E : Value → Shared → Prop} {s : Shared} {h₀ : Heap} {L : Addr} {news : List (Addr × Obj)}
theorem KdO.mono {fl fl' : Led} (h : ∀ p ∈ fl, p ∈ fl') {k : Kd} {v : Value} (q : KdO prog w fl k v) : KdO prog w fl' k v := by
  cases k with
  | tok ty x => obtain ⟨a, o, e, m, r⟩ := q; exact ⟨a, o, e, h _ m, r⟩
  | num z => obtain ⟨a, oa, b, ob, e, m1, m2, r⟩ := q; exact ⟨a, oa, b, ob, e, h _ m1, h _ m2, r⟩
theorem QIs.mono {fl fl' : Led} (h : ∀ p ∈ fl, p ∈ fl') {vs : List Value} {ks : List Kd} (q : QIs prog w fl vs ks) : QIs prog w fl' vs ks := by
  induction q with
  | nil => exact .nil
  | cons k _ ih => exact .cons (k.mono h) ih
theorem QIs.app {fl : Led} {vs vs' : List Value} {ks ks' : List Kd} (q : QIs prog w fl vs ks) (q' : QIs prog w fl vs' ks') : QIs prog w fl (vs ++ vs') (ks ++ ks') := by
  induction q with
  | nil => exact q'
  | cons k _ ih => exact .cons k ih
theorem QIs.len {fl : Led} {vs : List Value} {ks : List Kd} (q : QIs prog w fl vs ks) : vs.length = ks.length := by
  induction q with
  | nil => rfl
  | cons _ _ ih => rw [List.length_cons, List.length_cons, ih]
end
section
variable {prog : Program} {w : World} {h : Heap} {h₀ : Heap} {L : Addr} {nl : List (Addr × Obj)}
end
theorem Take.sup {l c rest : Led} (t : Take l c rest) : ∀ p ∈ c, p ∈ l ++ rest := by
  induction t with
  | nil => intro p hp; exact hp
  | all q => intro p hp; rw [q.eq] at hp; rcases List.mem_append.mp hp with h | h; exact List.mem_append_right _ h; exact List.mem_append_left _ h
  | cons d _ ih =>
    intro p hp
    have : ∀ {q : Addr × Obj} {l l' : Led}, Del q l l' → ∀ p ∈ l, p = q ∨ p ∈ l' := by
      intro q l l' d
      induction d with
      | head => intro p hp; exact List.mem_cons.mp hp
      | tail _ ih => intro p hp; rcases List.mem_cons.mp hp with rfl | hp; exact .inr (.head _); rcases ih p hp with h | h; exact .inl h; exact .inr (.tail _ h)
    rcases this d p hp with rfl | h
    · exact .head _
    · exact .tail _ (ih p h)
end Mine.Internal

end
section
set_option tactic.hygienic false
open PySem PySem.W PyProof.Rows PySem.Calls PySem.Spec PyProof.V
namespace Mine.Internal
theorem lo_le {w : World} {K : Ks} {Z : Kz} {tq : Addr} {x : St} {o1 o2 o3 : Obj} (ho : K.ord) (hk : @LT.lt Nat _ Z.zd Z.za ∧ @LT.lt Nat _ Z.za K.sd ∧ @LT.lt Nat _ K.er tq) : ∀ q ∈ (Z.za, o1) :: (Z.zd, o2) :: (tq, o3) :: K.led w x, @LE.le Nat _ q.1 tq := by
  have e := K.lo_hi ho
  obtain ⟨h1, h2, h3⟩ := hk
  have hz : @LT.lt Nat _ Z.za tq := Nat.lt_trans h2 (Nat.lt_trans e h3)
  intro q hq
  rcases List.mem_cons.mp hq with rfl | hq
  · exact Nat.le_of_lt hz
  rcases List.mem_cons.mp hq with rfl | hq
  · exact Nat.le_of_lt (Nat.lt_trans h1 hz)
  rcases List.mem_cons.mp hq with rfl | hq
  · exact Nat.le_refl _
  exact Nat.le_of_lt (Nat.lt_of_le_of_lt (Ks.between ho q hq).2 h3)
end Mine.Internal

end
section
set_option tactic.hygienic false
open PySem PySem.W PyProof.Rows PySem.Calls PySem.Spec PyProof.V
namespace Mine.Internal
section
variable {prog : Program} {w : World} {A : Around} {E : Value → Shared → Prop} {s : Shared} {g : Heap} {L : Addr} {m : Str → Option Value} {news : List (Addr × Obj)}
structure MeetV (g : Heap) (L : Addr) (m : Str → Option Value) (news : List (Addr × Obj)) (P : Value → Prop) (s : Shared) (v : Value) (s' : Shared) : Prop where
  val : P v
  st : ∃ (h' : Heap) (k : Nat), s' = { s with heap := h', toks := k } ∧ Fr g L h' m ∧ News g L h' news
theorem wp_meetV {t : Sem Value} {Q : Value → Shared → Prop} (P : Value → Prop) (_ : Fr g L s.heap m) (_ : News g L s.heap news) (hq : ∀ v h' k, P v → Fr g L h' m → News g L h' news → Q v { s with heap := h', toks := k })
    (hw : wpAny (model prog w) A t (MeetV g L m news P s) E s) : wpAny (model prog w) A t Q E s :=
  wpAny_mono hw (fun v s' ⟨hv, h', k, e, F, N⟩ => by subst e; exact hq v h' k hv F N) (fun _ _ e => e)
theorem meetV_end {P : Value → Prop} {v : Value} {h' : Heap} {k : Nat} {news' : List (Addr × Obj)} (F : Fr g L h' m) (N : News g L h' news') (hn : ∀ p ∈ news, p ∈ news') (hv : P v) : MeetV g L m news P s v { s with heap := h', toks := k } := ⟨hv, h', k, rfl, F, fun p hp => N p (hn p hp)⟩
end
end Mine.Internal
namespace Mine.Internal
theorem ints_len {vs : List Value} {ns : List Int} (h : IntsAre vs ns) : vs.length = ns.length := by
  induction h with
  | nil => rfl
  | cons _ _ _ ih => rw [List.length_cons, List.length_cons, ih]
end Mine.Internal

end
section
set_option tactic.hygienic false
open PySem PySem.W PyProof.Rows PySem.Calls PySem.Spec PyProof.V
namespace Mine.Internal
noncomputable def entK : List Str := [Str.ofString "AMP", Str.ofString "AMP;", Str.ofString "Eacute", Str.ofString "Eacute;", Str.ofString "Mopf;", Str.ofString "ac;", Str.ofString "acE;", Str.ofString "acute", Str.ofString "acute;", Str.ofString "amp", Str.ofString "amp;", Str.ofString "ang;", Str.ofString "angle;", Str.ofString "bne;", Str.ofString "copy", Str.ofString "copy;", Str.ofString "eacute", Str.ofString "eacute;", Str.ofString "frac12", Str.ofString "frac12;", Str.ofString "gt", Str.ofString "gt;", Str.ofString "lt", Str.ofString "lt;", Str.ofString "nbsp", Str.ofString "nbsp;", Str.ofString "not", Str.ofString "not;", Str.ofString "notin;", Str.ofString "notni;", Str.ofString "para", Str.ofString "para;", Str.ofString "parallel;", Str.ofString "quot", Str.ofString "quot;", Str.ofString "sup1", Str.ofString "sup1;", Str.ofString "sup2", Str.ofString "sup2;", Str.ofString "sup;", Str.ofString "times", Str.ofString "times;", Str.ofString "timesb;"]
@[irreducible] noncomputable def keyS (j : Nat) : Str := entK.getD j Str.empty
noncomputable abbrev keyAt (j : Nat) : List Nat := (keyS j).cps.toList
theorem key_mono : ∀ i : Nat, i < 43 → ∀ j : Nat, j < 43 → i < j → keyAt i < keyAt j := by decide +kernel
structure Bis (p : Str) (lo hi : Int) : Prop where
  lo0 : 0 ≤ lo
  le : lo ≤ hi
  hi1 : hi ≤ 43
  less : ∀ j : Nat, (j : Int) < lo → keyAt j < p.cps.toList
  geq : ∀ j : Nat, hi ≤ (j : Int) → j < 43 → ¬ keyAt j < p.cps.toList
theorem Bis.start (p : Str) : Bis p 0 43 := ⟨Int.le_refl _, by decide, Int.le_refl _, fun j h => by omega, fun j h1 h2 => by omega⟩
theorem Bis.mid {p : Str} {lo hi : Int} (_ : Bis p lo hi) (h : lo < hi) : lo ≤ (lo + hi).fdiv 2 ∧ (lo + hi).fdiv 2 < hi := by
  rw [Int.fdiv_eq_ediv_of_nonneg _ (by decide)]; omega
theorem Bis.up {p : Str} {lo hi mid : Int} (b : Bis p lo hi) (h1 : lo ≤ mid) (h2 : mid < hi) (h : (keyS mid.toNat).cps.toList < p.cps.toList) : Bis p (mid + 1) hi :=
  have h0 := b.lo0
  have h3 := b.hi1
  ⟨by omega, by omega, h3, fun j hj => by
    by_cases e : j = mid.toNat
    · subst e; exact h
    · exact List.lt_trans (key_mono j (by omega) mid.toNat (by omega) (by omega)) h, b.geq⟩
theorem Bis.down {p : Str} {lo hi mid : Int} (b : Bis p lo hi) (h1 : lo ≤ mid) (h2 : mid < hi) (h : ¬ (keyS mid.toNat).cps.toList < p.cps.toList) : Bis p lo mid :=
  have h0 := b.lo0
  have h3 := b.hi1
  ⟨h0, h1, by omega, b.less, fun j hj hj2 => by
    by_cases e : j = mid.toNat
    · subst e; exact h
    · exact fun q => h (List.lt_trans (key_mono mid.toNat (by omega) j hj2 (by omega)) q)⟩
noncomputable def hasPre (p : Str) : Bool := entK.any fun k => p.cps.toList.isPrefixOf k.cps.toList
end Mine.Internal
namespace Mine.Internal
section
variable {prog : Program} {w : World} {A : Around} {E : Value → Shared → Prop} {s : Shared} {K : Frag} {h₀ : Heap} {L q : Addr} {m : Str → Option Value} {u : Tok}
theorem words_in {ws : List Str} (F : Fr h₀ L s.heap m) (X : K.In h₀) (hk : KTD.datLooks (fun b => K.lookup b) (.words ws) (.ref q) = true) : ∃ vs, s.heap.IsList q vs.toArray ∧ StrsAre vs ws := by
  obtain ⟨l, vs, e, hl, hi⟩ := KTD.dat_of_looks (h := s.heap) (fun a o e => F.keep _ _ (X _ _ e)) _ _ hk
  injection e with e
  subst e
  exact ⟨vs, hl, hi⟩
theorem item_words {ws : List Str} {i : Int} {value slice : Expr} {Q : Value → Shared → Prop} (F : Fr h₀ L s.heap m) (X : K.In h₀) (hk : KTD.datLooks (fun b => K.lookup b) (.words ws) (.ref q) = true) (h0 : 0 ≤ i) (h1 : i < (ws.length : Int)) (hfit : i < 2 ^ 63)
    (h : ∀ t', Q (.str (ws.getD i.toNat Str.empty) t') s)
    (hs : subscripted slice false (.ref q) (.int i u) = operate [.ref q, .int i u] (getItem (.ref q) (.int i u)) := by with_unfolding_all rfl) :
    wpAny (model prog w) A (subscriptTail value slice (.ref q) (.int i u)) Q E s := by
  obtain ⟨vs, hl, hi⟩ := words_in F X hk
  exact KTb.item_list hl hi h0 h1 hfit (fun t' _ => h t') hs
theorem item_keys {i : Int} {value slice : Expr} {Q : Value → Shared → Prop} (F : Fr h₀ L s.heap m) (X : K.In h₀) (hk : KTD.datLooks (fun b => K.lookup b) (.words entK) (.ref q) = true) (h0 : 0 ≤ i) (h1 : i < 43)
    (h : ∀ t', Q (.str (keyS i.toNat) t') s)
    (hs : subscripted slice false (.ref q) (.int i u) = operate [.ref q, .int i u] (getItem (.ref q) (.int i u)) := by with_unfolding_all rfl) :
    wpAny (model prog w) A (subscriptTail value slice (.ref q) (.int i u)) Q E s :=
  item_words F X hk h0 h1 (by omega) (fun t' => by have := h t'; unfold keyS at this; exact this) hs
end
end Mine.Internal
namespace Mine.Internal
theorem Bis.up' {p : Str} {lo hi mid : Int} {ws : List Str} (b : Bis p lo hi) (h1 : lo ≤ mid) (h2 : mid < hi) (h : (ws.getD mid.toNat Str.empty).cps.toList < p.cps.toList) (hw : ws = entK) : Bis p (mid + 1) hi :=
  b.up h1 h2 (by subst hw; unfold keyS; exact h)
theorem Bis.down' {p : Str} {lo hi mid : Int} {ws : List Str} (b : Bis p lo hi) (h1 : lo ≤ mid) (h2 : mid < hi) (h : ¬ (ws.getD mid.toNat Str.empty).cps.toList < p.cps.toList) (hw : ws = entK) : Bis p lo mid :=
  b.down h1 h2 (by subst hw; unfold keyS; exact h)
end Mine.Internal
namespace Mine.Internal
noncomputable def entT : List (Str × PyData) := [(Str.ofString "AMP", .str ⟨#[38]⟩), (Str.ofString "AMP;", .str ⟨#[38]⟩), (Str.ofString "Eacute", .str ⟨#[201]⟩), (Str.ofString "Eacute;", .str ⟨#[201]⟩), (Str.ofString "Mopf;", .str ⟨#[120132]⟩), (Str.ofString "ac;", .str ⟨#[8766]⟩), (Str.ofString "acE;", .str ⟨#[8766, 819]⟩), (Str.ofString "acute", .str ⟨#[180]⟩), (Str.ofString "acute;", .str ⟨#[180]⟩), (Str.ofString "amp", .str ⟨#[38]⟩), (Str.ofString "amp;", .str ⟨#[38]⟩), (Str.ofString "ang;", .str ⟨#[8736]⟩), (Str.ofString "angle;", .str ⟨#[8736]⟩), (Str.ofString "bne;", .str ⟨#[61, 8421]⟩), (Str.ofString "copy", .str ⟨#[169]⟩), (Str.ofString "copy;", .str ⟨#[169]⟩), (Str.ofString "eacute", .str ⟨#[233]⟩), (Str.ofString "eacute;", .str ⟨#[233]⟩), (Str.ofString "frac12", .str ⟨#[189]⟩), (Str.ofString "frac12;", .str ⟨#[189]⟩), (Str.ofString "gt", .str ⟨#[62]⟩), (Str.ofString "gt;", .str ⟨#[62]⟩), (Str.ofString "lt", .str ⟨#[60]⟩), (Str.ofString "lt;", .str ⟨#[60]⟩), (Str.ofString "nbsp", .str ⟨#[160]⟩), (Str.ofString "nbsp;", .str ⟨#[160]⟩), (Str.ofString "not", .str ⟨#[172]⟩), (Str.ofString "not;", .str ⟨#[172]⟩), (Str.ofString "notin;", .str ⟨#[8713]⟩), (Str.ofString "notni;", .str ⟨#[8716]⟩), (Str.ofString "para", .str ⟨#[182]⟩), (Str.ofString "para;", .str ⟨#[182]⟩), (Str.ofString "parallel;", .str ⟨#[8741]⟩), (Str.ofString "quot", .str ⟨#[34]⟩), (Str.ofString "quot;", .str ⟨#[34]⟩), (Str.ofString "sup1", .str ⟨#[185]⟩), (Str.ofString "sup1;", .str ⟨#[185]⟩), (Str.ofString "sup2", .str ⟨#[178]⟩), (Str.ofString "sup2;", .str ⟨#[178]⟩), (Str.ofString "sup;", .str ⟨#[8835]⟩), (Str.ofString "times", .str ⟨#[215]⟩), (Str.ofString "times;", .str ⟨#[215]⟩), (Str.ofString "timesb;", .str ⟨#[8864]⟩)]
theorem entT_nodup : (entT.map (·.1)).Nodup := by decide +kernel
noncomputable def entD : List (PyData × PyData) := entT.map fun p => (PyData.str p.1, p.2)
noncomputable def isEnt (p : Str) : Bool := (PySem.Spec.lookup (.str p) entD).isSome
section
variable {prog : Program} {w : World} {A : Around} {E : Value → Shared → Prop} {s : Shared} {K : Frag} {h₀ : Heap} {L q : Addr} {m : Str → Option Value} {u : Tok}
theorem ent_tab (F : Fr h₀ L s.heap m) (X : K.In h₀) (e : KTD.tabLook KTD.flatLooks (fun b => K.lookup b) q entT = true)
    (hh : KTD.hashesOf (fun b => K.lookup b) q = entT.map fun p => (PySem.strKind prog w).hash p.1) : StrTab prog w s.heap q entD :=
  (let ⟨lo, kvs, ⟨o, es, ep, ho, r⟩, hf⟩ := kt_tab_in prog w X e entT_nodup hh; ⟨lo, kvs, ⟨o, es, ep, F.keep _ _ ho, r⟩, hf⟩)
theorem in_ent {Q : Value → Shared → Prop} {x : Str} (F : Fr h₀ L s.heap m) (X : K.In h₀) (e : KTD.tabLook KTD.flatLooks (fun b => K.lookup b) q entT = true)
    (hh : KTD.hashesOf (fun b => K.lookup b) q = entT.map fun p => (PySem.strKind prog w).hash p.1) (h : Q (.bool (isEnt x)) { s with toks := s.toks + 1 }) :
    wpAny (model prog w) A (compareOp .In (.str x u) (.ref q)) Q E s := in_strTab (ent_tab F X e hh) h
end
end Mine.Internal
namespace Mine.Internal
theorem pre_le : ∀ p k : List Nat, p.isPrefixOf k = true → ¬ k < p
  | [], k, _ => List.not_lt_nil k
  | x :: p, [], h => by cases h
  | x :: p, y :: k, h => by
    rw [List.isPrefixOf, Bool.and_eq_true, beq_iff_eq] at h
    obtain ⟨rfl, h⟩ := h
    intro q
    rw [List.cons_lt_cons_iff] at q
    rcases q with q | ⟨_, q⟩
    · exact Nat.lt_irrefl _ q
    · exact pre_le p k h q
theorem sand : ∀ p a c : List Nat, ¬ a < p → (a = c ∨ a < c) → p.isPrefixOf c = true → p.isPrefixOf a = true
  | [], _, _, _, _, _ => rfl
  | x :: p, a, [], _, _, h => by cases h
  | x :: p, [], y :: c, h1, _, _ => absurd (List.nil_lt_cons ..) h1
  | x :: p, z :: a, y :: c, h1, h2, h => by
    rw [List.isPrefixOf, Bool.and_eq_true, beq_iff_eq] at h
    obtain ⟨rfl, h⟩ := h
    rw [List.cons_lt_cons_iff] at h1
    have hz : z = x ∧ (a = c ∨ a < c) := by
      rcases h2 with h2 | h2
      · injection h2 with e1 e2; exact ⟨e1, .inl e2⟩
      · rw [List.cons_lt_cons_iff] at h2
        rcases h2 with q | ⟨e, q⟩
        · exact absurd (.inl q) h1
        · exact ⟨e, .inr q⟩
    obtain ⟨rfl, hac⟩ := hz
    rw [List.isPrefixOf, sand p a c (fun q => h1 (.inr ⟨rfl, q⟩)) hac h]; simp
theorem key_mem (j : Nat) (h : j < 43) : keyS j ∈ entK := by
  unfold keyS
  rw [List.getD_eq_getElem?_getD, List.getElem?_eq_getElem (by exact h)]
  exact List.getElem_mem _
theorem mem_key {k : Str} (h : k ∈ entK) : ∃ j, j < 43 ∧ k = keyS j := by
  obtain ⟨j, hj, e⟩ := List.mem_iff_getElem.mp h
  refine ⟨j, hj, ?_⟩
  unfold keyS
  rw [List.getD_eq_getElem?_getD, List.getElem?_eq_getElem hj]; exact e.symm
theorem pre_at {p : Str} {k : Int} (b : Bis p k k) : hasPre p = (decide (k < 43) && p.cps.toList.isPrefixOf (keyAt k.toNat)) := by
  have h0 := b.lo0; have h1 := b.hi1
  by_cases hk : k < 43
  · rw [decide_eq_true hk, Bool.true_and]
    by_cases hp : p.cps.toList.isPrefixOf (keyAt k.toNat) = true
    · rw [hp]; exact List.any_eq_true.mpr ⟨_, key_mem k.toNat (by omega), hp⟩
    · rw [Bool.eq_false_iff.mpr hp]
      refine Bool.eq_false_iff.mpr fun q => hp ?_
      obtain ⟨x, hx, hq⟩ := List.any_eq_true.mp q
      obtain ⟨j, hj, rfl⟩ := mem_key hx
      have hj1 : ¬ (j : Int) < k := fun h => pre_le _ _ hq (b.less j h)
      refine sand _ _ _ (b.geq k.toNat (by omega) (by omega)) ?_ hq
      by_cases e : k.toNat = j
      · exact .inl (by rw [e])
      · exact .inr (key_mono _ (by omega) _ hj (by omega))
  · rw [decide_eq_false hk, Bool.false_and]
    refine Bool.eq_false_iff.mpr fun q => ?_
    obtain ⟨x, hx, hq⟩ := List.any_eq_true.mp q
    obtain ⟨j, hj, rfl⟩ := mem_key hx
    exact pre_le _ _ hq (b.less j (by omega))
theorem pre_self : ∀ p : List Nat, p.isPrefixOf p = true
  | [] => rfl
  | x :: p => by rw [List.isPrefixOf, pre_self p]; simp
theorem pre_ent {p : Str} (h : isEnt p = true) : hasPre p = true := by
  have : p ∈ entK := by
    unfold isEnt at h
    have hk : entT.map (·.1) = entK := by decide +kernel
    rw [← hk]
    by_cases q : p ∈ entT.map (·.1)
    · exact q
    · exfalso
      have : ∀ T : List (Str × PyData), p ∉ T.map (·.1) → PySem.Spec.lookup (.str p) (T.map fun p => (PyData.str p.1, p.2)) = none := by
        intro T
        induction T with
        | nil => intro _; rfl
        | cons t T ih =>
          intro hn
          simp only [List.map_cons, List.mem_cons, not_or] at hn ⊢
          rw [PySem.Spec.lookup]
          have hne : PySem.Spec.same (.str t.1) (.str p) = false := by
            simp [PySem.Spec.same, Ne.symm hn.1]
          simp [hne, ih hn.2]
      rw [show entD = entT.map fun p => (PyData.str p.1, p.2) from rfl, this _ q] at h
      cases h
  exact List.any_eq_true.mpr ⟨p, this, pre_self _⟩
end Mine.Internal
namespace Mine.Internal
theorem starts_pre (x y : Str) : Txt.startswith x y = y.cps.toList.isPrefixOf x.cps.toList := by
  by_cases h : 1 ≤ y.length
  · have q := hit_iff (x := x) h 0
    rw [List.drop_zero] at q; exact q
  · have e0 : y.cps = #[] := Array.eq_empty_of_size_eq_zero (by simp only [Str.length] at h; omega)
    have e : y = ⟨#[]⟩ := by cases y; cases e0; rfl
    subst e
    show (decide (0 + (⟨#[]⟩ : Str).length ≤ x.length) && Builtin.Str.subAt x ⟨#[]⟩ 0) = true
    have hl : (⟨#[]⟩ : Str).length = 0 := rfl
    rw [hl]
    unfold Builtin.Str.subAt
    rw [hl]
    simp
theorem starts_nil {x : Str} (h : Txt.startswith x (Str.ofString "") = false) : False := by
  rw [starts_pre, show (Str.ofString "").cps.toList = [] from by decide +kernel] at h
  cases h
theorem pre_end {p : Str} {k : Int} (b : Bis p k k) (h : k ≠ 43) : Value.bool (Txt.startswith (keyS k.toNat) p) = Value.bool (hasPre p) := by
  have h1 := b.hi1
  rw [pre_at b, decide_eq_true (by omega), Bool.true_and, starts_pre]
end Mine.Internal

end
section
set_option tactic.hygienic false
open PySem PySem.W PyProof.Rows PySem.Calls PySem.Spec PyProof.V
namespace Mine.Internal
section
variable {prog : Program} {w : World} {A : Around} {E : Value → Shared → Prop} {s : Shared} {h₀ : Heap} {L : Addr} {news : List (Addr × Obj)}
end
structure Ck where
  out : List Nat
  ks : List Kd
  rem : List Nat
noncomputable def blankN (c : Nat) : Bool := c == 9 || c == 10 || c == 12 || c == 32 || c == 13
noncomputable def stopC (al : Option Nat) : List Nat → Bool
  | [] => true
  | c :: _ => blankN c || c == 60 || c == 38 || al == some c
theorem stopC_c {al : Option Nat} {c : Nat} {r : List Nat} : stopC al (c :: r) = (blankN c || c == 60 || c == 38 || al == some c) := rfl
noncomputable def namN : Str := Str.ofString "expected-named-entity"
end Mine.Internal

end
section
set_option tactic.hygienic false
open PySem PySem.W PyProof.Rows PySem.Calls PySem.Spec
namespace Mine.Internal
noncomputable abbrev fms (l : List Env) : List Addr := l.filterMap (·.frame)
noncomputable def CEndS (fs : List Addr) (g : Heap) (lo : Led) (Post : CPost) (s₁ : Shared) (v : Value) (s' : Shared) : Prop :=
  ∃ g' L' m' fr l' h' tk', KtsTurn fs g g' ∧ s' = { s₁ with heap := h', toks := tk' } ∧ Fr g' L' h' m' ∧ News g' L' h' (fr ++ l') ∧ (∀ p ∈ fr, ∀ q ∈ lo, p.1 ≠ q.1) ∧ Post v fr l'
theorem cendS {fs : List Addr} {g g' : Heap} {lo : Led} {P : CPost} {s₁ : Shared} {v : Value} {L' : Addr} {m' : Str → Option Value} {fr l l' : Led} {h' : Heap} {tk' : Nat}
    (T : KtsTurn fs g g') (F : Fr g' L' h' m') (N : News g' L' h' l') (hs : ∀ p ∈ fr ++ l, p ∈ l') (hf : ∀ p ∈ fr, ∀ q ∈ lo, p.1 ≠ q.1) (hp : P v fr l) : CEndS fs g lo P s₁ v { s₁ with heap := h', toks := tk' } :=
  ⟨g', L', m', fr, l, h', tk', T, rfl, F, fun p hp => N p (hs p hp), hf, hp⟩
noncomputable def CtrS (prog : Program) (w : World) (K : Frag) (TP : Heap → Prop) (D U : Nat) (f : Value) (args : Args) (l : Led) (Post : CPost) : Prop :=
  ∀ (A A₀ : Around) (base h₀ : Heap) (env : Env) (outer : List Env) (L : Addr) (m : Str → Option Value) (s : Shared) (R : Result → Shared → Prop) (rest : Led),
    Below A₀ base outer h₀ → Fr h₀ L s.heap m → K.In h₀ → News h₀ L s.heap (l ++ rest) → TP h₀ → K.In base → TP base → KtsDicts (fms outer) h₀ →
    A.frames = some (env :: outer) → env.frame = some L → env.scope.kind = .function → A.handled = none → A.depth ≤ D → A.units ≤ U →
    (∀ p ∈ rest, ∀ q ∈ l, p.1 ≠ q.1) →
    (∀ v fr l' h' tk' h₀', Post v fr l' → s.toks ≤ tk' → (∀ p ∈ fr, ∀ r ∈ l ++ rest, @LT.lt Nat _ r.1 p.1) → KtsTurn (fms outer) h₀ h₀' → Fr h₀' L h' m → News h₀' L h' (fr ++ l' ++ rest) → Below A₀ base outer h₀' → K.In h₀' → TP h₀' → KtsDicts (fms outer) h₀' → R (.ok (.ret v)) { s with heap := h', toks := tk' }) →
    codeAny (model prog w) A (.call f args) R s
theorem below_turn {A₀ : Around} {base h₀ h₀' : Heap} {outer : List Env} (B : Below A₀ base outer h₀) (T : KtsTurn (fms outer) h₀ h₀') : Below A₀ base outer h₀' :=
  ⟨B.stack, fun b o e => T.other b o (B.stays b o e) (fun hm => by
    rw [(B.frames.mem hm).1] at e
    cases e), B.frames.of_keeps fun b o e _ => by
    obtain ⟨sl', hs'⟩ := T.up e
    exact ⟨_, hs', rfl⟩⟩
theorem fms_mem {env : Env} {outer : List Env} {L b : Addr} (hf : env.frame = some L) (h : b ∈ fms (env :: outer)) : b = L ∨ b ∈ fms outer := by
  obtain ⟨e, he, hb⟩ := List.mem_filterMap.mp h
  rcases List.mem_cons.mp he with rfl | he
  · rw [hf] at hb; exact .inl (Option.some.inj hb).symm
  · exact .inr (List.mem_filterMap.mpr ⟨e, he, hb⟩)
theorem ctrS_intro {prog : Program} {w : World} {K : Frag} {TP : Heap → Prop} {D U : Nat} {l : Led} {Post : CPost}
    {name qual : Str} {params : Arguments} {body : List Stmt} {scope : Scope} {dV kV doc pm cdv ct oc : Value} {an od : Option Addr} {osl : Array (Option Value)} {f : Addr} {pos : List Value} {kw : List (Str × Value)} {binds : List (Str × Value)}
    (hT : ∀ h h' : Heap, TP h → h.StaysIn h' → TP h') (hlim : ∀ h : Heap, TP h → h.NoLimit)
    (ho : K.lookup f = some ⟨oc, od, .func (fnOf name qual params body scope dV kV doc pm an cdv ct), osl⟩) (hcd : codeIn K cdv qual = true) (hD : D < recursionLimit)
    (hbind : ∀ s : Shared, K.In s.heap → BindsTo s (fnOf name qual params body scope dV kV doc pm an cdv ct) ⟨pos, kw⟩ binds) (hloc : ∀ y ∈ binds, scope.names.lookup y.1 = some .local)
    (h : ∀ (base g : Heap) (env : Env) (outer : List Env) (L' : Addr) (h₁ : Heap) (s : Shared) (tk : Nat),
      Below (topA D (U + 1) env outer) base (env :: outer) g → Fr g L' h₁ (fun y => binds.reverse.lookup y) → K.In base → TP base → KtsDicts (fms (env :: outer)) g → K.In g → News g L' h₁ l → TP g → (∀ p ∈ l, p.1 < L') →
      wpAny (model prog w) ((topA D (U + 1) env outer).deeper (envOf qual scope L' f cdv)) (execs body (envOf qual scope L' f cdv))
        (fun fl s' => CEndS (fms (env :: outer)) g l Post s (match fl with | .ret v => v | _ => .none) s') (fun _ _ => False) { s with heap := h₁, toks := tk })
    (hcell : ∀ x ∈ scope.names, x.2 ≠ .cell) (hco : scope.isCoroutine = false) (hgen : scope.isGenerator = false) (hk : scope.kind = .function) :
    CtrS prog w K TP D U (.ref f) ⟨pos, kw⟩ l Post := by
  intro A A₀ base h₀ env outer L m s R rest B F X N T XB TB D₀ hA hf hke hh hd hu hne hQ
  have Ns : News h₀ L s.heap l := fun p hp => N p (List.mem_append_left _ hp)
  refine code_weaken (A' := topA D U env outer) hh hd hA.symm rfl hu ?_
  have hA' : (topA D U env outer).frames = some (env :: outer) := rfl
  obtain ⟨FG, BG, st, lv⟩ := groundX (A := topA D U env outer) (R := fun _ _ => True) B F Ns hA' hf hke
  have X' : K.In s.heap := X.keeps F.keep
  obtain ⟨oL, es, ep, hL, hLd, hLk, hLf⟩ := FG.ns
  have DG : KtsDicts (fms (env :: outer)) (hideAll s.heap (l.map (·.1))) := fun b hb => by
    rcases fms_mem hf hb with rfl | hb
    · exact ⟨oL, es, ep, hL, hLd⟩
    · obtain ⟨o, es', n', ho', hd'⟩ := D₀ b hb
      exact ⟨o, es', n', st b o ho', hd'⟩
  have key : codeAny (model prog w) (topA D U env outer) (.call (.ref f) ⟨pos, kw⟩) (fun r s' => ∃ v, r = .ok (.ret v) ∧ CEndS (fms (env :: outer)) (hideAll s.heap (l.map (·.1))) l Post s v s') s := by
    refine codeAny_call_def (fd := fnOf name qual params body scope dV kV doc pm an cdv ct) (body := body) (binds := binds) hD (X' _ _ ho) rfl ((hlim _ T).keeps F.keep) (codeRec_of X' hcd) rfl (hbind s X') hcell hloc (fun h₁ hns hk₁ => ?_) hco hgen hk
    have key := h base (hideAll s.heap (l.map (·.1))) env outer s.heap.objs.size h₁ s (s.toks + binds.length) ⟨rfl, BG.stays, BG.frames⟩
      ⟨hns, fun b o e => hk₁ b o (of_hideAll _ e), Nat.le_of_eq (hideAll_size _ _)⟩ XB TB DG (X.keeps st)
      (fun p hp => ⟨hk₁ _ _ (Ns p hp).1, Nat.ne_of_lt (Heap.lt_size (Ns p hp).1), hideAll_none _ (List.mem_map_of_mem hp)⟩) (hT _ _ T st) (fun p hp => Heap.lt_size (Ns p hp).1)
    exact wpAny_mono (wp_weaken (A' := (topA D (U + 1) env outer).deeper (envOf qual scope s.heap.objs.size f cdv)) rfl (Nat.le_refl _) rfl rfl (by show U + 3 ≤ U + 1 + 3; omega) key) (fun fl s' hl => ⟨_, rfl, hl⟩) fun _ _ y => y.elim
  intro Γ p hc hΓ
  obtain ⟨r, s', hr, v, rfl, g', L', m', fr, l', h', tk', T', rfl, F', N', hfr, hp⟩ := key Γ p hc hΓ
  have hlat : Later s _ := runs_later hr
  refine ⟨_, _, hr, ?_⟩
  have nL₀ : h₀.get? L = none := kts_self F
  obtain ⟨sl, hs⟩ := T'.up hL
  obtain ⟨T₁, S₁⟩ := kts_turn_at (h := h') (fs := fms outer) (g := h₀)
    (fun b hb => by
      obtain ⟨_, o, ho', _⟩ := B.frames.mem hb
      exact ⟨o, ho'⟩)
    (fun b o e nmem => F'.keep b o (T'.other b o (st b o e) (fun q => by
      rcases fms_mem hf q with z | z
      · rw [z, nL₀] at e
        cases e
      · exact nmem z)))
    (fun b o e hm => by
      obtain ⟨sl', hs'⟩ := T'.up (st b o e)
      exact ⟨sl', F'.keep _ _ hs'⟩)
  have B₃ := below_turn B T₁
  refine hQ _ fr l' h' tk' _ hp hlat.toks ?_ T₁ ⟨⟨_, es, ep, F'.keep _ _ hs, hLd, hLk, hLf⟩, S₁, by rw [T₁.size]; exact F.above⟩ (fun p hp => ?_) B₃ (XB.keeps B₃.stays) (hT _ _ TB B₃.stays) (D₀.turn T₁)
  · refine fresh_gt hlat N (fun p hp o q => ?_) (fun p hp q => ?_) hfr
    · obtain ⟨sl', hs'⟩ := T'.up q
      have := (N' p (List.mem_append_left _ hp)).2.2; rw [hs'] at this; cases this
    · have := (N' p (List.mem_append_left _ hp)).1; rw [q] at this; cases this
  have hkeep : ∀ b o, (hideAll s.heap (l.map (·.1))).get? b = some o → b ∉ fms (env :: outer) → h'.get? b = some o := fun b o e q => F'.keep _ _ (T'.other b o e q)
  have hnone : ∀ b, g'.get? b = none → h₀.get? b = none := fun b e => by
    cases q : h₀.get? b with
    | none => rfl
    | some o =>
      obtain ⟨sl', hs'⟩ := T'.up (st _ _ q)
      rw [e] at hs'; cases hs'
  rcases List.mem_append.mp hp with hp | hp
  · refine ⟨(N' p hp).1, fun q => ?_, T₁.none_ _ (hnone _ (N' p hp).2.2)⟩
    have := (N' p hp).2.2; rw [q, hs] at this; cases this
  · have q := N p (List.mem_append_right _ hp)
    refine ⟨hkeep _ _ (hideAll_get _ q.1 fun hm => ?_) (fun hm => ?_), q.2.1, T₁.none_ _ q.2.2⟩
    · obtain ⟨z, hz, e⟩ := List.mem_map.mp hm
      exact hne p hp z hz e.symm
    · rcases fms_mem hf hm with z | z
      · exact q.2.1 z
      · obtain ⟨_, o, ho', _⟩ := B.frames.mem z
        rw [q.2.2] at ho'; cases ho'
end Mine.Internal
namespace Mine.Internal
theorem CtrS.call {prog : Program} {w : World} {K : Frag} {TP : Heap → Prop} {D U : Nat} {f : Value} {pos : List Value} {kw : List (Str × Value)} {l : Led} {Post : CPost} (C : CtrS prog w K TP D U f ⟨pos, kw⟩ l Post)
    {A A₀ : Around} {base h₀ : Heap} {env : Env} {outer : List Env} {L : Addr} {m : Str → Option Value} {s : Shared} {Q E : Value → Shared → Prop} {rest : Led}
    (B : Below A₀ base outer h₀) (F : Fr h₀ L s.heap m) (X : K.In h₀) (N : News h₀ L s.heap (l ++ rest)) (T : TP h₀) (XB : K.In base) (TB : TP base) (D₀ : KtsDicts (fms outer) h₀)
    (hA : A.frames = some (env :: outer)) (hf : env.frame = some L) (hke : env.scope.kind = .function) (hh : A.handled = none) (hd : A.depth ≤ D) (hu : A.units ≤ U) (hne : ∀ p ∈ rest, ∀ q ∈ l, p.1 ≠ q.1)
    (hQ : ∀ v fr l' h' tk' h₀', Post v fr l' → s.toks ≤ tk' → (∀ p ∈ fr, ∀ r ∈ l ++ rest, @LT.lt Nat _ r.1 p.1) → KtsTurn (fms outer) h₀ h₀' → Fr h₀' L h' m → News h₀' L h' (fr ++ l' ++ rest) → Below A₀ base outer h₀' → K.In h₀' → TP h₀' → KtsDicts (fms outer) h₀' → Q v { s with heap := h', toks := tk' }) :
    wpAny (model prog w) A (PySem.call f pos kw) Q E s :=
  wpAny_call (C A A₀ base h₀ env outer L m s _ rest B F X N T XB TB D₀ hA hf hke hh hd hu hne hQ)
end Mine.Internal

end
section
set_option tactic.hygienic false
open PySem PySem.W PyProof.Rows PySem.Calls PySem.Spec PyProof.V
namespace Mine.Internal
noncomputable def AllowIs (av : Value) (al : Option Nat) : Prop := (av = .none ∧ al = none) ∨ (∃ (a : Nat) (t : Tok), av = .str ⟨#[a]⟩ t ∧ al = some a)
structure At where
  ct : Addr
  dl : Addr
  p2 : Addr
  co : Obj
  ps : List Value
  dn : Nat
  nm : Value
  pn : Nat
noncomputable def At.ord (B : At) (tq : Addr) : Prop := @LT.lt Nat _ tq B.ct ∧ @LT.lt Nat _ B.ct B.p2 ∧ @LT.lt Nat _ B.p2 B.dl
noncomputable abbrev Lz (w : World) (K : Ks) (Z : Kz) (m7 : Tok) (tq : Addr) (B : At) (qs : List Value) (qn : Nat) (val : Str) (vt : Tok) (T : Led) : Led :=
  (Z.za, instObj 762 Z.zd) :: (Z.zd, Z.kd w K.st m7 tq) :: (tq, W.listOf qs.toArray qn) :: (B.ct, B.co) :: (B.dl, W.listOf (B.ps ++ [Value.ref B.p2]).toArray B.dn) :: (B.p2, W.listOf [B.nm, Value.str val vt].toArray B.pn) :: T
noncomputable def spaceB (x : List Nat) : Bool := match x with | [c] => blankN c | _ => false
noncomputable def ceKs (R : Ck) (fa : Bool) : List Kd := if fa = true then R.ks else R.ks ++ [.tok (if spaceB R.out = true then 2 else 1) ⟨R.out.toArray⟩]
noncomputable def CeP (prog : Program) (w : World) (K : Ks) (Z : Kz) (m7 : Tok) (tq : Addr) (B : At) (qs : List Value) (val : Str) (R : Ck) (fa : Bool) : CPost := fun v fr l =>
  ∃ (y : St) (adds : List Value) (n : Nat) (val' : Str) (vt : Tok), v = .none ∧ y.ok K.src ∧ y.rem K.src = R.rem ∧ QIs prog w fr adds (ceKs R fa) ∧
    val'.cps.toList = (if fa = true then val.cps.toList ++ R.out else val.cps.toList) ∧ l = Lz w K Z m7 tq B (qs ++ adds) n val' vt (K.led w y)
structure Cs where
  y : St
  out : Str
  t : Tok
  u : Str → Option Value
  fl : Led
  adds : List Value
  n : Nat
noncomputable abbrev ceStored : List Str := ["charStack", "hex", "entityName", "entityLength"]
noncomputable def Cs.m (m₀ : Str → Option Value) (c : Cs) : Str → Option Value := fun z => if z = Str.ofString "output" then some (.str c.out c.t) else if ceStored.contains z then c.u z else m₀ z
structure Cs.ok (prog : Program) (w : World) (K : Ks) (B : At) (R : Ck) (c : Cs) : Prop where
  sok : c.y.ok K.src
  out : c.out.cps.toList = R.out
  rem : c.y.rem K.src = R.rem
  gt : ∀ p ∈ c.fl, @LT.lt Nat _ B.dl p.1
  qis : QIs prog w c.fl c.adds R.ks
section
variable {prog : Program} {w : World} {s : Shared} {g : Heap} {L : Addr} {K : Ks} {Z : Kz} {m7 : Tok} {tq : Addr} {B : At} {qs : List Value} {val : Str} {vt : Tok}
noncomputable abbrev Cs.led (w : World) (K : Ks) (Z : Kz) (m7 : Tok) (tq : Addr) (B : At) (qs : List Value) (val : Str) (vt : Tok) (c : Cs) : Led := Lz w K Z m7 tq B (qs ++ c.adds) c.n val vt (c.fl ++ K.led w c.y)
noncomputable def MeetXS {α : Type} (fs : List Addr) (g : Heap) (L : Addr) (m : α → Str → Option Value) (led : α → List (Addr × Obj)) (P : α → Prop) (s : Shared) (fl : Flow) (s' : Shared) : Prop :=
  ∃ (g' : Heap) (c : α) (h' : Heap) (k : Nat), KtsTurn fs g g' ∧ fl = .next ∧ P c ∧ s' = { s with heap := h', toks := k } ∧ Fr g' L h' (m c) ∧ News g' L h' (led c)
theorem ce_names {z : Str} (h : ceStored.contains z = false) : z ≠ Str.ofString "charStack" ∧ z ≠ Str.ofString "hex" ∧ z ≠ Str.ofString "entityName" ∧ z ≠ Str.ofString "entityLength" :=
  ⟨fun e => by (subst e; exact absurd h (by decide)), fun e => by (subst e; exact absurd h (by decide)), fun e => by (subst e; exact absurd h (by decide)), fun e => by (subst e; exact absurd h (by decide))⟩
theorem six_tail {e1 e2 e3 e4 e5 e6 : Addr × Obj} {T T' nl : Led} (h : ∀ p ∈ e1 :: e2 :: e3 :: e4 :: e5 :: e6 :: T, p ∈ nl) (h' : ∀ p ∈ T', p ∈ nl) : ∀ p ∈ e1 :: e2 :: e3 :: e4 :: e5 :: e6 :: T', p ∈ nl := by
  simp only [List.forall_mem_cons] at h ⊢
  exact ⟨h.1, h.2.1, h.2.2.1, h.2.2.2.1, h.2.2.2.2.1, h.2.2.2.2.2.1, h'⟩
theorem six_in {e1 e2 e3 e4 e5 e6 : Addr × Obj} {T nl : Led} (h : ∀ p ∈ e1 :: e2 :: e3 :: e4 :: e5 :: e6 :: T, p ∈ nl) : ∀ p ∈ T, p ∈ nl := fun p hp => h p (.tail _ (.tail _ (.tail _ (.tail _ (.tail _ (.tail _ hp))))))
theorem app_in {a b nl : Led} (h : ∀ p ∈ a, p ∈ nl) (h' : ∀ p ∈ b, p ∈ nl) : ∀ p ∈ a ++ b, p ∈ nl := fun p hp => (List.mem_append.mp hp).elim (h p) (h' p)
set_option tactic.hygienic true
theorem ce_meet {fs : List Addr} {g' : Heap} {m₀ m' : Str → Option Value} {h' : Heap} {k n : Nat} {nl rest fl : Led} {y : St} {out : Str} {t : Tok} {ql adds : List Value} {R R₀ : Ck} (hR : R₀ = R) (hT0 : KtsTurn fs g g')
    (F : Fr g' L h' m') (N : News g' L h' nl) (hm : m' (Str.ofString "output") = some (.str out t)) (hr : ∀ z, z ≠ Str.ofString "output" → ceStored.contains z = false → m' z = m₀ z)
    (hT : Take (Lz w K Z m7 tq B ql n val vt (K.led w y)) nl rest) (hql : ql = qs ++ adds) (hfl : ∀ p ∈ fl, p ∈ nl) (hgt : ∀ p ∈ fl, @LT.lt Nat _ B.dl p.1) (ok : y.ok K.src) (hout : out.cps.toList = R.out) (hrem : y.rem K.src = R.rem) (hks : QIs prog w fl adds R.ks) :
    MeetXS fs g L (Cs.m m₀) (Cs.led w K Z m7 tq B qs val vt) (Cs.ok prog w K B R₀) s .next { s with heap := h', toks := k } := by
  subst hql
  subst hR
  have em : m' = Cs.m m₀ (⟨y, out, t, m', fl, adds, n⟩ : Cs) := funext fun z => by
    unfold Cs.m
    split
    · rename_i e; rw [e, hm]
    · rename_i e
      split
      · rfl
      · rename_i e2; exact hr z e (by simpa using e2)
  refine ⟨g', (⟨y, out, t, m', fl, adds, n⟩ : Cs), h', k, hT0, rfl, ⟨ok, hout, hrem, hgt, hks⟩, rfl, em ▸ F, fun p hp => N p ?_⟩
  exact six_tail hT.sub (app_in hfl (six_in hT.sub)) p hp
set_option tactic.hygienic false
theorem Srt.eight {K : Ks} {Z : Kz} {tq : Addr} {B : At} (h : K.ord) (k : @LT.lt Nat _ Z.zd Z.za ∧ @LT.lt Nat _ Z.za K.sd ∧ @LT.lt Nat _ K.er tq) (b : B.ord tq) : Srt [B.dl, B.p2, B.ct, tq, K.er, K.sd, Z.za, Z.zd] :=
  (((Srt.five h k).grow b.1).grow b.2.1).grow b.2.2
end
theorem stop_abs {al : Option Nat} {T : List Nat} (h : stopC al T = false) (e : T = []) : False := by subst e; cases h
theorem stop_nil {al : Option Nat} {T : List Nat} (h : T = []) : true = stopC al T := by subst h; rfl
theorem stop_blank {al : Option Nat} {T r : List Nat} {c : Nat} (h : T = c :: r) (hb : blankN c = true) : true = stopC al T := by subst h; simp [stopC_c, hb]
theorem stop_lt {al : Option Nat} {T r : List Nat} {c : Nat} (h : T = c :: r) (hb : (c == 60 || c == 38) = true) : true = stopC al T := by
  subst h; rw [stopC_c]; simp only [Bool.or_eq_true] at hb; rcases hb with hb | hb <;> simp [hb]
theorem stop_al {T r : List Nat} {a c : Nat} (h : T = c :: r) (hb : ((⟨#[a]⟩ : Str) == ⟨#[c]⟩) = true) : true = stopC (some a) T := by
  subst h
  have e := eq_of_beq hb
  have : a = c := by injection e with e; simpa using e
  subst this; simp [stopC_c]
theorem stop_no {T r : List Nat} {c : Nat} (h : T = c :: r) (hb : blankN c = false) (hl : (c == 60 || c == 38) = false) : false = stopC none T := by
  subst h; simp only [Bool.or_eq_false_iff] at hl; simp [stopC_c, hb, hl.1, hl.2]
theorem stop_no' {T r : List Nat} {a c : Nat} (h : T = c :: r) (hb : blankN c = false) (hl : (c == 60 || c == 38) = false) (ha : ((⟨#[a]⟩ : Str) == ⟨#[c]⟩) = false) : false = stopC (some a) T := by
  subst h
  have e := ne_of_beq_false ha
  have : a ≠ c := fun h => e (by rw [h])
  simp only [Bool.or_eq_false_iff] at hl; simp [stopC_c, hb, hl.1, hl.2, this]
theorem blank_any (c : Nat) : ([⟨#[9]⟩, ⟨#[10]⟩, ⟨#[12]⟩, ⟨#[32]⟩, ⟨#[13]⟩] : List Str).any (· == ⟨#[c]⟩) = blankN c := by
  have := chr_any c [9, 10, 12, 32, 13]
  refine this.trans ?_
  unfold blankN
  by_cases h : c ∈ [9, 10, 12, 32, 13]
  · rw [decide_eq_true h]
    simp only [List.mem_cons, List.not_mem_nil, or_false] at h
    rcases h with h | h | h | h | h <;> subst h <;> rfl
  · rw [decide_eq_false h]
    simp only [List.mem_cons, List.not_mem_nil, or_false, not_or] at h
    simp [h]
end Mine.Internal
namespace Mine.Internal
section
variable {prog : Program} {w : World} {A : Around} {E : Value → Shared → Prop} {s : Shared} {h₀ : Heap} {L : Addr} {news : List (Addr × Obj)}
noncomputable def eltE (d : PyData) : Value → Bool
  | .str x _ => PyData.eqv (.str x) d
  | .none => PyData.eqv .none d
  | _ => false
theorem eltE_s {d : PyData} {x : Str} {t : Tok} : eltE d (.str x t) = PyData.eqv (.str x) d := rfl
theorem eltE_n {d : PyData} : eltE d .none = PyData.eqv .none d := rfl
theorem in_elt {q : Addr} {ta tb : Tok} {x : Value} {d : PyData} {Q : Value → Shared → Prop} (N : News h₀ L s.heap news) (hm : (q, tupO [.none, .str (Str.ofString "<") ta, .str (Str.ofString "&") tb]) ∈ news) (fx : Flat x d)
    (h : Q (.bool (PyData.eqv .none d || (PyData.eqv (.str (Str.ofString "<")) d || PyData.eqv (.str (Str.ofString "&")) d))) s) : wpAny (model prog w) A (compareOp .In x (.ref q)) Q E s := by
  refine SeqAt.in_tupleAt (items := #[.none, .str (Str.ofString "<") ta, .str (Str.ofString "&") tb]) (eltE d) ⟨_, (N _ hm).1, rfl, _, rfl⟩ (fun y hy => ?_) ?_
  · have hy : y ∈ [Value.none, .str (Str.ofString "<") ta, .str (Str.ofString "&") tb] := by simpa using hy
    simp only [List.mem_cons, List.not_mem_nil, or_false] at hy
    rcases hy with rfl | rfl | rfl
    · exact keq_flat Flat.none fx
    · exact keq_flat (Flat.str _ _) fx
    · exact keq_flat (Flat.str _ _) fx
  · have e : (#[Value.none, .str (Str.ofString "<") ta, .str (Str.ofString "&") tb]).any (eltE d) = (PyData.eqv .none d || (PyData.eqv (.str (Str.ofString "<")) d || PyData.eqv (.str (Str.ofString "&")) d)) := by
      simp [eltE_s, eltE_n]
    rw [e]; exact h
theorem in_elt_none {q : Addr} {ta tb : Tok} {Q : Value → Shared → Prop} (N : News h₀ L s.heap news) (hm : (q, tupO [.none, .str (Str.ofString "<") ta, .str (Str.ofString "&") tb]) ∈ news)
    (h : Q (.bool true) s) : wpAny (model prog w) A (compareOp .In .none (.ref q)) Q E s := in_elt N hm Flat.none (by simpa [PyData.eqv] using h)
theorem in_elt_chr {q : Addr} {ta tb u : Tok} {c : Nat} {Q : Value → Shared → Prop} (N : News h₀ L s.heap news) (hm : (q, tupO [.none, .str (Str.ofString "<") ta, .str (Str.ofString "&") tb]) ∈ news)
    (h : Q (.bool (c == 60 || c == 38)) s) : wpAny (model prog w) A (compareOp .In (.str ⟨#[c]⟩ u) (.ref q)) Q E s := by
  refine in_elt N hm (Flat.str _ _) ?_
  have e1 : Str.ofString "<" = ⟨#[60]⟩ := by decide +kernel
  have e2 : Str.ofString "&" = ⟨#[38]⟩ := by decide +kernel
  have e : (PyData.eqv .none (.str ⟨#[c]⟩) || (PyData.eqv (.str (Str.ofString "<")) (.str ⟨#[c]⟩) || PyData.eqv (.str (Str.ofString "&")) (.str ⟨#[c]⟩))) = (c == 60 || c == 38) := by
    rw [e1, e2]
    simp only [PyData.eqv, Bool.false_or]
    have q (d : Nat) : ((⟨#[d]⟩ : Str) == ⟨#[c]⟩) = (c == d) := by
      rw [chr_eq]; by_cases h : c = d <;> simp [h]
    rw [q, q]
  rw [e]; exact h
theorem item_negL {value slice : Expr} {a : Addr} {l : List Value} {k : Int} {u : Tok} {x : Value} {Q : Value → Shared → Prop} (hl : s.heap.IsList a l.toArray)
    (h0 : k < 0) (h1 : -(l.length : Int) ≤ k) (hfit : -(2 ^ 63) ≤ k) (hx : l[(k + l.length).toNat]? = some x) (h : Q x s)
    (hs : subscripted slice false (.ref a) (.int k u) = operate [.ref a, .int k u] (getItem (.ref a) (.int k u)) := by with_unfolding_all rfl) (hg : ∀ r, letTemporaryGo value (.ref a) r = pure () := by intro _; with_unfolding_all rfl) :
    wpAny (model prog w) A (subscriptTail value slice (.ref a) (.int k u)) Q E s :=
  subscriptTail_builtin hl.typeIs slot_list_getitem.lookup (wpAny_getItem_list_neg hl h0 (by simpa using h1) hfit (by simpa using hx) h) hs hg
end
end Mine.Internal
namespace Mine.Internal
theorem meetH_sub {g : Heap} {L : Addr} {m : Str → Option Value} {news : List (Addr × Obj)} {s : Shared} {e : Addr × Obj} {b0 b : Bool} {h' : Heap} {k : Nat} (F : Fr g L h' m) (N : News g L h' (e :: news)) (hb : b = b0) : MeetH g L m news b0 s b { s with heap := h', toks := k } :=
  meetH_end F (fun p hp => N p (.tail _ hp)) hb
end Mine.Internal
namespace Mine.Internal
noncomputable abbrev Kz.kdt (w : World) (Z : Kz) (st : Addr) (m7 : Tok) (ct tq : Addr) : Obj := dictOf (kdict w.params Z.m0 Z.m1 Z.m2 Z.m3 Z.m4 Z.m5 Z.m6 m7 st Z.v1 Z.v2 Z.v3 Z.v4 Z.v5 (.ref ct) tq) 8
theorem Kz.kd_at {w : World} {Z : Kz} {st : Addr} {m7 : Tok} {ct tq : Addr} (h : Z.v6 = .ref ct) : Z.kd w st m7 tq = Z.kdt w st m7 ct tq := by
  show dictOf (kdict w.params Z.m0 Z.m1 Z.m2 Z.m3 Z.m4 Z.m5 Z.m6 m7 st Z.v1 Z.v2 Z.v3 Z.v4 Z.v5 Z.v6 tq) 8 = _
  rw [h]
section
variable {prog : Program} {w : World} {A : Around} {E : Value → Shared → Prop} {s : Shared} {h₀ : Heap} {L : Addr} {news : List (Addr × Obj)}
theorem space_any (x : Str) : ([⟨#[9]⟩, ⟨#[10]⟩, ⟨#[12]⟩, ⟨#[32]⟩, ⟨#[13]⟩] : List Str).any (· == x) = spaceB x.cps.toList := by
  obtain ⟨⟨l⟩⟩ := x
  match l with
  | [] => rfl
  | [c] => exact blank_any c
  | a :: b :: r => rfl
theorem in_tupX {K : Frag} {h₀ : Heap} {L q : Addr} {m : Str → Option Value} {od : Option Addr} {items : Array Value} {n : Nat} {osl : Array (Option Value)} {ys : List Str} {x : Str} {u : Tok} {Q : Value → Shared → Prop}
    (F : Fr h₀ L s.heap m) (X : K.In h₀) (hk : K.lookup q = some ⟨.type "tuple", od, .seq items n, osl⟩) (hi : StrsAre items.toList ys) {b : Bool} (he : ys.any (· == x) = b)
    (h : Q (.bool b) s) : wpAny (model prog w) A (compareOp .In (.str x u) (.ref q)) Q E s := in_tuple_strs (K_tup F X hk) hi (by rw [he]; exact h)
end
end Mine.Internal
namespace Mine.Internal
theorem amp38 : (Str.ofString "&").cps.toList = [38] := by decide +kernel
theorem eq35 {c : Nat} (h : ((⟨#[c]⟩ : Str) == Str.ofString "#") = true) : c = 35 := by
  have h2 : (Str.ofString "#") = ⟨#[35]⟩ := by decide +kernel
  rw [h2, chr_eq] at h
  exact (of_decide_eq_true h).symm
theorem out_app {ds : List Nat} : (Str.ofString "&" ++ (⟨ds.toArray⟩ : Str)).cps.toList = 38 :: ds := by
  rw [toList_app, amp38]; rfl
end Mine.Internal
namespace Mine.Internal
end Mine.Internal
namespace Mine.Internal
end Mine.Internal
namespace Mine.Internal
theorem wp_meetCs {prog : Program} {w : World} {A A₀ : Around} {E : Value → Shared → Prop} {s : Shared} {base g : Heap} {outer : List Env} {Kf : Frag} {TP : Heap → Prop} {L : Addr} {K : Ks} {Z : Kz} {m7 : Tok} {tq : Addr} {B : At} {qs : List Value} {val : Str} {vt : Tok} {R : Ck} {t : Sem Flow} {Q : Flow → Shared → Prop} {m₁ : Str → Option Value} (m₀ : Str → Option Value) (hz6 : Z.v6 = .ref B.ct)
    (F0 : Fr g L s.heap m₁) (BX : Below A₀ base outer g) (XB : Kf.In base) (TB : TP base) (D : KtsDicts (fms outer) g) (hT : ∀ h h' : Heap, TP h → h.StaysIn h' → TP h')
    (hq : ∀ (g' : Heap) (y : St) (out : Str) (t : Tok) (u : Str → Option Value) (fl : Led) (adds : List Value) (n : Nat) (h' : Heap) (k : Nat), KtsTurn (fms outer) g g' → Below A₀ base outer g' → Kf.In g' → TP g' → KtsDicts (fms outer) g' → y.ok K.src → out.cps.toList = R.out → y.rem K.src = R.rem → (∀ p ∈ fl, @LT.lt Nat _ B.dl p.1) → QIs prog w fl adds R.ks →
      Fr g' L h' (fun z => if z = Str.ofString "output" then some (.str out t) else if ceStored.contains z then u z else m₀ z) →
      News g' L h' ((Z.za, instObj 762 Z.zd) :: (Z.zd, Z.kdt w K.st m7 B.ct tq) :: (tq, W.listOf (qs ++ adds).toArray n) :: (B.ct, B.co) :: (B.dl, W.listOf (B.ps ++ [Value.ref B.p2]).toArray B.dn) :: (B.p2, W.listOf [B.nm, Value.str val vt].toArray B.pn) :: (fl ++ K.led w y)) → Q .next { s with heap := h', toks := k })
    (hw : wpAny (model prog w) A t (MeetXS (fms outer) g L (Cs.m m₀) (Cs.led w K Z m7 tq B qs val vt) (Cs.ok prog w K B R) s) E s) : wpAny (model prog w) A t Q E s := by
  refine wpAny_mono hw (fun fl s' h => ?_) (fun _ _ e => e)
  obtain ⟨g', c, h', k, T', rfl, hp, rfl, F, N⟩ := h
  obtain ⟨y, out, t, u, fl, adds, n⟩ := c
  obtain ⟨h1, h2, h3, h4, h5⟩ := hp
  have B' := below_turn BX T'
  refine hq g' y out t u fl adds n h' k T' B' (XB.keeps B'.stays) (hT _ _ TB B'.stays) (D.turn T') h1 h2 h3 h4 h5 F ?_
  rw [← Kz.kd_at hz6]
  exact N
end Mine.Internal
namespace Mine.Internal
section
variable {prog : Program} {w : World} {K : Ks} {Z : Kz} {m7 : Tok} {tq : Addr} {B : At}
theorem lz_le {qs : List Value} {qn : Nat} {val : Str} {vt : Tok} {x : St} (ho : K.ord) (hk : @LT.lt Nat _ Z.zd Z.za ∧ @LT.lt Nat _ Z.za K.sd ∧ @LT.lt Nat _ K.er tq) (hb : B.ord tq) : ∀ q ∈ Lz w K Z m7 tq B qs qn val vt (K.led w x), @LE.le Nat _ q.1 B.dl := by
  obtain ⟨b1, b2, b3⟩ := hb
  have b4 := Nat.lt_trans b2 b3
  have ht : @LT.lt Nat _ tq B.dl := Nat.lt_trans b1 b4
  have low : ∀ q ∈ (Z.za, instObj 762 Z.zd) :: (Z.zd, instObj 762 Z.zd) :: (tq, instObj 762 Z.zd) :: K.led w x, @LE.le Nat _ q.1 B.dl := fun q h => Nat.le_of_lt (Nat.lt_of_le_of_lt (lo_le ho hk q h) ht)
  intro q hq
  simp only [Lz, List.mem_cons] at hq
  rcases hq with h | h | h | h | h | h | h
  · rw [h]; exact low _ (.head _)
  · rw [h]; exact low (Z.zd, instObj 762 Z.zd) (.tail _ (.head _))
  · rw [h]; exact Nat.le_of_lt ht
  · rw [h]; exact Nat.le_of_lt b4
  · rw [h]; exact Nat.le_refl _
  · rw [h]; exact Nat.le_of_lt b3
  · exact low q (.tail _ (.tail _ (.tail _ h)))
theorem ce_end {fs : List Addr} {g' : Heap} {qs ql adds : List Value} {qn n : Nat} {val val' : Str} {vt vt' : Tok} {x y : St} {R : Ck} {fa : Bool} {g h : Heap} {L : Addr} {m : Str → Option Value} {s : Shared} {nl rest fl : Led} {tk : Nat} (ho : K.ord) (hk : @LT.lt Nat _ Z.zd Z.za ∧ @LT.lt Nat _ Z.za K.sd ∧ @LT.lt Nat _ K.er tq) (hb : B.ord tq)
    (hT0 : KtsTurn fs g g') (F : Fr g' L h m) (N : News g' L h nl) (hT : Take (Lz w K Z m7 tq B ql n val' vt' (K.led w y)) nl rest) (hql : ql = qs ++ adds) (hfl : ∀ p ∈ fl, p ∈ nl) (hgt : ∀ p ∈ fl, @LT.lt Nat _ B.dl p.1) (ok : y.ok K.src) (hrem : y.rem K.src = R.rem) (hks : QIs prog w fl adds (ceKs R fa))
    (hv : val'.cps.toList = (if fa = true then val.cps.toList ++ R.out else val.cps.toList)) :
    CEndS fs g (Lz w K Z m7 tq B qs qn val vt (K.led w x)) (CeP prog w K Z m7 tq B qs val R fa) s .none { s with heap := h, toks := tk } := by
  subst hql
  refine cendS (fr := fl) hT0 F N ?_ (fun p hp r hr e => ?_) ⟨y, adds, n, val', vt', rfl, ok, hrem, hks, hv, rfl⟩
  · intro p hp
    rcases List.mem_append.mp hp with hp | hp
    · exact hfl p hp
    · exact hT.sub p hp
  · exact Nat.lt_irrefl _ (Nat.lt_of_le_of_lt (lz_le ho hk hb r hr) (e ▸ hgt p hp))
theorem tail_gt {x : St} {c a : Addr} {fl : Led} (h : ∀ p ∈ fl, @LT.lt Nat _ c p.1) (ha : @LE.le Nat _ a c) (k : K.ord) (hd : @LT.lt Nat _ a K.sd ∨ @LT.lt Nat _ K.er a) : ∀ q ∈ fl ++ K.led w x, q.1 ≠ a := fun q hq => by
  rcases List.mem_append.mp hq with hq | hq
  · exact Nat.ne_of_gt (Nat.lt_of_le_of_lt ha (h q hq))
  · exact Ks.ne_all k hd q hq
end
end Mine.Internal
namespace Mine.Internal
theorem val_app {val out : Str} {o : List Nat} {fa : Bool} (h : out.cps.toList = o) (hf : fa = true := by rfl) : (val ++ out).cps.toList = (if fa = true then val.cps.toList ++ o else val.cps.toList) := by
  rw [if_pos hf, toList_app, h]
theorem space_is {out : Str} {o : List Nat} {b : Bool} (h : out.cps.toList = o) (hs : spaceB out.cps.toList = b) : spaceB o = b := h ▸ hs
theorem ks_tok {prog : Program} {w : World} {fl : Led} {adds : List Value} {R : Ck} {out : Str} {b : Bool} {ty : Int} {d : Addr} {o : Obj} (q : QIs prog w fl adds R.ks) (h : out.cps.toList = R.out) (hb : spaceB R.out = b) (hd : (d == sysModules) = false) (ht : TokO prog w ty out o) (hty : (if b = true then 2 else 1 : Int) = ty := by rfl) :
    QIs prog w ((d, o) :: fl) (adds ++ [.ref d]) (ceKs R false) := by
  have e : out = ⟨R.out.toArray⟩ := Str.ext' (by rw [← h])
  unfold ceKs
  rw [if_neg (by decide), hb, hty]
  exact (q.mono fun p hp => .tail _ hp).app (.cons ⟨d, o, rfl, .head _, hd, e ▸ ht⟩ .nil)
end Mine.Internal
namespace Mine.Internal
section
variable {prog : Program} {w : World} {A : Around} {E : Value → Shared → Prop} {s : Shared}
theorem item_lastL {value slice : Expr} {a : Addr} {l : List Value} {v : Value} {k : Int} {u : Tok} {Q : Value → Shared → Prop} (hl : s.heap.IsList a (l ++ [v]).toArray) (hk : k = -1) (h : Q v s)
    (hs : subscripted slice false (.ref a) (.int k u) = operate [.ref a, .int k u] (getItem (.ref a) (.int k u)) := by with_unfolding_all rfl) (hg : ∀ r, letTemporaryGo value (.ref a) r = pure () := by intro _; with_unfolding_all rfl) :
    wpAny (model prog w) A (subscriptTail value slice (.ref a) (.int k u)) Q E s := by
  have e : (k + ((l ++ [v]).length : Int)).toNat = l.length := by
    rw [hk, List.length_append, List.length_singleton]; omega
  refine item_negL hl (by omega) (by rw [List.length_append, List.length_singleton]; omega) (by omega) ?_ h hs hg
  rw [e, List.getElem?_append_right (Nat.le_refl _), Nat.sub_self]
  rfl
end
end Mine.Internal
namespace Mine.Internal
end Mine.Internal
namespace Mine.Internal
end Mine.Internal
namespace Mine.Internal
end Mine.Internal
namespace Mine.Internal
section
variable {prog : Program} {w : World} {Kf : Frag} {TP : Heap → Prop} {K : Ks} {Z : Kz} {m7 : Tok} {tq : Addr} {Bt : At} {qs : List Value} {qn : Nat} {x : St} {val : Str} {vt : Tok} {R : Ck} {fa : Bool} {D U : Nat} {f : Value} {pos : List Value} {kw : List (Str × Value)}
theorem lz_ge {T : Led} (ho : K.ord) (hk : @LT.lt Nat _ Z.zd Z.za ∧ @LT.lt Nat _ Z.za K.sd ∧ @LT.lt Nat _ K.er tq) (hb : Bt.ord tq) : ∀ q ∈ Lz w K Z m7 tq Bt qs qn val vt (K.led w x), @LE.le Nat _ Z.zd q.1 := by
  obtain ⟨b1, b2, b3⟩ := hb
  obtain ⟨h1, h2, h3⟩ := hk
  have e := K.lo_hi ho
  have z1 : @LT.lt Nat _ Z.zd tq := Nat.lt_trans h1 (Nat.lt_trans h2 (Nat.lt_trans e h3))
  intro q hq
  simp only [Lz, List.mem_cons] at hq
  rcases hq with h | h | h | h | h | h | h
  · rw [h]; exact Nat.le_of_lt h1
  · rw [h]; exact Nat.le_refl _
  · rw [h]; exact Nat.le_of_lt z1
  · rw [h]; exact Nat.le_of_lt (Nat.lt_trans z1 b1)
  · rw [h]; exact Nat.le_of_lt (Nat.lt_trans z1 (Nat.lt_trans b1 (Nat.lt_trans b2 b3)))
  · rw [h]; exact Nat.le_of_lt (Nat.lt_trans z1 (Nat.lt_trans b1 b2))
  · exact Nat.le_trans (Nat.le_of_lt (Nat.lt_trans h1 h2)) (Ks.between ho q h).1
end
end Mine.Internal
namespace Mine.Internal
theorem fr_back {g g' h : Heap} {L : Addr} {m : Str → Option Value} (T : KtsTurn [] g g') (F : Fr g' L h m) : Fr g L h m :=
  ⟨F.ns, fun b o e => F.keep b o (T.other b o e (fun h => nomatch h)), by rw [← T.size]; exact F.above⟩
theorem news_back {g g' h : Heap} {L : Addr} {l : Led} (T : KtsTurn [] g g') (N : News g' L h l) : News g L h l := fun p hp =>
  ⟨(N p hp).1, (N p hp).2.1, by
    cases q : g.get? p.1 with
    | none => rfl
    | some o =>
      have := T.other _ _ q (fun h => nomatch h)
      rw [(N p hp).2.2] at this; cases this⟩
section
variable {prog : Program} {w : World} {Kf : Frag} {TP : Heap → Prop} {K : Ks} {Z : Kz} {m7 : Tok} {tq : Addr} {Bt : At} {qs : List Value} {qn : Nat} {x : St} {val : Str} {vt : Tok} {R : Ck} {fa : Bool} {D U : Nat} {f : Value} {pos : List Value} {kw : List (Str × Value)}
end
end Mine.Internal

end
section
set_option tactic.hygienic false
open PySem PySem.W PyProof.Rows PySem.Calls PySem.Spec PyProof.V
namespace Mine.Internal
section
variable {prog : Program} {w : World} {A : Around} {E : Value → Shared → Prop} {s : Shared} {h₀ : Heap} {L : Addr} {m : Str → Option Value} {news : List (Addr × Obj)} {d : Addr} {o : Obj} {kvs : List (Str × Value)}
end
end Mine.Internal
namespace Mine.Internal
theorem sliceN (x : Str) (j : Nat) : Txt.slice x none (some (j : Int)) = ⟨(x.cps.toList.take j).toArray⟩ := by
  rw [slice_gen]
  have e1 : sliceLo x.length none = 0 := rfl
  have e2 : sliceHi x.length (some (j : Int)) - 0 = min j x.length := clip_nat x.length j
  rw [e1, e2, List.drop_zero]
  congr 2
  rw [← len_toList, ← List.take_take, List.take_length]
section
variable {prog : Program} {w : World} {A : Around} {E : Value → Shared → Prop} {s : Shared} {h₀ : Heap} {L : Addr} {news : List (Addr × Obj)}
end
theorem elt_str {z x : Str} {u : Tok} : eltE (.str x) (.str z u) = (z == x) := by
  rw [eltE_s]; simp [PyData.eqv]
theorem chr_beq (d c : Nat) : ((⟨#[d]⟩ : Str) == ⟨#[c]⟩) = (c == d) := by
  rw [chr_eq]; by_cases h : c = d <;> simp [h]
end Mine.Internal
namespace Mine.Internal
end Mine.Internal
namespace Mine.Internal
section
variable {prog : Program} {w : World} {T : Str} {al : Option Nat} {g h : Heap} {L : Addr} {m : Str → Option Value} {s : Shared} {nl : Led} {tk : Nat} {q lf : Addr} {fs : List Value} {n : Nat} {used : Int} {fl : Led} {t tu : Tok} {out : Str} {R : Ck}
end
end Mine.Internal
namespace Mine.Internal
section
variable {prog : Program} {w : World} {z : Int} {a b c : Addr} {oa ob oc : Obj} {fs : List Value}
end
end Mine.Internal
namespace Mine.Internal
section
variable {prog : Program} {w : World} {A : Around} {E : Value → Shared → Prop} {s : Shared} {g : Heap} {L : Addr} {m : Str → Option Value} {news : List (Addr × Obj)}
end
end Mine.Internal
namespace Mine.Internal
end Mine.Internal
namespace Mine.Internal
section
variable {prog : Program} {w : World} {A : Around} {E : Value → Shared → Prop} {s : Shared}
end
end Mine.Internal
namespace Mine.Internal
end Mine.Internal
namespace Mine.Internal
end Mine.Internal
namespace Mine.Internal
end Mine.Internal

end
section
set_option tactic.hygienic false
open PySem PySem.W PyProof.Rows PySem.Calls PySem.Spec PyProof.V
namespace Mine.Internal
section
variable {prog : Program} {w : World} {A : Around} {E : Value → Shared → Prop} {Q : Flow → Shared → Prop} {s : Shared} {env : Env} {h₀ : Heap} {x : Str} {body : List Stmt} {m₀ : Str → Option Value}
noncomputable def TurnEnd (h₀ : Heap) (L : Addr) (x : Str) (stored : List Str) (m₀ : Str → Option Value) (led : Led) (s₁ s₂ : Shared) : Prop :=
  ∃ h' tk m' news', s₂ = { s₁ with heap := h', toks := tk } ∧ Fr h₀ L h' m' ∧ News h₀ L h' news' ∧ (∀ p ∈ led, p ∈ news') ∧ ∀ z, z ≠ x → stored.contains z = false → m' z = m₀ z
noncomputable def TurnGo (h₀ : Heap) (L : Addr) (x : Str) (stored : List Str) (m₀ : Str → Option Value) (led : Led) (s₁ : Shared) (Q : Flow → Shared → Prop) (f : Flow) (s₂ : Shared) : Prop :=
  match f with
  | .ret v => Q (.ret v) s₂
  | .brk => Q .next s₂
  | _ => TurnEnd h₀ L x stored m₀ led s₁ s₂
theorem turn_end {g : Heap} {L : Addr} {stored : List Str} {led news' : Led} {s₁ : Shared} {h' : Heap} {tk : Nat} {m' : Str → Option Value} (F : Fr g L h' m') (N : News g L h' news') (hn : ∀ p ∈ led, p ∈ news') (hr : ∀ z, z ≠ x → stored.contains z = false → m' z = m₀ z) :
    TurnEnd g L x stored m₀ led s₁ { s₁ with heap := h', toks := tk } := ⟨h', tk, m', news', rfl, F, N, hn, hr⟩
theorem loop_data {l : Addr} {vs : List Value} {ds : List Dat} {nn : Nat} (stored : List Str) (rest : Led) (hh : A.handled = none) (F : Fr h₀ env.locals s.heap m₀) (N : News h₀ env.locals s.heap ((l, W.listOf vs.toArray nn) :: rest)) (hd : DatAll ((l, W.listOf vs.toArray nn) :: rest ++ []) vs ds)
    (turn : ∀ (nl : Led) d v (u : Str → Option Value) h tk own, d ∈ ds → DatIn nl v d → Fr h₀ env.locals h (fun y => if y = x then some v else kstB (fun z => if stored.contains z then u z else m₀ z) [] y) → News h₀ env.locals h ((l, W.listOf vs.toArray nn) :: (rest ++ own)) →
      wpAny (model prog w) A (execs body env) (TurnGo h₀ env.locals x stored m₀ ((l, W.listOf vs.toArray nn) :: (rest ++ own)) { s with heap := h, toks := tk } Q) E { s with heap := h, toks := tk })
    (done : ∀ (u : Str → Option Value) h tk, Fr h₀ env.locals h (fun y => if y = x then u y else kstB (fun z => if stored.contains z then u z else m₀ z) [] y) → News h₀ env.locals h ((l, W.listOf vs.toArray nn) :: rest) → Q .next { s with heap := h, toks := tk }) :
    wpAny (model prog w) A (pyIter (.ref l)) (fun it s₂ => LoopAtV prog w A h₀ env x body Q E it s₂) E s := by
  refine kd_listL (σ := Unit) (ds := ds) (nn := nn) (fun _ => []) ((l, W.listOf vs.toArray nn) :: rest) (fun _ => []) (fun _ _ => True) stored (fun _ _ => True) (((l, W.listOf vs.toArray nn) :: rest).map (·.1)) () hh (.head _) hd F N (fun p hp => by simpa using hp) (fun _ => rfl) trivial (fun _ h => nomatch h) trivial ?_ ?_
  · intro c tl pre d post v u h tk own hds hmem hin hsep hoff _ _ F' N'
    refine wpAny_mono (turn _ d v u h tk (tl ++ own) hmem hin F' (fun p hp => N' p (by simpa [List.append_assoc] using hp))) (fun f s₂ hf => ?_) (fun _ _ e => e)
    cases f with
    | ret v => exact hf
    | brk => exact hf
    | next =>
      obtain ⟨h', tk', m', news', e, F2, N2, hn, hr⟩ := hf
      subst e
      refine kd_end (σ := Unit) (Led := fun _ => []) (cst := (l, W.listOf vs.toArray nn) :: rest) (ps := fun _ => []) (Facts := fun _ _ => True) (P := fun _ _ => True) () [] hsep F2 N2 (fun p hp => hn p ?_) (fun p hp => hn p ?_) rfl (fun _ h => nomatch h) (fun _ h => nomatch h) (fun _ h => nomatch h) (fun z hz _ h3 => hr z hz h3) trivial trivial
      · simp only [List.nil_append, List.cons_append, List.mem_cons, List.mem_append] at hp ⊢
        rcases hp with h | h | h
        · exact .inl h
        · exact .inr (.inl h)
        · exact .inr (.inr (.inl h))
      · exact List.mem_cons_of_mem _ (List.mem_append_right _ (List.mem_append_right _ hp))
    | cont =>
      obtain ⟨h', tk', m', news', e, F2, N2, hn, hr⟩ := hf
      subst e
      refine kd_end (σ := Unit) (Led := fun _ => []) (cst := (l, W.listOf vs.toArray nn) :: rest) (ps := fun _ => []) (Facts := fun _ _ => True) (P := fun _ _ => True) () [] hsep F2 N2 (fun p hp => hn p ?_) (fun p hp => hn p ?_) rfl (fun _ h => nomatch h) (fun _ h => nomatch h) (fun _ h => nomatch h) (fun z hz _ h3 => hr z hz h3) trivial trivial
      · simp only [List.nil_append, List.cons_append, List.mem_cons, List.mem_append] at hp ⊢
        rcases hp with h | h | h
        · exact .inl h
        · exact .inr (.inl h)
        · exact .inr (.inr (.inl h))
      · exact List.mem_cons_of_mem _ (List.mem_append_right _ (List.mem_append_right _ hp))
  · intro c tl u h tk _ _ _ F' N'
    exact done u h tk F' (fun p hp => N' p (by
      simp only [List.nil_append]
      exact List.mem_append_left _ hp))
end
end Mine.Internal

end
section
set_option tactic.hygienic false
open PySem PySem.W PyProof.Rows PySem.Calls PySem.Spec PyProof.V
namespace Mine.Internal
section
variable {prog : Program} {w : World} {A : Around} {E : Value → Shared → Prop} {Q : Flow → Shared → Prop} {s : Shared} {env : Env} {h₀ : Heap} {x : Str} {body : List Stmt} {m₀ : Str → Option Value}
end
theorem lt_by {a d : Addr} {o : Obj} {l : Led} (h : ∀ p ∈ l, p.1 < d) (m : (a, o) ∈ l) : @LT.lt Nat _ a d := h _ m
section
variable {prog : Program} {w : World} {A : Around} {E : Value → Shared → Prop} {s : Shared} {g : Heap} {L : Addr} {K : Ks} {Z : Kz} {m7 : Tok} {tq : Addr} {B : At} {fx own : Led} {R : Ck}
end
end Mine.Internal
namespace Mine.Internal
section
variable {prog : Program} {w : World} {A : Around} {E : Value → Shared → Prop} {s : Shared} {h₀ : Heap} {L : Addr} {news : List (Addr × Obj)}
end
end Mine.Internal
namespace Mine.Internal
end Mine.Internal
namespace Mine.Internal
end Mine.Internal
namespace Mine.Internal
end Mine.Internal
namespace Mine.Internal
end Mine.Internal
namespace Mine.Internal
theorem all_ne {d : Addr} {rest N : Led} (h : ∀ p ∈ N, p.1 < d) (s : ∀ p ∈ rest, p ∈ N) : ∀ q ∈ rest, q.1 ≠ d := fun q hq => Nat.ne_of_lt (h q (s q hq))
end Mine.Internal
namespace Mine.Internal
theorem cons_ne {w : World} {K : Ks} {x : St} {d : Addr} {e : Addr × Obj} {o : Led} (h : ∀ p ∈ e :: o, p.1 < d) (k : K.ord) (hd : @LT.lt Nat _ d K.sd) : ∀ q ∈ e :: (o ++ K.led w x), q.1 ≠ d := tail_ne (o := e :: o) h (fun _ h => h) k (.inl hd)
end Mine.Internal
namespace Mine.Internal
end Mine.Internal
namespace Mine.Internal
end Mine.Internal

end
section
set_option tactic.hygienic false
open PySem PySem.W PyProof.Rows PySem.Calls PySem.Spec
namespace Mine.Internal
inductive PosL (S : List Addr) : Led → List Nat → Prop
  | nil : PosL S [] []
  | cons {p : Addr × Obj} {l : Led} {is : List Nat} (i : Nat) (h : S[i]? = some p.1) (t : PosL S l is) : PosL S (p :: l) (i :: is)
theorem PosL.get {S : List Addr} {l : Led} {is : List Nat} (P : PosL S l is) : ∀ p ∈ l, ∃ i ∈ is, S[i]? = some p.1 := by
  induction P with
  | nil => exact fun _ h => nomatch h
  | cons i h _ ih =>
    intro p hp
    cases hp with
    | head => exact ⟨i, .head _, h⟩
    | tail _ hp =>
      obtain ⟨j, hj, e⟩ := ih p hp
      exact ⟨j, .tail _ hj, e⟩
theorem Srt.lt_at {S : List Addr} (h : Srt S) : ∀ {i j : Nat} {a b : Addr}, i < j → S[i]? = some a → S[j]? = some b → @LT.lt Nat _ b a := by
  induction S with
  | nil => intro i j a b _ e _; cases e
  | cons x S ih =>
    intro i j a b hij e1 e2
    cases j with
    | zero => exact absurd hij (Nat.not_lt_zero _)
    | succ j =>
      cases i with
      | zero =>
        cases e1
        exact h.1 b (List.mem_of_getElem? e2)
      | succ i => exact ih h.2 (Nat.lt_of_succ_lt_succ hij) e1 e2
theorem Srt.ne_at {S : List Addr} (h : Srt S) {i j : Nat} {a b : Addr} (hij : (i == j) = false) (e1 : S[i]? = some a) (e2 : S[j]? = some b) : @Ne Nat a b := by
  rcases Nat.lt_or_gt_of_ne (ne_of_beq_false hij) with q | q
  · exact Nat.ne_of_gt (h.lt_at q e1 e2)
  · exact Nat.ne_of_lt (h.lt_at q e2 e1)
noncomputable def apart1 (i : Nat) (js : List Nat) : Bool := js.all fun j => !(i == j)
noncomputable def apartL (is js : List Nat) : Bool := is.all fun i => apart1 i js
theorem Srt.neA {S : List Addr} (h : Srt S) {a : Addr} {r : Led} {js : List Nat} (i : Nat) (e : S[i]? = some a) (q : PosL S r js) (d : apart1 i js = true) : ∀ q ∈ r, q.1 ≠ a := fun z hz => by
  obtain ⟨j, hj, e2⟩ := q.get z hz
  exact Ne.symm (h.ne_at (by simpa using List.all_eq_true.mp d j hj) e e2)
theorem Srt.neL {S : List Addr} (h : Srt S) {l r : Led} {is js : List Nat} (p : PosL S l is) (q : PosL S r js) (d : apartL is js = true) : ∀ p ∈ l, ∀ q ∈ r, p.1 ≠ q.1 := fun x hx => by
  obtain ⟨i, hi, e⟩ := p.get x hx
  exact fun z hz => Ne.symm (h.neA i e q (List.all_eq_true.mp d i hi) z hz)
theorem Srt.neB {S : List Addr} (h : Srt S) {a : Addr} {r : Led} {is js : List Nat} (p : PosL S [(a, instObj 0 0)] is) (q : PosL S r js) (d : apartL is js = true) : ∀ q ∈ r, q.1 ≠ a := fun z hz => Ne.symm (h.neL p q d _ (.head _) z hz)
inductive UpdI (d : Addr) (o o' : Obj) : Nat → Led → Led → Prop
  | head {r : Led} : UpdI d o o' 0 ((d, o) :: r) ((d, o') :: r)
  | tail {p : Addr × Obj} {r r' : Led} {k : Nat} : UpdI d o o' k r r' → UpdI d o o' (k + 1) (p :: r) (p :: r')
noncomputable def apartAt : Nat → Nat → List Nat → Bool
  | _, _, [] => true
  | i, 0, _ :: r => apart1 i r
  | i, k + 1, j :: r => !(i == j) && apartAt i k r
theorem PosL.head {S : List Addr} {p : Addr × Obj} {l : Led} {is : List Nat} (P : PosL S (p :: l) is) : ∃ i js, is = i :: js ∧ S[i]? = some p.1 ∧ PosL S l js := by
  cases P with
  | cons i h t => exact ⟨i, _, rfl, h, t⟩
theorem Srt.upd {S : List Addr} (h : Srt S) {d : Addr} {o o' : Obj} {k : Nat} {l l' : Led} {is : List Nat} (i : Nat) (e : S[i]? = some d) (u : UpdI d o o' k l l') (p : PosL S l is) (q : apartAt i k is = true) : Upd d o o' l l' := by
  induction u generalizing is with
  | head =>
    obtain ⟨j, js, rfl, hj, t⟩ := p.head
    exact .head (h.neA i e t q)
  | tail u ih =>
    obtain ⟨j, js, rfl, hj, t⟩ := p.head
    have q' : (!(i == j) && apartAt i _ js) = true := q
    obtain ⟨q1, q2⟩ := Bool.and_eq_true_iff.mp q'
    exact .tail (Ne.symm (h.ne_at (by simpa using q1) e hj)) (ih t q2)
noncomputable def apartK (k : Nat) (is : List Nat) : Bool := match is[k]? with
  | some i => apartAt i k is
  | none => false
theorem PosL.at {S : List Addr} {d : Addr} {o o' : Obj} {k : Nat} {l l' : Led} (u : UpdI d o o' k l l') {is : List Nat} (P : PosL S l is) : ∃ i, is[k]? = some i ∧ S[i]? = some d := by
  induction u generalizing is with
  | head => obtain ⟨i, js, rfl, h, _⟩ := P.head; exact ⟨i, rfl, h⟩
  | tail _ ih => obtain ⟨i, js, rfl, _, t⟩ := P.head; exact ih t
theorem Srt.updP {S : List Addr} (h : Srt S) {d : Addr} {o o' : Obj} {k : Nat} {l l' : Led} {is : List Nat} (u : UpdI d o o' k l l') (p : PosL S l is) (q : apartK k is = true) : Upd d o o' l l' := by
  obtain ⟨i, h1, h2⟩ := PosL.at u p
  unfold apartK at q
  rw [h1] at q
  exact h.upd i h2 u p q
theorem fresh_grow {S : List Addr} {t q : Addr} {o o' : Obj} {fr l : Led} (S8 : Srt (t :: S)) (h : ∀ p ∈ (q, o) :: fr, ∀ r ∈ l, @LT.lt Nat _ r.1 p.1) (m : (t, o') ∈ l) : Srt (q :: t :: S) := S8.grow (h _ (.head _) _ m)
end Mine.Internal

end
section
set_option tactic.hygienic false
open PySem PySem.W PyProof.Rows PySem.Calls PySem.Spec
namespace Mine.Internal
noncomputable def CQ (g : Heap) (l : Led) (Post : CPost) (hs : Heap) (gens : Array GenState) (drawn : Drawn) (t0 : Nat) (os : OsState) : Flow → Shared → Prop :=
  fun fl s' => CEnd g l Post ⟨hs, gens, drawn, t0, os⟩ (match fl with | .ret v => v | _ => .none) s'
theorem fin9 {g : Heap} {l : Led} {Post : CPost} {hs : Heap} {gens : Array GenState} {drawn : Drawn} {t0 : Nat} {os : OsState} {v : Value} {s' : Shared} (h : CEnd g l Post ⟨hs, gens, drawn, t0, os⟩ v s') : CQ g l Post hs gens drawn t0 os (.ret v) s' := h
theorem fin0 {g : Heap} {l : Led} {Post : CPost} {hs : Heap} {gens : Array GenState} {drawn : Drawn} {t0 : Nat} {os : OsState} {s' : Shared} (h : CEnd g l Post ⟨hs, gens, drawn, t0, os⟩ .none s') : CQ g l Post hs gens drawn t0 os .next s' := h
noncomputable def XQ : Value → Shared → Prop := fun _ _ => False
theorem ctr_introN {prog : Program} {w : World} {K : Frag} {TP : Heap → Prop} {D U : Nat} {l : Led} {Post : CPost}
    {name qual : Str} {params : Arguments} {body : List Stmt} {scope : Scope} {dV kV doc pm cdv ct oc : Value} {an od : Option Addr} {osl : Array (Option Value)} {f : Addr} {pos : List Value} {kw : List (Str × Value)} {binds : List (Str × Value)}
    (hT : ∀ h h' : Heap, TP h → h.StaysIn h' → TP h') (hlim : ∀ h : Heap, TP h → h.NoLimit)
    (ho : K.lookup f = some ⟨oc, od, .func (fnOf name qual params body scope dV kV doc pm an cdv ct), osl⟩) (hcd : codeIn K cdv qual = true) (hD : D < recursionLimit)
    (hbind : ∀ s : Shared, K.In s.heap → BindsTo s (fnOf name qual params body scope dV kV doc pm an cdv ct) ⟨pos, kw⟩ binds) (hloc : ∀ y ∈ binds, scope.names.lookup y.1 = some .local)
    (h : ∀ (A : Around) (base g : Heap) (env : Env) (outer : List Env) (L' : Addr) (h₁ : Heap) (hs : Heap) (gens : Array GenState) (drawn : Drawn) (t0 : Nat) (os : OsState) (tk : Nat),
      Below A base (env :: outer) g → Fr g L' h₁ (fun y => binds.reverse.lookup y) → K.In g → News g L' h₁ l → TP g → (∀ p ∈ l, p.1 < L') →
      let e9 := envOf qual scope L' f cdv
      let A9 := (topA D (U + 1) env outer).deeper e9
      let q9 := CQ g l Post hs gens drawn t0 os
      wpAny (model prog w) A9 (execs body e9) q9 XQ ⟨h₁, gens, drawn, tk + 1, os⟩)
    (hcell : ∀ x ∈ scope.names, x.2 ≠ .cell) (hco : scope.isCoroutine = false) (hgen : scope.isGenerator = false) (hk : scope.kind = .function) (hbn : @LE.le Nat _ 1 binds.length := by exact Nat.le_of_ble_eq_true rfl) :
    CtrC prog w K TP D U (.ref f) ⟨pos, kw⟩ l Post :=
  ctr_intro1 hT hlim ho hcd hD hbind hloc (fun A base g env outer L' h₁ s tk a b c d e f i => by
    obtain ⟨tk, rfl⟩ : ∃ k, tk = k + 1 := ⟨tk - 1, (Nat.sub_add_cancel (Nat.le_trans hbn i)).symm⟩
    exact h A base g env outer L' h₁ s.heap s.gens s.drawn s.toks s.os tk a b c d e f) hcell hco hgen hk
theorem ctr_introM {prog : Program} {w : World} {K : Frag} {TP : Heap → Prop} {D U : Nat} {l : Led} {Post : CPost}
    {name qual : Str} {params : Arguments} {body : List Stmt} {scope : Scope} {dV kV doc pm cdv ct oc : Value} {an od : Option Addr} {osl : Array (Option Value)} {f : Addr} {pos : List Value} {kw : List (Str × Value)} {binds : List (Str × Value)}
    (hT : ∀ h h' : Heap, TP h → h.StaysIn h' → TP h') (hlim : ∀ h : Heap, TP h → h.NoLimit)
    (ho : K.lookup f = some ⟨oc, od, .func (fnOf name qual params body scope dV kV doc pm an cdv ct), osl⟩) (hcd : codeIn K cdv qual = true) (hD : D < recursionLimit)
    (hbind : ∀ s : Shared, K.In s.heap → BindsTo s (fnOf name qual params body scope dV kV doc pm an cdv ct) ⟨pos, kw⟩ binds) (hloc : ∀ y ∈ binds, scope.names.lookup y.1 = some .local)
    (h : ∀ (A : Around) (base g : Heap) (env : Env) (outer : List Env) (L' : Addr) (h₁ : Heap) (hs : Heap) (gens : Array GenState) (drawn : Drawn) (t0 : Nat) (os : OsState) (tk : Nat),
      Below A base (env :: outer) g → Fr g L' h₁ (fun y => binds.reverse.lookup y) → K.In g → News g L' h₁ l → TP g → (∀ p ∈ l, p.1 < L') →
      let e9 := envOf qual scope L' f cdv
      let A9 := (topA D (U + 1) env outer).deeper e9
      let q9 := CQ g l Post hs gens drawn t0 os
      wpAny (model prog w) A9 (execs body e9) q9 XQ ⟨h₁, gens, drawn, tk, os⟩)
    (hcell : ∀ x ∈ scope.names, x.2 ≠ .cell) (hco : scope.isCoroutine = false) (hgen : scope.isGenerator = false) (hk : scope.kind = .function) :
    CtrC prog w K TP D U (.ref f) ⟨pos, kw⟩ l Post :=
  ctr_intro1 hT hlim ho hcd hD hbind hloc (fun A base g env outer L' h₁ s tk a b c d e f _ => by
    exact h A base g env outer L' h₁ s.heap s.gens s.drawn s.toks s.os tk a b c d e f) hcell hco hgen hk
noncomputable def CQS (fs : List Addr) (g : Heap) (l : Led) (Post : CPost) (hs : Heap) (gens : Array GenState) (drawn : Drawn) (t0 : Nat) (os : OsState) : Flow → Shared → Prop :=
  fun fl s' => CEndS fs g l Post ⟨hs, gens, drawn, t0, os⟩ (match fl with | .ret v => v | _ => .none) s'
theorem finS0 {fs : List Addr} {g : Heap} {l : Led} {Post : CPost} {hs : Heap} {gens : Array GenState} {drawn : Drawn} {t0 : Nat} {os : OsState} {s' : Shared} (h : CEndS fs g l Post ⟨hs, gens, drawn, t0, os⟩ .none s') : CQS fs g l Post hs gens drawn t0 os .next s' := h
theorem ctrS_introN {prog : Program} {w : World} {K : Frag} {TP : Heap → Prop} {D U : Nat} {l : Led} {Post : CPost}
    {name qual : Str} {params : Arguments} {body : List Stmt} {scope : Scope} {dV kV doc pm cdv ct oc : Value} {an od : Option Addr} {osl : Array (Option Value)} {f : Addr} {pos : List Value} {kw : List (Str × Value)} {binds : List (Str × Value)}
    (hT : ∀ h h' : Heap, TP h → h.StaysIn h' → TP h') (hlim : ∀ h : Heap, TP h → h.NoLimit)
    (ho : K.lookup f = some ⟨oc, od, .func (fnOf name qual params body scope dV kV doc pm an cdv ct), osl⟩) (hcd : codeIn K cdv qual = true) (hD : D < recursionLimit)
    (hbind : ∀ s : Shared, K.In s.heap → BindsTo s (fnOf name qual params body scope dV kV doc pm an cdv ct) ⟨pos, kw⟩ binds) (hloc : ∀ y ∈ binds, scope.names.lookup y.1 = some .local)
    (h : ∀ (base g : Heap) (env : Env) (outer : List Env) (L' : Addr) (h₁ : Heap) (hs : Heap) (gens : Array GenState) (drawn : Drawn) (t0 : Nat) (os : OsState) (tk : Nat),
      Below (topA D (U + 1) env outer) base (env :: outer) g → Fr g L' h₁ (fun y => binds.reverse.lookup y) → K.In base → TP base → KtsDicts (fms (env :: outer)) g → K.In g → News g L' h₁ l → TP g → (∀ p ∈ l, p.1 < L') →
      let e9 := envOf qual scope L' f cdv
      let A9 := (topA D (U + 1) env outer).deeper e9
      let q9 := CQS (fms (env :: outer)) g l Post hs gens drawn t0 os
      wpAny (model prog w) A9 (execs body e9) q9 XQ ⟨h₁, gens, drawn, tk, os⟩)
    (hcell : ∀ x ∈ scope.names, x.2 ≠ .cell) (hco : scope.isCoroutine = false) (hgen : scope.isGenerator = false) (hk : scope.kind = .function) :
    CtrS prog w K TP D U (.ref f) ⟨pos, kw⟩ l Post :=
  ctrS_intro hT hlim ho hcd hD hbind hloc (fun base g env outer L' h₁ s tk a b c d e f i j k => h base g env outer L' h₁ s.heap s.gens s.drawn s.toks s.os tk a b c d e f i j k) hcell hco hgen hk
section
variable {M : Model} {A : Around} {E : Value → Shared → Prop} {h : Heap} {g : Array GenState} {d : Drawn} {t : Nat} {o : OsState} {env : Env} {st : Stmt} {rest : List Stmt} {Q : Flow → Shared → Prop}
theorem nextU {st' : Stmt} (ht : @LE.le Nat _ 1 t) (k : let qk : Flow → Shared → Prop := fun f s' => match f with | .next => wpAny M A (execs (st' :: rest) env) Q E s' | f => Q f s'
    ∀ t : Nat, wpAny M A (exec st env) qk E ⟨h, g, d, t + 1, o⟩) : wpAny M A (execs (st :: st' :: rest) env) Q E ⟨h, g, d, t, o⟩ := by
  have := k (t - 1)
  rw [Nat.sub_add_cancel ht] at this
  exact wpAny_execs_cons this
theorem nextS {st' : Stmt} (k : let qk : Flow → Shared → Prop := fun f s' => match f with | .next => wpAny M A (execs (st' :: rest) env) Q E s' | f => Q f s'
    ∀ t : Nat, wpAny M A (exec st env) qk E ⟨h, g, d, t + 1, o⟩) : wpAny M A (execs (st :: st' :: rest) env) Q E ⟨h, g, d, t + 1, o⟩ := wpAny_execs_cons (k t)
theorem lastS (k : ∀ t : Nat, wpAny M A (exec st env) Q E ⟨h, g, d, t + 1, o⟩) : wpAny M A (execs [st] env) Q E ⟨h, g, d, t + 1, o⟩ :=
  wpAny_execs_cons (wpAny_mono (k t) (fun f s' hq => by cases f <;> first | exact wpAny_execs_nil hq | exact hq) (fun _ _ x => x))
theorem lastU (ht : @LE.le Nat _ 1 t) (k : ∀ t : Nat, wpAny M A (exec st env) Q E ⟨h, g, d, t + 1, o⟩) : wpAny M A (execs [st] env) Q E ⟨h, g, d, t, o⟩ := by
  have := k (t - 1)
  rw [Nat.sub_add_cancel ht] at this
  exact wpAny_execs_cons (wpAny_mono this (fun f s' hq => by cases f <;> first | exact wpAny_execs_nil hq | exact hq) (fun _ _ x => x))
theorem nextZ {st' : Stmt} (k : let qk : Flow → Shared → Prop := fun f s' => match f with | .next => wpAny M A (execs (st' :: rest) env) Q E s' | f => Q f s'
    ∀ t : Nat, wpAny M A (exec st env) qk E ⟨h, g, d, t, o⟩) : wpAny M A (execs (st :: st' :: rest) env) Q E ⟨h, g, d, t, o⟩ := wpAny_execs_cons (k t)
theorem lastZ (k : ∀ t : Nat, wpAny M A (exec st env) Q E ⟨h, g, d, t, o⟩) : wpAny M A (execs [st] env) Q E ⟨h, g, d, t, o⟩ :=
  wpAny_execs_cons (wpAny_mono (k t) (fun f s' hq => by cases f <;> first | exact wpAny_execs_nil hq | exact hq) (fun _ _ x => x))
theorem nilS {s : Shared} (k : Q .next s) : wpAny M A (execs [] env) Q E s := wpAny_execs_nil k
end
section
variable {M : Model} {A : Around} {E : Value → Shared → Prop} {h : Heap} {g : Array GenState} {d : Drawn} {t : Nat} {o : OsState} {env : Env} {Q : Value → Shared → Prop} {pos : Pos} {k : Nat}
theorem c_int {i : Int} (q : Q (.int i t) ⟨h, g, d, t + 1, o⟩) : wpAny M A (eval (.Constant (.int i) k pos) env) Q E ⟨h, g, d, t, o⟩ := wpAny_Constant_int q
theorem c_str {x : Str} (q : Q (.str x t) ⟨h, g, d, t + 1, o⟩) : wpAny M A (eval (.Constant (.str x) k pos) env) Q E ⟨h, g, d, t, o⟩ := Constant_str q
end
section
variable {M : Model} {A : Around} {E : Value → Shared → Prop} {h : Heap} {gs : Array GenState} {d : Drawn} {t : Nat} {o : OsState} {h₀ : Heap} {L a : Addr} {m : Str → Option Value} {cn : Str} {cs : Scope} {ccd : Value} {cl : List (Str × Addr)}
  {x : Str} {v : Value} {Q : Unit → Shared → Prop} {news : Led}
theorem st_name (F : Fr h₀ L h m) (N : News h₀ L h news)
    (k : let m' : Str → Option Value := fun y => if y = x then some v else m y
      ∀ h', Fr h₀ L h' m' → News h₀ L h' news → Q () ⟨h', gs, d, t + 1, o⟩)
    (hk : cs.kind = .function := by rfl) (hx : (envX cn cs L a ccd cl).kindOf x = some .local := by rfl) : wpAny M A (storeName (envX cn cs L a ccd cl) x v) Q E ⟨h, gs, d, t, o⟩ :=
  storeX_L (s := ⟨h, gs, d, t, o⟩) F N k hk hx
end
section
variable {prog : Program} {w : World} {A A₀ : Around} {E : Value → Shared → Prop} {h : Heap} {gs : Array GenState} {d : Drawn} {t : Nat} {o : OsState} {K : Frag} {x C dx L : Addr} {h₀ : Heap} {m : Str → Option Value} {news news' : Led} {es es' : List DictEntry} {n n' : Nat} {name : Str} {v : Value}
theorem st_attr {Q : Unit → Shared → Prop} (F : Fr h₀ L h m) (X₀ : K.In h₀) (N : News h₀ L h news) (h1 : (x, instObj C dx) ∈ news) (h2 : (dx, dictOf es n) ∈ news)
    (hs : findIn K (.ref C) "__setattr__" = some (some (.builtin "object.__setattr__"))) (hp : plainOver K C = true) (ht : takerIn K C name = some none) (hh : hasDictIn K C = true) (hl : (getL name es).isSome = true)
    (e : (putL name (PyData.keyHash w.params name) (.str name (t + 1)) v es, putN name es n) = (es', n')) (U : Upd dx (dictOf es n) (dictOf es' n') news news') (hz : es'.length ≤ 1000)
    (k : ∀ h', Fr h₀ L h' m → News h₀ L h' news' → Q () ⟨h', gs, d, t + 2, o⟩) :
    wpAny (model prog w) A (setAttr (.ref x) name v) Q E ⟨h, gs, d, t, o⟩ :=
  set_dict (s := ⟨h, gs, d, t, o⟩) F X₀ N (InstAt.of_news N h1 h2) rfl hs hp ht hh hl e U hz k
theorem at_name {xp : Str} {xpos pos : Pos} {cn : Str} {cs : Scope} {a : Addr} {ccd : Value} {cl : List (Str × Addr)} {Q : Value → Shared → Prop} {attr : Option Value}
    (F : Fr h₀ L h m) (X₀ : K.In h₀) (N : News h₀ L h news) (hv : m xp = some (.ref x)) (h1 : (x, instObj C dx) ∈ news) (h2 : (dx, dictOf es n) ∈ news) (hg : plainGet K C name = true) (hh : hasDictIn K C = true)
    (ha : findIn K (.ref C) name = some attr) (hn : noGet K attr = true) (hl : getL name es = some (some v)) (hh2 : handedIn v = true)
    (q : Q v ⟨h, gs, d, t + 1, o⟩)
    (hk : cs.kind = .function := by rfl) (hx : (envX cn cs L a ccd cl).kindOf xp = some .local := by rfl) (hd : (xp == ("__debug__" : Str)) = false := by decide)
    (he : eval (.Attribute (.Name xp xpos) name pos) (envX cn cs L a ccd cl) = (do
      let o ← eval (.Name xp xpos) (envX cn cs L a ccd cl)
      standAt pos.atName
      let r ← holding [o] (getAttr o name true)
      letTemporaryGo (.Name xp xpos) o r
      pure r) := by with_unfolding_all rfl) :
    wpAny (model prog w) A (eval (.Attribute (.Name xp xpos) name pos) (envX cn cs L a ccd cl)) Q E ⟨h, gs, d, t, o⟩ :=
  Attribute_Name_ (nameX_L (s := ⟨h, gs, d, t, o⟩) F hv (get_own (s := ⟨h, gs, d, t, o⟩) F X₀ (InstAt.of_news N h1 h2) hg hh ha hn hl hh2 q) hk hx hd) he
end
section
variable {prog : Program} {w : World} {A : Around} {E : Value → Shared → Prop} {h : Heap} {gs : Array GenState} {d : Drawn} {n : Nat} {o : OsState} {Q : Value → Shared → Prop}
theorem c_replace {x y z : Str} {t u v : Tok} (huv : @Ne Nat u v) (hyz : (y == z) = false) (hx : x.length ≤ 1048576) (hz : z.length ≤ 14)
    (hq : ∀ t' k, Q (.str (Txt.replace x y z) t') ⟨h, gs, d, k + 1, o⟩) : wpAny (model prog w) A (call (.builtin "str.replace") [.str x t, .str y (u + 1), .str z (v + 1)]) Q E ⟨h, gs, d, n + 1, o⟩ :=
  replaceM (s := ⟨h, gs, d, n + 1, o⟩) (Nat.succ_ne_zero u) (Nat.succ_ne_zero v) (fun e => huv (Nat.succ.inj e)) hyz hx hz (fun t' k hk => by
    obtain ⟨k, rfl⟩ : ∃ j, k = j + 1 := ⟨k - 1, (Nat.sub_add_cancel (Nat.le_trans (Nat.succ_le_succ (Nat.zero_le n)) hk)).symm⟩
    exact hq t' k)
end
section
variable {prog : Program} {w : World} {K : Frag} {TP : Heap → Prop} {D U : Nat} {t : Sem Value} {l c rest : Led} {A A₀ : Around} {base h₀ h : Heap} {env : Env} {outer : List Env} {L : Addr} {m : Str → Option Value} {gs : Array GenState} {d : Drawn} {n : Nat} {o : OsState} {Q E : Value → Shared → Prop}
theorem Ctr.useN {P : Value → Led → Prop} (C : Ctr prog w K TP D U t l (noF P)) (B : Below A₀ base outer h₀) (F : Fr h₀ L h m) (X : K.In h₀) (N : News h₀ L h c) (T : TP h₀)
    (hA : A.frames = some (env :: outer)) (hf : env.frame = some L) (hke : env.scope.kind = .function) (hh : A.handled = none) (hd : A.depth ≤ D) (hu : A.units ≤ U)
    (tk : Take l c rest) (ne : ∀ p ∈ rest, ∀ q ∈ l, p.1 ≠ q.1)
    (k : ∀ v l', P v l' → ∀ h' n', @LE.le Nat _ n n' → Fr h₀ L h' m → News h₀ L h' (l' ++ rest) → Q v ⟨h', gs, d, n', o⟩) : wpAny (model prog w) A t Q E ⟨h, gs, d, n, o⟩ :=
  C A A₀ base h₀ env outer L m ⟨h, gs, d, n, o⟩ Q E rest B F X (tk.news N) T hA hf hke hh hd hu ne (fun v fr l' h' tk' hp ht' _ F' N' => by
    obtain ⟨rfl, hp⟩ := hp
    exact k v l' hp h' tk' ht' F' N')
theorem Ctr.useF {P : CPost} (C : Ctr prog w K TP D U t l P) (B : Below A₀ base outer h₀) (F : Fr h₀ L h m) (X : K.In h₀) (N : News h₀ L h c) (T : TP h₀)
    (hA : A.frames = some (env :: outer)) (hf : env.frame = some L) (hke : env.scope.kind = .function) (hh : A.handled = none) (hd : A.depth ≤ D) (hu : A.units ≤ U)
    (tk : Take l c rest) (ne : ∀ p ∈ rest, ∀ q ∈ l, p.1 ≠ q.1)
    (k : ∀ v fr l', P v fr l' → (∀ p ∈ fr, ∀ r ∈ l ++ rest, @LT.lt Nat _ r.1 p.1) → ∀ h' n', @LE.le Nat _ n n' → Fr h₀ L h' m → News h₀ L h' (fr ++ l' ++ rest) → Q v ⟨h', gs, d, n', o⟩) : wpAny (model prog w) A t Q E ⟨h, gs, d, n, o⟩ :=
  C A A₀ base h₀ env outer L m ⟨h, gs, d, n, o⟩ Q E rest B F X (tk.news N) T hA hf hke hh hd hu ne (fun v fr l' h' tk' hp ht' hfr F' N' => by
    exact k v fr l' hp hfr h' tk' ht' F' N')
end
inductive Bnd (q : Addr) (f self : Value) (P : Value → Led → Prop) : Value → Led → Prop
  | mk {v : Value} {l : Led} (h : P v l) : Bnd q f self P v ((q, methodObj f self) :: l)
theorem CtrC.boundN {prog : Program} {w : World} {K : Frag} {TP : Heap → Prop} {D U : Nat} {f self : Value} {q : Addr} {pos : List Value} {kw : List (Str × Value)} {l : Led} {P : Value → Led → Prop}
    (C : CtrC prog w K TP D U f ⟨self :: pos, kw⟩ l (noF P)) (hql : ∀ p ∈ l, p.1 ≠ q) :
    Ctr prog w K TP D U (PySem.call (.ref q) pos kw) ((q, methodObj f self) :: l) (noF (Bnd q f self P)) := by
  intro A A₀ base h₀ env outer L m s Q E rest B F X N T hA hf hke hh hd hu hne hQ
  refine CtrC.bound C (fun p hp => Ne.symm (hql p hp)) A A₀ base h₀ env outer L m s Q E rest B F X N T hA hf hke hh hd hu hne (fun v fr l' h' tk' hp ht hfr F' N' => ?_)
  obtain ⟨l'', rfl, rfl, hp⟩ := hp
  exact hQ v [] _ h' tk' ⟨rfl, .mk hp⟩ ht hfr F' N'
end Mine.Internal

end
section
set_option tactic.hygienic false
open PySem PySem.W PyProof.Rows PySem.Calls PySem.Spec PyProof.V
namespace Mine.Internal
noncomputable def tkN (acc : List Nat) : List Nat → List Nat × List Nat
  | [] => (acc, [])
  | c :: r => if hasPre ⟨(acc ++ [c]).toArray⟩ = true then tkN (acc ++ [c]) r else (acc, c :: r)
theorem tkN_yes {acc r : List Nat} {c : Nat} (h : hasPre ⟨(acc ++ [c]).toArray⟩ = true) : tkN acc (c :: r) = tkN (acc ++ [c]) r := if_pos h
theorem tkN_no {acc r : List Nat} {c : Nat} (h : hasPre ⟨(acc ++ [c]).toArray⟩ = false) : tkN acc (c :: r) = (acc, c :: r) := if_neg (by rw [h]; exact Bool.false_ne_true)
theorem tkN_app : ∀ (T acc : List Nat), (tkN acc T).1 ++ (tkN acc T).2 = acc ++ T
  | [], acc => rfl
  | c :: r, acc => by
    by_cases h : hasPre ⟨(acc ++ [c]).toArray⟩ = true
    · rw [tkN_yes h, tkN_app r, List.append_assoc]; rfl
    · rw [tkN_no (Bool.eq_false_iff.mpr h)]
noncomputable def lpR (cs : List Nat) : Nat → Option (List Nat)
  | 0 => none
  | k + 1 => if isEnt ⟨(cs.take (k + 1)).toArray⟩ = true then some (cs.take (k + 1)) else lpR cs k
theorem lpR_yes {cs : List Nat} {k : Nat} (h : isEnt ⟨(cs.take (k + 1)).toArray⟩ = true) : lpR cs (k + 1) = some (cs.take (k + 1)) := if_pos h
theorem lpR_no {cs : List Nat} {k : Nat} (h : isEnt ⟨(cs.take (k + 1)).toArray⟩ = false) : lpR cs (k + 1) = lpR cs k := if_neg (by rw [h]; exact Bool.false_ne_true)
theorem ent_nil : isEnt ⟨#[]⟩ = false := by decide +kernel
noncomputable def valE (nm : List Nat) : List Nat := match PySem.Spec.lookup (.str ⟨nm.toArray⟩) entD with
  | some (.str x) => x.cps.toList
  | _ => []
noncomputable def woN : Str := Str.ofString "named-entity-without-semicolon"
noncomputable def letterC (c : Nat) : Bool := (97 ≤ c && c ≤ 122) || (65 ≤ c && c ≤ 90)
noncomputable def gluedC (r : List Nat) : Bool := match r with
  | [] => false
  | c :: _ => letterC c || alD false c || c == 61
noncomputable def nameN (fa : Bool) (T cs r : List Nat) (o : Option (List Nat)) : Ck := match o with
  | none => ⟨38 :: cs, [.tok 7 namN], r⟩
  | some nm => if nm.getLast? = some 59 then ⟨valE nm ++ cs.drop nm.length, [], r⟩
    else if (fa && gluedC (T.drop nm.length)) = true then ⟨38 :: cs, [.tok 7 woN], r⟩ else ⟨valE nm ++ cs.drop nm.length, [.tok 7 woN], r⟩
noncomputable def ceN (al : Option Nat) (fa : Bool) (T : List Nat) : Ck :=
  if stopC al T = true then ⟨[38], [], T⟩ else nameN fa T (tkN [] T).1 (tkN [] T).2 (lpR (tkN [] T).1 (tkN [] T).1.length)
theorem ceN_stop {al : Option Nat} {fa : Bool} {T : List Nat} (h : stopC al T = true) : ceN al fa T = ⟨[38], [], T⟩ := if_pos h
theorem ceN_name {al : Option Nat} {fa : Bool} {T cs r : List Nat} {o : Option (List Nat)} (h : stopC al T = false) (e : tkN [] T = (cs, r)) (eo : lpR cs cs.length = o) : ceN al fa T = nameN fa T cs r o := by
  subst eo
  unfold ceN
  rw [if_neg (by rw [h]; exact Bool.false_ne_true), e]
theorem lpR_take {cs : List Nat} : ∀ {k : Nat} {nm : List Nat}, lpR cs k = some nm → ∃ j, 0 < j ∧ j ≤ k ∧ nm = cs.take j ∧ isEnt ⟨nm.toArray⟩ = true
  | 0, nm, h => by cases h
  | k + 1, nm, h => by
    by_cases q : isEnt ⟨(cs.take (k + 1)).toArray⟩ = true
    · rw [lpR_yes q] at h
      cases h
      exact ⟨k + 1, Nat.succ_pos k, Nat.le_refl _, rfl, q⟩
    · rw [lpR_no (Bool.eq_false_iff.mpr q)] at h
      obtain ⟨j, h1, h2, h3⟩ := lpR_take h
      exact ⟨j, h1, Nat.le_succ_of_le h2, h3⟩
structure Cn.nok (src : Str) (T : List Nat) (c : Cn) : Prop where
  sok : c.x.ok src
  ex : ∃ cs r, StrsAre c.vs (cs.map chS) ∧ CvIs src c.x c.cv r ∧ T = cs ++ r ∧ tkN [] T = tkN cs r
structure Cn.nfin (src : Str) (T : List Nat) (c : Cn) : Prop where
  sok : c.x.ok src
  ex : ∃ cs r, StrsAre c.vs (cs.map chS) ∧ CvIs src c.x c.cv r ∧ T = cs ++ r ∧ tkN [] T = (cs, r)
theorem Cn.nstart {src : Str} {y : St} {v : Value} {T : List Nat} (ok : y.ok src) (hv : CvIs src y v T) : Cn.nok src T ⟨y, [], 0, v⟩ := ⟨ok, [], T, .nil, hv, rfl, rfl⟩
theorem Cn.nmore {src : Str} {T cs : List Nat} {x y : St} {vs : List Value} {n n' c1 : Nat} {t1 : Tok} {v : Value} (oky : y.ok src) (hv : StrsAre vs (cs.map chS)) (hT : T = cs ++ c1 :: x.rem src) (ht : tkN [] T = tkN cs (c1 :: x.rem src)) (hp : hasPre ⟨(cs ++ [c1]).toArray⟩ = true)
    (hcv : CvIs src y v (x.rem src)) : Cn.nok src T ⟨y, vs ++ [.str ⟨#[c1]⟩ t1], n', v⟩ ∧ Cn.mu src ⟨y, vs ++ [.str ⟨#[c1]⟩ t1], n', v⟩ < Cn.mu src ⟨x, vs, n, .str ⟨#[c1]⟩ t1⟩ := by
  refine ⟨⟨oky, cs ++ [c1], x.rem src, ?_, hcv, by rw [hT, List.append_assoc]; rfl, by rw [ht, tkN_yes hp]⟩, ?_⟩
  · rw [List.map_append]; exact strs_snoc _ _ hv
  · rcases hcv with ⟨e1, e2, e3⟩ | ⟨c, t, e1, e2, e3, e4⟩
    · subst e1
      simp only [Cn.mu]; rw [e2, e3]; simp
    · subst e1
      simp only [Cn.mu]; rw [e2]; simp
theorem Cn.nend {src : Str} {T cs : List Nat} {x : St} {vs : List Value} {n : Nat} {v : Value} (ok : x.ok src) (hv : StrsAre vs (cs.map chS)) (hT : T = cs ++ []) (ht : tkN [] T = tkN cs []) (hcv : CvIs src x v []) : Cn.nfin src T ⟨x, vs, n, v⟩ := ⟨ok, cs, [], hv, hcv, hT, ht⟩
theorem Cn.nstop {src : Str} {T cs r : List Nat} {x : St} {vs : List Value} {n c1 : Nat} {v : Value} (ok : x.ok src) (hv : StrsAre vs (cs.map chS)) (hT : T = cs ++ c1 :: r) (ht : tkN [] T = tkN cs (c1 :: r)) (hp : hasPre ⟨(cs ++ [c1]).toArray⟩ = false) (hcv : CvIs src x v (c1 :: r)) : Cn.nfin src T ⟨x, vs, n, v⟩ := ⟨ok, cs, c1 :: r, hv, hcv, hT, by rw [ht, tkN_no hp]⟩
end Mine.Internal
namespace Mine.Internal
noncomputable def isStrD (d : PyData) : Bool := match d with
  | .str _ => true
  | _ => false
theorem entT_str : ∀ p ∈ entT, isStrD p.2 = true := by decide +kernel
theorem look_ent (x : Str) : ∀ L : List (Str × PyData), PySem.Spec.lookup (.str x) (L.map fun p => (PyData.str p.1, p.2)) = (L.find? fun p => decide (p.1 = x)).map (·.2)
  | [] => rfl
  | p :: r => by
    have ih := look_ent x r
    rw [List.map_cons, List.find?_cons]
    show (if PySem.Spec.same (.str p.1) (.str x) = true then some p.2 else PySem.Spec.lookup (.str x) (r.map fun p => (PyData.str p.1, p.2))) = _
    rw [same_str]
    by_cases h : p.1 = x
    · simp [h]
    · simp only [h, decide_false, Bool.false_eq_true, if_false]
      exact ih
theorem ent_val {nm : List Nat} (h : isEnt ⟨nm.toArray⟩ = true) : PySem.Spec.lookup (.str ⟨nm.toArray⟩) entD = some (.str ⟨(valE nm).toArray⟩) := by
  unfold isEnt at h
  unfold valE
  have e : PySem.Spec.lookup (.str ⟨nm.toArray⟩) entD = _ := look_ent ⟨nm.toArray⟩ entT
  cases q : PySem.Spec.lookup (.str ⟨nm.toArray⟩) entD with
  | none => rw [q] at h; cases h
  | some v =>
    rw [q] at e
    cases f : entT.find? fun p => decide (p.1 = (⟨nm.toArray⟩ : Str)) with
    | none => rw [f] at e; cases e
    | some p =>
      rw [f] at e
      have e2 : v = p.2 := by injection e
      have hs := entT_str p (List.mem_of_find?_eq_some f)
      subst e2
      cases hv : p.2 with
      | str y => rfl
      | _ => rw [hv] at hs; cases hs
section
variable {prog : Program} {w : World} {A : Around} {E : Value → Shared → Prop} {s : Shared} {K : Frag} {h₀ : Heap} {L q : Addr} {m : Str → Option Value} {u : Tok}
theorem item_ent {value slice : Expr} {nm : List Nat} {t : Tok} {Q : Value → Shared → Prop} (F : Fr h₀ L s.heap m) (X : K.In h₀) (e : KTD.tabLook KTD.flatLooks (fun b => K.lookup b) q entT = true)
    (hh : KTD.hashesOf (fun b => K.lookup b) q = entT.map fun p => (PySem.strKind prog w).hash p.1) (hn : isEnt ⟨nm.toArray⟩ = true)
    (h : ∀ t', Q (.str ⟨(valE nm).toArray⟩ t') { s with toks := s.toks + 1 })
    (hs : subscripted slice false (.ref q) (.str ⟨nm.toArray⟩ t) = operate [.ref q, .str ⟨nm.toArray⟩ t] (getItem (.ref q) (.str ⟨nm.toArray⟩ t)) := by with_unfolding_all rfl) :
    wpAny (model prog w) A (subscriptTail value slice (.ref q) (.str ⟨nm.toArray⟩ t)) Q E s := by
  have T : StrTab prog w s.heap q entD := ent_tab F X e hh
  obtain ⟨lo, kvs, hd, hf⟩ := id T
  refine tail_any hd.typeIs slot_dict_getitem.lookup (getItem_tab (knd := PySem.strKind prog w) (enc := PyData.str) (k := ⟨nm.toArray⟩) same_str (strKind_is _ _ _ _) T (ent_val hn) fun v hv => ?_) hs
  obtain ⟨t', rfl⟩ := Flat.str_inv hv
  exact h t'
end
end Mine.Internal
namespace Mine.Internal
theorem no35 {T r : List Nat} {c : Nat} (h : ∀ t, T ≠ 35 :: t) (e : T = c :: r) (hc : ((⟨#[c]⟩ : Str) == Str.ofString "#") = true) : False := h r (by rw [e, eq35 hc])
theorem valE_len : ∀ p ∈ entT, (match p.2 with | .str x => x.cps.toList.length | _ => 0) ≤ 2 := by decide +kernel
theorem valE_le {nm : List Nat} (h : isEnt ⟨nm.toArray⟩ = true) : (valE nm).length ≤ 2 := by
  have e := (look_ent ⟨nm.toArray⟩ entT).symm.trans (ent_val h)
  cases f : entT.find? fun p => decide (p.1 = (⟨nm.toArray⟩ : Str)) with
  | none => rw [f] at e; cases e
  | some p =>
    rw [f] at e
    have e2 : p.2 = .str ⟨(valE nm).toArray⟩ := by injection e
    have := valE_len p (List.mem_of_find?_eq_some f)
    rw [e2] at this
    exact this
theorem tkN_len {T : List Nat} : (tkN [] T).1.length ≤ T.length := by
  have h := congrArg List.length (tkN_app T [])
  rw [List.length_append, List.nil_append] at h; omega
theorem ceN_ks {al : Option Nat} {fa : Bool} {T : List Nat} : (ceN al fa T).ks.length ≤ 1 := by
  unfold ceN
  split
  · exact Nat.zero_le _
  · unfold nameN
    split
    · exact Nat.le_refl _
    · split
      · exact Nat.zero_le _
      · split
        · exact Nat.le_refl _
        · exact Nat.le_refl _
theorem ceN_out {al : Option Nat} {fa : Bool} {T : List Nat} : (ceN al fa T).out.length ≤ T.length + 2 := by
  have h := tkN_len (T := T)
  unfold ceN
  split
  · show 1 ≤ T.length + 2; omega
  · cases e : lpR (tkN [] T).1 (tkN [] T).1.length with
    | none => show (tkN [] T).1.length + 1 ≤ T.length + 2; omega
    | some nm =>
      obtain ⟨j, _, _, _, hn⟩ := lpR_take e
      have h2 := valE_le hn
      have h3 : (valE nm ++ (tkN [] T).1.drop nm.length).length ≤ T.length + 2 := by
        rw [List.length_append, List.length_drop]; omega
      unfold nameN
      show (if nm.getLast? = some 59 then _ else if _ then _ else _ : Ck).out.length ≤ _
      split
      · exact h3
      · split
        · show (tkN [] T).1.length + 1 ≤ T.length + 2; omega
        · exact h3
theorem out_fitsN {val out : Str} {al : Option Nat} {fa : Bool} {T : List Nat} (hv : val.length ≤ 100000) (h : out.cps.toList = (ceN al fa T).out) (hl : T.length ≤ 640) : val.length + out.length ≤ sizeLine := by
  have h1 := ceN_out (al := al) (fa := fa) (T := T)
  rw [← h, len_toList] at h1
  rw [sizeLine_eq]; omega
theorem ceN_len {prog : Program} {w : World} {fl : Led} {qs adds : List Value} {al : Option Nat} {fa : Bool} {T : List Nat} (hq : qs.length ≤ 100000) (h : QIs prog w fl adds (ceN al fa T).ks) : (qs ++ adds).length ≤ 100002 := by
  have h1 := ceN_ks (al := al) (fa := fa) (T := T)
  rw [List.length_append, h.len]; omega
theorem slice_neg1 (vs : List Value) (v : Value) : (slicePick (vs ++ [v]).toArray none (some (-1)) none).toList = vs := by
  have e : sliceBounds none (some (-1)) none (vs ++ [v]).toArray.size = (((0 : Nat) : Int), ((vs.length : Nat) : Int), 1) := by
    have hs : (vs ++ [v]).toArray.size = vs.length + 1 := by simp
    rw [hs]
    simp [sliceBounds]
    omega
  rw [kmk_pick_nat _ e]
  show ((vs ++ [v]).drop 0).take (vs.length - 0) = vs
  rw [List.drop_zero, Nat.sub_zero, List.take_left']
  rfl
theorem slice_from (vs : List Value) {k : Int} (h : 0 ≤ k) : (slicePick vs.toArray (some k) none none).toList = vs.drop k.toNat := by
  have e : sliceBounds (some k) none none vs.toArray.size = (((min k.toNat vs.length : Nat) : Int), ((vs.length : Nat) : Int), 1) := by
    simp only [sliceBounds, Option.getD_none, show (1 : Int) > 0 by decide, if_true, if_neg (show ¬ (k < 0) by omega), List.size_toArray]
    congr 1
    omega
  rw [kmk_pick_nat _ e]
  show (vs.drop (min k.toNat vs.length)).take (vs.length - min k.toNat vs.length) = _
  rw [kmk_drop_min]
  refine List.take_of_length_le ?_
  rw [List.length_drop]; omega
end Mine.Internal
namespace Mine.Internal
theorem cs_len {T cs r : List Nat} {vs : List Value} {v : Value} (hv : StrsAre vs (cs.map chS)) (hT : T = cs ++ r) (hl : T.length ≤ 640) : (vs ++ [v]).length ≤ 100000 := by
  have h1 := strs_len hv
  rw [List.length_map] at h1
  rw [hT, List.length_append] at hl
  rw [List.length_append, List.length_singleton]; omega
end Mine.Internal
namespace Mine.Internal
theorem strs_more {vs : List Value} {cs : List Nat} {c : Nat} {t : Tok} (h : StrsAre vs (cs.map chS)) : StrsAre (vs ++ [.str ⟨#[c]⟩ t]) ((cs ++ [c]).map chS) := by
  rw [List.map_append]; exact strs_snoc _ _ h
theorem more_len {vs : List Value} {cs : List Nat} {c : Nat} {v : Value} (h : StrsAre vs (cs.map chS)) (hl : (vs ++ [v]).length ≤ 100000) : (cs ++ [c]).length ≤ 100000 := by
  have h1 := strs_len h
  rw [List.length_map] at h1
  rw [List.length_append, List.length_singleton] at hl ⊢
  omega
structure Cl9 where
  o : Option (List Nat)
  t : Tok
  t2 : Tok
  u : Str → Option Value
noncomputable def Cl9.m (m₀ : Str → Option Value) (c : Cl9) : Str → Option Value := match c.o with
  | none => fun z => if z = Str.ofString "entityName" then some .none else if z = Str.ofString "entityLength" then c.u z else m₀ z
  | some nm => fun z => if z = Str.ofString "entityName" then some (.str ⟨nm.toArray⟩ c.t) else if z = Str.ofString "entityLength" then some (.int (nm.length : Nat) c.t2) else m₀ z
noncomputable def MeetN9 (fs : List Addr) (g : Heap) (L : Addr) (m₀ : Str → Option Value) (nl : Led) (cs : List Nat) (s : Shared) (fl : Flow) (s' : Shared) : Prop :=
  ∃ (g' : Heap) (c : Cl9) (h' : Heap) (k : Nat), KtsTurn fs g g' ∧ fl = .next ∧ lpR cs cs.length = c.o ∧ s' = { s with heap := h', toks := k } ∧ Fr g' L h' (c.m m₀) ∧ News g' L h' nl
theorem wp_meetN9 {prog : Program} {w : World} {A A₀ : Around} {E : Value → Shared → Prop} {s : Shared} {base g : Heap} {outer : List Env} {Kf : Frag} {TP : Heap → Prop} {L : Addr} {t : Sem Flow} {Q : Flow → Shared → Prop} {m₀ : Str → Option Value} {nl : Led} {cs : List Nat}
    (_ : Fr g L s.heap m₀) (_ : News g L s.heap nl) (BX : Below A₀ base outer g) (XB : Kf.In base) (TB : TP base) (D : KtsDicts (fms outer) g) (hT : ∀ h h' : Heap, TP h → h.StaysIn h' → TP h')
    (hN : ∀ (g' : Heap) (u : Str → Option Value) (h' : Heap) (k : Nat), KtsTurn (fms outer) g g' → Below A₀ base outer g' → Kf.In g' → TP g' → KtsDicts (fms outer) g' → lpR cs cs.length = none →
      Fr g' L h' (fun z => if z = Str.ofString "entityName" then some .none else if z = Str.ofString "entityLength" then u z else m₀ z) → News g' L h' nl → Q .next { s with heap := h', toks := k })
    (hS : ∀ (g' : Heap) (nm : List Nat) (t t2 : Tok) (h' : Heap) (k : Nat), KtsTurn (fms outer) g g' → Below A₀ base outer g' → Kf.In g' → TP g' → KtsDicts (fms outer) g' → lpR cs cs.length = some nm →
      Fr g' L h' (fun z => if z = Str.ofString "entityName" then some (.str ⟨nm.toArray⟩ t) else if z = Str.ofString "entityLength" then some (.int (nm.length : Nat) t2) else m₀ z) → News g' L h' nl → Q .next { s with heap := h', toks := k })
    (hw : wpAny (model prog w) A t (MeetN9 (fms outer) g L m₀ nl cs s) E s) : wpAny (model prog w) A t Q E s := by
  refine wpAny_mono hw (fun fl s' h => ?_) (fun _ _ e => e)
  obtain ⟨g', ⟨o, t, t2, u⟩, h', k, T', rfl, hp, rfl, F, N⟩ := h
  have B' := below_turn BX T'
  cases o with
  | none => exact hN g' u h' k T' B' (XB.keeps B'.stays) (hT _ _ TB B'.stays) (D.turn T') hp F N
  | some nm => exact hS g' nm t t2 h' k T' B' (XB.keeps B'.stays) (hT _ _ TB B'.stays) (D.turn T') hp F N
theorem meetN_no {fs : List Addr} {g g' : Heap} {L : Addr} {m₀ m' : Str → Option Value} {nl nl' : Led} {cs : List Nat} {s : Shared} {h' : Heap} {k : Nat} (T : KtsTurn fs g g') (F : Fr g' L h' m') (N : News g' L h' nl') (hn : ∀ p ∈ nl, p ∈ nl') (ho : lpR cs cs.length = none)
    (h1 : m' (Str.ofString "entityName") = some .none) (hr : ∀ z, z ≠ Str.ofString "entityName" → z ≠ Str.ofString "entityLength" → m' z = m₀ z) : MeetN9 fs g L m₀ nl cs s .next { s with heap := h', toks := k } := by
  have em : m' = Cl9.m m₀ ⟨none, 0, 0, m'⟩ := funext fun z => by
    show m' z = if z = Str.ofString "entityName" then some .none else if z = Str.ofString "entityLength" then m' z else m₀ z
    by_cases e1 : z = Str.ofString "entityName"
    · rw [if_pos e1, e1, h1]
    by_cases e2 : z = Str.ofString "entityLength"
    · rw [if_neg e1, if_pos e2]
    · rw [if_neg e1, if_neg e2]; exact hr z e1 e2
  exact ⟨g', ⟨none, 0, 0, m'⟩, h', k, T, rfl, ho, rfl, em ▸ F, fun p hp => N p (hn p hp)⟩
theorem meetN_yes {fs : List Addr} {g g' : Heap} {L : Addr} {m₀ m' : Str → Option Value} {nl nl' : Led} {cs nm : List Nat} {s : Shared} {h' : Heap} {k : Nat} {t t2 : Tok} (T : KtsTurn fs g g') (F : Fr g' L h' m') (N : News g' L h' nl') (hn : ∀ p ∈ nl, p ∈ nl') (ho : lpR cs cs.length = some nm)
    (h1 : m' (Str.ofString "entityName") = some (.str ⟨nm.toArray⟩ t)) (h2 : m' (Str.ofString "entityLength") = some (.int (nm.length : Nat) t2)) (hr : ∀ z, z ≠ Str.ofString "entityName" → z ≠ Str.ofString "entityLength" → m' z = m₀ z) : MeetN9 fs g L m₀ nl cs s .next { s with heap := h', toks := k } := by
  have em : m' = Cl9.m m₀ ⟨some nm, t, t2, m'⟩ := funext fun z => by
    show m' z = if z = Str.ofString "entityName" then some (.str ⟨nm.toArray⟩ t) else if z = Str.ofString "entityLength" then some (.int (nm.length : Nat) t2) else m₀ z
    by_cases e1 : z = Str.ofString "entityName"
    · rw [if_pos e1, e1, h1]
    by_cases e2 : z = Str.ofString "entityLength"
    · rw [if_neg e1, if_pos e2, e2, h2]
    · rw [if_neg e1, if_neg e2]; exact hr z e1 e2
  exact ⟨g', ⟨some nm, t, t2, m'⟩, h', k, T, rfl, ho, rfl, em ▸ F, fun p hp => N p (hn p hp)⟩
theorem lp_whole {cs : List Nat} (h : isEnt ⟨cs.toArray⟩ = true) : lpR cs cs.length = some cs := by
  cases cs with
  | nil => rw [show isEnt ⟨([] : List Nat).toArray⟩ = false from ent_nil] at h; cases h
  | cons c r =>
    have e : (c :: r).take (r.length + 1) = c :: r := List.take_length (l := c :: r)
    exact (lpR_yes (cs := c :: r) (k := r.length) (by rw [e]; exact h)).trans (by rw [e])
theorem lp_first {cs : List Nat} (h : isEnt ⟨cs.toArray⟩ = false) : lpR cs cs.length = lpR cs (cs.length - 1) := by
  cases cs with
  | nil => rfl
  | cons c r =>
    have e : (c :: r).take (r.length + 1) = c :: r := List.take_length (l := c :: r)
    exact lpR_no (cs := c :: r) (k := r.length) (by rw [e]; exact h)
end Mine.Internal
namespace Mine.Internal
theorem cs_640 {T cs r : List Nat} (hT : T = cs ++ r) (hl : T.length ≤ 640) : cs.length ≤ 100000 := by
  rw [hT, List.length_append] at hl; omega
end Mine.Internal
namespace Mine.Internal
theorem cs_size {T cs r : List Nat} {vs : List Value} {v : Value} (hv : StrsAre vs (cs.map chS)) (hT : T = cs ++ r) (hl : T.length ≤ 640) : (vs ++ [v]).toArray.size ≤ sizeLine := by
  rw [List.size_toArray, sizeLine_eq]; exact Nat.le_trans (cs_len hv hT hl) (by decide)
theorem cs_size0 {T cs r : List Nat} {vs : List Value} (hv : StrsAre vs (cs.map chS)) (hT : T = cs ++ r) (hl : T.length ≤ 640) : vs.toArray.size ≤ sizeLine := by
  have h := cs_size (v := .none) hv hT hl
  rw [List.size_toArray, List.length_append] at h
  rw [List.size_toArray]; exact Nat.le_trans (Nat.le_add_right _ _) h
theorem cs_room {T cs r : List Nat} {vs : List Value} {v : Value} (hv : StrsAre vs (cs.map chS)) (hT : T = cs ++ r) (hl : T.length ≤ 640) : (vs ++ [v]).toArray.toList.length ≤ sizeLine := cs_size hv hT hl
theorem slice_from' (vs : List Value) (k : Nat) : (slicePick vs.toArray (some (k : Nat)) none none).toList = vs.drop k := slice_from vs (Int.natCast_nonneg k)
theorem nm_pos {cs nm : List Nat} (h : lpR cs cs.length = some nm) : 1 ≤ (⟨nm.toArray⟩ : Str).length := by
  obtain ⟨j, h1, h2, e, hn⟩ := lpR_take h
  show 1 ≤ nm.toArray.size
  rw [List.size_toArray, e, List.length_take]
  exact Nat.le_min.mpr ⟨h1, Nat.le_trans h1 h2⟩
theorem nm_le {cs nm : List Nat} (h : lpR cs cs.length = some nm) : nm.length ≤ cs.length ∧ nm = cs.take nm.length := by
  obtain ⟨j, h1, h2, e, hn⟩ := lpR_take h
  have e2 : nm.length = j := by rw [e, List.length_take, Nat.min_eq_left h2]
  rw [e2]; exact ⟨h2, e⟩
theorem nm_ent {cs nm : List Nat} (h : lpR cs cs.length = some nm) : isEnt ⟨nm.toArray⟩ = true := by
  obtain ⟨j, h1, h2, e, hn⟩ := lpR_take h
  exact hn
theorem nm_640 {T cs r nm : List Nat} (h : lpR cs cs.length = some nm) (hT : T = cs ++ r) (hl : T.length ≤ 640) : nm.length ≤ 640 := by
  rw [hT, List.length_append] at hl
  exact Nat.le_trans (nm_le h).1 (Nat.le_trans (Nat.le_add_right _ _) hl)
theorem nm_fit {T cs r nm : List Nat} (h : lpR cs cs.length = some nm) (hT : T = cs ++ r) (hl : T.length ≤ 640) : (⟨nm.toArray⟩ : Str).length < 9223372036854775808 := by
  show nm.toArray.size < _
  rw [List.size_toArray]; exact Nat.lt_of_le_of_lt (nm_640 h hT hl) (by decide)
theorem nm_63 {T cs r nm : List Nat} (h : lpR cs cs.length = some nm) (hT : T = cs ++ r) (hl : T.length ≤ 640) : ((nm.length : Nat) : Int) < 2 ^ 63 := Int.ofNat_lt.mpr (Nat.lt_of_le_of_lt (nm_640 h hT hl) (by decide))
theorem strs_drop {vs : List Value} {cs : List Nat} (h : StrsAre vs (cs.map chS)) : ∀ k, StrsAre (vs.drop k) ((cs.drop k).map chS) := by
  intro k
  rw [List.map_drop]
  generalize cs.map chS = ys at h
  induction h generalizing k with
  | nil => simp; exact .nil
  | cons y t r ih =>
    cases k with
    | zero => exact .cons y t r
    | succ k => exact ih k
theorem dropN_640 {T cs r : List Nat} (hT : T = cs ++ r) (hl : T.length ≤ 640) (k : Nat) : (cs.drop k).length ≤ 100000 := by
  rw [List.length_drop]; exact Nat.le_trans (Nat.sub_le _ _) (cs_640 hT hl)
theorem strs_at : ∀ {vs : List Value} {cs : List Nat} {k : Nat} {v : Value}, StrsAre vs (cs.map chS) → k ≤ cs.length → ∃ x, (vs ++ [v])[k]? = some x ∧ ((x = v ∧ cs.drop k = []) ∨ ∃ c t r, x = .str ⟨#[c]⟩ t ∧ cs.drop k = c :: r)
  | [], [], k, v, _, hk => by
    cases Nat.le_zero.mp hk
    exact ⟨v, rfl, .inl ⟨rfl, rfl⟩⟩
  | [], c :: cs, _, _, h, _ => by cases h
  | x :: vs, [], _, _, h, _ => by cases h
  | x :: vs, c :: cs, 0, v, h, _ => by
    cases h with
    | cons y t r => exact ⟨_, rfl, .inr ⟨c, t, cs, rfl, rfl⟩⟩
  | x :: vs, c :: cs, k + 1, v, h, hk => by
    cases h with
    | cons y t r =>
      obtain ⟨z, h1, h2⟩ := strs_at (v := v) r (Nat.le_of_succ_le_succ hk)
      exact ⟨z, h1, h2⟩
theorem at_end {src : Str} {x : St} {T cs r nm : List Nat} {vs : List Value} {v : Value} (hv : StrsAre vs (cs.map chS)) (hcv : CvIs src x v r) (hT : T = cs ++ r) (h : lpR cs cs.length = some nm) :
    ∃ z, (vs ++ [v])[((nm.length : Nat) : Int).toNat]? = some z ∧ ((z = .none ∧ T.drop nm.length = []) ∨ ∃ c t rr, z = .str ⟨#[c]⟩ t ∧ T.drop nm.length = c :: rr) := by
  have hl := (nm_le h).1
  obtain ⟨z, h1, h2⟩ := strs_at (v := v) hv hl
  refine ⟨z, h1, ?_⟩
  rw [hT, List.drop_append_of_le_length hl]
  rcases h2 with ⟨rfl, e⟩ | ⟨c, t, r2, e1, e2⟩
  · rw [e, List.nil_append]
    rcases hcv with ⟨e1, e2, _⟩ | ⟨c, t, e1, e2, _⟩
    · exact .inl ⟨e1, e2⟩
    · exact .inr ⟨c, t, _, e1, e2⟩
  · rw [e2]; exact .inr ⟨c, t, _, e1, rfl⟩
end Mine.Internal
namespace Mine.Internal
theorem amp_fits {T cs r : List Nat} (hT : T = cs ++ r) (hl : T.length ≤ 640) : (Str.ofString "&").length + (⟨cs.toArray⟩ : Str).length ≤ sizeLine := by
  rw [show (Str.ofString "&").length = 1 from by decide +kernel, sizeLine_eq]
  show 1 + cs.toArray.size ≤ _
  rw [List.size_toArray]
  have := cs_640 hT hl
  omega
end Mine.Internal
namespace Mine.Internal
noncomputable def lettersL : List Nat := [97, 98, 99, 100, 101, 102, 103, 104, 105, 106, 107, 108, 109, 110, 111, 112, 113, 114, 115, 116, 117, 118, 119, 120, 121, 122, 65, 66, 67, 68, 69, 70, 71, 72, 73, 74, 75, 76, 77, 78, 79, 80, 81, 82, 83, 84, 85, 86, 87, 88, 89, 90]
theorem letters_small : ∀ c : Nat, c < 128 → decide (c ∈ lettersL) = letterC c := by decide +kernel
theorem letters_lt : ∀ c ∈ lettersL, c < 128 := by decide +kernel
theorem letters_mem (c : Nat) : decide (c ∈ lettersL) = letterC c := by
  by_cases h : c < 128
  · exact letters_small c h
  · rw [decide_eq_false (fun q => h (letters_lt c q))]
    unfold letterC
    rw [decide_eq_false (show ¬ c ≤ 122 by omega), decide_eq_false (show ¬ c ≤ 90 by omega), Bool.and_false, Bool.and_false]; rfl
theorem letters_any (c : Nat) : ([⟨#[97]⟩, ⟨#[98]⟩, ⟨#[99]⟩, ⟨#[100]⟩, ⟨#[101]⟩, ⟨#[102]⟩, ⟨#[103]⟩, ⟨#[104]⟩, ⟨#[105]⟩, ⟨#[106]⟩, ⟨#[107]⟩, ⟨#[108]⟩, ⟨#[109]⟩, ⟨#[110]⟩, ⟨#[111]⟩, ⟨#[112]⟩, ⟨#[113]⟩, ⟨#[114]⟩, ⟨#[115]⟩, ⟨#[116]⟩, ⟨#[117]⟩, ⟨#[118]⟩, ⟨#[119]⟩, ⟨#[120]⟩, ⟨#[121]⟩, ⟨#[122]⟩, ⟨#[65]⟩, ⟨#[66]⟩, ⟨#[67]⟩, ⟨#[68]⟩, ⟨#[69]⟩, ⟨#[70]⟩, ⟨#[71]⟩, ⟨#[72]⟩, ⟨#[73]⟩, ⟨#[74]⟩, ⟨#[75]⟩, ⟨#[76]⟩, ⟨#[77]⟩, ⟨#[78]⟩, ⟨#[79]⟩, ⟨#[80]⟩, ⟨#[81]⟩, ⟨#[82]⟩, ⟨#[83]⟩, ⟨#[84]⟩, ⟨#[85]⟩, ⟨#[86]⟩, ⟨#[87]⟩, ⟨#[88]⟩, ⟨#[89]⟩, ⟨#[90]⟩] : List Str).any (· == ⟨#[c]⟩) = letterC c := (chr_any c lettersL).trans (letters_mem c)
theorem glued_a {r t : List Nat} {c : Nat} (e : r = c :: t) (h : letterC c = true) : true = gluedC r := by subst e; show true = (letterC c || _ || _); rw [h]; rfl
theorem glued_d {r t : List Nat} {c : Nat} (e : r = c :: t) (h : alD false c = true) : true = gluedC r := by subst e; show true = (letterC c || alD false c || _); rw [h, Bool.or_true]; rfl
theorem glued_e {r t : List Nat} {c : Nat} (e : r = c :: t) (h : ((⟨#[c]⟩ : Str) == Str.ofString "=") = true) : true = gluedC r := by
  subst e
  have h2 : Str.ofString "=" = ⟨#[61]⟩ := by decide +kernel
  rw [h2, chr_beq] at h
  have hc := (eq_of_beq h).symm
  subst hc; rfl
theorem glued_n {r t : List Nat} {c : Nat} (e : r = c :: t) (h1 : letterC c = false) (h2 : alD false c = false) (h : ((⟨#[c]⟩ : Str) == Str.ofString "=") = false) : false = gluedC r := by
  subst e
  have h3 : Str.ofString "=" = ⟨#[61]⟩ := by decide +kernel
  rw [h3, chr_beq] at h
  show false = (letterC c || alD false c || c == 61)
  rw [h1, h2, show (c == 61) = (61 == c) from by rw [Bool.eq_iff_iff, beq_iff_eq, beq_iff_eq]; exact eq_comm, h]; rfl
theorem glued_0 {r : List Nat} (e : r = []) : false = gluedC r := by subst e; rfl
end Mine.Internal
namespace Mine.Internal
theorem val_fits {T cs r nm : List Nat} (ho : lpR cs cs.length = some nm) (hT : T = cs ++ r) (hl : T.length ≤ 640) : (⟨(valE nm).toArray⟩ : Str).length + (⟨(cs.drop nm.length).toArray⟩ : Str).length ≤ sizeLine := by
  have h1 := valE_le (nm_ent ho)
  have h2 := dropN_640 hT hl nm.length
  show (valE nm).toArray.size + (cs.drop nm.length).toArray.size ≤ _
  rw [List.size_toArray, List.size_toArray, sizeLine_eq]; omega
end Mine.Internal
namespace Mine.Internal
theorem slice_back {cs : List Nat} {k : Int} {i : Nat} (hk : k = 1 + (i : Int)) (hi : i < cs.length) : Txt.slice (⟨cs.toArray⟩ : Str) none (some (-k)) = ⟨(cs.take (cs.length - 1 - i)).toArray⟩ := by
  rw [slice_gen]
  have e1 : sliceLo (⟨cs.toArray⟩ : Str).length none = 0 := rfl
  have hl : (⟨cs.toArray⟩ : Str).length = cs.length := by show cs.toArray.size = _; exact List.size_toArray
  have e2 : sliceHi (⟨cs.toArray⟩ : Str).length (some (-k)) = cs.length - 1 - i := by
    show clipI _ (-k) = _
    rw [hl]
    unfold clipI
    rw [if_pos (by omega)]
    omega
  rw [e1, e2, List.drop_zero, Nat.sub_zero]
theorem lp_step {cs : List Nat} {k : Int} {i : Nat} (hk : k = 1 + (i : Int)) (hi : i < cs.length) (h : isEnt (Txt.slice (⟨cs.toArray⟩ : Str) none (some (-k))) = false) : lpR cs (cs.length - 1 - i) = lpR cs (cs.length - 1 - (i + 1)) := by
  rw [slice_back hk hi] at h
  cases q : cs.length - 1 - i with
  | zero => rw [show cs.length - 1 - (i + 1) = 0 by omega]
  | succ j =>
    rw [q] at h
    rw [lpR_no h, show cs.length - 1 - (i + 1) = j by omega]
theorem lp_hit {cs : List Nat} {k : Int} {i : Nat} (hk : k = 1 + (i : Int)) (hi : i < cs.length) (h : isEnt (Txt.slice (⟨cs.toArray⟩ : Str) none (some (-k))) = true) : lpR cs (cs.length - 1 - i) = some (cs.take (cs.length - 1 - i)) := by
  rw [slice_back hk hi] at h
  cases q : cs.length - 1 - i with
  | zero => rw [q] at h; rw [show isEnt ⟨(cs.take 0).toArray⟩ = false from ent_nil] at h; cases h
  | succ j => rw [q] at h; exact lpR_yes h
section
variable {prog : Program} {w : World} {A : Around} {E : Value → Shared → Prop} {Q : Flow → Shared → Prop} {s : Shared} {env : Env} {h₀ : Heap} {x : Str} {body : List Stmt} {m₀ : Str → Option Value}
noncomputable def LpEnd (h₀ : Heap) (L : Addr) (x : Str) (m₀ : Str → Option Value) (nl : Led) (cs : List Nat) (i : Nat) (s₁ s₂ : Shared) : Prop :=
  ∃ h' tk m' news', s₂ = { s₁ with heap := h', toks := tk } ∧ Fr h₀ L h' m' ∧ News h₀ L h' news' ∧ (∀ p ∈ nl, p ∈ news') ∧ (∀ z, z ≠ x → m' z = m₀ z) ∧ lpR cs cs.length = lpR cs (cs.length - 1 - (i + 1))
noncomputable def LpGo (h₀ : Heap) (L : Addr) (x : Str) (m₀ : Str → Option Value) (nl : Led) (cs : List Nat) (i : Nat) (s₁ : Shared) (Q : Flow → Shared → Prop) (f : Flow) (s₂ : Shared) : Prop :=
  match f with
  | .ret v => Q (.ret v) s₂
  | .brk => Q .next s₂
  | _ => LpEnd h₀ L x m₀ nl cs i s₁ s₂
theorem loop_lp {r : Addr} {b₀ : Int} {t₀ u₀ v₀ : Tok} {nl : Led} {cs : List Nat} (hh : A.handled = none) (hr : IsRange s.heap r 1 b₀ 1 t₀ u₀ v₀) (hb : b₀ = (cs.length : Nat) + 1) (hl : cs.length ≤ 640) (F : Fr h₀ env.locals s.heap m₀) (N : News h₀ env.locals s.heap nl) (hf : isEnt ⟨cs.toArray⟩ = false)
    (turn : ∀ (k : Int) (i : Nat) t (u : Str → Option Value) h tk own, k = 1 + (i : Int) → i < cs.length → lpR cs cs.length = lpR cs (cs.length - 1 - i) →
      Fr h₀ env.locals h (fun y => if y = x then some (.int k t) else kstB (fun z => if ([] : List Str).contains z then u z else m₀ z) [] y) → News h₀ env.locals h (nl ++ own) →
      wpAny (model prog w) A (execs body env) (LpGo h₀ env.locals x m₀ (nl ++ own) cs i { s with heap := h, toks := tk } Q) E { s with heap := h, toks := tk })
    (done : ∀ (u : Str → Option Value) h tk, lpR cs cs.length = none → Fr h₀ env.locals h (fun y => if y = x then u y else kstB (fun z => if ([] : List Str).contains z then u z else m₀ z) [] y) → News h₀ env.locals h nl → Q .next { s with heap := h, toks := tk }) :
    wpAny (model prog w) A (pyIter (.ref r)) (fun it s₂ => LoopAtV prog w A h₀ env x body Q E it s₂) E s := by
  subst hb
  refine kst_range (σ := Unit) (n := cs.length) (fun _ => nl) (fun _ => []) (fun _ => True) [] (fun ks _ => lpR cs cs.length = lpR cs (cs.length - 1 - ks.length)) () hh hr (small_one (by omega) (by omega) (by omega) (by omega)) (by rw [rangeSize_nat]; omega) F N trivial (fun _ h => nomatch h) (lp_first hf) ?_ ?_
  · intro c pre k t u h tk own hk hpre hoff _ hp F' N'
    refine wpAny_mono (turn k pre.length t u h tk own hk hpre hp F' N') (fun f s₂ hf => ?_) (fun _ _ e => e)
    have key : LpEnd h₀ env.locals x m₀ (nl ++ own) cs pre.length { s with heap := h, toks := tk } s₂ → InvEndN h₀ env.locals (KstS (fun _ : Unit => nl) (fun _ => []) (fun _ => True) x [] m₀ (fun ks _ => lpR cs cs.length = lpR cs (cs.length - 1 - ks.length)) (pre ++ [k])) own (nl.map (·.1)) { s with heap := h, toks := tk } s₂ := by
      rintro ⟨h', tk', m', news', rfl, F2, N2, hn, hr2, hl2⟩
      exact kst_end (σ := Unit) () F2 N2 (fun p hp => hn p (List.mem_append_left _ hp)) (fun p hp => hn p (List.mem_append_right _ hp)) rfl trivial (fun _ h => nomatch h) (fun z hz _ _ => hr2 z hz) (by rw [List.length_append, List.length_singleton]; exact hl2)
    cases f with
    | ret v => exact hf
    | brk => exact hf
    | next => exact key hf
    | cont => exact key hf
  · intro c u h tk _ hp F' N'
    refine done u h tk ?_ F' N'
    rw [rangeKs_length, show cs.length - 1 - cs.length = 0 by omega] at hp
    exact hp
theorem lp_end {L : Addr} {m' : Str → Option Value} {nl news' : Led} {cs : List Nat} {i : Nat} {s₁ : Shared} {h' : Heap} {tk : Nat} (F : Fr h₀ L h' m') (N : News h₀ L h' news') (hn : ∀ p ∈ nl, p ∈ news') (hr : ∀ z, z ≠ x → m' z = m₀ z) (hl : lpR cs cs.length = lpR cs (cs.length - 1 - (i + 1))) :
    LpEnd h₀ L x m₀ nl cs i s₁ { s₁ with heap := h', toks := tk } := ⟨h', tk, m', news', rfl, F, N, hn, hr, hl⟩
end
theorem meetN_str {fs : List Addr} {g g' : Heap} {L : Addr} {m₀ m' : Str → Option Value} {nl nl' : Led} {cs nm : List Nat} {s : Shared} {h' : Heap} {k : Nat} {t t2 : Tok} {x : Str} (T : KtsTurn fs g g') (F : Fr g' L h' m') (N : News g' L h' nl') (hn : ∀ p ∈ nl, p ∈ nl') (ho : lpR cs cs.length = some nm) (hx : x = ⟨nm.toArray⟩)
    (h1 : m' (Str.ofString "entityName") = some (.str x t)) (h2 : m' (Str.ofString "entityLength") = some (.int (x.length : Nat) t2)) (hr : ∀ z, z ≠ Str.ofString "entityName" → z ≠ Str.ofString "entityLength" → m' z = m₀ z) : MeetN9 fs g L m₀ nl cs s .next { s with heap := h', toks := k } := by
  subst hx
  exact meetN_yes T F N hn ho h1 (h2.trans (by show some (Value.int ((nm.toArray.size : Nat) : Int) t2) = _; rw [List.size_toArray])) hr
theorem cs_len640 {T cs r : List Nat} (hT : T = cs ++ r) (hl : T.length ≤ 640) : cs.length ≤ 640 := by
  rw [hT, List.length_append] at hl; omega
end Mine.Internal
namespace Mine.Internal
theorem cs_10000 {T cs r : List Nat} (hT : T = cs ++ r) (hl : T.length ≤ 640) : (⟨cs.toArray⟩ : Str).length ≤ 10000 := by
  show cs.toArray.size ≤ _
  rw [List.size_toArray]; exact Nat.le_trans (cs_len640 hT hl) (by decide)
theorem name_semi {fa : Bool} {T cs r nm : List Nat} {c : Nat} (hc : nm.getLast? = some c) (e : c = 59) : nameN fa T cs r (some nm) = ⟨valE nm ++ cs.drop nm.length, [], r⟩ := if_pos (by rw [hc, e])
theorem name_glued {T cs r nm : List Nat} {c : Nat} (hc : nm.getLast? = some c) (e : c ≠ 59) (hg : gluedC (T.drop nm.length) = true) : nameN true T cs r (some nm) = ⟨38 :: cs, [.tok 7 woN], r⟩ :=
  (if_neg (by rw [hc]; exact fun h => e (Option.some.inj h))).trans (if_pos (by rw [hg]; rfl))
theorem name_free {T cs r nm : List Nat} {c : Nat} (hc : nm.getLast? = some c) (e : c ≠ 59) (hg : gluedC (T.drop nm.length) = false) : nameN true T cs r (some nm) = ⟨valE nm ++ cs.drop nm.length, [.tok 7 woN], r⟩ :=
  (if_neg (by rw [hc]; exact fun h => e (Option.some.inj h))).trans (if_neg (by rw [hg]; exact Bool.false_ne_true))
theorem cat_toList (a b : List Nat) : ((⟨a.toArray⟩ : Str) ++ (⟨b.toArray⟩ : Str)).cps.toList = a ++ b := by rw [toList_app]
end Mine.Internal
namespace Mine.Internal
theorem sub_lastc {prog : Program} {w : World} {A : Around} {E : Value → Shared → Prop} {s : Shared} {value slice : Expr} {x : Str} {t u : Tok} {i : Int} {c : Nat} {Q : Value → Shared → Prop} (hc : x.cps.toList.getLast? = some c) (h0 : i = -1) (h1 : 1 ≤ x.length) (h2 : x.length < 9223372036854775808) (h : Q (.str ⟨#[c]⟩ s.toks) { s with toks := s.toks + 1 })
    (hs : subscripted slice false (.str x t) (.int i u) = operate [.str x t, .int i u] (getItem (.str x t) (.int i u)) := by with_unfolding_all rfl)
    (ht : ∀ r, letTemporaryGo value (.str x t) r = pure () := by intro _; with_unfolding_all rfl) :
    wpAny (model prog w) A (subscriptTail value slice (.str x t) (.int i u)) Q E s :=
  sub_last h0 h1 h2 (fun c' hc' => by
    have e := hc.symm.trans hc'
    injection e with e
    subst e
    exact h) hs ht
end Mine.Internal
namespace Mine.Internal
section
variable {prog : Program} {w : World} {K : Ks} {Z : Kz} {m7 : Tok} {tq : Addr} {B : At} {qs : List Value} {qn : Nat} {x : St} {val : Str} {vt : Tok} {g : Heap} {L : Addr} {s : Shared}
theorem ce_meet1 {fs : List Addr} {g' : Heap} {m₀ m' : Str → Option Value} {h' : Heap} {k n : Nat} {nl rest : Led} {d : Addr} {o : Obj} {y : St} {out : Str} {t : Tok} {ql : List Value} {R R₀ : Ck} (hR : R₀ = R) (hT0 : KtsTurn fs g g')
    (F : Fr g' L h' m') (N : News g' L h' ((d, o) :: nl)) (hm : m' (Str.ofString "output") = some (.str out t)) (hr : ∀ z, z ≠ Str.ofString "output" → ceStored.contains z = false → m' z = m₀ z)
    (hT : Take (Lz w K Z m7 tq B ql n val vt (K.led w y)) ((d, o) :: nl) rest) (hql : ql = qs ++ [.ref d]) (hgt : @LT.lt Nat _ B.dl d) (ok : y.ok K.src) (hout : out.cps.toList = R.out) (hrem : y.rem K.src = R.rem) (hks : QIs prog w [(d, o)] [.ref d] R.ks) :
    MeetXS fs g L (Cs.m m₀) (Cs.led w K Z m7 tq B qs val vt) (Cs.ok prog w K B R₀) s .next { s with heap := h', toks := k } :=
  ce_meet (fl := [(d, o)]) (adds := [.ref d]) hR hT0 F N hm hr hT hql (List.forall_mem_cons.mpr ⟨.head _, List.forall_mem_nil _⟩) (List.forall_mem_cons.mpr ⟨hgt, List.forall_mem_nil _⟩) ok hout hrem hks
theorem ce_meet2 {fs : List Addr} {g' : Heap} {m₀ m' : Str → Option Value} {h' : Heap} {k n : Nat} {nl rest : Led} {D d : Addr} {oD o : Obj} {y : St} {out : Str} {t : Tok} {ql : List Value} {R R₀ : Ck} (hR : R₀ = R) (hT0 : KtsTurn fs g g')
    (F : Fr g' L h' m') (N : News g' L h' ((D, oD) :: (d, o) :: nl)) (hm : m' (Str.ofString "output") = some (.str out t)) (hr : ∀ z, z ≠ Str.ofString "output" → ceStored.contains z = false → m' z = m₀ z)
    (hT : Take (Lz w K Z m7 tq B ql n val vt (K.led w y)) ((D, oD) :: (d, o) :: nl) rest) (hql : ql = qs ++ [.ref d]) (hgt : @LT.lt Nat _ B.dl d) (ok : y.ok K.src) (hout : out.cps.toList = R.out) (hrem : y.rem K.src = R.rem) (hks : QIs prog w [(d, o)] [.ref d] R.ks) :
    MeetXS fs g L (Cs.m m₀) (Cs.led w K Z m7 tq B qs val vt) (Cs.ok prog w K B R₀) s .next { s with heap := h', toks := k } :=
  ce_meet (fl := [(d, o)]) (adds := [.ref d]) hR hT0 F N hm hr hT hql (List.forall_mem_cons.mpr ⟨.tail _ (.head _), List.forall_mem_nil _⟩) (List.forall_mem_cons.mpr ⟨hgt, List.forall_mem_nil _⟩) ok hout hrem hks
end
end Mine.Internal

end
section
set_option tactic.hygienic false
open PySem PySem.W PyProof.Rows PySem.Calls PySem.Spec PyProof.V
namespace Mine.Internal
noncomputable def lcp : List Nat → List Nat → Nat
  | a :: s, b :: t => if a = b then lcp s t + 1 else 0
  | _, _ => 0
theorem lcp_c {a b : Nat} {s t : List Nat} : lcp (a :: s) (b :: t) = if a = b then lcp s t + 1 else 0 := rfl
theorem lcp_nl {t : List Nat} : lcp [] t = 0 := rfl
theorem lcp_nr {s : List Nat} : lcp s [] = 0 := by cases s <;> rfl
theorem lcp_le : ∀ (s t : List Nat), lcp s t ≤ t.length ∧ lcp s t ≤ s.length
  | [], t => ⟨Nat.zero_le _, Nat.le_refl _⟩
  | a :: s, [] => ⟨Nat.le_refl _, Nat.zero_le _⟩
  | a :: s, b :: t => by
    rw [lcp_c]
    by_cases h : a = b
    · rw [if_pos h]; exact ⟨Nat.succ_le_succ (lcp_le s t).1, Nat.succ_le_succ (lcp_le s t).2⟩
    · rw [if_neg h]; exact ⟨Nat.zero_le _, Nat.zero_le _⟩
theorem lcp_take : ∀ (s t : List Nat), s.take (lcp s t) = t.take (lcp s t)
  | [], t => by rw [lcp_nl, List.take_zero, List.take_zero]
  | a :: s, [] => by rw [lcp_nr, List.take_zero, List.take_zero]
  | a :: s, b :: t => by
    rw [lcp_c]
    by_cases h : a = b
    · rw [if_pos h, h, List.take_succ_cons, List.take_succ_cons, lcp_take s t]
    · rw [if_neg h, List.take_zero, List.take_zero]
theorem lcp_max : ∀ (s t : List Nat) (n : Nat), n ≤ t.length → n ≤ s.length → s.take n = t.take n → n ≤ lcp s t
  | _, _, 0, _, _, _ => Nat.zero_le _
  | [], _, n + 1, _, h, _ => by cases h
  | a :: s, [], n + 1, h, _, _ => by cases h
  | a :: s, b :: t, n + 1, h1, h2, h3 => by
    rw [List.take_succ_cons, List.take_succ_cons] at h3
    injection h3 with e1 e2
    rw [lcp_c, if_pos e1]
    exact Nat.succ_le_succ (lcp_max s t n (Nat.le_of_succ_le_succ h1) (Nat.le_of_succ_le_succ h2) e2)
structure MF (T : List Nat) (L : List (List Nat)) (c : List Nat × Nat) : Prop where
  top : ∀ nm ∈ L, lcp T nm ≤ c.2
  hit : c.2 = 0 ∨ ∃ nm ∈ L, lcp T nm = c.2
  pre : T.take c.1.length = c.1
  mem : c.1 = [] ∨ c.1 ∈ L
  big : ∀ nm ∈ L, lcp T nm = nm.length → nm.length ≤ c.1.length
  len : c.1.length ≤ c.2
noncomputable def entNames : List (List Nat) := entK.map fun k => k.cps.toList
theorem hasPre_iff (p : List Nat) : hasPre ⟨p.toArray⟩ = true ↔ ∃ nm ∈ entNames, p <+: nm := by
  unfold hasPre entNames
  rw [List.any_eq_true]
  constructor
  · rintro ⟨k, hk, e⟩
    exact ⟨_, List.mem_map_of_mem hk, List.isPrefixOf_iff_prefix.mp e⟩
  · rintro ⟨nm, hnm, e⟩
    obtain ⟨k, hk, rfl⟩ := List.mem_map.mp hnm
    exact ⟨k, hk, List.isPrefixOf_iff_prefix.mpr e⟩
theorem isEnt_K (p : List Nat) : isEnt ⟨p.toArray⟩ = true ↔ p ∈ entNames := by
  have hk : entT.map (·.1) = entK := by decide +kernel
  unfold isEnt entNames
  rw [show entD = entT.map fun p => (PyData.str p.1, p.2) from rfl, look_ent, ← hk, List.mem_map, Option.isSome_map, List.find?_isSome]
  constructor
  · rintro ⟨x, hx, e⟩
    exact ⟨x.1, List.mem_map_of_mem hx, by rw [of_decide_eq_true e]⟩
  · rintro ⟨y, hy, e⟩
    obtain ⟨x, hx, rfl⟩ := List.mem_map.mp hy
    exact ⟨x, hx, decide_eq_true (by subst e; rfl)⟩
theorem take_pre {T nm : List Nat} (n : Nat) (h : n ≤ lcp T nm) : T.take n <+: nm := by
  have e := congrArg (List.take n) (lcp_take T nm)
  rw [List.take_take, List.take_take, Nat.min_eq_left h] at e
  rw [e]; exact List.take_prefix _ _
theorem pre_lcp {T nm p r : List Nat} (e : T = p ++ r) (h : p <+: nm) : p.length ≤ lcp T nm := by
  refine lcp_max T nm p.length h.length_le (by rw [e, List.length_append]; exact Nat.le_add_right _ _) ?_
  rw [e, List.take_left', List.prefix_iff_eq_take.mp h, List.length_take, Nat.min_eq_left h.length_le]
  rfl
theorem tkN_pre : ∀ (T acc : List Nat), (acc = [] ∨ hasPre ⟨acc.toArray⟩ = true) → (tkN acc T).1 = [] ∨ hasPre ⟨(tkN acc T).1.toArray⟩ = true
  | [], acc, h => h
  | c :: r, acc, h => by
    by_cases q : hasPre ⟨(acc ++ [c]).toArray⟩ = true
    · rw [tkN_yes q]; exact tkN_pre r _ (.inr q)
    · rw [tkN_no (Bool.eq_false_iff.mpr q)]; exact h
theorem tkN_end : ∀ (T acc : List Nat), (tkN acc T).2 = [] ∨ ∃ c r, (tkN acc T).2 = c :: r ∧ hasPre ⟨((tkN acc T).1 ++ [c]).toArray⟩ = false
  | [], acc => .inl rfl
  | c :: r, acc => by
    by_cases q : hasPre ⟨(acc ++ [c]).toArray⟩ = true
    · rw [tkN_yes q]; exact tkN_end r _
    · rw [tkN_no (Bool.eq_false_iff.mpr q)]; exact .inr ⟨c, r, rfl, Bool.eq_false_iff.mpr q⟩
theorem MF.taken {T : List Nat} {c : List Nat × Nat} (h : MF T entNames c) : c.2 = (tkN [] T).1.length := by
  have e : (tkN [] T).1 ++ (tkN [] T).2 = T := tkN_app T []
  apply Nat.le_antisymm
  · rcases h.hit with h0 | ⟨nm, hnm, h0⟩
    · rw [h0]; exact Nat.zero_le _
    · apply Nat.le_of_not_lt
      intro hlt
      rcases tkN_end T [] with q | ⟨d, r, q, hp⟩
      · rw [q, List.append_nil] at e
        have := (lcp_le T nm).2
        rw [← h0, e] at hlt; omega
      · have e2 : T.take ((tkN [] T).1.length + 1) = (tkN [] T).1 ++ [d] := by
          have e3 : T = (tkN [] T).1 ++ [d] ++ r := by rw [List.append_assoc]; rw [q] at e; exact e.symm
          conv => lhs; arg 2; rw [e3]
          exact List.take_left' (by rw [List.length_append]; rfl)
        have := take_pre (T := T) (nm := nm) ((tkN [] T).1.length + 1) (by omega)
        rw [e2] at this
        rw [(hasPre_iff _).mpr ⟨nm, hnm, this⟩] at hp; cases hp
  · rcases tkN_pre T [] (.inl rfl) with q | q
    · rw [q]; exact Nat.zero_le _
    · obtain ⟨nm, hnm, hpre⟩ := (hasPre_iff _).mp q
      exact Nat.le_trans (pre_lcp e.symm hpre) (h.top nm hnm)
theorem lpR_none {cs : List Nat} : ∀ {k : Nat}, lpR cs k = none → ∀ j, 0 < j → j ≤ k → isEnt ⟨(cs.take j).toArray⟩ = false
  | 0, _, j, h1, h2 => by omega
  | k + 1, h, j, h1, h2 => by
    by_cases q : isEnt ⟨(cs.take (k + 1)).toArray⟩ = true
    · rw [lpR_yes q] at h; cases h
    · rw [lpR_no (Bool.eq_false_iff.mpr q)] at h
      by_cases e : j = k + 1
      · subst e; exact Bool.eq_false_iff.mpr q
      · exact lpR_none h j h1 (by omega)
theorem lpR_big {cs nm : List Nat} : ∀ {k : Nat}, lpR cs k = some nm → k ≤ cs.length → ∀ j, 0 < j → j ≤ k → isEnt ⟨(cs.take j).toArray⟩ = true → j ≤ nm.length
  | 0, _, _, j, h1, h2, _ => by omega
  | k + 1, h, hl, j, h1, h2, hj => by
    by_cases q : isEnt ⟨(cs.take (k + 1)).toArray⟩ = true
    · rw [lpR_yes q] at h
      injection h with h
      rw [← h, List.length_take, Nat.min_eq_left hl]; exact h2
    · rw [lpR_no (Bool.eq_false_iff.mpr q)] at h
      by_cases e : j = k + 1
      · subst e; exact absurd hj q
      · exact lpR_big h (by omega) j h1 (by omega) hj
theorem MF.best {T : List Nat} {c : List Nat × Nat} (h : MF T entNames c) : lpR (tkN [] T).1 (tkN [] T).1.length = if c.1 = [] then none else some c.1 := by
  have e : (tkN [] T).1 ++ (tkN [] T).2 = T := tkN_app T []
  have hk := h.taken
  have hl := h.len
  have hp : (tkN [] T).1.take c.1.length = c.1 := by
    have := h.pre
    rw [← e, List.take_append_of_le_length (by rw [← hk]; exact hl)] at this
    exact this
  cases q : lpR (tkN [] T).1 (tkN [] T).1.length with
  | none =>
    by_cases q2 : c.1 = []
    · rw [if_pos q2]
    · exfalso
      have h0 : 0 < c.1.length := List.length_pos_iff.mpr q2
      have := lpR_none q c.1.length h0 (by omega)
      rw [hp, (isEnt_K _).mpr (h.mem.resolve_left q2)] at this; cases this
  | some nm =>
    obtain ⟨j, h0, h1, e1, hn⟩ := lpR_take q
    have hj : nm.length = j := by rw [e1, List.length_take, Nat.min_eq_left h1]
    have hnp : nm <+: (tkN [] T).1 := e1 ▸ List.take_prefix _ _
    have hnT : nm.length ≤ lcp T nm := pre_lcp (T := T) (p := nm) (r := T.drop nm.length) (by
      have e2 : T.take nm.length = nm := by
        rw [← e, List.take_append_of_le_length hnp.length_le]; exact (List.prefix_iff_eq_take.mp hnp).symm
      conv => lhs; rw [← List.take_append_drop nm.length T, e2]) (List.prefix_refl _)
    have hb := h.big nm ((isEnt_K _).mp hn) (Nat.le_antisymm (lcp_le T nm).1 hnT)
    have q2 : c.1 ≠ [] := fun q2 => by rw [q2] at hb; simp only [List.length_nil] at hb; omega
    rw [if_neg q2]
    have hb2 := lpR_big q (Nat.le_refl _) c.1.length (List.length_pos_iff.mpr q2) (by omega) (by rw [hp, isEnt_K]; exact h.mem.resolve_left q2)
    have e3 : nm.length = c.1.length := by omega
    rw [← hp, ← e3, e1, List.length_take, Nat.min_eq_left h1]
end Mine.Internal
namespace Mine.Internal
theorem isStr_inv {prog : Program} {w : World} {k : Str} {v : Value} (h : (PySem.strKind prog w).is k v = true) : ∃ t, v = .str k t := by
  cases v <;> simp [PySem.strKind, Value.isStrOf] at h
  subst h; exact ⟨_, rfl⟩
section
variable {prog : Program} {w : World} {A : Around} {E : Value → Shared → Prop} {Q : Flow → Shared → Prop} {s : Shared} {env : Env} {h₀ : Heap} {x : Str} {body : List Stmt} {m₀ : Str → Option Value} {K : Frag} {q : Addr}
noncomputable def EntEnd {σ : Type} (h₀ : Heap) (L : Addr) (x : Str) (m₀ : Str → Option Value) (nl : Led) (ps : σ → List (Str × Value)) (stored : List Str) (P : Nat → σ → Prop) (i : Nat) (s₁ s₂ : Shared) : Prop :=
  ∃ (c : σ) (h' : Heap) (tk : Nat) (m' : Str → Option Value) (news' : Led), s₂ = { s₁ with heap := h', toks := tk } ∧ Fr h₀ L h' m' ∧ News h₀ L h' news' ∧ (∀ p ∈ nl, p ∈ news') ∧ (∀ p ∈ ps c, m' p.1 = some p.2) ∧ (∀ z, z ≠ x → (∀ p ∈ ps c, z ≠ p.1) → stored.contains z = false → m' z = m₀ z) ∧ P (i + 1) c
noncomputable def EntGo {σ : Type} (h₀ : Heap) (L : Addr) (x : Str) (m₀ : Str → Option Value) (nl : Led) (ps : σ → List (Str × Value)) (stored : List Str) (P : Nat → σ → Prop) (i : Nat) (s₁ : Shared) (Q : Flow → Shared → Prop) (f : Flow) (s₂ : Shared) : Prop :=
  match f with
  | .ret v => Q (.ret v) s₂
  | .brk => Q .next s₂
  | _ => EntEnd h₀ L x m₀ nl ps stored P i s₁ s₂
theorem loop_ent {σ : Type} {nl : Led} (ps : σ → List (Str × Value)) (stored : List Str) (P : Nat → σ → Prop) (c₀ : σ) (hh : A.handled = none) (X : K.In h₀)
    (e : KTD.tabLook KTD.flatLooks (fun b => K.lookup b) q entT = true) (hhash : KTD.hashesOf (fun b => K.lookup b) q = entT.map fun p => (PySem.strKind prog w).hash p.1)
    (F : Fr h₀ env.locals s.heap m₀) (N : News h₀ env.locals s.heap nl) (hk : ∀ p ∈ ps c₀, m₀ p.1 = some p.2) (hp : P 0 c₀)
    (turn : ∀ (c : σ) i nm t (u : Str → Option Value) h tk own, entK[i]? = some nm → P i c →
      Fr h₀ env.locals h (fun y => if y = x then some (.str nm t) else kstB (fun z => if stored.contains z then u z else m₀ z) (ps c) y) → News h₀ env.locals h (nl ++ own) →
      wpAny (model prog w) A (execs body env) (EntGo h₀ env.locals x m₀ (nl ++ own) ps stored P i { s with heap := h, toks := tk } Q) E { s with heap := h, toks := tk })
    (done : ∀ (c : σ) (u : Str → Option Value) h tk, P entK.length c → Fr h₀ env.locals h (fun y => if y = x then u y else kstB (fun z => if stored.contains z then u z else m₀ z) (ps c) y) → News h₀ env.locals h nl → Q .next { s with heap := h, toks := tk }) :
    wpAny (model prog w) A (pyIter (.ref q)) (fun it s₂ => LoopAtV prog w A h₀ env x body Q E it s₂) E s := by
  have hkeys : entT.map (·.1) = entK := by decide +kernel
  have T0 : StrTab prog w h₀ q entD := kt_tab_in prog w X e entT_nodup hhash
  obtain ⟨lo, kvs, hd0, hf⟩ := id T0
  obtain ⟨ep, hat0⟩ := hd0.dictAt
  have hlt : q < h₀.objs.size := hat0.lt_size
  have hat : s.heap.DictAt (PySem.strKind prog w) q kvs ep := hat0.at' fun o e => F.keep _ _ e
  have hne : q ≠ s.heap.objs.size := Nat.ne_of_lt (Nat.lt_trans (Nat.lt_of_lt_of_le hlt F.above) F.ns.lt)
  have hlen : kvs.length = entK.length := by rw [show kvs.length = entD.length from (by first | exact hf.length | exact hf.length.symm)]; show (entT.map _).length = _; rw [← hkeys, List.length_map, List.length_map]
  have hkv : ∀ (i : Nat) (k : Str) (v : Value), kvs[i]? = some (k, v) → entK[i]? = some k := by
    intro i k v h
    obtain ⟨dv, hD, _⟩ := hf.at h
    have h2 : (entT.map fun p => (PyData.str p.1, p.2))[i]? = some (PyData.str k, dv) := hD
    rw [List.getElem?_map] at h2
    rw [← hkeys, List.getElem?_map]
    cases hg : entT[i]? with
    | none => rw [hg] at h2; cases h2
    | some y =>
      rw [hg] at h2
      injection h2 with h2
      injection h2 with h2 _
      injection h2 with h2
      exact congrArg some h2
  refine wpAny_pyIter_dict lo hat ?_
  have W := Walks.dictKeys (prog := prog) (w := w) (knd := PySem.strKind prog w) hh s.heap.objs.size q hne kvs ep
  rw [hlen] at W
  let J : Nat → (Str → Option Value) → Prop := fun i m => ∃ c : σ, (∀ p ∈ ps c, m p.1 = some p.2) ∧ (∀ z, z ≠ x → (∀ p ∈ ps c, z ≠ p.1) → stored.contains z = false → m z = m₀ z) ∧ P i c
  let J' : Nat → (Str → Option Value) → List (Addr × Obj) → Prop := fun i m₁ news₁ => news₁ = nl ∧ J i m₁
  refine ⟨_, _, _, entK.length, _, _, m₀, nl, J', rfl, W, ?_, ?_, ?_, ⟨⟨_, Heap.get?_push_size _ rfl, rfl, ?_⟩, hat.push _⟩, F.push _, (fun p hp => ⟨Heap.get?_push_of_some _ (N p hp).1, (N p hp).2⟩), ⟨rfl, c₀, hk, (fun _ _ _ _ => rfl), hp⟩, ?_, ?_⟩
  · intro hm
    rcases List.mem_cons.mp hm with e | hm
    · exact absurd F.ns.lt (e ▸ Nat.lt_irrefl _)
    · exact absurd (Nat.lt_of_lt_of_le hlt F.above) ((List.mem_singleton.mp hm) ▸ Nat.lt_irrefl _)
  · intro b hb
    rw [List.mem_singleton.mp hb]
    exact next_is_new F
  · intro p hp hI
    exact absurd (Heap.lt_size (N p hp).1) ((List.mem_singleton.mp hI) ▸ Nat.lt_irrefl _)
  · rw [hlen]; rfl
  · rintro i v m₁ news₁ s₁ own ⟨hh', tk', rfl⟩ hin hP ⟨rfl, c, h1, h2, hpc⟩ hoff _ _ _ _ F₁ N₁
    obtain ⟨k, y, hx, hk2⟩ := hP
    obtain ⟨t, rfl⟩ : ∃ t, v = .str k t := isStr_inv hk2
    have N₂ : News h₀ env.locals hh' (news₁ ++ own) := fun p hp => N₁ p ((List.mem_append.mp hp).elim (fun h => List.mem_append.mpr (.inr h)) fun h => List.mem_append.mpr (.inl h))
    refine wpAny_mono (turn c i k t m₁ hh' tk' own (hkv _ _ _ hx) hpc (kst_fr h1 h2 F₁) N₂) (fun f s₂ p => ?_) fun _ _ e => e
    have fin : EntEnd h₀ env.locals x m₀ (news₁ ++ own) ps stored P i { s with heap := hh', toks := tk' } s₂ → LoopStepU h₀ env.locals [s.heap.objs.size] own (J' (i + 1)) { s with heap := hh', toks := tk' } .next s₂ := by
      rintro ⟨c', h', tk, m', news', e, F', N', hn, hm⟩
      exact ⟨rfl, h', tk, m', news₁, e, F', fun p hp => N' p (hn p ((List.mem_append.mp hp).elim (List.mem_append_right _) (List.mem_append_left _))), hoff, rfl, c', hm⟩
    cases f with
    | ret v => exact .ret p
    | brk => exact .brk p
    | next => exact .next (fin p)
    | cont => exact .cont (fin p)
  · rintro h' tk m' news' F' N' _ ⟨rfl, c, h1, h2, hpc⟩
    exact done c m' h' tk hpc (kst_frOut h1 h2 F') N'
end
end Mine.Internal
namespace Mine.Internal
end Mine.Internal
namespace Mine.Internal
theorem ceN_pot {al : Option Nat} {fa : Bool} {T : List Nat} : (ceN al fa T).out.length + 3 * (ceN al fa T).rem.length ≤ 3 * T.length + 3 ∧ (ceN al fa T).rem.length ≤ T.length := by
  have e := congrArg List.length (tkN_app T [])
  rw [List.length_append, List.nil_append] at e
  have h := tkN_len (T := T)
  unfold ceN
  split
  · show 1 + 3 * T.length ≤ _ ∧ T.length ≤ _; omega
  · cases e2 : lpR (tkN [] T).1 (tkN [] T).1.length with
    | none => show (tkN [] T).1.length + 1 + 3 * (tkN [] T).2.length ≤ _ ∧ (tkN [] T).2.length ≤ _; omega
    | some nm =>
      obtain ⟨j, h0, h1, e1, hn⟩ := lpR_take e2
      have h2 := valE_le hn
      have h3 : nm.length = j := by rw [e1, List.length_take, Nat.min_eq_left h1]
      have h4 : (valE nm ++ (tkN [] T).1.drop nm.length).length ≤ (tkN [] T).1.length + 1 := by
        rw [List.length_append, List.length_drop]; omega
      unfold nameN
      show (if nm.getLast? = some 59 then _ else if _ then _ else _ : Ck).out.length + 3 * (if nm.getLast? = some 59 then _ else if _ then _ else _ : Ck).rem.length ≤ _ ∧ (if nm.getLast? = some 59 then _ else if _ then _ else _ : Ck).rem.length ≤ _
      split
      · show (valE nm ++ (tkN [] T).1.drop nm.length).length + 3 * (tkN [] T).2.length ≤ _ ∧ (tkN [] T).2.length ≤ _; omega
      · split
        · show (tkN [] T).1.length + 1 + 3 * (tkN [] T).2.length ≤ _ ∧ (tkN [] T).2.length ≤ _; omega
        · show (valE nm ++ (tkN [] T).1.drop nm.length).length + 3 * (tkN [] T).2.length ≤ _ ∧ (tkN [] T).2.length ≤ _; omega
end Mine.Internal
namespace Mine.Internal
end Mine.Internal
namespace Mine.Internal
section
variable {W q c : Nat} {r t p r' : List Nat}
end
end Mine.Internal
namespace Mine.Internal
theorem ent_take {i : Nat} {nm : Str} (h : entK[i]? = some nm) : entNames.take (i + 1) = entNames.take i ++ [nm.cps.toList] := by
  rw [List.take_add_one]
  unfold entNames
  rw [List.getElem?_map, h]; rfl
theorem ent_len {i : Nat} {nm : Str} (h : entK[i]? = some nm) : nm.length ≤ 20 := by
  have h2 : ∀ x ∈ entK, x.length ≤ 20 := by decide +kernel
  exact h2 _ (List.mem_of_getElem? h)
end Mine.Internal
namespace Mine.Internal
end Mine.Internal
namespace Mine.Internal
theorem ent_end {σ : Type} {h₀ : Heap} {L : Addr} {x : Str} {m₀ m' : Str → Option Value} {nl news' : Led} {ps : σ → List (Str × Value)} {stored : List Str} {P : Nat → σ → Prop} {i : Nat} {s₁ : Shared} {h' : Heap} {tk : Nat} (c : σ) (F : Fr h₀ L h' m') (N : News h₀ L h' news') (hn : ∀ p ∈ nl, p ∈ news') (hk : ∀ p ∈ ps c, m' p.1 = some p.2)
    (hr : ∀ z, z ≠ x → (∀ p ∈ ps c, z ≠ p.1) → stored.contains z = false → m' z = m₀ z) (hp : P (i + 1) c) : EntEnd h₀ L x m₀ nl ps stored P i s₁ { s₁ with heap := h', toks := tk } := ⟨c, h', tk, m', news', rfl, F, N, hn, hk, hr, hp⟩
end Mine.Internal
namespace Mine.Internal
end Mine.Internal
namespace Mine.Internal
theorem stop_tk {T : List Nat} {q : Nat} (hq : q = 34 ∨ q = 39 ∨ q = 62) (hs : stopC (some q) T = true) : tkN [] T = ([], T) := by
  cases T with
  | nil => rfl
  | cons c r =>
    have hs : (blankN c || c == 60 || c == 38 || some q == some c) = true := hs
    have hp : hasPre ⟨([] ++ [c]).toArray⟩ = false := by
      have hc : c = 9 ∨ c = 10 ∨ c = 12 ∨ c = 32 ∨ c = 13 ∨ c = 60 ∨ c = 38 ∨ c = q := by
        unfold blankN at hs
        simp only [Bool.or_eq_true, beq_iff_eq, Option.some.injEq] at hs
        omega
      rcases hc with rfl | rfl | rfl | rfl | rfl | rfl | rfl | rfl
      all_goals first | decide +kernel | skip
      rcases hq with rfl | rfl | rfl <;> decide +kernel
    exact tkN_no hp
theorem last_ex {nm : List Nat} (h : nm ≠ []) : ∃ c, (⟨nm.toArray⟩ : Str).cps.toList.getLast? = some c := by
  show ∃ c, nm.getLast? = some c
  exact ⟨_, List.getLast?_eq_some_getLast h⟩
theorem pos_of {nm : List Nat} (h : nm ≠ []) : 1 ≤ (⟨nm.toArray⟩ : Str).length := by
  show 1 ≤ nm.toArray.size
  rw [List.size_toArray]; exact List.length_pos_iff.mpr h
section
variable {T : Str} {nm : List Nat} {q : Nat} {k : Int} (hq : q = 34 ∨ q = 39 ∨ q = 62) (h : MF T.cps.toList entNames (nm, k.toNat)) (hk : 0 ≤ k)
include hq h hk
end
theorem found1 {x : Str} {c : Nat} {b : Bool} (h : (Builtin.Str.occurrences x ⟨#[c]⟩ 0 x.length 1).isEmpty = b) : decide (c ∈ x.cps.toList) = !b := by
  rw [← PySem.StrLaws.found_one, h]
theorem first_ex {T : Str} (h : (T == Str.ofString "") = false) : ∃ c r, T.cps.toList = c :: r ∧ T.cps[(0 : Int).toNat]? = some c := by
  cases e : T.cps.toList with
  | nil =>
    have e2 : T = Str.ofString "" := Str.ext' (Array.toList_inj.mp (e.trans (by decide +kernel)))
    rw [e2] at h; exact absurd h (by decide +kernel)
  | cons c r =>
    refine ⟨c, r, rfl, ?_⟩
    rw [← Array.getElem?_toList, e]; rfl
noncomputable abbrev gluedS : Str := Str.ofString "abcdefghijklmnopqrstuvwxyzABCDEFGHIJKLMNOPQRSTUVWXYZ0123456789="
theorem glued_small : ∀ c : Nat, c < 128 → decide (c ∈ gluedS.cps.toList) = (letterC c || alD false c || c == 61) := by decide +kernel
theorem glued_lt : ∀ c ∈ gluedS.cps.toList, c < 128 := by decide +kernel
theorem glued_mem (c : Nat) : decide (c ∈ gluedS.cps.toList) = (letterC c || alD false c || c == 61) := by
  by_cases h : c < 128
  · exact glued_small c h
  · rw [decide_eq_false (fun q => h (glued_lt c q)), alD_far false (by omega)]
    have h2 : (c == 61) = false := beq_eq_false_iff_ne.mpr (by omega)
    rw [h2]
    unfold letterC
    rw [decide_eq_false (show ¬ c ≤ 122 by omega), decide_eq_false (show ¬ c ≤ 90 by omega), Bool.and_false, Bool.and_false]; rfl
section
variable {T : Str} {nm : List Nat}
end
end Mine.Internal
namespace Mine.Internal
end Mine.Internal
namespace Mine.Internal
section
variable {W d : Nat} {M vs sg : Str} {tv ta tv' ta' : Tok} {fa fa' : Addr} {fs more : List Value} {fn fn' : Nat} {a k : Int} {ns ns2 : List Str}
end
end Mine.Internal
namespace Mine.Internal
section
variable {Wy : Nat} {M : Str} {c : Lv}
end
end Mine.Internal
namespace Mine.Internal
end Mine.Internal
namespace Mine.Internal
section
variable {prog : Program} {w : World} {Kf : Frag} {TP : Heap → Prop} {K : Ks} {Z : Kz} {m7 : Tok} {tq : Addr} {Bt : At} {qs : List Value} {qn : Nat} {x : St} {val : Str} {vt : Tok} {R : Ck} {D U : Nat} {f : Value} {pos : List Value} {kw : List (Str × Value)}
end
end Mine.Internal
namespace Mine.Internal
section
variable {prog : Program} {w : World} {A : Around} {E : Value → Shared → Prop} {Q : Flow → Shared → Prop} {s : Shared} {env : Env} {h₀ : Heap} {x : Str} {body : List Stmt} {m₀ : Str → Option Value}
end
end Mine.Internal
namespace Mine.Internal
end Mine.Internal
namespace Mine.Internal
end Mine.Internal
namespace Mine.Internal
section
variable {prog : Program} {w : World} {A : Around} {E : Value → Shared → Prop} {h : Heap} {gs : Array GenState} {d : Drawn} {n : Nat} {o : OsState} {Q : Value → Shared → Prop}
end
end Mine.Internal
namespace Mine.Internal
end Mine.Internal
namespace Mine.Internal
theorem ceN_suf {al : Option Nat} {fa : Bool} {T : List Nat} : (ceN al fa T).rem <:+ T := by
  have e : (tkN [] T).2 <:+ T := ⟨(tkN [] T).1, tkN_app T []⟩
  unfold ceN
  split
  · exact List.suffix_refl _
  · unfold nameN
    split
    · exact e
    · split
      · exact e
      · split <;> exact e
section
variable {K : Ks} {Z : Kz} {tq ct dl p2 p1 : Addr}
end
section
variable {prog : Program} {w : World} {A : Around} {E : Value → Shared → Prop} {s : Shared} {g : Heap} {K : Ks} {Z : Kz} {m7 : Tok} {tq : Addr} {ct dl p2 p1 : Addr} {co o1 : Obj} {dn' : Nat} {nm : Value} {pn : Nat} {M V zz : List Nat} {KS : List Kd} {m₀ : Str → Option Value} {env : Env} {body : List Stmt} {Q : Flow → Shared → Prop} {x : Str} {Wy n0 : Nat} {own0 : Led}
end
end Mine.Internal
namespace Mine.Internal
section
variable {prog : Program} {w : World} {s s₁ : Shared} {g : Heap} {L : Addr} {K : Ks} {Z : Kz} {m7 : Tok} {tq : Addr} {ct dl p2 p1 : Addr} {co o1 : Obj} {dn' : Nat} {nm : Value} {pn : Nat} {M V zz : List Nat} {KS ks : List Kd} {m₀ m' : Str → Option Value} {x : Str} {Wy n0 i : Nat} {own0 own ow fl nl' NN : Led}
  {y y' : St} {v4 v4' : Value} {adds adds2 : List Value} {n n' : Nat} {vs vs' : Str} {vt vt' : Tok} {r : List Nat} {h' : Heap} {k : Nat} {eS od : Obj}
theorem led_adr (w : World) (K : Ks) (x y : St) : (K.led w x).map (·.1) = (K.led w y).map (·.1) := by rw [Ks.led_eq, Ks.led_eq]; rfl
theorem led_same {p : Addr × Obj} (h : p ∈ K.led w y') : ∃ q ∈ K.led w y, q.1 = p.1 := by
  have := List.mem_map_of_mem (f := (·.1)) h
  rw [led_adr w K y' y] at this
  obtain ⟨q, h1, h2⟩ := List.mem_map.mp this
  exact ⟨q, h1, h2⟩
end
end Mine.Internal
namespace Mine.Internal
end Mine.Internal
namespace Mine.Internal
section
variable {prog : Program} {w : World} {A : Around} {h₀ : Heap} {L : Addr} {m : Str → Option Value} {env : Env} {elt : PySem.Expr} {x : Str} {scope : Scope} {cl : List (Str × Addr)} {s : Shared} {Fin : List Value → List (Addr × Obj) → Prop}
  {K : Ks} {Z : Kz} {m7 : Tok} {tq ct dl p2 p1 : Addr} {co o1 : Obj} {dn' : Nat} {nm : Value} {pn : Nat} {y : St} {v4 : Value} {adds : List Value} {n : Nat} {vs9 : Str} {vt : Tok}
end
end Mine.Internal
namespace Mine.Internal
section
open PySem.SeqAt PySem.AutoSeq1 PySem.MeetsSeq PySem.MeetsSeq2 PySem.MeetsSeq3
variable {prog : Program} {w : World} {A : Around} {E : Value → Shared → Prop} {s : Shared}
end
section
variable {prog : Program} {w : World} {A : Around} {E : Value → Shared → Prop} {s : Shared} {h₀ : Heap} {L : Addr} {news : List (Addr × Obj)}
end
end Mine.Internal
namespace Mine.Internal
section
variable {prog : Program} {w : World} {A : Around} {E : Value → Shared → Prop} {s : Shared}
end
end Mine.Internal
namespace Mine.Internal
end Mine.Internal
namespace Mine.Internal
theorem nq_sub {N rest : Led} {d : Addr} (h : ∀ p ∈ N, p.1 < d) (s : ∀ p ∈ rest, p ∈ N) : ∀ p ∈ rest, @LT.lt Nat _ p.1 d := fun p hp => h p (s p hp)
end Mine.Internal
namespace Mine.Internal
end Mine.Internal
namespace Mine.Internal
section
variable {prog : Program} {w : World} {A : Around} {E : Value → Shared → Prop} {s : Shared} {h₀ : Heap} {L : Addr} {news : List (Addr × Obj)}
end
end Mine.Internal
namespace Mine.Internal
section
variable {prog : Program} {w : World} {A : Around} {E : Value → Shared → Prop} {s : Shared} {h₀ : Heap} {L : Addr} {news : List (Addr × Obj)}
theorem item_lastT {value slice : PySem.Expr} {q : Addr} {l : List Value} {v : Value} {n : Nat} {k : Int} {u : Tok} {Q : Value → Shared → Prop} (N : News h₀ L s.heap news) (hm : (q, W.listOf (l ++ [v]).toArray n) ∈ news) (hk : k = -1) (h : Q v s)
    (hs : subscripted slice false (.ref q) (.int k u) = operate [.ref q, .int k u] (getItem (.ref q) (.int k u)) := by with_unfolding_all rfl) :
    wpAny (model prog w) A (subscriptTail value slice (.ref q) (.int k u)) Q E s := by
  have e : (k + ((l ++ [v]).length : Int)).toNat = l.length := by
    rw [hk, List.length_append, List.length_singleton]; omega
  have hl : -((l ++ [v]).toArray.size : Int) ≤ k := by rw [List.size_toArray, List.length_append, List.length_singleton]; omega
  refine tail_any (News.isList N hm).typeIs slot_list_getitem.lookup (wpAny_getItem_list_neg (News.isList N hm) (by omega) hl (by omega) ?_ h) hs
  rw [List.size_toArray, e]
  simp
end
end Mine.Internal

end
section
set_option tactic.hygienic false
open PySem PySem.W PyProof.Rows PySem.Calls PySem.Spec PyProof.V
namespace Mine.Internal
structure LG (T : List Nat) (L : List (List Nat)) (b : List Nat) : Prop where
  pre : T.take b.length = b
  mem : b = [] ∨ b ∈ L
  big : ∀ nm ∈ L, T.take nm.length = nm → nm.length ≤ b.length
theorem LG.nil {T : List Nat} : LG T [] [] := ⟨rfl, .inl rfl, fun _ h => nomatch h⟩
theorem LG.yes {T nm b : List Nat} {L : List (List Nat)} (h : LG T L b) (h1 : T.take nm.length = nm) (h2 : b.length < nm.length) : LG T (L ++ [nm]) nm :=
  ⟨h1, .inr (List.mem_append_right _ (.head _)), fun y hy e => (List.mem_append.mp hy).elim (fun q => Nat.le_trans (h.big y q e) (Nat.le_of_lt h2)) (fun q => by cases List.mem_singleton.mp q; exact Nat.le_refl _)⟩
theorem LG.no {T nm b : List Nat} {L : List (List Nat)} (h : LG T L b) (h1 : T.take nm.length = nm → nm.length ≤ b.length) : LG T (L ++ [nm]) b :=
  ⟨h.pre, h.mem.imp id (List.mem_append_left _), fun y hy e => (List.mem_append.mp hy).elim (fun q => h.big y q e) (fun q => by cases List.mem_singleton.mp q; exact h1 e)⟩
theorem lcp_cs {T nm : List Nat} (hnm : nm ∈ entNames) : lcp T nm ≤ (tkN [] T).1.length := by
  have e : (tkN [] T).1 ++ (tkN [] T).2 = T := tkN_app T []
  apply Nat.le_of_not_lt
  intro hlt
  rcases tkN_end T [] with q | ⟨d, r, q, hp⟩
  · rw [q, List.append_nil] at e
    have := (lcp_le T nm).2
    rw [e] at hlt; omega
  · have e2 : T.take ((tkN [] T).1.length + 1) = (tkN [] T).1 ++ [d] := by
      have e3 : T = (tkN [] T).1 ++ [d] ++ r := by rw [List.append_assoc]; rw [q] at e; exact e.symm
      conv => lhs; arg 2; rw [e3]
      exact List.take_left' (by rw [List.length_append]; rfl)
    have := take_pre (T := T) (nm := nm) ((tkN [] T).1.length + 1) (by omega)
    rw [e2] at this
    rw [(hasPre_iff _).mpr ⟨nm, hnm, this⟩] at hp; cases hp
theorem lcp_self {T nm : List Nat} (h : T.take nm.length = nm) : lcp T nm = nm.length := by
  refine Nat.le_antisymm (lcp_le T nm).1 (lcp_max T nm _ (Nat.le_refl _) ?_ (by rw [List.take_length]; exact h))
  have := congrArg List.length h
  rw [List.length_take] at this; omega
theorem LG.mf {T b : List Nat} (h : LG T entNames b) : MF T entNames (b, (tkN [] T).1.length) := by
  have e : (tkN [] T).1 ++ (tkN [] T).2 = T := tkN_app T []
  refine ⟨fun nm hnm => lcp_cs hnm, ?_, h.pre, h.mem, fun nm hnm e1 => h.big nm hnm ?_, ?_⟩
  · rcases tkN_pre T [] (.inl rfl) with q | q
    · exact .inl (by show (tkN [] T).1.length = 0; rw [q]; rfl)
    · obtain ⟨nm, hnm, hpre⟩ := (hasPre_iff _).mp q
      exact .inr ⟨nm, hnm, Nat.le_antisymm (lcp_cs hnm) (pre_lcp e.symm hpre)⟩
  · have := lcp_take T nm
    rw [e1, List.take_length] at this; exact this
  · show b.length ≤ (tkN [] T).1.length
    rcases h.mem with q | q
    · rw [q]; exact Nat.zero_le _
    · rw [← lcp_self h.pre]; exact lcp_cs q
theorem stop_tk0 {T : List Nat} (hs : stopC none T = true) : tkN [] T = ([], T) := by
  refine stop_tk (q := 34) (.inl rfl) ?_
  cases T with
  | nil => rfl
  | cons c r =>
    have hs : (blankN c || c == 60 || c == 38 || none == some c) = true := hs
    show (blankN c || c == 60 || c == 38 || some 34 == some c) = true
    have h2 : ((none : Option Nat) == some c) = false := rfl
    rw [h2, Bool.or_false] at hs
    rw [hs]; rfl
inductive Rr (fa : Bool) : List Nat → List Nat → Nat → Prop
  | nil : Rr fa [] [] 0
  | chr {c : Nat} {t s : List Nat} {k : Nat} (h : c ≠ 38) (r : Rr fa t s k) : Rr fa (c :: t) (c :: s) k
  | amp {t s : List Nat} {k j : Nat} (h : (ceN none fa t).ks = List.replicate j (Kd.tok 7 woN)) (r : Rr fa (ceN none fa t).rem s k) : Rr fa (38 :: t) ((ceN none fa t).out ++ s) (j + k)
theorem Rr.plain {fa : Bool} {T s : List Nat} {k : Nat} (h : Rr fa T s k) : ∀ {p : List Nat}, (∀ c ∈ p, c ≠ 38) → Rr fa (p ++ T) (p ++ s) k
  | [], _ => h
  | c :: p, hp => .chr (hp c (.head _)) (Rr.plain h (p := p) fun d hd => hp d (.tail _ hd))
theorem Rr.plain_inv {fa : Bool} {R : List Nat} : ∀ {e s : List Nat} {k : Nat}, (∀ c ∈ e, c ≠ 38) → Rr fa (e ++ R) s k → ∃ s', s = e ++ s' ∧ Rr fa R s' k
  | [], s, k, _, h => ⟨s, rfl, h⟩
  | c :: e, s, k, he, h => by
    cases h with
    | chr hc r =>
      obtain ⟨s', e1, r'⟩ := Rr.plain_inv (e := e) (fun d hd => he d (.tail _ hd)) r
      exact ⟨s', by rw [e1]; rfl, r'⟩
    | amp h r => exact absurd rfl (he 38 (.head _))
theorem Rr.nil_inv {fa : Bool} {s : List Nat} {k : Nat} (h : Rr fa [] s k) : s = [] ∧ k = 0 := by cases h; exact ⟨rfl, rfl⟩
theorem Rr.amp_inv {fa : Bool} {t s : List Nat} {k : Nat} (h : Rr fa (38 :: t) s k) : ∃ j s' k', (ceN none fa t).ks = List.replicate j (Kd.tok 7 woN) ∧ Rr fa (ceN none fa t).rem s' k' ∧ s = (ceN none fa t).out ++ s' ∧ k = j + k' := by
  cases h with
  | chr hc r => exact absurd rfl hc
  | amp h r => exact ⟨_, _, _, h, r, rfl, rfl⟩
theorem Rr.bare {fa : Bool} {T s : List Nat} {k : Nat} (h : Rr fa T s k) (hs : stopC none T = true) : Rr fa (38 :: T) (38 :: s) k := by
  have e : ceN none fa T = ⟨[38], [], T⟩ := ceN_stop hs
  have := Rr.amp (fa := fa) (t := T) (s := s) (k := k) (j := 0) (by rw [e]; rfl) (by rw [e]; exact h)
  rw [e, Nat.zero_add] at this
  exact this
theorem ent_semi : ∀ a ∈ entNames, a.getLast? = some 59 → ∀ b ∈ entNames, a <+: b → a = b := by decide +kernel
theorem ent_amp : ∀ a ∈ entNames, ∀ c ∈ a, c ≠ 38 := by decide +kernel
theorem ent_more : ∀ a ∈ entNames, a.getLast? ≠ some 59 → (a ++ [59]) ∈ entNames ∧ valE (a ++ [59]) = valE a := by decide +kernel
theorem ent_ne : ∀ a ∈ entNames, a ≠ [] := by decide +kernel
theorem tkN_whole {T : List Nat} : ∀ {p acc : List Nat}, (∀ q, q <+: p → hasPre ⟨(acc ++ q).toArray⟩ = true) → tkN acc (p ++ T) = tkN (acc ++ p) T
  | [], acc, _ => by rw [List.append_nil]; rfl
  | c :: p, acc, h => by
    have h1 : hasPre ⟨(acc ++ [c]).toArray⟩ = true := h [c] ⟨p, rfl⟩
    rw [List.cons_append, tkN_yes h1, tkN_whole (p := p) (fun q hq => by
      rw [List.append_assoc]
      exact h ([c] ++ q) (by obtain ⟨r, hr⟩ := hq; exact ⟨r, by rw [← hr]; rfl⟩)), List.append_assoc]
    rfl
theorem tkN_name {T nm : List Nat} (h : nm ∈ entNames) : tkN [] (nm ++ T) = tkN nm T := by
  have := tkN_whole (T := T) (p := nm) (acc := []) (fun q hq => by rw [List.nil_append]; exact (hasPre_iff _).mpr ⟨nm, h, hq⟩)
  rwa [List.nil_append] at this
theorem tkN_semi {T nm : List Nat} (h : nm ∈ entNames) (h59 : nm.getLast? = some 59) : tkN [] (nm ++ T) = (nm, T) := by
  rw [tkN_name h]
  cases T with
  | nil => rfl
  | cons c r =>
    refine tkN_no (Bool.eq_false_iff.mpr fun q => ?_)
    obtain ⟨b, hb, hp⟩ := (hasPre_iff _).mp q
    have h2 := ent_semi nm h h59 b hb ((List.prefix_append _ _).trans hp)
    have h3 := hp.length_le
    rw [← h2, List.length_append, List.length_singleton] at h3
    omega
theorem lpR_self {nm : List Nat} (h : nm ∈ entNames) : lpR nm nm.length = some nm := by
  cases e : nm.length with
  | zero => exact absurd (List.eq_nil_of_length_eq_zero e) (ent_ne nm h)
  | succ n =>
    have ht : nm.take (n + 1) = nm := by rw [← e, List.take_length]
    rw [lpR_yes (by rw [ht]; exact (isEnt_K nm).mpr h), ht]
theorem tkN_ge : ∀ (T acc : List Nat), acc.length ≤ (tkN acc T).1.length
  | [], acc => Nat.le_refl _
  | d :: t, acc => by
    by_cases g : hasPre ⟨(acc ++ [d]).toArray⟩ = true
    · rw [tkN_yes g]
      exact Nat.le_trans (by rw [List.length_append]; exact Nat.le_add_right _ _) (tkN_ge t _)
    · rw [tkN_no (Bool.eq_false_iff.mpr g)]; exact Nat.le_refl _
theorem name_live {T nm : List Nat} (h : nm ∈ entNames) : stopC none (nm ++ T) = false := by
  cases hs : stopC none (nm ++ T) with
  | false => rfl
  | true =>
    exfalso
    have e := stop_tk0 hs
    rw [tkN_name h] at e
    have e2 := tkN_app T nm
    cases hn : nm with
    | nil => exact ent_ne nm h hn
    | cons c r =>
      have h1 : hasPre ⟨[c].toArray⟩ = true := (hasPre_iff [c]).mpr ⟨nm, h, by rw [hn]; exact ⟨r, rfl⟩⟩
      have e3 := stop_tk0 hs
      rw [hn, List.cons_append, tkN_yes h1] at e3
      have e6 := congrArg Prod.fst e3
      dsimp only at e6
      rw [show (([] : List Nat) ++ [c]) = [c] from rfl] at e6
      have := tkN_ge (r ++ T) [c]
      rw [e6] at this
      exact absurd this (Nat.not_succ_le_zero 0)
theorem Rr.semi {fa : Bool} {T s nm : List Nat} {k : Nat} (h : Rr fa T s k) (hn : nm ∈ entNames) (h59 : nm.getLast? = some 59) : Rr fa (38 :: (nm ++ T)) (valE nm ++ s) k := by
  have e : ceN none fa (nm ++ T) = ⟨valE nm ++ nm.drop nm.length, [], T⟩ := (ceN_name (name_live hn) (tkN_semi hn h59) (lpR_self hn)).trans (name_semi h59 rfl)
  rw [List.drop_length, List.append_nil] at e
  have := Rr.amp (fa := fa) (t := nm ++ T) (s := s) (k := k) (j := 0) (by rw [e]; rfl) (by rw [e]; exact h)
  rw [e, Nat.zero_add] at this
  exact this
theorem name_free' {fa : Bool} {T cs r nm : List Nat} {c : Nat} (hc : nm.getLast? = some c) (e : c ≠ 59) (hg : (fa && gluedC (T.drop nm.length)) = false) : nameN fa T cs r (some nm) = ⟨valE nm ++ cs.drop nm.length, [.tok 7 woN], r⟩ :=
  (if_neg (by rw [hc]; exact fun h => e (Option.some.inj h))).trans (if_neg (by rw [hg]; exact Bool.false_ne_true))
theorem Rr.name {fa : Bool} {T s nm : List Nat} {k c : Nat} (h : Rr fa T s k) (hn : nm ∈ entNames) (hc : nm.getLast? = some c) (e59 : c ≠ 59) (hl : LG (nm ++ T) entNames nm) (hg : (fa && gluedC T) = false) : Rr fa (38 :: (nm ++ T)) (valE nm ++ s) (1 + k) := by
  have hm := hl.mf
  have e0 := tkN_name (T := T) hn
  have e1 : ∃ e R, tkN [] (nm ++ T) = (nm ++ e, R) ∧ T = e ++ R ∧ ∀ d ∈ e, d ≠ 38 := by
    have hk : ∀ (T acc : List Nat), ∃ e, (tkN acc T).1 = acc ++ e := by
      intro T
      induction T with
      | nil => intro acc; exact ⟨[], (List.append_nil _).symm⟩
      | cons d t ih =>
        intro acc
        by_cases g : hasPre ⟨(acc ++ [d]).toArray⟩ = true
        · obtain ⟨e, he⟩ := ih (acc ++ [d])
          exact ⟨d :: e, by rw [tkN_yes g, he, List.append_assoc]; rfl⟩
        · exact ⟨[], by rw [tkN_no (Bool.eq_false_iff.mpr g), List.append_nil]⟩
    obtain ⟨e, he⟩ := hk T nm
    refine ⟨e, (tkN nm T).2, by rw [e0, ← he], ?_, fun d hd => ?_⟩
    · have := tkN_app T nm
      rw [he, List.append_assoc] at this
      exact (List.append_cancel_left this).symm
    · rcases tkN_pre T nm (.inr ((hasPre_iff nm).mpr ⟨nm, hn, List.prefix_refl _⟩)) with q | q
      · rw [he] at q
        exact absurd (List.append_eq_nil_iff.mp q).1 (ent_ne nm hn)
      · obtain ⟨b, hb, hp⟩ := (hasPre_iff _).mp q
        refine ent_amp b hb d (hp.subset ?_)
        rw [he]; exact List.mem_append_right _ hd
  obtain ⟨e, R, e2, e3, e4⟩ := e1
  have e5 : lpR (nm ++ e) (nm ++ e).length = some nm := by
    have := hm.best
    rw [e2, if_neg (ent_ne nm hn)] at this
    exact this
  have e6 : (nm ++ T).drop nm.length = T := List.drop_left' rfl
  have eC : ceN none fa (nm ++ T) = ⟨valE nm ++ (nm ++ e).drop nm.length, [.tok 7 woN], R⟩ := (ceN_name (name_live hn) e2 e5).trans (name_free' hc e59 (by rw [e6]; exact hg))
  rw [List.drop_left' rfl] at eC
  rw [e3] at h
  obtain ⟨s', e7, h'⟩ := h.plain_inv e4
  have := Rr.amp (fa := fa) (t := nm ++ T) (s := s') (k := k) (j := 1) (by rw [eC]; rfl) (by rw [eC]; exact h')
  rw [eC] at this
  rw [e7, ← List.append_assoc]
  exact this
end Mine.Internal
namespace Mine.Internal
noncomputable def plainL : List Str := [Str.ofString "in;", Str.ofString "ni;", Str.ofString "b;", Str.ofString "llel;", Str.ofString "le;", Str.ofString "E;", Str.ofString ";", Str.ofString "=", Str.ofString "i", Str.ofString "1", Str.ofString " ", Str.ofString "z", Str.ofString "\n", Str.ofString "ute;", Str.ofString "c", Str.ofString "&"]
structure Lb1 where
  b : Str
  tb : Tok
structure Lb1.P (T : Str) (i : Nat) (c : Lb1) : Prop where
  lg : LG T.cps.toList (entNames.take i) c.b.cps.toList
theorem Lb1.start {T : Str} {t : Tok} {x : Str} (hx : x = Str.ofString "") : Lb1.P T 0 ⟨x, t⟩ := by
  have e : x.cps.toList = [] := by rw [hx]; decide +kernel
  refine ⟨?_⟩
  show LG _ _ x.cps.toList
  rw [e]; exact LG.nil
theorem take_is {T nm : Str} {b : Bool} (h : (Txt.slice T none (some ((nm.length : Nat) : Int)) == nm) = b) : (T.cps.toList.take nm.cps.toList.length = nm.cps.toList) ↔ b = true := by
  rw [sliceN] at h
  rw [len_toList]
  constructor
  · intro e
    rw [← h, e]
    simp
  · intro e
    subst e
    have := congrArg (fun x : Str => x.cps.toList) (eq_of_beq h)
    simpa using this
theorem Lb1.yes {T nm b : Str} {i : Nat} {tb tb' : Tok} (h : Lb1.P T i ⟨b, tb⟩) (hn : entK[i]? = some nm) (h1 : (Txt.slice T none (some ((nm.length : Nat) : Int)) == nm) = true) (h2 : ((b.length : Nat) : Int) < ((nm.length : Nat) : Int)) : Lb1.P T (i + 1) ⟨nm, tb'⟩ := by
  refine ⟨?_⟩
  rw [ent_take hn]
  exact h.lg.yes ((take_is h1).mpr rfl) (by dsimp only; rw [len_toList, len_toList]; omega)
theorem Lb1.no {T nm b : Str} {i : Nat} {tb tb' : Tok} {q : Bool} (h : Lb1.P T i ⟨b, tb⟩) (hn : entK[i]? = some nm) (h1 : (Txt.slice T none (some ((nm.length : Nat) : Int)) == nm) = q) (h2 : q = false ∨ ¬ ((b.length : Nat) : Int) < ((nm.length : Nat) : Int)) : Lb1.P T (i + 1) ⟨b, tb'⟩ := by
  refine ⟨?_⟩
  rw [ent_take hn]
  refine h.lg.no (fun e => ?_)
  have e2 := (take_is h1).mp e
  rcases h2 with h2 | h2
  · rw [h2] at e2; cases e2
  · dsimp only; rw [len_toList, len_toList]; omega
theorem Lb1.done {T : Str} {c : Lb1} (h : Lb1.P T entK.length c) : LG T.cps.toList entNames c.b.cps.toList := by
  have := h.lg
  rwa [List.take_of_length_le (by unfold entNames; rw [List.length_map]; exact Nat.le_refl _)] at this
theorem Lb1.blen {T b : Str} {i : Nat} {tb : Tok} (h : Lb1.P T i ⟨b, tb⟩) (hT : T.length ≤ 640) : b.length ≤ 640 := by
  have := congrArg List.length h.lg.pre
  dsimp only at this
  rw [List.length_take, len_toList, len_toList] at this
  omega
end Mine.Internal
namespace Mine.Internal
section
variable {prog : Program} {w : World} {A : Around} {s : Shared} {env : Env}
noncomputable def StepT (G : Heap → Prop) (L I : Addr) (oI : Obj) (Jn : (Str → Option Value) → Led → Prop) (s₁ : Shared) (Q : Flow → Shared → Prop) (f : Flow) (s₃ : Shared) : Prop :=
  match f with
  | .ret v => Q (.ret v) s₃
  | .brk => Q .next s₃
  | _ => ∃ (g : Heap) (h : Heap) (tk : Nat) (m : Str → Option Value) (news : Led), s₃ = { s₁ with heap := h, toks := tk } ∧ G g ∧ Fr g L h m ∧ News g L h ((I, oI) :: news) ∧ (∀ p ∈ news, @Ne Nat p.1 I) ∧ Jn m news
noncomputable def LoopT (prog : Program) (w : World) (A : Around) (G : Heap → Prop) (env : Env) (x : Str) (body : List Stmt) (Q : Flow → Shared → Prop) (E : Value → Shared → Prop) (it : Value) (s₂ : Shared) : Prop :=
  ∃ (I : Addr) (n : Nat) (P : Nat → Value → Prop) (St : Nat → Heap → Prop) (g : Heap) (m : Str → Option Value) (news : Led) (J : Nat → (Str → Option Value) → Led → Prop),
    it = .ref I ∧ Walks prog w A I [I] [I] n P St ∧ @Ne Nat env.locals I ∧ (∀ g', G g' → g'.get? I = none) ∧ (∀ p ∈ news, @Ne Nat p.1 I) ∧ St 0 s₂.heap ∧ (∀ i h, St i h → ∃ o, h.get? I = some o) ∧ G g ∧ Fr g env.locals s₂.heap m ∧ News g env.locals s₂.heap news ∧ J 0 m news ∧
    (∀ i v g₁ m₁ news₁ s₁ oI, (∃ h tk, s₁ = { s₂ with heap := h, toks := tk }) → i < n → P i v → J i m₁ news₁ → G g₁ → (∀ p ∈ news₁, @Ne Nat p.1 I) → Fr g₁ env.locals s₁.heap (fun y => if y = x then some v else m₁ y) → News g₁ env.locals s₁.heap ((I, oI) :: news₁) →
      wpAny (model prog w) A (execs body env) (StepT G env.locals I oI (J (i + 1)) s₁ Q) E s₁) ∧
    ∀ g₁ h' tk m' news', G g₁ → Fr g₁ env.locals h' m' → News g₁ env.locals h' news' → J n m' news' → Q .next { s₂ with heap := h', toks := tk }
theorem For_turn {E : Value → Shared → Prop} {Q : Flow → Shared → Prop} {G : Heap → Prop} {x : Str} {px pos : Pos} {iter : PySem.Expr} {body : List Stmt} (hx : env.kindOf x = some .local)
    (hp : (env.scope.kind == .class || (env.scope.kind == .module && env.locals != env.globals)) = false)
    (h : wpAny (model prog w) A (eval iter env) (fun xv s₁ => wpAny (model prog w) A (pyIter xv) (fun it s₂ => LoopT prog w A G env x body Q E it s₂) E s₁) E s)
    (hs : ∀ x, foldedSetIterable iter env x = pure x := by intro _; rfl)
    (hE : PassesOwn (model prog w) A env E := by passes_own) :
    wpAny (model prog w) A (exec (.For (.Name x px) iter body [] pos) env) Q E s := by
  refine wpAny_For (wpAny_mono h (fun xv s₁ h₁ => wpAny_mono h₁ (fun it s₂ h₂ => ?_) fun _ _ e => e) fun _ _ e => e) hs
  obtain ⟨I, n, P, St, g, m, news, J, rfl, W, hLI, hGI, hnw, hst, hSI, hG, F, N, h0, step, hQ⟩ := h₂
  have hLf : env.locals ∉ [I] := fun hm => hLI (List.mem_singleton.mp hm)
  refine codeAny_forLoop (R := fun r s' => match r with | .ok f => Q f s' | .error e => cameBackBy (model prog w) A env E e s')
    (fun k s' => ∃ g' h' tk m' news' i, s' = { s₂ with heap := h', toks := tk } ∧ St i h' ∧ G g' ∧ Fr g' env.locals h' m' ∧ News g' env.locals h' news' ∧ (∀ p ∈ news', @Ne Nat p.1 I) ∧ J i m' news' ∧ i ≤ n ∧ k = n + 1 - i) ?_ (n + 1)
    ⟨g, s₂.heap, s₂.toks, m, news, 0, rfl, hst, hG, F, N, hnw, h0, Nat.zero_le _, rfl⟩
  rintro k s' ⟨g', h', tk, m', news', i, rfl, hst', hG', F', N', hnw', hJ, hi, rfl⟩
  have old : ∀ b o, g'.get? b = some o → b ∉ [I] := fun b o e hb => by rw [List.mem_singleton.mp hb, hGI g' hG'] at e; cases e
  have next : ∀ h₁ : Heap, (∀ b o, b ∉ [I] → h'.get? b = some o → h₁.get? b = some o) → Fr g' env.locals h₁ m' ∧ News g' env.locals h₁ news' := fun h₁ hk₁ =>
    ⟨⟨F'.ns.at' fun o e => hk₁ _ o hLf e, fun b o e => hk₁ b o (old b o e) (F'.keep b o e), F'.above⟩, fun p hp => ⟨hk₁ _ _ (fun hm => hnw' p hp (List.mem_singleton.mp hm)) (N' p hp).1, (N' p hp).2⟩⟩
  by_cases hlt : i < n
  · refine W.item i _ _ _ hlt hst' fun v h₁ tk₁ hP hst₁ hk₁ => ?_
    obtain ⟨F₁, N₁⟩ := next h₁ hk₁
    refine wpAny_assign_Name (wpAny_storeName_local hx F₁.ns (fun h₂ hn₂ hs₂ => ?_) hp)
    have F₂ := F₁.set hn₂ hs₂
    have hst₂ : St (i + 1) h₂ := W.frame _ _ _ hst₁ fun b hb o e => (hs₂.2 b fun q => hLf (q ▸ hb)).trans e
    obtain ⟨oI, hoI⟩ := hSI _ _ hst₂
    have NI : News g' env.locals h₂ ((I, oI) :: news') := fun p hp => by
      rcases List.mem_cons.mp hp with rfl | hp
      · exact ⟨hoI, fun e => hLI e.symm, hGI g' hG'⟩
      · exact (N₁.set hs₂) p hp
    have key : ∀ s₃, (∃ (g₂ : Heap) (h : Heap) (tk : Nat) (m : Str → Option Value) (news : Led), s₃ = { ({ s₂ with heap := h₂, toks := tk₁ } : Shared) with heap := h, toks := tk } ∧ G g₂ ∧ Fr g₂ env.locals h m ∧ News g₂ env.locals h ((I, oI) :: news) ∧ (∀ p ∈ news, @Ne Nat p.1 I) ∧ J (i + 1) m news) →
        ∃ mm, mm < n + 1 - i ∧ ∃ g' h' tk m' news' i, s₃ = { s₂ with heap := h', toks := tk } ∧ St i h' ∧ G g' ∧ Fr g' env.locals h' m' ∧ News g' env.locals h' news' ∧ (∀ p ∈ news', @Ne Nat p.1 I) ∧ J i m' news' ∧ i ≤ n ∧ mm = n + 1 - i := by
      rintro s₃ ⟨g₂, h₃, tk₃, m₂, news₂, rfl, hG₂, F₃, N₃, ha₃, hJ₃⟩
      refine ⟨n + 1 - (i + 1), by omega, g₂, h₃, tk₃, m₂, news₂, i + 1, rfl, ?_, hG₂, F₃, fun p hp => N₃ p (.tail _ hp), ha₃, hJ₃, hlt, rfl⟩
      refine W.frame _ _ _ hst₂ fun b hb o e => ?_
      rw [List.mem_singleton.mp hb] at e ⊢
      rw [hoI] at e
      have e2 : oI = o := Option.some.inj e
      rw [← e2]
      exact (N₃ _ (.head _)).1
    refine wpAny_mono (wpAny_passesOwn hE (step i v g' m' news' _ oI ⟨_, _, rfl⟩ hlt hP hJ hG' hnw' F₂ NI)) (fun f s₃ h₃ => ?_) fun _ _ e => e
    cases f with
    | ret v => exact h₃
    | brk => exact h₃
    | cont => exact key s₃ h₃
    | next => exact key s₃ h₃
  · have hin : i = n := by omega
    subst hin
    refine W.done _ _ _ hst' fun h₁ tk₁ hk₁ => wpAny_execs_nil ?_
    obtain ⟨F₁, N₁⟩ := next h₁ hk₁
    exact hQ g' h₁ tk₁ m' news' hG' F₁ N₁ hJ
end
end Mine.Internal
namespace Mine.Internal
theorem turn_none {fs : List Addr} {g g' : Heap} {b : Addr} (T : KtsTurn fs g g') (h : g.objs.size ≤ b) : g'.get? b = none := by
  cases q : g'.get? b with
  | none => rfl
  | some o =>
    have := Heap.lt_size q
    rw [T.size] at this
    exact absurd (Nat.lt_of_lt_of_le this h) (Nat.lt_irrefl _)
section
variable {prog : Program} {w : World} {A : Around} {E : Value → Shared → Prop} {Q : Flow → Shared → Prop} {s : Shared} {env : Env} {x : Str} {body : List Stmt} {m₀ : Str → Option Value}
noncomputable def GrowTE {σ : Type} (G : Heap → Prop) (L : Addr) (x : Str) (m₀ : Str → Option Value) (ps : σ → List (Str × Value)) (stored : List Str) (led : σ → Led) (P : Nat → σ → Prop) (own : Led) (c : σ) (i : Nat) (s₁ s₂ : Shared) : Prop :=
  ∃ (c' : σ) (g₂ h' : Heap) (tk : Nat) (m' : Str → Option Value) (news' : Led), s₂ = { s₁ with heap := h', toks := tk } ∧ G g₂ ∧ Fr g₂ L h' m' ∧ News g₂ L h' news' ∧ (∀ p ∈ led c' ++ own, p ∈ news') ∧ (∀ p ∈ led c', (∃ q ∈ led c, q.1 = p.1) ∨ ∀ q ∈ own, @LT.lt Nat _ q.1 p.1) ∧ (∀ p ∈ ps c', m' p.1 = some p.2) ∧ (∀ z, z ≠ x → (∀ p ∈ ps c', z ≠ p.1) → stored.contains z = false → m' z = m₀ z) ∧ P (i + 1) c'
noncomputable def GrowT {σ : Type} (G : Heap → Prop) (L : Addr) (x : Str) (m₀ : Str → Option Value) (ps : σ → List (Str × Value)) (stored : List Str) (led : σ → Led) (P : Nat → σ → Prop) (own : Led) (c : σ) (i : Nat) (s₁ : Shared) (Q : Flow → Shared → Prop) (f : Flow) (s₂ : Shared) : Prop :=
  match f with
  | .ret v => Q (.ret v) s₂
  | .brk => Q .next s₂
  | _ => GrowTE G L x m₀ ps stored led P own c i s₁ s₂
theorem loop_growT {σ : Type} {r : Addr} {b₀ : Int} {t₀ u₀ v₀ : Tok} {n : Nat} {g : Heap} {fs : List Addr} {G : Heap → Prop} (ps : σ → List (Str × Value)) (stored : List Str) (led : σ → Led) (P : Nat → σ → Prop) (c₀ : σ)
    (hh : A.handled = none) (hr : IsRange s.heap r 0 b₀ 1 t₀ u₀ v₀) (hb : b₀ = ((n : Nat) : Int)) (hn : n ≤ 1000) (hG : ∀ g', G g' → KtsTurn fs g g') (hG0 : G g) (F : Fr g env.locals s.heap m₀) (N : News g env.locals s.heap (led c₀)) (hk : ∀ p ∈ ps c₀, m₀ p.1 = some p.2) (hp : P 0 c₀)
    (turn : ∀ (c : σ) i t (u : Str → Option Value) g₁ h tk own, i < n → P i c → G g₁ → (∀ q ∈ own, ∀ p ∈ led c₀, @LT.lt Nat _ p.1 q.1) → Fr g₁ env.locals h (fun y => if y = x then some (.int ((i : Nat) : Int) t) else kstB (fun z => if stored.contains z then u z else m₀ z) (ps c) y) → News g₁ env.locals h (led c ++ own) →
      wpAny (model prog w) A (execs body env) (GrowT G env.locals x m₀ ps stored led P own c i { s with heap := h, toks := tk } Q) E { s with heap := h, toks := tk })
    (fin : ∀ (c : σ), P n c → False) :
    wpAny (model prog w) A (pyIter (.ref r)) (fun it s₂ => LoopT prog w A G env x body Q E it s₂) E s := by
  subst hb
  have hsz : Builtin.Range.rangeSize 0 ((n : Nat) : Int) 1 = (n : Int) := by
    unfold Builtin.Range.rangeSize
    simp
    try omega
  refine wpAny_pyIter_range hr (small_one (by omega) (by omega) (by omega) (by omega)) ?_
  have W : Walks prog w A s.heap.objs.size [s.heap.objs.size] [s.heap.objs.size] n (fun i v => i < n ∧ ∃ t, v = .int (0 + i * 1) t)
      (fun i h => IsRangeIter h s.heap.objs.size (0 + (i : Nat) * 1) ((n : Int) - (i : Nat)) 1) := (Walks.range hh _ 0 1 n).bound
  let J : Nat → (Str → Option Value) → List (Addr × Obj) → Prop := fun i m nx => ∃ c : σ, nx = led c ∧ (∀ p ∈ ps c, m p.1 = some p.2) ∧ (∀ z, z ≠ x → (∀ p ∈ ps c, z ≠ p.1) → stored.contains z = false → m z = m₀ z) ∧ P i c
  have hI0 : g.get? s.heap.objs.size = none := next_is_new F
  have hgs : g.objs.size ≤ s.heap.objs.size := Nat.le_of_lt (Nat.lt_of_le_of_lt F.above F.ns.lt)
  refine ⟨s.heap.objs.size, n, _, _, g, m₀, led c₀, J, rfl, W, ?_, fun g' hg' => turn_none (hG g' hg') hgs, ?_, (by show IsRangeIter _ _ _ _ _; rw [hsz]; simpa using Heap.get?_push_size _ rfl), fun i h hst => ⟨_, hst⟩, hG0, F.push _, (fun p hp => ⟨Heap.get?_push_of_some _ (N p hp).1, (N p hp).2⟩), ⟨c₀, rfl, hk, (fun _ _ _ _ => rfl), hp⟩, ?_, ?_⟩
  · intro hm
    exact absurd F.ns.lt (hm ▸ Nat.lt_irrefl _)
  · intro p hp hI
    exact absurd (Heap.lt_size (N p hp).1) (hI ▸ Nat.lt_irrefl _)
  · rintro i v g₁ m₁ news₁ s₁ oI ⟨hh', tk', rfl⟩ hin ⟨_, t, rfl⟩ ⟨c, rfl, h1, h2, hpc⟩ hG₁ hoff F₁ N₁
    have e1 : (0 : Int) + (i : Int) * 1 = ((i : Nat) : Int) := by omega
    rw [e1] at F₁
    have N₂ : News g₁ env.locals hh' (led c ++ [(s.heap.objs.size, oI)]) := fun p hp => N₁ p ((List.mem_append.mp hp).elim (fun h => .tail _ h) fun h => by cases List.mem_singleton.mp h; exact .head _)
    refine wpAny_mono (turn c i t m₁ g₁ hh' tk' [(s.heap.objs.size, oI)] hin hpc hG₁ (fun q hq p hp => by cases List.mem_singleton.mp hq; exact Heap.lt_size (N p hp).1) (kst_fr h1 h2 F₁) N₂) (fun f s₂ p => ?_) fun _ _ e => e
    have finE : GrowTE G env.locals x m₀ ps stored led P [(s.heap.objs.size, oI)] c i { s with heap := hh', toks := tk' } s₂ → StepT G env.locals s.heap.objs.size oI (J (i + 1)) { s with heap := hh', toks := tk' } Q .next s₂ := by
      rintro ⟨c', g₂, h', tk, m', news', e, hg2, F', N', hn', hgr, hk', hr', hp'⟩
      refine ⟨g₂, h', tk, m', led c', e, hg2, F', fun p hp => N' p (hn' p ?_), fun p hp hq => ?_, c', rfl, hk', hr', hp'⟩
      · rcases List.mem_cons.mp hp with rfl | hp
        · exact List.mem_append_right _ (.head _)
        · exact List.mem_append_left _ hp
      · rcases hgr p hp with ⟨q, hq1, hq3⟩ | hgr
        · exact hoff q hq1 (by rw [hq3]; exact hq)
        · have := hgr _ (.head _)
          rw [hq] at this
          exact Nat.lt_irrefl _ this
    cases f with
    | ret v => exact p
    | brk => exact p
    | next => exact finE p
    | cont => exact finE p
  · rintro g₁ h' tk m' news' hg1 F' N' ⟨c, rfl, h1, h2, hpc⟩
    exact (fin c hpc).elim
end
end Mine.Internal
namespace Mine.Internal
noncomputable abbrev Kz.av (Z : Kz) (v : Value) : Kz := ⟨Z.za, Z.zd, Z.m0, Z.m1, Z.m2, Z.m3, Z.m4, Z.m5, Z.m6, Z.v1, Z.v2, Z.v3, Z.v4, Z.v5, v⟩
section
variable {prog : Program} {w : World} {Kf : Frag} {TP : Heap → Prop} {K : Ks} {Z : Kz} {m7 : Tok} {tq : Addr} {Bt : At} {qs : List Value} {qn : Nat} {x : St} {val : Str} {vt : Tok} {R : Ck} {fa : Bool} {D U : Nat} {f : Value} {pos : List Value} {kw : List (Str × Value)}
theorem lz_gap2 (ho : K.ord) (hk : @LT.lt Nat _ Z.zd Z.za ∧ @LT.lt Nat _ Z.za K.sd ∧ @LT.lt Nat _ K.er tq) (hb : Bt.ord tq) : ∀ q ∈ Lz w K Z m7 tq Bt qs qn val vt (K.led w x), @LE.le Nat _ q.1 tq ∨ @LE.le Nat _ Bt.ct q.1 := by
  obtain ⟨b1, b2, b3⟩ := hb
  have low : ∀ q ∈ (Z.za, instObj 762 Z.zd) :: (Z.zd, instObj 762 Z.zd) :: (tq, instObj 762 Z.zd) :: K.led w x, @LE.le Nat _ q.1 tq := fun q h => lo_le ho hk q h
  intro q hq
  simp only [Lz, List.mem_cons] at hq
  rcases hq with h | h | h | h | h | h | h
  · rw [h]; exact .inl (low _ (.head _))
  · rw [h]; exact .inl (low (Z.zd, instObj 762 Z.zd) (.tail _ (.head _)))
  · rw [h]; exact .inl (Nat.le_refl _)
  · rw [h]; exact .inr (Nat.le_refl _)
  · rw [h]; exact .inr (Nat.le_of_lt (Nat.lt_trans b2 b3))
  · rw [h]; exact .inr (Nat.le_of_lt b2)
  · exact .inl (low _ (.tail _ (.tail _ (.tail _ h))))
theorem CtrS.ce9 (C : CtrS prog w Kf TP D U f ⟨pos, kw⟩ (Lz w K Z m7 tq Bt qs qn val vt (K.led w x)) (CeP prog w K Z m7 tq Bt qs val R fa))
    {A A₀ : Around} {base h₀ : Heap} {env : Env} {outer : List Env} {L : Addr} {m : Str → Option Value} {s : Shared} {Q E : Value → Shared → Prop} {N rest : Led}
    (ho : K.ord) (hk : @LT.lt Nat _ Z.zd Z.za ∧ @LT.lt Nat _ Z.za K.sd ∧ @LT.lt Nat _ K.er tq) (hb : Bt.ord tq)
    (B : Below A₀ base outer h₀) (F : Fr h₀ L s.heap m) (X : Kf.In h₀) (T : TP h₀) (XB : Kf.In base) (TB : TP base) (D₀ : KtsDicts (fms outer) h₀)
    (hA : A.frames = some (env :: outer)) (hf : env.frame = some L) (hke : env.scope.kind = .function) (hh : A.handled = none) (hd : A.depth ≤ D) (hu : A.units ≤ U) (Nw : News h₀ L s.heap N)
    (tk : Take (Lz w K Z m7 tq Bt qs qn val vt (K.led w x)) N rest) (hne : ∀ p ∈ rest, @LT.lt Nat _ p.1 Z.zd ∨ @LT.lt Nat _ Bt.dl p.1 ∨ (@LT.lt Nat _ tq p.1 ∧ @LT.lt Nat _ p.1 Bt.ct))
    (hQ : ∀ (h₀' : Heap) (y : St) (fl : Led) (adds : List Value) (n : Nat) (val' : Str) (vt' : Tok) (h' : Heap) (tk' : Nat), KtsTurn (fms outer) h₀ h₀' → Below A₀ base outer h₀' → Kf.In h₀' → TP h₀' → KtsDicts (fms outer) h₀' → y.ok K.src → y.rem K.src = R.rem → (∀ p ∈ fl, ∀ r ∈ N, @LT.lt Nat _ r.1 p.1) → QIs prog w fl adds (ceKs R fa) → val'.cps.toList = (if fa = true then val.cps.toList ++ R.out else val.cps.toList) →
      @LE.le Nat _ s.toks tk' → Fr h₀' L h' m → News h₀' L h' (Lz w K Z m7 tq Bt (qs ++ adds) n val' vt' (rest ++ (fl ++ K.led w y))) → Q .none { s with heap := h', toks := tk' }) :
    wpAny (model prog w) A (PySem.call f pos kw) Q E s := by
  refine CtrS.call C B F X (tk.news Nw) T XB TB D₀ hA hf hke hh hd hu (fun p hp q hq e => ?_) ?_
  · rcases hne p hp with h | h | ⟨h, h'⟩
    · exact Nat.lt_irrefl _ (Nat.lt_of_lt_of_le (e ▸ h) (lz_ge (T := []) ho hk hb q hq))
    · exact Nat.lt_irrefl _ (Nat.lt_of_lt_of_le (e ▸ h) (lz_le ho hk hb q hq))
    · rcases lz_gap2 ho hk hb q hq with h2 | h2
      · exact Nat.lt_irrefl _ (Nat.lt_of_lt_of_le (e ▸ h) h2)
      · exact Nat.lt_irrefl _ (Nat.lt_of_lt_of_le (e ▸ h') h2)
  · intro v fr l' h' tk' h₀' hp ht hfr T' F' N' B' X' P' D'
    obtain ⟨y, adds, n, val', vt', rfl, ok, hrem, hks, hval, rfl⟩ := hp
    refine hQ h₀' y fr adds n val' vt' h' tk' T' B' X' P' D' ok hrem (fun p hp r hr => hfr p hp r (tk.sup r hr)) hks hval ht F' (fun p hp => N' p ?_)
    have q1 : ∀ p ∈ fr, p ∈ fr ++ Lz w K Z m7 tq Bt (qs ++ adds) n val' vt' (K.led w y) ++ rest := fun p hp => List.mem_append_left _ (List.mem_append_left _ hp)
    have q2 : ∀ p ∈ Lz w K Z m7 tq Bt (qs ++ adds) n val' vt' (K.led w y), p ∈ fr ++ Lz w K Z m7 tq Bt (qs ++ adds) n val' vt' (K.led w y) ++ rest := fun p hp => List.mem_append_left _ (List.mem_append_right _ hp)
    exact six_tail q2 (app_in (fun p hp => List.mem_append_right _ hp) (app_in q1 (six_in q2))) p hp
end
structure Ct where
  y : St
  v6 : Value
  adds : List Value
  n : Nat
  sg : Str
  tsg : Tok
  own : Led
structure Ct.P (prog : Program) (w : World) (K : Ks) (tq : Addr) (fa : Bool) (T V : List Nat) (kk n0 i : Nat) (c : Ct) : Prop where
  sok : c.y.ok K.src
  rd : ∃ s' k' j, Rr fa (c.y.rem K.src) s' k' ∧ V = c.sg.cps.toList ++ s' ∧ kk = j + k' ∧ QIs prog w c.own c.adds (List.replicate j (Kd.tok 7 woN))
  suf : c.y.rem K.src <:+ T
  len : (c.y.rem K.src).length + i ≤ n0
  own : ∀ p ∈ c.own, @LT.lt Nat _ tq p.1
  er : @LT.lt Nat _ K.er tq
noncomputable abbrev Ct.led (w : World) (K : Ks) (Z : Kz) (m7 : Tok) (tq : Addr) (c : Ct) : Led := (Z.za, instObj 762 Z.zd) :: (Z.zd, (Z.av c.v6).kd w K.st m7 tq) :: (tq, W.listOf c.adds.toArray c.n) :: (c.own ++ K.led w c.y)
end Mine.Internal
namespace Mine.Internal
noncomputable def LdP (V : List Nat) (kk : Nat) : CPost := fun v fr l => l = [] ∧ ∃ (a lf : Addr) (sg : Str) (ts : Tok) (fs : List Value) (n : Nat), v = .ref a ∧ fr = [(a, tupO [.str sg ts, .ref lf]), (lf, W.listOf fs.toArray n)] ∧ sg.cps.toList = V ∧ StrsAre fs (List.replicate kk woN)
noncomputable def Gt (Kf : Frag) (TP : Heap → Prop) (A₀ : Around) (base : Heap) (fs : List Env) (g g' : Heap) : Prop := KtsTurn (fms fs) g g' ∧ Below A₀ base fs g' ∧ Kf.In g' ∧ TP g' ∧ KtsDicts (fms fs) g'
theorem Gt.turn {Kf : Frag} {TP : Heap → Prop} {A₀ : Around} {base : Heap} {fs : List Env} {g g' g2 : Heap} (h : Gt Kf TP A₀ base fs g g') (T : KtsTurn (fms fs) g' g2) (B : Below A₀ base fs g2) (X : Kf.In g2) (P : TP g2) (D : KtsDicts (fms fs) g2) : Gt Kf TP A₀ base fs g g2 := ⟨h.1.trans T, B, X, P, D⟩
end Mine.Internal
namespace Mine.Internal
theorem mendF_same : ∀ {l : List Nat}, (∀ c ∈ l, c ≠ 13) → mendF false l = l
  | [], _ => by simp [mendF_n]
  | c :: t, h => by
    have h1 := h c (.head _)
    have h2 := mendF_same (l := t) (fun d hd => h d (.tail _ hd))
    simp only [mendF_c]
    rw [if_neg (by simp), if_neg h1, h2]
theorem mendL_same {l : List Nat} (h : ∀ c ∈ l, c ≠ 13) : mendL l = l := by rw [mendL_F]; exact mendF_same h
section
variable {prog : Program} {w : World} {K : Ks} {tq : Addr} {fa : Bool} {T V : List Nat} {kk n0 i : Nat}
theorem Ct.start {y0 : St} {v6 : Value} {n : Nat} {sg : Str} {ts : Tok} (ok : y0.ok K.src) (hrem : y0.rem K.src = T) (hR : Rr fa T V kk) (hs : sg = Str.ofString "") (hl : T.length ≤ n0) (he : @LT.lt Nat _ K.er tq) : Ct.P prog w K tq fa T V kk n0 0 ⟨y0, v6, [], n, sg, ts, []⟩ := by
  have e : sg.cps.toList = [] := by rw [hs]; decide +kernel
  refine ⟨ok, ⟨V, kk, 0, by rw [hrem]; exact hR, by dsimp only; rw [e]; rfl, (Nat.zero_add _).symm, .nil⟩, by dsimp only; rw [hrem]; exact List.suffix_refl _, by dsimp only; rw [hrem]; exact hl, (fun _ h => nomatch h), he⟩
theorem Ct.over {c : Ct} (h : Ct.P prog w K tq fa T V kk n0 (n0 + 1) c) : False := by
  have := h.len
  omega
end
end Mine.Internal
namespace Mine.Internal
theorem amp_any (c : Nat) : [Str.ofString "&"].any (· == ⟨#[c]⟩) = (c == 38) := by
  rw [show Str.ofString "&" = ⟨#[38]⟩ from by decide +kernel]
  simp only [List.any_cons, List.any_nil, chr_beq, Bool.or_false]
theorem not38 {p : List Nat} (h : ∀ c ∈ p, (fun c => c == 38) c = false) : ∀ c ∈ p, c ≠ 38 := fun c hc => beq_eq_false_iff_ne.mp (h c hc)
theorem owns_out {K : Ks} {tq : Addr} {own : Led} (h : ∀ p ∈ own, @LT.lt Nat _ tq p.1) (he : @LT.lt Nat _ K.er tq) : Outs K own := fun p hp => .inr (Nat.lt_trans he (h p hp))
end Mine.Internal
namespace Mine.Internal
theorem mid_own3 {own ow T : Led} {e1 e2 e3 : Addr × Obj} : ∀ p ∈ e1 :: e2 :: e3 :: ((ow ++ own) ++ T), p ∈ (e1 :: e2 :: e3 :: (own ++ T)) ++ ow := fun p hp => by
  simp only [List.mem_cons, List.mem_append, List.cons_append] at hp ⊢
  rcases hp with h | h | h | (h | h) | h <;> simp [h]
theorem news_mid3 {h₀ h : Heap} {L : Addr} {own ow T : Led} {e1 e2 e3 : Addr × Obj} (N : News h₀ L h ((e1 :: e2 :: e3 :: (own ++ T)) ++ ow)) : News h₀ L h (e1 :: e2 :: e3 :: ((ow ++ own) ++ T)) := fun p hp => N p (mid_own3 p hp)
theorem own_two {tq : Addr} {own ow led0 : Led} {o : Obj} (h : ∀ p ∈ own, @LT.lt Nat _ tq p.1) (h2 : ∀ q ∈ ow, ∀ p ∈ led0, @LT.lt Nat _ p.1 q.1) (hm : (tq, o) ∈ led0) : ∀ p ∈ ow ++ own, @LT.lt Nat _ tq p.1 := fun p hp => (List.mem_append.mp hp).elim (fun q => h2 p q _ hm) (h p)
end Mine.Internal
namespace Mine.Internal
theorem Rr.len {fa : Bool} {T s : List Nat} {k : Nat} (h : Rr fa T s k) : s.length ≤ 3 * T.length ∧ k ≤ T.length := by
  induction h with
  | nil => exact ⟨Nat.le_refl _, Nat.le_refl _⟩
  | chr _ _ ih => rw [List.length_cons, List.length_cons]; omega
  | @amp t s k j h r ih =>
    have p := ceN_pot (al := none) (fa := fa) (T := t)
    have hk := ceN_ks (al := none) (fa := fa) (T := t)
    rw [h, List.length_replicate] at hk
    rw [List.length_append, List.length_cons]; omega
theorem sg_fit {sg : Str} {V s' T : List Nat} {fa : Bool} {kk : Nat} (hR : Rr fa T V kk) (hV : V = sg.cps.toList ++ s') (hT : T.length ≤ 100) : sg.length ≤ 300 := by
  have := hR.len.1
  rw [hV, List.length_append, len_toList] at this; omega
theorem sg_run {sg : Str} {r p r' T : List Nat} (h : sg.length ≤ 300) (e : r = p ++ r') (hs : r <:+ T) (hT : T.length ≤ 100) : sg.length + (⟨p.toArray⟩ : Str).length ≤ sizeLine := by
  have h1 := hs.length_le
  rw [e, List.length_append] at h1
  show sg.length + p.toArray.size ≤ _
  rw [List.size_toArray, sizeLine_eq]; omega
end Mine.Internal
namespace Mine.Internal
theorem own_zd {w : World} {K : Ks} {x : St} {tq zd : Addr} {own : Led} (h : ∀ p ∈ own, @LT.lt Nat _ tq p.1) (k : K.ord) (hz : @LT.lt Nat _ zd K.sd) (he : @LT.lt Nat _ K.er tq) : ∀ q ∈ own ++ K.led w x, q.1 ≠ zd := fun q hq => by
  rcases List.mem_append.mp hq with hq | hq
  · exact Nat.ne_of_gt (Nat.lt_trans (Nat.lt_trans (Nat.lt_trans hz (K.lo_hi k)) he) (h q hq))
  · exact Ks.ne_all k (.inl hz) q hq
theorem tq_zd {K : Ks} {tq zd : Addr} (k : K.ord) (hz : @LT.lt Nat _ zd K.sd) (he : @LT.lt Nat _ K.er tq) : @LT.lt Nat _ zd tq := Nat.lt_trans (Nat.lt_trans hz (K.lo_hi k)) he
end Mine.Internal
namespace Mine.Internal
theorem QIs.at {prog : Program} {w : World} {fl : Led} {its : List Value} {ks : List Kd} (q : QIs prog w fl its ks) : ∀ {i : Nat} {v : Value}, its[i]? = some v → ∃ k, ks[i]? = some k ∧ KdO prog w fl k v := by
  induction q with
  | nil => intro i v h; simp at h
  | @cons v0 vs k0 ks hk _ ih =>
    intro i v h
    cases i with
    | zero => exact ⟨k0, rfl, by rw [List.getElem?_cons_zero] at h; exact Option.some.inj h ▸ hk⟩
    | succ i => exact ih (by rwa [List.getElem?_cons_succ] at h)
section
variable {prog : Program} {w : World} {A : Around} {h₀ : Heap} {L : Addr} {m : Str → Option Value} {env : Env} {elt : PySem.Expr} {x : Str} {scope : Scope} {cl : List (Str × Addr)} {s : Shared} {Fin : List Value → List (Addr × Obj) → Prop}
theorem toks_list {lf : Addr} {its : List Value} {own news : Led} {j : Nat} {wo : Str} (hq : QIs prog w own its (List.replicate j (Kd.tok 7 wo))) (hs : ∀ p ∈ own, p ∈ news)
    (turn : ∀ d o t1 t2 I oI C oC D m₂ ys h tk (E' : Value → Shared → Prop), (d, o) ∈ news → (d == sysModules) = false → o.IsDictOf (PySem.strKind prog w) [(Str.ofString "type", .int 7 t1), (Str.ofString "data", .str wo t2)] → LCg.NsObj oC m₂ → m₂ x = some (.ref d) → Fr h₀ L h m → News h₀ L h ((I, oI) :: (C, oC) :: (D, LCg.lst ys) :: news) → LCg.Off3 I C D news → ((@Ne Nat I C) ∧ (@Ne Nat I D) ∧ (@Ne Nat C D)) → KPfMark →
      wpAny (model prog w) A (eval elt (compEnvC scope cl C env)) (LCg.CompEnd h₀ L m { s with heap := h, toks := tk } I oI C oC D (LCg.lst ys) (LCg.SrcAt h₀ lf its.toArray) (fun v news' => KCtEl news wo v news')) E' { s with heap := h, toks := tk })
    (fin : ∀ ys, StrsAre ys (List.replicate j wo) → Fin ys news) :
    LCg.CompRest prog w A h₀ L m env elt x scope cl s (LCg.SrcAt h₀ lf its.toArray) (fun i v => its.toArray[i]? = some v) Fin its.toArray.size 0 [] news := by
  have hlen : its.length = j := hq.len.trans List.length_replicate
  have key : ∀ (k i : Nat) (ys : List Value), i + k = j → StrsAre ys (List.replicate i wo) → LCg.CompRest prog w A h₀ L m env elt x scope cl s (LCg.SrcAt h₀ lf its.toArray) (fun i v => its.toArray[i]? = some v) Fin k i ys news := by
    intro k
    induction k with
    | zero =>
      intro i ys hij hy
      have e : i = j := by omega
      exact LCg.CompRest.zero (fin ys (e ▸ hy))
    | succ k ih =>
      intro i ys hij hy
      refine LCg.CompRest.succ ?_
      intro v I oI C oC D m₂ h tk E' hv hC hx F N off ne
      obtain ⟨kd, hk, hkd⟩ := hq.at (i := i) (v := v) (by simpa using hv)
      rw [List.getElem?_replicate, if_pos (by omega)] at hk
      cases hk
      obtain ⟨d, o, rfl, hm, hl, t1, t2, hd⟩ := hkd
      refine wpAny_mono (turn d o t1 t2 I oI C oC D m₂ ys h tk E' (hs _ hm) hl hd hC hx F N off ne True.intro) (fun v2 s₂ hq2 => ?_) fun _ _ e => e
      obtain ⟨h', tk', nw, e, F', N', off', hS, rfl, t, rfl⟩ := hq2
      refine ⟨h', tk', _, e, F', N', off', hS, ih (i + 1) _ (by omega) ?_⟩
      rw [List.replicate_succ']
      exact kct_snoc hy
  have hsz : its.toArray.size = j := by rw [List.size_toArray, hlen]
  rw [hsz]
  exact key j 0 [] (by omega) .nil
theorem toks_el {lf : Addr} {its : List Value} {news nl : Led} {nf : Nat} {wo : Str} {t : Tok} {I C D : Addr} {oI oC : Obj} {ys : List Value} {h' : Heap} {tk : Nat} {s₁ : Shared}
    (hm : (lf, W.listOf its.toArray nf) ∈ news) (F : Fr h₀ L h' m) (N : News h₀ L h' nl) (hn : ∀ p ∈ (I, oI) :: (C, oC) :: (D, LCg.lst ys) :: news, p ∈ nl) (off : LCg.Off3 I C D news) :
    LCg.CompEnd h₀ L m s₁ I oI C oC D (LCg.lst ys) (LCg.SrcAt h₀ lf its.toArray) (fun v news' => KCtEl news wo v news') (.str wo t) { s₁ with heap := h', toks := tk } :=
  LCg.CompEnd.intro F N news hn off (.inr ⟨_, hm, rfl, nf, rfl⟩) ⟨rfl, t, rfl⟩
end
end Mine.Internal
namespace Mine.Internal
theorem QIs.pop {prog : Program} {w : World} {fl : Led} {k : Kd} : ∀ {adds : List Value} {ks : List Kd}, QIs prog w fl adds (ks ++ [k]) → ∃ as v, adds = as ++ [v] ∧ QIs prog w fl as ks ∧ KdO prog w fl k v
  | _, [], h => by
    cases h with
    | cons hk h2 => cases h2; exact ⟨[], _, rfl, .nil, hk⟩
  | _, _ :: _, h => by
    cases h with
    | @cons v vs _ _ hk h2 =>
      obtain ⟨as, u, rfl, q, r⟩ := QIs.pop h2
      exact ⟨v :: as, u, rfl, .cons hk q, r⟩
section
variable {prog : Program} {w : World} {K : Ks} {Z : Kz} {m7 : Tok} {tq : Addr} {fa : Bool} {T V : List Nat} {kk n0 i : Nat}
theorem Ct.next {y9 y' : St} {v' : Value} {ad9 adds : List Value} {n' j9 j k' : Nat} {sg9 sg' : Str} {ts' : Tok} {ow9 fl : Led} {p8 t s' : List Nat} (ok : y'.ok K.src) (hsu : y9.rem K.src <:+ T) (hln : (y9.rem K.src).length + i ≤ n0) (how : ∀ p ∈ ow9, @LT.lt Nat _ tq p.1) (her : @LT.lt Nat _ K.er tq)
    (e8 : y9.rem K.src = p8 ++ 38 :: t) (hV : V = sg9.cps.toList ++ (p8 ++ ((ceN none fa t).out ++ s'))) (hk : kk = j9 + (j + k')) (hR : Rr fa (ceN none fa t).rem s' k') (hrem : y'.rem K.src = (ceN none fa t).rem) (hsg : sg'.cps.toList = (sg9.cps.toList ++ p8) ++ (ceN none fa t).out)
    (hq9 : QIs prog w ow9 ad9 (List.replicate j9 (Kd.tok 7 woN))) (hq' : QIs prog w fl adds (List.replicate j (Kd.tok 7 woN))) (hfl : ∀ p ∈ fl, @LT.lt Nat _ tq p.1) : Ct.P prog w K tq fa T V kk n0 (i + 1) ⟨y', v', ad9 ++ adds, n', sg', ts', fl ++ ow9⟩ := by
  have h1 : (ceN none fa t).rem <:+ y9.rem K.src := by rw [e8]; exact ceN_suf.trans ((List.suffix_cons 38 t).trans (List.suffix_append _ _))
  have h2 : (ceN none fa t).rem.length + 1 ≤ (y9.rem K.src).length := by
    have := (ceN_suf (al := none) (fa := fa) (T := t)).length_le
    rw [e8, List.length_append, List.length_cons]; omega
  refine ⟨ok, ⟨s', k', j9 + j, by dsimp only; rw [hrem]; exact hR, by dsimp only; rw [hsg, hV]; simp only [List.append_assoc], by omega, ?_⟩, by dsimp only; rw [hrem]; exact h1.trans hsu, by dsimp only; rw [hrem]; omega, fun p hp => (List.mem_append.mp hp).elim (hfl p) (how p), her⟩
  dsimp only
  rw [show List.replicate (j9 + j) (Kd.tok 7 woN) = List.replicate j9 (Kd.tok 7 woN) ++ List.replicate j (Kd.tok 7 woN) from List.replicate_append_replicate.symm]
  exact (hq9.mono fun p hp => List.mem_append_right _ hp).app (hq'.mono fun p hp => List.mem_append_left _ hp)
theorem Ct.endT {G : Heap → Prop} {L : Addr} {x : Str} {m₀ m' : Str → Option Value} {c : Ct} {own nl fl : Led} {s₁ : Shared} {g2 h' : Heap} {tk : Nat} {y' : St} {v' : Value} {ad' : List Value} {n' : Nat} {sg' : Str} {ts' : Tok}
    (hG : G g2) (F : Fr g2 L h' m') (N : News g2 L h' nl) (hn : ∀ p ∈ Ct.led w K Z m7 tq ⟨y', v', ad', n', sg', ts', fl ++ c.own⟩ ++ own, p ∈ nl) (hfl : ∀ p ∈ fl, ∀ q ∈ own, @LT.lt Nat _ q.1 p.1)
    (hm : m' (Str.ofString "signs") = some (.str sg' ts')) (hr : ∀ z, z ≠ x → z ≠ Str.ofString "signs" → m' z = m₀ z) (hP : Ct.P prog w K tq fa T V kk n0 (i + 1) ⟨y', v', ad', n', sg', ts', fl ++ c.own⟩) :
    GrowTE G L x m₀ (fun c => [("signs", .str c.sg c.tsg)]) [] (Ct.led w K Z m7 tq) (Ct.P prog w K tq fa T V kk n0) own c i s₁ { s₁ with heap := h', toks := tk } := by
  refine ⟨_, g2, h', tk, m', nl, rfl, hG, F, N, hn, fun p hp => ?_, fun p hp => ?_, fun z hz h2 _ => hr z hz (h2 _ (.head _)), hP⟩
  · rcases List.mem_cons.mp hp with rfl | hp
    · exact .inl ⟨_, .head _, rfl⟩
    rcases List.mem_cons.mp hp with rfl | hp
    · exact .inl ⟨_, .tail _ (.head _), rfl⟩
    rcases List.mem_cons.mp hp with rfl | hp
    · exact .inl ⟨_, .tail _ (.tail _ (.head _)), rfl⟩
    rcases List.mem_append.mp hp with hp | hp
    · rcases List.mem_append.mp hp with hp | hp
      · exact .inr fun q hq => hfl p hp q hq
      · exact .inl ⟨p, .tail _ (.tail _ (.tail _ (List.mem_append_left _ hp))), rfl⟩
    · obtain ⟨q, hq, e⟩ := led_same (w := w) (K := K) (y := c.y) hp
      exact .inl ⟨q, .tail _ (.tail _ (.tail _ (List.mem_append_right _ hq))), e⟩
  · cases List.mem_singleton.mp hp; exact hm
theorem ld_end {fs : List Addr} {g g' : Heap} {s₁ : Shared} {L' a D : Addr} {m' : Str → Option Value} {l' : Led} {h' : Heap} {tk' : Nat} {sg : Str} {ts : Tok} {ys : List Value} (hV : sg.cps.toList = V) (hy : StrsAre ys (List.replicate kk woN))
    (T : KtsTurn fs g g') (F : Fr g' L' h' m') (N : News g' L' h' l') (h1 : (a, tupO [.str sg ts, .ref D]) ∈ l') (h2 : (D, LCg.lst ys) ∈ l') : CEndS fs g [] (fun v fr l => LdP V kk v fr l) s₁ (.ref a) { s₁ with heap := h', toks := tk' } :=
  cendS (l := []) T F N (fun p hp => by
    rw [List.append_nil] at hp
    rcases List.mem_cons.mp hp with rfl | hp
    · exact h1
    · rw [List.mem_singleton.mp hp]; exact h2) (fun _ _ _ hq => nomatch hq) ⟨rfl, a, D, sg, ts, ys, ys.length, rfl, rfl, hV, hy⟩
end
end Mine.Internal

end
section
set_option tactic.hygienic false
open PySem PySem.W PyProof.Rows PySem.Calls PySem.Spec PyProof.V
namespace Mine.Internal
section
variable {fa : Bool} {V r9 r8 r7 p8 s9 g9 : List Nat} {kk j9 kr9 : Nat}
theorem ld_none (e : r9 = p8 ++ r8) (hal : ∀ c ∈ p8, (fun c => c == 38) c = false) (e8 : r8 = []) (hR : Rr fa r9 s9 kr9) (hV : V = g9 ++ s9) (hk : kk = j9 + kr9) : g9 ++ p8 = V ∧ kk = j9 := by
  rw [e] at hR
  obtain ⟨s', e1, r'⟩ := hR.plain_inv (not38 hal)
  rw [e8] at r'
  obtain ⟨e2, e3⟩ := r'.nil_inv
  rw [e2, List.append_nil] at e1
  exact ⟨by rw [hV, e1], by omega⟩
theorem ld_amp {c1 : Nat} (e : r9 = p8 ++ r8) (hal : ∀ c ∈ p8, (fun c => c == 38) c = false) (hst : ∀ c t, r8 = c :: t → (fun c => c == 38) c = true) (e8 : r8 = c1 :: r7) (hR : Rr fa r9 s9 kr9) (hV : V = g9 ++ s9) (hk : kk = j9 + kr9) :
    ∃ j s' k', r9 = p8 ++ 38 :: r7 ∧ (ceN none fa r7).ks = List.replicate j (Kd.tok 7 woN) ∧ Rr fa (ceN none fa r7).rem s' k' ∧ V = g9 ++ (p8 ++ ((ceN none fa r7).out ++ s')) ∧ kk = j9 + (j + k') := by
  have e0 : c1 = 38 := eq_of_beq (hst c1 r7 e8)
  subst e0
  rw [e8] at e
  have hR0 := hR
  rw [e] at hR
  obtain ⟨s1, e1, r1⟩ := hR.plain_inv (not38 hal)
  obtain ⟨j, s', k', h1, h2, h3, h4⟩ := r1.amp_inv
  exact ⟨j, s', k', e, h1, h2, by rw [hV, e1, h3], by omega⟩
end
theorem ld_split {fa : Bool} {V p8 s9 g9 : List Nat} {kk j9 kr9 : Nat} {src : Str} {y9 y8 y7 : St} {v : Value} (hx : CvIs src y7 v (y8.rem src)) (e : y9.rem src = p8 ++ y8.rem src) (hal : ∀ c ∈ p8, (fun c => c == 38) c = false) (hst : ∀ c t, y8.rem src = c :: t → (fun c => c == 38) c = true) (hR : Rr fa (y9.rem src) s9 kr9) (hV : V = g9 ++ s9) (hk : kk = j9 + kr9) :
    (v = .none ∧ g9 ++ p8 = V ∧ kk = j9) ∨ ∃ t1, v = .str ⟨#[38]⟩ t1 ∧ ∃ j s' k', y9.rem src = p8 ++ 38 :: y7.rem src ∧ (ceN none fa (y7.rem src)).ks = List.replicate j (Kd.tok 7 woN) ∧ Rr fa (ceN none fa (y7.rem src)).rem s' k' ∧ V = g9 ++ (p8 ++ ((ceN none fa (y7.rem src)).out ++ s')) ∧ kk = j9 + (j + k') := by
  rcases hx with ⟨h1, h2, h3⟩ | ⟨c1, t1, h1, h2, _, _⟩
  · exact .inl ⟨h1, ld_none e hal h2 hR hV hk⟩
  · have e0 : c1 = 38 := eq_of_beq (hst c1 _ h2)
    subst e0
    exact .inr ⟨t1, h1, ld_amp e hal hst h2 hR hV hk⟩
section
variable {prog : Program} {w : World} {A : Around} {h₀ : Heap} {L : Addr} {m : Str → Option Value} {env : Env} {elt : PySem.Expr} {x : Str} {scope : Scope} {cl : List (Str × Addr)} {s : Shared} {Fin : List Value → List (Addr × Obj) → Prop}
theorem toks_list2 {lf : Addr} {its : List Value} {own news : Led} {j : Nat} {wo : Str} (hq : QIs prog w own its (List.replicate j (Kd.tok 7 wo))) (hs : ∀ p ∈ own, p ∈ news)
    (turn : ∀ d o t1 t2 I oI C oC D m₂ ys h tk (E' : Value → Shared → Prop), (d == sysModules) = false → o.IsDictOf (PySem.strKind prog w) [(Str.ofString "type", .int 7 t1), (Str.ofString "data", .str wo t2)] → LCg.NsObj oC m₂ → m₂ x = some (.ref d) → Fr h₀ L h m → News h₀ L h ((d, o) :: (I, oI) :: (C, oC) :: (D, LCg.lst ys) :: news) → LCg.Off3 I C D news → ((@Ne Nat I C) ∧ (@Ne Nat I D) ∧ (@Ne Nat C D)) → KPfMark →
      wpAny (model prog w) A (eval elt (compEnvC scope cl C env)) (LCg.CompEnd h₀ L m { s with heap := h, toks := tk } I oI C oC D (LCg.lst ys) (LCg.SrcAt h₀ lf its.toArray) (fun v news' => KCtEl news wo v news')) E' { s with heap := h, toks := tk })
    (fin : ∀ ys, StrsAre ys (List.replicate j wo) → Fin ys news) :
    LCg.CompRest prog w A h₀ L m env elt x scope cl s (LCg.SrcAt h₀ lf its.toArray) (fun i v => its.toArray[i]? = some v) Fin its.toArray.size 0 [] news :=
  toks_list hq hs (fun d o t1 t2 I oI C oC D m₂ ys h tk E' hm hl hd hC hx F N off ne mk => turn d o t1 t2 I oI C oC D m₂ ys h tk E' hl hd hC hx F (fun p hp => by
    rcases List.mem_cons.mp hp with rfl | hp
    · exact N _ (.tail _ (.tail _ (.tail _ hm)))
    · exact N p hp) off ne mk) fin
end
section
variable {prog : Program} {w : World} {own : Led} {ad : List Value} {fa : Bool} {T V : List Nat} {kk j k : Nat}
theorem ad_size (hR : Rr fa T V kk) (hT : T.length ≤ 100) (hk : kk = j + k) (hq : QIs prog w own ad (List.replicate j (Kd.tok 7 woN))) : ad.length ≤ 100 := by
  have h1 := hR.len.2
  have h2 : ad.length = j := hq.len.trans List.length_replicate
  omega
end
theorem ld_end2 {V p8 : List Nat} {kk j : Nat} {fs : List Addr} {g g' : Heap} {s₁ : Shared} {L' a D : Addr} {m' : Str → Option Value} {l' : Led} {h' : Heap} {tk' : Nat} {sg9 : Str} {ts : Tok} {ys : List Value} (hV : sg9.cps.toList ++ p8 = V) (hk : kk = j) (hy : StrsAre ys (List.replicate j woN))
    (T : KtsTurn fs g g') (F : Fr g' L' h' m') (N : News g' L' h' l') (h1 : (a, tupO [.str (sg9 ++ ⟨p8.toArray⟩) ts, .ref D]) ∈ l') (h2 : (D, LCg.lst ys) ∈ l') : CEndS fs g [] (fun v fr l => LdP V kk v fr l) s₁ (.ref a) { s₁ with heap := h', toks := tk' } :=
  ld_end (by rw [toList_app]; exact hV) (hk ▸ hy) T F N h1 h2
theorem own_zd1 {w : World} {K : Ks} {x : St} {tq zd : Addr} {o : Obj} {own : Led} (h1 : @LT.lt Nat _ zd tq) (h : ∀ p ∈ own, @LT.lt Nat _ tq p.1) (k : K.ord) (hz : @LT.lt Nat _ zd K.sd) (he : @LT.lt Nat _ K.er tq) : ∀ q ∈ (tq, o) :: (own ++ K.led w x), q.1 ≠ zd := fun q hq => by
  rcases List.mem_cons.mp hq with rfl | hq
  · exact Nat.ne_of_gt h1
  · exact own_zd h k hz he q hq
theorem all_by {N o : Led} {d : Addr} (h : ∀ p ∈ N, p.1 < d) (s : ∀ p ∈ o, p ∈ N) : ∀ p ∈ o, @LT.lt Nat _ p.1 d := fun p hp => h p (s p hp)
section
variable {r9 r7 p8 T : List Nat}
theorem r7_len (e8 : r9 = p8 ++ 38 :: r7) (hs : r9 <:+ T) (hT : T.length ≤ 100) : r7.length ≤ 640 := by
  have h1 := hs.length_le
  rw [e8, List.length_append, List.length_cons] at h1; omega
theorem r7_35 (e8 : r9 = p8 ++ 38 :: r7) (hs : r9 <:+ T) (h : ∀ c ∈ T, c ≠ 35) : ∀ t, r7 ≠ 35 :: t := fun t e => h 35 (hs.subset (by rw [e8, e]; exact List.mem_append_right _ (.tail _ (.head _)))) rfl
theorem v7_ok {sg9 : Str} (hsf : sg9.length ≤ 300) (e8 : r9 = p8 ++ 38 :: r7) (hs : r9 <:+ T) (hT : T.length ≤ 100) : (sg9 ++ (⟨p8.toArray⟩ : Str)).length ≤ 100000 := by
  have h1 := hs.length_le
  rw [e8, List.length_append, List.length_cons] at h1
  rw [← len_toList, toList_app, List.length_append, len_toList]
  show sg9.length + p8.length ≤ _
  omega
end
theorem kst_tw1 {u m0 : Str → Option Value} {z k : Str} {v : Value} (h : z ≠ k) : kstB (fun z => if ([] : List Str).contains z = true then u z else m0 z) [(k, v)] z = m0 z := (if_neg h).trans rfl
theorem fl_gt {fl N : Led} {a : Addr} {o : Obj} (h : ∀ p ∈ fl, ∀ r ∈ N, @LT.lt Nat _ r.1 p.1) (hm : (a, o) ∈ N) : ∀ p ∈ fl, @LT.lt Nat _ a p.1 := fun p hp => h p hp _ hm
theorem fl_own {fl N own : Led} (h : ∀ p ∈ fl, ∀ r ∈ N, @LT.lt Nat _ r.1 p.1) (s : ∀ p ∈ own, p ∈ N) : ∀ p ∈ fl, ∀ q ∈ own, @LT.lt Nat _ q.1 p.1 := fun p hp q hq => h p hp q (s q hq)
theorem ct_sub {own ow fl T : Led} {a b c d e f : Addr × Obj} : ∀ p ∈ (a :: b :: c :: ((fl ++ ow) ++ T)) ++ own, p ∈ a :: b :: c :: d :: e :: f :: ((own ++ ow) ++ (fl ++ T)) := fun p hp => by
  simp only [List.mem_cons, List.mem_append, List.cons_append] at hp ⊢
  rcases hp with h | h | h | ((h | h) | h) | h <;> simp [h]
theorem sgT {v s : Str} {p o : List Nat} (h : v.cps.toList = if true = true then (s ++ (⟨p.toArray⟩ : Str)).cps.toList ++ o else (s ++ (⟨p.toArray⟩ : Str)).cps.toList) : v.cps.toList = (s.cps.toList ++ p) ++ o := by
  rw [if_pos rfl, toList_app] at h; exact h
theorem ksT {prog : Program} {w : World} {fl : Led} {ad : List Value} {R : Ck} {l : List Kd} (h : QIs prog w fl ad (ceKs R true)) (hk : R.ks = l) : QIs prog w fl ad l := by
  have e : ceKs R true = R.ks := if_pos rfl
  rw [e, hk] at h; exact h
section
variable {prog : Program} {w : World} {K : Ks} {Z : Kz} {m7 : Tok} {tq : Addr} {fa : Bool} {T V : List Nat} {kk n0 i : Nat}
theorem Ct.endN {G : Heap → Prop} {L : Addr} {x : Str} {m₀ m' : Str → Option Value} {y9 : St} {v69 : Value} {ad9 : List Value} {n9 : Nat} {sg9 : Str} {ts9 : Tok} {ow9 own nl fl : Led} {s₁ : Shared} {Q : Flow → Shared → Prop} {g2 h' : Heap} {tk : Nat} {y' : St} {v' : Value} {ad' : List Value} {n' : Nat} {sg' : Str} {ts' : Tok}
    (hG : G g2) (F : Fr g2 L h' m') (N : News g2 L h' nl) (hn : ∀ p ∈ Ct.led w K Z m7 tq ⟨y', v', ad', n', sg', ts', fl ++ ow9⟩ ++ own, p ∈ nl) (hfl : ∀ p ∈ fl, ∀ q ∈ own, @LT.lt Nat _ q.1 p.1)
    (hm : m' (Str.ofString "signs") = some (.str sg' ts')) (hr : ∀ z, z ≠ x → z ≠ Str.ofString "signs" → m' z = m₀ z) (hP : Ct.P prog w K tq fa T V kk n0 (i + 1) ⟨y', v', ad', n', sg', ts', fl ++ ow9⟩) :
    GrowT G L x m₀ (fun c => [("signs", .str c.sg c.tsg)]) [] (Ct.led w K Z m7 tq) (Ct.P prog w K tq fa T V kk n0) own ⟨y9, v69, ad9, n9, sg9, ts9, ow9⟩ i s₁ Q .next { s₁ with heap := h', toks := tk } := Ct.endT hG F N hn hfl hm hr hP
end
theorem popF {prog : Program} {w : World} {fl : Led} {ad : List Value} {R : Ck} (h : QIs prog w fl ad (ceKs R false)) : ∃ (as : List Value) (d : Addr) (o : Obj) (ty : Int) (t1 t2 : Tok), ad = as ++ [.ref d] ∧ QIs prog w fl as R.ks ∧ (d, o) ∈ fl ∧ (d == sysModules) = false ∧ o.IsDictOf (PySem.strKind prog w) [(Str.ofString "type", .int ty t1), (Str.ofString "data", .str ⟨R.out.toArray⟩ t2)] := by
  have e : ceKs R false = R.ks ++ [.tok (if spaceB R.out = true then 2 else 1) ⟨R.out.toArray⟩] := if_neg Bool.false_ne_true
  rw [e] at h
  obtain ⟨as, v, e1, q, d, o, rfl, hm, hl, t1, t2, hd⟩ := h.pop
  exact ⟨as, d, o, _, t1, t2, e1, q, hm, hl, hd⟩
theorem sgF {s : Str} {p o : List Nat} : ((s ++ (⟨p.toArray⟩ : Str)) ++ (⟨o.toArray⟩ : Str)).cps.toList = (s.cps.toList ++ p) ++ o := by
  rw [toList_app, toList_app]
theorem sum_fits {sg9 : Str} {r9 r7 p8 T : List Nat} {fa : Bool} (hsf : sg9.length ≤ 300) (e8 : r9 = p8 ++ 38 :: r7) (hs : r9 <:+ T) (hT : T.length ≤ 100) : (sg9 ++ (⟨p8.toArray⟩ : Str)).length + (⟨(ceN none fa r7).out.toArray⟩ : Str).length ≤ 16777216 := by
  have h1 := v7_ok hsf e8 hs hT
  have h2 := r7_len e8 hs hT
  have h3 := ceN_out (al := none) (fa := fa) (T := r7)
  have h4 : (⟨(ceN none fa r7).out.toArray⟩ : Str).length = (ceN none fa r7).out.length := rfl
  omega
theorem own_tq {w : World} {K : Ks} {x : St} {tq a b c : Addr} {oa ob oc : Obj} {own fl : Led} (h1 : @LT.lt Nat _ tq a) (h2 : @LT.lt Nat _ tq b) (h3 : @LT.lt Nat _ tq c) (h : ∀ p ∈ own, @LT.lt Nat _ tq p.1) (h4 : ∀ p ∈ fl, @LT.lt Nat _ tq p.1) (k : K.ord) (he : @LT.lt Nat _ K.er tq) : ∀ q ∈ (a, oa) :: (b, ob) :: (c, oc) :: (own ++ (fl ++ K.led w x)), q.1 ≠ tq := fun q hq => by
  rcases List.mem_cons.mp hq with rfl | hq
  · exact Nat.ne_of_gt h1
  rcases List.mem_cons.mp hq with rfl | hq
  · exact Nat.ne_of_gt h2
  rcases List.mem_cons.mp hq with rfl | hq
  · exact Nat.ne_of_gt h3
  rcases List.mem_append.mp hq with hq | hq
  · exact Nat.ne_of_gt (h q hq)
  rcases List.mem_append.mp hq with hq | hq
  · exact Nat.ne_of_gt (h4 q hq)
  · exact Ks.ne_all k (.inr he) q hq
theorem ct_subF {own ow fl T : Led} {x a b c d e f : Addr × Obj} : ∀ p ∈ (a :: b :: c :: ((fl ++ ow) ++ T)) ++ own, p ∈ x :: a :: b :: c :: d :: e :: f :: ((own ++ ow) ++ (fl ++ T)) := fun p hp => .tail _ (ct_sub p hp)
theorem news_on {h₀ h : Heap} {L : Addr} {e : Addr × Obj} {N : Led} (F : News h₀ L h N) (hm : e ∈ N) : News h₀ L h (e :: N) := fun p hp => by
  rcases List.mem_cons.mp hp with rfl | hp
  · exact F _ hm
  · exact F p hp
theorem pop_fits {prog : Program} {w : World} {o1 o2 : Led} {ad as : List Value} {d : Value} {fa : Bool} {T V : List Nat} {ks : List Kd} {kk j i k : Nat} (hR : Rr fa T V kk) (hT : T.length ≤ 100) (hk : kk = j + (i + k)) (hq : QIs prog w o1 ad (List.replicate j (Kd.tok 7 woN))) (hq2 : QIs prog w o2 as ks) (e : ks = List.replicate i (Kd.tok 7 woN)) : (((ad ++ as) ++ [d]).toArray.toList).length ≤ sizeLine := by
  have h1 := hR.len.2
  have h2 : ad.length = j := hq.len.trans List.length_replicate
  subst e
  have h3 : as.length = i := hq2.len.trans List.length_replicate
  rw [sizeLine_eq]
  show ((ad ++ as) ++ [d]).length ≤ _
  rw [List.length_append, List.length_append, List.length_singleton]
  omega
end Mine.Internal

end
section
set_option tactic.hygienic false
open PySem PySem.W PyProof.Rows PySem.Calls PySem.Spec PyProof.V
namespace Mine.Internal
theorem strs_of : ∀ {vs : List Value} {ss : List Str}, vs.length = ss.length → (∀ (j : Nat) (v : Value), vs[j]? = some v → ∃ k t, ss[j]? = some k ∧ v = .str k t) → StrsAre vs ss
  | [], [], _, _ => .nil
  | [], _ :: _, h, _ => nomatch h
  | _ :: _, [], h, _ => nomatch h
  | v :: vs, k :: ss, h, f => by
    obtain ⟨k', t, e, rfl⟩ := f 0 v rfl
    have e2 : k = k' := Option.some.inj e
    subst e2
    exact .cons _ _ (strs_of (Nat.succ.inj h) fun j u hu => f (j + 1) u hu)
theorem entK_len : entK.length = 43 := by decide +kernel
section
variable {prog : Program} {w : World} {A : Around} {E : Value → Shared → Prop} {s : Shared} {h₀ : Heap} {L q : Addr} {m : Str → Option Value} {news : Led} {K : Frag}
theorem sorted_ent {Q : Value → Shared → Prop} (hh : A.handled = none) (X : K.In h₀) (e : KTD.tabLook KTD.flatLooks (fun b => K.lookup b) q entT = true)
    (hhash : KTD.hashesOf (fun b => K.lookup b) q = entT.map fun p => (PySem.strKind prog w).hash p.1) (F : Fr h₀ L s.heap m) (N : News h₀ L s.heap news)
    (h : ∀ (B : Addr) (vs : List Value) (ss : List Str) (n : Nat) (h' : Heap) (tk : Nat), StrsAre vs ss → ss.Perm entK → (∀ p ∈ news, p.1 < B) → Fr h₀ L h' m → News h₀ L h' ((B, W.listOf vs.toArray n) :: news) → Q (.ref B) { s with heap := h', toks := tk }) :
    wpAny (model prog w) A (call (.builtin "sorted") [.ref q]) Q E s := by
  have hkeys : entT.map (·.1) = entK := by decide +kernel
  have T : StrTab prog w s.heap q entD := ent_tab F X e hhash
  obtain ⟨lo, kvs, hd0, hf⟩ := id T
  obtain ⟨ep, hat⟩ := hd0.dictAt
  have hlen : kvs.length = entK.length := by rw [show kvs.length = entD.length from (by first | exact hf.length | exact hf.length.symm)]; show (entT.map _).length = _; rw [← hkeys, List.length_map, List.length_map]
  have hkv : ∀ (i : Nat) (k : Str) (v : Value), kvs[i]? = some (k, v) → entK[i]? = some k := by
    intro i k v h
    obtain ⟨dv, hD, _⟩ := hf.at h
    have h2 : (entT.map fun p => (PyData.str p.1, p.2))[i]? = some (PyData.str k, dv) := hD
    rw [List.getElem?_map] at h2
    rw [← hkeys, List.getElem?_map]
    cases hg : entT[i]? with
    | none => rw [hg] at h2; cases h2
    | some y =>
      rw [hg] at h2
      injection h2 with h2
      injection h2 with h2 _
      injection h2 with h2
      exact congrArg some h2
  refine kdu_sorted (kdl_dict (knd := PySem.strKind prog w) (kvs := kvs) (ep := ep) lo) hh F N hat (by rw [hlen, entK_len, sizeLine_eq]; decide) fun B h' tk vs F' N' l1 hl hv => ?_
  have hS : StrsAre vs entK := strs_of (hl.trans hlen) fun j v hj => by
    obtain ⟨k, x, hx, hk⟩ := hv j v hj
    obtain ⟨t, rfl⟩ := isStr_inv hk
    exact ⟨k, t, hkv _ _ _ hx, rfl⟩
  have z := N' _ (.head _)
  have hvl : vs.length = 43 := (hl.trans hlen).trans entK_len
  have hb : ∀ p ∈ news, p.1 ≠ B := fun p hp => Nat.ne_of_lt (l1 p hp)
  refine wpAny_call_entry PyProof.Rows.slot_list_sort ⟨_, z.1, rfl⟩ PyProof.Rows.entry_list_sort (list_sort_treeK strKind_oneLt (n := 0) (vs := vs) z.1 hS.keysOf (fun v₁ v₂ rest e => keyKind_strs (by rw [← e]; exact hS)) (by rw [hvl]; decide) fun st' hp hs => ⟨.none, rfl, ?_⟩) (PyProof.Rows.args_list_sort _)
  obtain ⟨ss', g1, g2, _⟩ := sorted_out_str hS hp hs
  have F1 : Fr h₀ L (h'.update B (Obj.mapSeq fun _ => (#[] : Array Value))) m := F'.change (Heap.SameBut.update ..) z.2.1 z.2.2
  have N1 := ki_turn (pre := []) (fun _ => (#[] : Array Value)) (its' := #[]) N' (fun _ h => nomatch h) hb rfl rfl
  have N2 := News.grown N1 fun _ _ e => Heap.get?_push_of_some (seqObj "tuple" vs.toArray 0) e
  have N3 := News.grown N2 fun _ _ e => Heap.get?_push_of_some (seqObj "list" #[] 0) e
  have N4 := ki_turn (pre := []) (fun _ => (arrOf st').map (·.2)) (its' := (arrOf st').map (·.2)) N3 (fun _ h => nomatch h) hb rfl rfl
  have F4 := ((F1.push (seqObj "tuple" vs.toArray 0)).push (seqObj "list" #[] 0)).change (h' := sortedHeap h' B vs ((arrOf st').map (·.2))) (Heap.SameBut.update ..) z.2.1 z.2.2
  have e0 : ((arrOf st').map (fun x => x.2)).toList.toArray = (arrOf st').map (fun x => x.2) := Array.toArray_toList
  have N5 : ∃ n, News h₀ L (sortedHeap h' B vs ((arrOf st').map (fun x => x.2))) ((B, W.listOf ((arrOf st').map (fun x => x.2)).toList.toArray n) :: news) := ⟨_, by rw [e0]; exact N4⟩
  obtain ⟨n5, N5⟩ := N5
  exact h B ((arrOf st').map (fun x => x.2)).toList ss' n5 _ tk g1 g2 l1 F4 N5
end
section
variable {prog : Program} {w : World} {A : Around} {E : Value → Shared → Prop} {Q : Flow → Shared → Prop} {s : Shared} {env : Env} {h₀ : Heap} {x : Str} {body : List Stmt} {m₀ : Str → Option Value}
noncomputable def IntEnd {σ : Type} (h₀ : Heap) (L : Addr) (x : Str) (m₀ : Str → Option Value) (nl : Led) (ps : σ → List (Str × Value)) (stored : List Str) (P : Nat → σ → Prop) (i : Nat) (s₁ s₂ : Shared) : Prop :=
  ∃ (c : σ) (h' : Heap) (tk : Nat) (m' : Str → Option Value) (news' : Led), s₂ = { s₁ with heap := h', toks := tk } ∧ Fr h₀ L h' m' ∧ News h₀ L h' news' ∧ (∀ p ∈ nl, p ∈ news') ∧ (∀ p ∈ ps c, m' p.1 = some p.2) ∧ (∀ z, z ≠ x → (∀ p ∈ ps c, z ≠ p.1) → stored.contains z = false → m' z = m₀ z) ∧ P (i + 1) c
noncomputable def IntGo {σ : Type} (h₀ : Heap) (L : Addr) (x : Str) (m₀ : Str → Option Value) (nl : Led) (ps : σ → List (Str × Value)) (stored : List Str) (P : Nat → σ → Prop) (i : Nat) (s₁ : Shared) (Q : Flow → Shared → Prop) (f : Flow) (s₂ : Shared) : Prop :=
  match f with
  | .ret v => Q (.ret v) s₂
  | .brk => Q .next s₂
  | _ => IntEnd h₀ L x m₀ nl ps stored P i s₁ s₂
theorem loop_ints {σ : Type} {l : Addr} {vs : List Value} {ns : List Int} {nn : Nat} {nl : Led} (ps : σ → List (Str × Value)) (stored : List Str) (P : Nat → σ → Prop) (c₀ : σ) (hh : A.handled = none) (hm : (l, W.listOf vs.toArray nn) ∈ nl) (hi : IntsAre vs ns)
    (F : Fr h₀ env.locals s.heap m₀) (N : News h₀ env.locals s.heap nl) (hk : ∀ p ∈ ps c₀, m₀ p.1 = some p.2) (hp : P 0 c₀)
    (turn : ∀ (c : σ) i n t (u : Str → Option Value) h tk own, i < ns.length → P i c →
      Fr h₀ env.locals h (fun y => if y = x then some (.int n t) else kstB (fun z => if stored.contains z then u z else m₀ z) (ps c) y) → News h₀ env.locals h (nl ++ own) →
      wpAny (model prog w) A (execs body env) (IntGo h₀ env.locals x m₀ (nl ++ own) ps stored P i { s with heap := h, toks := tk } Q) E { s with heap := h, toks := tk })
    (done : ∀ (c : σ) (u : Str → Option Value) h tk, P ns.length c → Fr h₀ env.locals h (fun y => if y = x then u y else kstB (fun z => if stored.contains z then u z else m₀ z) (ps c) y) → News h₀ env.locals h nl → Q .next { s with heap := h, toks := tk }) :
    wpAny (model prog w) A (pyIter (.ref l)) (fun it s₂ => LoopAtV prog w A h₀ env x body Q E it s₂) E s := by
  refine kst_listL (σ := σ) (fun _ => nl) ps (fun _ => True) stored (fun pre c => P pre.length c) c₀ hh (fun _ => hm) hi F N trivial hk hp ?_ fun c u h tk _ hp' F' N' => done c u h tk hp' F' N'
  intro c pre post n t u h tk own hns hmem hoff _ hp' F' N'
  have hlen : pre.length < ns.length := by rw [hns, List.length_append, List.length_cons]; omega
  refine wpAny_mono (turn c pre.length n t u h tk own hlen hp' F' N') (fun f s₂ hf => ?_) fun _ _ e => e
  have fin : IntEnd h₀ env.locals x m₀ (nl ++ own) ps stored P pre.length { s with heap := h, toks := tk } s₂ → InvEndN h₀ env.locals (KstS (fun _ => nl) ps (fun _ => True) x stored m₀ (fun pre c => P pre.length c) (pre ++ [n])) own (nl.map (·.1)) { s with heap := h, toks := tk } s₂ := by
    rintro ⟨c', h', tk', m', news', e, F2, N2, hn, h1, h2, h3⟩
    exact ⟨h', tk', m', news', nl, e, F2, N2, fun p hp => hn p (List.mem_append_left _ hp), fun p hp => hn p (List.mem_append_right _ hp), rfl, c', rfl, trivial, h1, h2, by show P (pre ++ [n]).length c'; rw [List.length_append]; exact h3⟩
  cases f with
  | ret v => exact hf
  | brk => exact hf
  | next => exact fin hf
  | cont => exact fin hf
theorem int_end {σ : Type} {ps : σ → List (Str × Value)} {stored : List Str} {P : Nat → σ → Prop} {i : Nat} {L : Addr} {nl news' : Led} {s₁ : Shared} {h' : Heap} {tk : Nat} {m' : Str → Option Value} {Q : Flow → Shared → Prop} (c : σ) (F : Fr h₀ L h' m') (N : News h₀ L h' news') (hn : ∀ p ∈ nl, p ∈ news') (hk : ∀ p ∈ ps c, m' p.1 = some p.2)
    (hr : ∀ z, z ≠ x → (∀ p ∈ ps c, z ≠ p.1) → stored.contains z = false → m' z = m₀ z) (hp : P (i + 1) c) : IntGo h₀ L x m₀ nl ps stored P i s₁ Q .next { s₁ with heap := h', toks := tk } := ⟨c, h', tk, m', news', rfl, F, N, hn, hk, hr, hp⟩
end
theorem modN {prog : Program} {w : World} {A : Around} {E : Value → Shared → Prop} {s : Shared} {b k : Int} {t u : Tok} {n : Nat} {Q : Value → Shared → Prop} (hb : b = ((n : Nat) : Int)) (hn : 0 < n) (h : ∀ (j : Nat), j < n → Q (.int ((j : Nat) : Int) s.toks) { s with toks := s.toks + 1 }) : wpAny (model prog w) A (binaryOp .Mod (.int k t) (.int b u)) Q E s := by
  subst hb
  refine mod_int' (by omega) ?_
  have h1 : 0 ≤ k.fmod ((n : Nat) : Int) := Int.fmod_nonneg_of_pos k (by omega)
  have h2 : k.fmod ((n : Nat) : Int) < ((n : Nat) : Int) := Int.fmod_lt_of_pos k (by omega)
  have := h (k.fmod ((n : Nat) : Int)).toNat (by omega)
  rwa [Int.toNat_of_nonneg h1] at this
section
variable {prog : Program} {w : World} {A : Around} {E : Value → Shared → Prop} {s : Shared} {h₀ : Heap} {L : Addr} {m : Str → Option Value} {news : Led}
theorem item_strs {value slice : PySem.Expr} {q : Addr} {vs : List Value} {ss : List Str} {n j : Nat} {u : Tok} {Q : Value → Shared → Prop} (N : News h₀ L s.heap news) (hm : (q, W.listOf vs.toArray n) ∈ news) (hS : StrsAre vs ss) (hj : j < ss.length) (h6 : ss.length ≤ 1000) (h : ∀ x t, x ∈ ss → Q (.str x t) s)
    (hs : subscripted slice false (.ref q) (.int ((j : Nat) : Int) u) = operate [.ref q, .int ((j : Nat) : Int) u] (getItem (.ref q) (.int ((j : Nat) : Int) u)) := by with_unfolding_all rfl) :
    wpAny (model prog w) A (subscriptTail value slice (.ref q) (.int ((j : Nat) : Int) u)) Q E s := by
  obtain ⟨t, ht⟩ := hS.get j ss[j] (by simp [hj])
  exact tail_any (News.isList N hm).typeIs slot_list_getitem.lookup (wpAny_getItem_list (News.isList N hm) (Int.natCast_nonneg _) (by omega) (x := .str ss[j] t) (by simpa using ht) (h _ _ (List.getElem_mem hj))) hs
theorem notin_list {q : Addr} {items : List Value} {n : Nat} {x : Str} {t : Tok} {b : Bool} {Q : Value → Shared → Prop} (N : News h₀ L s.heap news) (hm : (q, W.listOf items.toArray n) ∈ news) (hi : ∀ y ∈ items, ∃ z u, y = .str z u)
    (hb : items.any (eltE (.str x)) = b) (h : Q (.bool (!b)) s) : wpAny (model prog w) A (compareOp .NotIn (.str x t) (.ref q)) Q E s := by
  refine SeqAt.notIn_listAt (items := items.toArray) (eltE (.str x)) (News.isList N hm) (fun y hy => ?_) ?_
  · obtain ⟨z, u, rfl⟩ := hi y (by simpa using hy)
    exact keq_flat (Flat.str _ _) (Flat.str _ _)
  · rw [List.any_toArray, hb]; exact h
end
structure Wc where
  x : Str
  tx : Tok
  v : Str
  tv : Tok
  k : Nat
  tk : Tok
noncomputable abbrev okD (d : Nat) : Prop := d < 55296 ∧ d ≠ 13 ∧ d ≠ 35
structure Wc.P (fa : Bool) (i : Nat) (c : Wc) : Prop where
  rr : Rr fa c.x.cps.toList c.v.cps.toList c.k
  len : c.x.cps.toList.length ≤ 12 * i
  ok : ∀ d ∈ c.x.cps.toList, okD d
noncomputable abbrev Wc.ps (c : Wc) : List (Str × Value) := [("text", .str c.x c.tx), ("signs", .str c.v c.tv), ("bare", .int ((c.k : Nat) : Int) c.tk)]
theorem pl_len : ∀ p ∈ plainL, p.cps.toList.length ≤ 12 := by decide +kernel
theorem pl_ok : ∀ p ∈ plainL, ∀ d ∈ p.cps.toList, okD d := by decide +kernel
theorem pl_amp : ∀ p ∈ plainL, (p == Str.ofString "&") = false → ∀ d ∈ p.cps.toList, d ≠ 38 := by decide +kernel
theorem en_len : ∀ p ∈ entNames, p.length ≤ 10 := by decide +kernel
theorem en_ok : ∀ p ∈ entNames, ∀ d ∈ p, okD d := by decide +kernel
theorem amp_chr : (Str.ofString "&").cps.toList = [38] := by decide +kernel
theorem ampS_chr : (Str.ofString "&amp;").cps.toList = 38 :: [97, 109, 112, 59] := by decide +kernel
theorem ampS_ent : [97, 109, 112, 59] ∈ entNames ∧ valE [97, 109, 112, 59] = [38] := by decide +kernel
section
variable {fa : Bool} {i : Nat} {x v : Str} {k : Nat} {tx tv tk tx' tv' tk' : Tok}
theorem Wc.start {t1 t2 t3 : Tok} {e1 e2 : Str} (h1 : e1 = Str.ofString "") (h2 : e2 = Str.ofString "") : Wc.P fa 0 ⟨e1, t1, e2, t2, 0, t3⟩ := by
  have e : (Str.ofString "").cps.toList = [] := by decide +kernel
  subst h1 h2
  refine ⟨?_, ?_, ?_⟩
  · show Rr fa (Str.ofString "").cps.toList (Str.ofString "").cps.toList 0
    rw [e]; exact .nil
  · show (Str.ofString "").cps.toList.length ≤ _
    rw [e]; exact Nat.zero_le _
  · show ∀ d ∈ (Str.ofString "").cps.toList, _
    rw [e]; exact fun _ h => nomatch h
theorem Wc.P.put {p : List Nat} {y u : Str} {j : Nat} (h : Wc.P fa i ⟨x, tx, v, tv, k, tk⟩) (e : y.cps.toList = p ++ x.cps.toList) (hl : p.length ≤ 12) (ho : ∀ d ∈ p, okD d) (hr : Rr fa (p ++ x.cps.toList) u.cps.toList j) : Wc.P fa (i + 1) ⟨y, tx', u, tv', j, tk'⟩ := by
  refine ⟨by dsimp only; rw [e]; exact hr, ?_, ?_⟩
  · have := h.len
    dsimp only at this ⊢
    rw [e, List.length_append]; omega
  · dsimp only
    rw [e]
    exact fun d hd => (List.mem_append.mp hd).elim (ho d) (h.ok d)
theorem Wc.plain {p : Str} (h : Wc.P fa i ⟨x, tx, v, tv, k, tk⟩) (hp : p ∈ plainL) (hn : (p == Str.ofString "&") = false) : Wc.P fa (i + 1) ⟨p ++ x, tx', p ++ v, tv', k, tk'⟩ :=
  h.put (p := p.cps.toList) (toList_app _ _) (pl_len p hp) (pl_ok p hp) (by rw [toList_app]; exact h.rr.plain (pl_amp p hp hn))
theorem Wc.amp {p : Str} (h : Wc.P fa i ⟨x, tx, v, tv, k, tk⟩) (hn : (p == Str.ofString "&") = true) (hs : stopC none x.cps.toList = true) : Wc.P fa (i + 1) ⟨p ++ x, tx', p ++ v, tv', k, tk'⟩ := by
  have e : p = Str.ofString "&" := eq_of_beq hn
  subst e
  refine h.put (p := [38]) (by rw [toList_app, amp_chr]) (by decide) (by decide) ?_
  rw [toList_app, amp_chr]
  exact h.rr.bare hs
theorem Wc.ampS {p : Str} (h : Wc.P fa i ⟨x, tx, v, tv, k, tk⟩) (hn : (p == Str.ofString "&") = true) : Wc.P fa (i + 1) ⟨Str.ofString "&amp;" ++ x, tx', p ++ v, tv', k, tk'⟩ := by
  have e : p = Str.ofString "&" := eq_of_beq hn
  subst e
  refine h.put (p := 38 :: [97, 109, 112, 59]) (by rw [toList_app, ampS_chr]) (by decide) (by decide) ?_
  rw [toList_app, amp_chr]
  have := h.rr.semi ampS_ent.1 rfl
  rw [ampS_ent.2] at this
  exact this
theorem amp_nm {nm : List Nat} : ((Str.ofString "&" ++ (⟨nm.toArray⟩ : Str)) ++ x).cps.toList = (38 :: nm) ++ x.cps.toList := by
  rw [toList_app, toList_app, amp_chr]; rfl
theorem nm_ok {nm : List Nat} (hn : nm ∈ entNames) : ∀ d ∈ 38 :: nm, okD d := fun d hd => by
  rcases List.mem_cons.mp hd with rfl | hd
  · decide
  · exact en_ok nm hn d hd
theorem Wc.semi {nm : List Nat} (h : Wc.P fa i ⟨x, tx, v, tv, k, tk⟩) (hn : nm ∈ entNames) (h59 : nm.getLast? = some 59) : Wc.P fa (i + 1) ⟨(Str.ofString "&" ++ (⟨nm.toArray⟩ : Str)) ++ x, tx', (⟨(valE nm).toArray⟩ : Str) ++ v, tv', k, tk'⟩ := by
  refine h.put (p := 38 :: nm) amp_nm ?_ (nm_ok hn) ?_
  · have := en_len nm hn; rw [List.length_cons]; omega
  · rw [toList_app]
    exact h.rr.semi hn h59
theorem Wc.more {nm : List Nat} {c : Nat} (h : Wc.P fa i ⟨x, tx, v, tv, k, tk⟩) (hn : nm ∈ entNames) (hc : nm.getLast? = some c) (h59 : c ≠ 59) : Wc.P fa (i + 1) ⟨(Str.ofString "&" ++ (⟨(nm ++ [59]).toArray⟩ : Str)) ++ x, tx', (⟨(valE nm).toArray⟩ : Str) ++ v, tv', k, tk'⟩ := by
  obtain ⟨h1, h2⟩ := ent_more nm hn (by rw [hc]; exact fun e => h59 (Option.some.inj e))
  have := Wc.semi (nm := nm ++ [59]) (tx' := tx') (tv' := tv') (tk' := tk') h h1 List.getLast?_concat
  rw [h2] at this
  exact this
theorem Wc.bare {nm : List Nat} {c : Nat} {b : Str} (h : Wc.P fa i ⟨x, tx, v, tv, k, tk⟩) (hn : nm ∈ entNames) (hc : nm.getLast? = some c) (h59 : c ≠ 59) (hg : (fa && gluedC x.cps.toList) = false) (hb : LG ((⟨nm.toArray⟩ : Str) ++ x).cps.toList entNames b.cps.toList) (he : (b != (⟨nm.toArray⟩ : Str)) = false) : Wc.P fa (i + 1) ⟨(Str.ofString "&" ++ (⟨nm.toArray⟩ : Str)) ++ x, tx', (⟨(valE nm).toArray⟩ : Str) ++ v, tv', k + 1, tk'⟩ := by
  have e : b = (⟨nm.toArray⟩ : Str) := by simpa using he
  subst e
  rw [toList_app] at hb
  refine h.put (p := 38 :: nm) amp_nm ?_ (nm_ok hn) ?_
  · have := en_len nm hn; rw [List.length_cons]; omega
  · rw [toList_app, Nat.add_comm]
    exact h.rr.name hn hc h59 hb hg
theorem Wc.xlen (h : Wc.P fa i ⟨x, tx, v, tv, k, tk⟩) (hi : i ≤ 5) : x.length ≤ 60 := by
  have := h.len
  dsimp only at this
  rw [len_toList] at this; omega
theorem Wc.vlen (h : Wc.P fa i ⟨x, tx, v, tv, k, tk⟩) (hi : i ≤ 5) : v.length ≤ 180 := by
  have h1 := h.rr.len.1
  have h2 := h.len
  dsimp only at h1 h2
  rw [len_toList] at h1; omega
end
theorem pl_str {p : Str} (h : p ∈ plainL) : p.length ≤ 12 := by rw [← len_toList]; exact pl_len p h
theorem ent_x {ss : List Str} {x : Str} (hp : ss.Perm entK) (h : x ∈ ss) : ∃ nm, x = ⟨nm.toArray⟩ ∧ nm ∈ entNames := ⟨x.cps.toList, by cases x; simp, List.mem_map.mpr ⟨x, (hp.mem_iff).mp h, rfl⟩⟩
theorem stop_one {x : Str} {t1 t2 t3 t4 : Tok} (h : [Value.str (Str.ofString "") t1, .str (Str.ofString " ") t2, .str (Str.ofString "\n") t3, .str (Str.ofString "&") t4].any (eltE (.str (Txt.slice x none (some 1)))) = true) : stopC none x.cps.toList = true := by
  cases e : x.cps.toList with
  | nil => rfl
  | cons c r =>
    have e1 : Txt.slice x none (some 1) = ⟨#[c]⟩ := by
      have := sliceN x 1
      rw [show (((1 : Nat) : Int)) = 1 from rfl] at this
      rw [this]
      have e2 : x.cps = (c :: r).toArray := by rw [← e]
      rw [e2]; simp
    rw [e1] at h
    rw [show Str.ofString "" = ⟨#[]⟩ from by decide +kernel, show Str.ofString " " = ⟨#[32]⟩ from by decide +kernel, show Str.ofString "\n" = ⟨#[10]⟩ from by decide +kernel, show Str.ofString "&" = ⟨#[38]⟩ from by decide +kernel] at h
    simp only [List.any_cons, List.any_nil, elt_str, Bool.or_false] at h
    have hc : c = 32 ∨ c = 10 ∨ c = 38 := by
      simp only [Bool.or_eq_true, beq_iff_eq] at h
      rcases h with h | h | h | h
      · injection h with h; exact absurd (congrArg Array.size h) (by simp)
      · injection h with h; exact .inl (by simpa using h.symm)
      · injection h with h; exact .inr (.inl (by simpa using h.symm))
      · injection h with h; exact .inr (.inr (by simpa using h.symm))
    rcases hc with rfl | rfl | rfl <;> rfl
theorem isl_keep {h h' : Heap} {l : Addr} {vs : Array Value} (T : h.IsList l vs) (k : h.StaysIn h') : h'.IsList l vs := let ⟨o, e, r⟩ := T; ⟨o, k _ _ e, r⟩
noncomputable def LwP (fa : Bool) : CPost := fun v fr l => l = [] ∧ ∃ (a : Addr) (T : Str) (tt : Tok) (V : Str) (tv : Tok) (k : Nat) (tk : Tok), v = .ref a ∧ fr = [(a, tupO [.str T tt, .str V tv, .int ((k : Nat) : Int) tk])] ∧ T.length ≤ 60 ∧ (∀ d ∈ T.cps.toList, okD d) ∧ Rr fa T.cps.toList V.cps.toList k
theorem nmx_len {nm : List Nat} {x : Str} (h : nm ∈ entNames) (hx : x.length ≤ 60) : ((⟨nm.toArray⟩ : Str) ++ x).length ≤ 640 := by
  rw [← len_toList, toList_app, List.length_append, len_toList x]
  have := en_len nm h
  show nm.length + _ ≤ _
  omega
theorem wc_in {i : Nat} {ns : List Int} (hi : i < (List.take 5 ns).reverse.length) : i ≤ 5 := by
  rw [List.length_reverse, List.length_take] at hi; omega
theorem len_nm {prog : Program} {w : World} {A : Around} {E : Value → Shared → Prop} {s : Shared} {h₀ : Heap} {L q : Addr} {news : Led} {vs : List Value} {ss : List Str} {n : Nat} {Q : Value → Shared → Prop} (N : News h₀ L s.heap news) (hm : (q, W.listOf vs.toArray n) ∈ news) (hS : StrsAre vs ss) (hp : ss.Perm entK) (h : ∀ t, Q (.int ((43 : Nat) : Int) t) { s with toks := s.toks + 1 + 1 }) : wpAny (model prog w) A (call (.builtin "len") [.ref q]) Q E s := by
  have e : vs.toArray.size = 43 := by rw [List.size_toArray, strs_len hS, hp.length_eq, entK_len]
  refine call_len_list (News.isList N hm) (by rw [e]; decide) ?_
  rw [e]
  exact h _
theorem b_400 : 400 + 400 ≤ 16777216 := by decide
theorem l_pl {p : Str} (h : p ∈ plainL) : p.length ≤ 400 := Nat.le_trans (pl_str h) (by decide)
theorem l_x {x : Str} (h : x.length ≤ 60) : x.length ≤ 400 := Nat.le_trans h (by decide)
theorem l_v {x : Str} (h : x.length ≤ 180) : x.length ≤ 400 := Nat.le_trans h (by decide)
theorem l_nm {nm : List Nat} (h : nm ∈ entNames) : (⟨nm.toArray⟩ : Str).length ≤ 400 := Nat.le_trans (show nm.length ≤ 10 from en_len nm h) (by decide)
theorem l_nm1 {nm : List Nat} (h : nm ∈ entNames) : (⟨(nm ++ [59]).toArray⟩ : Str).length ≤ 400 := by
  have := en_len nm h
  show (nm ++ [59]).length ≤ 400
  rw [List.length_append, List.length_singleton]; omega
theorem val_sm : ∀ nm ∈ entNames, (valE nm).length ≤ 4 := by decide +kernel
theorem l_val {nm : List Nat} (h : nm ∈ entNames) : (⟨(valE nm).toArray⟩ : Str).length ≤ 400 := Nat.le_trans (show (valE nm).length ≤ 4 from val_sm nm h) (by decide)
theorem l_amp : (Str.ofString "&").length ≤ 400 := by decide +kernel
theorem l_semi : (Str.ofString ";").length ≤ 400 := by decide +kernel
theorem l_ampS : (Str.ofString "&amp;").length ≤ 400 := by decide +kernel
theorem l_an {nm : List Nat} (h : nm ∈ entNames) : (Str.ofString "&" ++ (⟨nm.toArray⟩ : Str)).length ≤ 400 := by
  have := en_len nm h
  rw [← len_toList, toList_app, amp_chr, List.length_append]
  show 1 + nm.length ≤ 400
  omega
theorem l_an1 {nm : List Nat} (h : nm ∈ entNames) : (Str.ofString "&" ++ (⟨(nm ++ [59]).toArray⟩ : Str)).length ≤ 400 := by
  have := en_len nm h
  rw [← len_toList, toList_app, amp_chr, List.length_append]
  show 1 + (nm ++ [59]).length ≤ 400
  rw [List.length_append, List.length_singleton]; omega
theorem semi_app {nm : List Nat} : (⟨nm.toArray⟩ : Str) ++ Str.ofString ";" = ⟨(nm ++ [59]).toArray⟩ := by
  apply Str.ext'
  apply Array.toList_inj.mp
  rw [toList_app, show (Str.ofString ";").cps.toList = [59] from by decide +kernel]
section
variable {fa : Bool} {x : Str} {c : Nat} {r : List Nat}
theorem gv1 (h : fa = false) : Value.bool fa = Value.bool (fa && gluedC x.cps.toList) := by subst h; rfl
theorem gv2 (h : (x != Str.ofString "") = false) : (x != Str.ofString "") = (fa && gluedC x.cps.toList) := by
  have e : x = Str.ofString "" := by simpa using h
  rw [h]
  subst e
  rw [show (Str.ofString "").cps.toList = [] from by decide +kernel]
  show false = (fa && false)
  rw [Bool.and_false]
theorem first_ne (h : (x != Str.ofString "") = true) : ∃ c r, x.cps.toList = c :: r ∧ x.cps[(0 : Int).toNat]? = some c := first_ex (by rw [bne] at h; simpa using h)
theorem gv3 {b : Bool} (h : fa = true) (e : x.cps.toList = c :: r) (hb : (Builtin.Str.occurrences gluedS ⟨#[c]⟩ 0 gluedS.length 1).isEmpty = b) : (!b) = (fa && gluedC x.cps.toList) := by
  rw [h, e, Bool.true_and]
  show _ = (letterC c || alD false c || c == 61)
  rw [← glued_mem, found1 hb]
theorem kst_w3 {u m0 : Str → Option Value} {st : List Str} {z : Str} {a b d : Value} (h1 : z ≠ Str.ofString "text") (h2 : z ≠ Str.ofString "signs") (h3 : z ≠ Str.ofString "bare") (hs : st.contains z = false) : kstB (fun z => if st.contains z = true then u z else m0 z) [(Str.ofString "text", a), (Str.ofString "signs", b), (Str.ofString "bare", d)] z = m0 z := by
  refine (if_neg h1).trans ((if_neg h2).trans ((if_neg h3).trans (if_neg ?_)))
  rw [hs]; exact Bool.false_ne_true
theorem lw_end {T V : Str} {tt tv tk : Tok} {k i : Nat} (h : Wc.P fa i ⟨T, tt, V, tv, k, tk⟩) (hi : i ≤ 5) {g : Heap} {lo : Led} {s₁ : Shared} {L' a : Addr} {m' : Str → Option Value} {l' : Led} {h' : Heap} {tk' : Nat} (F : Fr g L' h' m') (N : News g L' h' l') (h1 : (a, tupO [.str T tt, .str V tv, .int ((k : Nat) : Int) tk]) ∈ l') (hlo : lo = []) :
    CEnd g lo (fun v fr l => LwP fa v fr l) s₁ (.ref a) { s₁ with heap := h', toks := tk' } := by
  subst hlo
  refine cendF (fr := [(a, tupO [.str T tt, .str V tv, .int ((k : Nat) : Int) tk])]) (l := []) F N (fun p hp => by rw [List.append_nil] at hp; rw [List.mem_singleton.mp hp]; exact h1) (fun _ _ _ hq => nomatch hq) ⟨rfl, a, T, tt, V, tv, k, tk, rfl, rfl, Wc.xlen h hi, h.ok, h.rr⟩
end
theorem nss_le {ss : List Str} (h : ss.Perm entK) : ss.length ≤ 1000 := by rw [h.length_eq, entK_len]; decide
theorem last59 {l : List Nat} {c : Nat} (h : l.getLast? = some c) (e : c = 59) : l.getLast? = some 59 := e ▸ h
theorem rev_five (ns : List Int) : (List.take 5 ns).reverse.length ≤ 5 := by
  rw [List.length_reverse, List.length_take]; exact Nat.min_le_left _ _
section
variable {prog : Program} {w : World} {A : Around} {E : Value → Shared → Prop} {s : Shared} {h₀ : Heap} {L : Addr} {news : Led}
theorem strs_eq {a b : Addr} {n1 n2 : Nat} {fs gs : List Value} {ns : List Str} (N : News h₀ L s.heap news) (ha : (a, W.listOf fs.toArray n1) ∈ news) (hb : (b, W.listOf gs.toArray n2) ∈ news) (h1 : StrsAre fs ns) (h2 : StrsAre gs ns) (hu : A.units < cLine) : SeqAt.EqAt A s (.ref a) (.ref b) true := by
  by_cases e : a = b
  · subst e; exact SeqAt.EqAt.same _
  · have hsz : fs.toArray.size = gs.toArray.size := by rw [List.size_toArray, List.size_toArray, strs_len h1, strs_len h2]
    have := SeqAt.RcAt.lists (e := fun _ => true) (News.isList N ha) (News.isList N hb) hsz hu fun j j1 j2 => ?_
    · rw [show (List.range fs.toArray.size).all (fun _ => true) = true from by simp] at this
      exact SeqAt.EqAt.of_refs e this
    · have j3 : j < ns.length := by rw [← strs_len h1, ← List.size_toArray]; exact j1
      obtain ⟨t, ht⟩ := h1.get j ns[j] (by simp [j3])
      obtain ⟨u, hu⟩ := h2.get j ns[j] (by simp [j3])
      have e1 : fs.toArray[j] = .str ns[j] t := by
        have : fs.toArray[j]? = some (.str ns[j] t) := by simpa using ht
        rw [Array.getElem?_eq_getElem j1] at this; exact Option.some.inj this
      have e2 : gs.toArray[j] = .str ns[j] u := by
        have : gs.toArray[j]? = some (.str ns[j] u) := by simpa using hu
        rw [Array.getElem?_eq_getElem j2] at this; exact Option.some.inj this
      rw [e1, e2]
      simpa using SeqAt.EqAt.str_str ns[j] t ns[j] u
theorem read_ne {a b la lb : Addr} {x y : Str} {t u : Tok} {n1 n2 : Nat} {fs gs : List Value} {ns : List Str} {Q : Value → Shared → Prop} (N : News h₀ L s.heap news) (ha : (a, tupO [.str x t, .ref la]) ∈ news) (hla : (la, W.listOf fs.toArray n1) ∈ news) (hb : (b, tupO [.str y u, .ref lb]) ∈ news) (hlb : (lb, W.listOf gs.toArray n2) ∈ news)
    (h1 : StrsAre fs ns) (h2 : StrsAre gs ns) (e : x.cps.toList = y.cps.toList) (hu : A.units + 9 < cLine) (h : Q (.bool false) s) : wpAny (model prog w) A (compareOp .NotEq (.ref a) (.ref b)) Q E s := by
  have e0 : x = y := Str.ext' (Array.toList_inj.mp e)
  subst e0
  have hu1 : A.in1.units < cLine := by show A.units + 1 < cLine; omega
  have := SeqAt.RcNeAt.tuples (A := A) (s := s) (l := a) (b := b) (items := [Value.str x t, .ref la].toArray) (items2 := [Value.str x u, .ref lb].toArray) (e := fun _ => true) ⟨_, (N _ ha).1, rfl, _, rfl⟩ ⟨_, (N _ hb).1, rfl, _, rfl⟩ (by omega) (fun j j1 _ => ?_)
  · exact this prog w E Q h
  · match j, j1 with
    | 0, _ => simpa using SeqAt.EqAt.str_str x t x u
    | 1, _ => exact strs_eq N hla hlb h1 h2 hu1
    | j + 2, h => exact absurd (Nat.lt_of_succ_lt_succ (Nat.lt_of_succ_lt_succ h)) (Nat.not_lt_zero _)
end
section
variable {prog : Program} {w : World} {A : Around} {E : Value → Shared → Prop} {Q : Flow → Shared → Prop} {s : Shared} {env : Env} {h₀ : Heap} {x : Str} {body : List Stmt} {m₀ : Str → Option Value}
theorem loop1 {l : Addr} {nn : Nat} (stored : List Str) (rest : Led) (hh : A.handled = none) (F : Fr h₀ env.locals s.heap m₀) (N : News h₀ env.locals s.heap ((l, W.listOf [Value.bool false, .bool true].toArray nn) :: rest))
    (turn : ∀ (fa : Bool) (u : Str → Option Value) h tk own, Fr h₀ env.locals h (fun y => if y = x then some (.bool fa) else kstB (fun z => if stored.contains z then u z else m₀ z) [] y) → News h₀ env.locals h ((l, W.listOf [Value.bool false, .bool true].toArray nn) :: (rest ++ own)) →
      wpAny (model prog w) A (execs body env) (TurnGo h₀ env.locals x stored m₀ ((l, W.listOf [Value.bool false, .bool true].toArray nn) :: (rest ++ own)) { s with heap := h, toks := tk } Q) E { s with heap := h, toks := tk })
    (done : ∀ (u : Str → Option Value) h tk, Fr h₀ env.locals h (fun y => if y = x then u y else kstB (fun z => if stored.contains z then u z else m₀ z) [] y) → News h₀ env.locals h ((l, W.listOf [Value.bool false, .bool true].toArray nn) :: rest) → Q .next { s with heap := h, toks := tk }) :
    wpAny (model prog w) A (pyIter (.ref l)) (fun it s₂ => LoopAtV prog w A h₀ env x body Q E it s₂) E s := by
  refine loop_data (ds := [.bool false, .bool true]) stored rest hh F N (.cons (.bool _) (.cons (.bool _) .nil)) (fun nl d v u h tk own hmem hin F' N' => ?_) done
  have key : ∃ b, v = .bool b := by
    simp only [List.mem_cons, List.not_mem_nil, or_false] at hmem
    rcases hmem with rfl | rfl
    · cases hin; exact ⟨_, rfl⟩
    · cases hin; exact ⟨_, rfl⟩
  obtain ⟨b, rfl⟩ := key
  exact turn b u h tk own F' N'
end
theorem sz63 {vs : List Value} {ns : List Int} (hi : IntsAre vs ns) (hc : ¬ ((63 : Nat) : Int) < ((ns.length : Nat) : Int)) : vs.length ≤ 63 := by
  rw [ints_len hi]; omega
theorem rep_strs {x : Str} {t : Tok} : ∀ k : Nat, StrsAre (List.replicate k [Value.str x t]).flatten (List.replicate k x)
  | 0 => .nil
  | k + 1 => by
    rw [List.replicate_succ, List.replicate_succ, List.flatten_cons]
    exact .cons _ _ (rep_strs k)
section
variable {prog : Program} {w : World} {A : Around} {E : Value → Shared → Prop} {s : Shared} {h₀ : Heap} {L : Addr} {m : Str → Option Value} {news : List (Addr × Obj)} {l : Addr} {u t : Tok} {x : Str} {k n : Nat} {Q : Value → Shared → Prop}
theorem mulL {vs : List Value} {z : Int} (Fm : Fr h₀ L s.heap m) (N : News h₀ L s.heap news) (hl : s.heap.IsList l vs.toArray) (hlo : -(2 ^ 63 : Int) ≤ z) (hhi : z < 2 ^ 63) (hsz : vs.length * z.toNat ≤ 2 ^ 24)
    (h : ∀ D h', Fr h₀ L h' m → News h₀ L h' ((D, W.listOf (List.replicate z.toNat vs).flatten.toArray 0) :: news) → (∀ p ∈ news, p.1 < D) → Q (.ref D) { s with heap := h' }) : wpAny (model prog w) A (binaryOp .Mult (.ref l) (.int z u)) Q E s := by
  obtain ⟨⟨cls, d, data, sl⟩, ho, hcl, k, hd⟩ := id hl
  simp only at hcl hd
  subst hcl hd
  have hsz' : vs.toArray.size * z.toNat ≤ 2 ^ 24 := by simpa using hsz
  refine wpAny_binaryOp_repeat_ref (T := "list") (U := "int") (by decide) ⟨_, ho, rfl⟩ (fun s' => typeIs_int s' z u) noFill_list_mul F.fills_int_mul F.slot_int_rmul repeat_list F.slot_int_index.lookup
    (call_meets F.slot_int_rmul (typeIs_int s z u) F.entry_int_rmul (F.args_int_rmul_2 _ _) (lm_int_rmul_list_any z u l vs.toArray k d sl)
      ⟨ho, rfl, ⟨_, ho, rfl⟩, call_meets F.slot_list_mul ⟨_, ho, rfl⟩ F.entry_list_mul (F.args_list_mul_2 _ _)
        (lm_list_mul_any l vs.toArray k d sl z u (by simp [Builtin.List.listFitsIndex]; omega) (by omega) (by simp [Builtin.List.listTooLong, sizeLine]; omega))
        ⟨ho, ?_⟩⟩)
  have N' := News.push Fm N { cls := Value.type "list", data := Data.seq (List.foldl (fun x1 x2 => x1 ++ x2) #[] (List.replicate (if vs.toArray.isEmpty = true then 0 else z.toNat) vs.toArray)) }
  rw [listMul_foldl_if] at N'
  rw [listMul_foldl_if]
  exact h _ _ (Fm.push _) N' (fun p hp => Heap.lt_size (N p hp).1)
theorem mul_one (Fm : Fr h₀ L s.heap m) (N : News h₀ L s.heap news) (hm : (l, W.listOf [Value.str x t].toArray n) ∈ news) (hk : k ≤ 1000)
    (h : ∀ D vs h', StrsAre vs (List.replicate k x) → Fr h₀ L h' m → News h₀ L h' ((D, W.listOf vs.toArray 0) :: news) → (∀ p ∈ news, p.1 < D) → Q (.ref D) { s with heap := h' }) : wpAny (model prog w) A (binaryOp .Mult (.ref l) (.int ((k : Nat) : Int) u)) Q E s := by
  refine mulL (vs := [Value.str x t]) Fm N (News.isList N hm) (by omega) (by omega) ?_ fun D h' F' N' l1 => h D _ h' ?_ F' N' l1
  · rw [Int.toNat_natCast, List.length_singleton, Nat.one_mul]; exact Nat.le_trans hk (by decide)
  · rw [Int.toNat_natCast]; exact rep_strs k
end
theorem kb_le {fa : Bool} {V : List Nat} {x : Str} {k : Nat} (h : Rr fa x.cps.toList V k) (hT : x.length ≤ 60) : k ≤ 1000 := by
  have := h.len.2
  rw [len_toList] at this; omega
end Mine.Internal

end
section
open PySem PySem.W PyProof.Rows PySem.Calls PySem.Spec
set_option maxRecDepth 100000
set_option maxHeartbeats 400000000
namespace Mine.Internal
local macro_rules | `(tactic| size_fits) => `(tactic| k_extra "size")
local macro_rules | `(tactic| tm_at "eq") => `(tactic| (with_unfolding_all exact PyProof.Rows.v_eq_bool (k := true) (l := true) (PyProof.Rows.v_res rfl) PyProof.Rows.v_lit))
local macro_rules | `(tactic| passes_own) => `(tactic| k_extra "po")
local macro_rules | `(tactic| k_in) => `(tactic| first | with_reducible assumption | exact Frag.In.keeps (by with_reducible assumption) (Fr.keep (by with_reducible assumption)))
local macro_rules | `(tactic| k_room) => `(tactic| exact Nat.le_of_ble_eq_true rfl)
local macro_rules | `(tactic| k_steps) => `(tactic| repeat' (first | ((fail_if_success (fail_if_success k_unfold)); k_extra "next") | (k_unfold; (try dsimp only)) | (k_end; wrow_close) | walk1 | (dsimp only; walk1) | (leave1; walk_say "STEP leave1"; try dsimp only) | fail "no step"))
local macro_rules | `(tactic| walk_at $s:str) => `(tactic| k_extra $s)
local macro_rules | `(tactic| k_all) => `(tactic| k_extra "all")
local macro_rules | `(tactic| k_ne) => `(tactic| k_extra "ne")
local macro_rules | `(tactic| k_in) => `(tactic| k_extra "in")
local macro_rules | `(tactic| k_upd) => `(tactic| k_extra "upd")
local macro_rules | `(tactic| k_lt $h) => `(tactic| (revert $h:ident; k_extra "lt"))
local macro_rules | `(tactic| k_lt2 $h) => `(tactic| (revert $h:ident; k_extra "lt2"))
theorem main.tw2552694252491474378 : True := ⟨⟩
theorem main.tw16176231961500713579 : True := ⟨⟩
theorem main.tw9075827205167002984 : True := ⟨⟩
theorem main.tw3408827457947758924 : True := ⟨⟩
theorem main.tw6744150564754420234 : True := ⟨⟩
theorem main.tw3460471527071742462 : True := ⟨⟩
theorem main.tw6595750602137734652 : True := ⟨⟩
theorem main.tw13150642230695257992 : True := ⟨⟩
theorem main.tw4328267247735480603 : True := ⟨⟩
theorem main.tw9002507580857799536 : True := ⟨⟩
theorem main.tw6759289808592882343 : True := ⟨⟩
theorem main.tw15187294628808286126 : True := ⟨⟩
theorem main.tw3469070634007033221 : True := ⟨⟩
theorem main.tw2531834563650271798 : True := ⟨⟩
theorem main.tw7670179019842844407 : True := ⟨⟩
theorem main.tw10322969633853836883 : True := ⟨⟩
theorem main.tw13276111058516223524 : True := ⟨⟩
theorem main.tw3434899946491226729 : True := ⟨⟩
theorem main.tw13435976712825821128 : True := ⟨⟩
theorem main.tw9088192990142457327 : True := ⟨⟩
theorem main.tw12970252948059191858 : True := ⟨⟩
theorem main.tw4406860569794426617 : True := ⟨⟩
theorem main.tw3357517921695852611 : True := ⟨⟩
theorem main.tw3695579603394428622 : True := ⟨⟩
theorem main.tw16138054218588275459 : True := ⟨⟩
theorem main.tw16107420204201818878 : True := ⟨⟩
theorem main.tw12382416113807773583 : True := ⟨⟩
theorem main.tw17489628448806820680 : True := ⟨⟩
theorem main.tw7424550777354326970 : True := ⟨⟩
theorem main.tw18085039293197393909 : True := ⟨⟩
theorem main.tw12266321265796822618 : True := ⟨⟩
theorem main.tw16850627312601078577 : True := ⟨⟩
theorem main.tw488895473941219216 : True := ⟨⟩
theorem main.tw8632067484033081962 : True := ⟨⟩
theorem main.tw15145321199161939454 : True := ⟨⟩
theorem main.tw9638020300069440398 : True := ⟨⟩
theorem main.tw16525614771705244615 : True := ⟨⟩
theorem main.tw15208815566122129715 : True := ⟨⟩
theorem main.tw17222532714639596944 : True := ⟨⟩
theorem main.tw15823801904750430661 : True := ⟨⟩
theorem main.tw13841544812703979738 : True := ⟨⟩
theorem main.tw8019843255630367578 : True := ⟨⟩
theorem main.tw11509008894443506685 : True := ⟨⟩
theorem main.tw17263027491776874984 : True := ⟨⟩
theorem main.tw12656116102701854620 : True := ⟨⟩
theorem main.tw12917821375779496827 : True := ⟨⟩
theorem main.tw11817738332911389988 : True := ⟨⟩
theorem main.tw10347165607039768325 : True := ⟨⟩
theorem main.tw9666586416613377686 : True := ⟨⟩
theorem main.tw3879943568281281997 : True := ⟨⟩
theorem main.tw17752651522708148593 : True := ⟨⟩
theorem main.tw18004917794731790759 : True := ⟨⟩
theorem main.tw10440920105907014920 : True := ⟨⟩
theorem main.tw15474422221286975002 : True := ⟨⟩
theorem main.tw11443288096424721517 : True := ⟨⟩
theorem main.tw12253984699551225856 : True := ⟨⟩
theorem main.tw9703312082030273292 : True := ⟨⟩
theorem main.tw653998813826172256 : True := ⟨⟩
theorem main.tw14264771151246065232 : True := ⟨⟩
theorem main.tw5293604023752008139 : True := ⟨⟩
theorem main.tw9133342197399196234 : True := ⟨⟩
theorem main.tw1062289972186488545 : True := ⟨⟩
theorem main.tw9248355606524233013 : True := ⟨⟩
theorem main.tw13155686724948042960 : True := ⟨⟩
theorem main.tw12057684487817480140 : True := ⟨⟩
theorem main.tw8872105718554685360 : True := ⟨⟩
theorem main.tw4703118583338301787 : True := ⟨⟩
theorem main.tw3396264588904235675 : True := ⟨⟩
theorem main.tw12724878309271642292 : True := ⟨⟩
theorem main.tw5008847014415012073 : True := ⟨⟩
theorem main.tw4156003519774020744 : True := ⟨⟩
theorem main.tw9441134871347383685 : True := ⟨⟩
theorem main.tw12839939129518166449 : True := ⟨⟩
theorem main.tw11910221601743685753 : True := ⟨⟩
theorem main.tw13639637540710378271 : True := ⟨⟩
theorem main.tw8889909036490683537 : True := ⟨⟩
theorem main.tw8262367462955680934 : True := ⟨⟩
theorem main.tw4935257559928301731 : True := ⟨⟩
theorem main.tw3055327740479581089 : True := ⟨⟩
theorem main.tw1767629848817652594 : True := ⟨⟩
theorem main.tw5230818847713347254 : True := ⟨⟩
theorem main.tw16876558867659480788 : True := ⟨⟩
theorem main.tw632543874583851743 : True := ⟨⟩
theorem main.tw6990565588677296644 : True := ⟨⟩
theorem main.tw8286811204976691927 : True := ⟨⟩
theorem main.tw1403793049032158309 : True := ⟨⟩
theorem main.tw13525269375820829941 : True := ⟨⟩
theorem main.tw7249698444530863382 : True := ⟨⟩
theorem main.tw13105467095038062303 : True := ⟨⟩
theorem main.tw12543439000638923522 : True := ⟨⟩
theorem main.tw15183165575251545298 : True := ⟨⟩
theorem main.tw111231791877217785 : True := ⟨⟩
theorem main.tw4975598923679135864 : True := ⟨⟩
theorem main.tw9840149483235000623 : True := ⟨⟩
theorem main.tw10523394492770496998 : True := ⟨⟩
theorem main.tw16725587710940879688 : True := ⟨⟩
theorem main.tw10871283571528544395 : True := ⟨⟩
theorem main.tw5230396064904120268 : True := ⟨⟩
theorem main.tw16308858863361778103 : True := ⟨⟩
theorem main.tw5445273990271448714 : True := ⟨⟩
theorem main.tw18044547442324722921 : True := ⟨⟩
theorem main.tw2617775937807457874 : True := ⟨⟩
theorem main.tw3121664453712097879 : True := ⟨⟩
theorem main.tw3719543078226671225 : True := ⟨⟩
theorem main.tw10046727809161031378 : True := ⟨⟩
theorem main.tw8462904984302344767 : True := ⟨⟩
theorem main.tw1025130396011242515 : True := ⟨⟩
theorem main.tw5902712137599589837 : True := ⟨⟩
theorem main.tw16903022900691281159 : True := ⟨⟩
theorem main.tw2184209005104366138 : True := ⟨⟩
theorem main.tw8463454761793374742 : True := ⟨⟩
theorem main.tw88892504447777676 : True := ⟨⟩
theorem main.tw18362417139445994016 : True := ⟨⟩
theorem main.tw14466154142425863955 : True := ⟨⟩
theorem main.tw16985988459906744398 : True := ⟨⟩
theorem main.tw15254020090456207404 : True := ⟨⟩
theorem main.tw14627560896615758001 : True := ⟨⟩
theorem main.tw14137382522845584548 : True := ⟨⟩
theorem main.tw10161402112437779436 : True := ⟨⟩
theorem main.tw14187207832079272398 : True := ⟨⟩
theorem main.tw8584079139446222513 : True := ⟨⟩
theorem main.tw14347226246240139161 : True := ⟨⟩
theorem main.tw1976350527869358923 : True := ⟨⟩
theorem main.tw16103328417691970683 : True := ⟨⟩
theorem main.tw6810670158800780086 : True := ⟨⟩
theorem main.tw14230426198074974781 : True := ⟨⟩
theorem main.tw4538774211291661145 : True := ⟨⟩
theorem main.tw10871293036084005087 : True := ⟨⟩
theorem main.tw3531981540585742146 : True := ⟨⟩
theorem main.tw8858540271125762992 : True := ⟨⟩
theorem main.tw5328005690235735774 : True := ⟨⟩
theorem main.tw11897676272438511658 : True := ⟨⟩
theorem main.tw3917075563684514712 : True := ⟨⟩
theorem main.tw6756261132437940486 : True := ⟨⟩
theorem main.tw10180515696109083177 : True := ⟨⟩
theorem main.tw15349743947800654751 : True := ⟨⟩
theorem main.tw10120841507784995530 : True := ⟨⟩
theorem main.tw2525166076998268935 : True := ⟨⟩
theorem main.tw15980538880093490129 : True := ⟨⟩
theorem main.tw4331608280046720368 : True := ⟨⟩
theorem main.tw3146034541042422592 : True := ⟨⟩
theorem main.tw13889870629125409607 : True := ⟨⟩
theorem main.tw17411139357740151808 : True := ⟨⟩
theorem main.tw1769571156964328020 : True := ⟨⟩
theorem main.tw11915975209450370505 : True := ⟨⟩
theorem main.tw1277607685379289845 : True := ⟨⟩
theorem main.tw13952998626185534419 : True := ⟨⟩
theorem main.tw15610144658242746549 : True := ⟨⟩
theorem main.tw3748819449962869491 : True := ⟨⟩
theorem main.tw5451521477706531147 : True := ⟨⟩
theorem main.tw14086299949540897200 : True := ⟨⟩
theorem main.tw4711006893311753447 : True := ⟨⟩
theorem main.tw18142968816848271808 : True := ⟨⟩
theorem main.tw8456221942631779472 : True := ⟨⟩
theorem main.tw13633630296611860356 : True := ⟨⟩
theorem main.tw17781153961316730533 : True := ⟨⟩
theorem main.tw14084985943505131202 : True := ⟨⟩
theorem main.tw3038580940099593087 : True := ⟨⟩
theorem main.tw15564934884189797170 : True := ⟨⟩
theorem main.tw10053753761261000652 : True := ⟨⟩
theorem main.tw3064736170607065939 : True := ⟨⟩
theorem main.tw13975928471340527547 : True := ⟨⟩
theorem main.tw11537956683338630383 : True := ⟨⟩
theorem main.tw17861241424289171767 : True := ⟨⟩
theorem main.tw1882103967715803896 : True := ⟨⟩
theorem main.tw10653169788537623322 : True := ⟨⟩
theorem main.tw14352292278703085770 : True := ⟨⟩
theorem main.tw14169439949656811534 : True := ⟨⟩
theorem main.tw18084886155079811712 : True := ⟨⟩
theorem main.tw13337567399299638939 : True := ⟨⟩
theorem main.tw17439343132499600656 : True := ⟨⟩
theorem main.tw13120829950233360018 : True := ⟨⟩
theorem main.tw8543199408427174664 : True := ⟨⟩
theorem main.tw10046393564091023420 : True := ⟨⟩
theorem main.tw17809477105219444030 : True := ⟨⟩
theorem main.tw3631305349507758426 : True := ⟨⟩
theorem main.tw9439839186583959700 : True := ⟨⟩
theorem main.tw15689039764200711428 : True := ⟨⟩
theorem main.tw17853243665478741750 : True := ⟨⟩
theorem main.tw10040650592145808960 : True := ⟨⟩
theorem main.tw11299022181482971071 : True := ⟨⟩
theorem main.tw17677493551680049499 : True := ⟨⟩
theorem main.tw5963143147677444598 : True := ⟨⟩
theorem main.tw12566714432673101547 : True := ⟨⟩
theorem main.tw17008886415857585682 : True := ⟨⟩
theorem main.tw17531500886901724792 : True := ⟨⟩
theorem main.tw11077837550520376705 : True := ⟨⟩
theorem main.tw738249695139976460 : True := ⟨⟩
theorem main.tw14548371465575333668 : True := ⟨⟩
theorem main.tw6109326565077728654 : True := ⟨⟩
theorem main.tw5470134668653626378 : True := ⟨⟩
theorem main.tw3783848015190637625 : True := ⟨⟩
theorem main.tw14070738237383849611 : True := ⟨⟩
theorem main.tw4433602467837400570 : True := ⟨⟩
theorem main.tw868957009881194517 : True := ⟨⟩
theorem main.tw8028819869400628128 : True := ⟨⟩
theorem main.tw8354859942247524186 : True := ⟨⟩
theorem main.tw7840089511392720015 : True := ⟨⟩
theorem main.tw16616484597524413703 : True := ⟨⟩
theorem main.tw7603176780129216889 : True := ⟨⟩
theorem main.tw7450521685299207930 : True := ⟨⟩
theorem main.tw6544255722497290091 : True := ⟨⟩
theorem main.tw8239597784800911592 : True := ⟨⟩
theorem main.tw8070636952655222270 : True := ⟨⟩
theorem main.tw8979861127389934948 : True := ⟨⟩
theorem main.tw16053404413617535587 : True := ⟨⟩
theorem main.tw5198365556900276182 : True := ⟨⟩
theorem main.tw15157218586046271826 : True := ⟨⟩
theorem main.tw13750510376383286988 : True := ⟨⟩
theorem main.tw5901833263323351908 : True := ⟨⟩
theorem main.tw225424674734612040 : True := ⟨⟩
theorem main.tw15261414580505006758 : True := ⟨⟩
theorem main.tw10926241578131026219 : True := ⟨⟩
theorem main.tw6186417409476823366 : True := ⟨⟩
theorem main.tw785891212050648866 : True := ⟨⟩
theorem main.tw6258868486430859879 : True := ⟨⟩
theorem main.tw12681416834507466817 : True := ⟨⟩
theorem main.tw12765236646740177294 : True := ⟨⟩
theorem main.tw9410493436074027243 : True := ⟨⟩
theorem main.tw17748314641421745711 : True := ⟨⟩
theorem main.tw9794519201099739783 : True := ⟨⟩
theorem main.tw7689180539567665754 : True := ⟨⟩
theorem main.tw1743345963533338969 : True := ⟨⟩
theorem main.tw2027678216468551453 : True := ⟨⟩
theorem main.tw16255761817772565937 : True := ⟨⟩
theorem main.tw2689936240190302673 : True := ⟨⟩
theorem main.tw7679138261593991859 : True := ⟨⟩
theorem main.tw13212620538318516488 : True := ⟨⟩
theorem main.tw8567849941878843836 : True := ⟨⟩
theorem main.tw5152671152167812776 : True := ⟨⟩
theorem main.tw15472740278469042264 : True := ⟨⟩
theorem main.tw7733012006603144692 : True := ⟨⟩
theorem main.tw4798913882091802099 : True := ⟨⟩
theorem main.tw17447230648512979527 : True := ⟨⟩
theorem main.tw4454792828321621372 : True := ⟨⟩
theorem main.tw1848521739074249968 : True := ⟨⟩
theorem main.tw13025341945748906136 : True := ⟨⟩
theorem main.tw8279419025547153352 : True := ⟨⟩
theorem main.tw1339686672531063493 : True := ⟨⟩
theorem main.tw6558027226490960009 : True := ⟨⟩
theorem main.tw13517744194886268553 : True := ⟨⟩
theorem main.tw7784495168435344669 : True := ⟨⟩
theorem main.tw3253166636520379654 : True := ⟨⟩
theorem main.tw18288797166873144076 : True := ⟨⟩
theorem main.tw10288650158458768753 : True := ⟨⟩
theorem main.tw2328480001287501657 : True := ⟨⟩
theorem main.tw17797862391227879448 : True := ⟨⟩
theorem main.tw11913848286851280485 : True := ⟨⟩
theorem main.tw11751638361083799241 : True := ⟨⟩
theorem main.tw8132178498146976934 : True := ⟨⟩
theorem main.tw16706546988946613818 : True := ⟨⟩
theorem main.tw3441466919426651201 : True := ⟨⟩
theorem main.tw5063651115755842970 : True := ⟨⟩
theorem main.tw2741657091256887858 : True := ⟨⟩
theorem main.tw7253165384714449309 : True := ⟨⟩
theorem main.tw7621644547495845501 : True := ⟨⟩
theorem main.tw16398902535412932217 : True := ⟨⟩
theorem main.tw8633142351281238600 : True := ⟨⟩
theorem main.tw17210058121205660539 : True := ⟨⟩
theorem main.tw18243912793331470855 : True := ⟨⟩
theorem main.tw15220798369095227235 : True := ⟨⟩
theorem main.tw3596915852536691534 : True := ⟨⟩
theorem main.tw2506418313538102133 : True := ⟨⟩
theorem main.tw2240190111855364321 : True := ⟨⟩
theorem main.tw7157635386191443901 : True := ⟨⟩
theorem main.tw510803128440017388 : True := ⟨⟩
theorem main.tw571647785228454943 : True := ⟨⟩
theorem main.tw1339044443147891450 : True := ⟨⟩
theorem main.tw10543306466324899626 : True := ⟨⟩
theorem main.tw6707823426313396741 : True := ⟨⟩
theorem main.tw13580096092930110239 : True := ⟨⟩
theorem main.tw15886878293761681940 : True := ⟨⟩
theorem main.tw5840107092408520212 : True := ⟨⟩
theorem main.tw500082669219870770 : True := ⟨⟩
theorem main.tw12102530904250922140 : True := ⟨⟩
theorem main.tw12334257995491581405 : True := ⟨⟩
theorem main.tw2553129172841505705 : True := ⟨⟩
theorem main.tw12830911758012122131 : True := ⟨⟩
theorem main.tw12291804085094793745 : True := ⟨⟩
theorem main.tw9403885953711248703 : True := ⟨⟩
theorem main.tw9456837133736449868 : True := ⟨⟩
theorem main.tw13814721228485765036 : True := ⟨⟩
theorem main.tw7313032115926921718 : True := ⟨⟩
theorem main.tw10687909447789387113 : True := ⟨⟩
theorem main.tw4091930637953755879 : True := ⟨⟩
theorem main.tw8810294567309271235 : True := ⟨⟩
theorem main.tw4177671621994559311 : True := ⟨⟩
theorem main.tw9024921604208487676 : True := ⟨⟩
theorem main.tw8123531230628939902 : True := ⟨⟩
theorem main.tw16156162450810372841 : True := ⟨⟩
theorem main.tw5039935704646711612 : True := ⟨⟩
theorem main.tw4059333162808307507 : True := ⟨⟩
theorem main.tw9149405669475974018 : True := ⟨⟩
theorem main.tw117865787843134301 : True := ⟨⟩
theorem main.tw12055929568288920360 : True := ⟨⟩
theorem main.tw2723686050631992617 : True := ⟨⟩
theorem main.tw17393246987506242659 : True := ⟨⟩
theorem main.tw7079346319486233637 : True := ⟨⟩
theorem main.tw10308895420299081216 : True := ⟨⟩
theorem main.tw11998975423125869188 : True := ⟨⟩
theorem main.tw14522938668971434885 : True := ⟨⟩
theorem main.tw11827359447094427065 : True := ⟨⟩
theorem main.tw1676724375430865335 : True := ⟨⟩
theorem main.tw701254493566490903 : True := ⟨⟩
theorem main.tw16614730806028959055 : True := ⟨⟩
theorem main.tw10498526579032192438 : True := ⟨⟩
theorem main.tw12378009232701382954 : True := ⟨⟩
theorem main.tw17045747750064514181 : True := ⟨⟩
theorem main.tw11333404043778943323 : True := ⟨⟩
theorem main.tw11930365855874596552 : True := ⟨⟩
theorem main.tw16726855816971509234 : True := ⟨⟩
theorem main.tw9420458945464693125 : True := ⟨⟩
theorem main.tw15693878858091441903 : True := ⟨⟩
theorem main.tw1038547464879363397 : True := ⟨⟩
theorem main.tw8595304795500500992 : True := ⟨⟩
theorem main.tw4239280963099970540 : True := ⟨⟩
theorem main.tw13742246020466748627 : True := ⟨⟩
theorem main.tw10444647068345236073 : True := ⟨⟩
theorem main.tw8736997241775733956 : True := ⟨⟩
theorem main.tw2072547788070596129 : True := ⟨⟩
theorem main.tw9537812907215041040 : True := ⟨⟩
theorem main.tw7914966534203543394 : True := ⟨⟩
theorem main.tw8402233074735576723 : True := ⟨⟩
theorem main.tw8598726330529460532 : True := ⟨⟩
theorem main.tw1724344740107316381 : True := ⟨⟩
theorem main.tw9910614824040600631 : True := ⟨⟩
theorem main.tw8864801995293489557 : True := ⟨⟩
theorem main.tw14953484359197247582 : True := ⟨⟩
theorem main.tw12857639022058571948 : True := ⟨⟩
theorem main.tw5739019924288605895 : True := ⟨⟩
theorem main.tw16777114165694142054 : True := ⟨⟩
theorem main.tw10492438308582190394 : True := ⟨⟩
theorem main.tw16556096624374403914 : True := ⟨⟩
theorem main.tw12008618834020198452 : True := ⟨⟩
theorem main.tw16210668033245960438 : True := ⟨⟩
theorem main.tw10385684711634392909 : True := ⟨⟩
theorem main.tw16265700737481640900 : True := ⟨⟩
theorem main.tw13096562468588436678 : True := ⟨⟩
theorem main.tw469107726730205931 : True := ⟨⟩
theorem main.tw16899061783259940836 : True := ⟨⟩
theorem main.tw5783281256696232768 : True := ⟨⟩
theorem main.tw14319998408292451620 : True := ⟨⟩
theorem main.tw2905523575628026659 : True := ⟨⟩
theorem main.tw7386879829546924875 : True := ⟨⟩
theorem main.tw10560464971613371954 : True := ⟨⟩
theorem main.tw11287953397327612774 : True := ⟨⟩
theorem main.tw12493883692557333044 : True := ⟨⟩
theorem main.tw15507944958647477950 : True := ⟨⟩
theorem main.tw18420004603335881977 : True := ⟨⟩
theorem main.tw14537450019153051991 : True := ⟨⟩
theorem main.tw3515887516252319269 : True := ⟨⟩
theorem main.tw11214402113823378998 : True := ⟨⟩
theorem main.tw3306849197303780159 : True := ⟨⟩
theorem main.tw15852780608557602579 : True := ⟨⟩
theorem main.tw10934798296316075956 : True := ⟨⟩
theorem main.tw1344006961642217165 : True := ⟨⟩
theorem main.tw6271459789768422213 : True := ⟨⟩
theorem main.tw17391922875715332485 : True := ⟨⟩
theorem main.tw6066754048443415722 : True := ⟨⟩
theorem main.tw4009994885309246536 : True := ⟨⟩
theorem main.tw5267375287539190161 : True := ⟨⟩
theorem main.tw1227082755455209162 : True := ⟨⟩
theorem main.tw11832982245049729781 : True := ⟨⟩
theorem main.tw12425137391138224907 : True := ⟨⟩
theorem main.tw1770443798944706555 : True := ⟨⟩
theorem main.tw1745101480760909229 : True := ⟨⟩
theorem main.tw14502488901099396501 : True := ⟨⟩
theorem main.tw3051166587225777028 : True := ⟨⟩
theorem main.tw11807584938254393009 : True := ⟨⟩
theorem main.tw16798859928846278210 : True := ⟨⟩
theorem main.tw99894942109057259 : True := ⟨⟩
theorem main.tw1050166501530494423 : True := ⟨⟩
theorem main.tw7896732557465485704 : True := ⟨⟩
theorem main.tw14494904676204802095 : True := ⟨⟩
theorem main.tw17226008255547202947 : True := ⟨⟩
theorem main.tw16928811664248450436 : True := ⟨⟩
theorem main.tw3992928203939203036 : True := ⟨⟩
theorem main.tw13432973819337260183 : True := ⟨⟩
theorem main.tw10694066461022140834 : True := ⟨⟩
theorem main.tw13433434403654333388 : True := ⟨⟩
theorem main.tw4588738799956414479 : True := ⟨⟩
theorem main.tw13538414902891089991 : True := ⟨⟩
theorem main.tw11001622385964810982 : True := ⟨⟩
theorem main.tw11122251452892550798 : True := ⟨⟩
theorem main.tw4335910966286959084 : True := ⟨⟩
theorem main.tw6982158505162667209 : True := ⟨⟩
theorem main.tw5054592681714628026 : True := ⟨⟩
theorem main.tw13748651382086619886 : True := ⟨⟩
theorem main.tw16768480050744178236 : True := ⟨⟩
theorem main.tw11801641480320592950 : True := ⟨⟩
theorem main.tw14116258901397501558 : True := ⟨⟩
theorem main.tw12339486633059267018 : True := ⟨⟩
theorem main.tw10480133599824989816 : True := ⟨⟩
theorem main.tw4801019796111996920 : True := ⟨⟩
theorem main.tw17732091104000413229 : True := ⟨⟩
theorem main.tw16381980959767241870 : True := ⟨⟩
theorem main.tw9329782625190375798 : True := ⟨⟩
theorem main.tw17349828507643174764 : True := ⟨⟩
theorem main.tw7822347148725292140 : True := ⟨⟩
theorem main.tw5330137482974297522 : True := ⟨⟩
theorem main.tw17344839780428942418 : True := ⟨⟩
theorem main.tw17442377672721089886 : True := ⟨⟩
theorem main.tw14409748654668726151 : True := ⟨⟩
theorem main.tw2925776425995894714 : True := ⟨⟩
theorem main.tw4878024195029292589 : True := ⟨⟩
theorem main.tw2818215913512838189 : True := ⟨⟩
theorem main.tw7938124379273924960 : True := ⟨⟩
theorem main.tw9432906754913100419 : True := ⟨⟩
theorem main.tw3267506352983639151 : True := ⟨⟩
theorem main.tw15662467652954760656 : True := ⟨⟩
theorem main.tw5714297817612945589 : True := ⟨⟩
theorem main.tw727201121964547221 : True := ⟨⟩
theorem main.tw2591018911419354267 : True := ⟨⟩
theorem main.tw13866156564276429082 : True := ⟨⟩
theorem main.tw18345942743439504426 : True := ⟨⟩
theorem main.tw1284343163701477698 : True := ⟨⟩
theorem main.tw84514281460927790 : True := ⟨⟩
theorem main.tw757969810983933903 : True := ⟨⟩
theorem main.tw15182042088927537698 : True := ⟨⟩
theorem main.tw5165179375324350226 : True := ⟨⟩
theorem main.tw3630406633451347070 : True := ⟨⟩
theorem main.tw3550708062875898413 : True := ⟨⟩
theorem main.tw18398800829542192811 : True := ⟨⟩
theorem main.tw8440722530245238888 : True := ⟨⟩
theorem main.tw10297972270295956009 : True := ⟨⟩
theorem main.tw6498212960163673866 : True := ⟨⟩
theorem main.tw280481874740558024 : True := ⟨⟩
theorem main.tw652957937968812882 : True := ⟨⟩
theorem main.tw6099689264524860603 : True := ⟨⟩
theorem main.tw15443453874323421859 : True := ⟨⟩
theorem main.tw15525705244753957535 : True := ⟨⟩
theorem main.tw18303307991560051295 : True := ⟨⟩
theorem main.tw17210249984954947657 : True := ⟨⟩
theorem main.tw7291201710529191399 : True := ⟨⟩
theorem main.tw15834395710947032294 : True := ⟨⟩
theorem main.tw2911433417487810430 : True := ⟨⟩
theorem main.tw11648469112263746088 : True := ⟨⟩
theorem main.tw3412744423601906063 : True := ⟨⟩
theorem main.tw9767782249887908399 : True := ⟨⟩
theorem main.tw6521165335183232846 : True := ⟨⟩
theorem main.tw11888923222419618904 : True := ⟨⟩
theorem main.tw4840266357470665822 : True := ⟨⟩
theorem main.tw1790015737594900885 : True := ⟨⟩
theorem main.tw16441979001879675393 : True := ⟨⟩
theorem main.tw12158052936666111867 : True := ⟨⟩
theorem main.tw5013185972428660573 : True := ⟨⟩
theorem main.tw5768708046682631051 : True := ⟨⟩
theorem main.tw11209188420962459506 : True := ⟨⟩
theorem main.tw686864128682677561 : True := ⟨⟩
theorem main.tw3563127853227517201 : True := ⟨⟩
theorem main.tw14453371020696350650 : True := ⟨⟩
theorem main.tw5565504619827430955 : True := ⟨⟩
theorem main.tw12453483116619877857 : True := ⟨⟩
theorem main.tw2619486844233121682 : True := ⟨⟩
theorem main.tw2978445311985771476 : True := ⟨⟩
theorem main.tw13681423632140699375 : True := ⟨⟩
theorem main.tw17437174277582430087 : True := ⟨⟩
theorem main.tw11343196335435003072 : True := ⟨⟩
theorem main.tw11830923810597764417 : True := ⟨⟩
theorem main.tw4649883316461138903 : True := ⟨⟩
theorem main.tw4703324592164959565 : True := ⟨⟩
theorem main.tw5702855569557996282 : True := ⟨⟩
theorem main.tw1623195853881501448 : True := ⟨⟩
theorem main.tw4310228878472284329 : True := ⟨⟩
theorem main.tw16959661361015162744 : True := ⟨⟩
theorem main.tw1284967617690943513 : True := ⟨⟩
theorem main.tw4960754326464356880 : True := ⟨⟩
theorem main.tw14415632762500767900 : True := ⟨⟩
theorem main.tw9160032588005542685 : True := ⟨⟩
theorem main.tw6357531908561853707 : True := ⟨⟩
theorem main.tw10517235262075802054 : True := ⟨⟩
theorem main.tw4634538438036118838 : True := ⟨⟩
theorem main.tw8874004035559458439 : True := ⟨⟩
theorem main.tw12953558148630380205 : True := ⟨⟩
theorem main.tw7210885811916109378 : True := ⟨⟩
theorem main.tw7664301653060593791 : True := ⟨⟩
theorem main.tw5172733860109081237 : True := ⟨⟩
theorem main.tw1887654273250841056 : True := ⟨⟩
theorem main.tw202461495639692907 : True := ⟨⟩
theorem main.tw13846343841255299068 : True := ⟨⟩
theorem main.tw3985482593949860782 : True := ⟨⟩
theorem main.tw750194992705927200 : True := ⟨⟩
theorem main.tw2072994404298036584 : True := ⟨⟩
theorem main.tw10678755418281806533 : True := ⟨⟩
theorem main.tw7684331834570509447 : True := ⟨⟩
theorem main.tw12820903949589551787 : True := ⟨⟩
theorem main.tw12456801561626644367 : True := ⟨⟩
theorem main.tw1863683800879511184 : True := ⟨⟩
theorem main.tw7406679989375695003 : True := ⟨⟩
theorem main.tw8512846599769640567 : True := ⟨⟩
theorem main.tw14673909670066941863 : True := ⟨⟩
theorem main.tw2228332982408152750 : True := ⟨⟩
theorem main.tw7098780427933102582 : True := ⟨⟩
theorem main.tw16238369109891383347 : True := ⟨⟩
theorem main.tw17524808815578175191 : True := ⟨⟩
theorem main.tw5800097197477307618 : True := ⟨⟩
theorem main.tw15067221844328033466 : True := ⟨⟩
theorem main.tw16203443089297424273 : True := ⟨⟩
theorem main.tw8541053843603864128 : True := ⟨⟩
theorem main.tw15268431099393155739 : True := ⟨⟩
theorem main.tw5630227607048996149 : True := ⟨⟩
theorem main.tw15449954396954739307 : True := ⟨⟩
theorem main.tw16501684553446707135 : True := ⟨⟩
theorem main.tw16136480149535285781 : True := ⟨⟩
theorem main.tw12664087920147988344 : True := ⟨⟩
theorem main.tw10583265868896537019 : True := ⟨⟩
theorem main.tw7711332181109331799 : True := ⟨⟩
theorem main.tw4357975833179775930 : True := ⟨⟩
theorem main.tw10695546567524401486 : True := ⟨⟩
theorem main.tw17924518473618601469 : True := ⟨⟩
theorem main.tw2178821199819612820 : True := ⟨⟩
theorem main.tw6699343545518712911 : True := ⟨⟩
theorem main.tw4125460202920646613 : True := ⟨⟩
theorem main.tw16028392598184163056 : True := ⟨⟩
theorem main.tw9335689295537598954 : True := ⟨⟩
theorem main.tw11116706314288256233 : True := ⟨⟩
theorem main.tw6601557695192066909 : True := ⟨⟩
theorem main.tw3256599692197748821 : True := ⟨⟩
theorem main.tw3718984994144165473 : True := ⟨⟩
theorem main.tw4606060024949568140 : True := ⟨⟩
theorem main.tw9653041577274385481 : True := ⟨⟩
theorem main.tw3216743727515912729 : True := ⟨⟩
theorem main.tw16290095049648921356 : True := ⟨⟩
theorem main.tw1860108991126048101 : True := ⟨⟩
theorem main.tw17145312859027392966 : True := ⟨⟩
theorem main.tw4100163327406334815 : True := ⟨⟩
theorem main.tw17681501543332686566 : True := ⟨⟩
theorem main.tw7240273481961495799 : True := ⟨⟩
theorem main.tw7495849268563445211 : True := ⟨⟩
theorem main.tw14458546566710942977 : True := ⟨⟩
theorem main.tw10073286446643584993 : True := ⟨⟩
theorem main.tw7218384944330780783 : True := ⟨⟩
theorem main.tw11656252529945786486 : True := ⟨⟩
theorem main.tw16355354518699560987 : True := ⟨⟩
theorem main.tw9312217155191928949 : True := ⟨⟩
theorem main.tw13791738579797958002 : True := ⟨⟩
theorem main.tw6093991748022998109 : True := ⟨⟩
theorem main.tw12606780823912870227 : True := ⟨⟩
theorem main.tw14880191616899788239 : True := ⟨⟩
theorem main.tw13790279956208770657 : True := ⟨⟩
theorem main.tw8844696511426020488 : True := ⟨⟩
theorem main.tw16256566736842889220 : True := ⟨⟩
theorem main.tw2853208382243579297 : True := ⟨⟩
theorem main.tw9069977719596667413 : True := ⟨⟩
theorem main.tw13109910849429753268 : True := ⟨⟩
theorem main.tw17179648164711320676 : True := ⟨⟩
theorem main.tw1068812231199707816 : True := ⟨⟩
theorem main.tw16427579589696508901 : True := ⟨⟩
theorem main.tw6471150222350279623 : True := ⟨⟩
theorem main.tw12290903976309136502 : True := ⟨⟩
theorem main.tw16365892746055586307 : True := ⟨⟩
theorem main.tw6574944743104848904 : True := ⟨⟩
theorem main.tw15939135216810644357 : True := ⟨⟩
theorem main.tw18191531320663667130 : True := ⟨⟩
theorem main.tw1496641351508231228 : True := ⟨⟩
theorem main.tw13403097662674176414 : True := ⟨⟩
theorem main.tw13526917470146073910 : True := ⟨⟩
theorem main.tw8547835018877277807 : True := ⟨⟩
theorem main.tw13681261787169959198 : True := ⟨⟩
theorem main.tw10278875301165399962 : True := ⟨⟩
theorem main.tw16280118821670845564 : True := ⟨⟩
theorem main.tw1162353465806818218 : True := ⟨⟩
theorem main.tw268157518901931542 : True := ⟨⟩
theorem main.tw9957052238193980713 : True := ⟨⟩
theorem main.tw11926908473165273671 : True := ⟨⟩
theorem main.tw14368548984795427624 : True := ⟨⟩
theorem main.tw13036930404576180707 : True := ⟨⟩
theorem main.tw8470317417958147442 : True := ⟨⟩
theorem main.tw6889469565048147906 : True := ⟨⟩
theorem main.tw11605412728090389508 : True := ⟨⟩
theorem main.tw13273494133979066451 : True := ⟨⟩
theorem main.tw15810594319993825957 : True := ⟨⟩
theorem main.tw1031765399252574917 : True := ⟨⟩
theorem main.tw11481020460698763666 : True := ⟨⟩
theorem main.tw15641333041124299813 : True := ⟨⟩
theorem main.tw468188516431147137 : True := ⟨⟩
theorem main.tw7088440057446453555 : True := ⟨⟩
theorem main.tw5131000187625521842 : True := ⟨⟩
theorem main.tw11822278912455534105 : True := ⟨⟩
theorem main.tw11579708991523040051 : True := ⟨⟩
theorem main.tw16229319474554376097 : True := ⟨⟩
theorem main.tw1845388188213433419 : True := ⟨⟩
theorem main.tw9144134622846900584 : True := ⟨⟩
theorem main.tw14541128131288380829 : True := ⟨⟩
theorem main.tw15521857191610671232 : True := ⟨⟩
theorem main.tw9426429300236705255 : True := ⟨⟩
theorem main.tw12284946303946176864 : True := ⟨⟩
theorem main.tw1554912440253531867 : True := ⟨⟩
theorem main.tw6899241544822910019 : True := ⟨⟩
theorem main.tw4799217392094311150 : True := ⟨⟩
theorem main.tw12723535852535152271 : True := ⟨⟩
theorem main.tw10309699142624141507 : True := ⟨⟩
theorem main.tw6020760485785902299 : True := ⟨⟩
theorem main.tw13685464850760795979 : True := ⟨⟩
theorem main.tw14120260080095136841 : True := ⟨⟩
theorem main.tw9954550400196453248 : True := ⟨⟩
theorem main.tw9482223327213914921 : True := ⟨⟩
theorem main.tw7650005478333362737 : True := ⟨⟩
theorem main.tw16204744479138647222 : True := ⟨⟩
theorem main.tw6968316724324862529 : True := ⟨⟩
theorem main.tw5942491169022655432 : True := ⟨⟩
theorem main.tw12793961455207843180 : True := ⟨⟩
theorem main.tw14010230154986326984 : True := ⟨⟩
theorem main.tw1419027338852513248 : True := ⟨⟩
theorem main.tw2561493234371994082 : True := ⟨⟩
theorem main.tw3230919538582532175 : True := ⟨⟩
theorem main.tw8404755488631334696 : True := ⟨⟩
theorem main.tw15119470463916845940 : True := ⟨⟩
theorem main.tw14121201860285194534 : True := ⟨⟩
theorem main.tw2451230368645061193 : True := ⟨⟩
theorem main.tw17293040134813132398 : True := ⟨⟩
theorem main.tw13898727854132262300 : True := ⟨⟩
theorem main.tw11175315845038103690 : True := ⟨⟩
theorem main.tw17299735379877282444 : True := ⟨⟩
theorem main.tw2813829026317290181 : True := ⟨⟩
theorem main.tw2261421588700274638 : True := ⟨⟩
theorem main.tw9440510433579211515 : True := ⟨⟩
theorem main.tw4891462983210470464 : True := ⟨⟩
theorem main.tw13176017210958811282 : True := ⟨⟩
theorem main.tw332726020879770688 : True := ⟨⟩
theorem main.tw935179541032769765 : True := ⟨⟩
theorem main.tw4592004706911863615 : True := ⟨⟩
theorem main.tw7945186787910683591 : True := ⟨⟩
theorem main.tw3898492766431878890 : True := ⟨⟩
theorem main.tw3861505120740964055 : True := ⟨⟩
theorem main.tw3936477495029638182 : True := ⟨⟩
theorem main.tw16046785832879142669 : True := ⟨⟩
theorem main.tw9369852123599154598 : True := ⟨⟩
theorem main.tw16859033189492256807 : True := ⟨⟩
theorem main.tw836902708638354373 : True := ⟨⟩
theorem main.tw10436078037754071431 : True := ⟨⟩
theorem main.tw7250014487561225280 : True := ⟨⟩
theorem main.tw13560165558294956042 : True := ⟨⟩
theorem main.tw11543472635058493794 : True := ⟨⟩
theorem main.tw1096516976958778121 : True := ⟨⟩
theorem main.tw10390374173888912449 : True := ⟨⟩
theorem main.tw548545010330813591 : True := ⟨⟩
theorem main.tw6795767014284890813 : True := ⟨⟩
theorem main.tw3379733461541436291 : True := ⟨⟩
theorem main.tw9620926646237751989 : True := ⟨⟩
theorem main.tw2540495820296734350 : True := ⟨⟩
theorem main.tw9690013620090670815 : True := ⟨⟩
theorem main.tw2298914082760217031 : True := ⟨⟩
theorem main.tw5458665417225551837 : True := ⟨⟩
theorem main.tw9530600332976261937 : True := ⟨⟩
theorem main.tw9493952402113393094 : True := ⟨⟩
theorem main.tw16435655699322316512 : True := ⟨⟩
theorem main.tw2417395900657985767 : True := ⟨⟩
theorem main.tw9443520617062693981 : True := ⟨⟩
theorem main.tw2379418587039239955 : True := ⟨⟩
theorem main.tw9202362961687656120 : True := ⟨⟩
theorem main.tw5861190579751498335 : True := ⟨⟩
theorem main.tw4511402922630066149 : True := ⟨⟩
theorem main.tw13621330554479564797 : True := ⟨⟩
theorem main.tw13087847357843552312 : True := ⟨⟩
theorem main.tw1325930475059968393 : True := ⟨⟩
theorem main.tw16775770572179878173 : True := ⟨⟩
theorem main.tw10839992949745929630 : True := ⟨⟩
theorem main.tw16238430190936666235 : True := ⟨⟩
theorem main.tw17546056657857302062 : True := ⟨⟩
theorem main.tw12608305039502615393 : True := ⟨⟩
theorem main.tw12476972291821639335 : True := ⟨⟩
theorem main.tw7848025740061029041 : True := ⟨⟩
theorem main.tw14858570723701920263 : True := ⟨⟩
theorem main.tw1779850407545558931 : True := ⟨⟩
theorem main.tw7973527579126727508 : True := ⟨⟩
theorem main.tw208914938975835223 : True := ⟨⟩
theorem main.tw16191586338647638674 : True := ⟨⟩
theorem main.tw5600465124246279690 : True := ⟨⟩
theorem main.tw15471704449587110807 : True := ⟨⟩
theorem main.tw2190744131759121538 : True := ⟨⟩
theorem main.tw18356235372429024265 : True := ⟨⟩
theorem main.tw8511639783363027448 : True := ⟨⟩
theorem main.tw9386645067147707984 : True := ⟨⟩
theorem main.tw735178950134859665 : True := ⟨⟩
theorem main.tw8628463995273589525 : True := ⟨⟩
theorem main.tw12611677305408334490 : True := ⟨⟩
theorem main.tw17094576705328918404 : True := ⟨⟩
theorem main.tw4262874740152647446 : True := ⟨⟩
theorem main.tw10835955332524744044 : True := ⟨⟩
theorem main.tw3139610863597827358 : True := ⟨⟩
theorem main.tw13119030871068887809 : True := ⟨⟩
theorem main.tw8648143778464435181 : True := ⟨⟩
theorem main.tw9663910302974732577 : True := ⟨⟩
theorem main.tw3708749935247036590 : True := ⟨⟩
theorem main.tw10271462561417333343 : True := ⟨⟩
theorem main.tw7904360318250872725 : True := ⟨⟩
theorem main.tw8809643391664033257 : True := ⟨⟩
theorem main.tw11377735282057770108 : True := ⟨⟩
theorem main.tw12254554216366044628 : True := ⟨⟩
theorem main.tw15813965126469659277 : True := ⟨⟩
theorem main.tw13273283706769089801 : True := ⟨⟩
theorem main.tw12985563455672729498 : True := ⟨⟩
theorem main.tw18382997825090318735 : True := ⟨⟩
theorem main.tw16136933308854893207 : True := ⟨⟩
theorem main.tw3678926922749915011 : True := ⟨⟩
theorem main.tw14681639400702691960 : True := ⟨⟩
theorem main.tw12685957366688819421 : True := ⟨⟩
theorem main.tw16300817170888368660 : True := ⟨⟩
theorem main.tw15444968558782299529 : True := ⟨⟩
theorem main.tw11804117523773053968 : True := ⟨⟩
theorem main.tw9699293133549217295 : True := ⟨⟩
theorem main.tw9565188630546683335 : True := ⟨⟩
theorem main.tw17342739349943993621 : True := ⟨⟩
theorem main.tw12903161261186272290 : True := ⟨⟩
theorem main.tw9444755940702137107 : True := ⟨⟩
theorem main.tw11665721926869280828 : True := ⟨⟩
theorem main.tw11651895032536297775 : True := ⟨⟩
theorem main.tw156074481368604375 : True := ⟨⟩
theorem main.tw1734708372850746524 : True := ⟨⟩
theorem main.tw16276725121630806347 : True := ⟨⟩
theorem main.tw2691526960798580178 : True := ⟨⟩
theorem main.tw2008451683862899579 : True := ⟨⟩
theorem main.tw5733679174803048569 : True := ⟨⟩
theorem main.tw12186387220061091099 : True := ⟨⟩
theorem main.tw8757057635001978316 : True := ⟨⟩
theorem main.tw2184172125623563289 : True := ⟨⟩
theorem main.tw5142021981082635793 : True := ⟨⟩
theorem main.tw17775395293607656282 : True := ⟨⟩
theorem main.tw6958343538655003287 : True := ⟨⟩
theorem main.tw11292786071654124186 : True := ⟨⟩
theorem main.tw9824212040355354723 : True := ⟨⟩
theorem main.tw4609130545533016343 : True := ⟨⟩
theorem main.tw4395466900922544890 : True := ⟨⟩
theorem main.tw6429686504428160259 : True := ⟨⟩
theorem main.tw4952695281440224590 : True := ⟨⟩
theorem main.tw244272740328328915 : True := ⟨⟩
theorem main.tw9870349952446189086 : True := ⟨⟩
theorem main.tw13090235224947412142 : True := ⟨⟩
theorem main.tw1982642858812592819 : True := ⟨⟩
theorem main.tw17294303086990883594 : True := ⟨⟩
theorem main.tw7009055538952385103 : True := ⟨⟩
theorem main.tw4943218087376048383 : True := ⟨⟩
theorem main.tw16005078268224939753 : True := ⟨⟩
theorem main.tw5102537645505000496 : True := ⟨⟩
theorem main.tw12112399904496239578 : True := ⟨⟩
theorem main.tw7929639667017200051 : True := ⟨⟩
theorem main.tw8594527841530898396 : True := ⟨⟩
theorem main.tw18369451303578182252 : True := ⟨⟩
theorem main.tw1432834438766924960 : True := ⟨⟩
theorem main.tw7002617117321725329 : True := ⟨⟩
theorem main.tw13393594064635449608 : True := ⟨⟩
theorem main.tw17276676786256513934 : True := ⟨⟩
theorem main.tw3146979741847770951 : True := ⟨⟩
theorem main.tw13612386364232354495 : True := ⟨⟩
theorem main.tw8198635786116184702 : True := ⟨⟩
theorem main.tw7253517103421118539 : True := ⟨⟩
theorem main.tw13175212335891660237 : True := ⟨⟩
theorem main.tw11650857210656308808 : True := ⟨⟩
theorem main.tw2435090854577023546 : True := ⟨⟩
theorem main.tw18108192847358647101 : True := ⟨⟩
theorem main.tw16294229565372462788 : True := ⟨⟩
theorem main.tw15124233344536562547 : True := ⟨⟩
theorem main.tw16744341766133690325 : True := ⟨⟩
theorem main.tw14578142047689139454 : True := ⟨⟩
theorem main.tw17518984032136438799 : True := ⟨⟩
theorem main.tw15272384756033816549 : True := ⟨⟩
theorem main.tw8729215753904597756 : True := ⟨⟩
theorem main.tw2922722088657812038 : True := ⟨⟩
theorem main.tw6363703139885310264 : True := ⟨⟩
theorem main.tw5818237970382791039 : True := ⟨⟩
theorem main.tw5021990489002946995 : True := ⟨⟩
theorem main.tw15887338096939263381 : True := ⟨⟩
theorem main.tw7789222688201250933 : True := ⟨⟩
theorem main.tw2379228892226148013 : True := ⟨⟩
theorem main.tw3410821142717238429 : True := ⟨⟩
theorem main.tw16152042100665958553 : True := ⟨⟩
theorem main.tw2992638776060268668 : True := ⟨⟩
theorem main.tw2703845700531461890 : True := ⟨⟩
theorem main.tw944561791812335471 : True := ⟨⟩
theorem main.tw7596539548893567067 : True := ⟨⟩
theorem main.tw15073143240194224712 : True := ⟨⟩
theorem main.tw9746696674357601180 : True := ⟨⟩
theorem main.tw12853263043071137589 : True := ⟨⟩
theorem main.tw4462190400977132941 : True := ⟨⟩
theorem main.tw12235109030325827999 : True := ⟨⟩
theorem main.tw14406413991671459603 : True := ⟨⟩
theorem main.tw18277887891688102822 : True := ⟨⟩
theorem main.tw12872673566709696761 : True := ⟨⟩
theorem main.tw1078662318413408276 : True := ⟨⟩
theorem main.tw7121938363519269900 : True := ⟨⟩
theorem main.tw15091636007760851431 : True := ⟨⟩
theorem main.tw6046914484701750178 : True := ⟨⟩
theorem main.tw15460443108094267759 : True := ⟨⟩
theorem main.tw12577089576051996047 : True := ⟨⟩
theorem main.tw8652737178896298733 : True := ⟨⟩
theorem main.tw5096790010580003632 : True := ⟨⟩
theorem main.tw94607088446320870 : True := ⟨⟩
theorem main.tw2142373446539770622 : True := ⟨⟩
theorem main.tw4400017226751686058 : True := ⟨⟩
theorem main.tw16218993716828157846 : True := ⟨⟩
theorem main.tw2528932580032954879 : True := ⟨⟩
theorem main.tw12105363282288363319 : True := ⟨⟩
theorem main.tw2443227327843618036 : True := ⟨⟩
theorem main.tw14903051288947113723 : True := ⟨⟩
theorem main.tw1825977663594718130 : True := ⟨⟩
theorem main.tw5498605039287053057 : True := ⟨⟩
theorem main.tw7040763872302975501 : True := ⟨⟩
theorem main.tw16343906396252043406 : True := ⟨⟩
theorem main.tw9333339874929942101 : True := ⟨⟩
theorem main.tw14452046468698080874 : True := ⟨⟩
theorem main.tw10916717783038204558 : True := ⟨⟩
theorem main.tw18027279399861113557 : True := ⟨⟩
theorem main.tw18283768689549374540 : True := ⟨⟩
theorem main.tw5159528265767506360 : True := ⟨⟩
theorem main.tw1417174764347108541 : True := ⟨⟩
theorem main.tw11527100260467649386 : True := ⟨⟩
theorem main.tw14386624947042787071 : True := ⟨⟩
theorem main.tw10804134724067085259 : True := ⟨⟩
theorem main.tw3539627628400702853 : True := ⟨⟩
theorem main.tw18270773166306141978 : True := ⟨⟩
theorem main.tw15250807170023008163 : True := ⟨⟩
theorem main.tw13613844423972651391 : True := ⟨⟩
theorem main.tw12294913915507317621 : True := ⟨⟩
theorem main.tw633595507753179303 : True := ⟨⟩
theorem main.tw2864606846018454059 : True := ⟨⟩
theorem main.tw9881309371292612907 : True := ⟨⟩
theorem main.tw2680804952358657892 : True := ⟨⟩
theorem main.tw16672347593970394415 : True := ⟨⟩
theorem main.tw17681743755420925514 : True := ⟨⟩
theorem main.tw6771591437671112567 : True := ⟨⟩
theorem main.tw2992056685137445369 : True := ⟨⟩
theorem main.tw10899094029452054437 : True := ⟨⟩
theorem main.tw9299876090191300334 : True := ⟨⟩
theorem main.tw10799424930603608796 : True := ⟨⟩
theorem main.tw18184679981460683836 : True := ⟨⟩
theorem main.tw1568190611963401656 : True := ⟨⟩
theorem main.tw18250705095706459558 : True := ⟨⟩
theorem main.tw14227087324130724127 : True := ⟨⟩
theorem main.tw13173194763038928779 : True := ⟨⟩
theorem main.tw1381488885977479087 : True := ⟨⟩
theorem main.tw17023186693513284007 : True := ⟨⟩
theorem main.tw10938402098977778470 : True := ⟨⟩
theorem main.tw16772991365417982484 : True := ⟨⟩
theorem main.tw7466017828420861538 : True := ⟨⟩
theorem main.tw12903915928643529109 : True := ⟨⟩
theorem main.tw9077120990456222290 : True := ⟨⟩
theorem main.tw16148830795289512010 : True := ⟨⟩
theorem main.tw16515390481915438290 : True := ⟨⟩
theorem main.tw17467276233706154064 : True := ⟨⟩
theorem main.tw14295980150073339262 : True := ⟨⟩
theorem main.tw4840137780045317266 : True := ⟨⟩
theorem main.tw4992951870410028605 : True := ⟨⟩
theorem main.tw497136227652113930 : True := ⟨⟩
theorem main.tw12812171766507625038 : True := ⟨⟩
theorem main.tw3648130295315601696 : True := ⟨⟩
theorem main.tw7794447553816605337 : True := ⟨⟩
theorem main.tw1897650600844092497 : True := ⟨⟩
theorem main.tw17557205499575929874 : True := ⟨⟩
theorem main.tw1391527577248789681 : True := ⟨⟩
theorem main.tw1792248080742510491 : True := ⟨⟩
theorem main.tw858899439758091169 : True := ⟨⟩
theorem main.tw3087296514247745505 : True := ⟨⟩
theorem main.tw13600565011557826895 : True := ⟨⟩
theorem main.tw18235984252551956240 : True := ⟨⟩
theorem main.tw14129796398099195522 : True := ⟨⟩
theorem main.tw1390720707977671279 : True := ⟨⟩
theorem main.tw12967587422831333594 : True := ⟨⟩
theorem main.tw12476311014070758782 : True := ⟨⟩
theorem main.tw13121950329725443542 : True := ⟨⟩
theorem main.tw10434708572517896522 : True := ⟨⟩
theorem main.tw10705968754666226739 : True := ⟨⟩
theorem main.tw4375538733323876564 : True := ⟨⟩
theorem main.tw7379146703158643333 : True := ⟨⟩
theorem main.tw14891094757345406116 : True := ⟨⟩
theorem main.tw867116294927962039 : True := ⟨⟩
theorem main.tw15159490273619958664 : True := ⟨⟩
theorem main.tw12428166251546661703 : True := ⟨⟩
theorem main.tw4304834178718691396 : True := ⟨⟩
theorem main.tw12598917264982991858 : True := ⟨⟩
theorem main.tw14667917501914195118 : True := ⟨⟩
theorem main.tw3519620770301490914 : True := ⟨⟩
theorem main.tw7445014851313175896 : True := ⟨⟩
theorem main.tw1177658166500609482 : True := ⟨⟩
theorem main.tw6250745803369192323 : True := ⟨⟩
theorem main.tw16536999046426117148 : True := ⟨⟩
theorem main.tw10043645473394411141 : True := ⟨⟩
theorem main.tw11145402791356267719 : True := ⟨⟩
theorem main.tw17732451789624135708 : True := ⟨⟩
theorem main.tw8054615355715169965 : True := ⟨⟩
theorem main.tw15218124028859059513 : True := ⟨⟩
theorem main.tw16195250350033146165 : True := ⟨⟩
theorem main.tw12060422125218720375 : True := ⟨⟩
theorem main.tw6502167394331606738 : True := ⟨⟩
theorem main.tw13320777612471585035 : True := ⟨⟩
theorem main.tw4819436793316677810 : True := ⟨⟩
theorem main.tw4120760224539185370 : True := ⟨⟩
theorem main.tw7645214217008657559 : True := ⟨⟩
theorem main.tw13783381036380690036 : True := ⟨⟩
theorem main.tw2457120964296137359 : True := ⟨⟩
theorem main.tw14006705621855905977 : True := ⟨⟩
theorem main.tw3965608284049720903 : True := ⟨⟩
theorem main.tw272789946186954341 : True := ⟨⟩
theorem main.tw1105270846461842697 : True := ⟨⟩
theorem main.tw13865402017588289906 : True := ⟨⟩
theorem main.tw2434013755359952725 : True := ⟨⟩
theorem main.tw11874431644581681229 : True := ⟨⟩
theorem main.tw16632795682647451593 : True := ⟨⟩
theorem main.tw14720004185528982391 : True := ⟨⟩
theorem main.tw3131981697515881112 : True := ⟨⟩
theorem main.tw320557751311579839 : True := ⟨⟩
theorem main.tw18396120882820736952 : True := ⟨⟩
theorem main.tw13442519625005806600 : True := ⟨⟩
theorem main.tw17065970260752692450 : True := ⟨⟩
theorem main.tw66982638668248765 : True := ⟨⟩
theorem main.tw10053362868999418749 : True := ⟨⟩
theorem main.tw4730134336746295413 : True := ⟨⟩
theorem main.tw2674761109334423214 : True := ⟨⟩
theorem main.tw6761048287992567104 : True := ⟨⟩
theorem main.tw1112963673480286534 : True := ⟨⟩
theorem main.tw5147269608146345041 : True := ⟨⟩
theorem main.tw17638393399531288113 : True := ⟨⟩
theorem main.tw2683141312469526539 : True := ⟨⟩
theorem main.tw5667051821671876906 : True := ⟨⟩
theorem main.tw12097270978576341016 : True := ⟨⟩
theorem main.tw10196920075564382162 : True := ⟨⟩
theorem main.tw13817299995192029894 : True := ⟨⟩
theorem main.tw18371382607465720849 : True := ⟨⟩
theorem main.tw14417502097949002917 : True := ⟨⟩
theorem main.tw3581955250672418209 : True := ⟨⟩
theorem main.tw210822286310616272 : True := ⟨⟩
theorem main.tw18337712513834754415 : True := ⟨⟩
theorem main.tw16239573490109993236 : True := ⟨⟩
theorem main.tw14070985297238078344 : True := ⟨⟩
theorem main.tw5134070450405915007 : True := ⟨⟩
theorem main.tw16741365473365742500 : True := ⟨⟩
theorem main.tw11547382934132139519 : True := ⟨⟩
theorem main.tw5836199513425854279 : True := ⟨⟩
theorem main.tw10303968668570466222 : True := ⟨⟩
theorem main.tw9844532520808570107 : True := ⟨⟩
theorem main.tw18267052350312620909 : True := ⟨⟩
theorem main.tw17200071697881280183 : True := ⟨⟩
theorem main.tw13761123172137178225 : True := ⟨⟩
theorem main.tw16781784789281860958 : True := ⟨⟩
theorem main.tw12405428267636687703 : True := ⟨⟩
theorem main.tw9601020550826809897 : True := ⟨⟩
theorem main.tw13437355924590775721 : True := ⟨⟩
theorem main.tw8699049650045938238 : True := ⟨⟩
theorem main.tw2940311884806191311 : True := ⟨⟩
theorem main.tw3310860890811097582 : True := ⟨⟩
theorem main.tw3993828384424069463 : True := ⟨⟩
theorem main.tw12930125569691871565 : True := ⟨⟩
theorem main.tw12083584854881789436 : True := ⟨⟩
theorem main.tw833366181672599839 : True := ⟨⟩
theorem main.tw13046646069208072009 : True := ⟨⟩
theorem main.tw798814199508267506 : True := ⟨⟩
theorem main.tw2310633646459873002 : True := ⟨⟩
theorem main.tw11745012251463277581 : True := ⟨⟩
theorem main.tw8882529816095103477 : True := ⟨⟩
theorem main.tw17367629061461438135 : True := ⟨⟩
theorem main.tw15131217093995405917 : True := ⟨⟩
theorem main.tw202123991815840445 : True := ⟨⟩
theorem main.tw15743930626855181957 : True := ⟨⟩
theorem main.tw18238190117704969506 : True := ⟨⟩
theorem main.tw2468735287043536190 : True := ⟨⟩
theorem main.tw4300612742597636624 : True := ⟨⟩
theorem main.tw16438527106512547009 : True := ⟨⟩
theorem main.tw783142212168057530 : True := ⟨⟩
theorem main.tw564327466094411562 : True := ⟨⟩
theorem main.tw15015111288849602867 : True := ⟨⟩
theorem main.tw11012129470220845136 : True := ⟨⟩
theorem main.tw4187923210075081884 : True := ⟨⟩
theorem main.tw5145756777116517348 : True := ⟨⟩
theorem main.tw6020624907299633524 : True := ⟨⟩
theorem main.tw14263429483411347241 : True := ⟨⟩
theorem main.tw18350620168412646394 : True := ⟨⟩
theorem main.tw239484914142363780 : True := ⟨⟩
theorem main.tw7748162344757003694 : True := ⟨⟩
theorem main.tw17500773473612833888 : True := ⟨⟩
theorem main.tw1426165739836719336 : True := ⟨⟩
theorem main.tw3884352726974036912 : True := ⟨⟩
theorem main.tw10833408379140661266 : True := ⟨⟩
theorem main.tw517253545763640812 : True := ⟨⟩
theorem main.tw9639872857315793279 : True := ⟨⟩
theorem main.tw2737031353948269604 : True := ⟨⟩
theorem main.tw17900695361700684923 : True := ⟨⟩
theorem main.tw13670416772910508549 : True := ⟨⟩
theorem main.tw9149475249158978189 : True := ⟨⟩
theorem main.tw1907168138500459487 : True := ⟨⟩
theorem main.tw2978360442360904238 : True := ⟨⟩
theorem main.tw3186847941270157303 : True := ⟨⟩
theorem main.tw5232577563562976299 : True := ⟨⟩
theorem main.tw2613873015034283888 : True := ⟨⟩
theorem main.tw12968591962578011314 : True := ⟨⟩
theorem main.tw6876659525886429291 : True := ⟨⟩
theorem main.tw7366966349755769390 : True := ⟨⟩
theorem main.tw1441878909636661941 : True := ⟨⟩
theorem main.tw362101514219434311 : True := ⟨⟩
theorem main.tw15682473582396170696 : True := ⟨⟩
theorem main.tw3088077927293614186 : True := ⟨⟩
theorem main.tw7859541408058562095 : True := ⟨⟩
theorem main.tw2868879096931255247 : True := ⟨⟩
theorem main.tw14058549128469331148 : True := ⟨⟩
theorem main.tw2558952935377211442 : True := ⟨⟩
theorem main.tw733755431233827319 : True := ⟨⟩
theorem main.tw15968557084061499276 : True := ⟨⟩
theorem main.tw1318229201235836783 : True := ⟨⟩
theorem main.tw16778000889299214070 : True := ⟨⟩
theorem main.tw1303870235021155574 : True := ⟨⟩
theorem main.tw8805413051807045613 : True := ⟨⟩
theorem main.tw15036140292866834066 : True := ⟨⟩
theorem main.tw14629243384345626083 : True := ⟨⟩
theorem main.tw1072636097423993065 : True := ⟨⟩
theorem main.tw13934254615512129870 : True := ⟨⟩
theorem main.tw5231500133666706133 : True := ⟨⟩
theorem main.tw12719230891847962442 : True := ⟨⟩
theorem main.tw11320765536956949449 : True := ⟨⟩
theorem main.tw7033201789201947253 : True := ⟨⟩
theorem main.tw1073955365300943949 : True := ⟨⟩
theorem main.tw15886317987272897667 : True := ⟨⟩
theorem main.tw3008196657469156795 : True := ⟨⟩
theorem main.tw11110832240473757052 : True := ⟨⟩
theorem main.tw7659335649736619204 : True := ⟨⟩
theorem main.tw1446694761647268009 : True := ⟨⟩
theorem main.tw5055280753450627128 : True := ⟨⟩
theorem main.tw9836801404997342575 : True := ⟨⟩
theorem main.tw6081752106558320710 : True := ⟨⟩
theorem main.tw4153403021248529786 : True := ⟨⟩
theorem main.tw7264783172807538105 : True := ⟨⟩
theorem main.tw7630305487558755245 : True := ⟨⟩
theorem main.tw11601682451327219109 : True := ⟨⟩
theorem main.tw12884846405606864888 : True := ⟨⟩
theorem main.tw10815909221013692612 : True := ⟨⟩
theorem main.tw16765954575990112803 : True := ⟨⟩
theorem main.tw16438014652984670090 : True := ⟨⟩
theorem main.tw15346822135443404404 : True := ⟨⟩
theorem main.tw3958915594437787476 : True := ⟨⟩
theorem main.tw1855208217236249986 : True := ⟨⟩
theorem main.tw6773626534007703490 : True := ⟨⟩
theorem main.tw1583248505384213891 : True := ⟨⟩
theorem main.tw10980123507247645758 : True := ⟨⟩
theorem main.tw3016572388942527259 : True := ⟨⟩
theorem main.tw7035012547776903383 : True := ⟨⟩
theorem main.tw878727644738817739 : True := ⟨⟩
theorem main.tw11005193663938795516 : True := ⟨⟩
theorem main.tw8624647050476810405 : True := ⟨⟩
theorem main.tw9576374502609186548 : True := ⟨⟩
theorem main.tw16502267668958568077 : True := ⟨⟩
theorem main.tw7548181410930959757 : True := ⟨⟩
theorem main.tw12195588698423795295 : True := ⟨⟩
theorem main.tw13123296091798268284 : True := ⟨⟩
theorem main.tw16288059979852645152 : True := ⟨⟩
theorem main.tw16197700647612915172 : True := ⟨⟩
theorem main.tw7566708949256337297 : True := ⟨⟩
theorem main.tw1382604328053016238 : True := ⟨⟩
theorem main.tw12353813775906059566 : True := ⟨⟩
theorem main.tw10328587823670452498 : True := ⟨⟩
theorem main.tw16035636102840645184 : True := ⟨⟩
theorem main.tw11576230927637898173 : True := ⟨⟩
theorem main.tw8848428510025427425 : True := ⟨⟩
theorem main.tw869616941618530944 : True := ⟨⟩
theorem main.tw6819746189605800328 : True := ⟨⟩
theorem main.tw17205431337810411811 : True := ⟨⟩
theorem main.tw7225521102398529633 : True := ⟨⟩
theorem main.tw9154938123599455950 : True := ⟨⟩
theorem main.tw11315334805740100097 : True := ⟨⟩
theorem main.tw15163031477218665325 : True := ⟨⟩
theorem main.tw12050710921934823414 : True := ⟨⟩
theorem main.tw12148787975849213767 : True := ⟨⟩
theorem main.tw7924682654823194982 : True := ⟨⟩
theorem main.tw15968590688784803213 : True := ⟨⟩
theorem main.tw6413115949845201275 : True := ⟨⟩
theorem main.tw6732683342976120483 : True := ⟨⟩
theorem main.tw9203716534745708512 : True := ⟨⟩
theorem main.tw15893691471082726865 : True := ⟨⟩
theorem main.tw13562059985172378005 : True := ⟨⟩
theorem main.tw6991051906849787811 : True := ⟨⟩
theorem main.tw925267241579179362 : True := ⟨⟩
theorem main.tw2544298430078641640 : True := ⟨⟩
theorem main.tw12435918809077080684 : True := ⟨⟩
theorem main.tw15389327945418215068 : True := ⟨⟩
theorem main.tw3554724492371011600 : True := ⟨⟩
theorem main.tw15643031011164770099 : True := ⟨⟩
theorem main.tw4094807246124668419 : True := ⟨⟩
theorem main.tw9272406366132598344 : True := ⟨⟩
theorem main.tw4867594002200624942 : True := ⟨⟩
theorem main.tw3107410153937982541 : True := ⟨⟩
theorem main.tw13323652809882095824 : True := ⟨⟩
theorem main.tw1013997585769912673 : True := ⟨⟩
theorem main.tw3379215592710810542 : True := ⟨⟩
theorem main.tw18324848782513282653 : True := ⟨⟩
theorem main.tw6733809563212269156 : True := ⟨⟩
theorem main.tw13082016621023770337 : True := ⟨⟩
theorem main.tw15065305084719027114 : True := ⟨⟩
theorem main.tw14116783088108353342 : True := ⟨⟩
theorem main.tw17583313224497399901 : True := ⟨⟩
theorem main.tw5076374387644958804 : True := ⟨⟩
theorem main.tw14131743086799626953 : True := ⟨⟩
theorem main.tw17079325164956456438 : True := ⟨⟩
theorem main.tw9257701769616213584 : True := ⟨⟩
theorem main.tw144500467268121906 : True := ⟨⟩
theorem main.tw14292037427810857913 : True := ⟨⟩
theorem main.tw18320578867353144272 : True := ⟨⟩
theorem main.tw972021504454075326 : True := ⟨⟩
theorem main.tw12028935686920467596 : True := ⟨⟩
theorem main.tw17189560309898352479 : True := ⟨⟩
theorem main.tw15468000139907181785 : True := ⟨⟩
theorem main.tw4007461514410222964 : True := ⟨⟩
theorem main.tw8055458335546875267 : True := ⟨⟩
theorem main.tw4158608836003185468 : True := ⟨⟩
theorem main.tw2082333889016646126 : True := ⟨⟩
theorem main.tw4326401904490494673 : True := ⟨⟩
theorem main.tw16405295038616099146 : True := ⟨⟩
theorem main.tw12287596359008651027 : True := ⟨⟩
theorem main.tw17370264474060839139 : True := ⟨⟩
theorem main.tw10023216429234749859 : True := ⟨⟩
theorem main.tw15320287906085699310 : True := ⟨⟩
theorem main.tw5242006674047390409 : True := ⟨⟩
theorem main.tw14766382537209830674 : True := ⟨⟩
theorem main.tw11985843751818611632 : True := ⟨⟩
theorem main.tw13871052462740130076 : True := ⟨⟩
theorem main.tw7257662411179477739 : True := ⟨⟩
theorem main.tw11812318650792773407 : True := ⟨⟩
theorem main.tw5735058541856893287 : True := ⟨⟩
theorem main.tw8332657864986599165 : True := ⟨⟩
theorem main.tw2673703584191709704 : True := ⟨⟩
theorem main.tw6312091815898468018 : True := ⟨⟩
theorem main.tw16891615732304830211 : True := ⟨⟩
theorem main.tw1283526657002427284 : True := ⟨⟩
theorem main.tw11118022616448068574 : True := ⟨⟩
theorem main.tw12184192518910918996 : True := ⟨⟩
theorem main.tw8836684673375585528 : True := ⟨⟩
theorem main.tw12370082323872129008 : True := ⟨⟩
theorem main.tw961370681766752028 : True := ⟨⟩
theorem main.tw140484726810584974 : True := ⟨⟩
theorem main.tw13977479495569725478 : True := ⟨⟩
theorem main.tw16747871750915486772 : True := ⟨⟩
theorem main.tw13234269625008490304 : True := ⟨⟩
theorem main.tw8826075148503451808 : True := ⟨⟩
theorem main.tw2395697343598037184 : True := ⟨⟩
theorem main.tw9097544619300778498 : True := ⟨⟩
theorem main.tw11034916536091838146 : True := ⟨⟩
theorem main.tw8386956399160234941 : True := ⟨⟩
theorem main.tw6956365070816283294 : True := ⟨⟩
theorem main.tw11163015120005115923 : True := ⟨⟩
theorem main.tw1829363785552158327 : True := ⟨⟩
theorem main.tw1687537637806219265 : True := ⟨⟩
theorem main.tw17238589132646606832 : True := ⟨⟩
theorem main.tw10758804782543124382 : True := ⟨⟩
theorem main.tw11923579568519453046 : True := ⟨⟩
theorem main.tw6408195481249254913 : True := ⟨⟩
theorem main.tw5197162745757122531 : True := ⟨⟩
theorem main.tw5791107954587784898 : True := ⟨⟩
theorem main.tw2928028564007261197 : True := ⟨⟩
set_option Elab.async true in
theorem main : PySem.Challenge.rw_te0076_01.Holds := by
  w_on; o_law; k_head; (case hw => w_witness2)
  (try clear main)
  w_top off
  have ctr_is_invalid {w : World} {loose : List Str} {mean : ExcName → Option Value} {mg mb : Str → Option Value} {c : Int} {tc : Tok} : CtrC PySem.Challenge.rw_te0076_01.row.prog w (main.heap_1_39 w.params) (Top main.view_1_40 loose mean mg mb) 490 900 (.ref 84) ⟨[.int c tc], []⟩ [] (noF fun v l => ∃ b, v = .bool b ∧ l = []) := by
    as_aux_lemma =>
      k_with_none
      k_with "pos" => (repeat' (first | exact Mine.Internal.PosL.nil | (apply Mine.Internal.PosL.cons 0; exact rfl) | (apply Mine.Internal.PosL.cons 1; exact rfl) | (apply Mine.Internal.PosL.cons 2; exact rfl) | (apply Mine.Internal.PosL.cons 3; exact rfl) | (apply Mine.Internal.PosL.cons 4; exact rfl) | (apply Mine.Internal.PosL.cons 5; exact rfl) | (apply Mine.Internal.PosL.cons 6; exact rfl) | (apply Mine.Internal.PosL.cons 7; exact rfl) | (apply Mine.Internal.PosL.cons 8; exact rfl) | (apply Mine.Internal.PosL.cons 9; exact rfl) | (apply Mine.Internal.PosL.cons 10; exact rfl) | (apply Mine.Internal.PosL.cons 11; exact rfl) | (apply Mine.Internal.PosL.cons 12; exact rfl) | (apply Mine.Internal.PosL.cons 13; exact rfl) | (apply Mine.Internal.PosL.cons 14; exact rfl) | (apply Mine.Internal.PosL.cons 15; exact rfl) | (apply Mine.Internal.PosL.cons 16; exact rfl) | (apply Mine.Internal.PosL.cons 17; exact rfl) | (apply Mine.Internal.PosL.cons 18; exact rfl) | (apply Mine.Internal.PosL.cons 19; exact rfl) | (apply Mine.Internal.PosL.cons 20; exact rfl) | (apply Mine.Internal.PosL.cons 21; exact rfl) | (apply Mine.Internal.PosL.cons 22; exact rfl) | (apply Mine.Internal.PosL.cons 23; exact rfl)))
      k_with "slt" => exact Mine.Internal.Srt.lt (by with_reducible assumption) (by ((repeat (first | (with_reducible_and_instances refine Mine.Internal.Aft.here ?_; (repeat (first | with_reducible_and_instances exact List.Mem.head _ | with_reducible_and_instances refine List.Mem.tail _ ?_)); done) | with_reducible refine Mine.Internal.Aft.there ?_)); all_goals fail))
      k_with "upd" => (exact Mine.Internal.Srt.updP (by with_reducible assumption) (by repeat' (first | exact Mine.Internal.UpdI.head | refine' Mine.Internal.UpdI.tail ?_)) (by k_dflt (k_extra "pos")) (by exact rfl))
      k_with "all" => exact Mine.Internal.Ks.ne_all (by with_reducible assumption) (by first | exact .inr (by k_extra "slt") | exact .inl (by k_extra "slt"))
      k_with "ne" => (refine neN ?_; first | exact Mine.Internal.Srt.ne (by with_reducible assumption) (by with_reducible solve_by_elim (maxDepth := 40) only [Mine.Internal.Apart.l, Mine.Internal.Apart.r, Mine.Internal.Apart.t, List.Mem.head, List.Mem.tail]) | ((try dsimp only); omega))
      k_with "lt" => (intro h9l; first | ((with_reducible rename Mine.Internal.Srt _ => S8); (first | (have S9 := Mine.Internal.Srt.grow S8 (h9l (_, _) (by k_dflt k_mem)); clear S8) | (have S9 := Mine.Internal.Srt.grow S8.tl (h9l (_, _) (by k_dflt k_mem)); clear S8) | (have S9 := Mine.Internal.Srt.grow S8.tl.tl (h9l (_, _) (by k_dflt k_mem)); clear S8)); clear h9l) | (replace h9l := allLt_of h9l; simp only [AllLt, and_true] at h9l))
      k_with "execs cons" => (k_here; (with_reducible show wpAny _ _ _ _ _ (Shared.mk _ _ _ (_ + _) _)); (refine Mine.Internal.gentoks ?_); intro tkg9 htk9; (try dsimp only at htk9))
      k_with "ite" => (k_here; k_openite; first
      | (refine ite_pos ?hq_isinv ?_; (case hq_isinv => first | (simp only [decide_eq_true_eq, beq_iff_eq, bne_iff_ne, ne_eq, Bool.not_eq_true', decide_eq_false_iff_not]; omega) | (simp; done)))
      | (refine ite_neg ?hq_isinv ?_; (case hq_isinv => first | (simp only [decide_eq_true_eq, beq_iff_eq, bne_iff_ne, ne_eq, Bool.not_eq_true', decide_eq_false_iff_not]; omega) | (simp; done))))
      k_with "size" => k_dflt (first | exact Nat.le_of_ble_eq_true rfl | ((with_reducible show Array.size (List.toArray _) ≤ PySem.sizeLine); rw [List.size_toArray, PySem.sizeLine_eq]; refine Nat.le_trans (m := 100002) ?_ (Nat.le_of_ble_eq_true rfl); first | with_reducible assumption | exact Nat.le_trans (m := 100000) (by with_reducible assumption) (Nat.le_of_ble_eq_true rfl)))
      k_with "subscriptTail Name Constant ref int" => k_extra "subscriptTail"
      k_with "tok" => (first | exact Nat.le_add_left 1 _ | with_reducible assumption | exact Nat.le_trans (Nat.le_add_left 1 _) (by with_reducible assumption))
      k_with "next" => (first | ((with_reducible refine Mine.Internal.nextS (g := gens9) (d := dr9) (o := os9) ?_); intro qk9 tkg9) | ((with_reducible refine Mine.Internal.lastS (g := gens9) (d := dr9) (o := os9) ?_); intro tkg9) | (with_reducible refine Mine.Internal.nilS ?_) | (with_reducible refine Mine.Internal.fin9 ?_) | (with_reducible refine Mine.Internal.fin0 ?_) | (with_reducible refine Mine.Internal.finS9 ?_) | (with_reducible refine Mine.Internal.finS0 ?_) | ((with_reducible refine Mine.Internal.nextU (g := gens9) (d := dr9) (o := os9) ?_ ?_); (k_extra "tok"); intro qk9 tkg9) | ((with_reducible refine Mine.Internal.lastU (g := gens9) (d := dr9) (o := os9) ?_ ?_); (k_extra "tok"); intro tkg9) | ((with_reducible refine Mine.Internal.nextZ (g := gens9) (d := dr9) (o := os9) ?_); intro qk9 tkg9) | ((with_reducible refine Mine.Internal.lastZ (g := gens9) (d := dr9) (o := os9) ?_); intro tkg9))
      k_with "execs cons" => k_extra "next"
      k_with "eval Constant int" => (with_reducible refine Mine.Internal.c_int (g := gens9) (d := dr9) (o := os9) ?_)
      k_fill
      refine' ctr_introN (binds := [("codepoint", .int c tc)]) (fun h h' T k => T.keeps k) (fun h T => T.nolimit) ?ho_isinv ?hcd_isinv ?hD_isinv ?hb_isinv ?hl_isinv ?_ ?hc_isinv ?c1_isinv ?c2_isinv ?c3_isinv
      case ho_isinv => k_is
      case hcd_isinv => k_is
      case hD_isinv => decide
      case hb_isinv => (intro s X; (try (rcases hargs with ⟨rfl, rfl, rfl⟩ | ⟨rfl, rfl⟩)); all_goals (first | exact BindsTo.of_eq rfl | exact binds_K X rfl (by k_is) rfl rfl rfl))
      case hl_isinv => exact locs rfl
      case hc_isinv => decide
      case c1_isinv => exact rfl
      case c2_isinv => exact rfl
      case c3_isinv => exact rfl
      intro A base g env outer L' h₁ hs9 gens9 dr9 t09 os9 tk B' F' X' N' T' l1
      intro e9 A9 q9
      (try clear l1)
      (try dsimp only at N')
      first | have S0 := Mine.Internal.Srt.eight ho hk hat | have S0 := Mine.Internal.Srt.grow (Mine.Internal.Srt.six ho) hoq | have S0 := Mine.Internal.Srt.five ho hk | have S0 := Mine.Internal.Srt.six ho | have S0 := Mine.Internal.Srt.two ho | have S0 := Mine.Internal.Srt.two hk | skip

      k_steps
      all_goals ((try dsimp only); exact cend (l := []) (by assumption) (by assumption) (fun _ h => nomatch h) ⟨_, rfl, rfl⟩)
  have ctr_charErrors {w : World} {loose : List Str} {mean : ExcName → Option Value} {mg mb : Str → Option Value} {st sd : Addr} {k0 k1 k2 k3 k4 k5 k6 k7 k8 k9 : Tok} {rce nl ds : Addr} {chunk : Str} {tc : Tok} {size : Int} {ts : Tok} {off : Int} {to : Tok} {er : Addr} {pl : Int} {tl : Tok} {pc : Int} {tp : Tok} {buf : Value} {es : List Value} {n : Nat} {x : Str} {tx : Tok}
      (ho : @LT.lt Nat _ sd st) (ho2 : @LT.lt Nat _ st er) (hx : x.length ≤ 20000) (hes : es.length ≤ 100000) :
      CtrC PySem.Challenge.rw_te0076_01.row.prog w (main.heap_1_39 w.params) (Top main.view_1_40 loose mean mg mb) 480 800 (.ref 148) ⟨[.ref st, .str x tx], []⟩ [(st, instObj 166 sd), (sd, dictOf (sdict w.params k0 k1 k2 k3 k4 k5 k6 k7 k8 k9 rce nl ds chunk tc size ts off to er pl tl pc tp buf) 10), (er, W.listOf es.toArray n)]
        (noF fun v l => v = .none ∧ ∃ (es' : List Value) (n' : Nat), es'.length ≤ es.length + x.length ∧ l = [(st, instObj 166 sd), (sd, dictOf (sdict w.params k0 k1 k2 k3 k4 k5 k6 k7 k8 k9 rce nl ds chunk tc size ts off to er pl tl pc tp buf) 10), (er, W.listOf es'.toArray n')]) := by
    as_aux_lemma =>
      k_with_none
      k_with "pos" => (repeat' (first | exact Mine.Internal.PosL.nil | (apply Mine.Internal.PosL.cons 0; exact rfl) | (apply Mine.Internal.PosL.cons 1; exact rfl) | (apply Mine.Internal.PosL.cons 2; exact rfl) | (apply Mine.Internal.PosL.cons 3; exact rfl) | (apply Mine.Internal.PosL.cons 4; exact rfl) | (apply Mine.Internal.PosL.cons 5; exact rfl) | (apply Mine.Internal.PosL.cons 6; exact rfl) | (apply Mine.Internal.PosL.cons 7; exact rfl) | (apply Mine.Internal.PosL.cons 8; exact rfl) | (apply Mine.Internal.PosL.cons 9; exact rfl) | (apply Mine.Internal.PosL.cons 10; exact rfl) | (apply Mine.Internal.PosL.cons 11; exact rfl) | (apply Mine.Internal.PosL.cons 12; exact rfl) | (apply Mine.Internal.PosL.cons 13; exact rfl) | (apply Mine.Internal.PosL.cons 14; exact rfl) | (apply Mine.Internal.PosL.cons 15; exact rfl) | (apply Mine.Internal.PosL.cons 16; exact rfl) | (apply Mine.Internal.PosL.cons 17; exact rfl) | (apply Mine.Internal.PosL.cons 18; exact rfl) | (apply Mine.Internal.PosL.cons 19; exact rfl) | (apply Mine.Internal.PosL.cons 20; exact rfl) | (apply Mine.Internal.PosL.cons 21; exact rfl) | (apply Mine.Internal.PosL.cons 22; exact rfl) | (apply Mine.Internal.PosL.cons 23; exact rfl)))
      k_with "slt" => exact Mine.Internal.Srt.lt (by with_reducible assumption) (by ((repeat (first | (with_reducible_and_instances refine Mine.Internal.Aft.here ?_; (repeat (first | with_reducible_and_instances exact List.Mem.head _ | with_reducible_and_instances refine List.Mem.tail _ ?_)); done) | with_reducible refine Mine.Internal.Aft.there ?_)); all_goals fail))
      k_with "upd" => (exact Mine.Internal.Srt.updP (by with_reducible assumption) (by repeat' (first | exact Mine.Internal.UpdI.head | refine' Mine.Internal.UpdI.tail ?_)) (by k_dflt (k_extra "pos")) (by exact rfl))
      k_with "all" => exact Mine.Internal.Ks.ne_all (by with_reducible assumption) (by first | exact .inr (by k_extra "slt") | exact .inl (by k_extra "slt"))
      k_with "ne" => (refine neN ?_; first | exact Mine.Internal.Srt.ne (by with_reducible assumption) (by with_reducible solve_by_elim (maxDepth := 40) only [Mine.Internal.Apart.l, Mine.Internal.Apart.r, Mine.Internal.Apart.t, List.Mem.head, List.Mem.tail]) | ((try dsimp only); omega))
      k_with "lt" => (intro h9l; first | ((with_reducible rename Mine.Internal.Srt _ => S8); (first | (have S9 := Mine.Internal.Srt.grow S8 (h9l (_, _) (by k_dflt k_mem)); clear S8) | (have S9 := Mine.Internal.Srt.grow S8.tl (h9l (_, _) (by k_dflt k_mem)); clear S8) | (have S9 := Mine.Internal.Srt.grow S8.tl.tl (h9l (_, _) (by k_dflt k_mem)); clear S8)); clear h9l) | (replace h9l := allLt_of h9l; simp only [AllLt, and_true] at h9l))
      k_with "getMethod ref" => (k_here; k_dflt (first | (refine' method_inst ?k1_charerr ?k2_charerr ?k3_charerr ?k4_charerr ?k5_charerr ?k6_charerr ?k7_charerr ?_; (case k1_charerr => k_asm); (case k2_charerr => k_asm); (case k3_charerr => k_inst); (case k4_charerr => k_is); (case k5_charerr => k_is); (case k6_charerr => k_is); (case k7_charerr => k_get); k_whole) | (refine' kmu_own ?k1_charerr ?k2_charerr ?k3_charerr ?k4_charerr ?k5_charerr ?_; (case k1_charerr => k_asm); (case k2_charerr => k_asm); (case k3_charerr => k_inst); (case k4_charerr => k_is); (case k5_charerr => k_is); k_whole)))
      k_with "getMethod ref" => (k_here; (with_reducible show wpAny _ _ (getMethod (Value.ref _) (PySem.Str.ofString "append") _) _ _ _); k_dflt (refine' kl_method ?N_charerr ?m_charerr slot_list_append type_list_append ?_; (case N_charerr => k_asm); (case m_charerr => k_mem); k_whole))
      k_with "execs cons" => (k_here; (with_reducible show wpAny _ _ _ _ _ (Shared.mk _ _ _ (_ + _) _)); (refine Mine.Internal.gentoks ?_); intro tkg9 htk9; (try dsimp only at htk9))
      k_with "size" => k_dflt (first | exact Nat.le_of_ble_eq_true rfl | ((with_reducible show Array.size (List.toArray _) ≤ PySem.sizeLine); rw [List.size_toArray, PySem.sizeLine_eq]; refine Nat.le_trans (m := 100002) ?_ (Nat.le_of_ble_eq_true rfl); first | with_reducible assumption | exact Nat.le_trans (m := 100000) (by with_reducible assumption) (Nat.le_of_ble_eq_true rfl)))
      k_with "subscriptTail Name Constant ref int" => k_extra "subscriptTail"
      k_with "tok" => (first | exact Nat.le_add_left 1 _ | with_reducible assumption | exact Nat.le_trans (Nat.le_add_left 1 _) (by with_reducible assumption))
      k_with "next" => (first | ((with_reducible refine Mine.Internal.nextS (g := gens9) (d := dr9) (o := os9) ?_); intro qk9 tkg9) | ((with_reducible refine Mine.Internal.lastS (g := gens9) (d := dr9) (o := os9) ?_); intro tkg9) | (with_reducible refine Mine.Internal.nilS ?_) | (with_reducible refine Mine.Internal.fin9 ?_) | (with_reducible refine Mine.Internal.fin0 ?_) | (with_reducible refine Mine.Internal.finS9 ?_) | (with_reducible refine Mine.Internal.finS0 ?_) | ((with_reducible refine Mine.Internal.nextU (g := gens9) (d := dr9) (o := os9) ?_ ?_); (k_extra "tok"); intro qk9 tkg9) | ((with_reducible refine Mine.Internal.lastU (g := gens9) (d := dr9) (o := os9) ?_ ?_); (k_extra "tok"); intro tkg9) | ((with_reducible refine Mine.Internal.nextZ (g := gens9) (d := dr9) (o := os9) ?_); intro qk9 tkg9) | ((with_reducible refine Mine.Internal.lastZ (g := gens9) (d := dr9) (o := os9) ?_); intro tkg9))
      k_with "execs cons" => k_extra "next"
      k_with "execs nil" => (with_reducible refine Mine.Internal.nilS ?_)
      k_with "eval Constant str" => (with_reducible refine Mine.Internal.c_str (g := gens9) (d := dr9) (o := os9) ?_)
      k_with "eval Attribute Name" => (k_here; k_dflt (refine' Mine.Internal.at_name (gs := gens9) (d := dr9) (o := os9) ?nF_charerr ?nX_charerr ?nN_charerr ?nv_charerr ?n1_charerr ?n2_charerr ?ng_charerr ?nh_charerr ?na_charerr ?nn_charerr ?nl_charerr ?nd_charerr ?_; (case nF_charerr => k_asm); (case nX_charerr => k_asm); (case nN_charerr => k_asm); (case nv_charerr => exact rfl); (case n1_charerr => k_mem); (case n2_charerr => k_mem); (case ng_charerr => k_is); (case nh_charerr => k_is); (case na_charerr => k_is); (case nn_charerr => k_is); (case nl_charerr => k_get); (case nd_charerr => k_handed); k_whole))
      k_with "call ref" => (k_here; (with_reducible show wpAny _ _ (call (Value.ref 84) [Value.int _ _] _) _ _ _); k_dflt (refine' Mine.Internal.Ctr.useN (gs := gens9) (d := dr9) (o := os9) (Mine.Internal.CtrC.call ctr_is_invalid) ?cB_charerr ?cF_charerr ?cX_charerr ?cN_charerr ?cT_charerr ?ca_charerr ?cb_charerr ?cc_charerr ?ce_charerr ?cd_charerr ?cu_charerr ?ck_charerr ?cne_charerr ?_; (case cB_charerr => k_asm); (case cF_charerr => k_asm); (case cX_charerr => k_asm); (case cT_charerr => k_asm); (case cN_charerr => k_asm); (case ca_charerr => exact rfl); (case cb_charerr => exact rfl); (case cc_charerr => exact rfl); (case ce_charerr => exact rfl); (case cd_charerr => exact Nat.le_of_ble_eq_true rfl); (case cu_charerr => exact Nat.le_of_ble_eq_true rfl); (case ck_charerr => ((try (refine' Mine.Internal.Take.cons ?_ ?_)); repeat' (first | exact Mine.Internal.Take.nil | exact Mine.Internal.Del.head | refine' Mine.Internal.Take.cons ?_ ?_ | refine' Mine.Internal.Del.tail ?_))); (case cne_charerr => first | exact List.forall_mem_nil _ | exact (fun _ _ => List.forall_mem_nil _) | exact Mine.Internal.Srt.neL (by with_reducible assumption) (by k_extra "pos") (by k_extra "pos") (by exact rfl) | ((simp only [List.forall_mem_cons, List.not_mem_nil, false_implies, implies_true, and_true, true_and]); (repeat' (refine And.intro ?_ ?_)); all_goals k_ne)); (k_whole; intro v' l' hp'; obtain ⟨b', e1', e2'⟩ := hp'; subst e1'; subst e2'; intro h' n' hn' F' N'; (try dsimp only [List.cons_append, List.nil_append] at N'); (try k_sweep); (try dsimp only); (try k_fold))))
      k_fill
      refine' ctr_introN (binds := [("self", .ref st), ("data", .str x tx)]) (fun h h' T k => T.keeps k) (fun h T => T.nolimit) ?ho_charerr ?hcd_charerr ?hD_charerr ?hb_charerr ?hl_charerr ?_ ?hc_charerr ?c1_charerr ?c2_charerr ?c3_charerr
      case ho_charerr => k_is
      case hcd_charerr => k_is
      case hD_charerr => decide
      case hb_charerr => (intro s X; (try (rcases hargs with ⟨rfl, rfl, rfl⟩ | ⟨rfl, rfl⟩)); all_goals (first | exact BindsTo.of_eq rfl | exact binds_K X rfl (by k_is) rfl rfl rfl))
      case hl_charerr => exact locs rfl
      case hc_charerr => decide
      case c1_charerr => exact rfl
      case c2_charerr => exact rfl
      case c3_charerr => exact rfl
      intro A base g env outer L' h₁ hs9 gens9 dr9 t09 os9 tk B' F' X' N' T' l1
      intro e9 A9 q9
      (try clear l1)
      (try dsimp only at N')
      first | have S0 := Mine.Internal.Srt.eight ho hk hat | have S0 := Mine.Internal.Srt.grow (Mine.Internal.Srt.six ho) hoq | have S0 := Mine.Internal.Srt.five ho hk | have S0 := Mine.Internal.Srt.six ho | have S0 := Mine.Internal.Srt.two ho | have S0 := Mine.Internal.Srt.two hk | skip

      k_with "pyIter str" => ((with_reducible rename Fr _ _ _ _ => F0); (with_reducible rename News _ _ _ _ => N0); (with_unfolding_all refine' KStt.kst_text (σ := List Value × Nat) (fun c => [(st, instObj 166 sd), (sd, dictOf (sdict w.params k0 k1 k2 k3 k4 k5 k6 k7 k8 k9 rce nl ds chunk tc size ts off to er pl tl pc tp buf) 10), (er, W.listOf c.1.toArray c.2)]) (fun _ => []) (fun _ => True) [] (fun pre c => c.1.length ≤ es.length + pre.length ∧ pre.length ≤ x.length) (es, n) (by rfl) F0 N0 trivial (fun _ h => nomatch h) ⟨Nat.le_refl _, Nat.zero_le _⟩ ?turn_charerr ?done_charerr); (intro c pre post nn tn u hq tq own hco hoff hf hi Ft Nt; (try clear F0 N0); (try dsimp only [List.cons_append, List.nil_append] at Ft); (try dsimp only [List.cons_append, List.nil_append] at Nt)); rotate_left; (intro c u hq tq hf hi Ft Nt; (try clear F0 N0); (try dsimp only [List.cons_append, List.nil_append] at Ft); (try dsimp only [List.cons_append, List.nil_append] at Nt)); rotate_left; all_goals (try k_fold))
      k_steps
      case done_charerr =>
        exact cend (by assumption) (by assumption) (fun _ h => h) ⟨rfl, c.1, c.2, by rw [KStt.codes_length] at hi; exact hi.1, rfl⟩
      all_goals (have hlen := congrArg List.length hco; rw [KStt.codes_length, List.length_append, List.length_cons] at hlen)
      all_goals ((try simp only [List.push_toArray] at *); refine' kst_end (_, _) (by assumption) (by assumption) (fun p hp => List.mem_append_left own hp) ?_ ?_ trivial ?_ ?_ ?_)
      all_goals first | exact rfl | (intro _ h; cases h; done) | (intro p hp; simp [hp]; done) | (intro z hz _ _; simp (zetaDelta := true) [hz, kstB]; done) | (simp only [List.length_append, List.length_cons, List.length_nil]; omega)
  have ctr_read {w : World} {loose : List Str} {mean : ExcName → Option Value} {mg mb : Str → Option Value} {ds dd : Addr} {j0 j1 : Tok} {src : Str} {tsr : Tok} {place : Int} {tpl : Tok} {sz : Int} {t0 : Tok}
      (ho : @LT.lt Nat _ dd ds) (h0 : 0 ≤ place) (h1 : place ≤ src.length) (hs : src.length ≤ 10000) (hz : sz = 10240) :
      CtrC PySem.Challenge.rw_te0076_01.row.prog w (main.heap_1_39 w.params) (Top main.view_1_40 loose mean mg mb) 490 900 (.ref 70) ⟨[.ref ds, .int sz t0], []⟩ [(ds, instObj 73 dd), (dd, dictOf (tdict w.params j0 j1 src tsr place tpl) 2)]
        (noF fun v l => ∃ (x : Str) (tv : Tok) (p' : Int) (tp' : Tok), x.cps.toList = src.cps.toList.drop place.toNat ∧ x.length ≤ 10000 ∧ p' = src.length ∧ v = .str x tv ∧ l = [(ds, instObj 73 dd), (dd, dictOf (tdict w.params j0 j1 src tsr p' tp') 2)]) := by
    as_aux_lemma =>
      clear ctr_is_invalid ctr_charErrors
      k_with_none
      k_with "pos" => (repeat' (first | exact Mine.Internal.PosL.nil | (apply Mine.Internal.PosL.cons 0; exact rfl) | (apply Mine.Internal.PosL.cons 1; exact rfl) | (apply Mine.Internal.PosL.cons 2; exact rfl) | (apply Mine.Internal.PosL.cons 3; exact rfl) | (apply Mine.Internal.PosL.cons 4; exact rfl) | (apply Mine.Internal.PosL.cons 5; exact rfl) | (apply Mine.Internal.PosL.cons 6; exact rfl) | (apply Mine.Internal.PosL.cons 7; exact rfl) | (apply Mine.Internal.PosL.cons 8; exact rfl) | (apply Mine.Internal.PosL.cons 9; exact rfl) | (apply Mine.Internal.PosL.cons 10; exact rfl) | (apply Mine.Internal.PosL.cons 11; exact rfl) | (apply Mine.Internal.PosL.cons 12; exact rfl) | (apply Mine.Internal.PosL.cons 13; exact rfl) | (apply Mine.Internal.PosL.cons 14; exact rfl) | (apply Mine.Internal.PosL.cons 15; exact rfl) | (apply Mine.Internal.PosL.cons 16; exact rfl) | (apply Mine.Internal.PosL.cons 17; exact rfl) | (apply Mine.Internal.PosL.cons 18; exact rfl) | (apply Mine.Internal.PosL.cons 19; exact rfl) | (apply Mine.Internal.PosL.cons 20; exact rfl) | (apply Mine.Internal.PosL.cons 21; exact rfl) | (apply Mine.Internal.PosL.cons 22; exact rfl) | (apply Mine.Internal.PosL.cons 23; exact rfl)))
      k_with "slt" => exact Mine.Internal.Srt.lt (by with_reducible assumption) (by ((repeat (first | (with_reducible_and_instances refine Mine.Internal.Aft.here ?_; (repeat (first | with_reducible_and_instances exact List.Mem.head _ | with_reducible_and_instances refine List.Mem.tail _ ?_)); done) | with_reducible refine Mine.Internal.Aft.there ?_)); all_goals fail))
      k_with "upd" => (exact Mine.Internal.Srt.updP (by with_reducible assumption) (by repeat' (first | exact Mine.Internal.UpdI.head | refine' Mine.Internal.UpdI.tail ?_)) (by k_dflt (k_extra "pos")) (by exact rfl))
      k_with "all" => exact Mine.Internal.Ks.ne_all (by with_reducible assumption) (by first | exact .inr (by k_extra "slt") | exact .inl (by k_extra "slt"))
      k_with "ne" => (refine neN ?_; first | exact Mine.Internal.Srt.ne (by with_reducible assumption) (by with_reducible solve_by_elim (maxDepth := 40) only [Mine.Internal.Apart.l, Mine.Internal.Apart.r, Mine.Internal.Apart.t, List.Mem.head, List.Mem.tail]) | ((try dsimp only); omega))
      k_with "lt" => (intro h9l; first | ((with_reducible rename Mine.Internal.Srt _ => S8); (first | (have S9 := Mine.Internal.Srt.grow S8 (h9l (_, _) (by k_dflt k_mem)); clear S8) | (have S9 := Mine.Internal.Srt.grow S8.tl (h9l (_, _) (by k_dflt k_mem)); clear S8) | (have S9 := Mine.Internal.Srt.grow S8.tl.tl (h9l (_, _) (by k_dflt k_mem)); clear S8)); clear h9l) | (replace h9l := allLt_of h9l; simp only [AllLt, and_true] at h9l))
      k_with "subscriptTail" => (k_here; (with_reducible show wpAny _ _ (subscriptTail _ _ (Value.str _ _) (Value.int _ _)) _ _ _); (refine Mine.Internal.sub_chr (by omega) (by omega) (by assumption) ?_))
      k_with "execs cons" => (k_here; (with_reducible show wpAny _ _ _ _ _ (Shared.mk _ _ _ (_ + _) _)); (refine Mine.Internal.gentoks ?_); intro tkg9 htk9; (try dsimp only at htk9))
      k_with "call builtin:len" => (k_here; (with_reducible show wpAny _ _ (call (Value.builtin "len") [Value.str _ _]) _ _ _); (refine SBL.len (by first | omega | exact Mine.Internal.fit63 (by (refine Nat.le_trans (m := 10000) ?_ (by decide); repeat' (first | with_reducible assumption | with_reducible refine Mine.Internal.slice_len_le ?_ | (with_reducible refine Nat.le_trans (Mine.Internal.replace_len (by decide +kernel) (by decide +kernel)) ?_) | exact (by decide +kernel))))) ?_))
      k_with "size" => k_dflt (first | exact Nat.le_of_ble_eq_true rfl | ((with_reducible show Array.size (List.toArray _) ≤ PySem.sizeLine); rw [List.size_toArray, PySem.sizeLine_eq]; refine Nat.le_trans (m := 100002) ?_ (Nat.le_of_ble_eq_true rfl); first | with_reducible assumption | exact Nat.le_trans (m := 100000) (by with_reducible assumption) (Nat.le_of_ble_eq_true rfl)))
      k_with "subscriptTail Name Constant ref int" => k_extra "subscriptTail"
      k_with "tok" => (first | exact Nat.le_add_left 1 _ | with_reducible assumption | exact Nat.le_trans (Nat.le_add_left 1 _) (by with_reducible assumption))
      k_with "next" => (first | ((with_reducible refine Mine.Internal.nextS (g := gens9) (d := dr9) (o := os9) ?_); intro qk9 tkg9) | ((with_reducible refine Mine.Internal.lastS (g := gens9) (d := dr9) (o := os9) ?_); intro tkg9) | (with_reducible refine Mine.Internal.nilS ?_) | (with_reducible refine Mine.Internal.fin9 ?_) | (with_reducible refine Mine.Internal.fin0 ?_) | (with_reducible refine Mine.Internal.finS9 ?_) | (with_reducible refine Mine.Internal.finS0 ?_) | ((with_reducible refine Mine.Internal.nextU (g := gens9) (d := dr9) (o := os9) ?_ ?_); (k_extra "tok"); intro qk9 tkg9) | ((with_reducible refine Mine.Internal.lastU (g := gens9) (d := dr9) (o := os9) ?_ ?_); (k_extra "tok"); intro tkg9) | ((with_reducible refine Mine.Internal.nextZ (g := gens9) (d := dr9) (o := os9) ?_); intro qk9 tkg9) | ((with_reducible refine Mine.Internal.lastZ (g := gens9) (d := dr9) (o := os9) ?_); intro tkg9))
      k_with "subscriptTail" => (first | ((fail_if_success (with_reducible show wpAny _ _ (subscriptTail _ (Expr.Slice _ _ _ _) _ _) _ _ _)); dsimp only) | ((with_reducible show wpAny _ _ (subscriptTail _ _ (Value.ref _) (Value.str (PySem.Str.ofString "data") _)) _ _ _); k_here; k_dflt (refine kdt_tail (knd := PySem.strKind _ _) (by k_asm) (by k_mem) (by k_asm) ?_)) | ((with_reducible show wpAny _ _ (subscriptTail (Expr.Subscript _ _ _) (Expr.UnaryOp _ _ _) (Value.ref _) (Value.int _ _)) _ _ _); k_here; k_dflt (refine' Mine.Internal.item_lastT ?iN_read ?im_read ?ik_read ?_; (case iN_read => k_asm); (case im_read => k_mem); (case ik_read => rfl); k_whole)))
      k_with "execs cons" => k_extra "next"
      k_with "eval Attribute Name" => (k_here; k_dflt (refine' Mine.Internal.at_name (gs := gens9) (d := dr9) (o := os9) ?nF_read ?nX_read ?nN_read ?nv_read ?n1_read ?n2_read ?ng_read ?nh_read ?na_read ?nn_read ?nl_read ?nd_read ?_; (case nF_read => k_asm); (case nX_read => k_asm); (case nN_read => k_asm); (case nv_read => exact rfl); (case n1_read => k_mem); (case n2_read => k_mem); (case ng_read => k_is); (case nh_read => k_is); (case na_read => k_is); (case nn_read => k_is); (case nl_read => k_get); (case nd_read => k_handed); k_whole))
      k_with "setAttr ref" => (first | (k_here; ktx_write) | (k_here; k_dflt (refine' Mine.Internal.st_attr (gs := gens9) (d := dr9) (o := os9) ?sF_read ?sX_read ?sN_read ?s1_read ?s2_read ?ss_read ?sp_read ?st_read ?sh_read ?sl_read ?se_read ?sU_read ?sz_read ?_; (case sF_read => k_asm); (case sX_read => k_asm); (case sN_read => k_asm); (case s1_read => k_mem); (case s2_read => k_mem); (case ss_read => k_is); (case sp_read => k_is); (case st_read => k_is); (case sh_read => k_is); (case sl_read => k_get); (case se_read => k_put); (case sU_read => k_upd); (case sz_read => exact Nat.le_of_ble_eq_true rfl); k_whole; intro h' F' N'; (try k_sweep))))
      k_with "storeName" => (first | (k_here; ktx_write) | (k_here; k_dflt (refine' Mine.Internal.st_name (gs := gens9) (d := dr9) (o := os9) ?tF_read ?tN_read ?_; (case tF_read => k_asm); (case tN_read => k_asm); k_whole; intro m9 h' F' N'; (try k_sweep))))
      k_fill
      refine' ctr_introN (binds := [("self", .ref ds), ("size", .int sz t0)]) (fun h h' T k => T.keeps k) (fun h T => T.nolimit) ?ho_read ?hcd_read ?hD_read ?hb_read ?hl_read ?_ ?hc_read ?c1_read ?c2_read ?c3_read
      case ho_read => k_is
      case hcd_read => k_is
      case hD_read => decide
      case hb_read => (intro s X; (try (rcases hargs with ⟨rfl, rfl, rfl⟩ | ⟨rfl, rfl⟩)); all_goals (first | exact BindsTo.of_eq rfl | exact binds_K X rfl (by k_is) rfl rfl rfl))
      case hl_read => exact locs rfl
      case hc_read => decide
      case c1_read => exact rfl
      case c2_read => exact rfl
      case c3_read => exact rfl
      intro A base g env outer L' h₁ hs9 gens9 dr9 t09 os9 tk B' F' X' N' T' l1
      intro e9 A9 q9
      (try clear l1)
      (try dsimp only at N')
      first | have S0 := Mine.Internal.Srt.eight ho hk hat | have S0 := Mine.Internal.Srt.grow (Mine.Internal.Srt.six ho) hoq | have S0 := Mine.Internal.Srt.five ho hk | have S0 := Mine.Internal.Srt.six ho | have S0 := Mine.Internal.Srt.two ho | have S0 := Mine.Internal.Srt.two hk | skip

      k_steps
      (try dsimp only)
      have e : Txt.slice src (some place) (some (place + sz)) = ⟨(src.cps.toList.drop place.toNat).toArray⟩ := by
        rw [slice_ss h0 (by omega), List.take_of_length_le (by rw [List.length_drop]; simp only [Array.length_toList]; simp only [Str.length] at hs; omega)]
      refine cend (by assumption) (by assumption) (fun _ h => h) ⟨_, _, _, _, by rw [e], ?_, ?_, rfl, rfl⟩
      · rw [e]
        simp only [Str.length, List.size_toArray, List.length_drop, Array.length_toList] at hs ⊢
        omega
      · rw [e]
        simp only [Str.length, List.size_toArray, List.length_drop, Array.length_toList] at h1 ⊢
        omega
  have ctr_readE {w : World} {loose : List Str} {mean : ExcName → Option Value} {mg mb : Str → Option Value} {ds dd : Addr} {j0 j1 : Tok} {src : Str} {tsr : Tok} {place : Int} {tpl : Tok} {sz : Int} {t0 : Tok}
      (ho : @LT.lt Nat _ dd ds) (h1 : place = src.length) (hs : src.length ≤ 10000) (hz : sz = 10240) :
      CtrC PySem.Challenge.rw_te0076_01.row.prog w (main.heap_1_39 w.params) (Top main.view_1_40 loose mean mg mb) 490 900 (.ref 70) ⟨[.ref ds, .int sz t0], []⟩ [(ds, instObj 73 dd), (dd, dictOf (tdict w.params j0 j1 src tsr place tpl) 2)]
        (noF fun v l => ∃ (tv : Tok) (p' : Int) (tp' : Tok), p' = src.length ∧ v = .str ⟨#[]⟩ tv ∧ l = [(ds, instObj 73 dd), (dd, dictOf (tdict w.params j0 j1 src tsr p' tp') 2)]) := by
    as_aux_lemma =>
      clear ctr_is_invalid ctr_charErrors
      refine CtrC.mono (fun v fr l h => ?_) (ctr_read ho (by omega) (by omega) hs hz)
      obtain ⟨h0, y, tv, p', tp', hy, hyl, hp, hv, hl⟩ := h
      refine ⟨h0, tv, p', tp', hp, ?_, hl⟩
      have : y.cps.toList = (#[] : Array Nat).toList := by rw [hy, List.drop_of_length_le (by rw [len_toList]; omega)]
      rw [hv, show y = ⟨#[]⟩ from Str.ext' (Array.toList_inj.mp this)]
  have ctr_position0 {w : World} {loose : List Str} {mean : ExcName → Option Value} {mg mb : Str → Option Value} {st sd : Addr} {k0 k1 k2 k3 k4 k5 k6 k7 k8 k9 : Tok} {rce nl ds : Addr} {chunk : Str} {tc : Tok} {size : Int} {ts : Tok} {off : Int} {to : Tok} {er : Addr} {pl : Int} {tl : Tok} {pc : Int} {tp : Tok} {buf : Value} {o : Int} {t0 : Tok} (ho : @LT.lt Nat _ sd st) :
      CtrC PySem.Challenge.rw_te0076_01.row.prog w (main.heap_1_39 w.params) (Top main.view_1_40 loose mean mg mb) 480 800 (.ref 119) ⟨[.ref st, .int o t0], []⟩ [(st, instObj 166 sd), (sd, dictOf (sdict w.params k0 k1 k2 k3 k4 k5 k6 k7 k8 k9 rce nl ds chunk tc size ts off to er pl tl pc tp buf) 10)]
        (fun v fr l => ∃ (q : Addr) (ta tb : Tok), v = .ref q ∧ fr = [(q, tupO [.int (posL chunk o pl) ta, .int (posC chunk o pc) tb])] ∧ l = [(st, instObj 166 sd), (sd, dictOf (sdict w.params k0 k1 k2 k3 k4 k5 k6 k7 k8 k9 rce nl ds chunk tc size ts off to er pl tl pc tp buf) 10)]) := by
    as_aux_lemma =>
      clear ctr_is_invalid ctr_charErrors ctr_read ctr_readE
      k_with_none
      k_with "pos" => (repeat' (first | exact Mine.Internal.PosL.nil | (apply Mine.Internal.PosL.cons 0; exact rfl) | (apply Mine.Internal.PosL.cons 1; exact rfl) | (apply Mine.Internal.PosL.cons 2; exact rfl) | (apply Mine.Internal.PosL.cons 3; exact rfl) | (apply Mine.Internal.PosL.cons 4; exact rfl) | (apply Mine.Internal.PosL.cons 5; exact rfl) | (apply Mine.Internal.PosL.cons 6; exact rfl) | (apply Mine.Internal.PosL.cons 7; exact rfl) | (apply Mine.Internal.PosL.cons 8; exact rfl) | (apply Mine.Internal.PosL.cons 9; exact rfl) | (apply Mine.Internal.PosL.cons 10; exact rfl) | (apply Mine.Internal.PosL.cons 11; exact rfl) | (apply Mine.Internal.PosL.cons 12; exact rfl) | (apply Mine.Internal.PosL.cons 13; exact rfl) | (apply Mine.Internal.PosL.cons 14; exact rfl) | (apply Mine.Internal.PosL.cons 15; exact rfl) | (apply Mine.Internal.PosL.cons 16; exact rfl) | (apply Mine.Internal.PosL.cons 17; exact rfl) | (apply Mine.Internal.PosL.cons 18; exact rfl) | (apply Mine.Internal.PosL.cons 19; exact rfl) | (apply Mine.Internal.PosL.cons 20; exact rfl) | (apply Mine.Internal.PosL.cons 21; exact rfl) | (apply Mine.Internal.PosL.cons 22; exact rfl) | (apply Mine.Internal.PosL.cons 23; exact rfl)))
      k_with "slt" => exact Mine.Internal.Srt.lt (by with_reducible assumption) (by ((repeat (first | (with_reducible_and_instances refine Mine.Internal.Aft.here ?_; (repeat (first | with_reducible_and_instances exact List.Mem.head _ | with_reducible_and_instances refine List.Mem.tail _ ?_)); done) | with_reducible refine Mine.Internal.Aft.there ?_)); all_goals fail))
      k_with "upd" => (exact Mine.Internal.Srt.updP (by with_reducible assumption) (by repeat' (first | exact Mine.Internal.UpdI.head | refine' Mine.Internal.UpdI.tail ?_)) (by k_dflt (k_extra "pos")) (by exact rfl))
      k_with "all" => exact Mine.Internal.Ks.ne_all (by with_reducible assumption) (by first | exact .inr (by k_extra "slt") | exact .inl (by k_extra "slt"))
      k_with "ne" => (refine neN ?_; first | exact Mine.Internal.Srt.ne (by with_reducible assumption) (by with_reducible solve_by_elim (maxDepth := 40) only [Mine.Internal.Apart.l, Mine.Internal.Apart.r, Mine.Internal.Apart.t, List.Mem.head, List.Mem.tail]) | ((try dsimp only); omega))
      k_with "lt" => (intro h9l; first | ((with_reducible rename Mine.Internal.Srt _ => S8); (first | (have S9 := Mine.Internal.Srt.grow S8 (h9l (_, _) (by k_dflt k_mem)); clear S8) | (have S9 := Mine.Internal.Srt.grow S8.tl (h9l (_, _) (by k_dflt k_mem)); clear S8) | (have S9 := Mine.Internal.Srt.grow S8.tl.tl (h9l (_, _) (by k_dflt k_mem)); clear S8)); clear h9l) | (replace h9l := allLt_of h9l; simp only [AllLt, and_true] at h9l))
      k_with "execs cons" => (k_here; (with_reducible show wpAny _ _ _ _ _ (Shared.mk _ _ _ (_ + _) _)); (refine Mine.Internal.gentoks ?_); intro tkg9 htk9; (try dsimp only at htk9))
      k_with "call builtin:str.count" => (k_here; (with_reducible show wpAny _ _ (call (Value.builtin "str.count") [Value.str _ _, Value.str _ _, Value.int _ _, Value.int _ _]) _ _ _); (refine Mine.Internal.count4 ?_))
      k_with "call builtin:str.rfind" => (k_here; (with_reducible show wpAny _ _ (call (Value.builtin "str.rfind") [Value.str _ _, Value.str _ _, Value.int _ _, Value.int _ _]) _ _ _); (refine Mine.Internal.rfind4 ?_))
      k_with "size" => k_dflt (first | exact Nat.le_of_ble_eq_true rfl | ((with_reducible show Array.size (List.toArray _) ≤ PySem.sizeLine); rw [List.size_toArray, PySem.sizeLine_eq]; refine Nat.le_trans (m := 100002) ?_ (Nat.le_of_ble_eq_true rfl); first | with_reducible assumption | exact Nat.le_trans (m := 100000) (by with_reducible assumption) (Nat.le_of_ble_eq_true rfl)))
      k_with "subscriptTail Name Constant ref int" => k_extra "subscriptTail"
      k_with "tok" => (first | exact Nat.le_add_left 1 _ | with_reducible assumption | exact Nat.le_trans (Nat.le_add_left 1 _) (by with_reducible assumption))
      k_with "next" => (first | ((with_reducible refine Mine.Internal.nextS (g := gens9) (d := dr9) (o := os9) ?_); intro qk9 tkg9) | ((with_reducible refine Mine.Internal.lastS (g := gens9) (d := dr9) (o := os9) ?_); intro tkg9) | (with_reducible refine Mine.Internal.nilS ?_) | (with_reducible refine Mine.Internal.fin9 ?_) | (with_reducible refine Mine.Internal.fin0 ?_) | (with_reducible refine Mine.Internal.finS9 ?_) | (with_reducible refine Mine.Internal.finS0 ?_) | ((with_reducible refine Mine.Internal.nextU (g := gens9) (d := dr9) (o := os9) ?_ ?_); (k_extra "tok"); intro qk9 tkg9) | ((with_reducible refine Mine.Internal.lastU (g := gens9) (d := dr9) (o := os9) ?_ ?_); (k_extra "tok"); intro tkg9) | ((with_reducible refine Mine.Internal.nextZ (g := gens9) (d := dr9) (o := os9) ?_); intro qk9 tkg9) | ((with_reducible refine Mine.Internal.lastZ (g := gens9) (d := dr9) (o := os9) ?_); intro tkg9))
      k_with "execs cons" => k_extra "next"
      k_with "eval Constant int" => (with_reducible refine Mine.Internal.c_int (g := gens9) (d := dr9) (o := os9) ?_)
      k_with "eval Constant str" => (with_reducible refine Mine.Internal.c_str (g := gens9) (d := dr9) (o := os9) ?_)
      k_with "eval Attribute Name" => (k_here; k_dflt (refine' Mine.Internal.at_name (gs := gens9) (d := dr9) (o := os9) ?nF_position0 ?nX_position0 ?nN_position0 ?nv_position0 ?n1_position0 ?n2_position0 ?ng_position0 ?nh_position0 ?na_position0 ?nn_position0 ?nl_position0 ?nd_position0 ?_; (case nF_position0 => k_asm); (case nX_position0 => k_asm); (case nN_position0 => k_asm); (case nv_position0 => exact rfl); (case n1_position0 => k_mem); (case n2_position0 => k_mem); (case ng_position0 => k_is); (case nh_position0 => k_is); (case na_position0 => k_is); (case nn_position0 => k_is); (case nl_position0 => k_get); (case nd_position0 => k_handed); k_whole))
      k_with "storeName" => (first | (k_here; ktx_write) | (k_here; k_dflt (refine' Mine.Internal.st_name (gs := gens9) (d := dr9) (o := os9) ?tF_position0 ?tN_position0 ?_; (case tF_position0 => k_asm); (case tN_position0 => k_asm); k_whole; intro m9 h' F' N'; (try k_sweep))))
      k_fill
      refine' ctr_introN (binds := [("self", .ref st), ("offset", .int o t0)]) (fun h h' T k => T.keeps k) (fun h T => T.nolimit) ?ho_position0 ?hcd_position0 ?hD_position0 ?hb_position0 ?hl_position0 ?_ ?hc_position0 ?c1_position0 ?c2_position0 ?c3_position0
      case ho_position0 => k_is
      case hcd_position0 => k_is
      case hD_position0 => decide
      case hb_position0 => (intro s X; (try (rcases hargs with ⟨rfl, rfl, rfl⟩ | ⟨rfl, rfl⟩)); all_goals (first | exact BindsTo.of_eq rfl | exact binds_K X rfl (by k_is) rfl rfl rfl))
      case hl_position0 => exact locs rfl
      case hc_position0 => decide
      case c1_position0 => exact rfl
      case c2_position0 => exact rfl
      case c3_position0 => exact rfl
      intro A base g env outer L' h₁ hs9 gens9 dr9 t09 os9 tk B' F' X' N' T' l1
      intro e9 A9 q9
      (try clear l1)
      (try dsimp only at N')
      first | have S0 := Mine.Internal.Srt.eight ho hk hat | have S0 := Mine.Internal.Srt.grow (Mine.Internal.Srt.six ho) hoq | have S0 := Mine.Internal.Srt.five ho hk | have S0 := Mine.Internal.Srt.six ho | have S0 := Mine.Internal.Srt.two ho | have S0 := Mine.Internal.Srt.two hk | skip

      k_steps
      all_goals first
        | ((have hc : rfindTo chunk (Str.ofString "\n") 0 o = -1 := by assumption); refine' cendF (fr := [_]) (l := [_, _]) (by assumption) (by assumption) (fun _ h => h) ?_ ⟨_, _, _, rfl, by rw [show posC chunk o pc = pc + o from if_pos hc]; rfl, rfl⟩; (simp only [List.forall_mem_cons, List.not_mem_nil, false_implies, implies_true, and_true, true_and]; (repeat' (refine And.intro ?_ ?_)); all_goals k_ne))
        | ((have hc : ¬ rfindTo chunk (Str.ofString "\n") 0 o = -1 := by assumption); refine' cendF (fr := [_]) (l := [_, _]) (by assumption) (by assumption) (fun _ h => h) ?_ ⟨_, _, _, rfl, by rw [show posC chunk o pc = _ from if_neg hc]; rfl, rfl⟩; (simp only [List.forall_mem_cons, List.not_mem_nil, false_implies, implies_true, and_true, true_and]; (repeat' (refine And.intro ?_ ?_)); all_goals k_ne))
  have ctr_unget {w : World} {loose : List Str} {mean : ExcName → Option Value} {mg mb : Str → Option Value} {st sd : Addr} {k0 k1 k2 k3 k4 k5 k6 k7 k8 k9 : Tok} {rce nl ds : Addr} {chunk : Str} {tc : Tok} {size : Int} {ts : Tok} {off : Int} {to : Tok} {er : Addr} {pl : Int} {tl : Tok} {pc : Int} {tp : Tok} {buf : Value} {c : Nat} {tk0 : Tok}
      (ho : @LT.lt Nat _ sd st) (h1 : 1 ≤ off) (h2 : off ≤ 16777216) (hc : chunk.cps[(off - 1).toNat]? = some c) :
      CtrC PySem.Challenge.rw_te0076_01.row.prog w (main.heap_1_39 w.params) (Top main.view_1_40 loose mean mg mb) 460 600 (.ref 163) ⟨[.ref st, .str ⟨#[c]⟩ tk0], []⟩ [(st, instObj 166 sd), (sd, dictOf (sdict w.params k0 k1 k2 k3 k4 k5 k6 k7 k8 k9 rce nl ds chunk tc size ts off to er pl tl pc tp buf) 10)]
        (noF fun v l => v = .none ∧ ∃ to', l = [(st, instObj 166 sd), (sd, dictOf (sdict w.params k0 k1 k2 k3 k4 k5 k6 k7 k8 k9 rce nl ds chunk tc size ts (off - 1) to' er pl tl pc tp buf) 10)]) := by
    as_aux_lemma =>
      clear ctr_is_invalid ctr_charErrors ctr_read ctr_readE ctr_position0
      k_with_none
      k_with "pos" => (repeat' (first | exact Mine.Internal.PosL.nil | (apply Mine.Internal.PosL.cons 0; exact rfl) | (apply Mine.Internal.PosL.cons 1; exact rfl) | (apply Mine.Internal.PosL.cons 2; exact rfl) | (apply Mine.Internal.PosL.cons 3; exact rfl) | (apply Mine.Internal.PosL.cons 4; exact rfl) | (apply Mine.Internal.PosL.cons 5; exact rfl) | (apply Mine.Internal.PosL.cons 6; exact rfl) | (apply Mine.Internal.PosL.cons 7; exact rfl) | (apply Mine.Internal.PosL.cons 8; exact rfl) | (apply Mine.Internal.PosL.cons 9; exact rfl) | (apply Mine.Internal.PosL.cons 10; exact rfl) | (apply Mine.Internal.PosL.cons 11; exact rfl) | (apply Mine.Internal.PosL.cons 12; exact rfl) | (apply Mine.Internal.PosL.cons 13; exact rfl) | (apply Mine.Internal.PosL.cons 14; exact rfl) | (apply Mine.Internal.PosL.cons 15; exact rfl) | (apply Mine.Internal.PosL.cons 16; exact rfl) | (apply Mine.Internal.PosL.cons 17; exact rfl) | (apply Mine.Internal.PosL.cons 18; exact rfl) | (apply Mine.Internal.PosL.cons 19; exact rfl) | (apply Mine.Internal.PosL.cons 20; exact rfl) | (apply Mine.Internal.PosL.cons 21; exact rfl) | (apply Mine.Internal.PosL.cons 22; exact rfl) | (apply Mine.Internal.PosL.cons 23; exact rfl)))
      k_with "slt" => exact Mine.Internal.Srt.lt (by with_reducible assumption) (by ((repeat (first | (with_reducible_and_instances refine Mine.Internal.Aft.here ?_; (repeat (first | with_reducible_and_instances exact List.Mem.head _ | with_reducible_and_instances refine List.Mem.tail _ ?_)); done) | with_reducible refine Mine.Internal.Aft.there ?_)); all_goals fail))
      k_with "upd" => (exact Mine.Internal.Srt.updP (by with_reducible assumption) (by repeat' (first | exact Mine.Internal.UpdI.head | refine' Mine.Internal.UpdI.tail ?_)) (by k_dflt (k_extra "pos")) (by exact rfl))
      k_with "all" => exact Mine.Internal.Ks.ne_all (by with_reducible assumption) (by first | exact .inr (by k_extra "slt") | exact .inl (by k_extra "slt"))
      k_with "ne" => (refine neN ?_; first | exact Mine.Internal.Srt.ne (by with_reducible assumption) (by with_reducible solve_by_elim (maxDepth := 40) only [Mine.Internal.Apart.l, Mine.Internal.Apart.r, Mine.Internal.Apart.t, List.Mem.head, List.Mem.tail]) | ((try dsimp only); omega))
      k_with "lt" => (intro h9l; first | ((with_reducible rename Mine.Internal.Srt _ => S8); (first | (have S9 := Mine.Internal.Srt.grow S8 (h9l (_, _) (by k_dflt k_mem)); clear S8) | (have S9 := Mine.Internal.Srt.grow S8.tl (h9l (_, _) (by k_dflt k_mem)); clear S8) | (have S9 := Mine.Internal.Srt.grow S8.tl.tl (h9l (_, _) (by k_dflt k_mem)); clear S8)); clear h9l) | (replace h9l := allLt_of h9l; simp only [AllLt, and_true] at h9l))
      k_with "subscriptTail" => (k_here; (with_reducible show wpAny _ _ (subscriptTail _ _ (Value.str _ _) (Value.int _ _)) _ _ _); (refine Mine.Internal.sub_chr (by omega) (by omega) (by assumption) ?_))
      k_with "execs cons" => (k_here; (with_reducible show wpAny _ _ _ _ _ (Shared.mk _ _ _ (_ + _) _)); (refine Mine.Internal.gentoks ?_); intro tkg9 htk9; (try dsimp only at htk9))
      k_with "ite" => (k_here; k_openite; first
      | (refine ite_pos ?hq_unget ?_; (case hq_unget => first | (simp only [decide_eq_true_eq, beq_iff_eq, bne_iff_ne, ne_eq, Bool.not_eq_true', decide_eq_false_iff_not]; omega) | (simp; done)))
      | (refine ite_neg ?hq_unget ?_; (case hq_unget => first | (simp only [decide_eq_true_eq, beq_iff_eq, bne_iff_ne, ne_eq, Bool.not_eq_true', decide_eq_false_iff_not]; omega) | (simp; done))))
      k_with "size" => k_dflt (first | exact Nat.le_of_ble_eq_true rfl | ((with_reducible show Array.size (List.toArray _) ≤ PySem.sizeLine); rw [List.size_toArray, PySem.sizeLine_eq]; refine Nat.le_trans (m := 100002) ?_ (Nat.le_of_ble_eq_true rfl); first | with_reducible assumption | exact Nat.le_trans (m := 100000) (by with_reducible assumption) (Nat.le_of_ble_eq_true rfl)))
      k_with "subscriptTail Name Constant ref int" => k_extra "subscriptTail"
      k_with "tok" => (first | exact Nat.le_add_left 1 _ | with_reducible assumption | exact Nat.le_trans (Nat.le_add_left 1 _) (by with_reducible assumption))
      k_with "next" => (first | ((with_reducible refine Mine.Internal.nextS (g := gens9) (d := dr9) (o := os9) ?_); intro qk9 tkg9) | ((with_reducible refine Mine.Internal.lastS (g := gens9) (d := dr9) (o := os9) ?_); intro tkg9) | (with_reducible refine Mine.Internal.nilS ?_) | (with_reducible refine Mine.Internal.fin9 ?_) | (with_reducible refine Mine.Internal.fin0 ?_) | (with_reducible refine Mine.Internal.finS9 ?_) | (with_reducible refine Mine.Internal.finS0 ?_) | ((with_reducible refine Mine.Internal.nextU (g := gens9) (d := dr9) (o := os9) ?_ ?_); (k_extra "tok"); intro qk9 tkg9) | ((with_reducible refine Mine.Internal.lastU (g := gens9) (d := dr9) (o := os9) ?_ ?_); (k_extra "tok"); intro tkg9) | ((with_reducible refine Mine.Internal.nextZ (g := gens9) (d := dr9) (o := os9) ?_); intro qk9 tkg9) | ((with_reducible refine Mine.Internal.lastZ (g := gens9) (d := dr9) (o := os9) ?_); intro tkg9))
      k_with "subscriptTail" => (first | ((fail_if_success (with_reducible show wpAny _ _ (subscriptTail _ (Expr.Slice _ _ _ _) _ _) _ _ _)); dsimp only) | ((with_reducible show wpAny _ _ (subscriptTail _ _ (Value.ref _) (Value.str (PySem.Str.ofString "data") _)) _ _ _); k_here; k_dflt (refine kdt_tail (knd := PySem.strKind _ _) (by k_asm) (by k_mem) (by k_asm) ?_)) | ((with_reducible show wpAny _ _ (subscriptTail (Expr.Subscript _ _ _) (Expr.UnaryOp _ _ _) (Value.ref _) (Value.int _ _)) _ _ _); k_here; k_dflt (refine' Mine.Internal.item_lastT ?iN_unget ?im_unget ?ik_unget ?_; (case iN_unget => k_asm); (case im_unget => k_mem); (case ik_unget => rfl); k_whole)))
      k_with "execs cons" => k_extra "next"
      k_with "eval Constant int" => (with_reducible refine Mine.Internal.c_int (g := gens9) (d := dr9) (o := os9) ?_)
      k_with "eval Attribute Name" => (k_here; k_dflt (refine' Mine.Internal.at_name (gs := gens9) (d := dr9) (o := os9) ?nF_unget ?nX_unget ?nN_unget ?nv_unget ?n1_unget ?n2_unget ?ng_unget ?nh_unget ?na_unget ?nn_unget ?nl_unget ?nd_unget ?_; (case nF_unget => k_asm); (case nX_unget => k_asm); (case nN_unget => k_asm); (case nv_unget => exact rfl); (case n1_unget => k_mem); (case n2_unget => k_mem); (case ng_unget => k_is); (case nh_unget => k_is); (case na_unget => k_is); (case nn_unget => k_is); (case nl_unget => k_get); (case nd_unget => k_handed); k_whole))
      k_with "setAttr ref" => (first | (k_here; ktx_write) | (k_here; k_dflt (refine' Mine.Internal.st_attr (gs := gens9) (d := dr9) (o := os9) ?sF_unget ?sX_unget ?sN_unget ?s1_unget ?s2_unget ?ss_unget ?sp_unget ?st_unget ?sh_unget ?sl_unget ?se_unget ?sU_unget ?sz_unget ?_; (case sF_unget => k_asm); (case sX_unget => k_asm); (case sN_unget => k_asm); (case s1_unget => k_mem); (case s2_unget => k_mem); (case ss_unget => k_is); (case sp_unget => k_is); (case st_unget => k_is); (case sh_unget => k_is); (case sl_unget => k_get); (case se_unget => k_put); (case sU_unget => k_upd); (case sz_unget => exact Nat.le_of_ble_eq_true rfl); k_whole; intro h' F' N'; (try k_sweep))))
      k_fill
      refine' ctr_introN (binds := [("self", .ref st), ("char", .str ⟨#[c]⟩ tk0)]) (fun h h' T k => T.keeps k) (fun h T => T.nolimit) ?ho_unget ?hcd_unget ?hD_unget ?hb_unget ?hl_unget ?_ ?hc_unget ?c1_unget ?c2_unget ?c3_unget
      case ho_unget => k_is
      case hcd_unget => k_is
      case hD_unget => decide
      case hb_unget => (intro s X; (try (rcases hargs with ⟨rfl, rfl, rfl⟩ | ⟨rfl, rfl⟩)); all_goals (first | exact BindsTo.of_eq rfl | exact binds_K X rfl (by k_is) rfl rfl rfl))
      case hl_unget => exact locs rfl
      case hc_unget => decide
      case c1_unget => exact rfl
      case c2_unget => exact rfl
      case c3_unget => exact rfl
      intro A base g env outer L' h₁ hs9 gens9 dr9 t09 os9 tk B' F' X' N' T' l1
      intro e9 A9 q9
      (try clear l1)
      (try dsimp only at N')
      first | have S0 := Mine.Internal.Srt.eight ho hk hat | have S0 := Mine.Internal.Srt.grow (Mine.Internal.Srt.six ho) hoq | have S0 := Mine.Internal.Srt.five ho hk | have S0 := Mine.Internal.Srt.six ho | have S0 := Mine.Internal.Srt.two ho | have S0 := Mine.Internal.Srt.two hk | skip

      k_steps
      all_goals (refine cend (by assumption) (by assumption) (fun _ h => h) ⟨rfl, _, rfl⟩)
  have ctr_ungetN {w : World} {loose : List Str} {mean : ExcName → Option Value} {mg mb : Str → Option Value} {st : Addr} : CtrC PySem.Challenge.rw_te0076_01.row.prog w (main.heap_1_39 w.params) (Top main.view_1_40 loose mean mg mb) 460 600 (.ref 163) ⟨[.ref st, .none], []⟩ [] (noF fun v l => v = .none ∧ l = []) := by
    as_aux_lemma =>
      clear ctr_is_invalid ctr_charErrors ctr_read ctr_readE ctr_position0 ctr_unget
      k_with_none
      k_with "pos" => (repeat' (first | exact Mine.Internal.PosL.nil | (apply Mine.Internal.PosL.cons 0; exact rfl) | (apply Mine.Internal.PosL.cons 1; exact rfl) | (apply Mine.Internal.PosL.cons 2; exact rfl) | (apply Mine.Internal.PosL.cons 3; exact rfl) | (apply Mine.Internal.PosL.cons 4; exact rfl) | (apply Mine.Internal.PosL.cons 5; exact rfl) | (apply Mine.Internal.PosL.cons 6; exact rfl) | (apply Mine.Internal.PosL.cons 7; exact rfl) | (apply Mine.Internal.PosL.cons 8; exact rfl) | (apply Mine.Internal.PosL.cons 9; exact rfl) | (apply Mine.Internal.PosL.cons 10; exact rfl) | (apply Mine.Internal.PosL.cons 11; exact rfl) | (apply Mine.Internal.PosL.cons 12; exact rfl) | (apply Mine.Internal.PosL.cons 13; exact rfl) | (apply Mine.Internal.PosL.cons 14; exact rfl) | (apply Mine.Internal.PosL.cons 15; exact rfl) | (apply Mine.Internal.PosL.cons 16; exact rfl) | (apply Mine.Internal.PosL.cons 17; exact rfl) | (apply Mine.Internal.PosL.cons 18; exact rfl) | (apply Mine.Internal.PosL.cons 19; exact rfl) | (apply Mine.Internal.PosL.cons 20; exact rfl) | (apply Mine.Internal.PosL.cons 21; exact rfl) | (apply Mine.Internal.PosL.cons 22; exact rfl) | (apply Mine.Internal.PosL.cons 23; exact rfl)))
      k_with "slt" => exact Mine.Internal.Srt.lt (by with_reducible assumption) (by ((repeat (first | (with_reducible_and_instances refine Mine.Internal.Aft.here ?_; (repeat (first | with_reducible_and_instances exact List.Mem.head _ | with_reducible_and_instances refine List.Mem.tail _ ?_)); done) | with_reducible refine Mine.Internal.Aft.there ?_)); all_goals fail))
      k_with "upd" => (exact Mine.Internal.Srt.updP (by with_reducible assumption) (by repeat' (first | exact Mine.Internal.UpdI.head | refine' Mine.Internal.UpdI.tail ?_)) (by k_dflt (k_extra "pos")) (by exact rfl))
      k_with "all" => exact Mine.Internal.Ks.ne_all (by with_reducible assumption) (by first | exact .inr (by k_extra "slt") | exact .inl (by k_extra "slt"))
      k_with "ne" => (refine neN ?_; first | exact Mine.Internal.Srt.ne (by with_reducible assumption) (by with_reducible solve_by_elim (maxDepth := 40) only [Mine.Internal.Apart.l, Mine.Internal.Apart.r, Mine.Internal.Apart.t, List.Mem.head, List.Mem.tail]) | ((try dsimp only); omega))
      k_with "lt" => (intro h9l; first | ((with_reducible rename Mine.Internal.Srt _ => S8); (first | (have S9 := Mine.Internal.Srt.grow S8 (h9l (_, _) (by k_dflt k_mem)); clear S8) | (have S9 := Mine.Internal.Srt.grow S8.tl (h9l (_, _) (by k_dflt k_mem)); clear S8) | (have S9 := Mine.Internal.Srt.grow S8.tl.tl (h9l (_, _) (by k_dflt k_mem)); clear S8)); clear h9l) | (replace h9l := allLt_of h9l; simp only [AllLt, and_true] at h9l))
      k_with "execs cons" => (k_here; (with_reducible show wpAny _ _ _ _ _ (Shared.mk _ _ _ (_ + _) _)); (refine Mine.Internal.gentoks ?_); intro tkg9 htk9; (try dsimp only at htk9))
      k_with "size" => k_dflt (first | exact Nat.le_of_ble_eq_true rfl | ((with_reducible show Array.size (List.toArray _) ≤ PySem.sizeLine); rw [List.size_toArray, PySem.sizeLine_eq]; refine Nat.le_trans (m := 100002) ?_ (Nat.le_of_ble_eq_true rfl); first | with_reducible assumption | exact Nat.le_trans (m := 100000) (by with_reducible assumption) (Nat.le_of_ble_eq_true rfl)))
      k_with "subscriptTail Name Constant ref int" => k_extra "subscriptTail"
      k_with "tok" => (first | exact Nat.le_add_left 1 _ | with_reducible assumption | exact Nat.le_trans (Nat.le_add_left 1 _) (by with_reducible assumption))
      k_with "next" => (first | ((with_reducible refine Mine.Internal.nextS (g := gens9) (d := dr9) (o := os9) ?_); intro qk9 tkg9) | ((with_reducible refine Mine.Internal.lastS (g := gens9) (d := dr9) (o := os9) ?_); intro tkg9) | (with_reducible refine Mine.Internal.nilS ?_) | (with_reducible refine Mine.Internal.fin9 ?_) | (with_reducible refine Mine.Internal.fin0 ?_) | (with_reducible refine Mine.Internal.finS9 ?_) | (with_reducible refine Mine.Internal.finS0 ?_) | ((with_reducible refine Mine.Internal.nextU (g := gens9) (d := dr9) (o := os9) ?_ ?_); (k_extra "tok"); intro qk9 tkg9) | ((with_reducible refine Mine.Internal.lastU (g := gens9) (d := dr9) (o := os9) ?_ ?_); (k_extra "tok"); intro tkg9) | ((with_reducible refine Mine.Internal.nextZ (g := gens9) (d := dr9) (o := os9) ?_); intro qk9 tkg9) | ((with_reducible refine Mine.Internal.lastZ (g := gens9) (d := dr9) (o := os9) ?_); intro tkg9))
      k_with "execs cons" => k_extra "next"
      k_with "execs nil" => (with_reducible refine Mine.Internal.nilS ?_)
      k_fill
      refine' ctr_introN (binds := [("self", .ref st), ("char", .none)]) (fun h h' T k => T.keeps k) (fun h T => T.nolimit) ?ho_ungetN ?hcd_ungetN ?hD_ungetN ?hb_ungetN ?hl_ungetN ?_ ?hc_ungetN ?c1_ungetN ?c2_ungetN ?c3_ungetN
      case ho_ungetN => k_is
      case hcd_ungetN => k_is
      case hD_ungetN => decide
      case hb_ungetN => (intro s X; (try (rcases hargs with ⟨rfl, rfl, rfl⟩ | ⟨rfl, rfl⟩)); all_goals (first | exact BindsTo.of_eq rfl | exact binds_K X rfl (by k_is) rfl rfl rfl))
      case hl_ungetN => exact locs rfl
      case hc_ungetN => decide
      case c1_ungetN => exact rfl
      case c2_ungetN => exact rfl
      case c3_ungetN => exact rfl
      intro A base g env outer L' h₁ hs9 gens9 dr9 t09 os9 tk B' F' X' N' T' l1
      intro e9 A9 q9
      (try clear l1)
      (try dsimp only at N')
      first | have S0 := Mine.Internal.Srt.eight ho hk hat | have S0 := Mine.Internal.Srt.grow (Mine.Internal.Srt.six ho) hoq | have S0 := Mine.Internal.Srt.five ho hk | have S0 := Mine.Internal.Srt.six ho | have S0 := Mine.Internal.Srt.two ho | have S0 := Mine.Internal.Srt.two hk | skip

      k_steps
      all_goals (refine cend (l := []) (by assumption) (by assumption) (fun _ h => nomatch h) ⟨rfl, rfl⟩)
  have ctr_ungetS {w : World} {loose : List Str} {mean : ExcName → Option Value} {mg mb : Str → Option Value} {st sd : Addr} {k0 k1 k2 k3 k4 k5 k6 k7 k8 k9 : Tok} {rce nl ds er dd : Addr} {j0 j1 : Tok} {src : Str} {tsr : Tok} {x : St} {c : Nat} {tk0 : Tok} (ho : @LT.lt Nat _ sd st ∧ @LT.lt Nat _ st rce ∧ @LT.lt Nat _ rce dd ∧ @LT.lt Nat _ dd ds ∧ @LT.lt Nat _ ds er) (ok : x.ok src) (h1 : 1 ≤ x.off) (hc : x.chunk.cps[(x.off - 1).toNat]? = some c) :
      CtrC PySem.Challenge.rw_te0076_01.row.prog w (main.heap_1_39 w.params) (Top main.view_1_40 loose mean mg mb) 460 600 (.ref 163) ⟨[.ref st, .str ⟨#[c]⟩ tk0], []⟩ [(st, instObj 166 sd), (sd, dictOf (sdict w.params k0 k1 k2 k3 k4 k5 k6 k7 k8 k9 rce nl ds x.chunk x.tc x.size x.ts x.off x.to er x.pl x.tl x.pc x.tp x.buf) 10), (ds, instObj 73 dd), (dd, dictOf (tdict w.params j0 j1 src tsr x.place x.tpl) 2), (rce, methodObj (.ref 148) (.ref st)), (er, W.listOf x.es.toArray x.n)] (noF fun v l => v = .none ∧ ∃ x' : St, x'.ok src ∧ x'.rem src = c :: x.rem src ∧ l = [(st, instObj 166 sd), (sd, dictOf (sdict w.params k0 k1 k2 k3 k4 k5 k6 k7 k8 k9 rce nl ds x'.chunk x'.tc x'.size x'.ts x'.off x'.to er x'.pl x'.tl x'.pc x'.tp x'.buf) 10), (ds, instObj 73 dd), (dd, dictOf (tdict w.params j0 j1 src tsr x'.place x'.tpl) 2), (rce, methodObj (.ref 148) (.ref st)), (er, W.listOf x'.es.toArray x'.n)]) := by
    as_aux_lemma =>
      clear ctr_is_invalid ctr_charErrors ctr_read ctr_readE ctr_position0 ctr_ungetN
      refine CtrC.mono (fun v fr l h => ?_) (CtrC.frame (l := [_, _]) (e := [_, _, _, _]) (ctr_unget ho.1 h1 (by have := ok.off1; have := ok.csize; have := ok.clen; omega) hc) ?_)
      · obtain ⟨l', hl, h0, hv, to', hl'⟩ := h
        have hq := rem_back ok h1 hc rfl
        refine ⟨h0, hv, { x with off := x.off - 1, to := to' }, (hq _ 0).1, (hq 0 _).2, ?_⟩
        rw [hl, hl']; rfl
      · have ho' := ho
        simp only [List.forall_mem_cons, List.not_mem_nil, false_implies, implies_true, and_true]
        refine ⟨⟨?_, ?_⟩, ⟨?_, ?_⟩, ⟨?_, ?_⟩, ⟨?_, ?_⟩⟩ <;> (intro e; subst e; omega)
  have ctr_readN {w : World} {loose : List Str} {mean : ExcName → Option Value} {mg mb : Str → Option Value} {st sd : Addr} {k0 k1 k2 k3 k4 k5 k6 k7 k8 k9 : Tok} {rce nl ds er dd : Addr} {j0 j1 : Tok} {src : Str} {tsr : Tok} {x : St} (ho : @LT.lt Nat _ sd st ∧ @LT.lt Nat _ st rce ∧ @LT.lt Nat _ rce dd ∧ @LT.lt Nat _ dd ds ∧ @LT.lt Nat _ ds er) (ok : x.ok src) (hb : x.buf = .none) :
      CtrC PySem.Challenge.rw_te0076_01.row.prog w (main.heap_1_39 w.params) (Top main.view_1_40 loose mean mg mb) 470 700 (.ref 141) ⟨[.ref st], []⟩ [(st, instObj 166 sd), (sd, dictOf (sdict w.params k0 k1 k2 k3 k4 k5 k6 k7 k8 k9 rce nl ds x.chunk x.tc x.size x.ts x.off x.to er x.pl x.tl x.pc x.tp x.buf) 10), (ds, instObj 73 dd), (dd, dictOf (tdict w.params j0 j1 src tsr x.place x.tpl) 2), (rce, methodObj (.ref 148) (.ref st)), (er, W.listOf x.es.toArray x.n)] (noF (RPost w st sd k0 k1 k2 k3 k4 k5 k6 k7 k8 k9 rce nl ds er dd j0 j1 src tsr x)) := by
    as_aux_lemma =>
      clear ctr_is_invalid ctr_readE ctr_unget ctr_ungetN ctr_ungetS
      obtain ⟨chunk, tc, size, ts, off, to, pl, tl, pc, tp, buf, pend, place, tpl, es, n⟩ := x
      obtain ⟨oksize, okoff0, okoff1, oklen, h0, h1, hs, okbuf, hes, hsu, okpend, okhist⟩ := ok
      dsimp only at *
      have hpend : pend = [] := by rcases okbuf with h | ⟨t, h, _⟩; exact h.2; (rw [hb] at h; cases h)
      subst hb; subst hpend
      k_with_none
      k_with "pos" => (repeat' (first | exact Mine.Internal.PosL.nil | (apply Mine.Internal.PosL.cons 0; exact rfl) | (apply Mine.Internal.PosL.cons 1; exact rfl) | (apply Mine.Internal.PosL.cons 2; exact rfl) | (apply Mine.Internal.PosL.cons 3; exact rfl) | (apply Mine.Internal.PosL.cons 4; exact rfl) | (apply Mine.Internal.PosL.cons 5; exact rfl) | (apply Mine.Internal.PosL.cons 6; exact rfl) | (apply Mine.Internal.PosL.cons 7; exact rfl) | (apply Mine.Internal.PosL.cons 8; exact rfl) | (apply Mine.Internal.PosL.cons 9; exact rfl) | (apply Mine.Internal.PosL.cons 10; exact rfl) | (apply Mine.Internal.PosL.cons 11; exact rfl) | (apply Mine.Internal.PosL.cons 12; exact rfl) | (apply Mine.Internal.PosL.cons 13; exact rfl) | (apply Mine.Internal.PosL.cons 14; exact rfl) | (apply Mine.Internal.PosL.cons 15; exact rfl) | (apply Mine.Internal.PosL.cons 16; exact rfl) | (apply Mine.Internal.PosL.cons 17; exact rfl) | (apply Mine.Internal.PosL.cons 18; exact rfl) | (apply Mine.Internal.PosL.cons 19; exact rfl) | (apply Mine.Internal.PosL.cons 20; exact rfl) | (apply Mine.Internal.PosL.cons 21; exact rfl) | (apply Mine.Internal.PosL.cons 22; exact rfl) | (apply Mine.Internal.PosL.cons 23; exact rfl)))
      k_with "slt" => exact Mine.Internal.Srt.lt (by with_reducible assumption) (by ((repeat (first | (with_reducible_and_instances refine Mine.Internal.Aft.here ?_; (repeat (first | with_reducible_and_instances exact List.Mem.head _ | with_reducible_and_instances refine List.Mem.tail _ ?_)); done) | with_reducible refine Mine.Internal.Aft.there ?_)); all_goals fail))
      k_with "upd" => (exact Mine.Internal.Srt.updP (by with_reducible assumption) (by repeat' (first | exact Mine.Internal.UpdI.head | refine' Mine.Internal.UpdI.tail ?_)) (by k_dflt (k_extra "pos")) (by exact rfl))
      k_with "all" => exact Mine.Internal.Ks.ne_all (by with_reducible assumption) (by first | exact .inr (by k_extra "slt") | exact .inl (by k_extra "slt"))
      k_with "ne" => (refine neN ?_; first | exact Mine.Internal.Srt.ne (by with_reducible assumption) (by with_reducible solve_by_elim (maxDepth := 40) only [Mine.Internal.Apart.l, Mine.Internal.Apart.r, Mine.Internal.Apart.t, List.Mem.head, List.Mem.tail]) | ((try dsimp only); omega))
      k_with "lt" => (intro h9l; first | ((with_reducible rename Mine.Internal.Srt _ => S8); (first | (have S9 := Mine.Internal.Srt.grow S8 (h9l (_, _) (by k_dflt k_mem)); clear S8) | (have S9 := Mine.Internal.Srt.grow S8.tl (h9l (_, _) (by k_dflt k_mem)); clear S8) | (have S9 := Mine.Internal.Srt.grow S8.tl.tl (h9l (_, _) (by k_dflt k_mem)); clear S8)); clear h9l) | (replace h9l := allLt_of h9l; simp only [AllLt, and_true] at h9l))
      k_with "getMethod ref" => (k_here; k_dflt (first | (refine' method_inst ?k1_readN ?k2_readN ?k3_readN ?k4_readN ?k5_readN ?k6_readN ?k7_readN ?_; (case k1_readN => k_asm); (case k2_readN => k_asm); (case k3_readN => k_inst); (case k4_readN => k_is); (case k5_readN => k_is); (case k6_readN => k_is); (case k7_readN => k_get); k_whole) | (refine' kmu_own ?k1_readN ?k2_readN ?k3_readN ?k4_readN ?k5_readN ?_; (case k1_readN => k_asm); (case k2_readN => k_asm); (case k3_readN => k_inst); (case k4_readN => k_is); (case k5_readN => k_is); k_whole)))
      k_with "getMethod ref" => (k_here; (with_reducible show wpAny _ _ (getMethod (Value.ref _) (PySem.Str.ofString "append") _) _ _ _); k_dflt (refine' kl_method ?N_readN ?m_readN slot_list_append type_list_append ?_; (case N_readN => k_asm); (case m_readN => k_mem); k_whole))
      k_with "subscriptTail Name UnaryOp str int" => (k_here; (with_reducible show wpAny _ _ (subscriptTail _ _ (Value.str _ _) (Value.int _ _)) _ _ _); (refine Mine.Internal.sub_last (by omega) (by omega) (by omega) ?_); intro c9 hc9; (try (k_dflt (have hs9 := Mine.Internal.last_lt (B := 55296) (by assumption) (by assumption) hc9))))
      k_with "call builtin:str.replace" => (k_here; (with_reducible show wpAny _ _ (call (Value.builtin "str.replace") [Value.str _ _, Value.str _ _, Value.str _ _]) _ _ _); (refine Mine.Internal.replaceM (by (try dsimp only); omega) (by (try dsimp only); omega) (by (try dsimp only); omega) (by decide +kernel) (by (refine Nat.le_trans (m := 10000) ?_ (by decide); repeat' (first | with_reducible assumption | with_reducible refine Mine.Internal.slice_len_le ?_ | (with_reducible refine Nat.le_trans (Mine.Internal.replace_len (by decide +kernel) (by decide +kernel)) ?_) | exact (by decide +kernel)))) (by decide +kernel) ?_); intro t9 kq9 hk9; (try dsimp only at hk9))
      k_with "execs cons" => (k_here; (with_reducible show wpAny _ _ _ _ _ (Shared.mk _ _ _ (_ + _) _)); (refine Mine.Internal.gentoks ?_); intro tkg9 htk9; (try dsimp only at htk9))
      k_with "call builtin:len" => (k_here; (with_reducible show wpAny _ _ (call (Value.builtin "len") [Value.str _ _]) _ _ _); (refine SBL.len (by first | omega | exact Mine.Internal.fit63 (by (refine Nat.le_trans (m := 10000) ?_ (by decide); repeat' (first | with_reducible assumption | with_reducible refine Mine.Internal.slice_len_le ?_ | (with_reducible refine Nat.le_trans (Mine.Internal.replace_len (by decide +kernel) (by decide +kernel)) ?_) | exact (by decide +kernel))))) ?_))
      k_with "truthy ref" => (k_here; k_dflt (refine' Mine.Internal.truthy_meth ?k1_readN ?k2_readN ?_; (case k1_readN => k_asm); (case k2_readN => k_mem); k_whole))
      k_with "truthy str" => (k_here; (with_reducible show wpAny _ _ (PySem.truthy (Value.str _ _)) _ _ _); (refine SBL.truthy (by omega) ?_))
      k_with "ite" => (k_here; k_openite; first
      | (refine ite_pos ?hq_readN ?_; (case hq_readN => first | (simp only [decide_eq_true_eq, beq_iff_eq, bne_iff_ne, ne_eq, Bool.not_eq_true', decide_eq_false_iff_not]; omega) | (simp; done)))
      | (refine ite_neg ?hq_readN ?_; (case hq_readN => first | (simp only [decide_eq_true_eq, beq_iff_eq, bne_iff_ne, ne_eq, Bool.not_eq_true', decide_eq_false_iff_not]; omega) | (simp; done))))
      k_with "size" => k_dflt (first | exact Nat.le_of_ble_eq_true rfl | ((with_reducible show Array.size (List.toArray _) ≤ PySem.sizeLine); rw [List.size_toArray, PySem.sizeLine_eq]; refine Nat.le_trans (m := 100002) ?_ (Nat.le_of_ble_eq_true rfl); first | with_reducible assumption | exact Nat.le_trans (m := 100000) (by with_reducible assumption) (Nat.le_of_ble_eq_true rfl)))
      k_with "subscriptTail Name Constant ref int" => k_extra "subscriptTail"
      k_with "tok" => (first | exact Nat.le_add_left 1 _ | with_reducible assumption | exact Nat.le_trans (Nat.le_add_left 1 _) (by with_reducible assumption))
      k_with "next" => (first | ((with_reducible refine Mine.Internal.nextS (g := gens9) (d := dr9) (o := os9) ?_); intro qk9 tkg9) | ((with_reducible refine Mine.Internal.lastS (g := gens9) (d := dr9) (o := os9) ?_); intro tkg9) | (with_reducible refine Mine.Internal.nilS ?_) | (with_reducible refine Mine.Internal.fin9 ?_) | (with_reducible refine Mine.Internal.fin0 ?_) | (with_reducible refine Mine.Internal.finS9 ?_) | (with_reducible refine Mine.Internal.finS0 ?_) | ((with_reducible refine Mine.Internal.nextU (g := gens9) (d := dr9) (o := os9) ?_ ?_); (k_extra "tok"); intro qk9 tkg9) | ((with_reducible refine Mine.Internal.lastU (g := gens9) (d := dr9) (o := os9) ?_ ?_); (k_extra "tok"); intro tkg9) | ((with_reducible refine Mine.Internal.nextZ (g := gens9) (d := dr9) (o := os9) ?_); intro qk9 tkg9) | ((with_reducible refine Mine.Internal.lastZ (g := gens9) (d := dr9) (o := os9) ?_); intro tkg9))
      k_with "execs cons" => k_extra "next"
      k_with "execs nil" => (with_reducible refine Mine.Internal.nilS ?_)
      k_with "eval Constant int" => (with_reducible refine Mine.Internal.c_int (g := gens9) (d := dr9) (o := os9) ?_)
      k_with "eval Constant str" => (with_reducible refine Mine.Internal.c_str (g := gens9) (d := dr9) (o := os9) ?_)
      k_with "call builtin:str.replace" => (k_here; (with_reducible show wpAny _ _ (call (Value.builtin "str.replace") [Value.str _ _, Value.str _ _, Value.str _ _]) _ _ _); (refine Mine.Internal.c_replace (gs := gens9) (d := dr9) (o := os9) (by first | exact Nat.ne_of_lt (Nat.lt_succ_self _) | omega) (by decide +kernel) (by (refine Nat.le_trans (m := 10000) ?_ (by decide); repeat' (first | with_reducible assumption | with_reducible refine Mine.Internal.slice_len_le ?_ | (with_reducible refine Nat.le_trans (Mine.Internal.replace_len (by decide +kernel) (by decide +kernel)) ?_) | exact (by decide +kernel)))) (by decide +kernel) ?_); intro t9 kq9)
      k_with "eval Attribute Name" => (k_here; k_dflt (refine' Mine.Internal.at_name (gs := gens9) (d := dr9) (o := os9) ?nF_readN ?nX_readN ?nN_readN ?nv_readN ?n1_readN ?n2_readN ?ng_readN ?nh_readN ?na_readN ?nn_readN ?nl_readN ?nd_readN ?_; (case nF_readN => k_asm); (case nX_readN => k_asm); (case nN_readN => k_asm); (case nv_readN => exact rfl); (case n1_readN => k_mem); (case n2_readN => k_mem); (case ng_readN => k_is); (case nh_readN => k_is); (case na_readN => k_is); (case nn_readN => k_is); (case nl_readN => k_get); (case nd_readN => k_handed); k_whole))
      k_with "setAttr ref" => (first | (k_here; ktx_write) | (k_here; k_dflt (refine' Mine.Internal.st_attr (gs := gens9) (d := dr9) (o := os9) ?sF_readN ?sX_readN ?sN_readN ?s1_readN ?s2_readN ?ss_readN ?sp_readN ?st_readN ?sh_readN ?sl_readN ?se_readN ?sU_readN ?sz_readN ?_; (case sF_readN => k_asm); (case sX_readN => k_asm); (case sN_readN => k_asm); (case s1_readN => k_mem); (case s2_readN => k_mem); (case ss_readN => k_is); (case sp_readN => k_is); (case st_readN => k_is); (case sh_readN => k_is); (case sl_readN => k_get); (case se_readN => k_put); (case sU_readN => k_upd); (case sz_readN => exact Nat.le_of_ble_eq_true rfl); k_whole; intro h' F' N'; (try k_sweep))))
      k_with "storeName" => (first | (k_here; ktx_write) | (k_here; k_dflt (refine' Mine.Internal.st_name (gs := gens9) (d := dr9) (o := os9) ?tF_readN ?tN_readN ?_; (case tF_readN => k_asm); (case tN_readN => k_asm); k_whole; intro m9 h' F' N'; (try k_sweep))))
      k_with "call ref" => (k_here; (with_reducible show wpAny _ _ (call (Value.ref 119) [Value.ref _, Value.int _ _] _) _ _ _); k_dflt (refine' Mine.Internal.Ctr.useF (gs := gens9) (d := dr9) (o := os9) (Mine.Internal.CtrC.call (ctr_position0 ?p1_readN)) ?cB_readN ?cF_readN ?cX_readN ?cN_readN ?cT_readN ?ca_readN ?cb_readN ?cc_readN ?ce_readN ?cd_readN ?cu_readN ?ck_readN ?cne_readN ?_; (case cB_readN => k_asm); (case cF_readN => k_asm); (case cX_readN => k_asm); (case cT_readN => k_asm); (case cN_readN => k_asm); (case ca_readN => exact rfl); (case cb_readN => exact rfl); (case cc_readN => exact rfl); (case ce_readN => exact rfl); (case cd_readN => exact Nat.le_of_ble_eq_true rfl); (case cu_readN => exact Nat.le_of_ble_eq_true rfl); (case ck_readN => ((try (refine' Mine.Internal.Take.cons ?_ ?_)); repeat' (first | exact Mine.Internal.Take.nil | exact Mine.Internal.Del.head | refine' Mine.Internal.Take.cons ?_ ?_ | refine' Mine.Internal.Del.tail ?_))); (case cne_readN => first | exact List.forall_mem_nil _ | exact (fun _ _ => List.forall_mem_nil _) | exact Mine.Internal.Srt.neL (by with_reducible assumption) (by k_extra "pos") (by k_extra "pos") (by exact rfl) | ((simp only [List.forall_mem_cons, List.not_mem_nil, false_implies, implies_true, and_true, true_and]); (repeat' (refine And.intro ?_ ?_)); all_goals k_ne)); (case p1_readN => omega); (k_whole; intro v' fr' l' hp' hfr'; obtain ⟨q', ta', tb', e1', e2', e3'⟩ := hp'; subst e1'; subst e2'; subst e3'; (first | ((with_reducible rename Mine.Internal.Srt _ => S8); (have S9 := Mine.Internal.fresh_grow S8 hfr' (by k_dflt k_mem)); clear S8; clear hfr') | simp only [List.cons_append, List.nil_append, List.forall_mem_cons, List.not_mem_nil, false_implies, implies_true, and_true, true_and] at hfr'); intro h' n' hn' F' N'; (try dsimp only [List.cons_append, List.nil_append] at N'); (try k_sweep); (try dsimp only); (try k_fold))))
      k_with "call ref" => (k_here; (with_reducible show wpAny _ _ (call (Value.ref 70) [Value.ref _, Value.int _ _] _) _ _ _); k_dflt (refine' Mine.Internal.Ctr.useN (gs := gens9) (d := dr9) (o := os9) (Mine.Internal.CtrC.call (ctr_read ?p1_readN ?p2_readN ?p3_readN ?p4_readN ?p5_readN)) ?cB_readN ?cF_readN ?cX_readN ?cN_readN ?cT_readN ?ca_readN ?cb_readN ?cc_readN ?ce_readN ?cd_readN ?cu_readN ?ck_readN ?cne_readN ?_; (case cB_readN => k_asm); (case cF_readN => k_asm); (case cX_readN => k_asm); (case cT_readN => k_asm); (case cN_readN => k_asm); (case ca_readN => exact rfl); (case cb_readN => exact rfl); (case cc_readN => exact rfl); (case ce_readN => exact rfl); (case cd_readN => exact Nat.le_of_ble_eq_true rfl); (case cu_readN => exact Nat.le_of_ble_eq_true rfl); (case ck_readN => ((try (refine' Mine.Internal.Take.cons ?_ ?_)); repeat' (first | exact Mine.Internal.Take.nil | exact Mine.Internal.Del.head | refine' Mine.Internal.Take.cons ?_ ?_ | refine' Mine.Internal.Del.tail ?_))); (case cne_readN => first | exact List.forall_mem_nil _ | exact (fun _ _ => List.forall_mem_nil _) | exact Mine.Internal.Srt.neL (by with_reducible assumption) (by k_extra "pos") (by k_extra "pos") (by exact rfl) | ((simp only [List.forall_mem_cons, List.not_mem_nil, false_implies, implies_true, and_true, true_and]); (repeat' (refine And.intro ?_ ?_)); all_goals k_ne)); (case p1_readN => omega); (case p2_readN => omega); (case p3_readN => omega); (case p4_readN => omega); (case p5_readN => rfl); (k_whole; intro v' l' hp'; obtain ⟨x', tv', p', tp', hx', hxl', hq', e1', e2'⟩ := hp'; subst e1'; subst e2'; intro h' n' hn' F' N'; (try dsimp only [List.cons_append, List.nil_append] at N'); (try k_sweep); (try dsimp only); (try k_fold))))
      k_with "call ref" => (k_here; (with_reducible show wpAny _ _ (call (Value.ref _) [Value.str _ _] _) _ _ _); k_dflt (refine' Mine.Internal.Ctr.useN (gs := gens9) (d := dr9) (o := os9) (Mine.Internal.CtrC.boundN (ctr_charErrors ?p1_readN ?p2_readN ?p3_readN ?p4_readN) ?p5_readN) ?cB_readN ?cF_readN ?cX_readN ?cN_readN ?cT_readN ?ca_readN ?cb_readN ?cc_readN ?ce_readN ?cd_readN ?cu_readN ?ck_readN ?cne_readN ?_; (case cB_readN => k_asm); (case cF_readN => k_asm); (case cX_readN => k_asm); (case cT_readN => k_asm); (case cN_readN => k_asm); (case ca_readN => exact rfl); (case cb_readN => exact rfl); (case cc_readN => exact rfl); (case ce_readN => exact rfl); (case cd_readN => exact Nat.le_of_ble_eq_true rfl); (case cu_readN => exact Nat.le_of_ble_eq_true rfl); (case ck_readN => ((try (refine' Mine.Internal.Take.cons ?_ ?_)); repeat' (first | exact Mine.Internal.Take.nil | exact Mine.Internal.Del.head | refine' Mine.Internal.Take.cons ?_ ?_ | refine' Mine.Internal.Del.tail ?_))); (case cne_readN => first | exact List.forall_mem_nil _ | exact (fun _ _ => List.forall_mem_nil _) | exact Mine.Internal.Srt.neL (by with_reducible assumption) (by k_extra "pos") (by k_extra "pos") (by exact rfl) | ((simp only [List.forall_mem_cons, List.not_mem_nil, false_implies, implies_true, and_true, true_and]); (repeat' (refine And.intro ?_ ?_)); all_goals k_ne)); (case p1_readN => omega); (case p2_readN => omega); (case p3_readN => (refine Nat.le_trans (m := 10000) ?_ (by decide); repeat' (first | with_reducible assumption | with_reducible refine Mine.Internal.slice_len_le ?_ | (with_reducible refine Nat.le_trans (Mine.Internal.replace_len (by decide +kernel) (by decide +kernel)) ?_) | exact (by decide +kernel)))); (case p4_readN => omega); (case p5_readN => first | exact Mine.Internal.Srt.neB (by with_reducible assumption) (by k_extra "pos") (by k_extra "pos") (by exact rfl) | ((simp only [List.forall_mem_cons, List.not_mem_nil, false_implies, implies_true, and_true, true_and]; (repeat' (refine And.intro ?_ ?_)); all_goals k_ne))); (k_whole; intro v' l' hp'; obtain ⟨hp'⟩ := hp'; obtain ⟨e1', es', n', hl', e2'⟩ := hp'; subst e1'; subst e2'; intro h' n' hn' F' N'; (try dsimp only [List.cons_append, List.nil_append] at N'); (try k_sweep); (try dsimp only); (try k_fold))))
      k_fill
      refine' ctr_introN (binds := [("self", .ref st), ("chunkSize", .none)]) (fun h h' T k => T.keeps k) (fun h T => T.nolimit) ?ho_readN ?hcd_readN ?hD_readN ?hb_readN ?hl_readN ?_ ?hc_readN ?c1_readN ?c2_readN ?c3_readN
      case ho_readN => k_is
      case hcd_readN => k_is
      case hD_readN => decide
      case hb_readN => (intro s X; (try (rcases hargs with ⟨rfl, rfl, rfl⟩ | ⟨rfl, rfl⟩)); all_goals (first | exact BindsTo.of_eq rfl | exact binds_K X rfl (by k_is) rfl rfl rfl))
      case hl_readN => exact locs rfl
      case hc_readN => decide
      case c1_readN => exact rfl
      case c2_readN => exact rfl
      case c3_readN => exact rfl
      intro A base g env outer L' h₁ hs9 gens9 dr9 t09 os9 tk B' F' X' N' T' l1
      intro e9 A9 q9
      (try clear l1)
      (try dsimp only at N')
      first | have S0 := Mine.Internal.Srt.eight ho hk hat | have S0 := Mine.Internal.Srt.grow (Mine.Internal.Srt.six ho) hoq | have S0 := Mine.Internal.Srt.five ho hk | have S0 := Mine.Internal.Srt.six ho | have S0 := Mine.Internal.Srt.two ho | have S0 := Mine.Internal.Srt.two hk | skip

      k_steps
      all_goals (try dsimp only)
      all_goals (refine' cend (l := [(st, _), (sd, _), (ds, _), (dd, _), (rce, _), (er, _)]) (by assumption) (by assumption) (Mine.Internal.Take.sub (by ((try dsimp only); repeat' (first | exact Mine.Internal.Take.nil | exact Mine.Internal.Del.head | refine' Mine.Internal.Take.blk ?_ | exact Mine.Internal.Tl.nil | exact Mine.Internal.Tl.app | refine' Mine.Internal.Take.cons ?_ ?_ | refine' Mine.Internal.Del.tail ?_ | refine' Mine.Internal.Tl.cons ?_)))) ?_)
      rotate_left 3
      · have hq9 := Mine.Internal.rd_none h0 hs hsu hes (by with_reducible assumption) (by with_reducible assumption) (by omega) rfl rfl rfl
        (refine' Mine.Internal.RPost.mk ⟨_, _, _, _, _, _, _, _, _, _, _, [], _, _, _, _⟩ false ?rp1a1_readN ?rp1a2_readN ?rp1a3_readN ?rp1a4_readN ?rp1a5_readN ?rp1a6_readN ?rp1a7_readN; (case rp1a1_readN => exact ((hq9 ..).1 (Mine.Internal.hist_step okhist oksize))); (case rp1a2_readN => exact rfl); (case rp1a3_readN => exact ((hq9 0 0 0 0 0 0 0 0 0).2.1.trans (hq9 0 0 0 0 0 0 0 0 0).2.2.symm)); (case rp1a4_readN => exact (fun h => nomatch h)); (case rp1a5_readN => exact (fun _ => (hq9 0 0 0 0 0 0 0 0 0).2.1)); (case rp1a6_readN => exact rfl); (case rp1a7_readN => exact rfl))
      · have e9 := Mine.Internal.c13 (by with_reducible assumption) (by with_reducible assumption) (by with_reducible assumption)
        subst e9
        have hy9 := Mine.Internal.last_cut (j := -1) rfl (by with_reducible assumption)
        have hq9 := fun tb => Mine.Internal.rd_fin0 (pend' := [13]) (buf' := .str ⟨#[13]⟩ tb) h0 hs hsu hes (by with_reducible assumption) (by with_reducible assumption) (by with_reducible assumption) hy9 (.inr ⟨_, rfl, rfl⟩) (by with_reducible assumption) (Mine.Internal.cut_len hy9 (by omega))
        (refine' Mine.Internal.RPost.mk ⟨_, _, _, _, _, _, _, _, _, _, _, [13], _, _, _, _⟩ true ?rp2a1_readN ?rp2a2_readN ?rp2a3_readN ?rp2a4_readN ?rp2a5_readN ?rp2a6_readN ?rp2a7_readN; (case rp2a1_readN => exact ((hq9 ..).1 (Mine.Internal.hist_step okhist oksize))); (case rp2a2_readN => exact rfl); (case rp2a3_readN => exact (hq9 0 0 0 0 0 0 0 0 0 0).2.1); (case rp2a4_readN => exact (fun _ => (hq9 0 0 0 0 0 0 0 0 0 0).2.2)); (case rp2a5_readN => exact (fun h => nomatch h)); (case rp2a6_readN => exact rfl); (case rp2a7_readN => exact rfl))
      all_goals (have hq9 := Mine.Internal.rd_fin0 (pend' := []) (buf' := .none) h0 hs hsu hes (by with_reducible assumption) (by with_reducible assumption) (by with_reducible assumption) (List.append_nil _).symm (.inl ⟨rfl, rfl⟩) (by with_reducible assumption) (by omega); (refine' Mine.Internal.RPost.mk ⟨_, _, _, _, _, _, _, _, _, _, _, [], _, _, _, _⟩ true ?rp3a1_readN ?rp3a2_readN ?rp3a3_readN ?rp3a4_readN ?rp3a5_readN ?rp3a6_readN ?rp3a7_readN; (case rp3a1_readN => exact ((hq9 ..).1 (Mine.Internal.hist_step okhist oksize))); (case rp3a2_readN => exact rfl); (case rp3a3_readN => exact (hq9 0 0 0 0 0 0 0 0 0).2.1); (case rp3a4_readN => exact (fun _ => (hq9 0 0 0 0 0 0 0 0 0).2.2)); (case rp3a5_readN => exact (fun h => nomatch h))); (case rp3a6_readN => exact rfl); (case rp3a7_readN => exact rfl))
  have ctr_readC {w : World} {loose : List Str} {mean : ExcName → Option Value} {mg mb : Str → Option Value} {st sd : Addr} {k0 k1 k2 k3 k4 k5 k6 k7 k8 k9 : Tok} {rce nl ds er dd : Addr} {j0 j1 : Tok} {src : Str} {tsr : Tok} {x : St} {tb : Tok} (ho : @LT.lt Nat _ sd st ∧ @LT.lt Nat _ st rce ∧ @LT.lt Nat _ rce dd ∧ @LT.lt Nat _ dd ds ∧ @LT.lt Nat _ ds er) (ok : x.ok src) (hb : x.buf = .str ⟨#[13]⟩ tb) :
      CtrC PySem.Challenge.rw_te0076_01.row.prog w (main.heap_1_39 w.params) (Top main.view_1_40 loose mean mg mb) 470 700 (.ref 141) ⟨[.ref st], []⟩ [(st, instObj 166 sd), (sd, dictOf (sdict w.params k0 k1 k2 k3 k4 k5 k6 k7 k8 k9 rce nl ds x.chunk x.tc x.size x.ts x.off x.to er x.pl x.tl x.pc x.tp x.buf) 10), (ds, instObj 73 dd), (dd, dictOf (tdict w.params j0 j1 src tsr x.place x.tpl) 2), (rce, methodObj (.ref 148) (.ref st)), (er, W.listOf x.es.toArray x.n)] (noF (RPost w st sd k0 k1 k2 k3 k4 k5 k6 k7 k8 k9 rce nl ds er dd j0 j1 src tsr x)) := by
    as_aux_lemma =>
      clear ctr_is_invalid ctr_read ctr_unget ctr_ungetN ctr_ungetS ctr_readN
      obtain ⟨chunk, tc, size, ts, off, to, pl, tl, pc, tp, buf, pend, place, tpl, es, n⟩ := x
      obtain ⟨oksize, okoff0, okoff1, oklen, h0, h1, hs, okbuf, hes, hsu, okpend, okhist⟩ := ok
      dsimp only at *
      have hpend : pend = [13] := by rcases okbuf with h | ⟨t, h, h'⟩; (rw [hb] at h; cases h.1); exact h'
      subst hb; subst hpend
      have hpl := okpend (by simp)
      k_with_none
      k_with "pos" => (repeat' (first | exact Mine.Internal.PosL.nil | (apply Mine.Internal.PosL.cons 0; exact rfl) | (apply Mine.Internal.PosL.cons 1; exact rfl) | (apply Mine.Internal.PosL.cons 2; exact rfl) | (apply Mine.Internal.PosL.cons 3; exact rfl) | (apply Mine.Internal.PosL.cons 4; exact rfl) | (apply Mine.Internal.PosL.cons 5; exact rfl) | (apply Mine.Internal.PosL.cons 6; exact rfl) | (apply Mine.Internal.PosL.cons 7; exact rfl) | (apply Mine.Internal.PosL.cons 8; exact rfl) | (apply Mine.Internal.PosL.cons 9; exact rfl) | (apply Mine.Internal.PosL.cons 10; exact rfl) | (apply Mine.Internal.PosL.cons 11; exact rfl) | (apply Mine.Internal.PosL.cons 12; exact rfl) | (apply Mine.Internal.PosL.cons 13; exact rfl) | (apply Mine.Internal.PosL.cons 14; exact rfl) | (apply Mine.Internal.PosL.cons 15; exact rfl) | (apply Mine.Internal.PosL.cons 16; exact rfl) | (apply Mine.Internal.PosL.cons 17; exact rfl) | (apply Mine.Internal.PosL.cons 18; exact rfl) | (apply Mine.Internal.PosL.cons 19; exact rfl) | (apply Mine.Internal.PosL.cons 20; exact rfl) | (apply Mine.Internal.PosL.cons 21; exact rfl) | (apply Mine.Internal.PosL.cons 22; exact rfl) | (apply Mine.Internal.PosL.cons 23; exact rfl)))
      k_with "slt" => exact Mine.Internal.Srt.lt (by with_reducible assumption) (by ((repeat (first | (with_reducible_and_instances refine Mine.Internal.Aft.here ?_; (repeat (first | with_reducible_and_instances exact List.Mem.head _ | with_reducible_and_instances refine List.Mem.tail _ ?_)); done) | with_reducible refine Mine.Internal.Aft.there ?_)); all_goals fail))
      k_with "upd" => (exact Mine.Internal.Srt.updP (by with_reducible assumption) (by repeat' (first | exact Mine.Internal.UpdI.head | refine' Mine.Internal.UpdI.tail ?_)) (by k_dflt (k_extra "pos")) (by exact rfl))
      k_with "all" => exact Mine.Internal.Ks.ne_all (by with_reducible assumption) (by first | exact .inr (by k_extra "slt") | exact .inl (by k_extra "slt"))
      k_with "ne" => (refine neN ?_; first | exact Mine.Internal.Srt.ne (by with_reducible assumption) (by with_reducible solve_by_elim (maxDepth := 40) only [Mine.Internal.Apart.l, Mine.Internal.Apart.r, Mine.Internal.Apart.t, List.Mem.head, List.Mem.tail]) | ((try dsimp only); omega))
      k_with "lt" => (intro h9l; first | ((with_reducible rename Mine.Internal.Srt _ => S8); (first | (have S9 := Mine.Internal.Srt.grow S8 (h9l (_, _) (by k_dflt k_mem)); clear S8) | (have S9 := Mine.Internal.Srt.grow S8.tl (h9l (_, _) (by k_dflt k_mem)); clear S8) | (have S9 := Mine.Internal.Srt.grow S8.tl.tl (h9l (_, _) (by k_dflt k_mem)); clear S8)); clear h9l) | (replace h9l := allLt_of h9l; simp only [AllLt, and_true] at h9l))
      k_with "getMethod ref" => (k_here; k_dflt (first | (refine' method_inst ?k1_readC ?k2_readC ?k3_readC ?k4_readC ?k5_readC ?k6_readC ?k7_readC ?_; (case k1_readC => k_asm); (case k2_readC => k_asm); (case k3_readC => k_inst); (case k4_readC => k_is); (case k5_readC => k_is); (case k6_readC => k_is); (case k7_readC => k_get); k_whole) | (refine' kmu_own ?k1_readC ?k2_readC ?k3_readC ?k4_readC ?k5_readC ?_; (case k1_readC => k_asm); (case k2_readC => k_asm); (case k3_readC => k_inst); (case k4_readC => k_is); (case k5_readC => k_is); k_whole)))
      k_with "getMethod ref" => (k_here; (with_reducible show wpAny _ _ (getMethod (Value.ref _) (PySem.Str.ofString "append") _) _ _ _); k_dflt (refine' kl_method ?N_readC ?m_readC slot_list_append type_list_append ?_; (case N_readC => k_asm); (case m_readC => k_mem); k_whole))
      k_with "call builtin:str.replace" => (k_here; (with_reducible show wpAny _ _ (call (Value.builtin "str.replace") [Value.str _ _, Value.str _ _, Value.str _ _]) _ _ _); (refine Mine.Internal.replaceM (by (try dsimp only); omega) (by (try dsimp only); omega) (by (try dsimp only); omega) (by decide +kernel) (by (refine Nat.le_trans (m := 10000) ?_ (by decide); repeat' (first | with_reducible assumption | with_reducible refine Mine.Internal.slice_len_le ?_ | (with_reducible refine Nat.le_trans (Mine.Internal.replace_len (by decide +kernel) (by decide +kernel)) ?_) | exact (by decide +kernel)))) (by decide +kernel) ?_); intro t9 kq9 hk9; (try dsimp only at hk9))
      k_with "execs cons" => (k_here; (with_reducible show wpAny _ _ _ _ _ (Shared.mk _ _ _ (_ + _) _)); (refine Mine.Internal.gentoks ?_); intro tkg9 htk9; (try dsimp only at htk9))
      k_with "call builtin:len" => (k_here; (with_reducible show wpAny _ _ (call (Value.builtin "len") [Value.str _ _]) _ _ _); (refine SBL.len (by first | omega | exact Mine.Internal.fit63 (by (refine Nat.le_trans (m := 10000) ?_ (by decide); repeat' (first | with_reducible assumption | with_reducible refine Mine.Internal.slice_len_le ?_ | (with_reducible refine Nat.le_trans (Mine.Internal.replace_len (by decide +kernel) (by decide +kernel)) ?_) | exact (by decide +kernel))))) ?_))
      k_with "truthy ref" => (k_here; k_dflt (refine' Mine.Internal.truthy_meth ?k1_readC ?k2_readC ?_; (case k1_readC => k_asm); (case k2_readC => k_mem); k_whole))
      k_with "size" => k_dflt (first | exact Nat.le_of_ble_eq_true rfl | ((with_reducible show Array.size (List.toArray _) ≤ PySem.sizeLine); rw [List.size_toArray, PySem.sizeLine_eq]; refine Nat.le_trans (m := 100002) ?_ (Nat.le_of_ble_eq_true rfl); first | with_reducible assumption | exact Nat.le_trans (m := 100000) (by with_reducible assumption) (Nat.le_of_ble_eq_true rfl)))
      k_with "subscriptTail Name Constant ref int" => k_extra "subscriptTail"
      k_with "tok" => (first | exact Nat.le_add_left 1 _ | with_reducible assumption | exact Nat.le_trans (Nat.le_add_left 1 _) (by with_reducible assumption))
      k_with "next" => (first | ((with_reducible refine Mine.Internal.nextS (g := gens9) (d := dr9) (o := os9) ?_); intro qk9 tkg9) | ((with_reducible refine Mine.Internal.lastS (g := gens9) (d := dr9) (o := os9) ?_); intro tkg9) | (with_reducible refine Mine.Internal.nilS ?_) | (with_reducible refine Mine.Internal.fin9 ?_) | (with_reducible refine Mine.Internal.fin0 ?_) | (with_reducible refine Mine.Internal.finS9 ?_) | (with_reducible refine Mine.Internal.finS0 ?_) | ((with_reducible refine Mine.Internal.nextU (g := gens9) (d := dr9) (o := os9) ?_ ?_); (k_extra "tok"); intro qk9 tkg9) | ((with_reducible refine Mine.Internal.lastU (g := gens9) (d := dr9) (o := os9) ?_ ?_); (k_extra "tok"); intro tkg9) | ((with_reducible refine Mine.Internal.nextZ (g := gens9) (d := dr9) (o := os9) ?_); intro qk9 tkg9) | ((with_reducible refine Mine.Internal.lastZ (g := gens9) (d := dr9) (o := os9) ?_); intro tkg9))
      k_with "execs cons" => k_extra "next"
      k_with "execs nil" => (with_reducible refine Mine.Internal.nilS ?_)
      k_with "eval Constant int" => (with_reducible refine Mine.Internal.c_int (g := gens9) (d := dr9) (o := os9) ?_)
      k_with "eval Constant str" => (with_reducible refine Mine.Internal.c_str (g := gens9) (d := dr9) (o := os9) ?_)
      k_with "call builtin:str.replace" => (k_here; (with_reducible show wpAny _ _ (call (Value.builtin "str.replace") [Value.str _ _, Value.str _ _, Value.str _ _]) _ _ _); (refine Mine.Internal.c_replace (gs := gens9) (d := dr9) (o := os9) (by first | exact Nat.ne_of_lt (Nat.lt_succ_self _) | omega) (by decide +kernel) (by (refine Nat.le_trans (m := 10000) ?_ (by decide); repeat' (first | with_reducible assumption | with_reducible refine Mine.Internal.slice_len_le ?_ | (with_reducible refine Nat.le_trans (Mine.Internal.replace_len (by decide +kernel) (by decide +kernel)) ?_) | exact (by decide +kernel)))) (by decide +kernel) ?_); intro t9 kq9)
      k_with "eval Attribute Name" => (k_here; k_dflt (refine' Mine.Internal.at_name (gs := gens9) (d := dr9) (o := os9) ?nF_readC ?nX_readC ?nN_readC ?nv_readC ?n1_readC ?n2_readC ?ng_readC ?nh_readC ?na_readC ?nn_readC ?nl_readC ?nd_readC ?_; (case nF_readC => k_asm); (case nX_readC => k_asm); (case nN_readC => k_asm); (case nv_readC => exact rfl); (case n1_readC => k_mem); (case n2_readC => k_mem); (case ng_readC => k_is); (case nh_readC => k_is); (case na_readC => k_is); (case nn_readC => k_is); (case nl_readC => k_get); (case nd_readC => k_handed); k_whole))
      k_with "setAttr ref" => (first | (k_here; ktx_write) | (k_here; k_dflt (refine' Mine.Internal.st_attr (gs := gens9) (d := dr9) (o := os9) ?sF_readC ?sX_readC ?sN_readC ?s1_readC ?s2_readC ?ss_readC ?sp_readC ?st_readC ?sh_readC ?sl_readC ?se_readC ?sU_readC ?sz_readC ?_; (case sF_readC => k_asm); (case sX_readC => k_asm); (case sN_readC => k_asm); (case s1_readC => k_mem); (case s2_readC => k_mem); (case ss_readC => k_is); (case sp_readC => k_is); (case st_readC => k_is); (case sh_readC => k_is); (case sl_readC => k_get); (case se_readC => k_put); (case sU_readC => k_upd); (case sz_readC => exact Nat.le_of_ble_eq_true rfl); k_whole; intro h' F' N'; (try k_sweep))))
      k_with "storeName" => (first | (k_here; ktx_write) | (k_here; k_dflt (refine' Mine.Internal.st_name (gs := gens9) (d := dr9) (o := os9) ?tF_readC ?tN_readC ?_; (case tF_readC => k_asm); (case tN_readC => k_asm); k_whole; intro m9 h' F' N'; (try k_sweep))))
      k_with "call ref" => (k_here; (with_reducible show wpAny _ _ (call (Value.ref 119) [Value.ref _, Value.int _ _] _) _ _ _); k_dflt (refine' Mine.Internal.Ctr.useF (gs := gens9) (d := dr9) (o := os9) (Mine.Internal.CtrC.call (ctr_position0 ?p1_readC)) ?cB_readC ?cF_readC ?cX_readC ?cN_readC ?cT_readC ?ca_readC ?cb_readC ?cc_readC ?ce_readC ?cd_readC ?cu_readC ?ck_readC ?cne_readC ?_; (case cB_readC => k_asm); (case cF_readC => k_asm); (case cX_readC => k_asm); (case cT_readC => k_asm); (case cN_readC => k_asm); (case ca_readC => exact rfl); (case cb_readC => exact rfl); (case cc_readC => exact rfl); (case ce_readC => exact rfl); (case cd_readC => exact Nat.le_of_ble_eq_true rfl); (case cu_readC => exact Nat.le_of_ble_eq_true rfl); (case ck_readC => ((try (refine' Mine.Internal.Take.cons ?_ ?_)); repeat' (first | exact Mine.Internal.Take.nil | exact Mine.Internal.Del.head | refine' Mine.Internal.Take.cons ?_ ?_ | refine' Mine.Internal.Del.tail ?_))); (case cne_readC => first | exact List.forall_mem_nil _ | exact (fun _ _ => List.forall_mem_nil _) | exact Mine.Internal.Srt.neL (by with_reducible assumption) (by k_extra "pos") (by k_extra "pos") (by exact rfl) | ((simp only [List.forall_mem_cons, List.not_mem_nil, false_implies, implies_true, and_true, true_and]); (repeat' (refine And.intro ?_ ?_)); all_goals k_ne)); (case p1_readC => omega); (k_whole; intro v' fr' l' hp' hfr'; obtain ⟨q', ta', tb', e1', e2', e3'⟩ := hp'; subst e1'; subst e2'; subst e3'; (first | ((with_reducible rename Mine.Internal.Srt _ => S8); (have S9 := Mine.Internal.fresh_grow S8 hfr' (by k_dflt k_mem)); clear S8; clear hfr') | simp only [List.cons_append, List.nil_append, List.forall_mem_cons, List.not_mem_nil, false_implies, implies_true, and_true, true_and] at hfr'); intro h' n' hn' F' N'; (try dsimp only [List.cons_append, List.nil_append] at N'); (try k_sweep); (try dsimp only); (try k_fold))))
      k_with "call ref" => (k_here; (with_reducible show wpAny _ _ (call (Value.ref 70) [Value.ref _, Value.int _ _] _) _ _ _); k_dflt (refine' Mine.Internal.Ctr.useN (gs := gens9) (d := dr9) (o := os9) (Mine.Internal.CtrC.call (ctr_readE ?p1_readC ?p2_readC ?p3_readC ?p4_readC)) ?cB_readC ?cF_readC ?cX_readC ?cN_readC ?cT_readC ?ca_readC ?cb_readC ?cc_readC ?ce_readC ?cd_readC ?cu_readC ?ck_readC ?cne_readC ?_; (case cB_readC => k_asm); (case cF_readC => k_asm); (case cX_readC => k_asm); (case cT_readC => k_asm); (case cN_readC => k_asm); (case ca_readC => exact rfl); (case cb_readC => exact rfl); (case cc_readC => exact rfl); (case ce_readC => exact rfl); (case cd_readC => exact Nat.le_of_ble_eq_true rfl); (case cu_readC => exact Nat.le_of_ble_eq_true rfl); (case ck_readC => ((try (refine' Mine.Internal.Take.cons ?_ ?_)); repeat' (first | exact Mine.Internal.Take.nil | exact Mine.Internal.Del.head | refine' Mine.Internal.Take.cons ?_ ?_ | refine' Mine.Internal.Del.tail ?_))); (case cne_readC => first | exact List.forall_mem_nil _ | exact (fun _ _ => List.forall_mem_nil _) | exact Mine.Internal.Srt.neL (by with_reducible assumption) (by k_extra "pos") (by k_extra "pos") (by exact rfl) | ((simp only [List.forall_mem_cons, List.not_mem_nil, false_implies, implies_true, and_true, true_and]); (repeat' (refine And.intro ?_ ?_)); all_goals k_ne)); (case p1_readC => omega); (case p2_readC => omega); (case p3_readC => omega); (case p4_readC => rfl); (k_whole; intro v' l' hp'; obtain ⟨tv', p', tp', hq', e1', e2'⟩ := hp'; subst e1'; subst e2'; intro h' n' hn' F' N'; (try dsimp only [List.cons_append, List.nil_append] at N'); (try k_sweep); (try dsimp only); (try k_fold))))
      k_with "call ref" => (k_here; (with_reducible show wpAny _ _ (call (Value.ref _) [Value.str _ _] _) _ _ _); k_dflt (refine' Mine.Internal.Ctr.useN (gs := gens9) (d := dr9) (o := os9) (Mine.Internal.CtrC.boundN (ctr_charErrors ?p1_readC ?p2_readC ?p3_readC ?p4_readC) ?p5_readC) ?cB_readC ?cF_readC ?cX_readC ?cN_readC ?cT_readC ?ca_readC ?cb_readC ?cc_readC ?ce_readC ?cd_readC ?cu_readC ?ck_readC ?cne_readC ?_; (case cB_readC => k_asm); (case cF_readC => k_asm); (case cX_readC => k_asm); (case cT_readC => k_asm); (case cN_readC => k_asm); (case ca_readC => exact rfl); (case cb_readC => exact rfl); (case cc_readC => exact rfl); (case ce_readC => exact rfl); (case cd_readC => exact Nat.le_of_ble_eq_true rfl); (case cu_readC => exact Nat.le_of_ble_eq_true rfl); (case ck_readC => ((try (refine' Mine.Internal.Take.cons ?_ ?_)); repeat' (first | exact Mine.Internal.Take.nil | exact Mine.Internal.Del.head | refine' Mine.Internal.Take.cons ?_ ?_ | refine' Mine.Internal.Del.tail ?_))); (case cne_readC => first | exact List.forall_mem_nil _ | exact (fun _ _ => List.forall_mem_nil _) | exact Mine.Internal.Srt.neL (by with_reducible assumption) (by k_extra "pos") (by k_extra "pos") (by exact rfl) | ((simp only [List.forall_mem_cons, List.not_mem_nil, false_implies, implies_true, and_true, true_and]); (repeat' (refine And.intro ?_ ?_)); all_goals k_ne)); (case p1_readC => omega); (case p2_readC => omega); (case p3_readC => (refine Nat.le_trans (m := 10000) ?_ (by decide); repeat' (first | with_reducible assumption | with_reducible refine Mine.Internal.slice_len_le ?_ | (with_reducible refine Nat.le_trans (Mine.Internal.replace_len (by decide +kernel) (by decide +kernel)) ?_) | exact (by decide +kernel)))); (case p4_readC => omega); (case p5_readC => first | exact Mine.Internal.Srt.neB (by with_reducible assumption) (by k_extra "pos") (by k_extra "pos") (by exact rfl) | ((simp only [List.forall_mem_cons, List.not_mem_nil, false_implies, implies_true, and_true, true_and]; (repeat' (refine And.intro ?_ ?_)); all_goals k_ne))); (k_whole; intro v' l' hp'; obtain ⟨hp'⟩ := hp'; obtain ⟨e1', es', n', hl', e2'⟩ := hp'; subst e1'; subst e2'; intro h' n' hn' F' N'; (try dsimp only [List.cons_append, List.nil_append] at N'); (try k_sweep); (try dsimp only); (try k_fold))))
      k_fill
      refine' ctr_introN (binds := [("self", .ref st), ("chunkSize", .none)]) (fun h h' T k => T.keeps k) (fun h T => T.nolimit) ?ho_readC ?hcd_readC ?hD_readC ?hb_readC ?hl_readC ?_ ?hc_readC ?c1_readC ?c2_readC ?c3_readC
      case ho_readC => k_is
      case hcd_readC => k_is
      case hD_readC => decide
      case hb_readC => (intro s X; (try (rcases hargs with ⟨rfl, rfl, rfl⟩ | ⟨rfl, rfl⟩)); all_goals (first | exact BindsTo.of_eq rfl | exact binds_K X rfl (by k_is) rfl rfl rfl))
      case hl_readC => exact locs rfl
      case hc_readC => decide
      case c1_readC => exact rfl
      case c2_readC => exact rfl
      case c3_readC => exact rfl
      intro A base g env outer L' h₁ hs9 gens9 dr9 t09 os9 tk B' F' X' N' T' l1
      intro e9 A9 q9
      (try clear l1)
      (try dsimp only at N')
      first | have S0 := Mine.Internal.Srt.eight ho hk hat | have S0 := Mine.Internal.Srt.grow (Mine.Internal.Srt.six ho) hoq | have S0 := Mine.Internal.Srt.five ho hk | have S0 := Mine.Internal.Srt.six ho | have S0 := Mine.Internal.Srt.two ho | have S0 := Mine.Internal.Srt.two hk | skip

      k_steps
      all_goals (try dsimp only)
      all_goals (refine' cend (l := [(st, _), (sd, _), (ds, _), (dd, _), (rce, _), (er, _)]) (by assumption) (by assumption) (Mine.Internal.Take.sub (by ((try dsimp only); repeat' (first | exact Mine.Internal.Take.nil | exact Mine.Internal.Del.head | refine' Mine.Internal.Take.blk ?_ | exact Mine.Internal.Tl.nil | exact Mine.Internal.Tl.app | refine' Mine.Internal.Take.cons ?_ ?_ | refine' Mine.Internal.Del.tail ?_ | refine' Mine.Internal.Tl.cons ?_)))) ?_)
      have hq9 := Mine.Internal.rd_cr h0 hs hsu hes hpl (by with_reducible assumption) (by first | with_reducible assumption | exact hl')
      (refine' Mine.Internal.RPost.mk ⟨_, _, _, _, _, _, _, _, _, _, _, [], _, _, _, _⟩ true ?rp1a1_readC ?rp1a2_readC ?rp1a3_readC ?rp1a4_readC ?rp1a5_readC ?rp1a6_readC ?rp1a7_readC; (case rp1a1_readC => exact ((hq9 ..).1 (Mine.Internal.hist_step okhist oksize))); (case rp1a2_readC => exact rfl); (case rp1a3_readC => exact (hq9 0 0 0 0 0 0 0 0 0).2.1); (case rp1a4_readC => exact (fun _ => (hq9 0 0 0 0 0 0 0 0 0).2.2)); (case rp1a5_readC => exact (fun h => nomatch h)); (case rp1a6_readC => exact rfl); (case rp1a7_readC => exact rfl))
  have ctr_readA {w : World} {loose : List Str} {mean : ExcName → Option Value} {mg mb : Str → Option Value} {st sd : Addr} {k0 k1 k2 k3 k4 k5 k6 k7 k8 k9 : Tok} {rce nl ds er dd : Addr} {j0 j1 : Tok} {src : Str} {tsr : Tok} {x : St} (ho : @LT.lt Nat _ sd st ∧ @LT.lt Nat _ st rce ∧ @LT.lt Nat _ rce dd ∧ @LT.lt Nat _ dd ds ∧ @LT.lt Nat _ ds er) (ok : x.ok src) :
      CtrC PySem.Challenge.rw_te0076_01.row.prog w (main.heap_1_39 w.params) (Top main.view_1_40 loose mean mg mb) 470 700 (.ref 141) ⟨[.ref st], []⟩ [(st, instObj 166 sd), (sd, dictOf (sdict w.params k0 k1 k2 k3 k4 k5 k6 k7 k8 k9 rce nl ds x.chunk x.tc x.size x.ts x.off x.to er x.pl x.tl x.pc x.tp x.buf) 10), (ds, instObj 73 dd), (dd, dictOf (tdict w.params j0 j1 src tsr x.place x.tpl) 2), (rce, methodObj (.ref 148) (.ref st)), (er, W.listOf x.es.toArray x.n)] (noF (RPost w st sd k0 k1 k2 k3 k4 k5 k6 k7 k8 k9 rce nl ds er dd j0 j1 src tsr x)) := by
    as_aux_lemma =>
      clear ctr_is_invalid ctr_charErrors ctr_read ctr_readE ctr_position0 ctr_unget ctr_ungetN ctr_ungetS
      rcases ok.bufis with ⟨h, _⟩ | ⟨t, h, _⟩
      · exact ctr_readN ho ok h
      · exact ctr_readC ho ok h
  have ctr_char {w : World} {loose : List Str} {mean : ExcName → Option Value} {mg mb : Str → Option Value} {st sd : Addr} {k0 k1 k2 k3 k4 k5 k6 k7 k8 k9 : Tok} {rce nl ds er dd : Addr} {j0 j1 : Tok} {src : Str} {tsr : Tok} {x : St} (ho : @LT.lt Nat _ sd st ∧ @LT.lt Nat _ st rce ∧ @LT.lt Nat _ rce dd ∧ @LT.lt Nat _ dd ds ∧ @LT.lt Nat _ ds er) (ok : x.ok src) :
      CtrC PySem.Challenge.rw_te0076_01.row.prog w (main.heap_1_39 w.params) (Top main.view_1_40 loose mean mg mb) 460 600 (.ref 133) ⟨[.ref st], []⟩ [(st, instObj 166 sd), (sd, dictOf (sdict w.params k0 k1 k2 k3 k4 k5 k6 k7 k8 k9 rce nl ds x.chunk x.tc x.size x.ts x.off x.to er x.pl x.tl x.pc x.tp x.buf) 10), (ds, instObj 73 dd), (dd, dictOf (tdict w.params j0 j1 src tsr x.place x.tpl) 2), (rce, methodObj (.ref 148) (.ref st)), (er, W.listOf x.es.toArray x.n)] (noF fun v l => ∃ (x' : St), x'.ok src ∧ CvIs src x' v (x.rem src) ∧ l = [(st, instObj 166 sd), (sd, dictOf (sdict w.params k0 k1 k2 k3 k4 k5 k6 k7 k8 k9 rce nl ds x'.chunk x'.tc x'.size x'.ts x'.off x'.to er x'.pl x'.tl x'.pc x'.tp x'.buf) 10), (ds, instObj 73 dd), (dd, dictOf (tdict w.params j0 j1 src tsr x'.place x'.tpl) 2), (rce, methodObj (.ref 148) (.ref st)), (er, W.listOf x'.es.toArray x'.n)]) := by
    as_aux_lemma =>
      clear ctr_is_invalid ctr_charErrors ctr_read ctr_readE ctr_position0 ctr_unget ctr_ungetN ctr_ungetS ctr_readN ctr_readC
      k_with_none
      k_with "pos" => (repeat' (first | exact Mine.Internal.PosL.nil | (apply Mine.Internal.PosL.cons 0; exact rfl) | (apply Mine.Internal.PosL.cons 1; exact rfl) | (apply Mine.Internal.PosL.cons 2; exact rfl) | (apply Mine.Internal.PosL.cons 3; exact rfl) | (apply Mine.Internal.PosL.cons 4; exact rfl) | (apply Mine.Internal.PosL.cons 5; exact rfl) | (apply Mine.Internal.PosL.cons 6; exact rfl) | (apply Mine.Internal.PosL.cons 7; exact rfl) | (apply Mine.Internal.PosL.cons 8; exact rfl) | (apply Mine.Internal.PosL.cons 9; exact rfl) | (apply Mine.Internal.PosL.cons 10; exact rfl) | (apply Mine.Internal.PosL.cons 11; exact rfl) | (apply Mine.Internal.PosL.cons 12; exact rfl) | (apply Mine.Internal.PosL.cons 13; exact rfl) | (apply Mine.Internal.PosL.cons 14; exact rfl) | (apply Mine.Internal.PosL.cons 15; exact rfl) | (apply Mine.Internal.PosL.cons 16; exact rfl) | (apply Mine.Internal.PosL.cons 17; exact rfl) | (apply Mine.Internal.PosL.cons 18; exact rfl) | (apply Mine.Internal.PosL.cons 19; exact rfl) | (apply Mine.Internal.PosL.cons 20; exact rfl) | (apply Mine.Internal.PosL.cons 21; exact rfl) | (apply Mine.Internal.PosL.cons 22; exact rfl) | (apply Mine.Internal.PosL.cons 23; exact rfl)))
      k_with "slt" => exact Mine.Internal.Srt.lt (by with_reducible assumption) (by ((repeat (first | (with_reducible_and_instances refine Mine.Internal.Aft.here ?_; (repeat (first | with_reducible_and_instances exact List.Mem.head _ | with_reducible_and_instances refine List.Mem.tail _ ?_)); done) | with_reducible refine Mine.Internal.Aft.there ?_)); all_goals fail))
      k_with "upd" => (exact Mine.Internal.Srt.updP (by with_reducible assumption) (by repeat' (first | exact Mine.Internal.UpdI.head | refine' Mine.Internal.UpdI.tail ?_)) (by k_dflt (k_extra "pos")) (by exact rfl))
      k_with "all" => exact Mine.Internal.Ks.ne_all (by with_reducible assumption) (by first | exact .inr (by k_extra "slt") | exact .inl (by k_extra "slt"))
      k_with "ne" => (refine neN ?_; first | exact Mine.Internal.Srt.ne (by with_reducible assumption) (by with_reducible solve_by_elim (maxDepth := 40) only [Mine.Internal.Apart.l, Mine.Internal.Apart.r, Mine.Internal.Apart.t, List.Mem.head, List.Mem.tail]) | ((try dsimp only); omega))
      k_with "lt" => (intro h9l; first | ((with_reducible rename Mine.Internal.Srt _ => S8); (first | (have S9 := Mine.Internal.Srt.grow S8 (h9l (_, _) (by k_dflt k_mem)); clear S8) | (have S9 := Mine.Internal.Srt.grow S8.tl (h9l (_, _) (by k_dflt k_mem)); clear S8) | (have S9 := Mine.Internal.Srt.grow S8.tl.tl (h9l (_, _) (by k_dflt k_mem)); clear S8)); clear h9l) | (replace h9l := allLt_of h9l; simp only [AllLt, and_true] at h9l))
      k_with "subscriptTail" => (k_here; (with_reducible show wpAny _ _ (subscriptTail _ _ (Value.str _ _) (Value.int _ _)) _ _ _); (refine Mine.Internal.sub_chr (by omega) (by omega) (by assumption) ?_))
      k_with "getMethod ref" => (k_here; k_dflt (first | (refine' method_inst ?k1_char ?k2_char ?k3_char ?k4_char ?k5_char ?k6_char ?k7_char ?_; (case k1_char => k_asm); (case k2_char => k_asm); (case k3_char => k_inst); (case k4_char => k_is); (case k5_char => k_is); (case k6_char => k_is); (case k7_char => k_get); k_whole) | (refine' kmu_own ?k1_char ?k2_char ?k3_char ?k4_char ?k5_char ?_; (case k1_char => k_asm); (case k2_char => k_asm); (case k3_char => k_inst); (case k4_char => k_is); (case k5_char => k_is); k_whole)))
      k_with "getMethod ref" => (k_here; (with_reducible show wpAny _ _ (getMethod (Value.ref _) (PySem.Str.ofString "append") _) _ _ _); k_dflt (refine' kl_method ?N_char ?m_char slot_list_append type_list_append ?_; (case N_char => k_asm); (case m_char => k_mem); k_whole))
      k_with "execs cons" => (k_here; (with_reducible show wpAny _ _ _ _ _ (Shared.mk _ _ _ (_ + _) _)); (refine Mine.Internal.gentoks ?_); intro tkg9 htk9; (try dsimp only at htk9))
      k_with "size" => k_dflt (first | exact Nat.le_of_ble_eq_true rfl | ((with_reducible show Array.size (List.toArray _) ≤ PySem.sizeLine); rw [List.size_toArray, PySem.sizeLine_eq]; refine Nat.le_trans (m := 100002) ?_ (Nat.le_of_ble_eq_true rfl); first | with_reducible assumption | exact Nat.le_trans (m := 100000) (by with_reducible assumption) (Nat.le_of_ble_eq_true rfl)))
      k_with "subscriptTail Name Constant ref int" => k_extra "subscriptTail"
      k_with "tok" => (first | exact Nat.le_add_left 1 _ | with_reducible assumption | exact Nat.le_trans (Nat.le_add_left 1 _) (by with_reducible assumption))
      k_with "next" => (first | ((with_reducible refine Mine.Internal.nextS (g := gens9) (d := dr9) (o := os9) ?_); intro qk9 tkg9) | ((with_reducible refine Mine.Internal.lastS (g := gens9) (d := dr9) (o := os9) ?_); intro tkg9) | (with_reducible refine Mine.Internal.nilS ?_) | (with_reducible refine Mine.Internal.fin9 ?_) | (with_reducible refine Mine.Internal.fin0 ?_) | (with_reducible refine Mine.Internal.finS9 ?_) | (with_reducible refine Mine.Internal.finS0 ?_) | ((with_reducible refine Mine.Internal.nextU (g := gens9) (d := dr9) (o := os9) ?_ ?_); (k_extra "tok"); intro qk9 tkg9) | ((with_reducible refine Mine.Internal.lastU (g := gens9) (d := dr9) (o := os9) ?_ ?_); (k_extra "tok"); intro tkg9) | ((with_reducible refine Mine.Internal.nextZ (g := gens9) (d := dr9) (o := os9) ?_); intro qk9 tkg9) | ((with_reducible refine Mine.Internal.lastZ (g := gens9) (d := dr9) (o := os9) ?_); intro tkg9))
      k_with "subscriptTail" => (first | ((fail_if_success (with_reducible show wpAny _ _ (subscriptTail _ (Expr.Slice _ _ _ _) _ _) _ _ _)); dsimp only) | ((with_reducible show wpAny _ _ (subscriptTail _ _ (Value.ref _) (Value.str (PySem.Str.ofString "data") _)) _ _ _); k_here; k_dflt (refine kdt_tail (knd := PySem.strKind _ _) (by k_asm) (by k_mem) (by k_asm) ?_)) | ((with_reducible show wpAny _ _ (subscriptTail (Expr.Subscript _ _ _) (Expr.UnaryOp _ _ _) (Value.ref _) (Value.int _ _)) _ _ _); k_here; k_dflt (refine' Mine.Internal.item_lastT ?iN_char ?im_char ?ik_char ?_; (case iN_char => k_asm); (case im_char => k_mem); (case ik_char => rfl); k_whole)))
      k_with "execs cons" => k_extra "next"
      k_with "execs nil" => (with_reducible refine Mine.Internal.nilS ?_)
      k_with "eval Constant int" => (with_reducible refine Mine.Internal.c_int (g := gens9) (d := dr9) (o := os9) ?_)
      k_with "eval Attribute Name" => (k_here; k_dflt (refine' Mine.Internal.at_name (gs := gens9) (d := dr9) (o := os9) ?nF_char ?nX_char ?nN_char ?nv_char ?n1_char ?n2_char ?ng_char ?nh_char ?na_char ?nn_char ?nl_char ?nd_char ?_; (case nF_char => k_asm); (case nX_char => k_asm); (case nN_char => k_asm); (case nv_char => exact rfl); (case n1_char => k_mem); (case n2_char => k_mem); (case ng_char => k_is); (case nh_char => k_is); (case na_char => k_is); (case nn_char => k_is); (case nl_char => k_get); (case nd_char => k_handed); k_whole))
      k_with "setAttr ref" => (first | (k_here; ktx_write) | (k_here; k_dflt (refine' Mine.Internal.st_attr (gs := gens9) (d := dr9) (o := os9) ?sF_char ?sX_char ?sN_char ?s1_char ?s2_char ?ss_char ?sp_char ?st_char ?sh_char ?sl_char ?se_char ?sU_char ?sz_char ?_; (case sF_char => k_asm); (case sX_char => k_asm); (case sN_char => k_asm); (case s1_char => k_mem); (case s2_char => k_mem); (case ss_char => k_is); (case sp_char => k_is); (case st_char => k_is); (case sh_char => k_is); (case sl_char => k_get); (case se_char => k_put); (case sU_char => k_upd); (case sz_char => exact Nat.le_of_ble_eq_true rfl); k_whole; intro h' F' N'; (try k_sweep))))
      k_with "storeName" => (first | (k_here; ktx_write) | (k_here; k_dflt (refine' Mine.Internal.st_name (gs := gens9) (d := dr9) (o := os9) ?tF_char ?tN_char ?_; (case tF_char => k_asm); (case tN_char => k_asm); k_whole; intro m9 h' F' N'; (try k_sweep))))
      k_with "subscriptTail" => (k_here; (with_reducible show wpAny _ _ (subscriptTail _ _ (Value.str (St.chunk _) _) (Value.int (St.off _) _)) _ _ _); (refine Mine.Internal.sub_st (by with_reducible assumption) (by omega) ?_); intro c9 hc9; (try k_fold))
      k_with "call ref" => (k_here; (with_reducible show wpAny _ _ (call (Value.ref 141) _ _) _ _ _); k_dflt (refine' Mine.Internal.Ctr.useN (gs := gens9) (d := dr9) (o := os9) (Mine.Internal.CtrC.call (ctr_readA ?p1_char ?p2_char)) ?cB_char ?cF_char ?cX_char ?cN_char ?cT_char ?ca_char ?cb_char ?cc_char ?ce_char ?cd_char ?cu_char ?ck_char ?cne_char ?_; (case cB_char => k_asm); (case cF_char => k_asm); (case cX_char => k_asm); (case cT_char => k_asm); (case cN_char => k_asm); (case ca_char => exact rfl); (case cb_char => exact rfl); (case cc_char => exact rfl); (case ce_char => exact rfl); (case cd_char => exact Nat.le_of_ble_eq_true rfl); (case cu_char => exact Nat.le_of_ble_eq_true rfl); (case ck_char => ((try (refine' Mine.Internal.Take.cons ?_ ?_)); repeat' (first | exact Mine.Internal.Take.nil | exact Mine.Internal.Del.head | refine' Mine.Internal.Take.cons ?_ ?_ | refine' Mine.Internal.Del.tail ?_))); (case cne_char => first | exact List.forall_mem_nil _ | exact (fun _ _ => List.forall_mem_nil _) | exact Mine.Internal.Srt.neL (by with_reducible assumption) (by k_extra "pos") (by k_extra "pos") (by exact rfl) | ((simp only [List.forall_mem_cons, List.not_mem_nil, false_implies, implies_true, and_true, true_and]); (repeat' (refine And.intro ?_ ?_)); all_goals k_ne)); (case p1_char => with_reducible assumption); (case p2_char => with_reducible assumption); (k_whole; intro v' l' hp'; (set_option tactic.hygienic true in induction hp'); rename_i x' b' ok' hoff' hrem' hb1' hb0' hpl' hpc'; intro h' n' hn' F' N'; (try dsimp only [List.cons_append, List.nil_append] at N'); (try k_sweep); (try dsimp only); (try k_fold)); (rcases b' with _ | _); all_goals (first | (have hb2' := hb1' rfl) | (have hb3' := hb0' rfl))))
      k_fill
      refine' ctr_introN (binds := [("self", .ref st)]) (fun h h' T k => T.keeps k) (fun h T => T.nolimit) ?ho_char ?hcd_char ?hD_char ?hb_char ?hl_char ?_ ?hc_char ?c1_char ?c2_char ?c3_char
      case ho_char => k_is
      case hcd_char => k_is
      case hD_char => decide
      case hb_char => (intro s X; (try (rcases hargs with ⟨rfl, rfl, rfl⟩ | ⟨rfl, rfl⟩)); all_goals (first | exact BindsTo.of_eq rfl | exact binds_K X rfl (by k_is) rfl rfl rfl))
      case hl_char => exact locs rfl
      case hc_char => decide
      case c1_char => exact rfl
      case c2_char => exact rfl
      case c3_char => exact rfl
      intro A base g env outer L' h₁ hs9 gens9 dr9 t09 os9 tk B' F' X' N' T' l1
      intro e9 A9 q9
      (try clear l1)
      (try dsimp only at N')
      first | have S0 := Mine.Internal.Srt.eight ho hk hat | have S0 := Mine.Internal.Srt.grow (Mine.Internal.Srt.six ho) hoq | have S0 := Mine.Internal.Srt.five ho hk | have S0 := Mine.Internal.Srt.six ho | have S0 := Mine.Internal.Srt.two ho | have S0 := Mine.Internal.Srt.two hk | skip

      k_steps
      all_goals (try dsimp only)
      all_goals (refine' cend (l := [(st, _), (sd, _), (ds, _), (dd, _), (rce, _), (er, _)]) (by assumption) (by assumption) (Mine.Internal.Take.sub (by ((try dsimp only); repeat' (first | exact Mine.Internal.Take.nil | exact Mine.Internal.Del.head | refine' Mine.Internal.Take.blk ?_ | exact Mine.Internal.Tl.nil | exact Mine.Internal.Tl.app | refine' Mine.Internal.Take.cons ?_ ?_ | refine' Mine.Internal.Del.tail ?_ | refine' Mine.Internal.Tl.cons ?_)))) ?_)
      · with_reducible rename St => y
        refine' ⟨y, ?hxa_char, .inl ⟨rfl, ?hxb_char, ?hxc_char⟩, ?hxl_char⟩
        case hxl_char => exact rfl
        case hxa_char => with_reducible assumption
        case hxc_char => with_reducible assumption
        case hxb_char => exact (Mine.Internal.rem_end ok (by with_reducible assumption)).trans (Eq.trans (Eq.symm (by with_reducible assumption)) (by with_reducible assumption))
      · with_reducible rename St => y
        have hq9 := Mine.Internal.rem_step (x := y) (by with_reducible assumption) (by with_reducible assumption) rfl
        refine' ⟨{ y with off := y.off + 1, to := _ }, ?hxa_char, .inr ⟨_, _, rfl, ?hxb_char, (hq9 0 0).2.2.1, (hq9 0 0).2.2.2⟩, ?hxl_char⟩
        case hxl_char => exact rfl
        case hxa_char => exact (hq9 _ 0).1
        case hxb_char => exact ((Mine.Internal.rem_end ok (by with_reducible assumption)).trans (Eq.symm (by with_reducible assumption))).trans (hq9 0 0).2.1
      · have hq9 := Mine.Internal.rem_step ok (by with_reducible assumption) rfl
        refine' ⟨{ x with off := x.off + 1, to := _ }, ?hxa_char, .inr ⟨_, _, rfl, ?hxb_char, (hq9 0 0).2.2.1, (hq9 0 0).2.2.2⟩, ?hxl_char⟩
        case hxl_char => exact rfl
        case hxa_char => exact (hq9 _ 0).1
        case hxb_char => exact (hq9 0 0).2.1
  have ctr_until {w : World} {loose : List Str} {mean : ExcName → Option Value} {mg mb : Str → Option Value} {st sd : Addr} {k0 k1 k2 k3 k4 k5 k6 k7 k8 k9 : Tok} {rce nl ds er dd : Addr} {j0 j1 : Tok} {src : Str} {tsr : Tok} {x : St} {q : Addr} {vs0 : List Value} {ys0 : List Str} {al : Nat → Bool} (ho : @LT.lt Nat _ sd st ∧ @LT.lt Nat _ st rce ∧ @LT.lt Nat _ rce dd ∧ @LT.lt Nat _ dd ds ∧ @LT.lt Nat _ ds er) (hoq : @LT.lt Nat _ er q) (ok : x.ok src) (hvs0 : StrsAre vs0 ys0) (hal0 : ∀ c : Nat, ys0.any (· == ⟨#[c]⟩) = al c) :
      CtrC PySem.Challenge.rw_te0076_01.row.prog w (main.heap_1_39 w.params) (Top main.view_1_40 loose mean mg mb) 460 600 (.ref 156) ⟨[.ref st, .ref q], []⟩ ([(st, instObj 166 sd), (sd, dictOf (sdict w.params k0 k1 k2 k3 k4 k5 k6 k7 k8 k9 rce nl ds x.chunk x.tc x.size x.ts x.off x.to er x.pl x.tl x.pc x.tp x.buf) 10), (ds, instObj 73 dd), (dd, dictOf (tdict w.params j0 j1 src tsr x.place x.tpl) 2), (rce, methodObj (.ref 148) (.ref st)), (er, W.listOf x.es.toArray x.n), (q, tupO vs0)]) (noF fun v l => ∃ (x' : St) (p : List Nat) (t : Tok), x'.ok src ∧ v = .str ⟨p.toArray⟩ t ∧ x.rem src = p ++ x'.rem src ∧ (∀ c ∈ p, al c = false) ∧ (∀ c t, x'.rem src = c :: t → al c = true) ∧ l = [(st, instObj 166 sd), (sd, dictOf (sdict w.params k0 k1 k2 k3 k4 k5 k6 k7 k8 k9 rce nl ds x'.chunk x'.tc x'.size x'.ts x'.off x'.to er x'.pl x'.tl x'.pc x'.tp x'.buf) 10), (ds, instObj 73 dd), (dd, dictOf (tdict w.params j0 j1 src tsr x'.place x'.tpl) 2), (rce, methodObj (.ref 148) (.ref st)), (er, W.listOf x'.es.toArray x'.n), (q, tupO vs0)]) := by
    as_aux_lemma =>
      clear ctr_is_invalid ctr_charErrors ctr_read ctr_readE ctr_position0 ctr_unget ctr_ungetN ctr_ungetS ctr_readN ctr_readC ctr_char
      k_with_none
      k_with "pos" => (repeat' (first | exact Mine.Internal.PosL.nil | (apply Mine.Internal.PosL.cons 0; exact rfl) | (apply Mine.Internal.PosL.cons 1; exact rfl) | (apply Mine.Internal.PosL.cons 2; exact rfl) | (apply Mine.Internal.PosL.cons 3; exact rfl) | (apply Mine.Internal.PosL.cons 4; exact rfl) | (apply Mine.Internal.PosL.cons 5; exact rfl) | (apply Mine.Internal.PosL.cons 6; exact rfl) | (apply Mine.Internal.PosL.cons 7; exact rfl) | (apply Mine.Internal.PosL.cons 8; exact rfl) | (apply Mine.Internal.PosL.cons 9; exact rfl) | (apply Mine.Internal.PosL.cons 10; exact rfl) | (apply Mine.Internal.PosL.cons 11; exact rfl) | (apply Mine.Internal.PosL.cons 12; exact rfl) | (apply Mine.Internal.PosL.cons 13; exact rfl) | (apply Mine.Internal.PosL.cons 14; exact rfl) | (apply Mine.Internal.PosL.cons 15; exact rfl) | (apply Mine.Internal.PosL.cons 16; exact rfl) | (apply Mine.Internal.PosL.cons 17; exact rfl) | (apply Mine.Internal.PosL.cons 18; exact rfl) | (apply Mine.Internal.PosL.cons 19; exact rfl) | (apply Mine.Internal.PosL.cons 20; exact rfl) | (apply Mine.Internal.PosL.cons 21; exact rfl) | (apply Mine.Internal.PosL.cons 22; exact rfl) | (apply Mine.Internal.PosL.cons 23; exact rfl)))
      k_with "slt" => exact Mine.Internal.Srt.lt (by with_reducible assumption) (by ((repeat (first | (with_reducible_and_instances refine Mine.Internal.Aft.here ?_; (repeat (first | with_reducible_and_instances exact List.Mem.head _ | with_reducible_and_instances refine List.Mem.tail _ ?_)); done) | with_reducible refine Mine.Internal.Aft.there ?_)); all_goals fail))
      k_with "take" => k_dflt ((try dsimp only); repeat' (first | exact Mine.Internal.Take.nil | exact Mine.Internal.Del.head | refine' Mine.Internal.Take.blk ?_ | exact Mine.Internal.Tl.nil | exact Mine.Internal.Tl.app | refine' Mine.Internal.Take.cons ?_ ?_ | refine' Mine.Internal.Del.tail ?_ | refine' Mine.Internal.Tl.cons ?_))
      k_with "upd" => (exact Mine.Internal.Srt.updP (by with_reducible assumption) (by repeat' (first | exact Mine.Internal.UpdI.head | refine' Mine.Internal.UpdI.tail ?_)) (by k_dflt (k_extra "pos")) (by exact rfl))
      k_with "all" => exact Mine.Internal.Ks.ne_all (by with_reducible assumption) (by first | exact .inr (by k_extra "slt") | exact .inl (by k_extra "slt"))
      k_with "ne" => (refine neN ?_; first | exact Mine.Internal.Srt.ne (by with_reducible assumption) (by with_reducible solve_by_elim (maxDepth := 40) only [Mine.Internal.Apart.l, Mine.Internal.Apart.r, Mine.Internal.Apart.t, List.Mem.head, List.Mem.tail]) | ((try dsimp only); omega))
      k_with "lt" => (intro h9l; first | ((with_reducible rename Mine.Internal.Srt _ => S8); (first | (have S9 := Mine.Internal.Srt.grow S8 (h9l (_, _) (by k_dflt k_mem)); clear S8) | (have S9 := Mine.Internal.Srt.grow S8.tl (h9l (_, _) (by k_dflt k_mem)); clear S8) | (have S9 := Mine.Internal.Srt.grow S8.tl.tl (h9l (_, _) (by k_dflt k_mem)); clear S8)); clear h9l) | (replace h9l := allLt_of h9l; simp only [AllLt, and_true] at h9l))
      k_with "subscriptTail" => (k_here; (with_reducible show wpAny _ _ (subscriptTail _ _ (Value.str _ _) (Value.int _ _)) _ _ _); (refine Mine.Internal.sub_chr (by omega) (by omega) (by assumption) ?_))
      k_with "getMethod ref" => (k_here; k_dflt (first | (refine' method_inst ?k1_until ?k2_until ?k3_until ?k4_until ?k5_until ?k6_until ?k7_until ?_; (case k1_until => k_asm); (case k2_until => k_asm); (case k3_until => k_inst); (case k4_until => k_is); (case k5_until => k_is); (case k6_until => k_is); (case k7_until => k_get); k_whole) | (refine' kmu_own ?k1_until ?k2_until ?k3_until ?k4_until ?k5_until ?_; (case k1_until => k_asm); (case k2_until => k_asm); (case k3_until => k_inst); (case k4_until => k_is); (case k5_until => k_is); k_whole)))
      k_with "getMethod ref" => (k_here; (with_reducible show wpAny _ _ (getMethod (Value.ref _) (PySem.Str.ofString "append") _) _ _ _); k_dflt (refine' kl_method ?N_until ?m_until slot_list_append type_list_append ?_; (case N_until => k_asm); (case m_until => k_mem); k_whole))
      k_with "execs cons" => (k_here; (with_reducible show wpAny _ _ _ _ _ (Shared.mk _ _ _ (_ + _) _)); (refine Mine.Internal.gentoks ?_); intro tkg9 htk9; (try dsimp only at htk9))
      k_with "ite" => (k_here; k_openite; first
      | (refine ite_pos ?hq_until ?_; (case hq_until => first | (simp only [decide_eq_true_eq, beq_iff_eq, bne_iff_ne, ne_eq, Bool.not_eq_true', decide_eq_false_iff_not]; omega) | (simp; done)))
      | (refine ite_neg ?hq_until ?_; (case hq_until => first | (simp only [decide_eq_true_eq, beq_iff_eq, bne_iff_ne, ne_eq, Bool.not_eq_true', decide_eq_false_iff_not]; omega) | (simp; done))))
      k_with "exec If" => ((with_reducible show wpAny _ _ _ _ _ _); k_fold)
      k_with "exec AugAssign" => ((with_reducible show wpAny _ _ _ _ _ _); k_fold)
      k_with "exec While" => ((with_reducible show wpAny _ _ _ _ _ _); k_fold)
      k_with "size" => k_dflt (first | exact Nat.le_of_ble_eq_true rfl | ((with_reducible show Array.size (List.toArray _) ≤ PySem.sizeLine); rw [List.size_toArray, PySem.sizeLine_eq]; refine Nat.le_trans (m := 100002) ?_ (Nat.le_of_ble_eq_true rfl); first | with_reducible assumption | exact Nat.le_trans (m := 100000) (by with_reducible assumption) (Nat.le_of_ble_eq_true rfl)))
      k_with "subscriptTail Name Constant ref int" => k_extra "subscriptTail"
      k_with "tok" => (first | exact Nat.le_add_left 1 _ | with_reducible assumption | exact Nat.le_trans (Nat.le_add_left 1 _) (by with_reducible assumption))
      k_with "next" => (first | ((with_reducible refine Mine.Internal.nextS (g := gens9) (d := dr9) (o := os9) ?_); intro qk9 tkg9) | ((with_reducible refine Mine.Internal.lastS (g := gens9) (d := dr9) (o := os9) ?_); intro tkg9) | (with_reducible refine Mine.Internal.nilS ?_) | (with_reducible refine Mine.Internal.fin9 ?_) | (with_reducible refine Mine.Internal.fin0 ?_) | (with_reducible refine Mine.Internal.finS9 ?_) | (with_reducible refine Mine.Internal.finS0 ?_) | ((with_reducible refine Mine.Internal.nextU (g := gens9) (d := dr9) (o := os9) ?_ ?_); (k_extra "tok"); intro qk9 tkg9) | ((with_reducible refine Mine.Internal.lastU (g := gens9) (d := dr9) (o := os9) ?_ ?_); (k_extra "tok"); intro tkg9) | ((with_reducible refine Mine.Internal.nextZ (g := gens9) (d := dr9) (o := os9) ?_); intro qk9 tkg9) | ((with_reducible refine Mine.Internal.lastZ (g := gens9) (d := dr9) (o := os9) ?_); intro tkg9))
      k_with "subscriptTail" => (first | ((fail_if_success (with_reducible show wpAny _ _ (subscriptTail _ (Expr.Slice _ _ _ _) _ _) _ _ _)); dsimp only) | ((with_reducible show wpAny _ _ (subscriptTail _ _ (Value.ref _) (Value.str (PySem.Str.ofString "data") _)) _ _ _); k_here; k_dflt (refine kdt_tail (knd := PySem.strKind _ _) (by k_asm) (by k_mem) (by k_asm) ?_)) | ((with_reducible show wpAny _ _ (subscriptTail (Expr.Subscript _ _ _) (Expr.UnaryOp _ _ _) (Value.ref _) (Value.int _ _)) _ _ _); k_here; k_dflt (refine' Mine.Internal.item_lastT ?iN_until ?im_until ?ik_until ?_; (case iN_until => k_asm); (case im_until => k_mem); (case ik_until => rfl); k_whole)))
      k_with "execs cons" => k_extra "next"
      k_with "execs nil" => (with_reducible refine Mine.Internal.nilS ?_)
      k_with "eval Constant int" => (with_reducible refine Mine.Internal.c_int (g := gens9) (d := dr9) (o := os9) ?_)
      k_with "eval Constant str" => (with_reducible refine Mine.Internal.c_str (g := gens9) (d := dr9) (o := os9) ?_)
      k_with "eval Attribute Name" => (k_here; k_dflt (refine' Mine.Internal.at_name (gs := gens9) (d := dr9) (o := os9) ?nF_until ?nX_until ?nN_until ?nv_until ?n1_until ?n2_until ?ng_until ?nh_until ?na_until ?nn_until ?nl_until ?nd_until ?_; (case nF_until => k_asm); (case nX_until => k_asm); (case nN_until => k_asm); (case nv_until => exact rfl); (case n1_until => k_mem); (case n2_until => k_mem); (case ng_until => k_is); (case nh_until => k_is); (case na_until => k_is); (case nn_until => k_is); (case nl_until => k_get); (case nd_until => k_handed); k_whole))
      k_with "setAttr ref" => (first | (k_here; ktx_write) | (k_here; k_dflt (refine' Mine.Internal.st_attr (gs := gens9) (d := dr9) (o := os9) ?sF_until ?sX_until ?sN_until ?s1_until ?s2_until ?ss_until ?sp_until ?st_until ?sh_until ?sl_until ?se_until ?sU_until ?sz_until ?_; (case sF_until => k_asm); (case sX_until => k_asm); (case sN_until => k_asm); (case s1_until => k_mem); (case s2_until => k_mem); (case ss_until => k_is); (case sp_until => k_is); (case st_until => k_is); (case sh_until => k_is); (case sl_until => k_get); (case se_until => k_put); (case sU_until => k_upd); (case sz_until => exact Nat.le_of_ble_eq_true rfl); k_whole; intro h' F' N'; (try k_sweep))))
      k_with "storeName" => (first | (k_here; ktx_write) | (k_here; k_dflt (refine' Mine.Internal.st_name (gs := gens9) (d := dr9) (o := os9) ?tF_until ?tN_until ?_; (case tF_until => k_asm); (case tN_until => k_asm); k_whole; intro m9 h' F' N'; (try k_sweep))))
      k_with "call ref" => refine Mine.Internal.hold ?_
      k_with "compareOp In" => (k_here; (with_reducible show wpAny _ _ (compareOp CmpOp.In (Value.str ⟨#[_]⟩ _) (Value.ref _)) _ _ _); k_dflt (refine' Mine.Internal.in_tupN ?N_until ?hm_until hvs0 hal0 ?_; (case N_until => k_asm); (case hm_until => news_mem); k_whole))
      k_with "subscriptTail" => (k_here; (with_reducible show wpAny _ _ (subscriptTail _ _ (Value.str _ _) (Value.int _ _)) _ _ _); (refine Mine.Internal.sub_st2 (by with_reducible assumption) (by omega) (by omega) ?_); intro c9 hc9; (try k_fold))
      k_with "call ref" => (k_here; (with_reducible show wpAny _ _ (call (Value.ref 141) _ _) _ _ _); k_dflt (refine' Mine.Internal.Ctr.useN (gs := gens9) (d := dr9) (o := os9) (Mine.Internal.CtrC.call (ctr_readA ?p1_until ?p2_until)) ?cB_until ?cF_until ?cX_until ?cN_until ?cT_until ?ca_until ?cb_until ?cc_until ?ce_until ?cd_until ?cu_until ?ck_until ?cne_until ?_; (case cB_until => k_asm); (case cF_until => k_asm); (case cX_until => k_asm); (case cT_until => k_asm); (case cN_until => k_asm); (case ca_until => exact rfl); (case cb_until => exact rfl); (case cc_until => exact rfl); (case ce_until => exact rfl); (case cd_until => exact Nat.le_of_ble_eq_true rfl); (case cu_until => exact Nat.le_of_ble_eq_true rfl); (case ck_until => ((try (refine' Mine.Internal.Take.cons ?_ ?_)); repeat' (first | exact Mine.Internal.Take.nil | exact Mine.Internal.Del.head | refine' Mine.Internal.Take.cons ?_ ?_ | refine' Mine.Internal.Del.tail ?_))); (case cne_until => first | exact List.forall_mem_nil _ | exact (fun _ _ => List.forall_mem_nil _) | exact Mine.Internal.Srt.neL (by with_reducible assumption) (by k_extra "pos") (by k_extra "pos") (by exact rfl) | ((simp only [List.forall_mem_cons, List.not_mem_nil, false_implies, implies_true, and_true, true_and]); (repeat' (refine And.intro ?_ ?_)); all_goals k_ne)); (case p1_until => with_reducible assumption); (case p2_until => with_reducible assumption); (k_whole; intro v' l' hp'; (set_option tactic.hygienic true in induction hp'); rename_i x' b' ok' hoff' hrem' hb1' hb0' hpl' hpc'; intro h' n' hn' F' N'; (try dsimp only [List.cons_append, List.nil_append] at N'); (try k_sweep); (try dsimp only); (try k_fold)); (rcases b' with _ | _); all_goals (first | (have hb2' := hb1' rfl) | (have hb3' := hb0' rfl))))
      k_fill
      refine' ctr_introN (binds := [("self", .ref st), ("characters", .ref q), ("opposite", .bool false)]) (fun h h' T k => T.keeps k) (fun h T => T.nolimit) ?ho_until ?hcd_until ?hD_until ?hb_until ?hl_until ?_ ?hc_until ?c1_until ?c2_until ?c3_until
      case ho_until => k_is
      case hcd_until => k_is
      case hD_until => decide
      case hb_until => (intro s X; (try (rcases hargs with ⟨rfl, rfl, rfl⟩ | ⟨rfl, rfl⟩)); all_goals (first | exact BindsTo.of_eq rfl | exact binds_K X rfl (by k_is) rfl rfl rfl))
      case hl_until => exact locs rfl
      case hc_until => decide
      case c1_until => exact rfl
      case c2_until => exact rfl
      case c3_until => exact rfl
      intro A base g env outer L' h₁ hs9 gens9 dr9 t09 os9 tk B' F' X' N' T' l1
      intro e9 A9 q9
      (try clear l1)
      (try dsimp only at N')
      first | have S0 := Mine.Internal.Srt.eight ho hk hat | have S0 := Mine.Internal.Srt.grow (Mine.Internal.Srt.six ho) hoq | have S0 := Mine.Internal.Srt.five ho hk | have S0 := Mine.Internal.Srt.six ho | have S0 := Mine.Internal.Srt.two ho | have S0 := Mine.Internal.Srt.two hk | skip

      k_with "exec While" => k_dflt (first
        | ((with_reducible show wpAny _ _ (exec (Stmt.While (Expr.Constant _ _ _) _ _ _) _) _ _ _); (with_reducible rename Fr _ _ _ _ => F0); (with_reducible rename News _ _ _ _ => N0); (refine' ksw_meet (σ := Cu) (fun c => [(_, W.listOf c.vs.toArray c.n), (st, instObj 166 sd), (sd, dictOf (sdict w.params k0 k1 k2 k3 k4 k5 k6 k7 k8 k9 rce nl ds c.x.chunk c.x.tc c.x.size c.x.ts c.x.off c.x.to er c.x.pl c.x.tl c.x.pc c.x.tp c.x.buf) 10), (ds, instObj 73 dd), (dd, dictOf (tdict w.params j0 j1 src tsr c.x.place c.x.tpl) 2), (rce, methodObj (.ref 148) (.ref st)), (er, W.listOf c.x.es.toArray c.x.n), (q, tupO vs0)]) (fun _ => []) ["end"] (Cu.ok src al (x.rem src)) (CuX src al (x.rem src)) (fun c => c.mu src) ⟨x, [], 0⟩ F0 (fun p hp => N0 p (Mine.Internal.Take.sub ?otk_until p hp)) (fun _ h => nomatch h) (Cu.start ok) ?ohq_until ?oturn_until); (case otk_until => (k_extra "take")); (case' ohq_until => (intro c u hh tk2 hi Ft Nt; (try clear F0 N0); obtain ⟨y, vs, vn⟩ := c; obtain ⟨sok, hvl, ws, hvs, hL, hws, hst⟩ := hi; (dsimp only at sok hvl hvs hL hst Ft Nt))); (case' oturn_until => (intro c u hh tk2 hi Ft Nt; (try clear F0 N0); obtain ⟨y, vs, vn⟩ := c; obtain ⟨sok, ws, hvs, hL, hws, hb⟩ := hi; (dsimp only at sok hvs hL hb Ft Nt); have hvl : vs.length ≤ 50000 := Cu.vlen ok rfl hb; have hy0 := sok.off0; have hy1 := sok.off1; have hy2 := sok.csize; have hy3 := sok.clen)))
        | ((with_reducible show wpAny _ _ (exec (Stmt.While (Expr.BoolOp _ _ _) _ _ _) _) _ _ _); (with_reducible rename Fr _ _ _ _ => F0); (with_reducible rename News _ _ _ _ => N0); (refine' ksw_meet (σ := Int × Tok) (fun _ => [(_, W.listOf vs.toArray vn), (st, instObj 166 sd), (sd, dictOf (sdict w.params k0 k1 k2 k3 k4 k5 k6 k7 k8 k9 rce nl ds y.chunk y.tc y.size y.ts y.off y.to er y.pl y.tl y.pc y.tp y.buf) 10), (ds, instObj 73 dd), (dd, dictOf (tdict w.params j0 j1 src tsr y.place y.tpl) 2), (rce, methodObj (.ref 148) (.ref st)), (er, W.listOf y.es.toArray y.n), (q, tupO vs0)]) (fun c => [("end", .int c.1 c.2)]) [] (fun c => RunTo al y c.1) (fun c => RunTo al y c.1 ∧ (c.1 = y.size ∨ ∃ d, y.chunk.cps[c.1.toNat]? = some d ∧ al d = true ∧ c.1 < y.size)) (fun c => (y.size - c.1).toNat) (y.off, y.to) F0 (fun p hp => N0 p (Mine.Internal.Take.sub ?itk_until p hp)) ?ikk_until (RunTo.start sok) ?ihq_until ?iturn_until); (case itk_until => (k_extra "take")); (case ikk_until => intro p hp; (simp only [List.mem_singleton] at hp); subst hp; rfl); (case' ihq_until => (intro c u2 hh2 tk3 hx Ft2 Nt2; (try clear F0 N0); obtain ⟨e, te⟩ := c; obtain ⟨hr, hx⟩ := hx; (dsimp only at hr hx Ft2 Nt2); have he0 := hr.lo; have he1 := hr.hi; rcases hx with he | ⟨d, hd, had, hlt⟩)); (case' iturn_until => (intro c u2 hh2 tk3 hr Ft2 Nt2; (try clear F0 N0); obtain ⟨e, te⟩ := c; (dsimp only at hr Ft2 Nt2); have he0 := hr.lo; have he1 := hr.hi))))
      k_with "call builtin:str.join" => k_dflt ((with_reducible show wpAny _ _ (call (Value.builtin "str.join") [Value.str _ _, Value.ref _]) _ _ _); (refine' Mine.Internal.join_flats (News.isList (by k_asm) (by news_mem)) hvs hvl (CuX.vlen ok hL) ?_); intro t9 k9)
      k_with "KswEnd" => k_dflt (first
        | ((with_reducible show KswEnd _ _ _ _ _ _ [] _ _ _ _ _); (with_reducible rename Fr _ _ _ _ => F9); (with_reducible rename News _ _ _ _ => N9); (refine' ksw_end (σ := Int × Tok) (e + 1, _) F9 N9 (Mine.Internal.Take.sub ?itk2_until) trivial ?ihk2_until ?ihr2_until (RunTo.step hy0 hr (by with_reducible assumption) ((hal0 _).symm.trans (al_f (by with_reducible assumption))) (by omega)) ?imu2_until); (case itk2_until => (k_extra "take")); (case ihk2_until => (intro p hp; (simp only [List.mem_singleton] at hp); subst hp; first | rfl | exact if_pos rfl)); (case ihr2_until => (intro z9 hz9 hz8; have hz7 := hz9 _ (List.mem_singleton.mpr rfl); simp (zetaDelta := true) [hz7, kstB])); (case imu2_until => (dsimp only; omega)))
        | ((with_reducible show KswEnd _ _ _ _ _ _ ["end"] _ _ _ _ _); (with_reducible rename St => y2); (with_reducible rename Fr _ _ _ _ => F9); (with_reducible rename News _ _ _ _ => N9); (try simp only [List.push_toArray] at N9); (have hx9 := fun n9 t9 => cu_next (n := n9) (t1 := t9) sok (by with_reducible assumption : StrsAre vs ws) hL hws hb hr he (by with_reducible assumption : St.ok src y2) (by with_reducible assumption) (by with_reducible assumption) (by with_reducible assumption)); first | ((refine' ksw_end (σ := Cu) ⟨y2, vs ++ [.str _ _], _⟩ F9 N9 (Mine.Internal.Take.sub ?m1tka_until) trivial (fun _ h => nomatch h) ?m1hra_until (hx9 _ _).1 ((hx9 _ _).2 _)); (case m1tka_until => (k_extra "take")); (case m1hra_until => (intro z9 hz9 hz8; have hz7 : z9 ≠ Str.ofString "end" := (by intro e9; subst e9; simp at hz8); simp (zetaDelta := true) [hz7, kstB]))) | ((refine' ksw_end (σ := Cu) ⟨y2, vs ++ [.str _ _], _⟩ F9 N9 (Mine.Internal.Take.sub ?m1tkb_until) trivial (fun _ h => nomatch h) ?m1hrb_until (hx9 _ _).1 ((hx9 _ _).2 _)); (case m1tkb_until => (k_extra "take")); (case m1hrb_until => (intro z9 hz9 hz8; have hz7 : z9 ≠ Str.ofString "end" := (by intro e9; subst e9; simp at hz8); simp (zetaDelta := true) [hz7, kstB]))))
        | (refine Mine.Internal.hold ?_))
      k_with "MeetW" => k_dflt (first
        | ((with_reducible show MeetW _ _ _ _ _ [] _ _ _ _); exact meetW_end (σ := Int × Tok) (e, te) u2 Ft2 Nt2 (fun _ h => h) ⟨hr, .inl (by with_reducible assumption)⟩)
        | ((with_reducible show MeetW _ _ _ _ _ [] _ _ _ _); (have hx9 := run_stop hal0 y e (by with_reducible assumption) (by with_reducible assumption) he1 (by with_reducible assumption)); exact meetW_end (σ := Int × Tok) (e, te) u2 Ft2 Nt2 (fun _ h => h) ⟨hr, .inr hx9⟩)
        | ((with_reducible show MeetW _ _ _ _ _ ["end"] _ _ _ _); (with_reducible rename St => y2); (with_reducible rename Fr _ _ _ _ => F9); (with_reducible rename News _ _ _ _ => N9); (try simp only [List.push_toArray] at N9); (have hx9 := fun n9 t9 => cux_end (n := n9) (t1 := t9) sok (by with_reducible assumption : StrsAre vs ws) hL hws hr he (by with_reducible assumption : St.ok src y2) (by with_reducible assumption) (by with_reducible assumption) hvl); first | ((refine' meetW_fin (σ := Cu) ⟨y2, vs ++ [.str _ _], _⟩ F9 N9 (Mine.Internal.Take.sub ?m4tka_until) (fun _ h => nomatch h) ?m4hra_until (hx9 _ _)); (case m4tka_until => (k_extra "take")); (case m4hra_until => (intro z9 hz9 hz8; have hz7 : z9 ≠ Str.ofString "end" := (by intro e9; subst e9; simp at hz8); simp (zetaDelta := true) [hz7, kstB]))) | ((refine' meetW_fin (σ := Cu) ⟨y2, vs ++ [.str _ _], _⟩ F9 N9 (Mine.Internal.Take.sub ?m4tkb_until) (fun _ h => nomatch h) ?m4hrb_until (hx9 _ _)); (case m4tkb_until => (k_extra "take")); (case m4hrb_until => (intro z9 hz9 hz8; have hz7 : z9 ≠ Str.ofString "end" := (by intro e9; subst e9; simp at hz8); simp (zetaDelta := true) [hz7, kstB]))))
        | ((with_reducible show MeetW _ _ _ _ _ ["end"] _ _ _ _); (with_reducible rename Fr _ _ _ _ => F9); (with_reducible rename News _ _ _ _ => N9); (have hx9 := cux_stop (n := vn) sok (by with_reducible assumption : StrsAre vs ws) hL hws (by rw [← show e = y.off from by with_reducible assumption]; exact hd) had hvl); (refine' meetW_fin (σ := Cu) ⟨y, vs, vn⟩ F9 N9 (Mine.Internal.Take.sub ?m5tk_until) (fun _ h => nomatch h) ?m5hr_until hx9); (case m5tk_until => (k_extra "take")); (case m5hr_until => (intro z9 hz9 hz8; have hz7 : z9 ≠ Str.ofString "end" := (by intro e9; subst e9; simp at hz8); simp (zetaDelta := true) [hz7, kstB])))
        | ((with_reducible show MeetW _ _ _ _ _ ["end"] _ _ _ _); (with_reducible rename Fr _ _ _ _ => F9); (with_reducible rename News _ _ _ _ => N9); (try simp only [List.push_toArray] at N9); (have hx9 := fun n' t9 => cux_run (n := n') (t1 := t9) (t2 := te) sok (by with_reducible assumption : StrsAre vs ws) hL hws hr hd had hvl); (refine' meetW_fin (σ := Cu) ⟨{ y with off := e, to := te }, vs ++ [.str _ _], _⟩ F9 N9 (Mine.Internal.Take.sub ?m6tk_until) (fun _ h => nomatch h) ?m6hr_until (hx9 _ _)); (case m6tk_until => (k_extra "take")); (case m6hr_until => (intro z9 hz9 hz8; have hz7 : z9 ≠ Str.ofString "end" := (by intro e9; subst e9; simp at hz8); simp (zetaDelta := true) [hz7, kstB])))
        | (refine Mine.Internal.hold ?_))
      k_steps
      all_goals (try dsimp only)
      all_goals (refine' cend (l := [(st, _), (sd, _), (ds, _), (dd, _), (rce, _), (er, _), (q, _)]) (by assumption) (by assumption) (Mine.Internal.Take.sub (by ((try dsimp only); repeat' (first | exact Mine.Internal.Take.nil | exact Mine.Internal.Del.head | refine' Mine.Internal.Take.blk ?_ | exact Mine.Internal.Tl.nil | exact Mine.Internal.Tl.app | refine' Mine.Internal.Take.cons ?_ ?_ | refine' Mine.Internal.Del.tail ?_ | refine' Mine.Internal.Tl.cons ?_)))) ?_)
      all_goals (exact ⟨y, flat ws, _, sok, rfl, hL, hws, hst, rfl⟩)
  have ctr_tinit {w : World} {loose : List Str} {mean : ExcName → Option Value} {mg mb : Str → Option Value} {za zd : Addr} {src : Str} {tsr : Tok} (hk : @LT.lt Nat _ zd za) (hs : src.length ≤ 10000) (hsu : ∀ c ∈ src.cps.toList, c < 55296) :
      CtrC PySem.Challenge.rw_te0076_01.row.prog w (main.heap_1_39 w.params) (Top main.view_1_40 loose mean mg mb) 480 800 (.ref 261) ⟨[.ref za, .str src tsr], []⟩ [(za, instObj 762 zd), (zd, W.dictOf [] 0)]
        (Mine.Internal.InitP 762 za zd (Mine.Internal.TinitP w src tsr)) := by
    as_aux_lemma =>
      clear ctr_is_invalid ctr_charErrors ctr_read ctr_readE ctr_position0 ctr_unget ctr_ungetN ctr_ungetS ctr_readN ctr_readC ctr_readA ctr_char ctr_until
      k_with_none
      k_with "pos" => (repeat' (first | exact Mine.Internal.PosL.nil | (apply Mine.Internal.PosL.cons 0; exact rfl) | (apply Mine.Internal.PosL.cons 1; exact rfl) | (apply Mine.Internal.PosL.cons 2; exact rfl) | (apply Mine.Internal.PosL.cons 3; exact rfl) | (apply Mine.Internal.PosL.cons 4; exact rfl) | (apply Mine.Internal.PosL.cons 5; exact rfl) | (apply Mine.Internal.PosL.cons 6; exact rfl) | (apply Mine.Internal.PosL.cons 7; exact rfl) | (apply Mine.Internal.PosL.cons 8; exact rfl) | (apply Mine.Internal.PosL.cons 9; exact rfl) | (apply Mine.Internal.PosL.cons 10; exact rfl) | (apply Mine.Internal.PosL.cons 11; exact rfl) | (apply Mine.Internal.PosL.cons 12; exact rfl) | (apply Mine.Internal.PosL.cons 13; exact rfl) | (apply Mine.Internal.PosL.cons 14; exact rfl) | (apply Mine.Internal.PosL.cons 15; exact rfl) | (apply Mine.Internal.PosL.cons 16; exact rfl) | (apply Mine.Internal.PosL.cons 17; exact rfl) | (apply Mine.Internal.PosL.cons 18; exact rfl) | (apply Mine.Internal.PosL.cons 19; exact rfl) | (apply Mine.Internal.PosL.cons 20; exact rfl) | (apply Mine.Internal.PosL.cons 21; exact rfl) | (apply Mine.Internal.PosL.cons 22; exact rfl) | (apply Mine.Internal.PosL.cons 23; exact rfl)))
      k_with "slt" => exact Mine.Internal.Srt.lt (by with_reducible assumption) (by ((repeat (first | (with_reducible_and_instances refine Mine.Internal.Aft.here ?_; (repeat (first | with_reducible_and_instances exact List.Mem.head _ | with_reducible_and_instances refine List.Mem.tail _ ?_)); done) | with_reducible refine Mine.Internal.Aft.there ?_)); all_goals fail))
      k_with "take" => k_dflt ((try dsimp only); repeat' (first | exact Mine.Internal.Take.nil | exact Mine.Internal.Del.head | refine' Mine.Internal.Take.blk ?_ | exact Mine.Internal.Tl.nil | exact Mine.Internal.Tl.app | refine' Mine.Internal.Take.cons ?_ ?_ | refine' Mine.Internal.Del.tail ?_ | refine' Mine.Internal.Tl.cons ?_))
      k_with "upd" => (exact Mine.Internal.Srt.updP (by with_reducible assumption) (by repeat' (first | exact Mine.Internal.UpdI.head | refine' Mine.Internal.UpdI.tail ?_)) (by k_dflt (k_extra "pos")) (by exact rfl))
      k_with "all" => exact Mine.Internal.Ks.ne_all (by with_reducible assumption) (by first | exact .inr (by k_extra "slt") | exact .inl (by k_extra "slt"))
      k_with "ne" => (refine neN ?_; first | exact Mine.Internal.Srt.ne (by with_reducible assumption) (by with_reducible solve_by_elim (maxDepth := 40) only [Mine.Internal.Apart.l, Mine.Internal.Apart.r, Mine.Internal.Apart.t, List.Mem.head, List.Mem.tail]) | ((try dsimp only); omega))
      k_with "lt" => (intro h9l; first | ((with_reducible rename Mine.Internal.Srt _ => S8); (first | (have S9 := Mine.Internal.Srt.grow S8 (h9l (_, _) (by k_dflt k_mem)); clear S8) | (have S9 := Mine.Internal.Srt.grow S8.tl (h9l (_, _) (by k_dflt k_mem)); clear S8) | (have S9 := Mine.Internal.Srt.grow S8.tl.tl (h9l (_, _) (by k_dflt k_mem)); clear S8)); clear h9l) | (replace h9l := allLt_of h9l; simp only [AllLt, and_true] at h9l))
      k_with "getMethod ref" => (k_here; k_dflt (first | (refine' method_inst ?k1_tinit ?k2_tinit ?k3_tinit ?k4_tinit ?k5_tinit ?k6_tinit ?k7_tinit ?_; (case k1_tinit => k_asm); (case k2_tinit => k_asm); (case k3_tinit => k_inst); (case k4_tinit => k_is); (case k5_tinit => k_is); (case k6_tinit => k_is); (case k7_tinit => k_get); k_whole) | (refine' kmu_own ?k1_tinit ?k2_tinit ?k3_tinit ?k4_tinit ?k5_tinit ?_; (case k1_tinit => k_asm); (case k2_tinit => k_asm); (case k3_tinit => k_inst); (case k4_tinit => k_is); (case k5_tinit => k_is); k_whole)))
      k_with "getMethod ref" => (k_here; (with_reducible show wpAny _ _ (getMethod (Value.ref _) (PySem.Str.ofString "append") _) _ _ _); k_dflt (refine' kl_method ?N_tinit ?m_tinit slot_list_append type_list_append ?_; (case N_tinit => k_asm); (case m_tinit => k_mem); k_whole))
      k_with "execs cons" => (k_here; (with_reducible show wpAny _ _ _ _ _ (Shared.mk _ _ _ (_ + _) _)); (refine Mine.Internal.gentoks ?_); intro tkg9 htk9; (try dsimp only at htk9))
      k_with "size" => k_dflt (first | exact Nat.le_of_ble_eq_true rfl | ((with_reducible show Array.size (List.toArray _) ≤ PySem.sizeLine); rw [List.size_toArray, PySem.sizeLine_eq]; refine Nat.le_trans (m := 100002) ?_ (Nat.le_of_ble_eq_true rfl); first | with_reducible assumption | exact Nat.le_trans (m := 100000) (by with_reducible assumption) (Nat.le_of_ble_eq_true rfl)))
      k_with "subscriptTail Name Constant ref int" => k_extra "subscriptTail"
      k_with "tok" => (first | exact Nat.le_add_left 1 _ | with_reducible assumption | exact Nat.le_trans (Nat.le_add_left 1 _) (by with_reducible assumption))
      k_with "next" => (first | ((with_reducible refine Mine.Internal.nextS (g := gens9) (d := dr9) (o := os9) ?_); intro qk9 tkg9) | ((with_reducible refine Mine.Internal.lastS (g := gens9) (d := dr9) (o := os9) ?_); intro tkg9) | (with_reducible refine Mine.Internal.nilS ?_) | (with_reducible refine Mine.Internal.fin9 ?_) | (with_reducible refine Mine.Internal.fin0 ?_) | (with_reducible refine Mine.Internal.finS9 ?_) | (with_reducible refine Mine.Internal.finS0 ?_) | ((with_reducible refine Mine.Internal.nextU (g := gens9) (d := dr9) (o := os9) ?_ ?_); (k_extra "tok"); intro qk9 tkg9) | ((with_reducible refine Mine.Internal.lastU (g := gens9) (d := dr9) (o := os9) ?_ ?_); (k_extra "tok"); intro tkg9) | ((with_reducible refine Mine.Internal.nextZ (g := gens9) (d := dr9) (o := os9) ?_); intro qk9 tkg9) | ((with_reducible refine Mine.Internal.lastZ (g := gens9) (d := dr9) (o := os9) ?_); intro tkg9))
      k_with "execs cons" => k_extra "next"
      k_with "eval Constant int" => (with_reducible refine Mine.Internal.c_int (g := gens9) (d := dr9) (o := os9) ?_)
      k_with "eval Constant str" => (with_reducible refine Mine.Internal.c_str (g := gens9) (d := dr9) (o := os9) ?_)
      k_with "setAttr ref" => (first | (k_here; ktx_write) | (k_here; k_dflt (refine' Mine.Internal.st_attr (gs := gens9) (d := dr9) (o := os9) ?sF_tinit ?sX_tinit ?sN_tinit ?s1_tinit ?s2_tinit ?ss_tinit ?sp_tinit ?st_tinit ?sh_tinit ?sl_tinit ?se_tinit ?sU_tinit ?sz_tinit ?_; (case sF_tinit => k_asm); (case sX_tinit => k_asm); (case sN_tinit => k_asm); (case s1_tinit => k_mem); (case s2_tinit => k_mem); (case ss_tinit => k_is); (case sp_tinit => k_is); (case st_tinit => k_is); (case sh_tinit => k_is); (case sl_tinit => k_get); (case se_tinit => k_put); (case sU_tinit => k_upd); (case sz_tinit => exact Nat.le_of_ble_eq_true rfl); k_whole; intro h' F' N'; (try k_sweep))))
      k_with "storeName" => (first | (k_here; ktx_write) | (k_here; k_dflt (refine' Mine.Internal.st_name (gs := gens9) (d := dr9) (o := os9) ?tF_tinit ?tN_tinit ?_; (case tF_tinit => k_asm); (case tN_tinit => k_asm); k_whole; intro m9 h' F' N'; (try k_sweep))))
      k_with "lt2" => (intro h9l; (replace h9l := ltN h9l; (with_reducible rename Mine.Internal.Srt _ => S8); (have S9 := Mine.Internal.Srt.grow S8 h9l); clear S8; clear h9l))
      k_fill
      refine' ctr_introN (binds := [("self", .ref za), ("stream", .str src tsr), ("parser", .none)]) (fun h h' T k => T.keeps k) (fun h T => T.nolimit) ?ho_tinit ?hcd_tinit ?hD_tinit ?hb_tinit ?hl_tinit ?_ ?hc_tinit ?c1_tinit ?c2_tinit ?c3_tinit
      case ho_tinit => k_is
      case hcd_tinit => k_is
      case hD_tinit => decide
      case hb_tinit => (intro s X; (try (rcases hargs with ⟨rfl, rfl, rfl⟩ | ⟨rfl, rfl⟩)); all_goals (first | exact BindsTo.of_eq rfl | exact binds_K X rfl (by k_is) rfl rfl rfl))
      case hl_tinit => exact locs rfl
      case hc_tinit => decide
      case c1_tinit => exact rfl
      case c2_tinit => exact rfl
      case c3_tinit => exact rfl
      intro A base g env outer L' h₁ hs9 gens9 dr9 t09 os9 tk B' F' X' N' T' l1
      intro e9 A9 q9
      (try clear l1)
      (try dsimp only at N')
      first | have S0 := Mine.Internal.Srt.eight ho hk hat | have S0 := Mine.Internal.Srt.grow (Mine.Internal.Srt.six ho) hoq | have S0 := Mine.Internal.Srt.five ho hk | have S0 := Mine.Internal.Srt.six ho | have S0 := Mine.Internal.Srt.two ho | have S0 := Mine.Internal.Srt.two hk | skip

      k_steps
      refine' cendF (fr := [(?q_st_tinit, instObj 166 ?q_sd_tinit), (?q_sd_tinit, dictOf (sdict w.params ?q_k0_tinit ?q_k1_tinit ?q_k2_tinit ?q_k3_tinit ?q_k4_tinit ?q_k5_tinit ?q_k6_tinit ?q_k7_tinit ?q_k8_tinit ?q_k9_tinit ?q_rce_tinit ?q_nl_tinit ?q_ds_tinit ?q_chunk_tinit ?q_tc_tinit ?q_size_tinit ?q_ts_tinit ?q_off_tinit ?q_to_tinit ?q_er_tinit ?q_pl_tinit ?q_tl_tinit ?q_pc_tinit ?q_tp_tinit ?q_buf_tinit) 10), (?q_ds_tinit, instObj 73 ?q_dd_tinit), (?q_dd_tinit, dictOf (tdict w.params ?q_j0_tinit ?q_j1_tinit src tsr ?q_place_tinit ?q_tpl_tinit) 2), (?q_rce_tinit, methodObj (.ref 148) (.ref ?q_st_tinit)), (?q_er_tinit, W.listOf [].toArray ?q_n_tinit)]) (l := [(za, instObj 762 zd), (zd, ?zo_tinit)]) ?F_tinit ?N_tinit (Mine.Internal.Take.sub ?tk_tinit) ?hf_tinit ?P_tinit
      case F_tinit => assumption
      case N_tinit => assumption
      case tk_tinit => (k_extra "take")
      case hf_tinit => (simp only [List.forall_mem_cons, List.not_mem_nil, false_implies, implies_true, and_true, true_and]; (repeat' (refine And.intro ?_ ?_)); all_goals k_ne)
      case P_tinit =>
        refine' ⟨rfl, _, rfl, Mine.Internal.TinitP.mk _ _ _ _ _ _ _ _ _ _ _ _ _ _ _ _ _ _ _ ⟨_, _, _, _, _, _, _, _, _, _, _, [], _, _, [], _⟩ _ _ _ _ _ _ _ _ _ _ _ _ _ ?ord_tinit ?ok_tinit ?rem_tinit⟩
        case ord_tinit => (refine ⟨?_, ?_, ?_, ?_, ?_⟩ <;> first | exact (by k_extra "slt") | omega)
        case ok_tinit => exact Mine.Internal.ok_start hs hsu
        case rem_tinit => exact Mine.Internal.rem_start hs
  have call_char {w : World} {loose : List Str} {mean : ExcName → Option Value} {mg mb : Str → Option Value} {K : Ks} {x : St} {A A₀ : Around} {base h₀ : Heap} {env : Env} {outer : List Env} {L : Addr} {m : Str → Option Value} {s : Shared} {Q E : Value → Shared → Prop} {N rest : Led} (ho : K.ord) (ok : x.ok K.src) (B : Below A₀ base outer h₀) (F : Fr h₀ L s.heap m) (X : (main.heap_1_39 w.params).In h₀) (T : (Top main.view_1_40 loose mean mg mb) h₀) (hA : A.frames = some (env :: outer)) (hf : env.frame = some L) (hke : env.scope.kind = .function) (hh : A.handled = none) (hdd : A.depth ≤ 460) (hu : A.units ≤ 600) (Nw : News h₀ L s.heap N) (tk : Take (K.led w x) N rest) (hne : Outs K rest)
      (hQ : ∀ (x' : St) (v : Value) (h' : Heap) (tk' : Nat), x'.ok K.src → CvIs K.src x' v (x.rem K.src) → @LE.le Nat _ s.toks tk' → Fr h₀ L h' m → News h₀ L h' (rest ++ K.led w x') → Q v { s with heap := h', toks := tk' }) :
      wpAny (model PySem.Challenge.rw_te0076_01.row.prog w) A (PySem.call (.ref 133) [.ref K.st] []) Q E s := by
    as_aux_lemma =>
      clear ctr_is_invalid ctr_charErrors ctr_read ctr_readE ctr_position0 ctr_unget ctr_ungetN ctr_ungetS ctr_readN ctr_readC ctr_readA ctr_until ctr_tinit
      have C : CtrC PySem.Challenge.rw_te0076_01.row.prog w (main.heap_1_39 w.params) (Top main.view_1_40 loose mean mg mb) 460 600 (.ref 133) ⟨[.ref K.st], []⟩ (K.led w x) (noF fun v l => ∃ x' : St, x'.ok K.src ∧ CvIs K.src x' v (x.rem K.src) ∧ l = K.led w x') := by
        simp only [Ks.led_eq]
        exact ctr_char (x := x) ho ok
      refine CtrC.call C A A₀ base h₀ env outer L m s Q E rest B F X (tk.news Nw) T hA hf hke hh hdd hu (hne.ne ho) ?_
      intro v fr l' h' tk' hp ht _ F' N'
      obtain ⟨rfl, x', ok', hx', rfl⟩ := hp
      exact hQ x' v h' tk' ok' hx' ht F' (fun p hp => N' p (by (try rw [List.nil_append]); exact (List.mem_append.mp hp).elim (List.mem_append_right _) (List.mem_append_left _)))
  have call_unget {w : World} {loose : List Str} {mean : ExcName → Option Value} {mg mb : Str → Option Value} {K : Ks} {x : St} {c : Nat} {t0 : Tok} {A A₀ : Around} {base h₀ : Heap} {env : Env} {outer : List Env} {L : Addr} {m : Str → Option Value} {s : Shared} {Q E : Value → Shared → Prop} {N rest : Led} (ho : K.ord) (ok : x.ok K.src) (h1 : 1 ≤ x.off) (hc : x.chunk.cps[(x.off - 1).toNat]? = some c) (B : Below A₀ base outer h₀) (F : Fr h₀ L s.heap m) (X : (main.heap_1_39 w.params).In h₀) (T : (Top main.view_1_40 loose mean mg mb) h₀) (hA : A.frames = some (env :: outer)) (hf : env.frame = some L) (hke : env.scope.kind = .function) (hh : A.handled = none) (hdd : A.depth ≤ 460) (hu : A.units ≤ 600) (Nw : News h₀ L s.heap N) (tk : Take (K.led w x) N rest) (hne : Outs K rest)
      (hQ : ∀ (x' : St) (h' : Heap) (tk' : Nat), x'.ok K.src → x'.rem K.src = c :: x.rem K.src → @LE.le Nat _ s.toks tk' → Fr h₀ L h' m → News h₀ L h' (rest ++ K.led w x') → Q .none { s with heap := h', toks := tk' }) :
      wpAny (model PySem.Challenge.rw_te0076_01.row.prog w) A (PySem.call (.ref 163) [.ref K.st, .str ⟨#[c]⟩ t0] []) Q E s := by
    as_aux_lemma =>
      clear ctr_is_invalid ctr_charErrors ctr_read ctr_readE ctr_position0 ctr_unget ctr_ungetN ctr_readN ctr_readC ctr_readA ctr_char ctr_until ctr_tinit call_char
      have C : CtrC PySem.Challenge.rw_te0076_01.row.prog w (main.heap_1_39 w.params) (Top main.view_1_40 loose mean mg mb) 460 600 (.ref 163) ⟨[.ref K.st, .str ⟨#[c]⟩ t0], []⟩ (K.led w x) (noF fun v l => v = .none ∧ ∃ x' : St, x'.ok K.src ∧ x'.rem K.src = c :: x.rem K.src ∧ l = K.led w x') := by
        simp only [Ks.led_eq]
        exact ctr_ungetS (x := x) ho ok h1 hc
      refine CtrC.call C A A₀ base h₀ env outer L m s Q E rest B F X (tk.news Nw) T hA hf hke hh hdd hu (hne.ne ho) ?_
      intro v fr l' h' tk' hp ht _ F' N'
      obtain ⟨rfl, rfl, x', ok', hx', rfl⟩ := hp
      exact hQ x' h' tk' ok' hx' ht F' (fun p hp => N' p (by (try rw [List.nil_append]); exact (List.mem_append.mp hp).elim (List.mem_append_right _) (List.mem_append_left _)))
  have call_ungetN {w : World} {loose : List Str} {mean : ExcName → Option Value} {mg mb : Str → Option Value} {st : Addr} {A A₀ : Around} {base h₀ : Heap} {env : Env} {outer : List Env} {L : Addr} {m : Str → Option Value} {s : Shared} {Q E : Value → Shared → Prop} {N : Led} (B : Below A₀ base outer h₀) (F : Fr h₀ L s.heap m) (X : (main.heap_1_39 w.params).In h₀) (T : (Top main.view_1_40 loose mean mg mb) h₀) (hA : A.frames = some (env :: outer)) (hf : env.frame = some L) (hke : env.scope.kind = .function) (hh : A.handled = none) (hdd : A.depth ≤ 460) (hu : A.units ≤ 600) (Nw : News h₀ L s.heap N)
      (hQ : ∀ (h' : Heap) (tk' : Nat), @LE.le Nat _ s.toks tk' → Fr h₀ L h' m → News h₀ L h' N → Q .none { s with heap := h', toks := tk' }) :
      wpAny (model PySem.Challenge.rw_te0076_01.row.prog w) A (PySem.call (.ref 163) [.ref st, .none] []) Q E s := by
    as_aux_lemma =>
      clear ctr_is_invalid ctr_charErrors ctr_read ctr_readE ctr_position0 ctr_unget ctr_ungetS ctr_readN ctr_readC ctr_readA ctr_char ctr_until ctr_tinit call_char call_unget
      refine CtrC.call ctr_ungetN A A₀ base h₀ env outer L m s Q E N B F X Nw T hA hf hke hh hdd hu (fun _ _ => List.forall_mem_nil _) ?_
      intro v fr l' h' tk' hp ht _ F' N'
      obtain ⟨rfl, rfl, rfl⟩ := hp
      exact hQ h' tk' ht F' N'
  have call_until {w : World} {loose : List Str} {mean : ExcName → Option Value} {mg mb : Str → Option Value} {K : Ks} {x : St} {q : Addr} {vs0 : List Value} {ys0 : List Str} {al : Nat → Bool} {A A₀ : Around} {base h₀ : Heap} {env : Env} {outer : List Env} {L : Addr} {m : Str → Option Value} {s : Shared} {Q E : Value → Shared → Prop} {N rest : Led} (ho : K.ord) (hoq : @LT.lt Nat _ K.er q) (ok : x.ok K.src) (hvs0 : StrsAre vs0 ys0) (hal0 : ∀ c : Nat, ys0.any (· == ⟨#[c]⟩) = al c) (B : Below A₀ base outer h₀) (F : Fr h₀ L s.heap m) (X : (main.heap_1_39 w.params).In h₀) (T : (Top main.view_1_40 loose mean mg mb) h₀) (hA : A.frames = some (env :: outer)) (hf : env.frame = some L) (hke : env.scope.kind = .function) (hh : A.handled = none) (hdd : A.depth ≤ 460) (hu : A.units ≤ 600) (Nw : News h₀ L s.heap N)
      (tk : Take ((q, tupO vs0) :: K.led w x) N rest) (hne : Outs K rest) (hnq : ∀ p ∈ rest, @LT.lt Nat _ p.1 q)
      (hQ : ∀ (x' : St) (p : List Nat) (t : Tok) (h' : Heap) (tk' : Nat), x'.ok K.src → x.rem K.src = p ++ x'.rem K.src → (∀ c ∈ p, al c = false) → (∀ c t, x'.rem K.src = c :: t → al c = true) → @LE.le Nat _ s.toks tk' → Fr h₀ L h' m → News h₀ L h' (rest ++ K.led w x') → Q (.str ⟨p.toArray⟩ t) { s with heap := h', toks := tk' }) :
      wpAny (model PySem.Challenge.rw_te0076_01.row.prog w) A (PySem.call (.ref 156) [.ref K.st, .ref q] []) Q E s := by
    as_aux_lemma =>
      clear ctr_is_invalid ctr_charErrors ctr_read ctr_readE ctr_position0 ctr_unget ctr_ungetN ctr_ungetS ctr_readN ctr_readC ctr_readA ctr_char ctr_tinit call_char call_unget call_ungetN
      have C : CtrC PySem.Challenge.rw_te0076_01.row.prog w (main.heap_1_39 w.params) (Top main.view_1_40 loose mean mg mb) 460 600 (.ref 156) ⟨[.ref K.st, .ref q], []⟩ (K.led w x ++ [(q, tupO vs0)]) (noF fun v l => ∃ (x' : St) (p : List Nat) (t : Tok), x'.ok K.src ∧ v = .str ⟨p.toArray⟩ t ∧ x.rem K.src = p ++ x'.rem K.src ∧ (∀ c ∈ p, al c = false) ∧ (∀ c t, x'.rem K.src = c :: t → al c = true) ∧ l = K.led w x' ++ [(q, tupO vs0)]) := by
        simp only [Ks.led_eq, List.cons_append, List.nil_append]
        exact ctr_until (x := x) ho hoq ok hvs0 hal0
      refine CtrC.call C A A₀ base h₀ env outer L m s Q E rest B F X (fun p hp => tk.news Nw p ?_) T hA hf hke hh hdd hu ?_ ?_
      · simp only [List.mem_append, List.mem_cons, List.not_mem_nil, or_false] at hp ⊢
        rcases hp with (h | h) | h
        · exact .inl (.inr h)
        · exact .inl (.inl h)
        · exact .inr h
      · intro p hp z hz
        rcases List.mem_append.mp hz with hz | hz
        · exact hne.ne ho p hp z hz
        · cases List.mem_singleton.mp hz
          exact Nat.ne_of_lt (hnq p hp)
      intro v fr l' h' tk' hp ht _ F' N'
      obtain ⟨rfl, x', y, t, ok', rfl, hr, ha, hs, rfl⟩ := hp
      refine hQ x' y t h' tk' ok' hr ha hs ht F' (fun p hp => N' p ?_)
      simp only [List.nil_append, List.mem_append] at hp ⊢
      rcases hp with h | h
      · exact .inr h
      · exact .inl (.inl h)
  have call_tok {w : World} {loose : List Str} {mean : ExcName → Option Value} {mg mb : Str → Option Value} {src : Str} {tsr : Tok} {A A₀ : Around} {base h₀ : Heap} {env : Env} {outer : List Env} {L : Addr} {m : Str → Option Value} {s : Shared} {Q E : Value → Shared → Prop} {N : Led} (hs : src.length ≤ 10000) (hsu : ∀ c ∈ src.cps.toList, c < 55296) (B : Below A₀ base outer h₀) (F : Fr h₀ L s.heap m) (X : (main.heap_1_39 w.params).In h₀) (T : (Top main.view_1_40 loose mean mg mb) h₀) (hA : A.frames = some (env :: outer)) (hf : env.frame = some L) (hke : env.scope.kind = .function) (hh : A.handled = none) (hdd : A.depth ≤ 479) (hu : A.units ≤ 791) (Nw : News h₀ L s.heap N)
      (hQ : ∀ (K : Ks) (Z : Kz) (x : St) (h' : Heap) (tk' : Nat), K.ord → @LT.lt Nat _ Z.zd Z.za ∧ @LT.lt Nat _ Z.za K.sd → (∀ p ∈ N, @LT.lt Nat _ p.1 Z.zd) → K.src = src → x.ok K.src → x.rem K.src = mendL src.cps.toList → @LE.le Nat _ s.toks tk' → Fr h₀ L h' m →
        News h₀ L h' ((Z.za, instObj 762 Z.zd) :: (Z.zd, Z.kd7 w K.st) :: (N ++ K.led w x)) → Q (.ref Z.za) { s with heap := h', toks := tk' }) :
      wpAny (model PySem.Challenge.rw_te0076_01.row.prog w) A (PySem.call (.ref 762) [.str src tsr] []) Q E s := by
    as_aux_lemma =>
      clear ctr_is_invalid ctr_charErrors ctr_read ctr_readE ctr_position0 ctr_unget ctr_ungetN ctr_ungetS ctr_readN ctr_readC ctr_readA ctr_char ctr_until call_char call_unget call_ungetN call_until
      have C : Ctr PySem.Challenge.rw_te0076_01.row.prog w (main.heap_1_39 w.params) (Top main.view_1_40 loose mean mg mb) 479 791 (PySem.call (.ref 762) [.str src tsr] []) [] (ClsP 762 (TinitP w src tsr)) := by
        k_fill
        exact CtrC.cls (fI := 261) (by k_is) (by k_is) (by k_is) (fun x9 d9 l9 => ctr_tinit l9 hs hsu)
      refine C A A₀ base h₀ env outer L m s Q E N B F X Nw T hA hf hke hh hdd hu (fun _ _ => List.forall_mem_nil _) ?_
      intro v fr l' h' tk' hp ht hfr F' N'
      obtain ⟨rfl, za, zd, d, fq, hzd, hfz, rfl, rfl, st, sd, k0, k1, k2, k3, k4, k5, k6, k7, k8, k9, rce, nl, ds, er, dd, j0, j1, x, m0, m1, m2, m3, m4, m5, m6, v1, v2, v3, v4, v5, v6, ho, ok, hrem⟩ := hp
      refine hQ ⟨st, sd, k0, k1, k2, k3, k4, k5, k6, k7, k8, k9, rce, nl, ds, er, dd, j0, j1, src, tsr⟩ ⟨za, zd, m0, m1, m2, m3, m4, m5, m6, v1, v2, v3, v4, v5, v6⟩ x h' tk' ho ⟨hzd, hfz (sd, _) (.tail _ (.head _))⟩ (fun p hp => hfr (zd, _) (List.mem_append_right _ (.tail _ (.head _))) p (by simpa using hp)) rfl ok hrem ht F' (fun p hp => N' p ?_)
      simp only [Ks.led_eq, List.mem_append, List.mem_cons, List.not_mem_nil, or_false] at hp ⊢
      rcases hp with h | h | h | h
      · exact .inl (.inr (.inl h))
      · exact .inl (.inr (.inr h))
      · exact .inr h
      · exact .inl (.inl h)
  have ctr_bisect {w : World} {loose : List Str} {mean : ExcName → Option Value} {mg mb : Str → Option Value} {p : Str} {lo hi : Int} {tp t1 t2 : Tok} (hb : Bis p lo hi) :
      CtrC PySem.Challenge.rw_te0076_01.row.prog w (main.heap_1_39 w.params) (Top main.view_1_40 loose mean mg mb) 470 700 (.ref 178) ⟨[.ref 243, .str p tp, .int lo t1, .int hi t2], []⟩ [] (noF fun v l => ∃ (k : Int) (t : Tok), v = .int k t ∧ Bis p k k ∧ l = []) := by
    as_aux_lemma =>
      clear ctr_is_invalid ctr_charErrors ctr_read ctr_readE ctr_position0 ctr_unget ctr_ungetN ctr_ungetS ctr_readN ctr_readC ctr_readA ctr_char ctr_until ctr_tinit call_char call_unget call_ungetN call_until call_tok
      k_with_none
      k_with "pos" => (repeat' (first | exact Mine.Internal.PosL.nil | (apply Mine.Internal.PosL.cons 0; exact rfl) | (apply Mine.Internal.PosL.cons 1; exact rfl) | (apply Mine.Internal.PosL.cons 2; exact rfl) | (apply Mine.Internal.PosL.cons 3; exact rfl) | (apply Mine.Internal.PosL.cons 4; exact rfl) | (apply Mine.Internal.PosL.cons 5; exact rfl) | (apply Mine.Internal.PosL.cons 6; exact rfl) | (apply Mine.Internal.PosL.cons 7; exact rfl) | (apply Mine.Internal.PosL.cons 8; exact rfl) | (apply Mine.Internal.PosL.cons 9; exact rfl) | (apply Mine.Internal.PosL.cons 10; exact rfl) | (apply Mine.Internal.PosL.cons 11; exact rfl) | (apply Mine.Internal.PosL.cons 12; exact rfl) | (apply Mine.Internal.PosL.cons 13; exact rfl) | (apply Mine.Internal.PosL.cons 14; exact rfl) | (apply Mine.Internal.PosL.cons 15; exact rfl) | (apply Mine.Internal.PosL.cons 16; exact rfl) | (apply Mine.Internal.PosL.cons 17; exact rfl) | (apply Mine.Internal.PosL.cons 18; exact rfl) | (apply Mine.Internal.PosL.cons 19; exact rfl) | (apply Mine.Internal.PosL.cons 20; exact rfl) | (apply Mine.Internal.PosL.cons 21; exact rfl) | (apply Mine.Internal.PosL.cons 22; exact rfl) | (apply Mine.Internal.PosL.cons 23; exact rfl)))
      k_with "slt" => exact Mine.Internal.Srt.lt (by with_reducible assumption) (by ((repeat (first | (with_reducible_and_instances refine Mine.Internal.Aft.here ?_; (repeat (first | with_reducible_and_instances exact List.Mem.head _ | with_reducible_and_instances refine List.Mem.tail _ ?_)); done) | with_reducible refine Mine.Internal.Aft.there ?_)); all_goals fail))
      k_with "upd" => (exact Mine.Internal.Srt.updP (by with_reducible assumption) (by repeat' (first | exact Mine.Internal.UpdI.head | refine' Mine.Internal.UpdI.tail ?_)) (by k_dflt (k_extra "pos")) (by exact rfl))
      k_with "all" => exact Mine.Internal.Ks.ne_all (by with_reducible assumption) (by first | exact .inr (by k_extra "slt") | exact .inl (by k_extra "slt"))
      k_with "ne" => (refine neN ?_; first | exact Mine.Internal.Srt.ne (by with_reducible assumption) (by with_reducible solve_by_elim (maxDepth := 40) only [Mine.Internal.Apart.l, Mine.Internal.Apart.r, Mine.Internal.Apart.t, List.Mem.head, List.Mem.tail]) | ((try dsimp only); omega))
      k_with "lt" => (intro h9l; first | ((with_reducible rename Mine.Internal.Srt _ => S8); (first | (have S9 := Mine.Internal.Srt.grow S8 (h9l (_, _) (by k_dflt k_mem)); clear S8) | (have S9 := Mine.Internal.Srt.grow S8.tl (h9l (_, _) (by k_dflt k_mem)); clear S8) | (have S9 := Mine.Internal.Srt.grow S8.tl.tl (h9l (_, _) (by k_dflt k_mem)); clear S8)); clear h9l) | (replace h9l := allLt_of h9l; simp only [AllLt, and_true] at h9l))
      k_with "subscriptTail" => (k_here; (with_reducible show wpAny _ _ (subscriptTail _ _ (Value.str _ _) (Value.int _ _)) _ _ _); (refine Mine.Internal.sub_chr (by omega) (by omega) (by assumption) ?_))
      k_with "execs cons" => (k_here; (with_reducible show wpAny _ _ _ _ _ (Shared.mk _ _ _ (_ + _) _)); (refine Mine.Internal.gentoks ?_); intro tkg9 htk9; (try dsimp only at htk9))
      k_with "exec If" => ((with_reducible show wpAny _ _ _ _ _ _); k_fold)
      k_with "exec While" => ((with_reducible show wpAny _ _ _ _ _ _); k_fold)
      k_with "size" => k_dflt (first | exact Nat.le_of_ble_eq_true rfl | ((with_reducible show Array.size (List.toArray _) ≤ PySem.sizeLine); rw [List.size_toArray, PySem.sizeLine_eq]; refine Nat.le_trans (m := 100002) ?_ (Nat.le_of_ble_eq_true rfl); first | with_reducible assumption | exact Nat.le_trans (m := 100000) (by with_reducible assumption) (Nat.le_of_ble_eq_true rfl)))
      k_with "subscriptTail Name Constant ref int" => k_extra "subscriptTail"
      k_with "tok" => (first | exact Nat.le_add_left 1 _ | with_reducible assumption | exact Nat.le_trans (Nat.le_add_left 1 _) (by with_reducible assumption))
      k_with "next" => (first | ((with_reducible refine Mine.Internal.nextS (g := gens9) (d := dr9) (o := os9) ?_); intro qk9 tkg9) | ((with_reducible refine Mine.Internal.lastS (g := gens9) (d := dr9) (o := os9) ?_); intro tkg9) | (with_reducible refine Mine.Internal.nilS ?_) | (with_reducible refine Mine.Internal.fin9 ?_) | (with_reducible refine Mine.Internal.fin0 ?_) | (with_reducible refine Mine.Internal.finS9 ?_) | (with_reducible refine Mine.Internal.finS0 ?_) | ((with_reducible refine Mine.Internal.nextU (g := gens9) (d := dr9) (o := os9) ?_ ?_); (k_extra "tok"); intro qk9 tkg9) | ((with_reducible refine Mine.Internal.lastU (g := gens9) (d := dr9) (o := os9) ?_ ?_); (k_extra "tok"); intro tkg9) | ((with_reducible refine Mine.Internal.nextZ (g := gens9) (d := dr9) (o := os9) ?_); intro qk9 tkg9) | ((with_reducible refine Mine.Internal.lastZ (g := gens9) (d := dr9) (o := os9) ?_); intro tkg9))
      k_with "subscriptTail" => (first | ((fail_if_success (with_reducible show wpAny _ _ (subscriptTail _ (Expr.Slice _ _ _ _) _ _) _ _ _)); dsimp only) | ((with_reducible show wpAny _ _ (subscriptTail _ _ (Value.ref _) (Value.str (PySem.Str.ofString "data") _)) _ _ _); k_here; k_dflt (refine kdt_tail (knd := PySem.strKind _ _) (by k_asm) (by k_mem) (by k_asm) ?_)) | ((with_reducible show wpAny _ _ (subscriptTail (Expr.Subscript _ _ _) (Expr.UnaryOp _ _ _) (Value.ref _) (Value.int _ _)) _ _ _); k_here; k_dflt (refine' Mine.Internal.item_lastT ?iN_bisect ?im_bisect ?ik_bisect ?_; (case iN_bisect => k_asm); (case im_bisect => k_mem); (case ik_bisect => rfl); k_whole)))
      k_with "execs cons" => k_extra "next"
      k_with "execs nil" => (with_reducible refine Mine.Internal.nilS ?_)
      k_with "eval Constant int" => (with_reducible refine Mine.Internal.c_int (g := gens9) (d := dr9) (o := os9) ?_)
      k_with "storeName" => (first | (k_here; ktx_write) | (k_here; k_dflt (refine' Mine.Internal.st_name (gs := gens9) (d := dr9) (o := os9) ?tF_bisect ?tN_bisect ?_; (case tF_bisect => k_asm); (case tN_bisect => k_asm); k_whole; intro m9 h' F' N'; (try k_sweep))))
      k_with "call ref" => refine Mine.Internal.hold ?_
      k_with "subscriptTail" => (k_here; (with_reducible show wpAny _ _ (subscriptTail _ _ (Value.ref 243) (Value.int _ _)) _ _ _); k_dflt (refine' Mine.Internal.item_keys ?iF_bisect ?iX_bisect ?ik_bisect ?i0_bisect ?i1_bisect ?iq_bisect; (case iF_bisect => k_asm); (case iX_bisect => k_asm); (case ik_bisect => kernel_rfl); (case i0_bisect => omega); (case i1_bisect => omega); (case' iq_bisect => intro t9); (try k_fold)))
      k_fill
      refine' ctr_introN (binds := [("rows", .ref 243), ("key", .str p tp), ("low", .int lo t1), ("high", .int hi t2)]) (fun h h' T k => T.keeps k) (fun h T => T.nolimit) ?ho_bisect ?hcd_bisect ?hD_bisect ?hb_bisect ?hl_bisect ?_ ?hc_bisect ?c1_bisect ?c2_bisect ?c3_bisect
      case ho_bisect => k_is
      case hcd_bisect => k_is
      case hD_bisect => decide
      case hb_bisect => (intro s X; (try (rcases hargs with ⟨rfl, rfl, rfl⟩ | ⟨rfl, rfl⟩)); all_goals (first | exact BindsTo.of_eq rfl | exact binds_K X rfl (by k_is) rfl rfl rfl))
      case hl_bisect => exact locs rfl
      case hc_bisect => decide
      case c1_bisect => exact rfl
      case c2_bisect => exact rfl
      case c3_bisect => exact rfl
      intro A base g env outer L' h₁ hs9 gens9 dr9 t09 os9 tk B' F' X' N' T' l1
      intro e9 A9 q9
      (try clear l1)
      (try dsimp only at N')
      first | have S0 := Mine.Internal.Srt.eight ho hk hat | have S0 := Mine.Internal.Srt.grow (Mine.Internal.Srt.six ho) hoq | have S0 := Mine.Internal.Srt.five ho hk | have S0 := Mine.Internal.Srt.six ho | have S0 := Mine.Internal.Srt.two ho | have S0 := Mine.Internal.Srt.two hk | skip

      k_with "exec While" => k_dflt ((with_reducible rename Fr _ _ _ _ => F0); (with_reducible rename News _ _ _ _ => N0); (refine' ksw_meet (σ := Int × Tok × Int × Tok) (fun _ => []) (fun c => [("low", .int c.1 c.2.1), ("high", .int c.2.2.1 c.2.2.2)]) ["middle"] (fun c => Bis p c.1 c.2.2.1) (fun c => Bis p c.1 c.1) (fun c => (c.2.2.1 - c.1).toNat) (lo, _, hi, _) F0 N0 ?kk_bisect hb ?hq_bisect ?turn_bisect); (case kk_bisect => (intro p hp; (simp only [List.mem_cons, List.not_mem_nil, or_false] at hp); rcases hp with hp | hp <;> subst hp <;> rfl)); (case' hq_bisect => (intro c u hh tk2 hi Ft Nt; (try clear F0 N0); obtain ⟨lo9, tl, hi9, th⟩ := c; (dsimp only at hi Ft Nt))); (case' turn_bisect => (intro c u hh tk2 hi Ft Nt; (try clear F0 N0); obtain ⟨lo9, tl, hi9, th⟩ := c; (dsimp only at hi Ft Nt); have hb0 := hi.lo0; have hb1 := hi.hi1; have hb2 := hi.le)))
      k_with "KswEnd" => k_dflt ((with_reducible rename Fr _ _ _ _ => F9); (with_reducible rename News _ _ _ _ => N9); (have hm9 := hi.mid (by with_reducible assumption)); first | ((refine' ksw_end (σ := Int × Tok × Int × Tok) ((lo9 + hi9).fdiv 2 + 1, _, hi9, th) F9 N9 (fun _ h => nomatch h) trivial ?bk1_bisect ?br1_bisect (hi.up' hm9.1 hm9.2 (by with_reducible assumption) (by rfl)) ?bm1_bisect); (case bk1_bisect => (intro p hp; (simp only [List.mem_cons, List.not_mem_nil, or_false] at hp); rcases hp with hp | hp <;> subst hp <;> rfl)); (case br1_bisect => (intro z9 hz9 hz8; have hz1 := hz9 _ (List.mem_cons_self ..); have hz2 := hz9 _ (List.mem_cons_of_mem _ (List.mem_cons_self ..)); (dsimp only at hz1 hz2); have hz7 : z9 ≠ Str.ofString "middle" := (by intro e9; subst e9; simp at hz8); simp (zetaDelta := true) [hz1, hz2, hz7, kstB])); (case bm1_bisect => (dsimp only; omega))) | ((refine' ksw_end (σ := Int × Tok × Int × Tok) (lo9, tl, (lo9 + hi9).fdiv 2, _) F9 N9 (fun _ h => nomatch h) trivial ?bk2_bisect ?br2_bisect (hi.down' hm9.1 hm9.2 (by with_reducible assumption) (by rfl)) ?bm2_bisect); (case bk2_bisect => (intro p hp; (simp only [List.mem_cons, List.not_mem_nil, or_false] at hp); rcases hp with hp | hp <;> subst hp <;> rfl)); (case br2_bisect => (intro z9 hz9 hz8; have hz1 := hz9 _ (List.mem_cons_self ..); have hz2 := hz9 _ (List.mem_cons_of_mem _ (List.mem_cons_self ..)); (dsimp only at hz1 hz2); have hz7 : z9 ≠ Str.ofString "middle" := (by intro e9; subst e9; simp at hz8); simp (zetaDelta := true) [hz1, hz2, hz7, kstB])); (case bm2_bisect => (dsimp only; omega))) | (refine Mine.Internal.hold ?_))
      k_with "MeetW" => k_dflt (exact meetW_end (σ := Int × Tok × Int × Tok) (lo9, tl, hi9, th) u Ft Nt (fun _ h => h) (by (have e9 : lo9 = hi9 := by omega); subst e9; exact hi))
      k_steps
      all_goals (try dsimp only)
      all_goals (refine cend (l := []) (by assumption) (by assumption) (fun _ h => nomatch h) ⟨_, _, rfl, hi, rfl⟩)
  have ctr_haskeys {w : World} {loose : List Str} {mean : ExcName → Option Value} {mg mb : Str → Option Value} {p : Str} {tp : Tok} :
      CtrC PySem.Challenge.rw_te0076_01.row.prog w (main.heap_1_39 w.params) (Top main.view_1_40 loose mean mg mb) 460 600 (.ref 220) ⟨[.ref 236, .str p tp], []⟩ [] (noF fun v l => v = .bool (hasPre p) ∧ l = []) := by
    as_aux_lemma =>
      clear ctr_is_invalid ctr_charErrors ctr_read ctr_readE ctr_position0 ctr_unget ctr_ungetN ctr_ungetS ctr_readN ctr_readC ctr_readA ctr_char ctr_until ctr_tinit call_char call_unget call_ungetN call_until call_tok
      k_with_none
      k_with "pos" => (repeat' (first | exact Mine.Internal.PosL.nil | (apply Mine.Internal.PosL.cons 0; exact rfl) | (apply Mine.Internal.PosL.cons 1; exact rfl) | (apply Mine.Internal.PosL.cons 2; exact rfl) | (apply Mine.Internal.PosL.cons 3; exact rfl) | (apply Mine.Internal.PosL.cons 4; exact rfl) | (apply Mine.Internal.PosL.cons 5; exact rfl) | (apply Mine.Internal.PosL.cons 6; exact rfl) | (apply Mine.Internal.PosL.cons 7; exact rfl) | (apply Mine.Internal.PosL.cons 8; exact rfl) | (apply Mine.Internal.PosL.cons 9; exact rfl) | (apply Mine.Internal.PosL.cons 10; exact rfl) | (apply Mine.Internal.PosL.cons 11; exact rfl) | (apply Mine.Internal.PosL.cons 12; exact rfl) | (apply Mine.Internal.PosL.cons 13; exact rfl) | (apply Mine.Internal.PosL.cons 14; exact rfl) | (apply Mine.Internal.PosL.cons 15; exact rfl) | (apply Mine.Internal.PosL.cons 16; exact rfl) | (apply Mine.Internal.PosL.cons 17; exact rfl) | (apply Mine.Internal.PosL.cons 18; exact rfl) | (apply Mine.Internal.PosL.cons 19; exact rfl) | (apply Mine.Internal.PosL.cons 20; exact rfl) | (apply Mine.Internal.PosL.cons 21; exact rfl) | (apply Mine.Internal.PosL.cons 22; exact rfl) | (apply Mine.Internal.PosL.cons 23; exact rfl)))
      k_with "slt" => exact Mine.Internal.Srt.lt (by with_reducible assumption) (by ((repeat (first | (with_reducible_and_instances refine Mine.Internal.Aft.here ?_; (repeat (first | with_reducible_and_instances exact List.Mem.head _ | with_reducible_and_instances refine List.Mem.tail _ ?_)); done) | with_reducible refine Mine.Internal.Aft.there ?_)); all_goals fail))
      k_with "upd" => (exact Mine.Internal.Srt.updP (by with_reducible assumption) (by repeat' (first | exact Mine.Internal.UpdI.head | refine' Mine.Internal.UpdI.tail ?_)) (by k_dflt (k_extra "pos")) (by exact rfl))
      k_with "all" => exact Mine.Internal.Ks.ne_all (by with_reducible assumption) (by first | exact .inr (by k_extra "slt") | exact .inl (by k_extra "slt"))
      k_with "ne" => (refine neN ?_; first | exact Mine.Internal.Srt.ne (by with_reducible assumption) (by with_reducible solve_by_elim (maxDepth := 40) only [Mine.Internal.Apart.l, Mine.Internal.Apart.r, Mine.Internal.Apart.t, List.Mem.head, List.Mem.tail]) | ((try dsimp only); omega))
      k_with "lt" => (intro h9l; first | ((with_reducible rename Mine.Internal.Srt _ => S8); (first | (have S9 := Mine.Internal.Srt.grow S8 (h9l (_, _) (by k_dflt k_mem)); clear S8) | (have S9 := Mine.Internal.Srt.grow S8.tl (h9l (_, _) (by k_dflt k_mem)); clear S8) | (have S9 := Mine.Internal.Srt.grow S8.tl.tl (h9l (_, _) (by k_dflt k_mem)); clear S8)); clear h9l) | (replace h9l := allLt_of h9l; simp only [AllLt, and_true] at h9l))
      k_with "subscriptTail" => (k_here; (with_reducible show wpAny _ _ (subscriptTail _ _ (Value.str _ _) (Value.int _ _)) _ _ _); (refine Mine.Internal.sub_chr (by omega) (by omega) (by assumption) ?_))
      k_with "execs cons" => (k_here; (with_reducible show wpAny _ _ _ _ _ (Shared.mk _ _ _ (_ + _) _)); (refine Mine.Internal.gentoks ?_); intro tkg9 htk9; (try dsimp only at htk9))
      k_with "size" => k_dflt (first | exact Nat.le_of_ble_eq_true rfl | ((with_reducible show Array.size (List.toArray _) ≤ PySem.sizeLine); rw [List.size_toArray, PySem.sizeLine_eq]; refine Nat.le_trans (m := 100002) ?_ (Nat.le_of_ble_eq_true rfl); first | with_reducible assumption | exact Nat.le_trans (m := 100000) (by with_reducible assumption) (Nat.le_of_ble_eq_true rfl)))
      k_with "subscriptTail Name Constant ref int" => k_extra "subscriptTail"
      k_with "tok" => (first | exact Nat.le_add_left 1 _ | with_reducible assumption | exact Nat.le_trans (Nat.le_add_left 1 _) (by with_reducible assumption))
      k_with "next" => (first | ((with_reducible refine Mine.Internal.nextS (g := gens9) (d := dr9) (o := os9) ?_); intro qk9 tkg9) | ((with_reducible refine Mine.Internal.lastS (g := gens9) (d := dr9) (o := os9) ?_); intro tkg9) | (with_reducible refine Mine.Internal.nilS ?_) | (with_reducible refine Mine.Internal.fin9 ?_) | (with_reducible refine Mine.Internal.fin0 ?_) | (with_reducible refine Mine.Internal.finS9 ?_) | (with_reducible refine Mine.Internal.finS0 ?_) | ((with_reducible refine Mine.Internal.nextU (g := gens9) (d := dr9) (o := os9) ?_ ?_); (k_extra "tok"); intro qk9 tkg9) | ((with_reducible refine Mine.Internal.lastU (g := gens9) (d := dr9) (o := os9) ?_ ?_); (k_extra "tok"); intro tkg9) | ((with_reducible refine Mine.Internal.nextZ (g := gens9) (d := dr9) (o := os9) ?_); intro qk9 tkg9) | ((with_reducible refine Mine.Internal.lastZ (g := gens9) (d := dr9) (o := os9) ?_); intro tkg9))
      k_with "subscriptTail" => (first | ((fail_if_success (with_reducible show wpAny _ _ (subscriptTail _ (Expr.Slice _ _ _ _) _ _) _ _ _)); dsimp only) | ((with_reducible show wpAny _ _ (subscriptTail _ _ (Value.ref _) (Value.str (PySem.Str.ofString "data") _)) _ _ _); k_here; k_dflt (refine kdt_tail (knd := PySem.strKind _ _) (by k_asm) (by k_mem) (by k_asm) ?_)) | ((with_reducible show wpAny _ _ (subscriptTail (Expr.Subscript _ _ _) (Expr.UnaryOp _ _ _) (Value.ref _) (Value.int _ _)) _ _ _); k_here; k_dflt (refine' Mine.Internal.item_lastT ?iN_haskeys ?im_haskeys ?ik_haskeys ?_; (case iN_haskeys => k_asm); (case im_haskeys => k_mem); (case ik_haskeys => rfl); k_whole)))
      k_with "execs cons" => k_extra "next"
      k_with "execs nil" => (with_reducible refine Mine.Internal.nilS ?_)
      k_with "storeName" => (first | (k_here; ktx_write) | (k_here; k_dflt (refine' Mine.Internal.st_name (gs := gens9) (d := dr9) (o := os9) ?tF_haskeys ?tN_haskeys ?_; (case tF_haskeys => k_asm); (case tN_haskeys => k_asm); k_whole; intro m9 h' F' N'; (try k_sweep))))
      k_with "call ref" => refine Mine.Internal.hold ?_
      k_with "call ref" => (k_here; (with_reducible show wpAny _ _ (call (Value.ref 178) _ _) _ _ _); k_dflt (refine' Mine.Internal.Ctr.useN (gs := gens9) (d := dr9) (o := os9) (Mine.Internal.CtrC.call (ctr_bisect ?p1_haskeys)) ?cB_haskeys ?cF_haskeys ?cX_haskeys ?cN_haskeys ?cT_haskeys ?ca_haskeys ?cb_haskeys ?cc_haskeys ?ce_haskeys ?cd_haskeys ?cu_haskeys ?ck_haskeys ?cne_haskeys ?_; (case cB_haskeys => k_asm); (case cF_haskeys => k_asm); (case cX_haskeys => k_asm); (case cT_haskeys => k_asm); (case cN_haskeys => k_asm); (case ca_haskeys => exact rfl); (case cb_haskeys => exact rfl); (case cc_haskeys => exact rfl); (case ce_haskeys => exact rfl); (case cd_haskeys => exact Nat.le_of_ble_eq_true rfl); (case cu_haskeys => exact Nat.le_of_ble_eq_true rfl); (case ck_haskeys => ((try (refine' Mine.Internal.Take.cons ?_ ?_)); repeat' (first | exact Mine.Internal.Take.nil | exact Mine.Internal.Del.head | refine' Mine.Internal.Take.cons ?_ ?_ | refine' Mine.Internal.Del.tail ?_))); (case cne_haskeys => first | exact List.forall_mem_nil _ | exact (fun _ _ => List.forall_mem_nil _) | exact Mine.Internal.Srt.neL (by with_reducible assumption) (by k_extra "pos") (by k_extra "pos") (by exact rfl) | ((simp only [List.forall_mem_cons, List.not_mem_nil, false_implies, implies_true, and_true, true_and]); (repeat' (refine And.intro ?_ ?_)); all_goals k_ne)); (case p1_haskeys => exact Mine.Internal.Bis.start _); (k_whole; intro v' l' hp'; obtain ⟨k', t', e1', hb', e2'⟩ := hp'; subst e1'; subst e2'; intro h' n' hn' F' N'; (try dsimp only [List.cons_append, List.nil_append] at N'); (try k_sweep); (try dsimp only); (try k_fold))))
      k_with "compareOp In str ref" => (k_here; (with_reducible show wpAny _ _ (compareOp CmpOp.In (Value.str _ _) (Value.ref 43)) _ _ _); k_dflt (refine' Mine.Internal.in_ent ?eF_haskeys ?eX_haskeys ?ee_haskeys ?eh_haskeys ?_; (case eF_haskeys => k_asm); (case eX_haskeys => k_asm); (case ee_haskeys => kernel_rfl); (case eh_haskeys => kernel_rfl); k_whole))
      k_fill
      refine' ctr_introN (binds := [("self", .ref 236), ("prefix", .str p tp)]) (fun h h' T k => T.keeps k) (fun h T => T.nolimit) ?ho_haskeys ?hcd_haskeys ?hD_haskeys ?hb_haskeys ?hl_haskeys ?_ ?hc_haskeys ?c1_haskeys ?c2_haskeys ?c3_haskeys
      case ho_haskeys => k_is
      case hcd_haskeys => k_is
      case hD_haskeys => decide
      case hb_haskeys => (intro s X; (try (rcases hargs with ⟨rfl, rfl, rfl⟩ | ⟨rfl, rfl⟩)); all_goals (first | exact BindsTo.of_eq rfl | exact binds_K X rfl (by k_is) rfl rfl rfl))
      case hl_haskeys => exact locs rfl
      case hc_haskeys => decide
      case c1_haskeys => exact rfl
      case c2_haskeys => exact rfl
      case c3_haskeys => exact rfl
      intro A base g env outer L' h₁ hs9 gens9 dr9 t09 os9 tk B' F' X' N' T' l1
      intro e9 A9 q9
      (try clear l1)
      (try dsimp only at N')
      first | have S0 := Mine.Internal.Srt.eight ho hk hat | have S0 := Mine.Internal.Srt.grow (Mine.Internal.Srt.six ho) hoq | have S0 := Mine.Internal.Srt.five ho hk | have S0 := Mine.Internal.Srt.six ho | have S0 := Mine.Internal.Srt.two ho | have S0 := Mine.Internal.Srt.two hk | skip

      k_with "subscriptTail" => (k_here; (with_reducible show wpAny _ _ (subscriptTail _ _ (Value.ref 243) (Value.int _ _)) _ _ _); (have hl9 := hb'.lo0); (have hh9 := hb'.hi1); k_dflt (refine' Mine.Internal.item_keys ?iF_haskeys ?iX_haskeys ?ik_haskeys ?i0_haskeys ?i1_haskeys ?iq_haskeys; (case iF_haskeys => k_asm); (case iX_haskeys => k_asm); (case ik_haskeys => kernel_rfl); (case i0_haskeys => omega); (case i1_haskeys => omega); (case' iq_haskeys => intro t9); (try k_fold)))
      k_steps
      all_goals (try dsimp only)
      all_goals (first
        | exact cend (l := []) (by assumption) (by assumption) (fun _ h => nomatch h) ⟨by rw [Mine.Internal.pre_ent (by with_reducible assumption)], rfl⟩
        | exact cend (l := []) (by assumption) (by assumption) (fun _ h => nomatch h) ⟨by rw [Mine.Internal.pre_at hb', decide_eq_false (by omega)]; rfl, rfl⟩
        | exact cend (l := []) (by assumption) (by assumption) (fun _ h => nomatch h) ⟨Mine.Internal.pre_end hb' (by with_reducible assumption), rfl⟩
        | exact (Mine.Internal.starts_nil (by with_reducible assumption)).elim)
  have ctr_ceNT {w : World} {loose : List Str} {mean : ExcName → Option Value} {mg mb : Str → Option Value} {K : Ks} {Z : Kz} {m7 : Tok} {tq : Addr} {B9 : At} {qs : List Value} {qn : Nat} {x : St} {val : Str} {vt : Tok} {av : Value} {al : Option Nat}  (ho : K.ord) (hk : @LT.lt Nat _ Z.zd Z.za ∧ @LT.lt Nat _ Z.za K.sd ∧ @LT.lt Nat _ K.er tq) (hat : B9.ord tq) (hz6 : Z.v6 = .ref B9.ct) (hcd : B9.co.IsDictOf (PySem.strKind PySem.Challenge.rw_te0076_01.row.prog w) [(Str.ofString "data", .ref B9.dl)]) (ok : x.ok K.src) (hlen : (x.rem K.src).length ≤ 640) (hq : qs.length ≤ 100000) (hval : val.length ≤ 100000) (hal : AllowIs av al) (hno : ∀ t, x.rem K.src ≠ 35 :: t) :
      CtrS PySem.Challenge.rw_te0076_01.row.prog w (main.heap_1_39 w.params) (Top main.view_1_40 loose mean mg mb) 440 400 (.ref 283) ⟨[.ref Z.za, av, .bool true], []⟩ (Mine.Internal.Lz w K Z m7 tq B9 qs qn val vt (K.led w x)) (CeP PySem.Challenge.rw_te0076_01.row.prog w K Z m7 tq B9 qs val (ceN al true (x.rem K.src)) true) := by
    as_aux_lemma =>
      clear ctr_is_invalid ctr_charErrors ctr_read ctr_readE ctr_position0 ctr_unget ctr_ungetN ctr_ungetS ctr_readN ctr_readC ctr_readA ctr_char ctr_until ctr_tinit call_until call_tok ctr_bisect
      have htq9 := Mine.Internal.one_lt_tq5 ho hk
      have hk1 := hk.2.2
      have hk2 := hk.2.1
      have hk3 := Nat.lt_trans hk.1 hk.2.1
      unfold Mine.Internal.Lz
      k_with_none
      k_with "pos" => (repeat' (first | exact Mine.Internal.PosL.nil | (apply Mine.Internal.PosL.cons 0; exact rfl) | (apply Mine.Internal.PosL.cons 1; exact rfl) | (apply Mine.Internal.PosL.cons 2; exact rfl) | (apply Mine.Internal.PosL.cons 3; exact rfl) | (apply Mine.Internal.PosL.cons 4; exact rfl) | (apply Mine.Internal.PosL.cons 5; exact rfl) | (apply Mine.Internal.PosL.cons 6; exact rfl) | (apply Mine.Internal.PosL.cons 7; exact rfl) | (apply Mine.Internal.PosL.cons 8; exact rfl) | (apply Mine.Internal.PosL.cons 9; exact rfl) | (apply Mine.Internal.PosL.cons 10; exact rfl) | (apply Mine.Internal.PosL.cons 11; exact rfl) | (apply Mine.Internal.PosL.cons 12; exact rfl) | (apply Mine.Internal.PosL.cons 13; exact rfl) | (apply Mine.Internal.PosL.cons 14; exact rfl) | (apply Mine.Internal.PosL.cons 15; exact rfl) | (apply Mine.Internal.PosL.cons 16; exact rfl) | (apply Mine.Internal.PosL.cons 17; exact rfl) | (apply Mine.Internal.PosL.cons 18; exact rfl) | (apply Mine.Internal.PosL.cons 19; exact rfl) | (apply Mine.Internal.PosL.cons 20; exact rfl) | (apply Mine.Internal.PosL.cons 21; exact rfl) | (apply Mine.Internal.PosL.cons 22; exact rfl) | (apply Mine.Internal.PosL.cons 23; exact rfl)))
      k_with "slt" => exact Mine.Internal.Srt.lt (by with_reducible assumption) (by ((repeat (first | (with_reducible_and_instances refine Mine.Internal.Aft.here ?_; (repeat (first | with_reducible_and_instances exact List.Mem.head _ | with_reducible_and_instances refine List.Mem.tail _ ?_)); done) | with_reducible refine Mine.Internal.Aft.there ?_)); all_goals fail))
      k_with "take" => k_dflt ((try dsimp only); repeat' (first | exact Mine.Internal.Take.nil | exact Mine.Internal.Del.head | refine' Mine.Internal.Take.blk ?_ | exact Mine.Internal.Tl.nil | exact Mine.Internal.Tl.app | refine' Mine.Internal.Take.cons ?_ ?_ | refine' Mine.Internal.Del.tail ?_ | refine' Mine.Internal.Tl.cons ?_))
      k_with "upd" => (exact Mine.Internal.Srt.updP (by with_reducible assumption) (by repeat' (first | exact Mine.Internal.UpdI.head | refine' Mine.Internal.UpdI.tail ?_)) (by k_dflt (k_extra "pos")) (by exact rfl))
      k_with "all" => exact Mine.Internal.Ks.ne_all (by with_reducible assumption) (by first | exact .inr (by k_extra "slt") | exact .inl (by k_extra "slt"))
      k_with "ne" => (refine neN ?_; first | exact Mine.Internal.Srt.ne (by with_reducible assumption) (by with_reducible solve_by_elim (maxDepth := 40) only [Mine.Internal.Apart.l, Mine.Internal.Apart.r, Mine.Internal.Apart.t, List.Mem.head, List.Mem.tail]) | ((try dsimp only); omega))
      k_with "lt" => (intro h9l; first | ((with_reducible rename Mine.Internal.Srt _ => S8); (first | (have S9 := Mine.Internal.Srt.grow S8 (h9l (_, _) (by k_dflt k_mem)); clear S8) | (have S9 := Mine.Internal.Srt.grow S8.tl (h9l (_, _) (by k_dflt k_mem)); clear S8) | (have S9 := Mine.Internal.Srt.grow S8.tl.tl (h9l (_, _) (by k_dflt k_mem)); clear S8)); clear h9l) | (replace h9l := allLt_of h9l; simp only [AllLt, and_true] at h9l))
      k_with "subscriptTail" => (k_here; (with_reducible show wpAny _ _ (subscriptTail _ _ (Value.str _ _) (Value.int _ _)) _ _ _); (refine Mine.Internal.sub_chr (by omega) (by omega) (by assumption) ?_))
      k_with "getMethod ref" => (k_here; k_dflt (first | (refine' method_inst ?k1_ceNT ?k2_ceNT ?k3_ceNT ?k4_ceNT ?k5_ceNT ?k6_ceNT ?k7_ceNT ?_; (case k1_ceNT => k_asm); (case k2_ceNT => k_asm); (case k3_ceNT => k_inst); (case k4_ceNT => k_is); (case k5_ceNT => k_is); (case k6_ceNT => k_is); (case k7_ceNT => k_get); k_whole) | (refine' kmu_own ?k1_ceNT ?k2_ceNT ?k3_ceNT ?k4_ceNT ?k5_ceNT ?_; (case k1_ceNT => k_asm); (case k2_ceNT => k_asm); (case k3_ceNT => k_inst); (case k4_ceNT => k_is); (case k5_ceNT => k_is); k_whole)))
      k_with "getMethod ref" => (k_here; (with_reducible show wpAny _ _ (getMethod (Value.ref _) (PySem.Str.ofString "append") _) _ _ _); k_dflt (refine' kl_method ?N_ceNT ?m_ceNT slot_list_append type_list_append ?_; (case N_ceNT => k_asm); (case m_ceNT => k_mem); k_whole))
      k_with "subscriptTail Name UnaryOp str int" => (k_here; (with_reducible show wpAny _ _ (subscriptTail _ _ (Value.str _ _) (Value.int _ _)) _ _ _); (refine Mine.Internal.sub_last (by omega) (by omega) (by omega) ?_); intro c9 hc9; (try (k_dflt (have hs9 := Mine.Internal.last_lt (B := 55296) (by assumption) (by assumption) hc9))))
      k_with "execs cons" => (k_here; (with_reducible show wpAny _ _ _ _ _ (Shared.mk _ _ _ (_ + _) _)); (refine Mine.Internal.gentoks ?_); intro tkg9 htk9; (try dsimp only at htk9))
      k_with "call builtin:len" => (k_here; (with_reducible show wpAny _ _ (call (Value.builtin "len") [Value.str _ _]) _ _ _); (refine SBL.len (by first | omega | exact Mine.Internal.fit63 (by (refine Nat.le_trans (m := 10000) ?_ (by decide); repeat' (first | with_reducible assumption | with_reducible refine Mine.Internal.slice_len_le ?_ | (with_reducible refine Nat.le_trans (Mine.Internal.replace_len (by decide +kernel) (by decide +kernel)) ?_) | exact (by decide +kernel))))) ?_))
      k_with "exec Assign" => ((with_reducible show wpAny _ _ _ _ _ _); k_fold)
      k_with "exec Expr" => ((with_reducible show wpAny _ _ _ _ _ _); k_fold)
      k_with "exec If" => ((with_reducible show wpAny _ _ _ _ _ _); k_fold)
      k_with "exec While" => ((with_reducible show wpAny _ _ _ _ _ _); k_fold)
      k_with "size" => k_dflt (first | exact Nat.le_of_ble_eq_true rfl | ((with_reducible show Array.size (List.toArray _) ≤ PySem.sizeLine); rw [List.size_toArray, PySem.sizeLine_eq]; refine Nat.le_trans (m := 100002) ?_ (Nat.le_of_ble_eq_true rfl); first | with_reducible assumption | exact Nat.le_trans (m := 100000) (by with_reducible assumption) (Nat.le_of_ble_eq_true rfl)))
      k_with "subscriptTail Name Constant ref int" => k_extra "subscriptTail"
      k_with "tok" => (first | exact Nat.le_add_left 1 _ | with_reducible assumption | exact Nat.le_trans (Nat.le_add_left 1 _) (by with_reducible assumption))
      k_with "next" => (first | ((with_reducible refine Mine.Internal.nextS (g := gens9) (d := dr9) (o := os9) ?_); intro qk9 tkg9) | ((with_reducible refine Mine.Internal.lastS (g := gens9) (d := dr9) (o := os9) ?_); intro tkg9) | (with_reducible refine Mine.Internal.nilS ?_) | (with_reducible refine Mine.Internal.fin9 ?_) | (with_reducible refine Mine.Internal.fin0 ?_) | (with_reducible refine Mine.Internal.finS9 ?_) | (with_reducible refine Mine.Internal.finS0 ?_) | ((with_reducible refine Mine.Internal.nextU (g := gens9) (d := dr9) (o := os9) ?_ ?_); (k_extra "tok"); intro qk9 tkg9) | ((with_reducible refine Mine.Internal.lastU (g := gens9) (d := dr9) (o := os9) ?_ ?_); (k_extra "tok"); intro tkg9) | ((with_reducible refine Mine.Internal.nextZ (g := gens9) (d := dr9) (o := os9) ?_); intro qk9 tkg9) | ((with_reducible refine Mine.Internal.lastZ (g := gens9) (d := dr9) (o := os9) ?_); intro tkg9))
      k_with "subscriptTail" => (first | ((fail_if_success (with_reducible show wpAny _ _ (subscriptTail _ (Expr.Slice _ _ _ _) _ _) _ _ _)); dsimp only) | ((with_reducible show wpAny _ _ (subscriptTail _ _ (Value.ref _) (Value.str (PySem.Str.ofString "data") _)) _ _ _); k_here; k_dflt (refine kdt_tail (knd := PySem.strKind _ _) (by k_asm) (by k_mem) (by k_asm) ?_)) | ((with_reducible show wpAny _ _ (subscriptTail (Expr.Subscript _ _ _) (Expr.UnaryOp _ _ _) (Value.ref _) (Value.int _ _)) _ _ _); k_here; k_dflt (refine' Mine.Internal.item_lastT ?iN_ceNT ?im_ceNT ?ik_ceNT ?_; (case iN_ceNT => k_asm); (case im_ceNT => k_mem); (case ik_ceNT => rfl); k_whole)))
      k_with "execs cons" => k_extra "next"
      k_with "execs nil" => (with_reducible refine Mine.Internal.nilS ?_)
      k_with "eval Constant int" => (with_reducible refine Mine.Internal.c_int (g := gens9) (d := dr9) (o := os9) ?_)
      k_with "eval Constant str" => (with_reducible refine Mine.Internal.c_str (g := gens9) (d := dr9) (o := os9) ?_)
      k_with "eval Attribute Name" => (k_here; k_dflt (refine' Mine.Internal.at_name (gs := gens9) (d := dr9) (o := os9) ?nF_ceNT ?nX_ceNT ?nN_ceNT ?nv_ceNT ?n1_ceNT ?n2_ceNT ?ng_ceNT ?nh_ceNT ?na_ceNT ?nn_ceNT ?nl_ceNT ?nd_ceNT ?_; (case nF_ceNT => k_asm); (case nX_ceNT => k_asm); (case nN_ceNT => k_asm); (case nv_ceNT => exact rfl); (case n1_ceNT => k_mem); (case n2_ceNT => k_mem); (case ng_ceNT => k_is); (case nh_ceNT => k_is); (case na_ceNT => k_is); (case nn_ceNT => k_is); (case nl_ceNT => k_get); (case nd_ceNT => k_handed); k_whole))
      k_with "storeName" => (first | (k_here; ktx_write) | (k_here; k_dflt (refine' Mine.Internal.st_name (gs := gens9) (d := dr9) (o := os9) ?tF_ceNT ?tN_ceNT ?_; (case tF_ceNT => k_asm); (case tN_ceNT => k_asm); k_whole; intro m9 h' F' N'; (try k_sweep))))
      k_with "call ref" => ((fail_if_success (with_reducible show wpAny _ _ (call (Value.ref 227) _ _) _ _ _)); (fail_if_success (with_reducible show wpAny _ _ (call (Value.ref 199) _ _) _ _ _)); refine Mine.Internal.hold ?_)
      k_with "lt" => (intro h9l; ((with_reducible rename Mine.Internal.Srt _ => S8); (have S9 := Mine.Internal.Srt.grow S8 (h9l (_, _) (by k_dflt k_mem))); clear S8))
      k_with "ne" => (refine neN ?_; first | exact Mine.Internal.ne_by (by with_reducible assumption) (by k_dflt k_mem) | exact Mine.Internal.ne_by' (by with_reducible assumption) (by k_dflt k_mem) | exact Mine.Internal.Srt.ne (by with_reducible assumption) (by with_reducible solve_by_elim (maxDepth := 40) only [Mine.Internal.Apart.l, Mine.Internal.Apart.r, Mine.Internal.Apart.t, List.Mem.head, List.Mem.tail]))
      k_with "getMethod ref" => (k_here; (with_reducible show wpAny _ _ (getMethod (Value.ref (Mine.Internal.Ks.st _)) _ _) _ _ _); k_dflt (refine' Mine.Internal.meth_blk ?F_ceNT ?X_ceNT ?N_ceNT ?tk_ceNT ?hg_ceNT ?hf_ceNT ?ht_ceNT ?hl_ceNT ?_; (case F_ceNT => k_asm); (case X_ceNT => k_asm); (case N_ceNT => k_asm); (case tk_ceNT => (k_extra "take")); (case hg_ceNT => k_is); (case hf_ceNT => k_is); (case ht_ceNT => k_is); (case hl_ceNT => exact rfl); k_whole))
      k_with "call ref" => (k_here; (with_reducible show wpAny _ _ (call (Value.ref 133) _ _) _ _ _); k_dflt (refine' call_char ?p1_ceNT ?p2_ceNT ?cB_ceNT ?cF_ceNT ?cX_ceNT ?cT_ceNT ?ca_ceNT ?cb_ceNT ?cc_ceNT ?ce_ceNT ?cd_ceNT ?cu_ceNT ?cN_ceNT ?tk_ceNT ?ne_ceNT ?_; (case p1_ceNT => with_reducible assumption); (case p2_ceNT => with_reducible assumption); (case cF_ceNT => k_asm); (case cB_ceNT => k_asm); (case cX_ceNT => k_asm); (case cT_ceNT => k_asm); (case ca_ceNT => exact rfl); (case cb_ceNT => exact rfl); (case cc_ceNT => exact rfl); (case ce_ceNT => exact rfl); (case cd_ceNT => exact Nat.le_of_ble_eq_true rfl); (case cu_ceNT => exact Nat.le_of_ble_eq_true rfl); (case cN_ceNT => k_asm); (case tk_ceNT => (k_extra "take")); (case ne_ceNT => repeat' (first | exact Mine.Internal.Outs.nil | refine' Mine.Internal.Outs.hi (by with_reducible assumption) ?_ | refine' Mine.Internal.Outs.lo (by with_reducible assumption) ?_ | refine' Mine.Internal.Outs.hi (by k_extra "slt") ?_)); k_whole; intro x' v' h' tk' ok' hx' htk' F' N'; (try dsimp only at htk'); (try dsimp only [List.cons_append, List.nil_append] at N'); (try k_sweep); (try dsimp only); (try k_fold)))
      k_with "call ref" => (k_here; (with_reducible show wpAny _ _ (call (Value.ref 163) [Value.ref _, Value.none] _) _ _ _); k_dflt (refine' call_ungetN  ?cB_ceNT ?cF_ceNT ?cX_ceNT ?cT_ceNT ?ca_ceNT ?cb_ceNT ?cc_ceNT ?ce_ceNT ?cd_ceNT ?cu_ceNT ?cN_ceNT  ?_; (case cF_ceNT => k_asm); (case cB_ceNT => k_asm); (case cX_ceNT => k_asm); (case cT_ceNT => k_asm); (case ca_ceNT => exact rfl); (case cb_ceNT => exact rfl); (case cc_ceNT => exact rfl); (case ce_ceNT => exact rfl); (case cd_ceNT => exact Nat.le_of_ble_eq_true rfl); (case cu_ceNT => exact Nat.le_of_ble_eq_true rfl); (case cN_ceNT => k_asm); k_whole; intro h' tk' htk' F' N'; (try dsimp only at htk'); (try dsimp only [List.cons_append, List.nil_append] at N'); (try k_sweep); (try dsimp only); (try k_fold)))
      k_with "call ref" => (k_here; (with_reducible show wpAny _ _ (call (Value.ref 163) [Value.ref _, Value.str ⟨#[_]⟩ _] _) _ _ _); k_dflt (refine' call_unget ?p1_ceNT ?p2_ceNT ?p3_ceNT ?p4_ceNT ?cB_ceNT ?cF_ceNT ?cX_ceNT ?cT_ceNT ?ca_ceNT ?cb_ceNT ?cc_ceNT ?ce_ceNT ?cd_ceNT ?cu_ceNT ?cN_ceNT ?tk_ceNT ?ne_ceNT ?_; (case p1_ceNT => with_reducible assumption); (case p2_ceNT => with_reducible assumption); (case p3_ceNT => with_reducible assumption); (case p4_ceNT => with_reducible assumption); (case cF_ceNT => k_asm); (case cB_ceNT => k_asm); (case cX_ceNT => k_asm); (case cT_ceNT => k_asm); (case ca_ceNT => exact rfl); (case cb_ceNT => exact rfl); (case cc_ceNT => exact rfl); (case ce_ceNT => exact rfl); (case cd_ceNT => exact Nat.le_of_ble_eq_true rfl); (case cu_ceNT => exact Nat.le_of_ble_eq_true rfl); (case cN_ceNT => k_asm); (case tk_ceNT => (k_extra "take")); (case ne_ceNT => repeat' (first | exact Mine.Internal.Outs.nil | refine' Mine.Internal.Outs.hi (by with_reducible assumption) ?_ | refine' Mine.Internal.Outs.lo (by with_reducible assumption) ?_ | refine' Mine.Internal.Outs.hi (by k_extra "slt") ?_)); k_whole; intro x' h' tk' ok' hx' htk' F' N'; (try dsimp only at htk'); (try dsimp only [List.cons_append, List.nil_append] at N'); (try k_sweep); (try dsimp only); (try k_fold)))
      k_with "subscriptTail" => (k_here; first
      | ((with_reducible show wpAny _ _ (subscriptTail _ _ (Value.ref 48) (Value.str _ _)) _ _ _); k_dflt (first | (refine' Mine.Internal.item_tok 7 ?F_ceNT ?X_ceNT ?he_ceNT ?hh_ceNT ?hl_ceNT ?_; (case hl_ceNT => kernel_rfl)) | (refine' Mine.Internal.item_tok 1 ?F_ceNT ?X_ceNT ?he_ceNT ?hh_ceNT ?hl_ceNT ?_; (case hl_ceNT => kernel_rfl)) | (refine' Mine.Internal.item_tok 2 ?F_ceNT ?X_ceNT ?he_ceNT ?hh_ceNT ?hl_ceNT ?_; (case hl_ceNT => kernel_rfl)) | (refine' Mine.Internal.item_tok 3 ?F_ceNT ?X_ceNT ?he_ceNT ?hh_ceNT ?hl_ceNT ?_; (case hl_ceNT => kernel_rfl))); (case F_ceNT => k_asm); (case X_ceNT => k_asm); (case he_ceNT => kernel_rfl); (case hh_ceNT => kernel_rfl); k_whole; intro t9)
      | ((with_reducible show wpAny _ _ (subscriptTail _ _ (Value.ref 46) (Value.int _ _)) _ _ _); k_dflt (refine' Mine.Internal.item_repl ?F_ceNT ?X_ceNT ?hk_ceNT ?hz_ceNT ?_; (case F_ceNT => k_asm); (case X_ceNT => k_asm); (case hk_ceNT => kernel_rfl); (case hz_ceNT => with_reducible assumption); k_whole); intro t9))
      k_with "eval Dict" => (k_here; (with_reducible show wpAny _ _ (eval (Expr.Dict (_ :: _) _ _) _) _ _ _); k_dflt (refine' kdn_str ?q_ceNT ?F_ceNT ?N_ceNT ?b_ceNT ?a_ceNT ?l_ceNT ?e_ceNT ?n_ceNT ?_; (case q_ceNT => rfl); (case F_ceNT => k_asm); (case N_ceNT => first | k_asm | exact News.nil); (case b_ceNT => exact Top.nolimit (by k_asm)); (case a_ceNT => rfl); (case l_ceNT => rfl); (case e_ceNT => exact List.cons_ne_nil _ _); (case n_ceNT => exact Nat.le_of_ble_eq_true rfl)); intro d' h' o' F' N' l1 lo' hd'; (try k_lt l1))
      k_with "callWith" => (k_here; (with_reducible show wpAny _ _ (callWith _ (Value.builtin _) (_ :: _) (backTo _ (starEach [Expr.Dict _ _ _] _)) []) _ _ _); k_dflt (refine callWith_method1 ?_; k_whole))
      k_with "spliced" => (k_here; (with_reducible show wpAny _ _ (spliced (backTo _ (starEach [Expr.Dict _ _ _] _))) _ _ _); k_dflt (refine args_cons ?_; k_whole))
      k_with "subscriptTail" => (k_here; first
      | ((with_reducible show wpAny _ _ (subscriptTail (Expr.Name _ _) (Expr.Constant _ _ _) (Value.ref _) (Value.int _ _)) _ _ _); k_dflt (refine' item_listL (News.isList ?N_ceNT ?m_ceNT) ?h0_ceNT ?h1_ceNT ?hx_ceNT ?_; (case N_ceNT => k_asm); (case m_ceNT => k_mem); (case h0_ceNT => decide); (case h1_ceNT => decide); (case hx_ceNT => rfl); k_whole))
      | ((with_reducible show wpAny _ _ (subscriptTail (Expr.Name _ _) (Expr.UnaryOp _ _ _) (Value.ref _) (Value.int _ _)) _ _ _); k_dflt (refine' Mine.Internal.item_negL (News.isList ?N_ceNT ?m_ceNT) ?h0_ceNT ?h1_ceNT ?h2_ceNT ?hx_ceNT ?_; (case N_ceNT => k_asm); (case m_ceNT => k_mem); (case h0_ceNT => decide); (case h1_ceNT => exact of_decide_eq_true rfl); (case h2_ceNT => decide); (case hx_ceNT => rfl); k_whole)))
      k_with "compareOp In" => (k_here; first
      | ((with_reducible show wpAny _ _ (compareOp CmpOp.In Value.none (Value.ref _)) _ _ _); k_dflt (refine' Mine.Internal.in_elt_none ?N_ceNT ?m_ceNT ?_; (case N_ceNT => k_asm); (case m_ceNT => k_mem); k_whole))
      | ((with_reducible show wpAny _ _ (compareOp CmpOp.In (Value.str ⟨#[_]⟩ _) (Value.ref _)) _ _ _); k_dflt (refine' Mine.Internal.in_elt_chr ?N_ceNT ?m_ceNT ?_; (case N_ceNT => k_asm); (case m_ceNT => k_mem); k_whole))
      | ((with_reducible show wpAny _ _ (compareOp CmpOp.In (Value.str ⟨#[_]⟩ _) (Value.ref _)) _ _ _); k_dflt (refine' Mine.Internal.in_tupN ?N_ceNT ?m_ceNT ?hi_ceNT ?he_ceNT ?_; (case N_ceNT => k_asm); (case m_ceNT => k_mem); (case hi_ceNT => repeat' constructor); (case he_ceNT => exact Mine.Internal.xX_any); k_whole))
      | ((with_reducible show wpAny _ _ (compareOp CmpOp.In Value.none (Value.ref _)) _ _ _); k_dflt (refine' Mine.Internal.in_tupN_none ?N_ceNT ?m_ceNT ?hi_ceNT ?_; (case N_ceNT => k_asm); (case m_ceNT => k_mem); (case hi_ceNT => repeat' constructor); k_whole)))
      k_with "compareOp In" => (k_here; first
      | ((with_reducible show wpAny _ _ (compareOp CmpOp.In (Value.str ⟨#[_]⟩ _) (Value.ref _)) _ _ _); k_dflt (refine' Mine.Internal.in_tupK ?F_ceNT ?X_ceNT ?hk_ceNT ?hi_ceNT ?he_ceNT ?_; (case F_ceNT => k_asm); (case X_ceNT => k_asm); (case hk_ceNT => k_is); (case hi_ceNT => repeat' constructor); (case he_ceNT => first | exact Mine.Internal.dec_any | exact Mine.Internal.hex_any); k_whole))
      | ((with_reducible show wpAny _ _ (compareOp CmpOp.In Value.none (Value.ref _)) _ _ _); k_dflt (refine' Mine.Internal.in_tupK_none ?F_ceNT ?X_ceNT ?hk_ceNT ?hi_ceNT ?_; (case F_ceNT => k_asm); (case X_ceNT => k_asm); (case hk_ceNT => k_is); (case hi_ceNT => repeat' constructor); k_whole)))
      k_with "compareOp In" => (k_here; first
      | ((with_reducible show wpAny _ _ (compareOp CmpOp.In (Value.str ⟨#[_]⟩ _) (Value.ref 22)) _ _ _); k_dflt (refine' Mine.Internal.in_tupK ?F_ceNT ?X_ceNT ?hk_ceNT ?hi_ceNT ?he_ceNT ?_; (case F_ceNT => k_asm); (case X_ceNT => k_asm); (case hk_ceNT => k_is); (case hi_ceNT => repeat' constructor); (case he_ceNT => exact Mine.Internal.blank_any); k_whole))
      | ((with_reducible show wpAny _ _ (compareOp CmpOp.In (Value.str _ _) (Value.ref 22)) _ _ _); k_dflt (refine' Mine.Internal.in_tupX ?F_ceNT ?X_ceNT ?hk_ceNT ?hi_ceNT ?he_ceNT ?_; (case F_ceNT => k_asm); (case X_ceNT => k_asm); (case hk_ceNT => k_is); (case hi_ceNT => repeat' constructor); (case he_ceNT => exact Mine.Internal.space_any _); k_whole))
      | ((with_reducible show wpAny _ _ (compareOp CmpOp.In Value.none (Value.ref 22)) _ _ _); k_dflt (refine' Mine.Internal.in_tupK_none ?F_ceNT ?X_ceNT ?hk_ceNT ?hi_ceNT ?_; (case F_ceNT => k_asm); (case X_ceNT => k_asm); (case hk_ceNT => k_is); (case hi_ceNT => repeat' constructor); k_whole)))
      k_with "all" => first | exact Mine.Internal.tail_ne (by with_reducible assumption) (fun p9 hp9 => by repeat (first | exact hp9 | exact List.mem_append_left _ hp9 | refine List.mem_cons_of_mem _ ?_)) (by with_reducible assumption) (.inr (by k_extra "slt")) | ((with_reducible apply Mine.Internal.tail_gt); (with_reducible assumption); (first | exact Nat.le_of_lt (by k_extra "slt") | exact Nat.le_refl _); (with_reducible assumption); exact .inr (by k_extra "slt"))
      k_with "call ref" => (k_here; (with_reducible show wpAny _ _ (call (Value.ref 220) _ _) _ _ _); k_dflt (refine' Mine.Internal.Ctr.useN (gs := gens9) (d := dr9) (o := os9) (Mine.Internal.CtrC.call ctr_haskeys) ?cB_ceNT ?cF_ceNT ?cX_ceNT ?cN_ceNT ?cT_ceNT ?ca_ceNT ?cb_ceNT ?cc_ceNT ?ce_ceNT ?cd_ceNT ?cu_ceNT ?ck_ceNT ?cne_ceNT ?_; (case cB_ceNT => k_asm); (case cF_ceNT => k_asm); (case cX_ceNT => k_asm); (case cT_ceNT => k_asm); (case cN_ceNT => k_asm); (case ca_ceNT => exact rfl); (case cb_ceNT => exact rfl); (case cc_ceNT => exact rfl); (case ce_ceNT => exact rfl); (case cd_ceNT => exact Nat.le_of_ble_eq_true rfl); (case cu_ceNT => exact Nat.le_of_ble_eq_true rfl); (case ck_ceNT => ((try (refine' Mine.Internal.Take.cons ?_ ?_)); repeat' (first | exact Mine.Internal.Take.nil | exact Mine.Internal.Del.head | refine' Mine.Internal.Take.cons ?_ ?_ | refine' Mine.Internal.Del.tail ?_))); (case cne_ceNT => first | exact List.forall_mem_nil _ | exact (fun _ _ => List.forall_mem_nil _) | exact Mine.Internal.Srt.neL (by with_reducible assumption) (by k_extra "pos") (by k_extra "pos") (by exact rfl) | ((simp only [List.forall_mem_cons, List.not_mem_nil, false_implies, implies_true, and_true, true_and]); (repeat' (refine And.intro ?_ ?_)); all_goals k_ne)); (k_whole; intro v' l' hp'; obtain ⟨e1', e2'⟩ := hp'; subst e1'; subst e2'; intro h' n' hn' F' N'; (try dsimp only [List.cons_append, List.nil_append] at N'); (try k_sweep); (try dsimp only); (try k_fold))))
      k_with "compareOp In str ref" => (k_here; (with_reducible show wpAny _ _ (compareOp CmpOp.In (Value.str _ _) (Value.ref 43)) _ _ _); k_dflt (refine' Mine.Internal.in_ent ?eF_ceNT ?eX_ceNT ?ee_ceNT ?eh_ceNT ?_; (case eF_ceNT => k_asm); (case eX_ceNT => k_asm); (case ee_ceNT => kernel_rfl); (case eh_ceNT => kernel_rfl); k_whole))
      k_with "subscriptTail" => (k_here; (with_reducible show wpAny _ _ (subscriptTail _ _ (Value.ref 48) (Value.str (Str.ofString "SpaceCharacters") _)) _ _ _); k_dflt (refine' Mine.Internal.item_tok 2 ?F_ceNT ?X_ceNT ?he_ceNT ?hh_ceNT ?hl_ceNT ?_; (case hl_ceNT => kernel_rfl); (case F_ceNT => k_asm); (case X_ceNT => k_asm); (case he_ceNT => kernel_rfl); (case hh_ceNT => kernel_rfl); k_whole; intro t9))
      k_with "subscriptTail" => (k_here; (with_reducible show wpAny _ _ (subscriptTail _ _ (Value.ref 48) (Value.str (Str.ofString "Characters") _)) _ _ _); k_dflt (refine' Mine.Internal.item_tok 1 ?F_ceNT ?X_ceNT ?he_ceNT ?hh_ceNT ?hl_ceNT ?_; (case hl_ceNT => kernel_rfl); (case F_ceNT => k_asm); (case X_ceNT => k_asm); (case he_ceNT => kernel_rfl); (case hh_ceNT => kernel_rfl); k_whole; intro t9))
      k_fill
      refine' ctrS_introN (binds := [("self", .ref Z.za), ("allowedChar", av), ("fromAttribute", .bool true)]) (fun h h' T k => T.keeps k) (fun h T => T.nolimit) ?ho_ceNT ?hcd_ceNT ?hD_ceNT ?hb_ceNT ?hl_ceNT ?_ ?hc_ceNT ?c1_ceNT ?c2_ceNT ?c3_ceNT
      case ho_ceNT => k_is
      case hcd_ceNT => k_is
      case hD_ceNT => decide
      case hb_ceNT => (intro s X; (try (rcases hargs with ⟨rfl, rfl, rfl⟩ | ⟨rfl, rfl⟩)); all_goals (first | exact BindsTo.of_eq rfl | exact binds_K X rfl (by k_is) rfl rfl rfl))
      case hl_ceNT => exact locs rfl
      case hc_ceNT => decide
      case c1_ceNT => exact rfl
      case c2_ceNT => exact rfl
      case c3_ceNT => exact rfl
      intro base g env outer L' h₁ hs9 gens9 dr9 t09 os9 tk B' F' XB' TB' D' X' N' T' l1
      intro e9 A9 q9
      (try k_lt l1)
      (try dsimp only)
      first | have S0 := Mine.Internal.Srt.eight ho hk hat | have S0 := Mine.Internal.Srt.grow (Mine.Internal.Srt.six ho) hoq | have S0 := Mine.Internal.Srt.five ho hk | have S0 := Mine.Internal.Srt.six ho | have S0 := Mine.Internal.Srt.two ho | have S0 := Mine.Internal.Srt.two hk | skip
      k_with "isTrue BoolOp" => k_dflt (first
        | ((fail_if_success (with_reducible show wpAny _ _ _ (Mine.Internal.MeetH _ _ _ _ _ _) _ _)); (with_reducible show wpAny _ _ (isTrue (Expr.BoolOp BoolOp.Or [Expr.Compare _ [CmpOp.In] _ _, _, _] _) _ _) _ _ _); (with_reducible rename Fr _ _ _ _ => F0); (with_reducible rename News _ _ _ _ => N0); (refine' Mine.Internal.wp_meetH (Mine.Internal.stopC al (x.rem K.src)) F0 N0 ?_ ?_); (intro h9 k9 F9 N9); clear F0 N0; (try dsimp only); (try k_fold); rotate_left; (rcases hx' with ⟨ev9, er9, ef9⟩ | ⟨c1, t1, ev9, er9, eo9, ec9⟩ <;> subst ev9))
        | ((with_reducible show wpAny _ _ (isTrue (Expr.BoolOp BoolOp.And [Expr.Compare _ [CmpOp.IsNot] _ _, _] _) _ _) _ _ _); (rcases hal with ⟨ea9, eb9⟩ | ⟨a1, ta1, ea9, eb9⟩ <;> subst ea9 eb9)))
      k_with "MeetH" => k_dflt (first
        | exact Mine.Internal.meetH_end (by assumption) (by assumption) (by first | exact Mine.Internal.stop_nil er9 | exact Mine.Internal.stop_blank er9 (by with_reducible assumption) | exact Mine.Internal.stop_lt er9 (by with_reducible assumption) | exact Mine.Internal.stop_al er9 (by with_reducible assumption) | exact Mine.Internal.stop_no er9 (by with_reducible assumption) (by with_reducible assumption) | exact Mine.Internal.stop_no' er9 (by with_reducible assumption) (by with_reducible assumption) (by with_reducible assumption))
        | exact Mine.Internal.meetH_sub (by assumption) (by assumption) (by first | exact Mine.Internal.stop_nil er9 | exact Mine.Internal.stop_blank er9 (by with_reducible assumption) | exact Mine.Internal.stop_lt er9 (by with_reducible assumption) | exact Mine.Internal.stop_al er9 (by with_reducible assumption) | exact Mine.Internal.stop_no er9 (by with_reducible assumption) (by with_reducible assumption) | exact Mine.Internal.stop_no' er9 (by with_reducible assumption) (by with_reducible assumption) (by with_reducible assumption))
        | (refine Mine.Internal.hold ?_))
      k_with "exec If" => k_dflt ((fail_if_success (with_reducible show wpAny _ _ _ (Mine.Internal.MeetXS _ _ _ _ _ _ _) _ _)); first
        | ((with_reducible show wpAny _ _ (exec (Stmt.If (Expr.BoolOp BoolOp.Or [_, _, _] _) _ _ _) _) _ _ _); (with_reducible rename Fr _ _ _ _ => F0); (with_reducible rename News _ _ _ _ => N0); (refine' Mine.Internal.wp_meetCs (K := K) (Z := Z) (B := B9) (m7 := m7) (tq := tq) (qs := qs) (val := val) (vt := vt) (R := ceN al true (x.rem K.src)) (fun y => List.lookup y ([(Str.ofString "self", Value.ref Z.za), (Str.ofString "allowedChar", av), (Str.ofString "fromAttribute", Value.bool true)].reverse)) hz6 F0 B' XB' TB' D' (fun _ _ T9 k9 => T9.keeps k9) ?mxq_ceNT ?mxw_ceNT); (case' mxq_ceNT => (intro g9 y9 out9 t9 u9 fl9 adds9 n9 h9 tk9 T9 B9' X9 P9 D9 sok9 hout9 hrem9 hgt9 hqis9 F9 N9; (clear F0 N0 B' X' T' D'); (with_reducible rename Mine.Internal.Srt _ => S8); (have S9 := Mine.Internal.Srt.eight ho hk hat); (clear S8); (have hlen9 := Mine.Internal.ceN_len hq hqis9); (try dsimp only); (try k_fold))))
        | ((with_reducible show wpAny _ _ (exec (Stmt.If (Expr.Name _ _) _ _ _) _) _ _ _); cases fa))
      k_with "call builtin:list.append" => (k_here; (with_reducible show wpAny _ _ (call (Value.builtin _) [Value.ref _, Value.ref _]) _ _ _); k_dflt (refine' append_K ?y1_ceNT ?y2_ceNT ?y3_ceNT ?_ ?y4_ceNT; (case y1_ceNT => k_asm); (case y2_ceNT => k_asm); (case y3_ceNT => k_upd); (case y4_ceNT => size_fits); k_whole); intro h' F' N'; (try k_sweep))
      k_with "subscriptTail" => k_dflt ((with_reducible show wpAny _ _ (subscriptTail _ (Expr.UnaryOp _ _ _) (Value.ref _) (Value.int _ _)) _ _ _); (try dsimp only); (refine' Mine.Internal.item_lastL (News.isList ?N_ceNT ?m_ceNT) ?hb_ceNT ?_; (case N_ceNT => k_asm); (case m_ceNT => k_mem); (case hb_ceNT => rfl); k_whole))
      k_with "inplaceOp Add str str" => k_dflt ((with_reducible show wpAny _ _ (inplaceOp Operator.Add (Value.str _ _) (Value.str _ _)) _ _ _); (first | ((with_reducible refine' iadd_str ?_ ?fa1x1_ceNT); (case fa1x1_ceNT => exact (Mine.Internal.val_fits ho9 hT9 hlen))) | ((with_reducible refine' iadd_str ?_ ?fa2x1_ceNT); (case fa2x1_ceNT => exact (Mine.Internal.out_fitsN hval hout9 hlen)))); intro ti9 ki9)
      k_with "getItem ref int" => k_dflt ((with_reducible show wpAny _ _ (PySem.getItem (Value.ref _) (Value.int _ _)) _ _ _); (refine' wpAny_getItem_list (x := Value.str _ _) (News.isList ?N_ceNT ?m_ceNT) ?h0_ceNT ?h1_ceNT ?hx_ceNT ?_; (case N_ceNT => k_asm); (case m_ceNT => k_mem); (case h0_ceNT => decide); (case h1_ceNT => decide); (case hx_ceNT => exact rfl); k_whole))
      k_with "call ref" => k_dflt ((with_reducible show wpAny _ _ (call (Value.ref 163) [Value.ref _, v'] _) _ _ _); (rcases hx' with ⟨ev9, er9, ef9⟩ | ⟨c1, t1, ev9, er9, eo9, ec9⟩ <;> subst ev9))
      k_with "compareOp Eq" => k_dflt ((with_reducible show wpAny _ _ (compareOp CmpOp.Eq v' (Value.str _ _)) _ _ _); (rcases hx' with ⟨ev9, er9, ef9⟩ | ⟨c1, t1, ev9, er9, eo9, ec9⟩ <;> subst ev9); first | exact (Mine.Internal.stop_abs (by with_reducible assumption) er9).elim | skip)
      k_with "exec Assign" => k_dflt ((with_reducible show wpAny _ _ (exec (Stmt.Assign [Expr.Name _ _] (Expr.Constant (Const.bool false) _ _) _) _) _ _ _); exact (Mine.Internal.no35 hno er9 (by with_reducible assumption)).elim)
      k_with "exec While" => ((with_reducible rename Fr _ _ _ _ => F0); (with_reducible rename News _ _ _ _ => N0); (refine' ksw_meet (σ := Cn) (fun c => (_, W.listOf (c.vs ++ [c.cv]).toArray c.n) :: Mine.Internal.Lz w K Z m7 tq B9 qs qn val vt (K.led w c.x)) (fun _ => []) [] (Cn.nok K.src (x.rem K.src)) (Cn.nfin K.src (x.rem K.src)) (fun c => c.mu K.src) ⟨x', [], _, .str ⟨#[c1]⟩ t1⟩ F0 (fun p hp => N0 p (Mine.Internal.Take.sub ?tk_ceNT p hp)) (fun _ h => nomatch h) (Cn.nstart ok' (.inr ⟨c1, t1, rfl, er9, eo9, ec9⟩)) ?hq_ceNT ?turn_ceNT); (case tk_ceNT => (unfold Mine.Internal.Lz; (k_extra "take"))); (case' hq_ceNT => (intro c u hh tk2 hi Ft Nt; (try clear F0 N0); obtain ⟨y, vs, vn, cv⟩ := c; obtain ⟨sok, cs, rr, hvs, hcv, hT9, htk⟩ := hi; (dsimp only [Mine.Internal.Lz] at sok hvs hcv Ft Nt))); (case' turn_ceNT => (intro c u hh tk2 hi Ft Nt; (try clear F0 N0); obtain ⟨y, vs, vn, cv⟩ := c; obtain ⟨sok, cs, rr, hvs, hcv, hT9, htk⟩ := hi; (dsimp only [Mine.Internal.Lz] at sok hvs hcv Ft Nt); have hvl : (vs ++ [cv]).length ≤ 100000 := Mine.Internal.cs_len hvs hT9 hlen; rcases hcv with ⟨e1, e2, e3⟩ | ⟨c2, t2, e1, e2, e3, e4⟩ <;> subst e1)))
      k_with "call builtin:str.join" => k_dflt ((with_reducible show wpAny _ _ (call (Value.builtin "str.join") [Value.str _ _, Value.ref _]) _ _ _); first
        | (refine' Mine.Internal.join_chs (g := Mine.Internal.chS) (ds := cs ++ [c2]) (fun _ => rfl) (News.isList (by k_asm) (by news_mem)) (Mine.Internal.strs_more hvs) (Mine.Internal.more_len hvs hvl) ?_; intro tj9 kj9)
        | (refine' Mine.Internal.join_chs (g := Mine.Internal.chS) (ds := cs) (fun _ => rfl) (News.isList (by k_asm) (by news_mem)) hvs (Mine.Internal.cs_640 hT9 hlen) ?_; intro tj9 kj9)
        | (refine' Mine.Internal.join_chs (g := Mine.Internal.chS) (ds := cs.drop nm.length) (fun _ => rfl) (News.isList (by k_asm) (by news_mem)) (Mine.Internal.strs_drop hvs nm.length) (Mine.Internal.dropN_640 hT9 hlen _) ?_; intro tj9 kj9))
      k_with "KswEnd" => k_dflt ((with_reducible rename Fr _ _ _ _ => F9); (with_reducible rename News _ _ _ _ => N9); (try simp only [List.push_toArray] at N9); (have hm9 := fun n' => Mine.Internal.Cn.nmore (n := vn) (n' := n') (t1 := t2) ok' hvs (e2 ▸ hT9) (e2 ▸ htk) (by with_reducible assumption) hx'); refine' ksw_end (σ := Cn) ⟨x', vs ++ [.str ⟨#[c2]⟩ t2], _, v'⟩ F9 N9 (Mine.Internal.Take.sub ?ktk_ceNT) trivial (fun _ h => nomatch h) (fun _ _ _ => rfl) (hm9 _).1 (hm9 _).2; (case ktk_ceNT => (unfold Mine.Internal.Lz; (k_extra "take"))))
      k_with "MeetW" => k_dflt ((with_reducible rename Fr _ _ _ _ => F9); (with_reducible rename News _ _ _ _ => N9); first
        | exact meetW_end (σ := Cn) ⟨y, vs, vn, .none⟩ u F9 N9 (fun _ h => h) (Mine.Internal.Cn.nend sok hvs (e2 ▸ hT9) (e2 ▸ htk) (.inl ⟨rfl, rfl, e3⟩))
        | ((have hp9 : Mine.Internal.hasPre ⟨(cs ++ [c2]).toArray⟩ = false := (by with_reducible assumption)); refine' meetW_end (σ := Cn) ⟨y, vs, vn, .str ⟨#[c2]⟩ t2⟩ u F9 N9 (Mine.Internal.Take.sub ?mtk_ceNT) (Mine.Internal.Cn.nstop sok hvs (e2 ▸ hT9) (e2 ▸ htk) hp9 (.inr ⟨c2, t2, rfl, rfl, e3, e4⟩)); (case mtk_ceNT => (unfold Mine.Internal.Lz; (k_extra "take"))))
        | (refine Mine.Internal.hold ?_))
      k_with "exec Try" => k_dflt ((fail_if_success (with_reducible show wpAny _ _ _ (Mine.Internal.MeetN9 _ _ _ _ _ _ _) _ _)); (with_reducible rename Fr _ _ _ _ => F0); (with_reducible rename News _ _ _ _ => N0); (have hc10 := Mine.Internal.cs_10000 hT9 hlen); (refine' Mine.Internal.wp_meetN9 (cs := cs) F0 N0 B' XB' TB' D' (fun _ _ T9 k9 => T9.keeps k9) ?tn_ceNT ?ts_ceNT ?tw_ceNT); (case' tn_ceNT => (intro g9 u9 h9 tk9 T9 B9' X9 P9 D9 ho9 F9 N9; (clear F0 N0 B' X' T' D'); (try dsimp only); (try k_fold))); (case' ts_ceNT => (intro g9 nm t5 t6 h9 tk9 T9 B9' X9 P9 D9 ho9 F9 N9; (clear F0 N0 B' X' T' D'); (try dsimp only); (try k_fold))))
      k_with "MeetN9" => k_dflt ((with_reducible rename Fr _ _ _ _ => F9); (with_reducible rename News _ _ _ _ => N9); first
        | (refine' Mine.Internal.meetN_str KtsTurn.refl F9 N9 ?mna_ceNT (Mine.Internal.lp_whole (by with_reducible assumption)) rfl rfl rfl (fun z9 h1 h2 => (if_neg h2).trans (if_neg h1)); (case mna_ceNT => exact Mine.Internal.Take.sub (by (k_extra "take"))))
        | (refine' Mine.Internal.meetN_str KtsTurn.refl F9 N9 ?mnb_ceNT (hlp9.trans (Mine.Internal.lp_hit hk9 hi9 (by with_reducible assumption))) (Mine.Internal.slice_back hk9 hi9) rfl rfl (fun z9 h1 h2 => (if_neg h2).trans (if_neg h1)); (case mnb_ceNT => exact (fun p9 hp9 => List.mem_cons_of_mem _ (List.mem_append_left _ hp9))))
        | (refine' Mine.Internal.meetN_no (by first | with_reducible assumption | exact KtsTurn.refl) F9 N9 ?mnc_ceNT hlp9 rfl (fun z9 h1 h2 => if_neg h1); (case mnc_ceNT => exact Mine.Internal.Take.sub (by (k_extra "take"))))
        | (refine Mine.Internal.hold ?_))
      k_with "pyIter ref" => k_dflt ((with_reducible show wpAny _ _ (pyIter (Value.ref _)) (fun it s₂ => LoopAtV _ _ _ _ _ _ _ _ _ it s₂) _ _); (with_reducible rename Fr _ _ _ _ => F0); (with_reducible rename News _ _ _ _ => N0); (with_reducible rename IsRange _ _ _ _ _ _ _ _ => rg9); (refine' Mine.Internal.loop_lp (cs := cs) ?lh_ceNT rg9 ?lb_ceNT (Mine.Internal.cs_len640 hT9 hlen) F0 N0 (by with_reducible assumption) ?lt_ceNT ?ld_ceNT); (case lh_ceNT => exact rfl); (case lb_ceNT => exact rfl); (case' lt_ceNT => (intro k9 i9 t9 u9 h9 tk9 own9 hk9 hi9 hlp9 F9 N9; (try clear F0 N0))); (case' ld_ceNT => (intro u9 h9 tk9 hlp9 F9 N9; (try clear F0 N0))); all_goals (try dsimp only [List.cons_append, List.nil_append] at N9); all_goals (try k_fold))
      k_with "LpGo" => k_dflt (first | (dsimp only [Mine.Internal.LpGo]; (fail_if_success (show Mine.Internal.LpEnd _ _ _ _ _ _ _ _ _)); (try k_fold)) | ((show Mine.Internal.LpEnd _ _ _ _ _ _ _ _ _); (with_reducible rename Fr _ _ _ _ => F9); (with_reducible rename News _ _ _ _ => N9); refine' Mine.Internal.lp_end F9 N9 ?lpn_ceNT (fun z9 hz9 => (if_neg hz9).trans rfl) (hlp9.trans (Mine.Internal.lp_step hk9 hi9 (by with_reducible assumption))); (case lpn_ceNT => exact (fun p9 hp9 => by (repeat (first | exact hp9 | refine List.mem_cons_of_mem _ ?_))))) | (refine Mine.Internal.hold ?_))
      k_with "subscriptTail" => k_dflt (first
        | ((with_reducible show wpAny _ _ (subscriptTail _ (Expr.Slice none (some _) none _) (Value.ref _) (Value.ref _)) _ _ _); (refine' kmk_slice_lit (lo := none) (hi := some (-1)) (zs := vs) ?slF1_ceNT ?slN1_ceNT ?sll1_ceNT ?slp1_ceNT ?slq1_ceNT (Mine.Internal.slice_neg1 vs cv) ?_ ?sls1_ceNT ?slt1_ceNT ?slz1_ceNT; (case slF1_ceNT => k_asm); (case slN1_ceNT => k_asm); (case sll1_ceNT => kmk_list); (case slp1_ceNT => kmk_part); (case slq1_ceNT => kmk_part); (case sls1_ceNT => with_unfolding_all rfl); (case slt1_ceNT => kmk_pure); (case slz1_ceNT => exact Mine.Internal.cs_size hvs hT9 hlen)); intro D' h' F' N' l1; (try k_lt l1); (try k_sweep))
        | ((with_reducible show wpAny _ _ (subscriptTail _ (Expr.Slice (some _) none none _) (Value.ref _) (Value.ref _)) _ _ _); (refine' kmk_slice_lit (lo := some (nm.length : Nat)) (hi := none) (zs := vs.drop nm.length) ?slF2_ceNT ?slN2_ceNT ?sll2_ceNT ?slp2_ceNT ?slq2_ceNT (Mine.Internal.slice_from' vs nm.length) ?_ ?sls2_ceNT ?slt2_ceNT ?slz2_ceNT; (case slF2_ceNT => k_asm); (case slN2_ceNT => k_asm); (case sll2_ceNT => kmk_list); (case slp2_ceNT => kmk_part); (case slq2_ceNT => kmk_part); (case sls2_ceNT => with_unfolding_all rfl); (case slt2_ceNT => kmk_pure); (case slz2_ceNT => exact Mine.Internal.cs_size0 hvs hT9 hlen)); intro D' h' F' N' l1; (try k_lt l1); (try k_sweep))
        | ((with_reducible show wpAny _ _ (subscriptTail _ (Expr.UnaryOp _ _ _) (Value.str ⟨List.toArray nm⟩ _) (Value.int _ _)) _ _ _); (try dsimp only); first | ((with_reducible refine' Mine.Internal.sub_lastc ?fa4x0_ceNT ?fa4x1_ceNT ?fa4x2_ceNT ?fa4x3_ceNT ?_); (case fa4x0_ceNT => exact hc9); (case fa4x1_ceNT => exact rfl); (case fa4x2_ceNT => exact (Mine.Internal.nm_pos ho9)); (case fa4x3_ceNT => exact (Mine.Internal.nm_fit ho9 hT9 hlen))) | ((refine Mine.Internal.sub_last rfl (Mine.Internal.nm_pos ho9) (Mine.Internal.nm_fit ho9 hT9 hlen) ?_); intro c9 hc9))
        | ((with_reducible show wpAny _ _ (subscriptTail _ (Expr.Name _ _) (Value.ref _) (Value.int (nm.length : Nat) _)) _ _ _); first | (refine' item_listL (News.isList ?N_ceNT ?m_ceNT) (Int.natCast_nonneg _) (Mine.Internal.nm_63 ho9 hT9 hlen) hx9 ?_; (case N_ceNT => k_asm); (case m_ceNT => k_mem); k_whole) | ((obtain ⟨xv9, hx9, hxv9⟩ := Mine.Internal.at_end hvs hcv hT9 ho9); (refine' item_listL (News.isList ?N_ceNT ?m_ceNT) (Int.natCast_nonneg _) (Mine.Internal.nm_63 ho9 hT9 hlen) hx9 ?_; (case N_ceNT => k_asm); (case m_ceNT => k_mem); k_whole); rcases hxv9 with ⟨ev8, er8⟩ | ⟨c8, t8, rr8, ev8, er8⟩ <;> subst ev8))
        | ((with_reducible show wpAny _ _ (subscriptTail _ _ (Value.ref 43) (Value.str ⟨List.toArray nm⟩ _)) _ _ _); (refine' Mine.Internal.item_ent ?F_ceNT ?X_ceNT ?e_ceNT ?hh_ceNT (Mine.Internal.nm_ent ho9) ?_; (case F_ceNT => k_asm); (case X_ceNT => k_asm); (case e_ceNT => kernel_rfl); (case hh_ceNT => kernel_rfl); k_whole); intro t9))
      k_with "subscriptTail Name Slice ref ref" => k_extra "subscriptTail"
      k_with "compareOp In" => (k_here; first
        | ((with_reducible show wpAny _ _ (compareOp CmpOp.In (Value.str ⟨#[_]⟩ _) (Value.ref 27)) _ _ _); k_dflt (refine' Mine.Internal.in_tupK ?F_ceNT ?X_ceNT ?hk_ceNT ?hi_ceNT ?he_ceNT ?_; (case F_ceNT => k_asm); (case X_ceNT => k_asm); (case hk_ceNT => k_is); (case hi_ceNT => repeat' constructor); (case he_ceNT => exact Mine.Internal.letters_any); k_whole))
        | ((with_reducible show wpAny _ _ (compareOp CmpOp.In (Value.str ⟨#[_]⟩ _) (Value.ref 32)) _ _ _); k_dflt (refine' Mine.Internal.in_tupK ?F_ceNT ?X_ceNT ?hk_ceNT ?hi_ceNT ?he_ceNT ?_; (case F_ceNT => k_asm); (case X_ceNT => k_asm); (case hk_ceNT => k_is); (case hi_ceNT => repeat' constructor); (case he_ceNT => exact Mine.Internal.dec_any); k_whole))
        | ((with_reducible show wpAny _ _ (compareOp CmpOp.In Value.none (Value.ref 27)) _ _ _); k_dflt (refine' Mine.Internal.in_tupK_none ?F_ceNT ?X_ceNT ?hk_ceNT ?hi_ceNT ?_; (case F_ceNT => k_asm); (case X_ceNT => k_asm); (case hk_ceNT => k_is); (case hi_ceNT => repeat' constructor); k_whole))
        | ((with_reducible show wpAny _ _ (compareOp CmpOp.In Value.none (Value.ref 32)) _ _ _); k_dflt (refine' Mine.Internal.in_tupK_none ?F_ceNT ?X_ceNT ?hk_ceNT ?hi_ceNT ?_; (case F_ceNT => k_asm); (case X_ceNT => k_asm); (case hk_ceNT => k_is); (case hi_ceNT => repeat' constructor); k_whole)))
      k_with "compareOp In str ref" => k_extra "compareOp In"
      k_with "compareOp In none ref" => k_extra "compareOp In"
      k_with "isTrue BoolOp" => k_dflt (skip; (fail_if_success (with_reducible show wpAny _ _ _ (Mine.Internal.MeetH _ _ _ _ _ _) _ _)); (with_reducible show wpAny _ _ (isTrue (Expr.BoolOp BoolOp.And [Expr.Compare _ [CmpOp.NotEq] _ _, _, _] _) _ _) _ _ _); (have hne9 : ((⟨#[c9]⟩ : Str) != Str.ofString ";") = true := (by with_reducible assumption)); (with_reducible rename Fr _ _ _ _ => F0); (with_reducible rename News _ _ _ _ => N0); (refine' Mine.Internal.wp_meetH (Mine.Internal.gluedC ((x.rem K.src).drop nm.length)) F0 N0 ?_ ?_); (intro h9 k9 F9 N9); clear F0 N0; (try dsimp only); (try k_fold))
      k_with "MeetH" => k_dflt (first
        | exact Mine.Internal.meetH_end (by assumption) (by assumption) (by first | exact Mine.Internal.glued_0 er8 | exact Mine.Internal.glued_a er8 (by with_reducible assumption) | exact Mine.Internal.glued_d er8 (by with_reducible assumption) | exact Mine.Internal.glued_e er8 (by with_reducible assumption) | exact Mine.Internal.glued_n er8 (by with_reducible assumption) (by with_reducible assumption) (by with_reducible assumption) | exact Mine.Internal.stop_nil er9 | exact Mine.Internal.stop_blank er9 (by with_reducible assumption) | exact Mine.Internal.stop_lt er9 (by with_reducible assumption) | exact Mine.Internal.stop_al er9 (by with_reducible assumption) | exact Mine.Internal.stop_no er9 (by with_reducible assumption) (by with_reducible assumption) | exact Mine.Internal.stop_no' er9 (by with_reducible assumption) (by with_reducible assumption) (by with_reducible assumption))
        | exact Mine.Internal.meetH_sub (by assumption) (by assumption) (by first | exact Mine.Internal.stop_nil er9 | exact Mine.Internal.stop_blank er9 (by with_reducible assumption) | exact Mine.Internal.stop_lt er9 (by with_reducible assumption) | exact Mine.Internal.stop_al er9 (by with_reducible assumption) | exact Mine.Internal.stop_no er9 (by with_reducible assumption) (by with_reducible assumption) | exact Mine.Internal.stop_no' er9 (by with_reducible assumption) (by with_reducible assumption) (by with_reducible assumption))
        | (refine Mine.Internal.hold ?_))
      k_with "subscriptTail Name UnaryOp ref int" => k_extra "subscriptTail"
      k_with "subscriptTail Name Name ref int" => k_extra "subscriptTail"
      k_with "subscriptTail Name Name ref str" => k_extra "subscriptTail"
      k_with "subscriptTail Name UnaryOp str int" => k_extra "subscriptTail"
      k_with "binaryOp Add str str" => k_dflt ((with_reducible show wpAny _ _ (binaryOp Operator.Add (Value.str _ _) (Value.str ⟨List.toArray cs⟩ _)) _ _ _); ((with_reducible refine' KOpn.add ?fa3x0_ceNT ?_); (case fa3x0_ceNT => exact (Mine.Internal.amp_fits hT9 hlen))); intro ti9 ki9 hi9)
      k_with "call builtin:list.append" => k_dflt ((with_reducible show wpAny _ _ (call (Value.builtin "list.append") ([Value.ref _] ++ [v'])) _ _ _); (dsimp only [List.cons_append, List.nil_append]); (refine' append_K ?y1_ceNT ?y2_ceNT ?y3_ceNT ?_ ?y4_ceNT; (case y1_ceNT => k_asm); (case y2_ceNT => k_asm); (case y3_ceNT => k_upd); (case y4_ceNT => size_fits); k_whole); intro h' F' N'; (try k_sweep))
      k_with "call builtin:list.pop" => k_dflt ((with_reducible show wpAny _ _ (call (Value.builtin "list.pop") [Value.ref _]) _ _ _); (try dsimp only); (refine' kl_pop ?F_ceNT ?N_ceNT (kpa_last cv vs) ?U_ceNT (Mine.Internal.cs_room hvs hT9 hlen) ?_; (case F_ceNT => k_asm); (case N_ceNT => k_asm); (case U_ceNT => k_upd); k_whole); intro h' F' N'; (try k_sweep))
      k_with "call ref" => k_dflt ((try dsimp only [List.cons_append, List.nil_append]); (with_reducible show wpAny _ _ (call (Value.ref 163) [Value.ref _, cv] _) _ _ _); (rcases hcv with ⟨e1, e2, e3⟩ | ⟨c2, t2, e1, e2, e3, e4⟩ <;> subst e1))
      k_with "MeetXS" => k_dflt ((with_reducible rename Fr _ _ _ _ => F9); (with_reducible rename News _ _ _ _ => N9); (try simp only [List.push_toArray] at N9); first
        | (have hs9 : Mine.Internal.stopC al (x.rem K.src) = true := (by with_reducible assumption); have hR9 := Mine.Internal.ceN_stop (fa := true) hs9; refine' Mine.Internal.ce_meet (fl := []) (adds := []) hR9 (by first | with_reducible assumption | exact KtsTurn.refl) F9 N9 ?em28_ceNT ?er28_ceNT ?eT28_ceNT ?eq28_ceNT ?ef28_ceNT ?eg28_ceNT ok' ?eo28_ceNT ?eu28_ceNT ?ek28_ceNT; (case em28_ceNT => exact rfl); (case er28_ceNT => (intro z9 hz9 hz8; obtain ⟨hy1, hy2, hy3, hy4⟩ := Mine.Internal.ce_names hz8; (repeat' (first | refine (if_neg hz9).trans ?_ | refine (if_neg hy1).trans ?_ | refine (if_neg hy2).trans ?_ | refine (if_neg hy3).trans ?_ | refine (if_neg hy4).trans ?_ | exact rfl)))); (case eT28_ceNT => (k_extra "take")); (case eq28_ceNT => exact (List.append_nil _).symm); (case ef28_ceNT => exact (fun _ h => nomatch h)); (case eg28_ceNT => exact (fun _ h => nomatch h)); (case eo28_ceNT => exact Mine.Internal.amp38); (case eu28_ceNT => exact (hx'.trans er9.symm)); (case ek28_ceNT => exact .nil))
        | (have hs9 : Mine.Internal.stopC al (x.rem K.src) = true := (by with_reducible assumption); have hR9 := Mine.Internal.ceN_stop (fa := true) hs9; refine' Mine.Internal.ce_meet (fl := []) (adds := []) hR9 (by first | with_reducible assumption | exact KtsTurn.refl) F9 N9 ?em29_ceNT ?er29_ceNT ?eT29_ceNT ?eq29_ceNT ?ef29_ceNT ?eg29_ceNT ok' ?eo29_ceNT ?eu29_ceNT ?ek29_ceNT; (case em29_ceNT => exact rfl); (case er29_ceNT => (intro z9 hz9 hz8; obtain ⟨hy1, hy2, hy3, hy4⟩ := Mine.Internal.ce_names hz8; (repeat' (first | refine (if_neg hz9).trans ?_ | refine (if_neg hy1).trans ?_ | refine (if_neg hy2).trans ?_ | refine (if_neg hy3).trans ?_ | refine (if_neg hy4).trans ?_ | exact rfl)))); (case eT29_ceNT => (k_extra "take")); (case eq29_ceNT => exact (List.append_nil _).symm); (case ef29_ceNT => exact (fun _ h => nomatch h)); (case eg29_ceNT => exact (fun _ h => nomatch h)); (case eo29_ceNT => exact Mine.Internal.amp38); (case eu29_ceNT => exact (ef9.trans er9.symm)); (case ek29_ceNT => exact .nil))
        | (have hu9 := (e3.trans e2.symm); have hs9 : Mine.Internal.stopC al (x.rem K.src) = false := (by with_reducible assumption); have hR9 := Mine.Internal.ceN_name (fa := true) (o := none) hs9 htk ho9; refine' Mine.Internal.ce_meet1 hR9 (by first | with_reducible assumption | exact KtsTurn.refl) F9 N9 ?em20_ceNT ?er20_ceNT ?eT20_ceNT ?eq20_ceNT ?eg20_ceNT sok ?eo20_ceNT ?eu20_ceNT ?ek20_ceNT; (case em20_ceNT => exact rfl); (case er20_ceNT => (intro z9 hz9 hz8; obtain ⟨hy1, hy2, hy3, hy4⟩ := Mine.Internal.ce_names hz8; (repeat' (first | refine (if_neg hz9).trans ?_ | refine (if_neg hy1).trans ?_ | refine (if_neg hy2).trans ?_ | refine (if_neg hy3).trans ?_ | refine (if_neg hy4).trans ?_ | exact rfl)))); (case eT20_ceNT => (k_extra "take")); (case eq20_ceNT => exact rfl); (case eg20_ceNT => exact (by k_extra "slt")); (case eo20_ceNT => exact Mine.Internal.out_app); (case eu20_ceNT => exact (e3.trans e2.symm)); (case ek20_ceNT => exact .cons ⟨_, _, rfl, .head _, Mine.Internal.not_mods (Nat.lt_trans htq9 (by k_extra "slt")), _, _, by assumption⟩ .nil)) | (have hu9 := (e3.trans e2.symm); have hs9 : Mine.Internal.stopC al (x.rem K.src) = false := (by with_reducible assumption); have hR8 := Mine.Internal.ceN_name (fa := true) hs9 htk ho9; have hR9 := hR8.trans (Mine.Internal.name_semi hc9 (Mine.Internal.eq59 (by with_reducible assumption))); refine' Mine.Internal.ce_meet (fl := []) (adds := []) hR9 (by first | with_reducible assumption | exact KtsTurn.refl) F9 N9 ?em21_ceNT ?er21_ceNT ?eT21_ceNT ?eq21_ceNT ?ef21_ceNT ?eg21_ceNT sok ?eo21_ceNT ?eu21_ceNT ?ek21_ceNT; (case em21_ceNT => exact rfl); (case er21_ceNT => (intro z9 hz9 hz8; obtain ⟨hy1, hy2, hy3, hy4⟩ := Mine.Internal.ce_names hz8; (repeat' (first | refine (if_neg hz9).trans ?_ | refine (if_neg hy1).trans ?_ | refine (if_neg hy2).trans ?_ | refine (if_neg hy3).trans ?_ | refine (if_neg hy4).trans ?_ | exact rfl)))); (case eT21_ceNT => (k_extra "take")); (case eq21_ceNT => exact (List.append_nil _).symm); (case ef21_ceNT => exact (fun _ h => nomatch h)); (case eg21_ceNT => exact (fun _ h => nomatch h)); (case eo21_ceNT => exact Mine.Internal.cat_toList _ _); (case eu21_ceNT => exact (e3.trans e2.symm)); (case ek21_ceNT => exact .nil)) | (have hu9 := (e3.trans e2.symm); have hs9 : Mine.Internal.stopC al (x.rem K.src) = false := (by with_reducible assumption); have hR8 := Mine.Internal.ceN_name (fa := true) hs9 htk ho9; have hR9 := hR8.trans (Mine.Internal.name_glued hc9 (Mine.Internal.ne59 (by with_reducible assumption)) (by with_reducible assumption)); refine' Mine.Internal.ce_meet1 hR9 (by first | with_reducible assumption | exact KtsTurn.refl) F9 N9 ?em22_ceNT ?er22_ceNT ?eT22_ceNT ?eq22_ceNT ?eg22_ceNT sok ?eo22_ceNT ?eu22_ceNT ?ek22_ceNT; (case em22_ceNT => exact rfl); (case er22_ceNT => (intro z9 hz9 hz8; obtain ⟨hy1, hy2, hy3, hy4⟩ := Mine.Internal.ce_names hz8; (repeat' (first | refine (if_neg hz9).trans ?_ | refine (if_neg hy1).trans ?_ | refine (if_neg hy2).trans ?_ | refine (if_neg hy3).trans ?_ | refine (if_neg hy4).trans ?_ | exact rfl)))); (case eT22_ceNT => (k_extra "take")); (case eq22_ceNT => exact rfl); (case eg22_ceNT => exact (by k_extra "slt")); (case eo22_ceNT => exact Mine.Internal.out_app); (case eu22_ceNT => exact (e3.trans e2.symm)); (case ek22_ceNT => exact .cons ⟨_, _, rfl, .head _, Mine.Internal.not_mods (Nat.lt_trans htq9 (by k_extra "slt")), _, _, by assumption⟩ .nil)) | (have hu9 := (e3.trans e2.symm); have hs9 : Mine.Internal.stopC al (x.rem K.src) = false := (by with_reducible assumption); have hR8 := Mine.Internal.ceN_name (fa := true) hs9 htk ho9; have hR9 := hR8.trans (Mine.Internal.name_free hc9 (Mine.Internal.ne59 (by with_reducible assumption)) (by with_reducible assumption)); refine' Mine.Internal.ce_meet2 hR9 (by first | with_reducible assumption | exact KtsTurn.refl) F9 N9 ?em23_ceNT ?er23_ceNT ?eT23_ceNT ?eq23_ceNT ?eg23_ceNT sok ?eo23_ceNT ?eu23_ceNT ?ek23_ceNT; (case em23_ceNT => exact rfl); (case er23_ceNT => (intro z9 hz9 hz8; obtain ⟨hy1, hy2, hy3, hy4⟩ := Mine.Internal.ce_names hz8; (repeat' (first | refine (if_neg hz9).trans ?_ | refine (if_neg hy1).trans ?_ | refine (if_neg hy2).trans ?_ | refine (if_neg hy3).trans ?_ | refine (if_neg hy4).trans ?_ | exact rfl)))); (case eT23_ceNT => (k_extra "take")); (case eq23_ceNT => exact rfl); (case eg23_ceNT => exact (by k_extra "slt")); (case eo23_ceNT => exact Mine.Internal.cat_toList _ _); (case eu23_ceNT => exact (e3.trans e2.symm)); (case ek23_ceNT => exact .cons ⟨_, _, rfl, .head _, Mine.Internal.not_mods (Nat.lt_trans htq9 (by k_extra "slt")), _, _, by assumption⟩ .nil)) | (have hu9 := (hx'.trans e2.symm); have hs9 : Mine.Internal.stopC al (x.rem K.src) = false := (by with_reducible assumption); have hR9 := Mine.Internal.ceN_name (fa := true) (o := none) hs9 htk ho9; refine' Mine.Internal.ce_meet1 hR9 (by first | with_reducible assumption | exact KtsTurn.refl) F9 N9 ?em24_ceNT ?er24_ceNT ?eT24_ceNT ?eq24_ceNT ?eg24_ceNT ok' ?eo24_ceNT ?eu24_ceNT ?ek24_ceNT; (case em24_ceNT => exact rfl); (case er24_ceNT => (intro z9 hz9 hz8; obtain ⟨hy1, hy2, hy3, hy4⟩ := Mine.Internal.ce_names hz8; (repeat' (first | refine (if_neg hz9).trans ?_ | refine (if_neg hy1).trans ?_ | refine (if_neg hy2).trans ?_ | refine (if_neg hy3).trans ?_ | refine (if_neg hy4).trans ?_ | exact rfl)))); (case eT24_ceNT => (k_extra "take")); (case eq24_ceNT => exact rfl); (case eg24_ceNT => exact (by k_extra "slt")); (case eo24_ceNT => exact Mine.Internal.out_app); (case eu24_ceNT => exact (hx'.trans e2.symm)); (case ek24_ceNT => exact .cons ⟨_, _, rfl, .head _, Mine.Internal.not_mods (Nat.lt_trans htq9 (by k_extra "slt")), _, _, by assumption⟩ .nil)) | (have hu9 := (hx'.trans e2.symm); have hs9 : Mine.Internal.stopC al (x.rem K.src) = false := (by with_reducible assumption); have hR8 := Mine.Internal.ceN_name (fa := true) hs9 htk ho9; have hR9 := hR8.trans (Mine.Internal.name_semi hc9 (Mine.Internal.eq59 (by with_reducible assumption))); refine' Mine.Internal.ce_meet (fl := []) (adds := []) hR9 (by first | with_reducible assumption | exact KtsTurn.refl) F9 N9 ?em25_ceNT ?er25_ceNT ?eT25_ceNT ?eq25_ceNT ?ef25_ceNT ?eg25_ceNT ok' ?eo25_ceNT ?eu25_ceNT ?ek25_ceNT; (case em25_ceNT => exact rfl); (case er25_ceNT => (intro z9 hz9 hz8; obtain ⟨hy1, hy2, hy3, hy4⟩ := Mine.Internal.ce_names hz8; (repeat' (first | refine (if_neg hz9).trans ?_ | refine (if_neg hy1).trans ?_ | refine (if_neg hy2).trans ?_ | refine (if_neg hy3).trans ?_ | refine (if_neg hy4).trans ?_ | exact rfl)))); (case eT25_ceNT => (k_extra "take")); (case eq25_ceNT => exact (List.append_nil _).symm); (case ef25_ceNT => exact (fun _ h => nomatch h)); (case eg25_ceNT => exact (fun _ h => nomatch h)); (case eo25_ceNT => exact Mine.Internal.cat_toList _ _); (case eu25_ceNT => exact (hx'.trans e2.symm)); (case ek25_ceNT => exact .nil)) | (have hu9 := (hx'.trans e2.symm); have hs9 : Mine.Internal.stopC al (x.rem K.src) = false := (by with_reducible assumption); have hR8 := Mine.Internal.ceN_name (fa := true) hs9 htk ho9; have hR9 := hR8.trans (Mine.Internal.name_glued hc9 (Mine.Internal.ne59 (by with_reducible assumption)) (by with_reducible assumption)); refine' Mine.Internal.ce_meet1 hR9 (by first | with_reducible assumption | exact KtsTurn.refl) F9 N9 ?em26_ceNT ?er26_ceNT ?eT26_ceNT ?eq26_ceNT ?eg26_ceNT ok' ?eo26_ceNT ?eu26_ceNT ?ek26_ceNT; (case em26_ceNT => exact rfl); (case er26_ceNT => (intro z9 hz9 hz8; obtain ⟨hy1, hy2, hy3, hy4⟩ := Mine.Internal.ce_names hz8; (repeat' (first | refine (if_neg hz9).trans ?_ | refine (if_neg hy1).trans ?_ | refine (if_neg hy2).trans ?_ | refine (if_neg hy3).trans ?_ | refine (if_neg hy4).trans ?_ | exact rfl)))); (case eT26_ceNT => (k_extra "take")); (case eq26_ceNT => exact rfl); (case eg26_ceNT => exact (by k_extra "slt")); (case eo26_ceNT => exact Mine.Internal.out_app); (case eu26_ceNT => exact (hx'.trans e2.symm)); (case ek26_ceNT => exact .cons ⟨_, _, rfl, .head _, Mine.Internal.not_mods (Nat.lt_trans htq9 (by k_extra "slt")), _, _, by assumption⟩ .nil)) | (have hu9 := (hx'.trans e2.symm); have hs9 : Mine.Internal.stopC al (x.rem K.src) = false := (by with_reducible assumption); have hR8 := Mine.Internal.ceN_name (fa := true) hs9 htk ho9; have hR9 := hR8.trans (Mine.Internal.name_free hc9 (Mine.Internal.ne59 (by with_reducible assumption)) (by with_reducible assumption)); refine' Mine.Internal.ce_meet2 hR9 (by first | with_reducible assumption | exact KtsTurn.refl) F9 N9 ?em27_ceNT ?er27_ceNT ?eT27_ceNT ?eq27_ceNT ?eg27_ceNT ok' ?eo27_ceNT ?eu27_ceNT ?ek27_ceNT; (case em27_ceNT => exact rfl); (case er27_ceNT => (intro z9 hz9 hz8; obtain ⟨hy1, hy2, hy3, hy4⟩ := Mine.Internal.ce_names hz8; (repeat' (first | refine (if_neg hz9).trans ?_ | refine (if_neg hy1).trans ?_ | refine (if_neg hy2).trans ?_ | refine (if_neg hy3).trans ?_ | refine (if_neg hy4).trans ?_ | exact rfl)))); (case eT27_ceNT => (k_extra "take")); (case eq27_ceNT => exact rfl); (case eg27_ceNT => exact (by k_extra "slt")); (case eo27_ceNT => exact Mine.Internal.cat_toList _ _); (case eu27_ceNT => exact (hx'.trans e2.symm)); (case ek27_ceNT => exact .cons ⟨_, _, rfl, .head _, Mine.Internal.not_mods (Nat.lt_trans htq9 (by k_extra "slt")), _, _, by assumption⟩ .nil))
        | (refine Mine.Internal.hold ?_))

      k_with "po" => k_dflt (first | exact PySem.PassesOwn.never | exact PySem.PassesOwnAt.never | assumption | exact PySem.PassesOwn.leaving | exact PySem.PassesOwnAt.leaving | exact PySem.PassesOwn.looking | exact PySem.PassesOwnAt.looking | (apply PySem.PassesOwnAt.leavingOf; first | apply PySem.SameStack.mark | apply PySem.SameStack.unmark) | (apply PySem.PassesOwnAt.lookingOf; first | apply PySem.SameStack.mark | apply PySem.SameStack.unmark) | (kfy_look; first | apply PySem.kfy_passes | (apply PySem.kfy_passesAt; first | apply PySem.SameStack.mark | apply PySem.SameStack.refl | apply PySem.SameStack.unmark)) | (intro _ _ h; exact h.elim))
      k_steps
      all_goals (with_reducible rename Fr _ _ _ _ => F9; with_reducible rename News _ _ _ _ => N9; (try simp only [List.push_toArray] at N9))
      all_goals (try rw [← Mine.Internal.Kz.kd_at hz6] at N9)
      all_goals first
        | (refine' Mine.Internal.ce_end (fl := fl9) (adds := adds9) ho hk hat T9 F9 N9 ?eT1_ceNT rfl ?ef1_ceNT hgt9 sok9 hrem9 hqis9 ?ev1_ceNT; (case eT1_ceNT => (k_extra "take")); (case ef1_ceNT => exact (fun p9 hp9 => by (repeat (first | exact List.mem_append_left _ hp9 | refine List.mem_cons_of_mem _ ?_)))); (case ev1_ceNT => exact Mine.Internal.val_app hout9))
        | ((have hsp9 := Mine.Internal.space_is hout9 (by with_reducible assumption)); refine' Mine.Internal.ce_end (fl := (_, _) :: fl9) (adds := adds9 ++ [.ref _]) ho hk hat T9 F9 N9 ?eT2_ceNT (List.append_assoc _ _ _) ?ef2_ceNT ?eg2_ceNT sok9 hrem9 (Mine.Internal.ks_tok hqis9 hout9 hsp9 ?em2_ceNT ⟨_, _, ?ed2_ceNT⟩) rfl; (case ed2_ceNT => assumption); (case eT2_ceNT => (k_extra "take")); (case ef2_ceNT => exact List.forall_mem_cons.mpr ⟨by k_mem, (fun p9 hp9 => by (repeat (first | exact List.mem_append_left _ hp9 | refine List.mem_cons_of_mem _ ?_)))⟩); (case eg2_ceNT => exact List.forall_mem_cons.mpr ⟨(by k_extra "slt"), hgt9⟩); (case em2_ceNT => exact Mine.Internal.not_mods (Nat.lt_trans htq9 (by k_extra "slt"))))
        | fail
  have ctr_ceNF {w : World} {loose : List Str} {mean : ExcName → Option Value} {mg mb : Str → Option Value} {K : Ks} {Z : Kz} {m7 : Tok} {tq : Addr} {B9 : At} {qs : List Value} {qn : Nat} {x : St} {val : Str} {vt : Tok} {av : Value} {al : Option Nat}  (ho : K.ord) (hk : @LT.lt Nat _ Z.zd Z.za ∧ @LT.lt Nat _ Z.za K.sd ∧ @LT.lt Nat _ K.er tq) (hat : B9.ord tq) (hz6 : Z.v6 = .ref B9.ct) (hcd : B9.co.IsDictOf (PySem.strKind PySem.Challenge.rw_te0076_01.row.prog w) [(Str.ofString "data", .ref B9.dl)]) (ok : x.ok K.src) (hlen : (x.rem K.src).length ≤ 640) (hq : qs.length ≤ 100000) (hval : val.length ≤ 100000) (hal : AllowIs av al) (hno : ∀ t, x.rem K.src ≠ 35 :: t) :
      CtrS PySem.Challenge.rw_te0076_01.row.prog w (main.heap_1_39 w.params) (Top main.view_1_40 loose mean mg mb) 440 400 (.ref 283) ⟨[.ref Z.za, av, .bool false], []⟩ (Mine.Internal.Lz w K Z m7 tq B9 qs qn val vt (K.led w x)) (CeP PySem.Challenge.rw_te0076_01.row.prog w K Z m7 tq B9 qs val (ceN al false (x.rem K.src)) false) := by
    as_aux_lemma =>
      clear ctr_is_invalid ctr_charErrors ctr_read ctr_readE ctr_position0 ctr_unget ctr_ungetN ctr_ungetS ctr_readN ctr_readC ctr_readA ctr_char ctr_until ctr_tinit call_until call_tok ctr_bisect ctr_ceNT
      have htq9 := Mine.Internal.one_lt_tq5 ho hk
      have hk1 := hk.2.2
      have hk2 := hk.2.1
      have hk3 := Nat.lt_trans hk.1 hk.2.1
      unfold Mine.Internal.Lz
      k_with_none
      k_with "pos" => (repeat' (first | exact Mine.Internal.PosL.nil | (apply Mine.Internal.PosL.cons 0; exact rfl) | (apply Mine.Internal.PosL.cons 1; exact rfl) | (apply Mine.Internal.PosL.cons 2; exact rfl) | (apply Mine.Internal.PosL.cons 3; exact rfl) | (apply Mine.Internal.PosL.cons 4; exact rfl) | (apply Mine.Internal.PosL.cons 5; exact rfl) | (apply Mine.Internal.PosL.cons 6; exact rfl) | (apply Mine.Internal.PosL.cons 7; exact rfl) | (apply Mine.Internal.PosL.cons 8; exact rfl) | (apply Mine.Internal.PosL.cons 9; exact rfl) | (apply Mine.Internal.PosL.cons 10; exact rfl) | (apply Mine.Internal.PosL.cons 11; exact rfl) | (apply Mine.Internal.PosL.cons 12; exact rfl) | (apply Mine.Internal.PosL.cons 13; exact rfl) | (apply Mine.Internal.PosL.cons 14; exact rfl) | (apply Mine.Internal.PosL.cons 15; exact rfl) | (apply Mine.Internal.PosL.cons 16; exact rfl) | (apply Mine.Internal.PosL.cons 17; exact rfl) | (apply Mine.Internal.PosL.cons 18; exact rfl) | (apply Mine.Internal.PosL.cons 19; exact rfl) | (apply Mine.Internal.PosL.cons 20; exact rfl) | (apply Mine.Internal.PosL.cons 21; exact rfl) | (apply Mine.Internal.PosL.cons 22; exact rfl) | (apply Mine.Internal.PosL.cons 23; exact rfl)))
      k_with "slt" => exact Mine.Internal.Srt.lt (by with_reducible assumption) (by ((repeat (first | (with_reducible_and_instances refine Mine.Internal.Aft.here ?_; (repeat (first | with_reducible_and_instances exact List.Mem.head _ | with_reducible_and_instances refine List.Mem.tail _ ?_)); done) | with_reducible refine Mine.Internal.Aft.there ?_)); all_goals fail))
      k_with "take" => k_dflt ((try dsimp only); repeat' (first | exact Mine.Internal.Take.nil | exact Mine.Internal.Del.head | refine' Mine.Internal.Take.blk ?_ | exact Mine.Internal.Tl.nil | exact Mine.Internal.Tl.app | refine' Mine.Internal.Take.cons ?_ ?_ | refine' Mine.Internal.Del.tail ?_ | refine' Mine.Internal.Tl.cons ?_))
      k_with "upd" => (exact Mine.Internal.Srt.updP (by with_reducible assumption) (by repeat' (first | exact Mine.Internal.UpdI.head | refine' Mine.Internal.UpdI.tail ?_)) (by k_dflt (k_extra "pos")) (by exact rfl))
      k_with "all" => exact Mine.Internal.Ks.ne_all (by with_reducible assumption) (by first | exact .inr (by k_extra "slt") | exact .inl (by k_extra "slt"))
      k_with "ne" => (refine neN ?_; first | exact Mine.Internal.Srt.ne (by with_reducible assumption) (by with_reducible solve_by_elim (maxDepth := 40) only [Mine.Internal.Apart.l, Mine.Internal.Apart.r, Mine.Internal.Apart.t, List.Mem.head, List.Mem.tail]) | ((try dsimp only); omega))
      k_with "lt" => (intro h9l; first | ((with_reducible rename Mine.Internal.Srt _ => S8); (first | (have S9 := Mine.Internal.Srt.grow S8 (h9l (_, _) (by k_dflt k_mem)); clear S8) | (have S9 := Mine.Internal.Srt.grow S8.tl (h9l (_, _) (by k_dflt k_mem)); clear S8) | (have S9 := Mine.Internal.Srt.grow S8.tl.tl (h9l (_, _) (by k_dflt k_mem)); clear S8)); clear h9l) | (replace h9l := allLt_of h9l; simp only [AllLt, and_true] at h9l))
      k_with "subscriptTail" => (k_here; (with_reducible show wpAny _ _ (subscriptTail _ _ (Value.str _ _) (Value.int _ _)) _ _ _); (refine Mine.Internal.sub_chr (by omega) (by omega) (by assumption) ?_))
      k_with "getMethod ref" => (k_here; k_dflt (first | (refine' method_inst ?k1_ceNF ?k2_ceNF ?k3_ceNF ?k4_ceNF ?k5_ceNF ?k6_ceNF ?k7_ceNF ?_; (case k1_ceNF => k_asm); (case k2_ceNF => k_asm); (case k3_ceNF => k_inst); (case k4_ceNF => k_is); (case k5_ceNF => k_is); (case k6_ceNF => k_is); (case k7_ceNF => k_get); k_whole) | (refine' kmu_own ?k1_ceNF ?k2_ceNF ?k3_ceNF ?k4_ceNF ?k5_ceNF ?_; (case k1_ceNF => k_asm); (case k2_ceNF => k_asm); (case k3_ceNF => k_inst); (case k4_ceNF => k_is); (case k5_ceNF => k_is); k_whole)))
      k_with "getMethod ref" => (k_here; (with_reducible show wpAny _ _ (getMethod (Value.ref _) (PySem.Str.ofString "append") _) _ _ _); k_dflt (refine' kl_method ?N_ceNF ?m_ceNF slot_list_append type_list_append ?_; (case N_ceNF => k_asm); (case m_ceNF => k_mem); k_whole))
      k_with "subscriptTail Name UnaryOp str int" => (k_here; (with_reducible show wpAny _ _ (subscriptTail _ _ (Value.str _ _) (Value.int _ _)) _ _ _); (refine Mine.Internal.sub_last (by omega) (by omega) (by omega) ?_); intro c9 hc9; (try (k_dflt (have hs9 := Mine.Internal.last_lt (B := 55296) (by assumption) (by assumption) hc9))))
      k_with "execs cons" => (k_here; (with_reducible show wpAny _ _ _ _ _ (Shared.mk _ _ _ (_ + _) _)); (refine Mine.Internal.gentoks ?_); intro tkg9 htk9; (try dsimp only at htk9))
      k_with "call builtin:len" => (k_here; (with_reducible show wpAny _ _ (call (Value.builtin "len") [Value.str _ _]) _ _ _); (refine SBL.len (by first | omega | exact Mine.Internal.fit63 (by (refine Nat.le_trans (m := 10000) ?_ (by decide); repeat' (first | with_reducible assumption | with_reducible refine Mine.Internal.slice_len_le ?_ | (with_reducible refine Nat.le_trans (Mine.Internal.replace_len (by decide +kernel) (by decide +kernel)) ?_) | exact (by decide +kernel))))) ?_))
      k_with "exec Assign" => ((with_reducible show wpAny _ _ _ _ _ _); k_fold)
      k_with "exec Expr" => ((with_reducible show wpAny _ _ _ _ _ _); k_fold)
      k_with "exec If" => ((with_reducible show wpAny _ _ _ _ _ _); k_fold)
      k_with "exec While" => ((with_reducible show wpAny _ _ _ _ _ _); k_fold)
      k_with "size" => k_dflt (first | exact Nat.le_of_ble_eq_true rfl | ((with_reducible show Array.size (List.toArray _) ≤ PySem.sizeLine); rw [List.size_toArray, PySem.sizeLine_eq]; refine Nat.le_trans (m := 100002) ?_ (Nat.le_of_ble_eq_true rfl); first | with_reducible assumption | exact Nat.le_trans (m := 100000) (by with_reducible assumption) (Nat.le_of_ble_eq_true rfl)))
      k_with "subscriptTail Name Constant ref int" => k_extra "subscriptTail"
      k_with "tok" => (first | exact Nat.le_add_left 1 _ | with_reducible assumption | exact Nat.le_trans (Nat.le_add_left 1 _) (by with_reducible assumption))
      k_with "next" => (first | ((with_reducible refine Mine.Internal.nextS (g := gens9) (d := dr9) (o := os9) ?_); intro qk9 tkg9) | ((with_reducible refine Mine.Internal.lastS (g := gens9) (d := dr9) (o := os9) ?_); intro tkg9) | (with_reducible refine Mine.Internal.nilS ?_) | (with_reducible refine Mine.Internal.fin9 ?_) | (with_reducible refine Mine.Internal.fin0 ?_) | (with_reducible refine Mine.Internal.finS9 ?_) | (with_reducible refine Mine.Internal.finS0 ?_) | ((with_reducible refine Mine.Internal.nextU (g := gens9) (d := dr9) (o := os9) ?_ ?_); (k_extra "tok"); intro qk9 tkg9) | ((with_reducible refine Mine.Internal.lastU (g := gens9) (d := dr9) (o := os9) ?_ ?_); (k_extra "tok"); intro tkg9) | ((with_reducible refine Mine.Internal.nextZ (g := gens9) (d := dr9) (o := os9) ?_); intro qk9 tkg9) | ((with_reducible refine Mine.Internal.lastZ (g := gens9) (d := dr9) (o := os9) ?_); intro tkg9))
      k_with "subscriptTail" => (first | ((fail_if_success (with_reducible show wpAny _ _ (subscriptTail _ (Expr.Slice _ _ _ _) _ _) _ _ _)); dsimp only) | ((with_reducible show wpAny _ _ (subscriptTail _ _ (Value.ref _) (Value.str (PySem.Str.ofString "data") _)) _ _ _); k_here; k_dflt (refine kdt_tail (knd := PySem.strKind _ _) (by k_asm) (by k_mem) (by k_asm) ?_)) | ((with_reducible show wpAny _ _ (subscriptTail (Expr.Subscript _ _ _) (Expr.UnaryOp _ _ _) (Value.ref _) (Value.int _ _)) _ _ _); k_here; k_dflt (refine' Mine.Internal.item_lastT ?iN_ceNF ?im_ceNF ?ik_ceNF ?_; (case iN_ceNF => k_asm); (case im_ceNF => k_mem); (case ik_ceNF => rfl); k_whole)))
      k_with "execs cons" => k_extra "next"
      k_with "execs nil" => (with_reducible refine Mine.Internal.nilS ?_)
      k_with "eval Constant int" => (with_reducible refine Mine.Internal.c_int (g := gens9) (d := dr9) (o := os9) ?_)
      k_with "eval Constant str" => (with_reducible refine Mine.Internal.c_str (g := gens9) (d := dr9) (o := os9) ?_)
      k_with "eval Attribute Name" => (k_here; k_dflt (refine' Mine.Internal.at_name (gs := gens9) (d := dr9) (o := os9) ?nF_ceNF ?nX_ceNF ?nN_ceNF ?nv_ceNF ?n1_ceNF ?n2_ceNF ?ng_ceNF ?nh_ceNF ?na_ceNF ?nn_ceNF ?nl_ceNF ?nd_ceNF ?_; (case nF_ceNF => k_asm); (case nX_ceNF => k_asm); (case nN_ceNF => k_asm); (case nv_ceNF => exact rfl); (case n1_ceNF => k_mem); (case n2_ceNF => k_mem); (case ng_ceNF => k_is); (case nh_ceNF => k_is); (case na_ceNF => k_is); (case nn_ceNF => k_is); (case nl_ceNF => k_get); (case nd_ceNF => k_handed); k_whole))
      k_with "storeName" => (first | (k_here; ktx_write) | (k_here; k_dflt (refine' Mine.Internal.st_name (gs := gens9) (d := dr9) (o := os9) ?tF_ceNF ?tN_ceNF ?_; (case tF_ceNF => k_asm); (case tN_ceNF => k_asm); k_whole; intro m9 h' F' N'; (try k_sweep))))
      k_with "call ref" => ((fail_if_success (with_reducible show wpAny _ _ (call (Value.ref 227) _ _) _ _ _)); (fail_if_success (with_reducible show wpAny _ _ (call (Value.ref 199) _ _) _ _ _)); refine Mine.Internal.hold ?_)
      k_with "lt" => (intro h9l; ((with_reducible rename Mine.Internal.Srt _ => S8); (have S9 := Mine.Internal.Srt.grow S8 (h9l (_, _) (by k_dflt k_mem))); clear S8))
      k_with "ne" => (refine neN ?_; first | exact Mine.Internal.ne_by (by with_reducible assumption) (by k_dflt k_mem) | exact Mine.Internal.ne_by' (by with_reducible assumption) (by k_dflt k_mem) | exact Mine.Internal.Srt.ne (by with_reducible assumption) (by with_reducible solve_by_elim (maxDepth := 40) only [Mine.Internal.Apart.l, Mine.Internal.Apart.r, Mine.Internal.Apart.t, List.Mem.head, List.Mem.tail]))
      k_with "getMethod ref" => (k_here; (with_reducible show wpAny _ _ (getMethod (Value.ref (Mine.Internal.Ks.st _)) _ _) _ _ _); k_dflt (refine' Mine.Internal.meth_blk ?F_ceNF ?X_ceNF ?N_ceNF ?tk_ceNF ?hg_ceNF ?hf_ceNF ?ht_ceNF ?hl_ceNF ?_; (case F_ceNF => k_asm); (case X_ceNF => k_asm); (case N_ceNF => k_asm); (case tk_ceNF => (k_extra "take")); (case hg_ceNF => k_is); (case hf_ceNF => k_is); (case ht_ceNF => k_is); (case hl_ceNF => exact rfl); k_whole))
      k_with "call ref" => (k_here; (with_reducible show wpAny _ _ (call (Value.ref 133) _ _) _ _ _); k_dflt (refine' call_char ?p1_ceNF ?p2_ceNF ?cB_ceNF ?cF_ceNF ?cX_ceNF ?cT_ceNF ?ca_ceNF ?cb_ceNF ?cc_ceNF ?ce_ceNF ?cd_ceNF ?cu_ceNF ?cN_ceNF ?tk_ceNF ?ne_ceNF ?_; (case p1_ceNF => with_reducible assumption); (case p2_ceNF => with_reducible assumption); (case cF_ceNF => k_asm); (case cB_ceNF => k_asm); (case cX_ceNF => k_asm); (case cT_ceNF => k_asm); (case ca_ceNF => exact rfl); (case cb_ceNF => exact rfl); (case cc_ceNF => exact rfl); (case ce_ceNF => exact rfl); (case cd_ceNF => exact Nat.le_of_ble_eq_true rfl); (case cu_ceNF => exact Nat.le_of_ble_eq_true rfl); (case cN_ceNF => k_asm); (case tk_ceNF => (k_extra "take")); (case ne_ceNF => repeat' (first | exact Mine.Internal.Outs.nil | refine' Mine.Internal.Outs.hi (by with_reducible assumption) ?_ | refine' Mine.Internal.Outs.lo (by with_reducible assumption) ?_ | refine' Mine.Internal.Outs.hi (by k_extra "slt") ?_)); k_whole; intro x' v' h' tk' ok' hx' htk' F' N'; (try dsimp only at htk'); (try dsimp only [List.cons_append, List.nil_append] at N'); (try k_sweep); (try dsimp only); (try k_fold)))
      k_with "call ref" => (k_here; (with_reducible show wpAny _ _ (call (Value.ref 163) [Value.ref _, Value.none] _) _ _ _); k_dflt (refine' call_ungetN  ?cB_ceNF ?cF_ceNF ?cX_ceNF ?cT_ceNF ?ca_ceNF ?cb_ceNF ?cc_ceNF ?ce_ceNF ?cd_ceNF ?cu_ceNF ?cN_ceNF  ?_; (case cF_ceNF => k_asm); (case cB_ceNF => k_asm); (case cX_ceNF => k_asm); (case cT_ceNF => k_asm); (case ca_ceNF => exact rfl); (case cb_ceNF => exact rfl); (case cc_ceNF => exact rfl); (case ce_ceNF => exact rfl); (case cd_ceNF => exact Nat.le_of_ble_eq_true rfl); (case cu_ceNF => exact Nat.le_of_ble_eq_true rfl); (case cN_ceNF => k_asm); k_whole; intro h' tk' htk' F' N'; (try dsimp only at htk'); (try dsimp only [List.cons_append, List.nil_append] at N'); (try k_sweep); (try dsimp only); (try k_fold)))
      k_with "call ref" => (k_here; (with_reducible show wpAny _ _ (call (Value.ref 163) [Value.ref _, Value.str ⟨#[_]⟩ _] _) _ _ _); k_dflt (refine' call_unget ?p1_ceNF ?p2_ceNF ?p3_ceNF ?p4_ceNF ?cB_ceNF ?cF_ceNF ?cX_ceNF ?cT_ceNF ?ca_ceNF ?cb_ceNF ?cc_ceNF ?ce_ceNF ?cd_ceNF ?cu_ceNF ?cN_ceNF ?tk_ceNF ?ne_ceNF ?_; (case p1_ceNF => with_reducible assumption); (case p2_ceNF => with_reducible assumption); (case p3_ceNF => with_reducible assumption); (case p4_ceNF => with_reducible assumption); (case cF_ceNF => k_asm); (case cB_ceNF => k_asm); (case cX_ceNF => k_asm); (case cT_ceNF => k_asm); (case ca_ceNF => exact rfl); (case cb_ceNF => exact rfl); (case cc_ceNF => exact rfl); (case ce_ceNF => exact rfl); (case cd_ceNF => exact Nat.le_of_ble_eq_true rfl); (case cu_ceNF => exact Nat.le_of_ble_eq_true rfl); (case cN_ceNF => k_asm); (case tk_ceNF => (k_extra "take")); (case ne_ceNF => repeat' (first | exact Mine.Internal.Outs.nil | refine' Mine.Internal.Outs.hi (by with_reducible assumption) ?_ | refine' Mine.Internal.Outs.lo (by with_reducible assumption) ?_ | refine' Mine.Internal.Outs.hi (by k_extra "slt") ?_)); k_whole; intro x' h' tk' ok' hx' htk' F' N'; (try dsimp only at htk'); (try dsimp only [List.cons_append, List.nil_append] at N'); (try k_sweep); (try dsimp only); (try k_fold)))
      k_with "subscriptTail" => (k_here; first
      | ((with_reducible show wpAny _ _ (subscriptTail _ _ (Value.ref 48) (Value.str _ _)) _ _ _); k_dflt (first | (refine' Mine.Internal.item_tok 7 ?F_ceNF ?X_ceNF ?he_ceNF ?hh_ceNF ?hl_ceNF ?_; (case hl_ceNF => kernel_rfl)) | (refine' Mine.Internal.item_tok 1 ?F_ceNF ?X_ceNF ?he_ceNF ?hh_ceNF ?hl_ceNF ?_; (case hl_ceNF => kernel_rfl)) | (refine' Mine.Internal.item_tok 2 ?F_ceNF ?X_ceNF ?he_ceNF ?hh_ceNF ?hl_ceNF ?_; (case hl_ceNF => kernel_rfl)) | (refine' Mine.Internal.item_tok 3 ?F_ceNF ?X_ceNF ?he_ceNF ?hh_ceNF ?hl_ceNF ?_; (case hl_ceNF => kernel_rfl))); (case F_ceNF => k_asm); (case X_ceNF => k_asm); (case he_ceNF => kernel_rfl); (case hh_ceNF => kernel_rfl); k_whole; intro t9)
      | ((with_reducible show wpAny _ _ (subscriptTail _ _ (Value.ref 46) (Value.int _ _)) _ _ _); k_dflt (refine' Mine.Internal.item_repl ?F_ceNF ?X_ceNF ?hk_ceNF ?hz_ceNF ?_; (case F_ceNF => k_asm); (case X_ceNF => k_asm); (case hk_ceNF => kernel_rfl); (case hz_ceNF => with_reducible assumption); k_whole); intro t9))
      k_with "eval Dict" => (k_here; (with_reducible show wpAny _ _ (eval (Expr.Dict (_ :: _) _ _) _) _ _ _); k_dflt (refine' kdn_str ?q_ceNF ?F_ceNF ?N_ceNF ?b_ceNF ?a_ceNF ?l_ceNF ?e_ceNF ?n_ceNF ?_; (case q_ceNF => rfl); (case F_ceNF => k_asm); (case N_ceNF => first | k_asm | exact News.nil); (case b_ceNF => exact Top.nolimit (by k_asm)); (case a_ceNF => rfl); (case l_ceNF => rfl); (case e_ceNF => exact List.cons_ne_nil _ _); (case n_ceNF => exact Nat.le_of_ble_eq_true rfl)); intro d' h' o' F' N' l1 lo' hd'; (try k_lt l1))
      k_with "callWith" => (k_here; (with_reducible show wpAny _ _ (callWith _ (Value.builtin _) (_ :: _) (backTo _ (starEach [Expr.Dict _ _ _] _)) []) _ _ _); k_dflt (refine callWith_method1 ?_; k_whole))
      k_with "spliced" => (k_here; (with_reducible show wpAny _ _ (spliced (backTo _ (starEach [Expr.Dict _ _ _] _))) _ _ _); k_dflt (refine args_cons ?_; k_whole))
      k_with "subscriptTail" => (k_here; first
      | ((with_reducible show wpAny _ _ (subscriptTail (Expr.Name _ _) (Expr.Constant _ _ _) (Value.ref _) (Value.int _ _)) _ _ _); k_dflt (refine' item_listL (News.isList ?N_ceNF ?m_ceNF) ?h0_ceNF ?h1_ceNF ?hx_ceNF ?_; (case N_ceNF => k_asm); (case m_ceNF => k_mem); (case h0_ceNF => decide); (case h1_ceNF => decide); (case hx_ceNF => rfl); k_whole))
      | ((with_reducible show wpAny _ _ (subscriptTail (Expr.Name _ _) (Expr.UnaryOp _ _ _) (Value.ref _) (Value.int _ _)) _ _ _); k_dflt (refine' Mine.Internal.item_negL (News.isList ?N_ceNF ?m_ceNF) ?h0_ceNF ?h1_ceNF ?h2_ceNF ?hx_ceNF ?_; (case N_ceNF => k_asm); (case m_ceNF => k_mem); (case h0_ceNF => decide); (case h1_ceNF => exact of_decide_eq_true rfl); (case h2_ceNF => decide); (case hx_ceNF => rfl); k_whole)))
      k_with "compareOp In" => (k_here; first
      | ((with_reducible show wpAny _ _ (compareOp CmpOp.In Value.none (Value.ref _)) _ _ _); k_dflt (refine' Mine.Internal.in_elt_none ?N_ceNF ?m_ceNF ?_; (case N_ceNF => k_asm); (case m_ceNF => k_mem); k_whole))
      | ((with_reducible show wpAny _ _ (compareOp CmpOp.In (Value.str ⟨#[_]⟩ _) (Value.ref _)) _ _ _); k_dflt (refine' Mine.Internal.in_elt_chr ?N_ceNF ?m_ceNF ?_; (case N_ceNF => k_asm); (case m_ceNF => k_mem); k_whole))
      | ((with_reducible show wpAny _ _ (compareOp CmpOp.In (Value.str ⟨#[_]⟩ _) (Value.ref _)) _ _ _); k_dflt (refine' Mine.Internal.in_tupN ?N_ceNF ?m_ceNF ?hi_ceNF ?he_ceNF ?_; (case N_ceNF => k_asm); (case m_ceNF => k_mem); (case hi_ceNF => repeat' constructor); (case he_ceNF => exact Mine.Internal.xX_any); k_whole))
      | ((with_reducible show wpAny _ _ (compareOp CmpOp.In Value.none (Value.ref _)) _ _ _); k_dflt (refine' Mine.Internal.in_tupN_none ?N_ceNF ?m_ceNF ?hi_ceNF ?_; (case N_ceNF => k_asm); (case m_ceNF => k_mem); (case hi_ceNF => repeat' constructor); k_whole)))
      k_with "compareOp In" => (k_here; first
      | ((with_reducible show wpAny _ _ (compareOp CmpOp.In (Value.str ⟨#[_]⟩ _) (Value.ref _)) _ _ _); k_dflt (refine' Mine.Internal.in_tupK ?F_ceNF ?X_ceNF ?hk_ceNF ?hi_ceNF ?he_ceNF ?_; (case F_ceNF => k_asm); (case X_ceNF => k_asm); (case hk_ceNF => k_is); (case hi_ceNF => repeat' constructor); (case he_ceNF => first | exact Mine.Internal.dec_any | exact Mine.Internal.hex_any); k_whole))
      | ((with_reducible show wpAny _ _ (compareOp CmpOp.In Value.none (Value.ref _)) _ _ _); k_dflt (refine' Mine.Internal.in_tupK_none ?F_ceNF ?X_ceNF ?hk_ceNF ?hi_ceNF ?_; (case F_ceNF => k_asm); (case X_ceNF => k_asm); (case hk_ceNF => k_is); (case hi_ceNF => repeat' constructor); k_whole)))
      k_with "compareOp In" => (k_here; first
      | ((with_reducible show wpAny _ _ (compareOp CmpOp.In (Value.str ⟨#[_]⟩ _) (Value.ref 22)) _ _ _); k_dflt (refine' Mine.Internal.in_tupK ?F_ceNF ?X_ceNF ?hk_ceNF ?hi_ceNF ?he_ceNF ?_; (case F_ceNF => k_asm); (case X_ceNF => k_asm); (case hk_ceNF => k_is); (case hi_ceNF => repeat' constructor); (case he_ceNF => exact Mine.Internal.blank_any); k_whole))
      | ((with_reducible show wpAny _ _ (compareOp CmpOp.In (Value.str _ _) (Value.ref 22)) _ _ _); k_dflt (refine' Mine.Internal.in_tupX ?F_ceNF ?X_ceNF ?hk_ceNF ?hi_ceNF ?he_ceNF ?_; (case F_ceNF => k_asm); (case X_ceNF => k_asm); (case hk_ceNF => k_is); (case hi_ceNF => repeat' constructor); (case he_ceNF => exact Mine.Internal.space_any _); k_whole))
      | ((with_reducible show wpAny _ _ (compareOp CmpOp.In Value.none (Value.ref 22)) _ _ _); k_dflt (refine' Mine.Internal.in_tupK_none ?F_ceNF ?X_ceNF ?hk_ceNF ?hi_ceNF ?_; (case F_ceNF => k_asm); (case X_ceNF => k_asm); (case hk_ceNF => k_is); (case hi_ceNF => repeat' constructor); k_whole)))
      k_with "all" => first | exact Mine.Internal.tail_ne (by with_reducible assumption) (fun p9 hp9 => by repeat (first | exact hp9 | exact List.mem_append_left _ hp9 | refine List.mem_cons_of_mem _ ?_)) (by with_reducible assumption) (.inr (by k_extra "slt")) | ((with_reducible apply Mine.Internal.tail_gt); (with_reducible assumption); (first | exact Nat.le_of_lt (by k_extra "slt") | exact Nat.le_refl _); (with_reducible assumption); exact .inr (by k_extra "slt"))
      k_with "call ref" => (k_here; (with_reducible show wpAny _ _ (call (Value.ref 220) _ _) _ _ _); k_dflt (refine' Mine.Internal.Ctr.useN (gs := gens9) (d := dr9) (o := os9) (Mine.Internal.CtrC.call ctr_haskeys) ?cB_ceNF ?cF_ceNF ?cX_ceNF ?cN_ceNF ?cT_ceNF ?ca_ceNF ?cb_ceNF ?cc_ceNF ?ce_ceNF ?cd_ceNF ?cu_ceNF ?ck_ceNF ?cne_ceNF ?_; (case cB_ceNF => k_asm); (case cF_ceNF => k_asm); (case cX_ceNF => k_asm); (case cT_ceNF => k_asm); (case cN_ceNF => k_asm); (case ca_ceNF => exact rfl); (case cb_ceNF => exact rfl); (case cc_ceNF => exact rfl); (case ce_ceNF => exact rfl); (case cd_ceNF => exact Nat.le_of_ble_eq_true rfl); (case cu_ceNF => exact Nat.le_of_ble_eq_true rfl); (case ck_ceNF => ((try (refine' Mine.Internal.Take.cons ?_ ?_)); repeat' (first | exact Mine.Internal.Take.nil | exact Mine.Internal.Del.head | refine' Mine.Internal.Take.cons ?_ ?_ | refine' Mine.Internal.Del.tail ?_))); (case cne_ceNF => first | exact List.forall_mem_nil _ | exact (fun _ _ => List.forall_mem_nil _) | exact Mine.Internal.Srt.neL (by with_reducible assumption) (by k_extra "pos") (by k_extra "pos") (by exact rfl) | ((simp only [List.forall_mem_cons, List.not_mem_nil, false_implies, implies_true, and_true, true_and]); (repeat' (refine And.intro ?_ ?_)); all_goals k_ne)); (k_whole; intro v' l' hp'; obtain ⟨e1', e2'⟩ := hp'; subst e1'; subst e2'; intro h' n' hn' F' N'; (try dsimp only [List.cons_append, List.nil_append] at N'); (try k_sweep); (try dsimp only); (try k_fold))))
      k_with "compareOp In str ref" => (k_here; (with_reducible show wpAny _ _ (compareOp CmpOp.In (Value.str _ _) (Value.ref 43)) _ _ _); k_dflt (refine' Mine.Internal.in_ent ?eF_ceNF ?eX_ceNF ?ee_ceNF ?eh_ceNF ?_; (case eF_ceNF => k_asm); (case eX_ceNF => k_asm); (case ee_ceNF => kernel_rfl); (case eh_ceNF => kernel_rfl); k_whole))
      k_with "subscriptTail" => (k_here; (with_reducible show wpAny _ _ (subscriptTail _ _ (Value.ref 48) (Value.str (Str.ofString "SpaceCharacters") _)) _ _ _); k_dflt (refine' Mine.Internal.item_tok 2 ?F_ceNF ?X_ceNF ?he_ceNF ?hh_ceNF ?hl_ceNF ?_; (case hl_ceNF => kernel_rfl); (case F_ceNF => k_asm); (case X_ceNF => k_asm); (case he_ceNF => kernel_rfl); (case hh_ceNF => kernel_rfl); k_whole; intro t9))
      k_with "subscriptTail" => (k_here; (with_reducible show wpAny _ _ (subscriptTail _ _ (Value.ref 48) (Value.str (Str.ofString "Characters") _)) _ _ _); k_dflt (refine' Mine.Internal.item_tok 1 ?F_ceNF ?X_ceNF ?he_ceNF ?hh_ceNF ?hl_ceNF ?_; (case hl_ceNF => kernel_rfl); (case F_ceNF => k_asm); (case X_ceNF => k_asm); (case he_ceNF => kernel_rfl); (case hh_ceNF => kernel_rfl); k_whole; intro t9))
      k_fill
      refine' ctrS_introN (binds := [("self", .ref Z.za), ("allowedChar", av), ("fromAttribute", .bool false)]) (fun h h' T k => T.keeps k) (fun h T => T.nolimit) ?ho_ceNF ?hcd_ceNF ?hD_ceNF ?hb_ceNF ?hl_ceNF ?_ ?hc_ceNF ?c1_ceNF ?c2_ceNF ?c3_ceNF
      case ho_ceNF => k_is
      case hcd_ceNF => k_is
      case hD_ceNF => decide
      case hb_ceNF => (intro s X; (try (rcases hargs with ⟨rfl, rfl, rfl⟩ | ⟨rfl, rfl⟩)); all_goals (first | exact BindsTo.of_eq rfl | exact binds_K X rfl (by k_is) rfl rfl rfl))
      case hl_ceNF => exact locs rfl
      case hc_ceNF => decide
      case c1_ceNF => exact rfl
      case c2_ceNF => exact rfl
      case c3_ceNF => exact rfl
      intro base g env outer L' h₁ hs9 gens9 dr9 t09 os9 tk B' F' XB' TB' D' X' N' T' l1
      intro e9 A9 q9
      (try k_lt l1)
      (try dsimp only)
      first | have S0 := Mine.Internal.Srt.eight ho hk hat | have S0 := Mine.Internal.Srt.grow (Mine.Internal.Srt.six ho) hoq | have S0 := Mine.Internal.Srt.five ho hk | have S0 := Mine.Internal.Srt.six ho | have S0 := Mine.Internal.Srt.two ho | have S0 := Mine.Internal.Srt.two hk | skip
      k_with "isTrue BoolOp" => k_dflt (first
        | ((fail_if_success (with_reducible show wpAny _ _ _ (Mine.Internal.MeetH _ _ _ _ _ _) _ _)); (with_reducible show wpAny _ _ (isTrue (Expr.BoolOp BoolOp.Or [Expr.Compare _ [CmpOp.In] _ _, _, _] _) _ _) _ _ _); (with_reducible rename Fr _ _ _ _ => F0); (with_reducible rename News _ _ _ _ => N0); (refine' Mine.Internal.wp_meetH (Mine.Internal.stopC al (x.rem K.src)) F0 N0 ?_ ?_); (intro h9 k9 F9 N9); clear F0 N0; (try dsimp only); (try k_fold); rotate_left; (rcases hx' with ⟨ev9, er9, ef9⟩ | ⟨c1, t1, ev9, er9, eo9, ec9⟩ <;> subst ev9))
        | ((with_reducible show wpAny _ _ (isTrue (Expr.BoolOp BoolOp.And [Expr.Compare _ [CmpOp.IsNot] _ _, _] _) _ _) _ _ _); (rcases hal with ⟨ea9, eb9⟩ | ⟨a1, ta1, ea9, eb9⟩ <;> subst ea9 eb9)))
      k_with "MeetH" => k_dflt (first
        | exact Mine.Internal.meetH_end (by assumption) (by assumption) (by first | exact Mine.Internal.stop_nil er9 | exact Mine.Internal.stop_blank er9 (by with_reducible assumption) | exact Mine.Internal.stop_lt er9 (by with_reducible assumption) | exact Mine.Internal.stop_al er9 (by with_reducible assumption) | exact Mine.Internal.stop_no er9 (by with_reducible assumption) (by with_reducible assumption) | exact Mine.Internal.stop_no' er9 (by with_reducible assumption) (by with_reducible assumption) (by with_reducible assumption))
        | exact Mine.Internal.meetH_sub (by assumption) (by assumption) (by first | exact Mine.Internal.stop_nil er9 | exact Mine.Internal.stop_blank er9 (by with_reducible assumption) | exact Mine.Internal.stop_lt er9 (by with_reducible assumption) | exact Mine.Internal.stop_al er9 (by with_reducible assumption) | exact Mine.Internal.stop_no er9 (by with_reducible assumption) (by with_reducible assumption) | exact Mine.Internal.stop_no' er9 (by with_reducible assumption) (by with_reducible assumption) (by with_reducible assumption))
        | (refine Mine.Internal.hold ?_))
      k_with "exec If" => k_dflt ((fail_if_success (with_reducible show wpAny _ _ _ (Mine.Internal.MeetXS _ _ _ _ _ _ _) _ _)); first
        | ((with_reducible show wpAny _ _ (exec (Stmt.If (Expr.BoolOp BoolOp.Or [_, _, _] _) _ _ _) _) _ _ _); (with_reducible rename Fr _ _ _ _ => F0); (with_reducible rename News _ _ _ _ => N0); (refine' Mine.Internal.wp_meetCs (K := K) (Z := Z) (B := B9) (m7 := m7) (tq := tq) (qs := qs) (val := val) (vt := vt) (R := ceN al false (x.rem K.src)) (fun y => List.lookup y ([(Str.ofString "self", Value.ref Z.za), (Str.ofString "allowedChar", av), (Str.ofString "fromAttribute", Value.bool false)].reverse)) hz6 F0 B' XB' TB' D' (fun _ _ T9 k9 => T9.keeps k9) ?mxq_ceNF ?mxw_ceNF); (case' mxq_ceNF => (intro g9 y9 out9 t9 u9 fl9 adds9 n9 h9 tk9 T9 B9' X9 P9 D9 sok9 hout9 hrem9 hgt9 hqis9 F9 N9; (clear F0 N0 B' X' T' D'); (with_reducible rename Mine.Internal.Srt _ => S8); (have S9 := Mine.Internal.Srt.eight ho hk hat); (clear S8); (have hlen9 := Mine.Internal.ceN_len hq hqis9); (try dsimp only); (try k_fold))))
        | ((with_reducible show wpAny _ _ (exec (Stmt.If (Expr.Name _ _) _ _ _) _) _ _ _); cases fa))
      k_with "call builtin:list.append" => (k_here; (with_reducible show wpAny _ _ (call (Value.builtin _) [Value.ref _, Value.ref _]) _ _ _); k_dflt (refine' append_K ?y1_ceNF ?y2_ceNF ?y3_ceNF ?_ ?y4_ceNF; (case y1_ceNF => k_asm); (case y2_ceNF => k_asm); (case y3_ceNF => k_upd); (case y4_ceNF => size_fits); k_whole); intro h' F' N'; (try k_sweep))
      k_with "subscriptTail" => k_dflt ((with_reducible show wpAny _ _ (subscriptTail _ (Expr.UnaryOp _ _ _) (Value.ref _) (Value.int _ _)) _ _ _); (try dsimp only); (refine' Mine.Internal.item_lastL (News.isList ?N_ceNF ?m_ceNF) ?hb_ceNF ?_; (case N_ceNF => k_asm); (case m_ceNF => k_mem); (case hb_ceNF => rfl); k_whole))
      k_with "inplaceOp Add str str" => k_dflt ((with_reducible show wpAny _ _ (inplaceOp Operator.Add (Value.str _ _) (Value.str _ _)) _ _ _); (first | ((with_reducible refine' iadd_str ?_ ?fa5x1_ceNF); (case fa5x1_ceNF => exact (Mine.Internal.val_fits ho9 hT9 hlen))) | ((with_reducible refine' iadd_str ?_ ?fa6x1_ceNF); (case fa6x1_ceNF => exact (Mine.Internal.out_fitsN hval hout9 hlen)))); intro ti9 ki9)
      k_with "getItem ref int" => k_dflt ((with_reducible show wpAny _ _ (PySem.getItem (Value.ref _) (Value.int _ _)) _ _ _); (refine' wpAny_getItem_list (x := Value.str _ _) (News.isList ?N_ceNF ?m_ceNF) ?h0_ceNF ?h1_ceNF ?hx_ceNF ?_; (case N_ceNF => k_asm); (case m_ceNF => k_mem); (case h0_ceNF => decide); (case h1_ceNF => decide); (case hx_ceNF => exact rfl); k_whole))
      k_with "call ref" => k_dflt ((with_reducible show wpAny _ _ (call (Value.ref 163) [Value.ref _, v'] _) _ _ _); (rcases hx' with ⟨ev9, er9, ef9⟩ | ⟨c1, t1, ev9, er9, eo9, ec9⟩ <;> subst ev9))
      k_with "compareOp Eq" => k_dflt ((with_reducible show wpAny _ _ (compareOp CmpOp.Eq v' (Value.str _ _)) _ _ _); (rcases hx' with ⟨ev9, er9, ef9⟩ | ⟨c1, t1, ev9, er9, eo9, ec9⟩ <;> subst ev9); first | exact (Mine.Internal.stop_abs (by with_reducible assumption) er9).elim | skip)
      k_with "exec Assign" => k_dflt ((with_reducible show wpAny _ _ (exec (Stmt.Assign [Expr.Name _ _] (Expr.Constant (Const.bool false) _ _) _) _) _ _ _); exact (Mine.Internal.no35 hno er9 (by with_reducible assumption)).elim)
      k_with "exec While" => ((with_reducible rename Fr _ _ _ _ => F0); (with_reducible rename News _ _ _ _ => N0); (refine' ksw_meet (σ := Cn) (fun c => (_, W.listOf (c.vs ++ [c.cv]).toArray c.n) :: Mine.Internal.Lz w K Z m7 tq B9 qs qn val vt (K.led w c.x)) (fun _ => []) [] (Cn.nok K.src (x.rem K.src)) (Cn.nfin K.src (x.rem K.src)) (fun c => c.mu K.src) ⟨x', [], _, .str ⟨#[c1]⟩ t1⟩ F0 (fun p hp => N0 p (Mine.Internal.Take.sub ?tk_ceNF p hp)) (fun _ h => nomatch h) (Cn.nstart ok' (.inr ⟨c1, t1, rfl, er9, eo9, ec9⟩)) ?hq_ceNF ?turn_ceNF); (case tk_ceNF => (unfold Mine.Internal.Lz; (k_extra "take"))); (case' hq_ceNF => (intro c u hh tk2 hi Ft Nt; (try clear F0 N0); obtain ⟨y, vs, vn, cv⟩ := c; obtain ⟨sok, cs, rr, hvs, hcv, hT9, htk⟩ := hi; (dsimp only [Mine.Internal.Lz] at sok hvs hcv Ft Nt))); (case' turn_ceNF => (intro c u hh tk2 hi Ft Nt; (try clear F0 N0); obtain ⟨y, vs, vn, cv⟩ := c; obtain ⟨sok, cs, rr, hvs, hcv, hT9, htk⟩ := hi; (dsimp only [Mine.Internal.Lz] at sok hvs hcv Ft Nt); have hvl : (vs ++ [cv]).length ≤ 100000 := Mine.Internal.cs_len hvs hT9 hlen; rcases hcv with ⟨e1, e2, e3⟩ | ⟨c2, t2, e1, e2, e3, e4⟩ <;> subst e1)))
      k_with "call builtin:str.join" => k_dflt ((with_reducible show wpAny _ _ (call (Value.builtin "str.join") [Value.str _ _, Value.ref _]) _ _ _); first
        | (refine' Mine.Internal.join_chs (g := Mine.Internal.chS) (ds := cs ++ [c2]) (fun _ => rfl) (News.isList (by k_asm) (by news_mem)) (Mine.Internal.strs_more hvs) (Mine.Internal.more_len hvs hvl) ?_; intro tj9 kj9)
        | (refine' Mine.Internal.join_chs (g := Mine.Internal.chS) (ds := cs) (fun _ => rfl) (News.isList (by k_asm) (by news_mem)) hvs (Mine.Internal.cs_640 hT9 hlen) ?_; intro tj9 kj9)
        | (refine' Mine.Internal.join_chs (g := Mine.Internal.chS) (ds := cs.drop nm.length) (fun _ => rfl) (News.isList (by k_asm) (by news_mem)) (Mine.Internal.strs_drop hvs nm.length) (Mine.Internal.dropN_640 hT9 hlen _) ?_; intro tj9 kj9))
      k_with "KswEnd" => k_dflt ((with_reducible rename Fr _ _ _ _ => F9); (with_reducible rename News _ _ _ _ => N9); (try simp only [List.push_toArray] at N9); (have hm9 := fun n' => Mine.Internal.Cn.nmore (n := vn) (n' := n') (t1 := t2) ok' hvs (e2 ▸ hT9) (e2 ▸ htk) (by with_reducible assumption) hx'); refine' ksw_end (σ := Cn) ⟨x', vs ++ [.str ⟨#[c2]⟩ t2], _, v'⟩ F9 N9 (Mine.Internal.Take.sub ?ktk_ceNF) trivial (fun _ h => nomatch h) (fun _ _ _ => rfl) (hm9 _).1 (hm9 _).2; (case ktk_ceNF => (unfold Mine.Internal.Lz; (k_extra "take"))))
      k_with "MeetW" => k_dflt ((with_reducible rename Fr _ _ _ _ => F9); (with_reducible rename News _ _ _ _ => N9); first
        | exact meetW_end (σ := Cn) ⟨y, vs, vn, .none⟩ u F9 N9 (fun _ h => h) (Mine.Internal.Cn.nend sok hvs (e2 ▸ hT9) (e2 ▸ htk) (.inl ⟨rfl, rfl, e3⟩))
        | ((have hp9 : Mine.Internal.hasPre ⟨(cs ++ [c2]).toArray⟩ = false := (by with_reducible assumption)); refine' meetW_end (σ := Cn) ⟨y, vs, vn, .str ⟨#[c2]⟩ t2⟩ u F9 N9 (Mine.Internal.Take.sub ?mtk_ceNF) (Mine.Internal.Cn.nstop sok hvs (e2 ▸ hT9) (e2 ▸ htk) hp9 (.inr ⟨c2, t2, rfl, rfl, e3, e4⟩)); (case mtk_ceNF => (unfold Mine.Internal.Lz; (k_extra "take"))))
        | (refine Mine.Internal.hold ?_))
      k_with "exec Try" => k_dflt ((fail_if_success (with_reducible show wpAny _ _ _ (Mine.Internal.MeetN9 _ _ _ _ _ _ _) _ _)); (with_reducible rename Fr _ _ _ _ => F0); (with_reducible rename News _ _ _ _ => N0); (have hc10 := Mine.Internal.cs_10000 hT9 hlen); (refine' Mine.Internal.wp_meetN9 (cs := cs) F0 N0 B' XB' TB' D' (fun _ _ T9 k9 => T9.keeps k9) ?tn_ceNF ?ts_ceNF ?tw_ceNF); (case' tn_ceNF => (intro g9 u9 h9 tk9 T9 B9' X9 P9 D9 ho9 F9 N9; (clear F0 N0 B' X' T' D'); (try dsimp only); (try k_fold))); (case' ts_ceNF => (intro g9 nm t5 t6 h9 tk9 T9 B9' X9 P9 D9 ho9 F9 N9; (clear F0 N0 B' X' T' D'); (try dsimp only); (try k_fold))))
      k_with "MeetN9" => k_dflt ((with_reducible rename Fr _ _ _ _ => F9); (with_reducible rename News _ _ _ _ => N9); first
        | (refine' Mine.Internal.meetN_str KtsTurn.refl F9 N9 ?mna_ceNF (Mine.Internal.lp_whole (by with_reducible assumption)) rfl rfl rfl (fun z9 h1 h2 => (if_neg h2).trans (if_neg h1)); (case mna_ceNF => exact Mine.Internal.Take.sub (by (k_extra "take"))))
        | (refine' Mine.Internal.meetN_str KtsTurn.refl F9 N9 ?mnb_ceNF (hlp9.trans (Mine.Internal.lp_hit hk9 hi9 (by with_reducible assumption))) (Mine.Internal.slice_back hk9 hi9) rfl rfl (fun z9 h1 h2 => (if_neg h2).trans (if_neg h1)); (case mnb_ceNF => exact (fun p9 hp9 => List.mem_cons_of_mem _ (List.mem_append_left _ hp9))))
        | (refine' Mine.Internal.meetN_no (by first | with_reducible assumption | exact KtsTurn.refl) F9 N9 ?mnc_ceNF hlp9 rfl (fun z9 h1 h2 => if_neg h1); (case mnc_ceNF => exact Mine.Internal.Take.sub (by (k_extra "take"))))
        | (refine Mine.Internal.hold ?_))
      k_with "pyIter ref" => k_dflt ((with_reducible show wpAny _ _ (pyIter (Value.ref _)) (fun it s₂ => LoopAtV _ _ _ _ _ _ _ _ _ it s₂) _ _); (with_reducible rename Fr _ _ _ _ => F0); (with_reducible rename News _ _ _ _ => N0); (with_reducible rename IsRange _ _ _ _ _ _ _ _ => rg9); (refine' Mine.Internal.loop_lp (cs := cs) ?lh_ceNF rg9 ?lb_ceNF (Mine.Internal.cs_len640 hT9 hlen) F0 N0 (by with_reducible assumption) ?lt_ceNF ?ld_ceNF); (case lh_ceNF => exact rfl); (case lb_ceNF => exact rfl); (case' lt_ceNF => (intro k9 i9 t9 u9 h9 tk9 own9 hk9 hi9 hlp9 F9 N9; (try clear F0 N0))); (case' ld_ceNF => (intro u9 h9 tk9 hlp9 F9 N9; (try clear F0 N0))); all_goals (try dsimp only [List.cons_append, List.nil_append] at N9); all_goals (try k_fold))
      k_with "LpGo" => k_dflt (first | (dsimp only [Mine.Internal.LpGo]; (fail_if_success (show Mine.Internal.LpEnd _ _ _ _ _ _ _ _ _)); (try k_fold)) | ((show Mine.Internal.LpEnd _ _ _ _ _ _ _ _ _); (with_reducible rename Fr _ _ _ _ => F9); (with_reducible rename News _ _ _ _ => N9); refine' Mine.Internal.lp_end F9 N9 ?lpn_ceNF (fun z9 hz9 => (if_neg hz9).trans rfl) (hlp9.trans (Mine.Internal.lp_step hk9 hi9 (by with_reducible assumption))); (case lpn_ceNF => exact (fun p9 hp9 => by (repeat (first | exact hp9 | refine List.mem_cons_of_mem _ ?_))))) | (refine Mine.Internal.hold ?_))
      k_with "subscriptTail" => k_dflt (first
        | ((with_reducible show wpAny _ _ (subscriptTail _ (Expr.Slice none (some _) none _) (Value.ref _) (Value.ref _)) _ _ _); (refine' kmk_slice_lit (lo := none) (hi := some (-1)) (zs := vs) ?slF1_ceNF ?slN1_ceNF ?sll1_ceNF ?slp1_ceNF ?slq1_ceNF (Mine.Internal.slice_neg1 vs cv) ?_ ?sls1_ceNF ?slt1_ceNF ?slz1_ceNF; (case slF1_ceNF => k_asm); (case slN1_ceNF => k_asm); (case sll1_ceNF => kmk_list); (case slp1_ceNF => kmk_part); (case slq1_ceNF => kmk_part); (case sls1_ceNF => with_unfolding_all rfl); (case slt1_ceNF => kmk_pure); (case slz1_ceNF => exact Mine.Internal.cs_size hvs hT9 hlen)); intro D' h' F' N' l1; (try k_lt l1); (try k_sweep))
        | ((with_reducible show wpAny _ _ (subscriptTail _ (Expr.Slice (some _) none none _) (Value.ref _) (Value.ref _)) _ _ _); (refine' kmk_slice_lit (lo := some (nm.length : Nat)) (hi := none) (zs := vs.drop nm.length) ?slF2_ceNF ?slN2_ceNF ?sll2_ceNF ?slp2_ceNF ?slq2_ceNF (Mine.Internal.slice_from' vs nm.length) ?_ ?sls2_ceNF ?slt2_ceNF ?slz2_ceNF; (case slF2_ceNF => k_asm); (case slN2_ceNF => k_asm); (case sll2_ceNF => kmk_list); (case slp2_ceNF => kmk_part); (case slq2_ceNF => kmk_part); (case sls2_ceNF => with_unfolding_all rfl); (case slt2_ceNF => kmk_pure); (case slz2_ceNF => exact Mine.Internal.cs_size0 hvs hT9 hlen)); intro D' h' F' N' l1; (try k_lt l1); (try k_sweep))
        | ((with_reducible show wpAny _ _ (subscriptTail _ (Expr.UnaryOp _ _ _) (Value.str ⟨List.toArray nm⟩ _) (Value.int _ _)) _ _ _); (try dsimp only); first | ((with_reducible refine' Mine.Internal.sub_lastc ?fa8x0_ceNF ?fa8x1_ceNF ?fa8x2_ceNF ?fa8x3_ceNF ?_); (case fa8x0_ceNF => exact hc9); (case fa8x1_ceNF => exact rfl); (case fa8x2_ceNF => exact (Mine.Internal.nm_pos ho9)); (case fa8x3_ceNF => exact (Mine.Internal.nm_fit ho9 hT9 hlen))) | ((refine Mine.Internal.sub_last rfl (Mine.Internal.nm_pos ho9) (Mine.Internal.nm_fit ho9 hT9 hlen) ?_); intro c9 hc9))
        | ((with_reducible show wpAny _ _ (subscriptTail _ (Expr.Name _ _) (Value.ref _) (Value.int (nm.length : Nat) _)) _ _ _); first | (refine' item_listL (News.isList ?N_ceNF ?m_ceNF) (Int.natCast_nonneg _) (Mine.Internal.nm_63 ho9 hT9 hlen) hx9 ?_; (case N_ceNF => k_asm); (case m_ceNF => k_mem); k_whole) | ((obtain ⟨xv9, hx9, hxv9⟩ := Mine.Internal.at_end hvs hcv hT9 ho9); (refine' item_listL (News.isList ?N_ceNF ?m_ceNF) (Int.natCast_nonneg _) (Mine.Internal.nm_63 ho9 hT9 hlen) hx9 ?_; (case N_ceNF => k_asm); (case m_ceNF => k_mem); k_whole); rcases hxv9 with ⟨ev8, er8⟩ | ⟨c8, t8, rr8, ev8, er8⟩ <;> subst ev8))
        | ((with_reducible show wpAny _ _ (subscriptTail _ _ (Value.ref 43) (Value.str ⟨List.toArray nm⟩ _)) _ _ _); (refine' Mine.Internal.item_ent ?F_ceNF ?X_ceNF ?e_ceNF ?hh_ceNF (Mine.Internal.nm_ent ho9) ?_; (case F_ceNF => k_asm); (case X_ceNF => k_asm); (case e_ceNF => kernel_rfl); (case hh_ceNF => kernel_rfl); k_whole); intro t9))
      k_with "subscriptTail Name Slice ref ref" => k_extra "subscriptTail"
      k_with "compareOp In" => (k_here; first
        | ((with_reducible show wpAny _ _ (compareOp CmpOp.In (Value.str ⟨#[_]⟩ _) (Value.ref 27)) _ _ _); k_dflt (refine' Mine.Internal.in_tupK ?F_ceNF ?X_ceNF ?hk_ceNF ?hi_ceNF ?he_ceNF ?_; (case F_ceNF => k_asm); (case X_ceNF => k_asm); (case hk_ceNF => k_is); (case hi_ceNF => repeat' constructor); (case he_ceNF => exact Mine.Internal.letters_any); k_whole))
        | ((with_reducible show wpAny _ _ (compareOp CmpOp.In (Value.str ⟨#[_]⟩ _) (Value.ref 32)) _ _ _); k_dflt (refine' Mine.Internal.in_tupK ?F_ceNF ?X_ceNF ?hk_ceNF ?hi_ceNF ?he_ceNF ?_; (case F_ceNF => k_asm); (case X_ceNF => k_asm); (case hk_ceNF => k_is); (case hi_ceNF => repeat' constructor); (case he_ceNF => exact Mine.Internal.dec_any); k_whole))
        | ((with_reducible show wpAny _ _ (compareOp CmpOp.In Value.none (Value.ref 27)) _ _ _); k_dflt (refine' Mine.Internal.in_tupK_none ?F_ceNF ?X_ceNF ?hk_ceNF ?hi_ceNF ?_; (case F_ceNF => k_asm); (case X_ceNF => k_asm); (case hk_ceNF => k_is); (case hi_ceNF => repeat' constructor); k_whole))
        | ((with_reducible show wpAny _ _ (compareOp CmpOp.In Value.none (Value.ref 32)) _ _ _); k_dflt (refine' Mine.Internal.in_tupK_none ?F_ceNF ?X_ceNF ?hk_ceNF ?hi_ceNF ?_; (case F_ceNF => k_asm); (case X_ceNF => k_asm); (case hk_ceNF => k_is); (case hi_ceNF => repeat' constructor); k_whole)))
      k_with "compareOp In str ref" => k_extra "compareOp In"
      k_with "compareOp In none ref" => k_extra "compareOp In"
      k_with "isTrue BoolOp" => k_dflt (fail; (fail_if_success (with_reducible show wpAny _ _ _ (Mine.Internal.MeetH _ _ _ _ _ _) _ _)); (with_reducible show wpAny _ _ (isTrue (Expr.BoolOp BoolOp.And [Expr.Compare _ [CmpOp.NotEq] _ _, _, _] _) _ _) _ _ _); (have hne9 : ((⟨#[c9]⟩ : Str) != Str.ofString ";") = true := (by with_reducible assumption)); (with_reducible rename Fr _ _ _ _ => F0); (with_reducible rename News _ _ _ _ => N0); (refine' Mine.Internal.wp_meetH (Mine.Internal.gluedC ((x.rem K.src).drop nm.length)) F0 N0 ?_ ?_); (intro h9 k9 F9 N9); clear F0 N0; (try dsimp only); (try k_fold))
      k_with "MeetH" => k_dflt (first
        | exact Mine.Internal.meetH_end (by assumption) (by assumption) (by first | exact Mine.Internal.glued_0 er8 | exact Mine.Internal.glued_a er8 (by with_reducible assumption) | exact Mine.Internal.glued_d er8 (by with_reducible assumption) | exact Mine.Internal.glued_e er8 (by with_reducible assumption) | exact Mine.Internal.glued_n er8 (by with_reducible assumption) (by with_reducible assumption) (by with_reducible assumption) | exact Mine.Internal.stop_nil er9 | exact Mine.Internal.stop_blank er9 (by with_reducible assumption) | exact Mine.Internal.stop_lt er9 (by with_reducible assumption) | exact Mine.Internal.stop_al er9 (by with_reducible assumption) | exact Mine.Internal.stop_no er9 (by with_reducible assumption) (by with_reducible assumption) | exact Mine.Internal.stop_no' er9 (by with_reducible assumption) (by with_reducible assumption) (by with_reducible assumption))
        | exact Mine.Internal.meetH_sub (by assumption) (by assumption) (by first | exact Mine.Internal.stop_nil er9 | exact Mine.Internal.stop_blank er9 (by with_reducible assumption) | exact Mine.Internal.stop_lt er9 (by with_reducible assumption) | exact Mine.Internal.stop_al er9 (by with_reducible assumption) | exact Mine.Internal.stop_no er9 (by with_reducible assumption) (by with_reducible assumption) | exact Mine.Internal.stop_no' er9 (by with_reducible assumption) (by with_reducible assumption) (by with_reducible assumption))
        | (refine Mine.Internal.hold ?_))
      k_with "subscriptTail Name UnaryOp ref int" => k_extra "subscriptTail"
      k_with "subscriptTail Name Name ref int" => k_extra "subscriptTail"
      k_with "subscriptTail Name Name ref str" => k_extra "subscriptTail"
      k_with "subscriptTail Name UnaryOp str int" => k_extra "subscriptTail"
      k_with "binaryOp Add str str" => k_dflt ((with_reducible show wpAny _ _ (binaryOp Operator.Add (Value.str _ _) (Value.str ⟨List.toArray cs⟩ _)) _ _ _); ((with_reducible refine' KOpn.add ?fa7x0_ceNF ?_); (case fa7x0_ceNF => exact (Mine.Internal.amp_fits hT9 hlen))); intro ti9 ki9 hi9)
      k_with "call builtin:list.append" => k_dflt ((with_reducible show wpAny _ _ (call (Value.builtin "list.append") ([Value.ref _] ++ [v'])) _ _ _); (dsimp only [List.cons_append, List.nil_append]); (refine' append_K ?y1_ceNF ?y2_ceNF ?y3_ceNF ?_ ?y4_ceNF; (case y1_ceNF => k_asm); (case y2_ceNF => k_asm); (case y3_ceNF => k_upd); (case y4_ceNF => size_fits); k_whole); intro h' F' N'; (try k_sweep))
      k_with "call builtin:list.pop" => k_dflt ((with_reducible show wpAny _ _ (call (Value.builtin "list.pop") [Value.ref _]) _ _ _); (try dsimp only); (refine' kl_pop ?F_ceNF ?N_ceNF (kpa_last cv vs) ?U_ceNF (Mine.Internal.cs_room hvs hT9 hlen) ?_; (case F_ceNF => k_asm); (case N_ceNF => k_asm); (case U_ceNF => k_upd); k_whole); intro h' F' N'; (try k_sweep))
      k_with "call ref" => k_dflt ((try dsimp only [List.cons_append, List.nil_append]); (with_reducible show wpAny _ _ (call (Value.ref 163) [Value.ref _, cv] _) _ _ _); (rcases hcv with ⟨e1, e2, e3⟩ | ⟨c2, t2, e1, e2, e3, e4⟩ <;> subst e1))
      k_with "MeetXS" => k_dflt ((with_reducible rename Fr _ _ _ _ => F9); (with_reducible rename News _ _ _ _ => N9); (try simp only [List.push_toArray] at N9); first
        | (have hs9 : Mine.Internal.stopC al (x.rem K.src) = true := (by with_reducible assumption); have hR9 := Mine.Internal.ceN_stop (fa := false) hs9; refine' Mine.Internal.ce_meet (fl := []) (adds := []) hR9 (by first | with_reducible assumption | exact KtsTurn.refl) F9 N9 ?em36_ceNF ?er36_ceNF ?eT36_ceNF ?eq36_ceNF ?ef36_ceNF ?eg36_ceNF ok' ?eo36_ceNF ?eu36_ceNF ?ek36_ceNF; (case em36_ceNF => exact rfl); (case er36_ceNF => (intro z9 hz9 hz8; obtain ⟨hy1, hy2, hy3, hy4⟩ := Mine.Internal.ce_names hz8; (repeat' (first | refine (if_neg hz9).trans ?_ | refine (if_neg hy1).trans ?_ | refine (if_neg hy2).trans ?_ | refine (if_neg hy3).trans ?_ | refine (if_neg hy4).trans ?_ | exact rfl)))); (case eT36_ceNF => (k_extra "take")); (case eq36_ceNF => exact (List.append_nil _).symm); (case ef36_ceNF => exact (fun _ h => nomatch h)); (case eg36_ceNF => exact (fun _ h => nomatch h)); (case eo36_ceNF => exact Mine.Internal.amp38); (case eu36_ceNF => exact (hx'.trans er9.symm)); (case ek36_ceNF => exact .nil))
        | (have hs9 : Mine.Internal.stopC al (x.rem K.src) = true := (by with_reducible assumption); have hR9 := Mine.Internal.ceN_stop (fa := false) hs9; refine' Mine.Internal.ce_meet (fl := []) (adds := []) hR9 (by first | with_reducible assumption | exact KtsTurn.refl) F9 N9 ?em37_ceNF ?er37_ceNF ?eT37_ceNF ?eq37_ceNF ?ef37_ceNF ?eg37_ceNF ok' ?eo37_ceNF ?eu37_ceNF ?ek37_ceNF; (case em37_ceNF => exact rfl); (case er37_ceNF => (intro z9 hz9 hz8; obtain ⟨hy1, hy2, hy3, hy4⟩ := Mine.Internal.ce_names hz8; (repeat' (first | refine (if_neg hz9).trans ?_ | refine (if_neg hy1).trans ?_ | refine (if_neg hy2).trans ?_ | refine (if_neg hy3).trans ?_ | refine (if_neg hy4).trans ?_ | exact rfl)))); (case eT37_ceNF => (k_extra "take")); (case eq37_ceNF => exact (List.append_nil _).symm); (case ef37_ceNF => exact (fun _ h => nomatch h)); (case eg37_ceNF => exact (fun _ h => nomatch h)); (case eo37_ceNF => exact Mine.Internal.amp38); (case eu37_ceNF => exact (ef9.trans er9.symm)); (case ek37_ceNF => exact .nil))
        | (have hu9 := (e3.trans e2.symm); have hs9 : Mine.Internal.stopC al (x.rem K.src) = false := (by with_reducible assumption); have hR9 := Mine.Internal.ceN_name (fa := false) (o := none) hs9 htk ho9; refine' Mine.Internal.ce_meet1 hR9 (by first | with_reducible assumption | exact KtsTurn.refl) F9 N9 ?em30_ceNF ?er30_ceNF ?eT30_ceNF ?eq30_ceNF ?eg30_ceNF sok ?eo30_ceNF ?eu30_ceNF ?ek30_ceNF; (case em30_ceNF => exact rfl); (case er30_ceNF => (intro z9 hz9 hz8; obtain ⟨hy1, hy2, hy3, hy4⟩ := Mine.Internal.ce_names hz8; (repeat' (first | refine (if_neg hz9).trans ?_ | refine (if_neg hy1).trans ?_ | refine (if_neg hy2).trans ?_ | refine (if_neg hy3).trans ?_ | refine (if_neg hy4).trans ?_ | exact rfl)))); (case eT30_ceNF => (k_extra "take")); (case eq30_ceNF => exact rfl); (case eg30_ceNF => exact (by k_extra "slt")); (case eo30_ceNF => exact Mine.Internal.out_app); (case eu30_ceNF => exact (e3.trans e2.symm)); (case ek30_ceNF => exact .cons ⟨_, _, rfl, .head _, Mine.Internal.not_mods (Nat.lt_trans htq9 (by k_extra "slt")), _, _, by assumption⟩ .nil)) | (have hu9 := (e3.trans e2.symm); have hs9 : Mine.Internal.stopC al (x.rem K.src) = false := (by with_reducible assumption); have hR8 := Mine.Internal.ceN_name (fa := false) hs9 htk ho9; have hR9 := hR8.trans (Mine.Internal.name_semi hc9 (Mine.Internal.eq59 (by with_reducible assumption))); refine' Mine.Internal.ce_meet (fl := []) (adds := []) hR9 (by first | with_reducible assumption | exact KtsTurn.refl) F9 N9 ?em31_ceNF ?er31_ceNF ?eT31_ceNF ?eq31_ceNF ?ef31_ceNF ?eg31_ceNF sok ?eo31_ceNF ?eu31_ceNF ?ek31_ceNF; (case em31_ceNF => exact rfl); (case er31_ceNF => (intro z9 hz9 hz8; obtain ⟨hy1, hy2, hy3, hy4⟩ := Mine.Internal.ce_names hz8; (repeat' (first | refine (if_neg hz9).trans ?_ | refine (if_neg hy1).trans ?_ | refine (if_neg hy2).trans ?_ | refine (if_neg hy3).trans ?_ | refine (if_neg hy4).trans ?_ | exact rfl)))); (case eT31_ceNF => (k_extra "take")); (case eq31_ceNF => exact (List.append_nil _).symm); (case ef31_ceNF => exact (fun _ h => nomatch h)); (case eg31_ceNF => exact (fun _ h => nomatch h)); (case eo31_ceNF => exact Mine.Internal.cat_toList _ _); (case eu31_ceNF => exact (e3.trans e2.symm)); (case ek31_ceNF => exact .nil)) | (have hu9 := (e3.trans e2.symm); have hs9 : Mine.Internal.stopC al (x.rem K.src) = false := (by with_reducible assumption); have hR8 := Mine.Internal.ceN_name (fa := false) hs9 htk ho9; have hR9 := hR8.trans (Mine.Internal.name_free' hc9 (Mine.Internal.ne59 (by with_reducible assumption)) rfl); refine' Mine.Internal.ce_meet2 hR9 (by first | with_reducible assumption | exact KtsTurn.refl) F9 N9 ?em32_ceNF ?er32_ceNF ?eT32_ceNF ?eq32_ceNF ?eg32_ceNF sok ?eo32_ceNF ?eu32_ceNF ?ek32_ceNF; (case em32_ceNF => exact rfl); (case er32_ceNF => (intro z9 hz9 hz8; obtain ⟨hy1, hy2, hy3, hy4⟩ := Mine.Internal.ce_names hz8; (repeat' (first | refine (if_neg hz9).trans ?_ | refine (if_neg hy1).trans ?_ | refine (if_neg hy2).trans ?_ | refine (if_neg hy3).trans ?_ | refine (if_neg hy4).trans ?_ | exact rfl)))); (case eT32_ceNF => (k_extra "take")); (case eq32_ceNF => exact rfl); (case eg32_ceNF => exact (by k_extra "slt")); (case eo32_ceNF => exact Mine.Internal.cat_toList _ _); (case eu32_ceNF => exact (e3.trans e2.symm)); (case ek32_ceNF => exact .cons ⟨_, _, rfl, .head _, Mine.Internal.not_mods (Nat.lt_trans htq9 (by k_extra "slt")), _, _, by assumption⟩ .nil)) | (have hu9 := (hx'.trans e2.symm); have hs9 : Mine.Internal.stopC al (x.rem K.src) = false := (by with_reducible assumption); have hR9 := Mine.Internal.ceN_name (fa := false) (o := none) hs9 htk ho9; refine' Mine.Internal.ce_meet1 hR9 (by first | with_reducible assumption | exact KtsTurn.refl) F9 N9 ?em33_ceNF ?er33_ceNF ?eT33_ceNF ?eq33_ceNF ?eg33_ceNF ok' ?eo33_ceNF ?eu33_ceNF ?ek33_ceNF; (case em33_ceNF => exact rfl); (case er33_ceNF => (intro z9 hz9 hz8; obtain ⟨hy1, hy2, hy3, hy4⟩ := Mine.Internal.ce_names hz8; (repeat' (first | refine (if_neg hz9).trans ?_ | refine (if_neg hy1).trans ?_ | refine (if_neg hy2).trans ?_ | refine (if_neg hy3).trans ?_ | refine (if_neg hy4).trans ?_ | exact rfl)))); (case eT33_ceNF => (k_extra "take")); (case eq33_ceNF => exact rfl); (case eg33_ceNF => exact (by k_extra "slt")); (case eo33_ceNF => exact Mine.Internal.out_app); (case eu33_ceNF => exact (hx'.trans e2.symm)); (case ek33_ceNF => exact .cons ⟨_, _, rfl, .head _, Mine.Internal.not_mods (Nat.lt_trans htq9 (by k_extra "slt")), _, _, by assumption⟩ .nil)) | (have hu9 := (hx'.trans e2.symm); have hs9 : Mine.Internal.stopC al (x.rem K.src) = false := (by with_reducible assumption); have hR8 := Mine.Internal.ceN_name (fa := false) hs9 htk ho9; have hR9 := hR8.trans (Mine.Internal.name_semi hc9 (Mine.Internal.eq59 (by with_reducible assumption))); refine' Mine.Internal.ce_meet (fl := []) (adds := []) hR9 (by first | with_reducible assumption | exact KtsTurn.refl) F9 N9 ?em34_ceNF ?er34_ceNF ?eT34_ceNF ?eq34_ceNF ?ef34_ceNF ?eg34_ceNF ok' ?eo34_ceNF ?eu34_ceNF ?ek34_ceNF; (case em34_ceNF => exact rfl); (case er34_ceNF => (intro z9 hz9 hz8; obtain ⟨hy1, hy2, hy3, hy4⟩ := Mine.Internal.ce_names hz8; (repeat' (first | refine (if_neg hz9).trans ?_ | refine (if_neg hy1).trans ?_ | refine (if_neg hy2).trans ?_ | refine (if_neg hy3).trans ?_ | refine (if_neg hy4).trans ?_ | exact rfl)))); (case eT34_ceNF => (k_extra "take")); (case eq34_ceNF => exact (List.append_nil _).symm); (case ef34_ceNF => exact (fun _ h => nomatch h)); (case eg34_ceNF => exact (fun _ h => nomatch h)); (case eo34_ceNF => exact Mine.Internal.cat_toList _ _); (case eu34_ceNF => exact (hx'.trans e2.symm)); (case ek34_ceNF => exact .nil)) | (have hu9 := (hx'.trans e2.symm); have hs9 : Mine.Internal.stopC al (x.rem K.src) = false := (by with_reducible assumption); have hR8 := Mine.Internal.ceN_name (fa := false) hs9 htk ho9; have hR9 := hR8.trans (Mine.Internal.name_free' hc9 (Mine.Internal.ne59 (by with_reducible assumption)) rfl); refine' Mine.Internal.ce_meet2 hR9 (by first | with_reducible assumption | exact KtsTurn.refl) F9 N9 ?em35_ceNF ?er35_ceNF ?eT35_ceNF ?eq35_ceNF ?eg35_ceNF ok' ?eo35_ceNF ?eu35_ceNF ?ek35_ceNF; (case em35_ceNF => exact rfl); (case er35_ceNF => (intro z9 hz9 hz8; obtain ⟨hy1, hy2, hy3, hy4⟩ := Mine.Internal.ce_names hz8; (repeat' (first | refine (if_neg hz9).trans ?_ | refine (if_neg hy1).trans ?_ | refine (if_neg hy2).trans ?_ | refine (if_neg hy3).trans ?_ | refine (if_neg hy4).trans ?_ | exact rfl)))); (case eT35_ceNF => (k_extra "take")); (case eq35_ceNF => exact rfl); (case eg35_ceNF => exact (by k_extra "slt")); (case eo35_ceNF => exact Mine.Internal.cat_toList _ _); (case eu35_ceNF => exact (hx'.trans e2.symm)); (case ek35_ceNF => exact .cons ⟨_, _, rfl, .head _, Mine.Internal.not_mods (Nat.lt_trans htq9 (by k_extra "slt")), _, _, by assumption⟩ .nil))
        | (refine Mine.Internal.hold ?_))

      k_with "po" => k_dflt (first | exact PySem.PassesOwn.never | exact PySem.PassesOwnAt.never | assumption | exact PySem.PassesOwn.leaving | exact PySem.PassesOwnAt.leaving | exact PySem.PassesOwn.looking | exact PySem.PassesOwnAt.looking | (apply PySem.PassesOwnAt.leavingOf; first | apply PySem.SameStack.mark | apply PySem.SameStack.unmark) | (apply PySem.PassesOwnAt.lookingOf; first | apply PySem.SameStack.mark | apply PySem.SameStack.unmark) | (kfy_look; first | apply PySem.kfy_passes | (apply PySem.kfy_passesAt; first | apply PySem.SameStack.mark | apply PySem.SameStack.refl | apply PySem.SameStack.unmark)) | (intro _ _ h; exact h.elim))
      k_steps
      all_goals (with_reducible rename Fr _ _ _ _ => F9; with_reducible rename News _ _ _ _ => N9; (try simp only [List.push_toArray] at N9))
      all_goals (try rw [← Mine.Internal.Kz.kd_at hz6] at N9)
      all_goals first
        | (refine' Mine.Internal.ce_end (fl := fl9) (adds := adds9) ho hk hat T9 F9 N9 ?eT1_ceNF rfl ?ef1_ceNF hgt9 sok9 hrem9 hqis9 ?ev1_ceNF; (case eT1_ceNF => (k_extra "take")); (case ef1_ceNF => exact (fun p9 hp9 => by (repeat (first | exact List.mem_append_left _ hp9 | refine List.mem_cons_of_mem _ ?_)))); (case ev1_ceNF => exact Mine.Internal.val_app hout9))
        | ((have hsp9 := Mine.Internal.space_is hout9 (by with_reducible assumption)); refine' Mine.Internal.ce_end (fl := (_, _) :: fl9) (adds := adds9 ++ [.ref _]) ho hk hat T9 F9 N9 ?eT2_ceNF (List.append_assoc _ _ _) ?ef2_ceNF ?eg2_ceNF sok9 hrem9 (Mine.Internal.ks_tok hqis9 hout9 hsp9 ?em2_ceNF ⟨_, _, ?ed2_ceNF⟩) rfl; (case ed2_ceNF => assumption); (case eT2_ceNF => (k_extra "take")); (case ef2_ceNF => exact List.forall_mem_cons.mpr ⟨by k_mem, (fun p9 hp9 => by (repeat (first | exact List.mem_append_left _ hp9 | refine List.mem_cons_of_mem _ ?_)))⟩); (case eg2_ceNF => exact List.forall_mem_cons.mpr ⟨(by k_extra "slt"), hgt9⟩); (case em2_ceNF => exact Mine.Internal.not_mods (Nat.lt_trans htq9 (by k_extra "slt"))))
        | fail
  have ctr_lplain {w : World} {loose : List Str} {mean : ExcName → Option Value} {mg mb : Str → Option Value} :
      CtrC PySem.Challenge.rw_te0076_01.row.prog w (main.heap_1_39 w.params) (Top main.view_1_40 loose mean mg mb) 460 600 (.ref 773) ⟨[], []⟩ [] (fun v fr l => l = [] ∧ ∃ q vs n, v = .ref q ∧ fr = [(q, W.listOf vs.toArray n)] ∧ StrsAre vs Mine.Internal.plainL) := by
    as_aux_lemma =>
      clear ctr_is_invalid ctr_charErrors ctr_read ctr_readE ctr_position0 ctr_unget ctr_ungetN ctr_ungetS ctr_readN ctr_readC ctr_readA ctr_char ctr_until ctr_tinit call_char call_unget call_ungetN call_until call_tok ctr_bisect ctr_haskeys ctr_ceNT ctr_ceNF
      k_with_none
      k_with "pos" => (repeat' (first | exact Mine.Internal.PosL.nil | (apply Mine.Internal.PosL.cons 0; exact rfl) | (apply Mine.Internal.PosL.cons 1; exact rfl) | (apply Mine.Internal.PosL.cons 2; exact rfl) | (apply Mine.Internal.PosL.cons 3; exact rfl) | (apply Mine.Internal.PosL.cons 4; exact rfl) | (apply Mine.Internal.PosL.cons 5; exact rfl) | (apply Mine.Internal.PosL.cons 6; exact rfl) | (apply Mine.Internal.PosL.cons 7; exact rfl) | (apply Mine.Internal.PosL.cons 8; exact rfl) | (apply Mine.Internal.PosL.cons 9; exact rfl) | (apply Mine.Internal.PosL.cons 10; exact rfl) | (apply Mine.Internal.PosL.cons 11; exact rfl) | (apply Mine.Internal.PosL.cons 12; exact rfl) | (apply Mine.Internal.PosL.cons 13; exact rfl) | (apply Mine.Internal.PosL.cons 14; exact rfl) | (apply Mine.Internal.PosL.cons 15; exact rfl) | (apply Mine.Internal.PosL.cons 16; exact rfl) | (apply Mine.Internal.PosL.cons 17; exact rfl) | (apply Mine.Internal.PosL.cons 18; exact rfl) | (apply Mine.Internal.PosL.cons 19; exact rfl) | (apply Mine.Internal.PosL.cons 20; exact rfl) | (apply Mine.Internal.PosL.cons 21; exact rfl) | (apply Mine.Internal.PosL.cons 22; exact rfl) | (apply Mine.Internal.PosL.cons 23; exact rfl)))
      k_with "slt" => exact Mine.Internal.Srt.lt (by with_reducible assumption) (by ((repeat (first | (with_reducible_and_instances refine Mine.Internal.Aft.here ?_; (repeat (first | with_reducible_and_instances exact List.Mem.head _ | with_reducible_and_instances refine List.Mem.tail _ ?_)); done) | with_reducible refine Mine.Internal.Aft.there ?_)); all_goals fail))
      k_with "take" => k_dflt ((try dsimp only); repeat' (first | exact Mine.Internal.Take.nil | exact Mine.Internal.Del.head | refine' Mine.Internal.Take.blk ?_ | exact Mine.Internal.Tl.nil | exact Mine.Internal.Tl.app | refine' Mine.Internal.Take.cons ?_ ?_ | refine' Mine.Internal.Del.tail ?_ | refine' Mine.Internal.Tl.cons ?_))
      k_with "upd" => (exact Mine.Internal.Srt.updP (by with_reducible assumption) (by repeat' (first | exact Mine.Internal.UpdI.head | refine' Mine.Internal.UpdI.tail ?_)) (by k_dflt (k_extra "pos")) (by exact rfl))
      k_with "all" => exact Mine.Internal.Ks.ne_all (by with_reducible assumption) (by first | exact .inr (by k_extra "slt") | exact .inl (by k_extra "slt"))
      k_with "ne" => (refine neN ?_; first | exact Mine.Internal.Srt.ne (by with_reducible assumption) (by with_reducible solve_by_elim (maxDepth := 40) only [Mine.Internal.Apart.l, Mine.Internal.Apart.r, Mine.Internal.Apart.t, List.Mem.head, List.Mem.tail]) | ((try dsimp only); omega))
      k_with "lt" => (intro h9l; first | ((with_reducible rename Mine.Internal.Srt _ => S8); (first | (have S9 := Mine.Internal.Srt.grow S8 (h9l (_, _) (by k_dflt k_mem)); clear S8) | (have S9 := Mine.Internal.Srt.grow S8.tl (h9l (_, _) (by k_dflt k_mem)); clear S8) | (have S9 := Mine.Internal.Srt.grow S8.tl.tl (h9l (_, _) (by k_dflt k_mem)); clear S8)); clear h9l) | (replace h9l := allLt_of h9l; simp only [AllLt, and_true] at h9l))
      k_with "execs cons" => (k_here; (with_reducible show wpAny _ _ _ _ _ (Shared.mk _ _ _ (_ + _) _)); (refine Mine.Internal.gentoks ?_); intro tkg9 htk9; (try dsimp only at htk9))
      k_with "size" => k_dflt (first | exact Nat.le_of_ble_eq_true rfl | ((with_reducible show Array.size (List.toArray _) ≤ PySem.sizeLine); rw [List.size_toArray, PySem.sizeLine_eq]; refine Nat.le_trans (m := 100002) ?_ (Nat.le_of_ble_eq_true rfl); first | with_reducible assumption | exact Nat.le_trans (m := 100000) (by with_reducible assumption) (Nat.le_of_ble_eq_true rfl)))
      k_with "subscriptTail Name Constant ref int" => k_extra "subscriptTail"
      k_with "tok" => (first | exact Nat.le_add_left 1 _ | with_reducible assumption | exact Nat.le_trans (Nat.le_add_left 1 _) (by with_reducible assumption))
      k_with "next" => (first | ((with_reducible refine Mine.Internal.nextS (g := gens9) (d := dr9) (o := os9) ?_); intro qk9 tkg9) | ((with_reducible refine Mine.Internal.lastS (g := gens9) (d := dr9) (o := os9) ?_); intro tkg9) | (with_reducible refine Mine.Internal.nilS ?_) | (with_reducible refine Mine.Internal.fin9 ?_) | (with_reducible refine Mine.Internal.fin0 ?_) | (with_reducible refine Mine.Internal.finS9 ?_) | (with_reducible refine Mine.Internal.finS0 ?_) | ((with_reducible refine Mine.Internal.nextU (g := gens9) (d := dr9) (o := os9) ?_ ?_); (k_extra "tok"); intro qk9 tkg9) | ((with_reducible refine Mine.Internal.lastU (g := gens9) (d := dr9) (o := os9) ?_ ?_); (k_extra "tok"); intro tkg9) | ((with_reducible refine Mine.Internal.nextZ (g := gens9) (d := dr9) (o := os9) ?_); intro qk9 tkg9) | ((with_reducible refine Mine.Internal.lastZ (g := gens9) (d := dr9) (o := os9) ?_); intro tkg9))
      k_with "execs cons" => k_extra "next"
      k_with "eval Constant str" => (with_reducible refine Mine.Internal.c_str (g := gens9) (d := dr9) (o := os9) ?_)
      k_with "call ref" => refine Mine.Internal.hold ?_
      k_fill
      refine' ctr_introM (binds := []) (fun h h' T k => T.keeps k) (fun h T => T.nolimit) ?ho_lplain ?hcd_lplain ?hD_lplain ?hb_lplain ?hl_lplain ?_ ?hc_lplain ?c1_lplain ?c2_lplain ?c3_lplain
      case ho_lplain => k_is
      case hcd_lplain => k_is
      case hD_lplain => decide
      case hb_lplain => (intro s X; (try (rcases hargs with ⟨rfl, rfl, rfl⟩ | ⟨rfl, rfl⟩)); all_goals (first | exact BindsTo.of_eq rfl | exact binds_K X rfl (by k_is) rfl rfl rfl))
      case hl_lplain => exact locs rfl
      case hc_lplain => decide
      case c1_lplain => exact rfl
      case c2_lplain => exact rfl
      case c3_lplain => exact rfl
      intro A base g env outer L' h₁ hs9 gens9 dr9 t09 os9 tk B' F' X' N' T' l1
      intro e9 A9 q9
      (try clear l1)
      (try dsimp only at N')
      first | have S0 := Mine.Internal.Srt.eight ho hk hat | have S0 := Mine.Internal.Srt.grow (Mine.Internal.Srt.six ho) hoq | have S0 := Mine.Internal.Srt.five ho hk | have S0 := Mine.Internal.Srt.six ho | have S0 := Mine.Internal.Srt.two ho | have S0 := Mine.Internal.Srt.two hk | skip

      k_steps
      all_goals (try dsimp only)
      refine' cendF (fr := [(_, W.listOf (List.toArray _) _)]) (l := []) (by assumption) (by assumption) (Mine.Internal.Take.sub ?tk_lplain) (fun _ _ _ h => nomatch h) ⟨rfl, _, _, _, rfl, rfl, ?rr_lplain⟩
      case tk_lplain => (k_extra "take")
      case rr_lplain => (repeat' (first | exact StrsAre.nil | refine StrsAre.cons _ _ ?_))
  have ctr_llong {w : World} {loose : List Str} {mean : ExcName → Option Value} {mg mb : Str → Option Value} {T : Str} {tt : Tok} (hT : T.length ≤ 640) :
      CtrC PySem.Challenge.rw_te0076_01.row.prog w (main.heap_1_39 w.params) (Top main.view_1_40 loose mean mg mb) 460 600 (.ref 780) ⟨[.str T tt], []⟩ [] (noF fun v l => ∃ (nm : Str) (t : Tok), v = .str nm t ∧ LG T.cps.toList entNames nm.cps.toList ∧ l = []) := by
    as_aux_lemma =>
      clear ctr_is_invalid ctr_charErrors ctr_read ctr_readE ctr_position0 ctr_unget ctr_ungetN ctr_ungetS ctr_readN ctr_readC ctr_readA ctr_char ctr_until ctr_tinit call_char call_unget call_ungetN call_until call_tok ctr_bisect ctr_haskeys ctr_ceNT ctr_ceNF ctr_lplain
      k_with_none
      k_with "pos" => (repeat' (first | exact Mine.Internal.PosL.nil | (apply Mine.Internal.PosL.cons 0; exact rfl) | (apply Mine.Internal.PosL.cons 1; exact rfl) | (apply Mine.Internal.PosL.cons 2; exact rfl) | (apply Mine.Internal.PosL.cons 3; exact rfl) | (apply Mine.Internal.PosL.cons 4; exact rfl) | (apply Mine.Internal.PosL.cons 5; exact rfl) | (apply Mine.Internal.PosL.cons 6; exact rfl) | (apply Mine.Internal.PosL.cons 7; exact rfl) | (apply Mine.Internal.PosL.cons 8; exact rfl) | (apply Mine.Internal.PosL.cons 9; exact rfl) | (apply Mine.Internal.PosL.cons 10; exact rfl) | (apply Mine.Internal.PosL.cons 11; exact rfl) | (apply Mine.Internal.PosL.cons 12; exact rfl) | (apply Mine.Internal.PosL.cons 13; exact rfl) | (apply Mine.Internal.PosL.cons 14; exact rfl) | (apply Mine.Internal.PosL.cons 15; exact rfl) | (apply Mine.Internal.PosL.cons 16; exact rfl) | (apply Mine.Internal.PosL.cons 17; exact rfl) | (apply Mine.Internal.PosL.cons 18; exact rfl) | (apply Mine.Internal.PosL.cons 19; exact rfl) | (apply Mine.Internal.PosL.cons 20; exact rfl) | (apply Mine.Internal.PosL.cons 21; exact rfl) | (apply Mine.Internal.PosL.cons 22; exact rfl) | (apply Mine.Internal.PosL.cons 23; exact rfl)))
      k_with "slt" => exact Mine.Internal.Srt.lt (by with_reducible assumption) (by ((repeat (first | (with_reducible_and_instances refine Mine.Internal.Aft.here ?_; (repeat (first | with_reducible_and_instances exact List.Mem.head _ | with_reducible_and_instances refine List.Mem.tail _ ?_)); done) | with_reducible refine Mine.Internal.Aft.there ?_)); all_goals fail))
      k_with "upd" => (exact Mine.Internal.Srt.updP (by with_reducible assumption) (by repeat' (first | exact Mine.Internal.UpdI.head | refine' Mine.Internal.UpdI.tail ?_)) (by k_dflt (k_extra "pos")) (by exact rfl))
      k_with "all" => exact Mine.Internal.Ks.ne_all (by with_reducible assumption) (by first | exact .inr (by k_extra "slt") | exact .inl (by k_extra "slt"))
      k_with "ne" => (refine neN ?_; first | exact Mine.Internal.Srt.ne (by with_reducible assumption) (by with_reducible solve_by_elim (maxDepth := 40) only [Mine.Internal.Apart.l, Mine.Internal.Apart.r, Mine.Internal.Apart.t, List.Mem.head, List.Mem.tail]) | ((try dsimp only); omega))
      k_with "lt" => (intro h9l; first | ((with_reducible rename Mine.Internal.Srt _ => S8); (first | (have S9 := Mine.Internal.Srt.grow S8 (h9l (_, _) (by k_dflt k_mem)); clear S8) | (have S9 := Mine.Internal.Srt.grow S8.tl (h9l (_, _) (by k_dflt k_mem)); clear S8) | (have S9 := Mine.Internal.Srt.grow S8.tl.tl (h9l (_, _) (by k_dflt k_mem)); clear S8)); clear h9l) | (replace h9l := allLt_of h9l; simp only [AllLt, and_true] at h9l))
      k_with "execs cons" => (k_here; (with_reducible show wpAny _ _ _ _ _ (Shared.mk _ _ _ (_ + _) _)); (refine Mine.Internal.gentoks ?_); intro tkg9 htk9; (try dsimp only at htk9))
      k_with "call builtin:len" => (k_here; (with_reducible show wpAny _ _ (call (Value.builtin "len") [Value.str _ _]) _ _ _); (refine SBL.len (by first | omega | exact Mine.Internal.fit63 (by (refine Nat.le_trans (m := 10000) ?_ (by decide); repeat' (first | with_reducible assumption | with_reducible refine Mine.Internal.slice_len_le ?_ | (with_reducible refine Nat.le_trans (Mine.Internal.replace_len (by decide +kernel) (by decide +kernel)) ?_) | exact (by decide +kernel))))) ?_))
      k_with "exec Assign" => ((with_reducible show wpAny _ _ _ _ _ _); k_fold)
      k_with "exec If" => ((with_reducible show wpAny _ _ _ _ _ _); k_fold)
      k_with "size" => k_dflt (first | exact Nat.le_of_ble_eq_true rfl | ((with_reducible show Array.size (List.toArray _) ≤ PySem.sizeLine); rw [List.size_toArray, PySem.sizeLine_eq]; refine Nat.le_trans (m := 100002) ?_ (Nat.le_of_ble_eq_true rfl); first | with_reducible assumption | exact Nat.le_trans (m := 100000) (by with_reducible assumption) (Nat.le_of_ble_eq_true rfl)))
      k_with "subscriptTail Name Constant ref int" => k_extra "subscriptTail"
      k_with "tok" => (first | exact Nat.le_add_left 1 _ | with_reducible assumption | exact Nat.le_trans (Nat.le_add_left 1 _) (by with_reducible assumption))
      k_with "next" => (first | ((with_reducible refine Mine.Internal.nextS (g := gens9) (d := dr9) (o := os9) ?_); intro qk9 tkg9) | ((with_reducible refine Mine.Internal.lastS (g := gens9) (d := dr9) (o := os9) ?_); intro tkg9) | (with_reducible refine Mine.Internal.nilS ?_) | (with_reducible refine Mine.Internal.fin9 ?_) | (with_reducible refine Mine.Internal.fin0 ?_) | (with_reducible refine Mine.Internal.finS9 ?_) | (with_reducible refine Mine.Internal.finS0 ?_) | ((with_reducible refine Mine.Internal.nextU (g := gens9) (d := dr9) (o := os9) ?_ ?_); (k_extra "tok"); intro qk9 tkg9) | ((with_reducible refine Mine.Internal.lastU (g := gens9) (d := dr9) (o := os9) ?_ ?_); (k_extra "tok"); intro tkg9) | ((with_reducible refine Mine.Internal.nextZ (g := gens9) (d := dr9) (o := os9) ?_); intro qk9 tkg9) | ((with_reducible refine Mine.Internal.lastZ (g := gens9) (d := dr9) (o := os9) ?_); intro tkg9))
      k_with "execs cons" => k_extra "next"
      k_with "execs nil" => (with_reducible refine Mine.Internal.nilS ?_)
      k_with "eval Constant str" => (with_reducible refine Mine.Internal.c_str (g := gens9) (d := dr9) (o := os9) ?_)
      k_with "storeName" => (first | (k_here; ktx_write) | (k_here; k_dflt (refine' Mine.Internal.st_name (gs := gens9) (d := dr9) (o := os9) ?tF_llong ?tN_llong ?_; (case tF_llong => k_asm); (case tN_llong => k_asm); k_whole; intro m9 h' F' N'; (try k_sweep))))
      k_with "call ref" => refine Mine.Internal.hold ?_
      k_fill
      refine' ctr_introN (binds := [("text", .str T tt)]) (fun h h' T k => T.keeps k) (fun h T => T.nolimit) ?ho_llong ?hcd_llong ?hD_llong ?hb_llong ?hl_llong ?_ ?hc_llong ?c1_llong ?c2_llong ?c3_llong
      case ho_llong => k_is
      case hcd_llong => k_is
      case hD_llong => decide
      case hb_llong => (intro s X; (try (rcases hargs with ⟨rfl, rfl, rfl⟩ | ⟨rfl, rfl⟩)); all_goals (first | exact BindsTo.of_eq rfl | exact binds_K X rfl (by k_is) rfl rfl rfl))
      case hl_llong => exact locs rfl
      case hc_llong => decide
      case c1_llong => exact rfl
      case c2_llong => exact rfl
      case c3_llong => exact rfl
      intro A base g env outer L' h₁ hs9 gens9 dr9 t09 os9 tk B' F' X' N' T' l1
      intro e9 A9 q9
      (try clear l1)
      (try dsimp only at N')
      first | have S0 := Mine.Internal.Srt.eight ho hk hat | have S0 := Mine.Internal.Srt.grow (Mine.Internal.Srt.six ho) hoq | have S0 := Mine.Internal.Srt.five ho hk | have S0 := Mine.Internal.Srt.six ho | have S0 := Mine.Internal.Srt.two ho | have S0 := Mine.Internal.Srt.two hk | skip

      k_with "exec For Name Name" => (k_here; (with_reducible rename Fr _ _ _ _ => lF'); (with_unfolding_all refine' For_invVF lF' ?k1_llong ?k2_llong ?_; (case k1_llong => exact rfl); (case k2_llong => exact rfl); k_whole))
      k_with "pyIter ref" => k_dflt ((with_reducible show wpAny _ _ (pyIter (Value.ref 43)) (fun it s₂ => LoopAtV _ _ _ _ _ _ _ _ _ it s₂) _ _); (with_reducible rename Fr _ _ _ _ => F0); (refine' Mine.Internal.loop_ent (σ := Mine.Internal.Lb1) (nl := []) (fun c => [("best", .str c.b c.tb)]) [] (Mine.Internal.Lb1.P T) ⟨_, _⟩ ?lh_llong ?lX_llong ?le_llong ?lhh_llong F0 News.nil ?lk_llong (Mine.Internal.Lb1.start rfl) ?lt_llong ?ld_llong); (case lh_llong => exact rfl); (case lX_llong => k_asm); (case le_llong => kernel_rfl); (case lhh_llong => kernel_rfl); (case lk_llong => (intro p hp; (simp only [List.mem_cons, List.not_mem_nil, or_false] at hp); subst hp; rfl)); (case' lt_llong => (intro c i9 nm9 t9 u9 h9 tk9 own9 hn9 hP9 F9 N9; obtain ⟨b9, tb9⟩ := c; (try clear F0); have hnl9 := Mine.Internal.ent_len hn9; have hbl9 := Mine.Internal.Lb1.blen hP9 hT)); (case' ld_llong => (intro c u9 h9 tk9 hP9 F9 N9; obtain ⟨b9, tb9⟩ := c; (try clear F0))); all_goals (try dsimp only at F9); all_goals (try dsimp only [List.cons_append, List.nil_append] at N9); all_goals (try k_fold))
      k_with "EntGo" => k_dflt ((show Mine.Internal.EntEnd _ _ _ _ _ _ _ _ _ _ _); (with_reducible rename Fr _ _ _ _ => F9); (with_reducible rename News _ _ _ _ => N9); first
        | (refine' Mine.Internal.ent_end (σ := Mine.Internal.Lb1) ⟨nm9, _⟩ F9 N9 ?es_llong ?ek1_llong (fun z9 hz1 hz2 hz3 => by (have hb9 := hz2 _ (List.Mem.head _)); (dsimp only at hb9); (repeat (first | refine (if_neg hb9).trans ?_ | refine (if_neg hz1).trans ?_)); first | exact rfl | exact (if_neg hb9).symm) (Mine.Internal.Lb1.yes hP9 hn9 (by with_reducible assumption) (by with_reducible assumption)); (case es_llong => exact (fun p9 hp9 => hp9)); (case ek1_llong => (intro p hp; (simp only [List.mem_cons, List.not_mem_nil, or_false] at hp); subst hp; rfl)))
        | (refine' Mine.Internal.ent_end (σ := Mine.Internal.Lb1) ⟨b9, _⟩ F9 N9 ?es2_llong ?ek2_llong (fun z9 hz1 hz2 hz3 => by (have hb9 := hz2 _ (List.Mem.head _)); (dsimp only at hb9); (repeat (first | refine (if_neg hb9).trans ?_ | refine (if_neg hz1).trans ?_)); first | exact rfl | exact (if_neg hb9).symm) (Mine.Internal.Lb1.no (q := false) hP9 hn9 (by with_reducible assumption) (.inl rfl)); (case es2_llong => exact (fun p9 hp9 => hp9)); (case ek2_llong => (intro p hp; (simp only [List.mem_cons, List.not_mem_nil, or_false] at hp); subst hp; rfl)))
        | (refine' Mine.Internal.ent_end (σ := Mine.Internal.Lb1) ⟨b9, _⟩ F9 N9 ?es3_llong ?ek3_llong (fun z9 hz1 hz2 hz3 => by (have hb9 := hz2 _ (List.Mem.head _)); (dsimp only at hb9); (repeat (first | refine (if_neg hb9).trans ?_ | refine (if_neg hz1).trans ?_)); first | exact rfl | exact (if_neg hb9).symm) (Mine.Internal.Lb1.no (q := true) hP9 hn9 (by with_reducible assumption) (.inr (by omega))); (case es3_llong => exact (fun p9 hp9 => hp9)); (case ek3_llong => (intro p hp; (simp only [List.mem_cons, List.not_mem_nil, or_false] at hp); subst hp; rfl)))
        | (refine Mine.Internal.hold ?_))
      k_steps
      all_goals (try dsimp only)
      all_goals first
        | exact cend (P := fun v l => ∃ (nm : Str) (t : Tok), v = .str nm t ∧ LG T.cps.toList entNames nm.cps.toList ∧ l = []) (l := []) (by assumption) (by assumption) (fun _ h => nomatch h) ⟨_, _, rfl, Mine.Internal.Lb1.done hP9, rfl⟩
        | fail
  have call_ceT {w : World} {loose : List Str} {mean : ExcName → Option Value} {mg mb : Str → Option Value} {K : Ks} {Z : Kz} {m7 : Tok} {tq ct dl p2 : Addr} {co : Obj} {dn : Nat} {nm : Value} {pn qn : Nat} {qs : List Value} {x : St} {val : Str} {vt : Tok} {A A₀ : Around} {base h₀ : Heap} {env : Env} {outer : List Env} {L : Addr} {m : Str → Option Value} {s : Shared} {Q E : Value → Shared → Prop} {N rest : Led}
      (ho : K.ord) (hz1 : @LT.lt Nat _ Z.zd Z.za) (hz2 : @LT.lt Nat _ Z.za K.sd) (ok : x.ok K.src) (hlen : (x.rem K.src).length ≤ 640) (hq : qs.length ≤ 100000) (hval : val.length ≤ 100000) (hno : ∀ t, x.rem K.src ≠ 35 :: t)
      (B : Below A₀ base outer h₀) (F : Fr h₀ L s.heap m) (X : (main.heap_1_39 w.params).In h₀) (T : (Top main.view_1_40 loose mean mg mb) h₀) (XB : (main.heap_1_39 w.params).In base) (TB : (Top main.view_1_40 loose mean mg mb) base) (D₀ : KtsDicts (fms outer) h₀)
      (hA : A.frames = some (env :: outer)) (hf : env.frame = some L) (hke : env.scope.kind = .function) (hh : A.handled = none) (hdd : A.depth ≤ 440) (hu : A.units ≤ 400) (Nw : News h₀ L s.heap N)
      (tk : Take (Lz w K (Z.av (.ref ct)) m7 tq ⟨ct, dl, p2, co, [], dn, nm, pn⟩ qs qn val vt (K.led w x)) N rest) (hcd : co.IsDictOf (PySem.strKind PySem.Challenge.rw_te0076_01.row.prog w) [(Str.ofString "data", .ref dl)]) (h1 : @LT.lt Nat _ K.er tq) (h2 : @LT.lt Nat _ tq ct) (h3 : @LT.lt Nat _ ct p2) (h4 : @LT.lt Nat _ p2 dl)
      (hne : ∀ p ∈ rest, @LT.lt Nat _ p.1 Z.zd ∨ @LT.lt Nat _ dl p.1 ∨ (@LT.lt Nat _ tq p.1 ∧ @LT.lt Nat _ p.1 ct))
      (hQ : ∀ (h₀' : Heap) (y : St) (fl : Led) (adds : List Value) (n : Nat) (val' : Str) (vt' : Tok) (h' : Heap) (tk' : Nat), KtsTurn (fms outer) h₀ h₀' → Below A₀ base outer h₀' → (main.heap_1_39 w.params).In h₀' → (Top main.view_1_40 loose mean mg mb) h₀' → KtsDicts (fms outer) h₀' → y.ok K.src → y.rem K.src = (ceN none true (x.rem K.src)).rem → (∀ p ∈ fl, ∀ r ∈ N, @LT.lt Nat _ r.1 p.1) → QIs PySem.Challenge.rw_te0076_01.row.prog w fl adds (ceKs (ceN none true (x.rem K.src)) true) → val'.cps.toList = (if true = true then val.cps.toList ++ (ceN none true (x.rem K.src)).out else val.cps.toList) →
        @LE.le Nat _ s.toks tk' → Fr h₀' L h' m → News h₀' L h' (Lz w K (Z.av (.ref ct)) m7 tq ⟨ct, dl, p2, co, [], dn, nm, pn⟩ (qs ++ adds) n val' vt' (rest ++ (fl ++ K.led w y))) → Q .none { s with heap := h', toks := tk' }) :
      wpAny (model PySem.Challenge.rw_te0076_01.row.prog w) A (PySem.call (.ref 283) [.ref Z.za, .none, .bool true] []) Q E s := by
    as_aux_lemma =>
      clear ctr_is_invalid ctr_charErrors ctr_read ctr_readE ctr_position0 ctr_unget ctr_ungetN ctr_ungetS ctr_readN ctr_readC ctr_readA ctr_char ctr_until ctr_tinit call_char call_unget call_ungetN call_until call_tok ctr_bisect ctr_haskeys ctr_ceNF ctr_lplain ctr_llong
      have hk : @LT.lt Nat _ Z.zd Z.za ∧ @LT.lt Nat _ Z.za K.sd ∧ @LT.lt Nat _ K.er tq := ⟨hz1, hz2, h1⟩
      exact CtrS.ce9 (ctr_ceNT (al := none) (B9 := ⟨ct, dl, p2, co, [], dn, nm, pn⟩) (Z := Z.av (.ref ct)) (m7 := m7) (qs := qs) (qn := qn) (vt := vt) ho hk ⟨h2, h3, h4⟩ rfl hcd ok hlen hq hval (.inl ⟨rfl, rfl⟩) hno) ho hk ⟨h2, h3, h4⟩ B F X T XB TB D₀ hA hf hke hh hdd hu Nw tk hne hQ
  have call_ceF {w : World} {loose : List Str} {mean : ExcName → Option Value} {mg mb : Str → Option Value} {K : Ks} {Z : Kz} {m7 : Tok} {tq ct dl p2 : Addr} {co : Obj} {dn : Nat} {nm : Value} {pn qn : Nat} {qs : List Value} {x : St} {val : Str} {vt : Tok} {A A₀ : Around} {base h₀ : Heap} {env : Env} {outer : List Env} {L : Addr} {m : Str → Option Value} {s : Shared} {Q E : Value → Shared → Prop} {N rest : Led}
      (ho : K.ord) (hz1 : @LT.lt Nat _ Z.zd Z.za) (hz2 : @LT.lt Nat _ Z.za K.sd) (ok : x.ok K.src) (hlen : (x.rem K.src).length ≤ 640) (hq : qs.length ≤ 100000) (hval : val.length ≤ 100000) (hno : ∀ t, x.rem K.src ≠ 35 :: t)
      (B : Below A₀ base outer h₀) (F : Fr h₀ L s.heap m) (X : (main.heap_1_39 w.params).In h₀) (T : (Top main.view_1_40 loose mean mg mb) h₀) (XB : (main.heap_1_39 w.params).In base) (TB : (Top main.view_1_40 loose mean mg mb) base) (D₀ : KtsDicts (fms outer) h₀)
      (hA : A.frames = some (env :: outer)) (hf : env.frame = some L) (hke : env.scope.kind = .function) (hh : A.handled = none) (hdd : A.depth ≤ 440) (hu : A.units ≤ 400) (Nw : News h₀ L s.heap N)
      (tk : Take (Lz w K (Z.av (.ref ct)) m7 tq ⟨ct, dl, p2, co, [], dn, nm, pn⟩ qs qn val vt (K.led w x)) N rest) (hcd : co.IsDictOf (PySem.strKind PySem.Challenge.rw_te0076_01.row.prog w) [(Str.ofString "data", .ref dl)]) (h1 : @LT.lt Nat _ K.er tq) (h2 : @LT.lt Nat _ tq ct) (h3 : @LT.lt Nat _ ct p2) (h4 : @LT.lt Nat _ p2 dl)
      (hne : ∀ p ∈ rest, @LT.lt Nat _ p.1 Z.zd ∨ @LT.lt Nat _ dl p.1 ∨ (@LT.lt Nat _ tq p.1 ∧ @LT.lt Nat _ p.1 ct))
      (hQ : ∀ (h₀' : Heap) (y : St) (fl : Led) (as : List Value) (d : Addr) (o : Obj) (ty : Int) (t1 t2 : Tok) (n : Nat) (val' : Str) (vt' : Tok) (h' : Heap) (tk' : Nat), KtsTurn (fms outer) h₀ h₀' → Below A₀ base outer h₀' → (main.heap_1_39 w.params).In h₀' → (Top main.view_1_40 loose mean mg mb) h₀' → KtsDicts (fms outer) h₀' → y.ok K.src → y.rem K.src = (ceN none false (x.rem K.src)).rem → (∀ p ∈ fl, ∀ r ∈ N, @LT.lt Nat _ r.1 p.1) → QIs PySem.Challenge.rw_te0076_01.row.prog w fl as (ceN none false (x.rem K.src)).ks → (d == sysModules) = false → o.IsDictOf (PySem.strKind PySem.Challenge.rw_te0076_01.row.prog w) [(Str.ofString "type", .int ty t1), (Str.ofString "data", .str ⟨(ceN none false (x.rem K.src)).out.toArray⟩ t2)] →
        @LE.le Nat _ s.toks tk' → (∀ p ∈ fl, @LT.lt Nat _ tq p.1) → @LT.lt Nat _ tq d → Fr h₀' L h' m → News h₀' L h' ((d, o) :: Lz w K (Z.av (.ref ct)) m7 tq ⟨ct, dl, p2, co, [], dn, nm, pn⟩ ((qs ++ as) ++ [.ref d]) n val' vt' (rest ++ (fl ++ K.led w y))) → Q .none { s with heap := h', toks := tk' }) :
      wpAny (model PySem.Challenge.rw_te0076_01.row.prog w) A (PySem.call (.ref 283) [.ref Z.za, .none, .bool false] []) Q E s := by
    as_aux_lemma =>
      clear ctr_is_invalid ctr_charErrors ctr_read ctr_readE ctr_position0 ctr_unget ctr_ungetN ctr_ungetS ctr_readN ctr_readC ctr_readA ctr_char ctr_until ctr_tinit call_char call_unget call_ungetN call_until call_tok ctr_bisect ctr_haskeys ctr_ceNT ctr_lplain ctr_llong call_ceT
      have hk : @LT.lt Nat _ Z.zd Z.za ∧ @LT.lt Nat _ Z.za K.sd ∧ @LT.lt Nat _ K.er tq := ⟨hz1, hz2, h1⟩
      exact CtrS.ce9 (ctr_ceNF (al := none) (B9 := ⟨ct, dl, p2, co, [], dn, nm, pn⟩) (Z := Z.av (.ref ct)) (m7 := m7) (qs := qs) (qn := qn) (vt := vt) ho hk ⟨h2, h3, h4⟩ rfl hcd ok hlen hq hval (.inl ⟨rfl, rfl⟩) hno) ho hk ⟨h2, h3, h4⟩ B F X T XB TB D₀ hA hf hke hh hdd hu Nw tk hne (fun g2 y fl ad n val' vt' h' tk' a1 a2 a3 a4 a5 a6 a7 a8 a9 b1 b2 b3 b4 => by
        obtain ⟨as, d, o, ty, t1, t2, rfl, q, hm, hl, hd9⟩ := popF a9
        have htq : ∀ p ∈ fl, @LT.lt Nat _ tq p.1 := fun p hp => a8 p hp (tq, W.listOf qs.toArray qn) (tk.sub _ (.tail _ (.tail _ (.head _))))
        rw [← List.append_assoc] at b4
        refine hQ g2 y fl as d o ty t1 t2 n val' vt' h' tk' a1 a2 a3 a4 a5 a6 a7 a8 q hl hd9 b2 htq (htq _ hm) b3 (news_on b4 ?_)
        exact .tail _ (.tail _ (.tail _ (.tail _ (.tail _ (.tail _ (List.mem_append_right _ (List.mem_append_left _ hm))))))))
  have ctr_lreadT {w : World} {loose : List Str} {mean : ExcName → Option Value} {mg mb : Str → Option Value} {T : Str} {tt : Tok} {V : List Nat} {kk : Nat} (hT : T.length ≤ 100) (hsm : ∀ c ∈ T.cps.toList, c < 55296) (h13 : ∀ c ∈ T.cps.toList, c ≠ 13) (h35 : ∀ c ∈ T.cps.toList, c ≠ 35) (hR : Mine.Internal.Rr true T.cps.toList V kk) :
      CtrS PySem.Challenge.rw_te0076_01.row.prog w (main.heap_1_39 w.params) (Top main.view_1_40 loose mean mg mb) 430 350 (.ref 792) ⟨[.str T tt, .bool true], []⟩ [] (fun v fr l => Mine.Internal.LdP V kk v fr l) := by
    as_aux_lemma =>
      clear ctr_is_invalid ctr_charErrors ctr_read ctr_readE ctr_position0 ctr_unget ctr_ungetN ctr_ungetS ctr_readN ctr_readC ctr_readA ctr_char ctr_until ctr_tinit call_unget call_ungetN ctr_bisect ctr_haskeys ctr_ceNT ctr_ceNF ctr_lplain ctr_llong call_ceF
      k_with_none
      k_with "pos" => (repeat' (first | exact Mine.Internal.PosL.nil | (apply Mine.Internal.PosL.cons 0; exact rfl) | (apply Mine.Internal.PosL.cons 1; exact rfl) | (apply Mine.Internal.PosL.cons 2; exact rfl) | (apply Mine.Internal.PosL.cons 3; exact rfl) | (apply Mine.Internal.PosL.cons 4; exact rfl) | (apply Mine.Internal.PosL.cons 5; exact rfl) | (apply Mine.Internal.PosL.cons 6; exact rfl) | (apply Mine.Internal.PosL.cons 7; exact rfl) | (apply Mine.Internal.PosL.cons 8; exact rfl) | (apply Mine.Internal.PosL.cons 9; exact rfl) | (apply Mine.Internal.PosL.cons 10; exact rfl) | (apply Mine.Internal.PosL.cons 11; exact rfl) | (apply Mine.Internal.PosL.cons 12; exact rfl) | (apply Mine.Internal.PosL.cons 13; exact rfl) | (apply Mine.Internal.PosL.cons 14; exact rfl) | (apply Mine.Internal.PosL.cons 15; exact rfl) | (apply Mine.Internal.PosL.cons 16; exact rfl) | (apply Mine.Internal.PosL.cons 17; exact rfl) | (apply Mine.Internal.PosL.cons 18; exact rfl) | (apply Mine.Internal.PosL.cons 19; exact rfl) | (apply Mine.Internal.PosL.cons 20; exact rfl) | (apply Mine.Internal.PosL.cons 21; exact rfl) | (apply Mine.Internal.PosL.cons 22; exact rfl) | (apply Mine.Internal.PosL.cons 23; exact rfl)))
      k_with "slt" => exact Mine.Internal.Srt.lt (by with_reducible assumption) (by ((repeat (first | (with_reducible_and_instances refine Mine.Internal.Aft.here ?_; (repeat (first | with_reducible_and_instances exact List.Mem.head _ | with_reducible_and_instances refine List.Mem.tail _ ?_)); done) | with_reducible refine Mine.Internal.Aft.there ?_)); all_goals fail))
      k_with "take" => k_dflt ((try dsimp only); repeat' (first | exact Mine.Internal.Take.nil | exact Mine.Internal.Del.head | refine' Mine.Internal.Take.blk ?_ | exact Mine.Internal.Tl.nil | exact Mine.Internal.Tl.app | refine' Mine.Internal.Take.cons ?_ ?_ | refine' Mine.Internal.Del.tail ?_ | refine' Mine.Internal.Tl.cons ?_))
      k_with "upd" => (exact Mine.Internal.Srt.updP (by with_reducible assumption) (by repeat' (first | exact Mine.Internal.UpdI.head | refine' Mine.Internal.UpdI.tail ?_)) (by k_dflt (k_extra "pos")) (by exact rfl))
      k_with "all" => exact Mine.Internal.Ks.ne_all (by with_reducible assumption) (by first | exact .inr (by k_extra "slt") | exact .inl (by k_extra "slt"))
      k_with "ne" => (refine neN ?_; first | exact Mine.Internal.Srt.ne (by with_reducible assumption) (by with_reducible solve_by_elim (maxDepth := 40) only [Mine.Internal.Apart.l, Mine.Internal.Apart.r, Mine.Internal.Apart.t, List.Mem.head, List.Mem.tail]) | ((try dsimp only); omega))
      k_with "lt" => (intro h9l; first | ((with_reducible rename Mine.Internal.Srt _ => S8); (first | (have S9 := Mine.Internal.Srt.grow S8 (h9l (_, _) (by k_dflt k_mem)); clear S8) | (have S9 := Mine.Internal.Srt.grow S8.tl (h9l (_, _) (by k_dflt k_mem)); clear S8) | (have S9 := Mine.Internal.Srt.grow S8.tl.tl (h9l (_, _) (by k_dflt k_mem)); clear S8)); clear h9l) | (replace h9l := allLt_of h9l; simp only [AllLt, and_true] at h9l))
      k_with "subscriptTail" => (k_here; (with_reducible show wpAny _ _ (subscriptTail _ _ (Value.str _ _) (Value.int _ _)) _ _ _); (refine Mine.Internal.sub_chr (by omega) (by omega) (by assumption) ?_))
      k_with "getMethod ref" => (k_here; k_dflt (first | (refine' method_inst ?k1_lreadT ?k2_lreadT ?k3_lreadT ?k4_lreadT ?k5_lreadT ?k6_lreadT ?k7_lreadT ?_; (case k1_lreadT => k_asm); (case k2_lreadT => k_asm); (case k3_lreadT => k_inst); (case k4_lreadT => k_is); (case k5_lreadT => k_is); (case k6_lreadT => k_is); (case k7_lreadT => k_get); k_whole) | (refine' kmu_own ?k1_lreadT ?k2_lreadT ?k3_lreadT ?k4_lreadT ?k5_lreadT ?_; (case k1_lreadT => k_asm); (case k2_lreadT => k_asm); (case k3_lreadT => k_inst); (case k4_lreadT => k_is); (case k5_lreadT => k_is); k_whole)))
      k_with "getMethod ref" => (k_here; (with_reducible show wpAny _ _ (getMethod (Value.ref _) (PySem.Str.ofString "append") _) _ _ _); k_dflt (refine' kl_method ?N_lreadT ?m_lreadT slot_list_append type_list_append ?_; (case N_lreadT => k_asm); (case m_lreadT => k_mem); k_whole))
      k_with "execs cons" => (k_here; (with_reducible show wpAny _ _ _ _ _ (Shared.mk _ _ _ (_ + _) _)); (refine Mine.Internal.gentoks ?_); intro tkg9 htk9; (try dsimp only at htk9))
      k_with "call builtin:len" => (k_here; (with_reducible show wpAny _ _ (call (Value.builtin "len") [Value.str _ _]) _ _ _); (refine SBL.len (by first | omega | exact Mine.Internal.fit63 (by (refine Nat.le_trans (m := 10000) ?_ (by decide); repeat' (first | with_reducible assumption | with_reducible refine Mine.Internal.slice_len_le ?_ | (with_reducible refine Nat.le_trans (Mine.Internal.replace_len (by decide +kernel) (by decide +kernel)) ?_) | exact (by decide +kernel))))) ?_))
      k_with "ite" => (k_here; k_openite; first
      | (refine ite_pos ?hq_lreadT ?_; (case hq_lreadT => first | (simp only [decide_eq_true_eq, beq_iff_eq, bne_iff_ne, ne_eq, Bool.not_eq_true', decide_eq_false_iff_not]; omega) | (simp; done)))
      | (refine ite_neg ?hq_lreadT ?_; (case hq_lreadT => first | (simp only [decide_eq_true_eq, beq_iff_eq, bne_iff_ne, ne_eq, Bool.not_eq_true', decide_eq_false_iff_not]; omega) | (simp; done))))
      k_with "exec Assign" => ((with_reducible show wpAny _ _ _ _ _ _); k_fold)
      k_with "size" => k_dflt (first | exact Nat.le_of_ble_eq_true rfl | ((with_reducible show Array.size (List.toArray _) ≤ PySem.sizeLine); rw [List.size_toArray, PySem.sizeLine_eq]; refine Nat.le_trans (m := 100002) ?_ (Nat.le_of_ble_eq_true rfl); first | with_reducible assumption | exact Nat.le_trans (m := 100000) (by with_reducible assumption) (Nat.le_of_ble_eq_true rfl)))
      k_with "subscriptTail Name Constant ref int" => k_extra "subscriptTail"
      k_with "tok" => (first | exact Nat.le_add_left 1 _ | with_reducible assumption | exact Nat.le_trans (Nat.le_add_left 1 _) (by with_reducible assumption))
      k_with "next" => (first | ((with_reducible refine Mine.Internal.nextS (g := gens9) (d := dr9) (o := os9) ?_); intro qk9 tkg9) | ((with_reducible refine Mine.Internal.lastS (g := gens9) (d := dr9) (o := os9) ?_); intro tkg9) | (with_reducible refine Mine.Internal.nilS ?_) | (with_reducible refine Mine.Internal.fin9 ?_) | (with_reducible refine Mine.Internal.fin0 ?_) | (with_reducible refine Mine.Internal.finS9 ?_) | (with_reducible refine Mine.Internal.finS0 ?_) | ((with_reducible refine Mine.Internal.nextU (g := gens9) (d := dr9) (o := os9) ?_ ?_); (k_extra "tok"); intro qk9 tkg9) | ((with_reducible refine Mine.Internal.lastU (g := gens9) (d := dr9) (o := os9) ?_ ?_); (k_extra "tok"); intro tkg9) | ((with_reducible refine Mine.Internal.nextZ (g := gens9) (d := dr9) (o := os9) ?_); intro qk9 tkg9) | ((with_reducible refine Mine.Internal.lastZ (g := gens9) (d := dr9) (o := os9) ?_); intro tkg9))
      k_with "subscriptTail" => (first | ((fail_if_success (with_reducible show wpAny _ _ (subscriptTail _ (Expr.Slice _ _ _ _) _ _) _ _ _)); dsimp only) | ((with_reducible show wpAny _ _ (subscriptTail _ _ (Value.ref _) (Value.str (PySem.Str.ofString "data") _)) _ _ _); k_here; k_dflt (refine kdt_tail (knd := PySem.strKind _ _) (by k_asm) (by k_mem) (by k_asm) ?_)) | ((with_reducible show wpAny _ _ (subscriptTail (Expr.Subscript _ _ _) (Expr.UnaryOp _ _ _) (Value.ref _) (Value.int _ _)) _ _ _); k_here; k_dflt (refine' Mine.Internal.item_lastT ?iN_lreadT ?im_lreadT ?ik_lreadT ?_; (case iN_lreadT => k_asm); (case im_lreadT => k_mem); (case ik_lreadT => rfl); k_whole)))
      k_with "execs cons" => k_extra "next"
      k_with "execs nil" => (with_reducible refine Mine.Internal.nilS ?_)
      k_with "eval Constant int" => (with_reducible refine Mine.Internal.c_int (g := gens9) (d := dr9) (o := os9) ?_)
      k_with "eval Constant str" => (with_reducible refine Mine.Internal.c_str (g := gens9) (d := dr9) (o := os9) ?_)
      k_with "eval Attribute Name" => (k_here; k_dflt (refine' Mine.Internal.at_name (gs := gens9) (d := dr9) (o := os9) ?nF_lreadT ?nX_lreadT ?nN_lreadT ?nv_lreadT ?n1_lreadT ?n2_lreadT ?ng_lreadT ?nh_lreadT ?na_lreadT ?nn_lreadT ?nl_lreadT ?nd_lreadT ?_; (case nF_lreadT => k_asm); (case nX_lreadT => k_asm); (case nN_lreadT => k_asm); (case nv_lreadT => exact rfl); (case n1_lreadT => k_mem); (case n2_lreadT => k_mem); (case ng_lreadT => k_is); (case nh_lreadT => k_is); (case na_lreadT => k_is); (case nn_lreadT => k_is); (case nl_lreadT => k_get); (case nd_lreadT => k_handed); k_whole))
      k_with "setAttr ref" => (first | (k_here; ktx_write) | (k_here; k_dflt (refine' Mine.Internal.st_attr (gs := gens9) (d := dr9) (o := os9) ?sF_lreadT ?sX_lreadT ?sN_lreadT ?s1_lreadT ?s2_lreadT ?ss_lreadT ?sp_lreadT ?st_lreadT ?sh_lreadT ?sl_lreadT ?se_lreadT ?sU_lreadT ?sz_lreadT ?_; (case sF_lreadT => k_asm); (case sX_lreadT => k_asm); (case sN_lreadT => k_asm); (case s1_lreadT => k_mem); (case s2_lreadT => k_mem); (case ss_lreadT => k_is); (case sp_lreadT => k_is); (case st_lreadT => k_is); (case sh_lreadT => k_is); (case sl_lreadT => k_get); (case se_lreadT => k_put); (case sU_lreadT => k_upd); (case sz_lreadT => exact Nat.le_of_ble_eq_true rfl); k_whole; intro h' F' N'; (try k_sweep))))
      k_with "storeName" => (first | (k_here; ktx_write) | (k_here; k_dflt (refine' Mine.Internal.st_name (gs := gens9) (d := dr9) (o := os9) ?tF_lreadT ?tN_lreadT ?_; (case tF_lreadT => k_asm); (case tN_lreadT => k_asm); k_whole; intro m9 h' F' N'; (try k_sweep))))
      k_with "in" => first | with_reducible assumption | exact Frag.In.keeps (by with_reducible assumption) (Fr.keep (by with_reducible assumption))
      k_with "lt" => (intro h9l; ((have l1r9 := h9l); clear h9l))
      k_with "ne" => (refine neN ?_; first | exact Mine.Internal.ne_by (by with_reducible assumption) (by k_dflt k_mem) | exact Mine.Internal.ne_by' (by with_reducible assumption) (by k_dflt k_mem) | exact Nat.ne_of_lt (by with_reducible assumption) | exact Nat.ne_of_gt (by with_reducible assumption))
      k_with "all" => first | exact Mine.Internal.cons_ne (by with_reducible assumption) (by with_reducible assumption) (by with_reducible assumption) | exact Mine.Internal.tail_ne (by with_reducible assumption) (fun p9 hp9 => by ((repeat (first | exact hp9 | refine List.mem_cons_of_mem _ ?_)); all_goals fail)) (by with_reducible assumption) (.inl (by with_reducible assumption)) | exact Mine.Internal.all_ne (by with_reducible assumption) (fun p9 hp9 => by ((repeat (first | exact hp9 | refine List.mem_cons_of_mem _ ?_)); all_goals fail))
      k_with "all" => first | exact Mine.Internal.own_zd1 hzt9 how2 ho hzs her9 | exact Mine.Internal.own_zd how2 ho hzs her9 | exact Mine.Internal.Ks.ne_all (by with_reducible assumption) (.inl (by with_reducible assumption)) | exact Mine.Internal.cons_ne1 (by with_reducible assumption) (by with_reducible assumption) (by with_reducible assumption) | exact Mine.Internal.cons_ne (by with_reducible assumption) (by with_reducible assumption) (by with_reducible assumption) | exact Mine.Internal.tail_ne (by with_reducible assumption) (fun p9 hp9 => by ((repeat (first | exact hp9 | refine List.mem_cons_of_mem _ ?_)); all_goals fail)) (by with_reducible assumption) (.inl (by with_reducible assumption)) | exact Mine.Internal.all_ne (by with_reducible assumption) (fun p9 hp9 => by ((repeat (first | exact hp9 | refine List.mem_cons_of_mem _ ?_)); all_goals fail))
      k_with "getMethod ref" => (k_here; (with_reducible show wpAny _ _ (getMethod (Value.ref (Mine.Internal.Ks.st _)) _ _) _ _ _); k_dflt (refine' Mine.Internal.meth_blk ?F_lreadT ?X_lreadT ?N_lreadT ?tk_lreadT ?hg_lreadT ?hf_lreadT ?ht_lreadT ?hl_lreadT ?_; (case F_lreadT => k_asm); (case X_lreadT => k_asm); (case N_lreadT => k_asm); (case tk_lreadT => (k_extra "take")); (case hg_lreadT => k_is); (case hf_lreadT => k_is); (case ht_lreadT => k_is); (case hl_lreadT => exact rfl); k_whole))
      k_with "subscriptTail" => (k_here; (with_reducible show wpAny _ _ (subscriptTail _ _ (Value.ref 48) (Value.str (Str.ofString "SpaceCharacters") _)) _ _ _); k_dflt (refine' Mine.Internal.item_tok 2 ?F_lreadT ?X_lreadT ?he_lreadT ?hh_lreadT ?hl_lreadT ?_; (case hl_lreadT => kernel_rfl); (case F_lreadT => k_asm); (case X_lreadT => k_asm); (case he_lreadT => kernel_rfl); (case hh_lreadT => kernel_rfl); k_whole; intro t9))
      k_with "subscriptTail" => (k_here; (with_reducible show wpAny _ _ (subscriptTail _ _ (Value.ref 48) (Value.str (Str.ofString "Characters") _)) _ _ _); k_dflt (refine' Mine.Internal.item_tok 1 ?F_lreadT ?X_lreadT ?he_lreadT ?hh_lreadT ?hl_lreadT ?_; (case hl_lreadT => kernel_rfl); (case F_lreadT => k_asm); (case X_lreadT => k_asm); (case he_lreadT => kernel_rfl); (case hh_lreadT => kernel_rfl); k_whole; intro t9))
      k_with "eval Dict" => (k_here; (with_reducible show wpAny _ _ (eval (Expr.Dict (_ :: _) _ _) _) _ _ _); k_dflt (refine' kdn_str ?q_lreadT ?F_lreadT ?N_lreadT ?b_lreadT ?a_lreadT ?l_lreadT ?e_lreadT ?n_lreadT ?_; (case q_lreadT => rfl); (case F_lreadT => k_asm); (case N_lreadT => first | k_asm | exact News.nil); (case b_lreadT => exact Top.nolimit (by k_asm)); (case a_lreadT => rfl); (case l_lreadT => rfl); (case e_lreadT => exact List.cons_ne_nil _ _); (case n_lreadT => exact Nat.le_of_ble_eq_true rfl)); intro d' h' o' F' N' l1 lo' hd'; (try k_lt l1); (try dsimp only))
      k_fill
      refine' ctrS_introN (binds := [("text", .str T tt), ("attribute", .bool true)]) (fun h h' T k => T.keeps k) (fun h T => T.nolimit) ?ho_lreadT ?hcd_lreadT ?hD_lreadT ?hb_lreadT ?hl_lreadT ?_ ?hc_lreadT ?c1_lreadT ?c2_lreadT ?c3_lreadT
      case ho_lreadT => k_is
      case hcd_lreadT => k_is
      case hD_lreadT => decide
      case hb_lreadT => (intro s X; (try (rcases hargs with ⟨rfl, rfl, rfl⟩ | ⟨rfl, rfl⟩)); all_goals (first | exact BindsTo.of_eq rfl | exact binds_K X rfl (by k_is) rfl rfl rfl))
      case hl_lreadT => exact locs rfl
      case hc_lreadT => decide
      case c1_lreadT => exact rfl
      case c2_lreadT => exact rfl
      case c3_lreadT => exact rfl
      intro base g env outer L' h₁ hs9 gens9 dr9 t09 os9 tk B' F' XB' TB' D' X' N' T' l1
      intro e9 A9 q9
      (try k_lt l1)
      (try dsimp only)
      first | have S0 := Mine.Internal.Srt.eight ho hk hat | have S0 := Mine.Internal.Srt.grow (Mine.Internal.Srt.six ho) hoq | have S0 := Mine.Internal.Srt.five ho hk | have S0 := Mine.Internal.Srt.six ho | have S0 := Mine.Internal.Srt.two ho | have S0 := Mine.Internal.Srt.two hk | skip
      k_with "compareOp Is" => k_dflt ((with_reducible show wpAny _ _ (compareOp CmpOp.Is v' Value.none) _ _ _); (rcases Mine.Internal.ld_split hx' hrem8 hal8 hst8 hr9 hV9 hk9 with ⟨ev9, hVn, hkn⟩ | ⟨t1, ev9, j8, s8, k8, e8, hks8, hR8, hV8, hk8⟩ <;> subst ev9))
      k_with "ite" => (k_here; with_reducible first | (refine ite_pos rfl ?_) | (refine ite_neg Bool.false_ne_true ?_))
      k_with "eval ListComp" => (k_here; k_dflt (refine LCg.ListComp_U (F₀ := by k_asm) (by with_unfolding_all rfl) (by decide) (by rfl) (by decide) (by rfl) ?_))
      k_with "CompSrc" => k_dflt ((with_reducible show LCg.CompSrc _ _ _ _ _ _ _ _ _ _ _ _ (Value.ref _) _); (refine' LCg.CompSrc.ledger (its := ad9.toArray) (k := n9) ?c0_lreadT ?cF_lreadT ?cN_lreadT ?cm_lreadT ?cz_lreadT ?ch_lreadT; (case c0_lreadT => rfl); (case cF_lreadT => k_asm); (case cN_lreadT => k_asm); (case cm_lreadT => k_mem); (case cz_lreadT => (rw [List.size_toArray, sizeLine_eq]; exact Nat.le_trans (Mine.Internal.ad_size hR hT9 hk9 hq9) (by decide))); (case' ch_lreadT => (intro g'; refine' Mine.Internal.toks_list2 (own := ow9) hq9 ?cs_lreadT ?ct_lreadT ?cf_lreadT)); (case cs_lreadT => exact (fun p9 hp9 => by repeat (first | exact List.mem_append_left _ (List.mem_append_right _ hp9) | exact List.mem_append_right _ (List.mem_append_left _ hp9) | exact List.mem_append_left _ (List.mem_append_left _ hp9) | exact List.mem_append_left _ hp9 | refine List.mem_cons_of_mem _ ?_))); (case' ct_lreadT => (intro d9 o9 td1 td2 I' oI' C' oC' D' m' ys' h' tk' E' hdl hdd hC' hx' F' N' off' ne' mk')); (case' cf_lreadT => (intro ysE hysE)); (all_goals (try dsimp only)); (all_goals (try k_fold))))
      k_with "GrowT" => k_dflt ((with_reducible rename Fr _ _ _ _ => F9); (with_reducible rename News _ _ _ _ => N9); (refine' Mine.Internal.Ct.endN (fl := fl6) (y' := y6) (v' := .ref d') (ad' := ad9 ++ ad6) G6 F9 N9 ?gn_lreadT ?gf_lreadT ?gm_lreadT ?gr_lreadT (Mine.Internal.Ct.next ok6 hsu9 hln9 how9 her9 e8 hV8 hk8 hR8 hrem6 (Mine.Internal.sgT hval6) hq9 (Mine.Internal.ksT hq6 hks8) (Mine.Internal.fl_gt hfl6 ?gx_lreadT)); (case gn_lreadT => exact Mine.Internal.ct_sub); (case gf_lreadT => exact Mine.Internal.fl_own hfl6 (fun p9 hp9 => by repeat (first | exact List.mem_append_left _ (List.mem_append_left _ hp9) | refine List.mem_cons_of_mem _ ?_))); (case gm_lreadT => exact if_pos rfl); (case gr_lreadT => exact (fun z9 hz1 hz2 => (if_neg hz2).trans ((if_neg hz2).trans ((if_neg hz1).trans (Mine.Internal.kst_tw1 hz2))))); (case gx_lreadT => k_mem)))
      k_with "CompEnd" => k_dflt ((with_reducible rename Fr _ _ _ _ => F9); (with_reducible rename News _ _ _ _ => N9); (refine' Mine.Internal.toks_el (its := ad9) (nf := n9) ?ke0_lreadT F9 N9 ?ke1_lreadT off'; (case ke0_lreadT => k_mem); (case ke1_lreadT => exact (fun p9 hp9 => by (repeat (first | exact hp9 | refine List.mem_cons_of_mem _ ?_))))))
      k_with "inplaceOp Add str str" => k_dflt ((with_reducible show wpAny _ _ (inplaceOp Operator.Add (Value.str sg9 _) (Value.str ⟨List.toArray p8⟩ _)) _ _ _); ((with_reducible refine' iadd_str ?_ ?fa9x1_lreadT); (case fa9x1_lreadT => exact (Mine.Internal.sg_run hsf9 hrem8 hsu9 hT9))); intro ti9 ki9)
      k_with "call ref" => (first | ((with_reducible show wpAny _ _ (call (Value.ref 156) _ _) _ _ _); k_dflt (refine' call_until (al := fun c => c == 38) ho ?hoq_lreadT sok9 ?hvs_lreadT ?hal_lreadT ?cB_lreadT ?cF_lreadT ?cX_lreadT ?cT_lreadT ?ca_lreadT ?cb_lreadT ?cc_lreadT ?ce_lreadT ?cd_lreadT ?cu_lreadT ?cN_lreadT ?tk_lreadT ?ne_lreadT ?nq_lreadT ?_; (case cF_lreadT => k_asm); (case cB_lreadT => k_asm); (case cX_lreadT => k_asm); (case cT_lreadT => k_asm); (case ca_lreadT => exact rfl); (case cb_lreadT => exact rfl); (case cc_lreadT => exact rfl); (case ce_lreadT => exact rfl); (case cd_lreadT => exact Nat.le_of_ble_eq_true rfl); (case cu_lreadT => exact Nat.le_of_ble_eq_true rfl); (case cN_lreadT => k_asm); (case tk_lreadT => (k_extra "take")); (case hvs_lreadT => repeat' constructor); (case hal_lreadT => exact Mine.Internal.amp_any); (case hoq_lreadT => exact (Mine.Internal.Ks.er_lt (by with_reducible assumption) (fun p9 hp9 => by ((repeat (first | exact hp9 | exact List.mem_append_right _ (List.mem_append_right _ hp9) | exact List.mem_append_right _ hp9 | refine List.mem_cons_of_mem _ ?_)); all_goals fail)))); (case ne_lreadT => repeat' (first | exact Mine.Internal.Outs.nil | exact hog9 | refine' Mine.Internal.Outs.lo (by with_reducible assumption) ?_ | refine' Mine.Internal.Outs.hi (by with_reducible assumption) ?_ | refine' Mine.Internal.Outs.hi (Mine.Internal.Ks.er_lt (by with_reducible assumption) (fun p9 hp9 => by ((repeat (first | exact hp9 | exact List.mem_append_right _ (List.mem_append_right _ hp9) | exact List.mem_append_right _ hp9 | refine List.mem_cons_of_mem _ ?_)); all_goals fail))) ?_ | fail)); (case nq_lreadT => (refine' Mine.Internal.nq_sub ?nq1_lreadT ?nq2_lreadT; (case nq1_lreadT => with_reducible assumption); (case nq2_lreadT => exact (fun p9 hp9 => by repeat (first | exact List.mem_append_left _ hp9 | refine List.mem_cons_of_mem _ ?_))))); k_whole; intro y8 p8 tp8 h' tk' ok8 hrem8 hal8 hst8 htk' F' N'; (try dsimp only at htk'); (try dsimp only [List.cons_append, List.nil_append] at N'); (try k_sweep); (try dsimp only); (try k_fold))) | ((with_reducible show wpAny _ _ (call (Value.ref 133) _ _) _ _ _); k_dflt (refine' call_char ho ok8 ?cB_lreadT ?cF_lreadT ?cX_lreadT ?cT_lreadT ?ca_lreadT ?cb_lreadT ?cc_lreadT ?ce_lreadT ?cd_lreadT ?cu_lreadT ?cN_lreadT ?tk_lreadT ?ne_lreadT ?_; (case cF_lreadT => k_asm); (case cB_lreadT => k_asm); (case cX_lreadT => k_asm); (case cT_lreadT => k_asm); (case ca_lreadT => exact rfl); (case cb_lreadT => exact rfl); (case cc_lreadT => exact rfl); (case ce_lreadT => exact rfl); (case cd_lreadT => exact Nat.le_of_ble_eq_true rfl); (case cu_lreadT => exact Nat.le_of_ble_eq_true rfl); (case cN_lreadT => k_asm); (case tk_lreadT => (k_extra "take")); (case ne_lreadT => repeat' (first | exact Mine.Internal.Outs.nil | exact hog9 | refine' Mine.Internal.Outs.lo (by with_reducible assumption) ?_ | refine' Mine.Internal.Outs.hi (by with_reducible assumption) ?_ | refine' Mine.Internal.Outs.hi (Mine.Internal.Ks.er_lt (by with_reducible assumption) (fun p9 hp9 => by ((repeat (first | exact hp9 | exact List.mem_append_right _ (List.mem_append_right _ hp9) | exact List.mem_append_right _ hp9 | refine List.mem_cons_of_mem _ ?_)); all_goals fail))) ?_ | fail)); k_whole; intro y7 v' h' tk' ok7 hx' htk' F' N'; (try dsimp only at htk'); (try dsimp only [List.cons_append, List.nil_append] at N'); (try k_sweep); (try dsimp only); (try k_fold))) | ((with_reducible show wpAny _ _ (call (Value.ref 283) _ _) _ _ _); k_dflt (refine' call_ceT (x := y7) ho hzz hza ok7 ?hl_lreadT ?hq_lreadT ?hv_lreadT ?h35_lreadT ?cB_lreadT ?cF_lreadT ?cX_lreadT ?cT_lreadT ?cXB_lreadT ?cTB_lreadT ?cD_lreadT ?ca_lreadT ?cb_lreadT ?cc_lreadT ?ce_lreadT ?cd_lreadT ?cu_lreadT ?cN_lreadT ?tk_lreadT ?hcd_lreadT her9 ?h2_lreadT ?h3_lreadT ?h4_lreadT ?hne_lreadT ?_; (case cB_lreadT => k_asm); (case cF_lreadT => k_asm); (case cX_lreadT => k_asm); (case cT_lreadT => k_asm); (case cXB_lreadT => with_reducible assumption); (case cTB_lreadT => with_reducible assumption); (case cD_lreadT => with_reducible assumption); (case ca_lreadT => exact rfl); (case cb_lreadT => exact rfl); (case cc_lreadT => exact rfl); (case ce_lreadT => exact rfl); (case cd_lreadT => exact Nat.le_of_ble_eq_true rfl); (case cu_lreadT => exact Nat.le_of_ble_eq_true rfl); (case cN_lreadT => k_asm); (case tk_lreadT => (k_extra "take")); (case hl_lreadT => exact Mine.Internal.r7_len e8 hsu9 hT9); (case hq_lreadT => exact Nat.le_trans (Mine.Internal.ad_size hR hT9 hk9 hq9) (by decide)); (case hv_lreadT => exact Mine.Internal.v7_ok hsf9 e8 hsu9 hT9); (case h35_lreadT => exact Mine.Internal.r7_35 e8 hsu9 h35); (case hcd_lreadT => assumption); (case h2_lreadT => exact (Mine.Internal.lt_by (by with_reducible assumption) (by k_dflt k_mem))); (case h3_lreadT => exact (Mine.Internal.lt_by (by with_reducible assumption) (by k_dflt k_mem))); (case h4_lreadT => exact (Mine.Internal.lt_by (by with_reducible assumption) (by k_dflt k_mem))); (case hne_lreadT => exact (fun q9 hq9 => .inr (.inr ⟨how2 q9 hq9, Mine.Internal.all_by (by with_reducible assumption) (fun p9 hp9 => by repeat (first | exact List.mem_append_left _ hp9 | refine List.mem_cons_of_mem _ ?_)) q9 hq9⟩))); k_whole; intro g8 y6 fl6 ad6 n6 val6 vt6 h6 tk6 T6 B6 X6 P6 D6 ok6 hrem6 hfl6 hq6 hval6 htk6 F6 N6; (have G6 := Mine.Internal.Gt.turn (g := g) (A₀ := topA 430 (350 + 1) env outer) ⟨T9, B9', X9, P9, D9⟩ T6 B6 X6 P6 D6); (try dsimp only at htk6); (clear B9' X9 P9 D9); (try dsimp only [Mine.Internal.Lz, List.nil_append] at N6); (try k_sweep); (try dsimp only); (try k_fold))) | ((with_reducible show wpAny _ _ (call (Value.ref 762) _ _) _ _ _); k_dflt (refine' call_tok (Nat.le_trans hT (by decide)) hsm ?cB_lreadT ?cF_lreadT ?cX_lreadT ?cT_lreadT ?ca_lreadT ?cb_lreadT ?cc_lreadT ?ce_lreadT ?cd_lreadT ?cu_lreadT ?cN_lreadT  ?_; (case cF_lreadT => k_asm); (case cB_lreadT => k_asm); (case cX_lreadT => k_asm); (case cT_lreadT => k_asm); (case ca_lreadT => exact rfl); (case cb_lreadT => exact rfl); (case cc_lreadT => exact rfl); (case ce_lreadT => exact rfl); (case cd_lreadT => exact Nat.le_of_ble_eq_true rfl); (case cu_lreadT => exact Nat.le_of_ble_eq_true rfl); (case cN_lreadT => k_asm); k_whole; intro K Z y0 h' tk' ho hzo hown' hksrc' ok' hrem' htk' F' N'; have hzs := Nat.lt_trans hzo.1 hzo.2; have hzz := hzo.1; have hza := hzo.2; (try dsimp only at htk'); (try dsimp only [List.cons_append, List.nil_append] at N'); (try k_sweep); (try dsimp only); (try k_fold))) | (refine Mine.Internal.hold ?_))
      k_with "exec For Name Call cons nil" => (k_here; (with_unfolding_all refine' Mine.Internal.For_turn (G := Mine.Internal.Gt (main.heap_1_39 w.params) (Top main.view_1_40 loose mean mg mb) (topA 430 (350 + 1) env outer) base (env :: outer) g) ?k1_lreadT ?k2_lreadT ?_; (case k1_lreadT => exact rfl); (case k2_lreadT => exact rfl); k_whole))
      k_with "pyIter ref" => k_dflt ((with_reducible show wpAny _ _ (pyIter (Value.ref _)) (fun it s₂ => Mine.Internal.LoopT _ _ _ _ _ _ _ _ _ it s₂) _ _); (with_reducible rename Fr _ _ _ _ => F0); (with_reducible rename News _ _ _ _ => N0); (with_reducible rename IsRange _ _ _ _ _ _ _ _ => rg9); (refine' Mine.Internal.loop_growT (σ := Mine.Internal.Ct) (n := T.length + 1) (fs := fms (env :: outer)) (fun c => [("signs", .str c.sg c.tsg)]) [] (Mine.Internal.Ct.led w K Z _ _) (Mine.Internal.Ct.P PySem.Challenge.rw_te0076_01.row.prog w K _ true T.cps.toList V kk T.length) ⟨y0, Z.v6, [], _, Str.ofString "", _, []⟩ ?lh_lreadT rg9 ?lb_lreadT ?ln_lreadT (fun g' hg' => hg'.1) ⟨KtsTurn.refl, B', X', T', D'⟩ F0 ?lN_lreadT ?lk_lreadT (Mine.Internal.Ct.start ok' (hrem'.trans (Mine.Internal.mendL_same h13)) hR rfl ?ll_lreadT ?le_lreadT) ?lt_lreadT (fun c hc => Mine.Internal.Ct.over hc)); (case lh_lreadT => exact rfl); (case lb_lreadT => exact rfl); (case ln_lreadT => exact Nat.le_trans (Nat.succ_le_succ hT) (by decide)); (case lk_lreadT => (intro p hp; (simp only [List.mem_cons, List.not_mem_nil, or_false] at hp); subst hp; rfl)); (case ll_lreadT => (rw [Mine.Internal.len_toList]; exact Nat.le_refl _)); (case' lN_lreadT => skip); (case lN_lreadT => exact (fun p9 hp9 => N0 p9 (Mine.Internal.Take.sub (rest := _) (by (k_extra "take")) p9 hp9))); (case le_lreadT => exact (Mine.Internal.Ks.er_lt (by with_reducible assumption) (fun p9 hp9 => by ((repeat (first | exact hp9 | exact List.mem_append_right _ (List.mem_append_right _ hp9) | exact List.mem_append_right _ hp9 | refine List.mem_cons_of_mem _ ?_)); all_goals fail)))); (case' lt_lreadT => (intro c i9 t9 u9 g9 h9 tk9 own9 hi9 hP9 hG9 hlt9 F9 N9; (clear F0 N0 B' X' T' D'); obtain ⟨y9, v69, ad9, n9, sg9, ts9, ow9⟩ := c; obtain ⟨sok9, ⟨s9, kr9, j9, hr9, hV9, hk9, hq9⟩, hsu9, hln9, how9, her9⟩ := hP9; obtain ⟨T9, B9', X9, P9, D9⟩ := hG9; (have N10 := Mine.Internal.news_mid3 N9); clear N9; (have how2 := Mine.Internal.own_two how9 hlt9 (.tail _ (.tail _ (.head _)))); (have hog9 := Mine.Internal.owns_out how2 her9); (have hzt9 := Mine.Internal.tq_zd ho hzs her9); (have hT9 : T.cps.toList.length ≤ 100 := by rw [Mine.Internal.len_toList]; exact hT); (have hsf9 := Mine.Internal.sg_fit hR hV9 hT9); (try dsimp only [Mine.Internal.Ct.led] at N10); (try dsimp only at F9 sok9 hr9 hV9 hq9 hsu9 hln9 how9 hsf9); (try dsimp only at how2 hog9); (try dsimp only); (try k_fold))))
      k_steps
      all_goals (with_reducible rename Fr _ _ _ _ => F9); (with_reducible rename News _ _ _ _ => N9)
      all_goals first
        | (refine' Mine.Internal.ld_end2 (s₁ := ⟨hs9, gens9, dr9, t09, os9⟩) hVn hkn hysE T9 F9 N9 ?le2_lreadT ?le3_lreadT; (case le2_lreadT => k_mem); (case le3_lreadT => k_mem))
        | fail
  have ctr_lreadF {w : World} {loose : List Str} {mean : ExcName → Option Value} {mg mb : Str → Option Value} {T : Str} {tt : Tok} {V : List Nat} {kk : Nat} (hT : T.length ≤ 100) (hsm : ∀ c ∈ T.cps.toList, c < 55296) (h13 : ∀ c ∈ T.cps.toList, c ≠ 13) (h35 : ∀ c ∈ T.cps.toList, c ≠ 35) (hR : Mine.Internal.Rr false T.cps.toList V kk) :
      CtrS PySem.Challenge.rw_te0076_01.row.prog w (main.heap_1_39 w.params) (Top main.view_1_40 loose mean mg mb) 430 350 (.ref 792) ⟨[.str T tt, .bool false], []⟩ [] (fun v fr l => Mine.Internal.LdP V kk v fr l) := by
    as_aux_lemma =>
      clear ctr_is_invalid ctr_charErrors ctr_read ctr_readE ctr_position0 ctr_unget ctr_ungetN ctr_ungetS ctr_readN ctr_readC ctr_readA ctr_char ctr_until ctr_tinit call_unget call_ungetN ctr_bisect ctr_haskeys ctr_ceNT ctr_ceNF ctr_lplain ctr_llong call_ceT ctr_lreadT
      k_with_none
      k_with "pos" => (repeat' (first | exact Mine.Internal.PosL.nil | (apply Mine.Internal.PosL.cons 0; exact rfl) | (apply Mine.Internal.PosL.cons 1; exact rfl) | (apply Mine.Internal.PosL.cons 2; exact rfl) | (apply Mine.Internal.PosL.cons 3; exact rfl) | (apply Mine.Internal.PosL.cons 4; exact rfl) | (apply Mine.Internal.PosL.cons 5; exact rfl) | (apply Mine.Internal.PosL.cons 6; exact rfl) | (apply Mine.Internal.PosL.cons 7; exact rfl) | (apply Mine.Internal.PosL.cons 8; exact rfl) | (apply Mine.Internal.PosL.cons 9; exact rfl) | (apply Mine.Internal.PosL.cons 10; exact rfl) | (apply Mine.Internal.PosL.cons 11; exact rfl) | (apply Mine.Internal.PosL.cons 12; exact rfl) | (apply Mine.Internal.PosL.cons 13; exact rfl) | (apply Mine.Internal.PosL.cons 14; exact rfl) | (apply Mine.Internal.PosL.cons 15; exact rfl) | (apply Mine.Internal.PosL.cons 16; exact rfl) | (apply Mine.Internal.PosL.cons 17; exact rfl) | (apply Mine.Internal.PosL.cons 18; exact rfl) | (apply Mine.Internal.PosL.cons 19; exact rfl) | (apply Mine.Internal.PosL.cons 20; exact rfl) | (apply Mine.Internal.PosL.cons 21; exact rfl) | (apply Mine.Internal.PosL.cons 22; exact rfl) | (apply Mine.Internal.PosL.cons 23; exact rfl)))
      k_with "slt" => exact Mine.Internal.Srt.lt (by with_reducible assumption) (by ((repeat (first | (with_reducible_and_instances refine Mine.Internal.Aft.here ?_; (repeat (first | with_reducible_and_instances exact List.Mem.head _ | with_reducible_and_instances refine List.Mem.tail _ ?_)); done) | with_reducible refine Mine.Internal.Aft.there ?_)); all_goals fail))
      k_with "take" => k_dflt ((try dsimp only); repeat' (first | exact Mine.Internal.Take.nil | exact Mine.Internal.Del.head | refine' Mine.Internal.Take.blk ?_ | exact Mine.Internal.Tl.nil | exact Mine.Internal.Tl.app | refine' Mine.Internal.Take.cons ?_ ?_ | refine' Mine.Internal.Del.tail ?_ | refine' Mine.Internal.Tl.cons ?_))
      k_with "upd" => (exact Mine.Internal.Srt.updP (by with_reducible assumption) (by repeat' (first | exact Mine.Internal.UpdI.head | refine' Mine.Internal.UpdI.tail ?_)) (by k_dflt (k_extra "pos")) (by exact rfl))
      k_with "all" => exact Mine.Internal.Ks.ne_all (by with_reducible assumption) (by first | exact .inr (by k_extra "slt") | exact .inl (by k_extra "slt"))
      k_with "ne" => (refine neN ?_; first | exact Mine.Internal.Srt.ne (by with_reducible assumption) (by with_reducible solve_by_elim (maxDepth := 40) only [Mine.Internal.Apart.l, Mine.Internal.Apart.r, Mine.Internal.Apart.t, List.Mem.head, List.Mem.tail]) | ((try dsimp only); omega))
      k_with "lt" => (intro h9l; first | ((with_reducible rename Mine.Internal.Srt _ => S8); (first | (have S9 := Mine.Internal.Srt.grow S8 (h9l (_, _) (by k_dflt k_mem)); clear S8) | (have S9 := Mine.Internal.Srt.grow S8.tl (h9l (_, _) (by k_dflt k_mem)); clear S8) | (have S9 := Mine.Internal.Srt.grow S8.tl.tl (h9l (_, _) (by k_dflt k_mem)); clear S8)); clear h9l) | (replace h9l := allLt_of h9l; simp only [AllLt, and_true] at h9l))
      k_with "subscriptTail" => (k_here; (with_reducible show wpAny _ _ (subscriptTail _ _ (Value.str _ _) (Value.int _ _)) _ _ _); (refine Mine.Internal.sub_chr (by omega) (by omega) (by assumption) ?_))
      k_with "getMethod ref" => (k_here; k_dflt (first | (refine' method_inst ?k1_lreadF ?k2_lreadF ?k3_lreadF ?k4_lreadF ?k5_lreadF ?k6_lreadF ?k7_lreadF ?_; (case k1_lreadF => k_asm); (case k2_lreadF => k_asm); (case k3_lreadF => k_inst); (case k4_lreadF => k_is); (case k5_lreadF => k_is); (case k6_lreadF => k_is); (case k7_lreadF => k_get); k_whole) | (refine' kmu_own ?k1_lreadF ?k2_lreadF ?k3_lreadF ?k4_lreadF ?k5_lreadF ?_; (case k1_lreadF => k_asm); (case k2_lreadF => k_asm); (case k3_lreadF => k_inst); (case k4_lreadF => k_is); (case k5_lreadF => k_is); k_whole)))
      k_with "getMethod ref" => (k_here; (with_reducible show wpAny _ _ (getMethod (Value.ref _) (PySem.Str.ofString "append") _) _ _ _); k_dflt (refine' kl_method ?N_lreadF ?m_lreadF slot_list_append type_list_append ?_; (case N_lreadF => k_asm); (case m_lreadF => k_mem); k_whole))
      k_with "execs cons" => (k_here; (with_reducible show wpAny _ _ _ _ _ (Shared.mk _ _ _ (_ + _) _)); (refine Mine.Internal.gentoks ?_); intro tkg9 htk9; (try dsimp only at htk9))
      k_with "call builtin:len" => (k_here; (with_reducible show wpAny _ _ (call (Value.builtin "len") [Value.str _ _]) _ _ _); (refine SBL.len (by first | omega | exact Mine.Internal.fit63 (by (refine Nat.le_trans (m := 10000) ?_ (by decide); repeat' (first | with_reducible assumption | with_reducible refine Mine.Internal.slice_len_le ?_ | (with_reducible refine Nat.le_trans (Mine.Internal.replace_len (by decide +kernel) (by decide +kernel)) ?_) | exact (by decide +kernel))))) ?_))
      k_with "ite" => (k_here; k_openite; first
      | (refine ite_pos ?hq_lreadF ?_; (case hq_lreadF => first | (simp only [decide_eq_true_eq, beq_iff_eq, bne_iff_ne, ne_eq, Bool.not_eq_true', decide_eq_false_iff_not]; omega) | (simp; done)))
      | (refine ite_neg ?hq_lreadF ?_; (case hq_lreadF => first | (simp only [decide_eq_true_eq, beq_iff_eq, bne_iff_ne, ne_eq, Bool.not_eq_true', decide_eq_false_iff_not]; omega) | (simp; done))))
      k_with "exec Assign" => ((with_reducible show wpAny _ _ _ _ _ _); k_fold)
      k_with "size" => k_dflt (first | exact Nat.le_of_ble_eq_true rfl | ((with_reducible show Array.size (List.toArray _) ≤ PySem.sizeLine); rw [List.size_toArray, PySem.sizeLine_eq]; refine Nat.le_trans (m := 100002) ?_ (Nat.le_of_ble_eq_true rfl); first | with_reducible assumption | exact Nat.le_trans (m := 100000) (by with_reducible assumption) (Nat.le_of_ble_eq_true rfl)))
      k_with "subscriptTail Name Constant ref int" => k_extra "subscriptTail"
      k_with "tok" => (first | exact Nat.le_add_left 1 _ | with_reducible assumption | exact Nat.le_trans (Nat.le_add_left 1 _) (by with_reducible assumption))
      k_with "next" => (first | ((with_reducible refine Mine.Internal.nextS (g := gens9) (d := dr9) (o := os9) ?_); intro qk9 tkg9) | ((with_reducible refine Mine.Internal.lastS (g := gens9) (d := dr9) (o := os9) ?_); intro tkg9) | (with_reducible refine Mine.Internal.nilS ?_) | (with_reducible refine Mine.Internal.fin9 ?_) | (with_reducible refine Mine.Internal.fin0 ?_) | (with_reducible refine Mine.Internal.finS9 ?_) | (with_reducible refine Mine.Internal.finS0 ?_) | ((with_reducible refine Mine.Internal.nextU (g := gens9) (d := dr9) (o := os9) ?_ ?_); (k_extra "tok"); intro qk9 tkg9) | ((with_reducible refine Mine.Internal.lastU (g := gens9) (d := dr9) (o := os9) ?_ ?_); (k_extra "tok"); intro tkg9) | ((with_reducible refine Mine.Internal.nextZ (g := gens9) (d := dr9) (o := os9) ?_); intro qk9 tkg9) | ((with_reducible refine Mine.Internal.lastZ (g := gens9) (d := dr9) (o := os9) ?_); intro tkg9))
      k_with "subscriptTail" => (first | ((fail_if_success (with_reducible show wpAny _ _ (subscriptTail _ (Expr.Slice _ _ _ _) _ _) _ _ _)); dsimp only) | ((with_reducible show wpAny _ _ (subscriptTail _ _ (Value.ref _) (Value.str (PySem.Str.ofString "data") _)) _ _ _); k_here; k_dflt (refine kdt_tail (knd := PySem.strKind _ _) (by k_asm) (by k_mem) (by k_asm) ?_)) | ((with_reducible show wpAny _ _ (subscriptTail (Expr.Subscript _ _ _) (Expr.UnaryOp _ _ _) (Value.ref _) (Value.int _ _)) _ _ _); k_here; k_dflt (refine' Mine.Internal.item_lastT ?iN_lreadF ?im_lreadF ?ik_lreadF ?_; (case iN_lreadF => k_asm); (case im_lreadF => k_mem); (case ik_lreadF => rfl); k_whole)))
      k_with "execs cons" => k_extra "next"
      k_with "execs nil" => (with_reducible refine Mine.Internal.nilS ?_)
      k_with "eval Constant int" => (with_reducible refine Mine.Internal.c_int (g := gens9) (d := dr9) (o := os9) ?_)
      k_with "eval Constant str" => (with_reducible refine Mine.Internal.c_str (g := gens9) (d := dr9) (o := os9) ?_)
      k_with "eval Attribute Name" => (k_here; k_dflt (refine' Mine.Internal.at_name (gs := gens9) (d := dr9) (o := os9) ?nF_lreadF ?nX_lreadF ?nN_lreadF ?nv_lreadF ?n1_lreadF ?n2_lreadF ?ng_lreadF ?nh_lreadF ?na_lreadF ?nn_lreadF ?nl_lreadF ?nd_lreadF ?_; (case nF_lreadF => k_asm); (case nX_lreadF => k_asm); (case nN_lreadF => k_asm); (case nv_lreadF => exact rfl); (case n1_lreadF => k_mem); (case n2_lreadF => k_mem); (case ng_lreadF => k_is); (case nh_lreadF => k_is); (case na_lreadF => k_is); (case nn_lreadF => k_is); (case nl_lreadF => k_get); (case nd_lreadF => k_handed); k_whole))
      k_with "setAttr ref" => (first | (k_here; ktx_write) | (k_here; k_dflt (refine' Mine.Internal.st_attr (gs := gens9) (d := dr9) (o := os9) ?sF_lreadF ?sX_lreadF ?sN_lreadF ?s1_lreadF ?s2_lreadF ?ss_lreadF ?sp_lreadF ?st_lreadF ?sh_lreadF ?sl_lreadF ?se_lreadF ?sU_lreadF ?sz_lreadF ?_; (case sF_lreadF => k_asm); (case sX_lreadF => k_asm); (case sN_lreadF => k_asm); (case s1_lreadF => k_mem); (case s2_lreadF => k_mem); (case ss_lreadF => k_is); (case sp_lreadF => k_is); (case st_lreadF => k_is); (case sh_lreadF => k_is); (case sl_lreadF => k_get); (case se_lreadF => k_put); (case sU_lreadF => k_upd); (case sz_lreadF => exact Nat.le_of_ble_eq_true rfl); k_whole; intro h' F' N'; (try k_sweep))))
      k_with "storeName" => (first | (k_here; ktx_write) | (k_here; k_dflt (refine' Mine.Internal.st_name (gs := gens9) (d := dr9) (o := os9) ?tF_lreadF ?tN_lreadF ?_; (case tF_lreadF => k_asm); (case tN_lreadF => k_asm); k_whole; intro m9 h' F' N'; (try k_sweep))))
      k_with "in" => first | with_reducible assumption | exact Frag.In.keeps (by with_reducible assumption) (Fr.keep (by with_reducible assumption))
      k_with "lt" => (intro h9l; ((have l1r9 := h9l); clear h9l))
      k_with "ne" => (refine neN ?_; first | exact Mine.Internal.ne_by (by with_reducible assumption) (by k_dflt k_mem) | exact Mine.Internal.ne_by' (by with_reducible assumption) (by k_dflt k_mem) | exact Nat.ne_of_lt (by with_reducible assumption) | exact Nat.ne_of_gt (by with_reducible assumption))
      k_with "all" => first | exact Mine.Internal.cons_ne (by with_reducible assumption) (by with_reducible assumption) (by with_reducible assumption) | exact Mine.Internal.tail_ne (by with_reducible assumption) (fun p9 hp9 => by ((repeat (first | exact hp9 | refine List.mem_cons_of_mem _ ?_)); all_goals fail)) (by with_reducible assumption) (.inl (by with_reducible assumption)) | exact Mine.Internal.all_ne (by with_reducible assumption) (fun p9 hp9 => by ((repeat (first | exact hp9 | refine List.mem_cons_of_mem _ ?_)); all_goals fail))
      k_with "all" => first | exact Mine.Internal.own_zd1 hzt9 how2 ho hzs her9 | exact Mine.Internal.own_zd how2 ho hzs her9 | exact Mine.Internal.Ks.ne_all (by with_reducible assumption) (.inl (by with_reducible assumption)) | exact Mine.Internal.cons_ne1 (by with_reducible assumption) (by with_reducible assumption) (by with_reducible assumption) | exact Mine.Internal.cons_ne (by with_reducible assumption) (by with_reducible assumption) (by with_reducible assumption) | exact Mine.Internal.tail_ne (by with_reducible assumption) (fun p9 hp9 => by ((repeat (first | exact hp9 | refine List.mem_cons_of_mem _ ?_)); all_goals fail)) (by with_reducible assumption) (.inl (by with_reducible assumption)) | exact Mine.Internal.all_ne (by with_reducible assumption) (fun p9 hp9 => by ((repeat (first | exact hp9 | refine List.mem_cons_of_mem _ ?_)); all_goals fail))
      k_with "getMethod ref" => (k_here; (with_reducible show wpAny _ _ (getMethod (Value.ref (Mine.Internal.Ks.st _)) _ _) _ _ _); k_dflt (refine' Mine.Internal.meth_blk ?F_lreadF ?X_lreadF ?N_lreadF ?tk_lreadF ?hg_lreadF ?hf_lreadF ?ht_lreadF ?hl_lreadF ?_; (case F_lreadF => k_asm); (case X_lreadF => k_asm); (case N_lreadF => k_asm); (case tk_lreadF => (k_extra "take")); (case hg_lreadF => k_is); (case hf_lreadF => k_is); (case ht_lreadF => k_is); (case hl_lreadF => exact rfl); k_whole))
      k_with "subscriptTail" => (k_here; (with_reducible show wpAny _ _ (subscriptTail _ _ (Value.ref 48) (Value.str (Str.ofString "SpaceCharacters") _)) _ _ _); k_dflt (refine' Mine.Internal.item_tok 2 ?F_lreadF ?X_lreadF ?he_lreadF ?hh_lreadF ?hl_lreadF ?_; (case hl_lreadF => kernel_rfl); (case F_lreadF => k_asm); (case X_lreadF => k_asm); (case he_lreadF => kernel_rfl); (case hh_lreadF => kernel_rfl); k_whole; intro t9))
      k_with "subscriptTail" => (k_here; (with_reducible show wpAny _ _ (subscriptTail _ _ (Value.ref 48) (Value.str (Str.ofString "Characters") _)) _ _ _); k_dflt (refine' Mine.Internal.item_tok 1 ?F_lreadF ?X_lreadF ?he_lreadF ?hh_lreadF ?hl_lreadF ?_; (case hl_lreadF => kernel_rfl); (case F_lreadF => k_asm); (case X_lreadF => k_asm); (case he_lreadF => kernel_rfl); (case hh_lreadF => kernel_rfl); k_whole; intro t9))
      k_with "eval Dict" => (k_here; (with_reducible show wpAny _ _ (eval (Expr.Dict (_ :: _) _ _) _) _ _ _); k_dflt (refine' kdn_str ?q_lreadF ?F_lreadF ?N_lreadF ?b_lreadF ?a_lreadF ?l_lreadF ?e_lreadF ?n_lreadF ?_; (case q_lreadF => rfl); (case F_lreadF => k_asm); (case N_lreadF => first | k_asm | exact News.nil); (case b_lreadF => exact Top.nolimit (by k_asm)); (case a_lreadF => rfl); (case l_lreadF => rfl); (case e_lreadF => exact List.cons_ne_nil _ _); (case n_lreadF => exact Nat.le_of_ble_eq_true rfl)); intro d' h' o' F' N' l1 lo' hd'; (try k_lt l1); (try dsimp only))
      k_fill
      refine' ctrS_introN (binds := [("text", .str T tt), ("attribute", .bool false)]) (fun h h' T k => T.keeps k) (fun h T => T.nolimit) ?ho_lreadF ?hcd_lreadF ?hD_lreadF ?hb_lreadF ?hl_lreadF ?_ ?hc_lreadF ?c1_lreadF ?c2_lreadF ?c3_lreadF
      case ho_lreadF => k_is
      case hcd_lreadF => k_is
      case hD_lreadF => decide
      case hb_lreadF => (intro s X; (try (rcases hargs with ⟨rfl, rfl, rfl⟩ | ⟨rfl, rfl⟩)); all_goals (first | exact BindsTo.of_eq rfl | exact binds_K X rfl (by k_is) rfl rfl rfl))
      case hl_lreadF => exact locs rfl
      case hc_lreadF => decide
      case c1_lreadF => exact rfl
      case c2_lreadF => exact rfl
      case c3_lreadF => exact rfl
      intro base g env outer L' h₁ hs9 gens9 dr9 t09 os9 tk B' F' XB' TB' D' X' N' T' l1
      intro e9 A9 q9
      (try k_lt l1)
      (try dsimp only)
      first | have S0 := Mine.Internal.Srt.eight ho hk hat | have S0 := Mine.Internal.Srt.grow (Mine.Internal.Srt.six ho) hoq | have S0 := Mine.Internal.Srt.five ho hk | have S0 := Mine.Internal.Srt.six ho | have S0 := Mine.Internal.Srt.two ho | have S0 := Mine.Internal.Srt.two hk | skip
      k_with "compareOp Is" => k_dflt ((with_reducible show wpAny _ _ (compareOp CmpOp.Is v' Value.none) _ _ _); (rcases Mine.Internal.ld_split hx' hrem8 hal8 hst8 hr9 hV9 hk9 with ⟨ev9, hVn, hkn⟩ | ⟨t1, ev9, j8, s8, k8, e8, hks8, hR8, hV8, hk8⟩ <;> subst ev9))
      k_with "ite" => (k_here; with_reducible first | (refine ite_pos rfl ?_) | (refine ite_neg Bool.false_ne_true ?_))
      k_with "eval ListComp" => (k_here; k_dflt (refine LCg.ListComp_U (F₀ := by k_asm) (by with_unfolding_all rfl) (by decide) (by rfl) (by decide) (by rfl) ?_))
      k_with "CompSrc" => k_dflt ((with_reducible show LCg.CompSrc _ _ _ _ _ _ _ _ _ _ _ _ (Value.ref _) _); (refine' LCg.CompSrc.ledger (its := ad9.toArray) (k := n9) ?c0_lreadF ?cF_lreadF ?cN_lreadF ?cm_lreadF ?cz_lreadF ?ch_lreadF; (case c0_lreadF => rfl); (case cF_lreadF => k_asm); (case cN_lreadF => k_asm); (case cm_lreadF => k_mem); (case cz_lreadF => (rw [List.size_toArray, sizeLine_eq]; exact Nat.le_trans (Mine.Internal.ad_size hR hT9 hk9 hq9) (by decide))); (case' ch_lreadF => (intro g'; refine' Mine.Internal.toks_list2 (own := ow9) hq9 ?cs_lreadF ?ct_lreadF ?cf_lreadF)); (case cs_lreadF => exact (fun p9 hp9 => by repeat (first | exact List.mem_append_left _ (List.mem_append_right _ hp9) | exact List.mem_append_right _ (List.mem_append_left _ hp9) | exact List.mem_append_left _ (List.mem_append_left _ hp9) | exact List.mem_append_left _ hp9 | refine List.mem_cons_of_mem _ ?_))); (case' ct_lreadF => (intro d9 o9 td1 td2 I' oI' C' oC' D' m' ys' h' tk' E' hdl hdd hC' hx' F' N' off' ne' mk')); (case' cf_lreadF => (intro ysE hysE)); (all_goals (try dsimp only)); (all_goals (try k_fold))))
      k_with "call builtin:list.pop" => k_dflt ((with_reducible show wpAny _ _ (call (Value.builtin "list.pop") [Value.ref _]) _ _ _); (try dsimp only); (refine' kl_pop ?F_lreadF ?N_lreadF (kpa_last (.ref d6) (ad9 ++ as6)) ?U_lreadF ?Z_lreadF ?_; (case F_lreadF => k_asm); (case N_lreadF => k_asm); (case U_lreadF => k_upd); (case Z_lreadF => exact Mine.Internal.pop_fits hR hT9 hk8 hq9 hq6 hks8); k_whole); intro h' F' N'; (try k_sweep))
      k_with "binaryOp Add str str" => k_dflt ((with_reducible show wpAny _ _ (binaryOp Operator.Add (Value.str (sg9 ++ _) _) (Value.str _ _)) _ _ _); ((with_reducible refine' KOpn.add ?fa11x0_lreadF ?_); (case fa11x0_lreadF => exact (Mine.Internal.sum_fits hsf9 e8 hsu9 hT9))); intro ti6 ki6 hi6)
      k_with "all" => exact Mine.Internal.own_tq (Mine.Internal.lt_by (by with_reducible assumption) (by k_dflt k_mem)) (Mine.Internal.lt_by (by with_reducible assumption) (by k_dflt k_mem)) (Mine.Internal.lt_by (by with_reducible assumption) (by k_dflt k_mem)) how2 htq6 ho her9
      k_with "GrowT" => k_dflt ((with_reducible rename Fr _ _ _ _ => F9); (with_reducible rename News _ _ _ _ => N9); (refine' Mine.Internal.Ct.endN (fl := fl6) (y' := y6) (v' := .ref d') (ad' := ad9 ++ as6) G6 F9 N9 ?gn_lreadF ?gf_lreadF ?gm_lreadF ?gr_lreadF (Mine.Internal.Ct.next ok6 hsu9 hln9 how9 her9 e8 hV8 hk8 hR8 hrem6 Mine.Internal.sgF hq9 (hks8 ▸ hq6) (Mine.Internal.fl_gt hfl6 ?gx_lreadF)); (case gn_lreadF => exact Mine.Internal.ct_subF); (case gf_lreadF => exact Mine.Internal.fl_own hfl6 (fun p9 hp9 => by repeat (first | exact List.mem_append_left _ (List.mem_append_left _ hp9) | refine List.mem_cons_of_mem _ ?_))); (case gm_lreadF => exact if_pos rfl); (case gr_lreadF => exact (fun z9 hz1 hz2 => (if_neg hz2).trans ((if_neg hz2).trans ((if_neg hz1).trans (Mine.Internal.kst_tw1 hz2))))); (case gx_lreadF => k_mem)))
      k_with "CompEnd" => k_dflt ((with_reducible rename Fr _ _ _ _ => F9); (with_reducible rename News _ _ _ _ => N9); (refine' Mine.Internal.toks_el (its := ad9) (nf := n9) ?ke0_lreadF F9 N9 ?ke1_lreadF off'; (case ke0_lreadF => k_mem); (case ke1_lreadF => exact (fun p9 hp9 => by (repeat (first | exact hp9 | refine List.mem_cons_of_mem _ ?_))))))
      k_with "inplaceOp Add str str" => k_dflt ((with_reducible show wpAny _ _ (inplaceOp Operator.Add (Value.str sg9 _) (Value.str ⟨List.toArray p8⟩ _)) _ _ _); ((with_reducible refine' iadd_str ?_ ?fa10x1_lreadF); (case fa10x1_lreadF => exact (Mine.Internal.sg_run hsf9 hrem8 hsu9 hT9))); intro ti9 ki9)
      k_with "call ref" => (first | ((with_reducible show wpAny _ _ (call (Value.ref 156) _ _) _ _ _); k_dflt (refine' call_until (al := fun c => c == 38) ho ?hoq_lreadF sok9 ?hvs_lreadF ?hal_lreadF ?cB_lreadF ?cF_lreadF ?cX_lreadF ?cT_lreadF ?ca_lreadF ?cb_lreadF ?cc_lreadF ?ce_lreadF ?cd_lreadF ?cu_lreadF ?cN_lreadF ?tk_lreadF ?ne_lreadF ?nq_lreadF ?_; (case cF_lreadF => k_asm); (case cB_lreadF => k_asm); (case cX_lreadF => k_asm); (case cT_lreadF => k_asm); (case ca_lreadF => exact rfl); (case cb_lreadF => exact rfl); (case cc_lreadF => exact rfl); (case ce_lreadF => exact rfl); (case cd_lreadF => exact Nat.le_of_ble_eq_true rfl); (case cu_lreadF => exact Nat.le_of_ble_eq_true rfl); (case cN_lreadF => k_asm); (case tk_lreadF => (k_extra "take")); (case hvs_lreadF => repeat' constructor); (case hal_lreadF => exact Mine.Internal.amp_any); (case hoq_lreadF => exact (Mine.Internal.Ks.er_lt (by with_reducible assumption) (fun p9 hp9 => by ((repeat (first | exact hp9 | exact List.mem_append_right _ (List.mem_append_right _ hp9) | exact List.mem_append_right _ hp9 | refine List.mem_cons_of_mem _ ?_)); all_goals fail)))); (case ne_lreadF => repeat' (first | exact Mine.Internal.Outs.nil | exact hog9 | refine' Mine.Internal.Outs.lo (by with_reducible assumption) ?_ | refine' Mine.Internal.Outs.hi (by with_reducible assumption) ?_ | refine' Mine.Internal.Outs.hi (Mine.Internal.Ks.er_lt (by with_reducible assumption) (fun p9 hp9 => by ((repeat (first | exact hp9 | exact List.mem_append_right _ (List.mem_append_right _ hp9) | exact List.mem_append_right _ hp9 | refine List.mem_cons_of_mem _ ?_)); all_goals fail))) ?_ | fail)); (case nq_lreadF => (refine' Mine.Internal.nq_sub ?nq1_lreadF ?nq2_lreadF; (case nq1_lreadF => with_reducible assumption); (case nq2_lreadF => exact (fun p9 hp9 => by repeat (first | exact List.mem_append_left _ hp9 | refine List.mem_cons_of_mem _ ?_))))); k_whole; intro y8 p8 tp8 h' tk' ok8 hrem8 hal8 hst8 htk' F' N'; (try dsimp only at htk'); (try dsimp only [List.cons_append, List.nil_append] at N'); (try k_sweep); (try dsimp only); (try k_fold))) | ((with_reducible show wpAny _ _ (call (Value.ref 133) _ _) _ _ _); k_dflt (refine' call_char ho ok8 ?cB_lreadF ?cF_lreadF ?cX_lreadF ?cT_lreadF ?ca_lreadF ?cb_lreadF ?cc_lreadF ?ce_lreadF ?cd_lreadF ?cu_lreadF ?cN_lreadF ?tk_lreadF ?ne_lreadF ?_; (case cF_lreadF => k_asm); (case cB_lreadF => k_asm); (case cX_lreadF => k_asm); (case cT_lreadF => k_asm); (case ca_lreadF => exact rfl); (case cb_lreadF => exact rfl); (case cc_lreadF => exact rfl); (case ce_lreadF => exact rfl); (case cd_lreadF => exact Nat.le_of_ble_eq_true rfl); (case cu_lreadF => exact Nat.le_of_ble_eq_true rfl); (case cN_lreadF => k_asm); (case tk_lreadF => (k_extra "take")); (case ne_lreadF => repeat' (first | exact Mine.Internal.Outs.nil | exact hog9 | refine' Mine.Internal.Outs.lo (by with_reducible assumption) ?_ | refine' Mine.Internal.Outs.hi (by with_reducible assumption) ?_ | refine' Mine.Internal.Outs.hi (Mine.Internal.Ks.er_lt (by with_reducible assumption) (fun p9 hp9 => by ((repeat (first | exact hp9 | exact List.mem_append_right _ (List.mem_append_right _ hp9) | exact List.mem_append_right _ hp9 | refine List.mem_cons_of_mem _ ?_)); all_goals fail))) ?_ | fail)); k_whole; intro y7 v' h' tk' ok7 hx' htk' F' N'; (try dsimp only at htk'); (try dsimp only [List.cons_append, List.nil_append] at N'); (try k_sweep); (try dsimp only); (try k_fold))) | ((with_reducible show wpAny _ _ (call (Value.ref 283) _ _) _ _ _); k_dflt (refine' call_ceF (x := y7) ho hzz hza ok7 ?hl_lreadF ?hq_lreadF ?hv_lreadF ?h35_lreadF ?cB_lreadF ?cF_lreadF ?cX_lreadF ?cT_lreadF ?cXB_lreadF ?cTB_lreadF ?cD_lreadF ?ca_lreadF ?cb_lreadF ?cc_lreadF ?ce_lreadF ?cd_lreadF ?cu_lreadF ?cN_lreadF ?tk_lreadF ?hcd_lreadF her9 ?h2_lreadF ?h3_lreadF ?h4_lreadF ?hne_lreadF ?_; (case cB_lreadF => k_asm); (case cF_lreadF => k_asm); (case cX_lreadF => k_asm); (case cT_lreadF => k_asm); (case cXB_lreadF => with_reducible assumption); (case cTB_lreadF => with_reducible assumption); (case cD_lreadF => with_reducible assumption); (case ca_lreadF => exact rfl); (case cb_lreadF => exact rfl); (case cc_lreadF => exact rfl); (case ce_lreadF => exact rfl); (case cd_lreadF => exact Nat.le_of_ble_eq_true rfl); (case cu_lreadF => exact Nat.le_of_ble_eq_true rfl); (case cN_lreadF => k_asm); (case tk_lreadF => (k_extra "take")); (case hl_lreadF => exact Mine.Internal.r7_len e8 hsu9 hT9); (case hq_lreadF => exact Nat.le_trans (Mine.Internal.ad_size hR hT9 hk9 hq9) (by decide)); (case hv_lreadF => exact Mine.Internal.v7_ok hsf9 e8 hsu9 hT9); (case h35_lreadF => exact Mine.Internal.r7_35 e8 hsu9 h35); (case hcd_lreadF => assumption); (case h2_lreadF => exact (Mine.Internal.lt_by (by with_reducible assumption) (by k_dflt k_mem))); (case h3_lreadF => exact (Mine.Internal.lt_by (by with_reducible assumption) (by k_dflt k_mem))); (case h4_lreadF => exact (Mine.Internal.lt_by (by with_reducible assumption) (by k_dflt k_mem))); (case hne_lreadF => exact (fun q9 hq9 => .inr (.inr ⟨how2 q9 hq9, Mine.Internal.all_by (by with_reducible assumption) (fun p9 hp9 => by repeat (first | exact List.mem_append_left _ hp9 | refine List.mem_cons_of_mem _ ?_)) q9 hq9⟩))); k_whole; intro g8 y6 fl6 as6 d6 o6 ty6 td6 te6 n6 val6 vt6 h6 tk6 T6 B6 X6 P6 D6 ok6 hrem6 hfl6 hq6 hl6 hdd6 htk6 htq6 htd6 F6 N6; (have G6 := Mine.Internal.Gt.turn (g := g) (A₀ := topA 430 (350 + 1) env outer) ⟨T9, B9', X9, P9, D9⟩ T6 B6 X6 P6 D6); (try dsimp only at htk6); (clear B9' X9 P9 D9); (try dsimp only [Mine.Internal.Lz, List.nil_append] at N6); (try k_sweep); (try dsimp only); (try k_fold))) | ((with_reducible show wpAny _ _ (call (Value.ref 762) _ _) _ _ _); k_dflt (refine' call_tok (Nat.le_trans hT (by decide)) hsm ?cB_lreadF ?cF_lreadF ?cX_lreadF ?cT_lreadF ?ca_lreadF ?cb_lreadF ?cc_lreadF ?ce_lreadF ?cd_lreadF ?cu_lreadF ?cN_lreadF  ?_; (case cF_lreadF => k_asm); (case cB_lreadF => k_asm); (case cX_lreadF => k_asm); (case cT_lreadF => k_asm); (case ca_lreadF => exact rfl); (case cb_lreadF => exact rfl); (case cc_lreadF => exact rfl); (case ce_lreadF => exact rfl); (case cd_lreadF => exact Nat.le_of_ble_eq_true rfl); (case cu_lreadF => exact Nat.le_of_ble_eq_true rfl); (case cN_lreadF => k_asm); k_whole; intro K Z y0 h' tk' ho hzo hown' hksrc' ok' hrem' htk' F' N'; have hzs := Nat.lt_trans hzo.1 hzo.2; have hzz := hzo.1; have hza := hzo.2; (try dsimp only at htk'); (try dsimp only [List.cons_append, List.nil_append] at N'); (try k_sweep); (try dsimp only); (try k_fold))) | (refine Mine.Internal.hold ?_))
      k_with "exec For Name Call cons nil" => (k_here; (with_unfolding_all refine' Mine.Internal.For_turn (G := Mine.Internal.Gt (main.heap_1_39 w.params) (Top main.view_1_40 loose mean mg mb) (topA 430 (350 + 1) env outer) base (env :: outer) g) ?k1_lreadF ?k2_lreadF ?_; (case k1_lreadF => exact rfl); (case k2_lreadF => exact rfl); k_whole))
      k_with "pyIter ref" => k_dflt ((with_reducible show wpAny _ _ (pyIter (Value.ref _)) (fun it s₂ => Mine.Internal.LoopT _ _ _ _ _ _ _ _ _ it s₂) _ _); (with_reducible rename Fr _ _ _ _ => F0); (with_reducible rename News _ _ _ _ => N0); (with_reducible rename IsRange _ _ _ _ _ _ _ _ => rg9); (refine' Mine.Internal.loop_growT (σ := Mine.Internal.Ct) (n := T.length + 1) (fs := fms (env :: outer)) (fun c => [("signs", .str c.sg c.tsg)]) [] (Mine.Internal.Ct.led w K Z _ _) (Mine.Internal.Ct.P PySem.Challenge.rw_te0076_01.row.prog w K _ false T.cps.toList V kk T.length) ⟨y0, Z.v6, [], _, Str.ofString "", _, []⟩ ?lh_lreadF rg9 ?lb_lreadF ?ln_lreadF (fun g' hg' => hg'.1) ⟨KtsTurn.refl, B', X', T', D'⟩ F0 ?lN_lreadF ?lk_lreadF (Mine.Internal.Ct.start ok' (hrem'.trans (Mine.Internal.mendL_same h13)) hR rfl ?ll_lreadF ?le_lreadF) ?lt_lreadF (fun c hc => Mine.Internal.Ct.over hc)); (case lh_lreadF => exact rfl); (case lb_lreadF => exact rfl); (case ln_lreadF => exact Nat.le_trans (Nat.succ_le_succ hT) (by decide)); (case lk_lreadF => (intro p hp; (simp only [List.mem_cons, List.not_mem_nil, or_false] at hp); subst hp; rfl)); (case ll_lreadF => (rw [Mine.Internal.len_toList]; exact Nat.le_refl _)); (case' lN_lreadF => skip); (case lN_lreadF => exact (fun p9 hp9 => N0 p9 (Mine.Internal.Take.sub (rest := _) (by (k_extra "take")) p9 hp9))); (case le_lreadF => exact (Mine.Internal.Ks.er_lt (by with_reducible assumption) (fun p9 hp9 => by ((repeat (first | exact hp9 | exact List.mem_append_right _ (List.mem_append_right _ hp9) | exact List.mem_append_right _ hp9 | refine List.mem_cons_of_mem _ ?_)); all_goals fail)))); (case' lt_lreadF => (intro c i9 t9 u9 g9 h9 tk9 own9 hi9 hP9 hG9 hlt9 F9 N9; (clear F0 N0 B' X' T' D'); obtain ⟨y9, v69, ad9, n9, sg9, ts9, ow9⟩ := c; obtain ⟨sok9, ⟨s9, kr9, j9, hr9, hV9, hk9, hq9⟩, hsu9, hln9, how9, her9⟩ := hP9; obtain ⟨T9, B9', X9, P9, D9⟩ := hG9; (have N10 := Mine.Internal.news_mid3 N9); clear N9; (have how2 := Mine.Internal.own_two how9 hlt9 (.tail _ (.tail _ (.head _)))); (have hog9 := Mine.Internal.owns_out how2 her9); (have hzt9 := Mine.Internal.tq_zd ho hzs her9); (have hT9 : T.cps.toList.length ≤ 100 := by rw [Mine.Internal.len_toList]; exact hT); (have hsf9 := Mine.Internal.sg_fit hR hV9 hT9); (try dsimp only [Mine.Internal.Ct.led] at N10); (try dsimp only at F9 sok9 hr9 hV9 hq9 hsu9 hln9 how9 hsf9); (try dsimp only at how2 hog9); (try dsimp only); (try k_fold))))
      k_steps
      all_goals (with_reducible rename Fr _ _ _ _ => F9); (with_reducible rename News _ _ _ _ => N9)
      all_goals first
        | (refine' Mine.Internal.ld_end2 (s₁ := ⟨hs9, gens9, dr9, t09, os9⟩) hVn hkn hysE T9 F9 N9 ?le2_lreadF ?le3_lreadF; (case le2_lreadF => k_mem); (case le3_lreadF => k_mem))
        | fail
  have ctr_lwr {w : World} {loose : List Str} {mean : ExcName → Option Value} {mg mb : Str → Option Value} {scr : Addr} {vs : List Value} {ns : List Int} {fa : Bool} (hi : IntsAre vs ns) (hsz : vs.length ≤ 63) :
      CtrC PySem.Challenge.rw_te0076_01.row.prog w (main.heap_1_39 w.params) (fun h => (Top main.view_1_40 loose mean mg mb) h ∧ h.IsList scr vs.toArray) 450 500 (.ref 787) ⟨[.ref scr, .bool fa], []⟩ [] (fun v fr l => Mine.Internal.LwP fa v fr l) := by
    as_aux_lemma =>
      clear ctr_is_invalid ctr_charErrors ctr_read ctr_readE ctr_position0 ctr_unget ctr_ungetN ctr_ungetS ctr_readN ctr_readC ctr_readA ctr_char ctr_until ctr_tinit call_char call_unget call_ungetN call_until call_tok ctr_bisect ctr_haskeys ctr_ceNT ctr_ceNF call_ceT call_ceF ctr_lreadT ctr_lreadF
      k_with_none
      k_with "pos" => (repeat' (first | exact Mine.Internal.PosL.nil | (apply Mine.Internal.PosL.cons 0; exact rfl) | (apply Mine.Internal.PosL.cons 1; exact rfl) | (apply Mine.Internal.PosL.cons 2; exact rfl) | (apply Mine.Internal.PosL.cons 3; exact rfl) | (apply Mine.Internal.PosL.cons 4; exact rfl) | (apply Mine.Internal.PosL.cons 5; exact rfl) | (apply Mine.Internal.PosL.cons 6; exact rfl) | (apply Mine.Internal.PosL.cons 7; exact rfl) | (apply Mine.Internal.PosL.cons 8; exact rfl) | (apply Mine.Internal.PosL.cons 9; exact rfl) | (apply Mine.Internal.PosL.cons 10; exact rfl) | (apply Mine.Internal.PosL.cons 11; exact rfl) | (apply Mine.Internal.PosL.cons 12; exact rfl) | (apply Mine.Internal.PosL.cons 13; exact rfl) | (apply Mine.Internal.PosL.cons 14; exact rfl) | (apply Mine.Internal.PosL.cons 15; exact rfl) | (apply Mine.Internal.PosL.cons 16; exact rfl) | (apply Mine.Internal.PosL.cons 17; exact rfl) | (apply Mine.Internal.PosL.cons 18; exact rfl) | (apply Mine.Internal.PosL.cons 19; exact rfl) | (apply Mine.Internal.PosL.cons 20; exact rfl) | (apply Mine.Internal.PosL.cons 21; exact rfl) | (apply Mine.Internal.PosL.cons 22; exact rfl) | (apply Mine.Internal.PosL.cons 23; exact rfl)))
      k_with "slt" => exact Mine.Internal.Srt.lt (by with_reducible assumption) (by ((repeat (first | (with_reducible_and_instances refine Mine.Internal.Aft.here ?_; (repeat (first | with_reducible_and_instances exact List.Mem.head _ | with_reducible_and_instances refine List.Mem.tail _ ?_)); done) | with_reducible refine Mine.Internal.Aft.there ?_)); all_goals fail))
      k_with "upd" => (exact Mine.Internal.Srt.updP (by with_reducible assumption) (by repeat' (first | exact Mine.Internal.UpdI.head | refine' Mine.Internal.UpdI.tail ?_)) (by k_dflt (k_extra "pos")) (by exact rfl))
      k_with "all" => exact Mine.Internal.Ks.ne_all (by with_reducible assumption) (by first | exact .inr (by k_extra "slt") | exact .inl (by k_extra "slt"))
      k_with "ne" => (refine neN ?_; first | exact Mine.Internal.Srt.ne (by with_reducible assumption) (by with_reducible solve_by_elim (maxDepth := 40) only [Mine.Internal.Apart.l, Mine.Internal.Apart.r, Mine.Internal.Apart.t, List.Mem.head, List.Mem.tail]) | ((try dsimp only); omega))
      k_with "lt" => (intro h9l; first | ((with_reducible rename Mine.Internal.Srt _ => S8); (first | (have S9 := Mine.Internal.Srt.grow S8 (h9l (_, _) (by k_dflt k_mem)); clear S8) | (have S9 := Mine.Internal.Srt.grow S8.tl (h9l (_, _) (by k_dflt k_mem)); clear S8) | (have S9 := Mine.Internal.Srt.grow S8.tl.tl (h9l (_, _) (by k_dflt k_mem)); clear S8)); clear h9l) | (replace h9l := allLt_of h9l; simp only [AllLt, and_true] at h9l))
      k_with "subscriptTail" => (k_here; (with_reducible show wpAny _ _ (subscriptTail _ _ (Value.str _ _) (Value.int _ _)) _ _ _); (refine Mine.Internal.sub_chr (by omega) (by omega) (by assumption) ?_))
      k_with "subscriptTail Name UnaryOp str int" => (k_here; (with_reducible show wpAny _ _ (subscriptTail _ _ (Value.str _ _) (Value.int _ _)) _ _ _); (refine Mine.Internal.sub_last (by omega) (by omega) (by omega) ?_); intro c9 hc9; (try (k_dflt (have hs9 := Mine.Internal.last_lt (B := 55296) (by assumption) (by assumption) hc9))))
      k_with "execs cons" => (k_here; (with_reducible show wpAny _ _ _ _ _ (Shared.mk _ _ _ (_ + _) _)); (refine Mine.Internal.gentoks ?_); intro tkg9 htk9; (try dsimp only at htk9))
      k_with "call builtin:len" => (k_here; (with_reducible show wpAny _ _ (call (Value.builtin "len") [Value.str _ _]) _ _ _); (refine SBL.len (by first | omega | exact Mine.Internal.fit63 (by (refine Nat.le_trans (m := 10000) ?_ (by decide); repeat' (first | with_reducible assumption | with_reducible refine Mine.Internal.slice_len_le ?_ | (with_reducible refine Nat.le_trans (Mine.Internal.replace_len (by decide +kernel) (by decide +kernel)) ?_) | exact (by decide +kernel))))) ?_))
      k_with "exec Assign" => ((with_reducible show wpAny _ _ _ _ _ _); k_fold)
      k_with "size" => k_dflt (first | exact Nat.le_of_ble_eq_true rfl | ((with_reducible show Array.size (List.toArray _) ≤ PySem.sizeLine); rw [List.size_toArray, PySem.sizeLine_eq]; refine Nat.le_trans (m := 100002) ?_ (Nat.le_of_ble_eq_true rfl); first | with_reducible assumption | exact Nat.le_trans (m := 100000) (by with_reducible assumption) (Nat.le_of_ble_eq_true rfl)))
      k_with "subscriptTail Name Constant ref int" => k_extra "subscriptTail"
      k_with "tok" => (first | exact Nat.le_add_left 1 _ | with_reducible assumption | exact Nat.le_trans (Nat.le_add_left 1 _) (by with_reducible assumption))
      k_with "next" => (first | ((with_reducible refine Mine.Internal.nextS (g := gens9) (d := dr9) (o := os9) ?_); intro qk9 tkg9) | ((with_reducible refine Mine.Internal.lastS (g := gens9) (d := dr9) (o := os9) ?_); intro tkg9) | (with_reducible refine Mine.Internal.nilS ?_) | (with_reducible refine Mine.Internal.fin9 ?_) | (with_reducible refine Mine.Internal.fin0 ?_) | (with_reducible refine Mine.Internal.finS9 ?_) | (with_reducible refine Mine.Internal.finS0 ?_) | ((with_reducible refine Mine.Internal.nextU (g := gens9) (d := dr9) (o := os9) ?_ ?_); (k_extra "tok"); intro qk9 tkg9) | ((with_reducible refine Mine.Internal.lastU (g := gens9) (d := dr9) (o := os9) ?_ ?_); (k_extra "tok"); intro tkg9) | ((with_reducible refine Mine.Internal.nextZ (g := gens9) (d := dr9) (o := os9) ?_); intro qk9 tkg9) | ((with_reducible refine Mine.Internal.lastZ (g := gens9) (d := dr9) (o := os9) ?_); intro tkg9))
      k_with "subscriptTail" => (first | ((fail_if_success (with_reducible show wpAny _ _ (subscriptTail _ (Expr.Slice _ _ _ _) _ _) _ _ _)); dsimp only) | ((with_reducible show wpAny _ _ (subscriptTail _ _ (Value.ref _) (Value.str (PySem.Str.ofString "data") _)) _ _ _); k_here; k_dflt (refine kdt_tail (knd := PySem.strKind _ _) (by k_asm) (by k_mem) (by k_asm) ?_)) | ((with_reducible show wpAny _ _ (subscriptTail (Expr.Subscript _ _ _) (Expr.UnaryOp _ _ _) (Value.ref _) (Value.int _ _)) _ _ _); k_here; k_dflt (refine' Mine.Internal.item_lastT ?iN_lwr ?im_lwr ?ik_lwr ?_; (case iN_lwr => k_asm); (case im_lwr => k_mem); (case ik_lwr => rfl); k_whole)))
      k_with "execs cons" => k_extra "next"
      k_with "execs nil" => (with_reducible refine Mine.Internal.nilS ?_)
      k_with "eval Constant int" => (with_reducible refine Mine.Internal.c_int (g := gens9) (d := dr9) (o := os9) ?_)
      k_with "eval Constant str" => (with_reducible refine Mine.Internal.c_str (g := gens9) (d := dr9) (o := os9) ?_)
      k_with "storeName" => (first | (k_here; ktx_write) | (k_here; k_dflt (refine' Mine.Internal.st_name (gs := gens9) (d := dr9) (o := os9) ?tF_lwr ?tN_lwr ?_; (case tF_lwr => k_asm); (case tN_lwr => k_asm); k_whole; intro m9 h' F' N'; (try k_sweep))))
      k_with "call ref" => (k_here; (with_reducible show wpAny _ _ (call (Value.ref 780) _ _) _ _ _); k_dflt (refine' Mine.Internal.Ctr.useN (gs := gens9) (d := dr9) (o := os9) (Mine.Internal.CtrC.call (ctr_llong (Mine.Internal.nmx_len hen9 hxl9))) ?cB_lwr ?cF_lwr ?cX_lwr ?cN_lwr ?cT_lwr ?ca_lwr ?cb_lwr ?cc_lwr ?ce_lwr ?cd_lwr ?cu_lwr ?ck_lwr ?cne_lwr ?_; (case cB_lwr => k_asm); (case cF_lwr => k_asm); (case cX_lwr => k_asm); (case cT_lwr => k_asm); (case cN_lwr => k_asm); (case ca_lwr => exact rfl); (case cb_lwr => exact rfl); (case cc_lwr => exact rfl); (case ce_lwr => exact rfl); (case cd_lwr => exact Nat.le_of_ble_eq_true rfl); (case cu_lwr => exact Nat.le_of_ble_eq_true rfl); (case ck_lwr => ((try (refine' Mine.Internal.Take.cons ?_ ?_)); repeat' (first | exact Mine.Internal.Take.nil | exact Mine.Internal.Del.head | refine' Mine.Internal.Take.cons ?_ ?_ | refine' Mine.Internal.Del.tail ?_))); (case cne_lwr => first | exact List.forall_mem_nil _ | exact (fun _ _ => List.forall_mem_nil _) | exact Mine.Internal.Srt.neL (by with_reducible assumption) (by k_extra "pos") (by k_extra "pos") (by exact rfl) | ((simp only [List.forall_mem_cons, List.not_mem_nil, false_implies, implies_true, and_true, true_and]); (repeat' (refine And.intro ?_ ?_)); all_goals k_ne)); (k_whole; intro v' l' hp'; obtain ⟨b9, tb9', e1', hlg9, e2'⟩ := hp'; subst e1'; subst e2'; intro h' n' hn' F' N'; (try dsimp only [List.cons_append, List.nil_append] at N'); (try k_sweep); (try dsimp only); (try k_fold))))
      k_with "call ref" => (k_here; (with_reducible show wpAny _ _ (call (Value.ref 773) _ _) _ _ _); k_dflt (refine' Mine.Internal.Ctr.useF (gs := gens9) (d := dr9) (o := os9) (Mine.Internal.CtrC.call ctr_lplain) ?cB_lwr ?cF_lwr ?cX_lwr ?cN_lwr ?cT_lwr ?ca_lwr ?cb_lwr ?cc_lwr ?ce_lwr ?cd_lwr ?cu_lwr ?ck_lwr ?cne_lwr ?_; (case cB_lwr => k_asm); (case cF_lwr => k_asm); (case cX_lwr => k_asm); (case cT_lwr => k_asm); (case cN_lwr => k_asm); (case ca_lwr => exact rfl); (case cb_lwr => exact rfl); (case cc_lwr => exact rfl); (case ce_lwr => exact rfl); (case cd_lwr => exact Nat.le_of_ble_eq_true rfl); (case cu_lwr => exact Nat.le_of_ble_eq_true rfl); (case ck_lwr => ((try (refine' Mine.Internal.Take.cons ?_ ?_)); repeat' (first | exact Mine.Internal.Take.nil | exact Mine.Internal.Del.head | refine' Mine.Internal.Take.cons ?_ ?_ | refine' Mine.Internal.Del.tail ?_))); (case cne_lwr => first | exact List.forall_mem_nil _ | exact (fun _ _ => List.forall_mem_nil _) | exact Mine.Internal.Srt.neL (by with_reducible assumption) (by k_extra "pos") (by k_extra "pos") (by exact rfl) | ((simp only [List.forall_mem_cons, List.not_mem_nil, false_implies, implies_true, and_true, true_and]); (repeat' (refine And.intro ?_ ?_)); all_goals k_ne)); (k_whole; intro v' fr' l' hp' hfr'; obtain ⟨e3', q9', vs9', n9', e1', e2', hs9'⟩ := hp'; subst e3'; subst e1'; subst e2'; (first | ((with_reducible rename Mine.Internal.Srt _ => S8); (have S9 := Mine.Internal.fresh_grow S8 hfr' (by k_dflt k_mem)); clear S8; clear hfr') | simp only [List.cons_append, List.nil_append, List.forall_mem_cons, List.not_mem_nil, false_implies, implies_true, and_true, true_and] at hfr'); intro h' n' hn' F' N'; (try dsimp only [List.cons_append, List.nil_append] at N'); (try k_sweep); (try dsimp only); (try k_fold))))
      k_fill
      refine' ctr_introN (binds := [("script", .ref scr), ("attribute", .bool fa)]) (fun h h' T k => ⟨T.1.keeps k, Mine.Internal.isl_keep T.2 k⟩) (fun h T => T.1.nolimit) ?ho_lwr ?hcd_lwr ?hD_lwr ?hb_lwr ?hl_lwr ?_ ?hc_lwr ?c1_lwr ?c2_lwr ?c3_lwr
      case ho_lwr => k_is
      case hcd_lwr => k_is
      case hD_lwr => decide
      case hb_lwr => (intro s X; (try (rcases hargs with ⟨rfl, rfl, rfl⟩ | ⟨rfl, rfl⟩)); all_goals (first | exact BindsTo.of_eq rfl | exact binds_K X rfl (by k_is) rfl rfl rfl))
      case hl_lwr => exact locs rfl
      case hc_lwr => decide
      case c1_lwr => exact rfl
      case c2_lwr => exact rfl
      case c3_lwr => exact rfl
      intro A base g env outer L' h₁ hs9 gens9 dr9 t09 os9 tk B' F' X' N' T' l1
      obtain ⟨T', hsc9⟩ := T'
      intro e9 A9 q9
      (try clear l1)
      (try dsimp only at N')
      first | have S0 := Mine.Internal.Srt.eight ho hk hat | have S0 := Mine.Internal.Srt.grow (Mine.Internal.Srt.six ho) hoq | have S0 := Mine.Internal.Srt.five ho hk | have S0 := Mine.Internal.Srt.six ho | have S0 := Mine.Internal.Srt.two ho | have S0 := Mine.Internal.Srt.two hk | skip

      k_with "call builtin:sorted" => (k_dflt ((with_reducible show wpAny _ _ (call (Value.builtin "sorted") [Value.ref 43]) _ _ _); refine' Mine.Internal.sorted_ent ?sh_lwr ?sX_lwr ?se_lwr ?shh_lwr ?sF_lwr ?sN_lwr ?_; (case sh_lwr => exact rfl); (case sX_lwr => k_asm); (case se_lwr => kernel_rfl); (case shh_lwr => kernel_rfl); (case sF_lwr => k_asm); (case sN_lwr => first | k_asm | exact News.nil); k_whole); intro nB9 nvs9 nss9 nn9 h' tk' hns9 hnp9 l1 F' N'; (try k_lt l1); (try k_sweep); (try dsimp only); (try k_fold))
      k_with "exec For Name Subscript" => (k_here; (with_reducible rename Fr _ _ _ _ => lF'); (with_unfolding_all refine' For_invVF lF' ?k1_lwr ?k2_lwr ?_; (case k1_lwr => exact rfl); (case k2_lwr => exact rfl); k_whole))
      k_with "exec For Name Subscript cons nil" => k_extra "exec For Name Subscript"
      k_with "pyIter ref" => k_dflt ((with_reducible show wpAny _ _ (pyIter (Value.ref _)) (fun it s₂ => LoopAtV _ _ _ _ _ _ _ _ _ it s₂) _ _); (with_reducible rename Fr _ _ _ _ => F0); (with_reducible rename News _ _ _ _ => N0); (with_reducible rename IntsAre _ (List.reverse _) => hi8); (refine' Mine.Internal.loop_ints (σ := Mine.Internal.Wc) Mine.Internal.Wc.ps ["piece", "glued"] (Mine.Internal.Wc.P fa) ⟨_, _, _, _, 0, _⟩ ?lh_lwr ?lm_lwr hi8 F0 N0 ?lk_lwr (Mine.Internal.Wc.start rfl rfl) ?lt_lwr ?ld_lwr); (case lh_lwr => exact rfl); (case lm_lwr => k_mem); (case lk_lwr => (intro p hp; (simp only [List.mem_cons, List.not_mem_nil, or_false] at hp); rcases hp with rfl | rfl | rfl <;> rfl)); (case' lt_lwr => (intro c i9 n9 t9 u9 h9 tk9 own9 hi9 hP9 F9 N9; obtain ⟨x9, tx9, v9, tv9, kb9, tb9⟩ := c; (clear F0 N0); have hi5 := Mine.Internal.wc_in hi9; have hxl9 := Mine.Internal.Wc.xlen hP9 hi5; have hvl9 := Mine.Internal.Wc.vlen hP9 hi5)); (case' ld_lwr => (intro c u9 h9 tk9 hP9 F9 N9; obtain ⟨x9, tx9, v9, tv9, kb9, tb9⟩ := c; (clear F0 N0))); all_goals (try dsimp only [Mine.Internal.Wc.ps] at F9); all_goals (try dsimp only [List.cons_append, List.nil_append] at N9); all_goals (try k_fold))
      k_with "binaryOp Mod int int" => k_dflt (first
        | ((with_reducible show wpAny _ _ (binaryOp Operator.Mod (Value.int (Int.fdiv _ _) _) (Value.int 16 _)) _ _ _); (refine Mine.Internal.modN (n := 16) rfl (by decide) ?_); intro j9 hj9)
        | ((with_reducible show wpAny _ _ (binaryOp Operator.Mod (Value.int (Int.fdiv _ _) _) (Value.int _ _)) _ _ _); (refine Mine.Internal.modN (n := 43) rfl (by decide) ?_); intro j9 hj9))
      k_with "call builtin:len" => k_dflt ((with_reducible show wpAny _ _ (call (Value.builtin "len") [Value.ref nB9]) _ _ _); (refine' Mine.Internal.len_nm ?N_lwr ?m_lwr hns9 hnp9 ?_; (case N_lwr => k_asm); (case m_lwr => k_mem)); intro tl9)
      k_with "subscriptTail" => k_dflt (first
        | ((with_reducible show wpAny _ _ (subscriptTail (Expr.Call _ _ _ _) _ (Value.ref _) (Value.int _ _)) _ _ _); (try dsimp only); (refine' Mine.Internal.item_strs ?N_lwr ?m_lwr hs9' hj9 (by decide) ?_; (case N_lwr => k_asm); (case m_lwr => k_mem)); intro p9 tp9 hp9)
        | ((with_reducible show wpAny _ _ (subscriptTail _ _ (Value.ref nB9) (Value.int _ _)) _ _ _); (try dsimp only); (refine' Mine.Internal.item_strs ?N_lwr ?m_lwr hns9 (Nat.lt_of_lt_of_eq hj9 (hnp9.length_eq.trans Mine.Internal.entK_len).symm) (Mine.Internal.nss_le hnp9) ?_; (case N_lwr => k_asm); (case m_lwr => k_mem)); intro p9 tp9 hp8; (obtain ⟨nm9, ep9, hen9⟩ := Mine.Internal.ent_x hnp9 hp8); subst ep9)
        | ((with_reducible show wpAny _ _ (subscriptTail _ (Expr.UnaryOp _ _ _) (Value.str ⟨List.toArray nm9⟩ _) (Value.int _ _)) _ _ _); (try dsimp only); (have hne9 := Mine.Internal.ent_ne nm9 hen9); first | ((with_reducible refine' Mine.Internal.sub_lastc ?fa13x0_lwr ?fa13x1_lwr ?fa13x2_lwr ?fa13x3_lwr ?_); (case fa13x0_lwr => exact hc9); (case fa13x1_lwr => exact rfl); (case fa13x2_lwr => exact (Mine.Internal.pos_of hne9)); (case fa13x3_lwr => exact (Nat.lt_of_le_of_lt (Mine.Internal.l_nm hen9) (by decide)))) | ((obtain ⟨c9, hc9⟩ := Mine.Internal.last_ex hne9); ((with_reducible refine' Mine.Internal.sub_lastc ?fa14x0_lwr ?fa14x1_lwr ?fa14x2_lwr ?fa14x3_lwr ?_); (case fa14x0_lwr => exact hc9); (case fa14x1_lwr => exact rfl); (case fa14x2_lwr => exact (Mine.Internal.pos_of hne9)); (case fa14x3_lwr => exact (Nat.lt_of_le_of_lt (Mine.Internal.l_nm hen9) (by decide))))))
        | ((with_reducible show wpAny _ _ (subscriptTail _ (Expr.UnaryOp _ _ _) (Value.str ⟨List.toArray (nm9 ++ [59])⟩ _) (Value.int _ _)) _ _ _); (try dsimp only); ((with_reducible refine' Mine.Internal.sub_lastc (c := 59) ?fa15x0_lwr ?fa15x1_lwr ?fa15x2_lwr ?fa15x3_lwr ?_); (case fa15x0_lwr => exact List.getLast?_concat); (case fa15x1_lwr => exact rfl); (case fa15x2_lwr => exact (Mine.Internal.pos_of (List.append_ne_nil_of_right_ne_nil _ (List.cons_ne_nil _ _)))); (case fa15x3_lwr => exact (Nat.lt_of_le_of_lt (Mine.Internal.l_nm1 hen9) (by decide)))))
        | ((with_reducible show wpAny _ _ (subscriptTail _ (Expr.Constant _ _ _) (Value.str x9 _) (Value.int _ _)) _ _ _); (try dsimp only); (obtain ⟨c0, r0, hT0, hc0⟩ := Mine.Internal.first_ne (x := x9) (by with_reducible assumption)); (refine Mine.Internal.sub_chr (Int.le_refl 0) (by decide) hc0 ?_))
        | ((with_reducible show wpAny _ _ (subscriptTail _ _ (Value.ref 43) (Value.str ⟨List.toArray nm9⟩ _)) _ _ _); (try dsimp only); (refine' Mine.Internal.item_ent ?F_lwr ?X_lwr ?e_lwr ?hh_lwr ((Mine.Internal.isEnt_K nm9).mpr hen9) ?_; (case F_lwr => k_asm); (case X_lwr => k_asm); (case e_lwr => kernel_rfl); (case hh_lwr => kernel_rfl); k_whole); intro t9'))
      k_with "subscriptTail Call BinOp ref int" => k_extra "subscriptTail"
      k_with "subscriptTail Name BinOp ref int" => k_extra "subscriptTail"
      k_with "subscriptTail Name UnaryOp str int" => k_extra "subscriptTail"
      k_with "subscriptTail Name Constant str int" => k_extra "subscriptTail"
      k_with "subscriptTail Name Name ref str" => k_extra "subscriptTail"
      k_with "inplaceOp Add str str" => k_dflt ((with_reducible show wpAny _ _ (inplaceOp Operator.Add (Value.str ⟨List.toArray nm9⟩ _) (Value.str _ _)) _ _ _); ((with_reducible refine' iadd_str ?_ ?fa12x1_lwr); (case fa12x1_lwr => exact (Nat.le_trans (Nat.add_le_add (Mine.Internal.l_nm hen9) Mine.Internal.l_semi) Mine.Internal.b_400)); intro ti9 ki9); rw [Mine.Internal.semi_app])
      k_with "binaryOp Add str str" => k_dflt ((with_reducible show wpAny _ _ (binaryOp Operator.Add (Value.str _ _) (Value.str _ _)) _ _ _); ((with_reducible refine' KOpn.add ?koa_lwr ?_); (case koa_lwr => (refine' Nat.le_trans (Nat.add_le_add ?ba_lwr ?bb_lwr) Mine.Internal.b_400; (case ba_lwr => first | exact Mine.Internal.l_pl hp9 | exact Mine.Internal.l_x hxl9 | exact Mine.Internal.l_v hvl9 | exact Mine.Internal.l_nm hen9 | exact Mine.Internal.l_nm1 hen9 | exact Mine.Internal.l_val hen9 | exact Mine.Internal.l_amp | exact Mine.Internal.l_ampS | exact Mine.Internal.l_an hen9 | exact Mine.Internal.l_an1 hen9); (case bb_lwr => first | exact Mine.Internal.l_pl hp9 | exact Mine.Internal.l_x hxl9 | exact Mine.Internal.l_v hvl9 | exact Mine.Internal.l_nm hen9 | exact Mine.Internal.l_nm1 hen9 | exact Mine.Internal.l_val hen9 | exact Mine.Internal.l_amp | exact Mine.Internal.l_ampS | exact Mine.Internal.l_an hen9 | exact Mine.Internal.l_an1 hen9)))); intro ti9 ki9 hi9')
      k_with "compareOp NotIn str ref" => k_dflt ((with_reducible show wpAny _ _ (compareOp CmpOp.NotIn (Value.str _ _) (Value.ref _)) _ _ _); (refine' Mine.Internal.notin_list ?N_lwr ?m_lwr ?hi_lwr rfl ?_; (case N_lwr => k_asm); (case m_lwr => k_mem); (case hi_lwr => (intro y9 hy9; (simp only [List.mem_cons, List.not_mem_nil, or_false] at hy9); rcases hy9 with rfl | rfl | rfl | rfl <;> exact ⟨_, _, rfl⟩))))
      k_with "eval BoolOp" => k_dflt ((fail_if_success (with_reducible show wpAny _ _ _ (Mine.Internal.MeetV _ _ _ _ _ _) _ _)); (with_reducible show wpAny _ _ (eval (Expr.BoolOp BoolOp.And [Expr.Name _ _, _, _] _) _) _ _ _); (with_reducible rename Fr _ _ _ _ => F0); (with_reducible rename News _ _ _ _ => N0); (refine' Mine.Internal.wp_meetV (fun v => v = Value.bool (fa && Mine.Internal.gluedC x9.cps.toList)) F0 N0 ?_ ?_); (intro vw9 hw9 kw9 hv9 F9 N9; subst hv9); (clear F0 N0); (try dsimp only); (try k_fold))
      k_with "MeetV" => k_dflt ((with_reducible rename Fr _ _ _ _ => F9); (with_reducible rename News _ _ _ _ => N9); first
        | exact Mine.Internal.meetV_end F9 N9 (by intro p hp; repeat (first | exact hp | refine List.mem_cons_of_mem _ ?_)) (Mine.Internal.gv1 (by with_reducible assumption))
        | exact Mine.Internal.meetV_end F9 N9 (by intro p hp; repeat (first | exact hp | refine List.mem_cons_of_mem _ ?_)) (congrArg Value.bool (Mine.Internal.gv2 (by with_reducible assumption)))
        | exact Mine.Internal.meetV_end F9 N9 (by intro p hp; repeat (first | exact hp | refine List.mem_cons_of_mem _ ?_)) (congrArg Value.bool (Mine.Internal.gv3 (by with_reducible assumption) hT0 rfl))
        | (refine Mine.Internal.hold ?_))
      k_with "IntGo" => k_dflt ((with_reducible rename Fr _ _ _ _ => F9); (with_reducible rename News _ _ _ _ => N9); first
        | (refine' Mine.Internal.int_end ⟨_, _, _, _, _, _⟩ F9 N9 ?in1_lwr ?ik1_lwr ?ir1_lwr (Mine.Internal.Wc.plain hP9 hp9 (by with_reducible assumption)); (case in1_lwr => exact (fun p9 hp9 => by (repeat (first | exact hp9 | refine List.mem_cons_of_mem _ ?_)))); (case ik1_lwr => (intro p hp; (simp only [List.mem_cons, List.not_mem_nil, or_false] at hp); rcases hp with rfl | rfl | rfl <;> rfl)); (case ir1_lwr => (intro z9 hz1 hz2 hz3; (have hy1 := hz2 _ (.head _)); (have hy2 := hz2 _ (.tail _ (.head _))); (have hy3 := hz2 _ (.tail _ (.tail _ (.head _)))); (have hy4 : z9 ≠ Str.ofString "piece" := fun e => by (subst e; exact absurd hz3 (by decide))); (have hy5 : z9 ≠ Str.ofString "glued" := fun e => by (subst e; exact absurd hz3 (by decide))); (repeat (first | exact Mine.Internal.kst_w3 hy1 hy2 hy3 hz3 | refine (if_neg hy1).trans ?_ | refine (if_neg hy2).trans ?_ | refine (if_neg hy3).trans ?_ | refine (if_neg hy4).trans ?_ | refine (if_neg hy5).trans ?_ | refine (if_neg hz1).trans ?_)))))
        | (refine' Mine.Internal.int_end ⟨_, _, _, _, _, _⟩ F9 N9 ?in2_lwr ?ik2_lwr ?ir2_lwr (Mine.Internal.Wc.amp hP9 (by with_reducible assumption) (Mine.Internal.stop_one (by with_reducible assumption))); (case in2_lwr => exact (fun p9 hp9 => by (repeat (first | exact hp9 | refine List.mem_cons_of_mem _ ?_)))); (case ik2_lwr => (intro p hp; (simp only [List.mem_cons, List.not_mem_nil, or_false] at hp); rcases hp with rfl | rfl | rfl <;> rfl)); (case ir2_lwr => (intro z9 hz1 hz2 hz3; (have hy1 := hz2 _ (.head _)); (have hy2 := hz2 _ (.tail _ (.head _))); (have hy3 := hz2 _ (.tail _ (.tail _ (.head _)))); (have hy4 : z9 ≠ Str.ofString "piece" := fun e => by (subst e; exact absurd hz3 (by decide))); (have hy5 : z9 ≠ Str.ofString "glued" := fun e => by (subst e; exact absurd hz3 (by decide))); (repeat (first | exact Mine.Internal.kst_w3 hy1 hy2 hy3 hz3 | refine (if_neg hy1).trans ?_ | refine (if_neg hy2).trans ?_ | refine (if_neg hy3).trans ?_ | refine (if_neg hy4).trans ?_ | refine (if_neg hy5).trans ?_ | refine (if_neg hz1).trans ?_)))))
        | (refine' Mine.Internal.int_end ⟨_, _, _, _, _, _⟩ F9 N9 ?in3_lwr ?ik3_lwr ?ir3_lwr (Mine.Internal.Wc.ampS hP9 (by with_reducible assumption)); (case in3_lwr => exact (fun p9 hp9 => by (repeat (first | exact hp9 | refine List.mem_cons_of_mem _ ?_)))); (case ik3_lwr => (intro p hp; (simp only [List.mem_cons, List.not_mem_nil, or_false] at hp); rcases hp with rfl | rfl | rfl <;> rfl)); (case ir3_lwr => (intro z9 hz1 hz2 hz3; (have hy1 := hz2 _ (.head _)); (have hy2 := hz2 _ (.tail _ (.head _))); (have hy3 := hz2 _ (.tail _ (.tail _ (.head _)))); (have hy4 : z9 ≠ Str.ofString "piece" := fun e => by (subst e; exact absurd hz3 (by decide))); (have hy5 : z9 ≠ Str.ofString "glued" := fun e => by (subst e; exact absurd hz3 (by decide))); (repeat (first | exact Mine.Internal.kst_w3 hy1 hy2 hy3 hz3 | refine (if_neg hy1).trans ?_ | refine (if_neg hy2).trans ?_ | refine (if_neg hy3).trans ?_ | refine (if_neg hy4).trans ?_ | refine (if_neg hy5).trans ?_ | refine (if_neg hz1).trans ?_)))))
        | (refine' Mine.Internal.int_end ⟨_, _, _, _, _, _⟩ F9 N9 ?in4_lwr ?ik4_lwr ?ir4_lwr (Mine.Internal.Wc.semi hP9 hen9 (Mine.Internal.last59 hc9 (Mine.Internal.eq59 (by with_reducible assumption)))); (case in4_lwr => exact (fun p9 hp9 => by (repeat (first | exact hp9 | refine List.mem_cons_of_mem _ ?_)))); (case ik4_lwr => (intro p hp; (simp only [List.mem_cons, List.not_mem_nil, or_false] at hp); rcases hp with rfl | rfl | rfl <;> rfl)); (case ir4_lwr => (intro z9 hz1 hz2 hz3; (have hy1 := hz2 _ (.head _)); (have hy2 := hz2 _ (.tail _ (.head _))); (have hy3 := hz2 _ (.tail _ (.tail _ (.head _)))); (have hy4 : z9 ≠ Str.ofString "piece" := fun e => by (subst e; exact absurd hz3 (by decide))); (have hy5 : z9 ≠ Str.ofString "glued" := fun e => by (subst e; exact absurd hz3 (by decide))); (repeat (first | exact Mine.Internal.kst_w3 hy1 hy2 hy3 hz3 | refine (if_neg hy1).trans ?_ | refine (if_neg hy2).trans ?_ | refine (if_neg hy3).trans ?_ | refine (if_neg hy4).trans ?_ | refine (if_neg hy5).trans ?_ | refine (if_neg hz1).trans ?_)))))
        | (refine' Mine.Internal.int_end ⟨_, _, _, _, _, _⟩ F9 N9 ?in5_lwr ?ik5_lwr ?ir5_lwr (Mine.Internal.Wc.more hP9 hen9 hc9 (Mine.Internal.ne59 (by with_reducible assumption))); (case in5_lwr => exact (fun p9 hp9 => by (repeat (first | exact hp9 | refine List.mem_cons_of_mem _ ?_)))); (case ik5_lwr => (intro p hp; (simp only [List.mem_cons, List.not_mem_nil, or_false] at hp); rcases hp with rfl | rfl | rfl <;> rfl)); (case ir5_lwr => (intro z9 hz1 hz2 hz3; (have hy1 := hz2 _ (.head _)); (have hy2 := hz2 _ (.tail _ (.head _))); (have hy3 := hz2 _ (.tail _ (.tail _ (.head _)))); (have hy4 : z9 ≠ Str.ofString "piece" := fun e => by (subst e; exact absurd hz3 (by decide))); (have hy5 : z9 ≠ Str.ofString "glued" := fun e => by (subst e; exact absurd hz3 (by decide))); (repeat (first | exact Mine.Internal.kst_w3 hy1 hy2 hy3 hz3 | refine (if_neg hy1).trans ?_ | refine (if_neg hy2).trans ?_ | refine (if_neg hy3).trans ?_ | refine (if_neg hy4).trans ?_ | refine (if_neg hy5).trans ?_ | refine (if_neg hz1).trans ?_)))))
        | (refine' Mine.Internal.int_end ⟨_, _, _, _, _, _⟩ F9 N9 ?in6_lwr ?ik6_lwr ?ir6_lwr (Mine.Internal.Wc.bare hP9 hen9 hc9 (Mine.Internal.ne59 (by with_reducible assumption)) (by with_reducible assumption) hlg9 (by with_reducible assumption)); (case in6_lwr => exact (fun p9 hp9 => by (repeat (first | exact hp9 | refine List.mem_cons_of_mem _ ?_)))); (case ik6_lwr => (intro p hp; (simp only [List.mem_cons, List.not_mem_nil, or_false] at hp); rcases hp with rfl | rfl | rfl <;> rfl)); (case ir6_lwr => (intro z9 hz1 hz2 hz3; (have hy1 := hz2 _ (.head _)); (have hy2 := hz2 _ (.tail _ (.head _))); (have hy3 := hz2 _ (.tail _ (.tail _ (.head _)))); (have hy4 : z9 ≠ Str.ofString "piece" := fun e => by (subst e; exact absurd hz3 (by decide))); (have hy5 : z9 ≠ Str.ofString "glued" := fun e => by (subst e; exact absurd hz3 (by decide))); (repeat (first | exact Mine.Internal.kst_w3 hy1 hy2 hy3 hz3 | refine (if_neg hy1).trans ?_ | refine (if_neg hy2).trans ?_ | refine (if_neg hy3).trans ?_ | refine (if_neg hy4).trans ?_ | refine (if_neg hy5).trans ?_ | refine (if_neg hz1).trans ?_)))))
        | (refine Mine.Internal.hold ?_))
      k_steps
      all_goals (with_reducible rename Fr _ _ _ _ => F9); (with_reducible rename News _ _ _ _ => N9)
      all_goals first
        | (refine' Mine.Internal.lw_end (s₁ := ⟨hs9, gens9, dr9, t09, os9⟩) hP9 (Mine.Internal.rev_five ns) F9 N9 ?le2_lwr rfl; (case le2_lwr => k_mem))
        | fail
  have call_lwr1 {w : World} {loose : List Str} {mean : ExcName → Option Value} {mg mb : Str → Option Value} {scr : Addr} {vs : List Value} {ns : List Int} {fa : Bool} {A A₀ : Around} {base h₀ : Heap} {env : Env} {outer : List Env} {L : Addr} {m : Str → Option Value} {s : Shared} {Q E : Value → Shared → Prop} {N : Led} (hi : IntsAre vs ns) (hsz : vs.length ≤ 63) (hsc : h₀.IsList scr vs.toArray) (B : Below A₀ base outer h₀) (F : Fr h₀ L s.heap m) (X : (main.heap_1_39 w.params).In h₀) (T : (Top main.view_1_40 loose mean mg mb) h₀) (hA : A.frames = some (env :: outer)) (hf : env.frame = some L) (hke : env.scope.kind = .function) (hh : A.handled = none) (hdd : A.depth ≤ 450) (hu : A.units ≤ 500) (Nw : News h₀ L s.heap N)
      (hQ : ∀ (a : Addr) (T : Str) (tt : Tok) (V : Str) (tv : Tok) (k : Nat) (tkk : Tok) (h' : Heap) (tk' : Nat), T.length ≤ 60 → (∀ d ∈ T.cps.toList, okD d) → Rr fa T.cps.toList V.cps.toList k → (∀ r ∈ N, @LT.lt Nat _ r.1 a) → @LE.le Nat _ s.toks tk' → Fr h₀ L h' m → News h₀ L h' ((a, tupO [.str T tt, .str V tv, .int ((k : Nat) : Int) tkk]) :: N) → Q (.ref a) { s with heap := h', toks := tk' }) :
      wpAny (model PySem.Challenge.rw_te0076_01.row.prog w) A (PySem.call (.ref 787) [.ref scr, .bool fa] []) Q E s := by
    as_aux_lemma =>
      clear ctr_is_invalid ctr_charErrors ctr_read ctr_readE ctr_position0 ctr_unget ctr_ungetN ctr_ungetS ctr_readN ctr_readC ctr_readA ctr_char ctr_until ctr_tinit call_char call_unget call_ungetN call_until call_tok ctr_bisect ctr_haskeys ctr_ceNT ctr_ceNF ctr_lplain ctr_llong call_ceT call_ceF ctr_lreadT ctr_lreadF
      refine CtrC.call (ctr_lwr (fa := fa) hi hsz) A A₀ base h₀ env outer L m s Q E N B F X Nw ⟨T, hsc⟩ hA hf hke hh hdd hu (fun _ _ => List.forall_mem_nil _) ?_
      intro v fr l' h' tk' hp ht hfr F' N'
      obtain ⟨rfl, a, T, tt, V, tv, k, tkk, rfl, rfl, h1, h2, h3⟩ := hp
      exact hQ a T tt V tv k tkk h' tk' h1 h2 h3 (fun r hr => hfr _ (.head _) r hr) ht F' N'
  have call_lread1 {w : World} {loose : List Str} {mean : ExcName → Option Value} {mg mb : Str → Option Value} {fa : Bool} {T0 : Str} {tt : Tok} {V : List Nat} {kk : Nat} {A A₀ : Around} {base h₀ : Heap} {env : Env} {L : Addr} {m : Str → Option Value} {s : Shared} {Q E : Value → Shared → Prop} {N : Led}
      (hT : T0.length ≤ 60) (hok : ∀ d ∈ T0.cps.toList, okD d) (hR : Rr fa T0.cps.toList V kk)
      (B : Below A₀ base [] h₀) (F : Fr h₀ L s.heap m) (X : (main.heap_1_39 w.params).In h₀) (T : (Top main.view_1_40 loose mean mg mb) h₀) (XB : (main.heap_1_39 w.params).In base) (TB : (Top main.view_1_40 loose mean mg mb) base)
      (hA : A.frames = some [env]) (hf : env.frame = some L) (hke : env.scope.kind = .function) (hh : A.handled = none) (hdd : A.depth ≤ 430) (hu : A.units ≤ 350) (Nw : News h₀ L s.heap N)
      (hQ : ∀ (a lf : Addr) (sg : Str) (ts : Tok) (fs : List Value) (n : Nat) (h' : Heap) (tk' : Nat), sg.cps.toList = V → StrsAre fs (List.replicate kk woN) → (∀ r ∈ N, @LT.lt Nat _ r.1 a) → (∀ r ∈ N, @LT.lt Nat _ r.1 lf) → Fr h₀ L h' m → News h₀ L h' ((a, tupO [.str sg ts, .ref lf]) :: (lf, W.listOf fs.toArray n) :: N) → Q (.ref a) { s with heap := h', toks := tk' }) :
      wpAny (model PySem.Challenge.rw_te0076_01.row.prog w) A (PySem.call (.ref 792) [.str T0 tt, .bool fa] []) Q E s := by
    as_aux_lemma =>
      clear ctr_is_invalid ctr_charErrors ctr_read ctr_readE ctr_position0 ctr_unget ctr_ungetN ctr_ungetS ctr_readN ctr_readC ctr_readA ctr_char ctr_until ctr_tinit call_char call_unget call_ungetN call_until call_tok ctr_bisect ctr_haskeys ctr_ceNT ctr_ceNF ctr_lplain ctr_llong call_ceT call_ceF ctr_lwr call_lwr1
      have hT' : T0.length ≤ 100 := Nat.le_trans hT (by decide)
      have C : CtrS PySem.Challenge.rw_te0076_01.row.prog w (main.heap_1_39 w.params) (Top main.view_1_40 loose mean mg mb) 430 350 (.ref 792) ⟨[.str T0 tt, .bool fa], []⟩ [] (fun v fr l => LdP V kk v fr l) := by
        cases fa with
        | true => exact ctr_lreadT hT' (fun c hc => (hok c hc).1) (fun c hc => (hok c hc).2.1) (fun c hc => (hok c hc).2.2) hR
        | false => exact ctr_lreadF hT' (fun c hc => (hok c hc).1) (fun c hc => (hok c hc).2.1) (fun c hc => (hok c hc).2.2) hR
      refine CtrS.call C B F X Nw T XB TB ktsDicts_nil hA hf hke hh hdd hu (fun _ _ _ hq => nomatch hq) ?_
      intro v fr l' h' tk' g' hp ht hfr T' F' N' _ _ _ _
      obtain ⟨rfl, a, lf, sg, ts, fs, n, rfl, rfl, h1, h2⟩ := hp
      exact hQ a lf sg ts fs n h' tk' h1 h2 (fun r hr => hfr _ (.head _) r hr) (fun r hr => hfr _ (.tail _ (.head _)) r hr) (fr_back T' F') (news_back T' N')
  as_aux_lemma =>
        w_strict (
    k_with_none
    k_with "pos" => (repeat' (first | exact Mine.Internal.PosL.nil | (apply Mine.Internal.PosL.cons 0; exact rfl) | (apply Mine.Internal.PosL.cons 1; exact rfl) | (apply Mine.Internal.PosL.cons 2; exact rfl) | (apply Mine.Internal.PosL.cons 3; exact rfl) | (apply Mine.Internal.PosL.cons 4; exact rfl) | (apply Mine.Internal.PosL.cons 5; exact rfl) | (apply Mine.Internal.PosL.cons 6; exact rfl) | (apply Mine.Internal.PosL.cons 7; exact rfl) | (apply Mine.Internal.PosL.cons 8; exact rfl) | (apply Mine.Internal.PosL.cons 9; exact rfl) | (apply Mine.Internal.PosL.cons 10; exact rfl) | (apply Mine.Internal.PosL.cons 11; exact rfl) | (apply Mine.Internal.PosL.cons 12; exact rfl) | (apply Mine.Internal.PosL.cons 13; exact rfl) | (apply Mine.Internal.PosL.cons 14; exact rfl) | (apply Mine.Internal.PosL.cons 15; exact rfl) | (apply Mine.Internal.PosL.cons 16; exact rfl) | (apply Mine.Internal.PosL.cons 17; exact rfl) | (apply Mine.Internal.PosL.cons 18; exact rfl) | (apply Mine.Internal.PosL.cons 19; exact rfl) | (apply Mine.Internal.PosL.cons 20; exact rfl) | (apply Mine.Internal.PosL.cons 21; exact rfl) | (apply Mine.Internal.PosL.cons 22; exact rfl) | (apply Mine.Internal.PosL.cons 23; exact rfl)))
    k_with "slt" => exact Mine.Internal.Srt.lt (by with_reducible assumption) (by ((repeat (first | (with_reducible_and_instances refine Mine.Internal.Aft.here ?_; (repeat (first | with_reducible_and_instances exact List.Mem.head _ | with_reducible_and_instances refine List.Mem.tail _ ?_)); done) | with_reducible refine Mine.Internal.Aft.there ?_)); all_goals fail))
    k_with "take" => k_dflt ((try dsimp only); repeat' (first | exact Mine.Internal.Take.nil | exact Mine.Internal.Del.head | refine' Mine.Internal.Take.blk ?_ | exact Mine.Internal.Tl.nil | exact Mine.Internal.Tl.app | refine' Mine.Internal.Take.cons ?_ ?_ | refine' Mine.Internal.Del.tail ?_ | refine' Mine.Internal.Tl.cons ?_))
    k_with "upd" => (exact Mine.Internal.Srt.updP (by with_reducible assumption) (by repeat' (first | exact Mine.Internal.UpdI.head | refine' Mine.Internal.UpdI.tail ?_)) (by k_dflt (k_extra "pos")) (by exact rfl))
    k_with "all" => exact Mine.Internal.Ks.ne_all (by with_reducible assumption) (by first | exact .inr (by k_extra "slt") | exact .inl (by k_extra "slt"))
    k_with "ne" => (refine neN ?_; first | exact Mine.Internal.Srt.ne (by with_reducible assumption) (by with_reducible solve_by_elim (maxDepth := 40) only [Mine.Internal.Apart.l, Mine.Internal.Apart.r, Mine.Internal.Apart.t, List.Mem.head, List.Mem.tail]) | ((try dsimp only); omega))
    k_with "lt" => (intro h9l; first | ((with_reducible rename Mine.Internal.Srt _ => S8); (first | (have S9 := Mine.Internal.Srt.grow S8 (h9l (_, _) (by k_dflt k_mem)); clear S8) | (have S9 := Mine.Internal.Srt.grow S8.tl (h9l (_, _) (by k_dflt k_mem)); clear S8) | (have S9 := Mine.Internal.Srt.grow S8.tl.tl (h9l (_, _) (by k_dflt k_mem)); clear S8)); clear h9l) | (replace h9l := allLt_of h9l; simp only [AllLt, and_true] at h9l))
    k_with "execs cons" => (k_here; (with_reducible show wpAny _ _ _ _ _ (Shared.mk _ _ _ (_ + _) _)); (refine Mine.Internal.gentoks ?_); intro tkg9 htk9; (try dsimp only at htk9))
    k_with "size" => k_dflt (first | exact Nat.le_of_ble_eq_true rfl | ((with_reducible show Array.size (List.toArray _) ≤ PySem.sizeLine); rw [List.size_toArray, PySem.sizeLine_eq]; refine Nat.le_trans (m := 100002) ?_ (Nat.le_of_ble_eq_true rfl); first | with_reducible assumption | exact Nat.le_trans (m := 100000) (by with_reducible assumption) (Nat.le_of_ble_eq_true rfl)))
    k_with "subscriptTail Name Constant ref int" => k_extra "subscriptTail"
    k_with "tok" => (first | exact Nat.le_add_left 1 _ | with_reducible assumption | exact Nat.le_trans (Nat.le_add_left 1 _) (by with_reducible assumption))
    k_with "next" => (first | ((with_reducible refine Mine.Internal.nextS (g := gens9) (d := dr9) (o := os9) ?_); intro qk9 tkg9) | ((with_reducible refine Mine.Internal.lastS (g := gens9) (d := dr9) (o := os9) ?_); intro tkg9) | (with_reducible refine Mine.Internal.nilS ?_) | (with_reducible refine Mine.Internal.fin9 ?_) | (with_reducible refine Mine.Internal.fin0 ?_) | (with_reducible refine Mine.Internal.finS9 ?_) | (with_reducible refine Mine.Internal.finS0 ?_) | ((with_reducible refine Mine.Internal.nextU (g := gens9) (d := dr9) (o := os9) ?_ ?_); (k_extra "tok"); intro qk9 tkg9) | ((with_reducible refine Mine.Internal.lastU (g := gens9) (d := dr9) (o := os9) ?_ ?_); (k_extra "tok"); intro tkg9) | ((with_reducible refine Mine.Internal.nextZ (g := gens9) (d := dr9) (o := os9) ?_); intro qk9 tkg9) | ((with_reducible refine Mine.Internal.lastZ (g := gens9) (d := dr9) (o := os9) ?_); intro tkg9))
    k_with "execs cons" => k_extra "next"
    k_with "execs nil" => (with_reducible refine Mine.Internal.nilS ?_)
    k_with "eval Constant str" => (with_reducible refine Mine.Internal.c_str (g := gens9) (d := dr9) (o := os9) ?_)
    k_with "storeName" => (first | (k_here; ktx_write) | (k_here; k_dflt (refine' Mine.Internal.st_name (gs := gens9) (d := dr9) (o := os9) ?tF_law1 ?tN_law1 ?_; (case tF_law1 => k_asm); (case tN_law1 => k_asm); k_whole; intro m9 h' F' N'; (try k_sweep))))
    k_go0
    (all_goals try k_fold)
    (all_goals with_reducible rename World => w9)
    (all_goals (with_reducible rename Shared => s9))
    (all_goals (obtain ⟨hs9, gens9, dr9, t09, os9⟩ := s9))
    (all_goals (try dsimp only at *))
    k_with "pyIter ref" => k_dflt ((with_reducible show wpAny _ _ (pyIter (Value.ref _)) (fun it s₂ => LoopAtV _ _ _ _ _ _ _ _ _ it s₂) _ _); (with_reducible rename Fr _ _ _ _ => F0); (with_reducible rename News _ _ _ _ => N0); (refine' Mine.Internal.loop1 ["text", "signs", "bare"] [] ?lh_law1 F0 (kst_newsOf N0 ?ls_law1) ?tT_law1 ?dn_law1); (case lh_law1 => exact rfl); (case ls_law1 => (intro p hp; cases List.mem_singleton.mp hp; exact .head _)); (case' tT_law1 => (intro fa9 u h9 k9 own F9 N9; (try clear F0 N0))); (case' dn_law1 => (intro u h9 k9 F9 N9; (try clear F0 N0))); all_goals (try dsimp only [List.nil_append] at N9); all_goals (try k_fold))
    k_with "call ref" => (first | ((with_reducible show wpAny _ _ (call (Value.ref 787) _ _) _ _ _); (with_reducible rename IntsAre _ _ => hin9); (with_reducible rename Heap.IsList _ _ _ => hsc9); (with_reducible rename Not _ => hcn9); k_dflt (refine' call_lwr1 hin9 (Mine.Internal.sz63 hin9 hcn9) hsc9 ?cB_law1 ?cF_law1 ?cX_law1 ?cT_law1 ?ca_law1 ?cb_law1 ?cc_law1 ?ce_law1 ?cd_law1 ?cu_law1 ?cN_law1  ?_; (case cF_law1 => k_asm); (case cB_law1 => k_asm); (case cX_law1 => k_asm); (case cT_law1 => k_asm); (case ca_law1 => exact rfl); (case cb_law1 => exact rfl); (case cc_law1 => exact rfl); (case ce_law1 => exact rfl); (case cd_law1 => exact Nat.le_of_ble_eq_true rfl); (case cu_law1 => exact Nat.le_of_ble_eq_true rfl); (case cN_law1 => k_asm); k_whole; intro a9 T9 tt9 V9 tv9 kb9 tkk9 h' tk' hT9 hok9 hR9 ha9 htk' F' N'; (try dsimp only at htk'); (try dsimp only [List.cons_append, List.nil_append] at N'); (try k_sweep); (try dsimp only); (try k_fold))) | ((with_reducible show wpAny _ _ (call (Value.ref 792) _ _) _ _ _); k_dflt (refine' call_lread1 hT9 hok9 hR9 ?cB_law1 ?cF_law1 ?cX_law1 ?cT_law1 ?cXB_law1 ?cTB_law1 ?ca_law1 ?cb_law1 ?cc_law1 ?ce_law1 ?cd_law1 ?cu_law1 ?cN_law1 ?_; (case cF_law1 => k_asm); (case cB_law1 => k_asm); (case cX_law1 => k_asm); (case cT_law1 => k_asm); (case cXB_law1 => k_asm); (case cTB_law1 => k_asm); (case ca_law1 => exact rfl); (case cb_law1 => exact rfl); (case cc_law1 => exact rfl); (case ce_law1 => exact rfl); (case cd_law1 => exact Nat.le_of_ble_eq_true rfl); (case cu_law1 => exact Nat.le_of_ble_eq_true rfl); (case cN_law1 => k_asm); k_whole; intro b9 lf9 sg9 ts9 fs9 n9 h' tk' hsg9 hfs9 hb9 hlf9 F' N'; (try k_sweep); (try dsimp only); (try k_fold))) | (refine Mine.Internal.hold ?_))
    k_with "binaryOp Mult ref int" => k_dflt ((with_reducible show wpAny _ _ (binaryOp Operator.Mult (Value.ref _) (Value.int _ _)) _ _ _); (refine' Mine.Internal.mul_one ?mF_law1 ?mN_law1 ?mm_law1 (Mine.Internal.kb_le hR9 hT9) ?_; (case mF_law1 => k_asm); (case mN_law1 => k_asm); (case mm_law1 => k_mem)); intro D9' gs9 h' hgs9 F' N' l1; (try k_lt l1); (try k_sweep); (try dsimp only); (try k_fold))
    k_with "compareOp NotEq ref ref" => k_dflt ((with_reducible show wpAny _ _ (compareOp CmpOp.NotEq (Value.ref _) (Value.ref _)) _ _ _); (refine' Mine.Internal.read_ne ?N_law1 ?m1_law1 ?m2_law1 ?m3_law1 ?m4_law1 hfs9 hgs9 hsg9 ?hu_law1 ?_; (case N_law1 => k_asm); (case m1_law1 => k_mem); (case m2_law1 => k_mem); (case m3_law1 => k_mem); (case m4_law1 => k_mem); (case hu_law1 => exact Nat.le_of_ble_eq_true rfl); k_whole))
    k_with "TurnGo" => k_dflt ((with_reducible rename Fr _ _ _ _ => F9); (with_reducible rename News _ _ _ _ => N9); first | (refine' Mine.Internal.turn_end (s₁ := ⟨_, gens9, dr9, _, os9⟩) F9 N9 ?hn8_law1 ?hr8_law1; (case hn8_law1 => exact (fun p9 hp9 => by (repeat (first | exact hp9 | refine List.mem_cons_of_mem _ ?_)))); (case hr8_law1 => (intro z9 hz9 hz8; (have hy0 : z9 ≠ Str.ofString "text" := fun e => by (subst e; exact absurd hz8 (by decide))); (have hy1 : z9 ≠ Str.ofString "signs" := fun e => by (subst e; exact absurd hz8 (by decide))); (have hy2 : z9 ≠ Str.ofString "bare" := fun e => by (subst e; exact absurd hz8 (by decide))); (repeat (first | refine (if_neg hy0).trans ?_ | refine (if_neg hy1).trans ?_ | refine (if_neg hy2).trans ?_ | refine (if_neg hz9).trans ?_)); (show (if List.contains _ z9 = true then _ else _) = _); rw [hz8]; rfl))) | (refine Mine.Internal.hold ?_))

    k_with "in" => first | with_reducible assumption | exact Frag.In.keeps (by with_reducible assumption) (Fr.keep (by with_reducible assumption))
    k_with "lt" => (intro h9l; ((have l1r9 := h9l); clear h9l))
    k_with "ne" => (refine neN ?_; first | exact Mine.Internal.ne_by (by with_reducible assumption) (by k_dflt k_mem) | exact Mine.Internal.ne_by' (by with_reducible assumption) (by k_dflt k_mem) | exact Nat.ne_of_lt (by with_reducible assumption) | exact Nat.ne_of_gt (by with_reducible assumption))
    k_with "all" => first | exact Mine.Internal.cons_ne (by with_reducible assumption) (by with_reducible assumption) (by with_reducible assumption) | exact Mine.Internal.tail_ne (by with_reducible assumption) (fun p9 hp9 => by ((repeat (first | exact hp9 | refine List.mem_cons_of_mem _ ?_)); all_goals fail)) (by with_reducible assumption) (.inl (by with_reducible assumption)) | exact Mine.Internal.all_ne (by with_reducible assumption) (fun p9 hp9 => by ((repeat (first | exact hp9 | refine List.mem_cons_of_mem _ ?_)); all_goals fail))
    k_with "getMethod ref" => (k_here; (with_reducible show wpAny _ _ (getMethod (Value.ref (Mine.Internal.Ks.st _)) _ _) _ _ _); k_dflt (refine' Mine.Internal.meth_blk ?F_law1 ?X_law1 ?N_law1 ?tk_law1 ?hg_law1 ?hf_law1 ?ht_law1 ?hl_law1 ?_; (case F_law1 => k_asm); (case X_law1 => k_asm); (case N_law1 => k_asm); (case tk_law1 => (k_extra "take")); (case hg_law1 => k_is); (case hf_law1 => k_is); (case ht_law1 => k_is); (case hl_law1 => exact rfl); k_whole))
    k_with "subscriptTail" => (k_here; (with_reducible show wpAny _ _ (subscriptTail _ _ (Value.ref 48) (Value.str (Str.ofString "SpaceCharacters") _)) _ _ _); k_dflt (refine' Mine.Internal.item_tok 2 ?F_law1 ?X_law1 ?he_law1 ?hh_law1 ?hl_law1 ?_; (case hl_law1 => kernel_rfl); (case F_law1 => k_asm); (case X_law1 => k_asm); (case he_law1 => kernel_rfl); (case hh_law1 => kernel_rfl); k_whole; intro t9))
    k_with "subscriptTail" => (k_here; (with_reducible show wpAny _ _ (subscriptTail _ _ (Value.ref 48) (Value.str (Str.ofString "Characters") _)) _ _ _); k_dflt (refine' Mine.Internal.item_tok 1 ?F_law1 ?X_law1 ?he_law1 ?hh_law1 ?hl_law1 ?_; (case hl_law1 => kernel_rfl); (case F_law1 => k_asm); (case X_law1 => k_asm); (case he_law1 => kernel_rfl); (case hh_law1 => kernel_rfl); k_whole; intro t9))
    k_with "eval Dict" => (k_here; (with_reducible show wpAny _ _ (eval (Expr.Dict (_ :: _) _ _) _) _ _ _); k_dflt (refine' kdn_str ?q_law1 ?F_law1 ?N_law1 ?b_law1 ?a_law1 ?l_law1 ?e_law1 ?n_law1 ?_; (case q_law1 => rfl); (case F_law1 => k_asm); (case N_law1 => first | k_asm | exact News.nil); (case b_law1 => exact Top.nolimit (by k_asm)); (case a_law1 => rfl); (case l_law1 => rfl); (case e_law1 => exact List.cons_ne_nil _ _); (case n_law1 => exact Nat.le_of_ble_eq_true rfl)); intro d' h' o' F' N' l1 lo' hd'; (try k_lt l1))
    k_steps
    )
end Mine.Internal
end
theorem PySem.Challenge.cw_te0076_01_holds : PySem.Challenge.rw_te0076_01.Holds :=
  Mine.Internal.main
