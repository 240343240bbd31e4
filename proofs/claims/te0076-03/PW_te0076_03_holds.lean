import PyProof.Rows.All
import Wide.All
import OpenK.AllK
import Wide.FinOn
import Lean
import PySem.Challenge.RW_te0076_03
open PySem PySem.W PyProof.Rows
set_option Elab.async false
set_option linter.all false
set_option genInjectivity false
section
open PySem PySem.W PyProof.Rows PySem.Calls PySem.Spec
namespace Mine
abbrev Led := List (Addr × Obj)

theorem wp_weaken {α : Type} {M : Model} {A A' : Around} {t : Sem α} {Q : α → Shared → Prop} {E : Value → Shared → Prop} {s : Shared}
    (h1 : A.handled = A'.handled) (h2 : A.depth ≤ A'.depth) (h3 : A'.frames = A.frames) (h4 : A'.guards = none) (h5 : A.units ≤ A'.units)
    (h : wpAny M A' t Q E s) : wpAny M A t Q E s := fun Γ p hΓ =>
  h Γ p ⟨hΓ.1.trans h1, Nat.le_trans hΓ.2.1 h2, fun l hl => hΓ.2.2.1 l (h3 ▸ hl), fun g hg => (by rw [h4] at hg; cases hg), Nat.le_trans hΓ.2.2.2.2 h5⟩


/-- what no run undoes: tokens, the heap's size, dead addresses -/
structure Later (s s' : Shared) : Prop where
  toks : s.toks ≤ s'.toks
  size : s.heap.objs.size ≤ s'.heap.objs.size
  dead : ∀ a, a < s.heap.objs.size → s.heap.get? a = none → s'.heap.get? a = none
theorem Later.refl (s : Shared) : Later s s := ⟨Nat.le_refl _, Nat.le_refl _, fun _ _ h => h⟩
theorem Later.trans {a b c : Shared} (x : Later a b) (y : Later b c) : Later a c :=
  ⟨Nat.le_trans x.toks y.toks, Nat.le_trans x.size y.size, fun i h1 h2 => y.dead i (Nat.lt_of_lt_of_le h1 x.size) (x.dead i h1 h2)⟩
theorem Later.same {s s' : Shared} (h1 : s'.toks = s.toks) (h2 : s'.heap = s.heap) : Later s s' := ⟨by rw [h1]; exact Nat.le_refl _, by rw [h2]; exact Nat.le_refl _, fun a _ h => by rw [h2]; exact h⟩
theorem Later.via {s s1 s' : Shared} (ih : Later s1 s') (h1 : s1.toks = s.toks) (h2 : s1.heap = s.heap) : Later s s' := (Later.same h1 h2).trans ih
theorem Later.upd {s : Shared} {a : Addr} {f : Obj → Obj} (h : (s.heap.get? a).isSome = true) : Later s { s with heap := s.heap.update a f } :=
  ⟨Nat.le_refl _, Nat.le_of_eq (Heap.size_after_update ..).symm, fun b _ hb => by
    have hne : a ≠ b := fun e => by rw [e, hb] at h; cases h
    exact (Heap.get?_update_other s.heap f hne).trans hb⟩
theorem Later.push {s : Shared} {o : Obj} : Later s { s with heap := s.heap.push o } := by
  refine ⟨Nat.le_refl _, by rw [Heap.size_push]; exact Nat.le_succ _, fun b hlt hb => ?_⟩
  show (s.heap.push o).get? b = none
  cases q : (s.heap.push o).get? b with
  | none => rfl
  | some x =>
    obtain ⟨q1, q2⟩ := Heap.get?_some_iff.mp q
    have hne : b ≠ s.heap.objs.size := Nat.ne_of_lt hlt
    have q3 : s.heap.objs[b]? = some x := by
      have e : (s.heap.push o).objs = s.heap.objs.push o := by cases s.heap; rfl
      rw [e, Array.getElem?_push, if_neg hne] at q1
      exact q1
    have : s.heap.get? b = some x := Heap.get?_some_iff.mpr ⟨q3, q2⟩
    rw [hb] at this; cases this
theorem Later.tick {s : Shared} : Later s { s with toks := s.toks + 1 } := ⟨Nat.le_succ _, Nat.le_refl _, fun _ _ h => h⟩
theorem runs_later {M : Model} {Γ : PySem.Ctx} {p : Pos} {t : Sem Fin} {fs : List Frame} {s s' : Shared} {e : End} (h : Runs M Γ p t fs s e s') : Later s s' := by
  induction h with
  | done => exact .refl _
  | raise => exact .refl _
  | again _ _ ih => exact ih
  | rule _ ih => exact ih
  | «at» _ ih => exact ih
  | load _ _ ih => exact ih
  | update h _ ih => exact (Later.upd h).trans ih
  | loadIfAlive _ ih => exact ih
  | point _ ih => exact ih
  | alloc _ ih => exact Later.push.trans ih
  | fresh _ ih => exact Later.tick.trans ih
  | ask _ ih => exact ih
  | choose _ _ ih => exact Later.via ih rfl rfl
  | os _ ih => exact Later.via ih rfl rfl
  | handled _ ih => exact ih
  | genState _ _ ih => exact ih
  | stack _ ih => exact ih
  | thread _ ih => exact ih
  | newGen _ ih => exact Later.via ih rfl rfl
  | call _ _ i1 i2 => exact i1.trans i2
  | callSusp _ i1 => exact i1
  | yield => exact .refl _
  | resumeFresh _ _ _ _ i1 i2 => exact Later.via (i1.trans (Later.via i2 rfl rfl)) rfl rfl
  | resumeSuspended _ _ _ _ i1 i2 => exact Later.via (i1.trans (Later.via i2 rfl rfl)) rfl rfl
  | resumeJustStarted _ _ _ ih => exact ih
  | resumeThrowFresh _ _ ih => exact Later.via ih rfl rfl
  | resumeRunning _ _ ih => exact ih
  | resumeFinished _ _ ih => exact ih
  | segRet _ _ i1 i2 => exact i1.trans i2
  | segGen _ _ i1 i2 => exact i1.trans (Later.via i2 rfl rfl)
  | segSuspOut _ _ i1 => exact i1
  | segSuspGen _ _ _ _ i1 i2 => exact i1.trans (Later.via i2 rfl rfl)
/-- the surroundings in which a contract's body is walked -/
abbrev topA (D U : Nat) (env : Env) (outer : List Env) : Around := { handled := none, depth := D, frames := some (env :: outer), guards := none, units := U }

abbrev CPost := Value → Led → Led → Prop
/-- a contract's end without new objects -/
def noF (P : Value → Led → Prop) : CPost := fun v fr l => fr = [] ∧ P v l
def CEnd (g : Heap) (lo : Led) (Post : CPost) (s₁ : Shared) (v : Value) (s' : Shared) : Prop :=
  ∃ L' m' fr l' h' tk', s' = { s₁ with heap := h', toks := tk' } ∧ Fr g L' h' m' ∧ News g L' h' (fr ++ l') ∧ (∀ p ∈ fr, ∀ q ∈ lo, p.1 ≠ q.1) ∧ Post v fr l'

theorem cend {g : Heap} {lo : Led} {P : Value → Led → Prop} {s₁ : Shared} {v : Value} {L' : Addr} {m' : Str → Option Value} {l l' : Led} {h' : Heap} {tk' : Nat}
    (F : Fr g L' h' m') (N : News g L' h' l') (hs : ∀ p ∈ l, p ∈ l') (hp : P v l) : CEnd g lo (noF P) s₁ v { s₁ with heap := h', toks := tk' } :=
  ⟨L', m', [], l, h', tk', rfl, F, fun p hp => N p (hs p hp), (fun _ h => nomatch h), rfl, hp⟩
theorem cendF {g : Heap} {lo : Led} {P : CPost} {s₁ : Shared} {v : Value} {L' : Addr} {m' : Str → Option Value} {fr l l' : Led} {h' : Heap} {tk' : Nat}
    (F : Fr g L' h' m') (N : News g L' h' l') (hs : ∀ p ∈ fr ++ l, p ∈ l') (hf : ∀ p ∈ fr, ∀ q ∈ lo, p.1 ≠ q.1) (hp : P v fr l) : CEnd g lo P s₁ v { s₁ with heap := h', toks := tk' } :=
  ⟨L', m', fr, l, h', tk', rfl, F, fun p hp => N p (hs p hp), hf, hp⟩

theorem code_weaken {M : Model} {A A' : Around} {c : Code} {R : Result → Shared → Prop} {s : Shared}
    (h1 : A.handled = A'.handled) (h2 : A.depth ≤ A'.depth) (h3 : A'.frames = A.frames) (h4 : A'.guards = none) (h5 : A.units ≤ A'.units)
    (h : codeAny M A' c R s) : codeAny M A c R s := fun Γ p hc hΓ =>
  h Γ p hc ⟨hΓ.1.trans h1, Nat.le_trans hΓ.2.1 h2, fun l hl => hΓ.2.2.1 l (h3 ▸ hl), fun g hg => (by rw [h4] at hg; cases hg), Nat.le_trans hΓ.2.2.2.2 h5⟩

/-- a contract of a call, over the few objects that it may change -/
def CtrC (prog : Program) (w : World) (K : Frag) (TP : Heap → Prop) (D U : Nat) (f : Value) (args : Args) (l : Led) (Post : CPost) : Prop :=
  ∀ (A A₀ : Around) (base h₀ : Heap) (env : Env) (outer : List Env) (L : Addr) (m : Str → Option Value) (s : Shared) (R : Result → Shared → Prop) (rest : Led),
    Below A₀ base outer h₀ → Fr h₀ L s.heap m → K.In h₀ → News h₀ L s.heap (l ++ rest) → TP h₀ →
    A.frames = some (env :: outer) → env.frame = some L → env.scope.kind = .function → A.handled = none → A.depth ≤ D → A.units ≤ U →
    (∀ p ∈ rest, ∀ q ∈ l, p.1 ≠ q.1) →
    (∀ v fr l' h' tk', Post v fr l' → s.toks ≤ tk' → (∀ p ∈ fr, ∀ r ∈ l ++ rest, @LT.lt Nat _ r.1 p.1) → Fr h₀ L h' m → News h₀ L h' (fr ++ l' ++ rest) → R (.ok (.ret v)) { s with heap := h', toks := tk' }) →
    codeAny (model prog w) A (.call f args) R s

def Ctr (prog : Program) (w : World) (K : Frag) (TP : Heap → Prop) (D U : Nat) (t : Sem Value) (l : Led) (Post : CPost) : Prop :=
  ∀ (A A₀ : Around) (base h₀ : Heap) (env : Env) (outer : List Env) (L : Addr) (m : Str → Option Value) (s : Shared) (Q E : Value → Shared → Prop) (rest : Led),
    Below A₀ base outer h₀ → Fr h₀ L s.heap m → K.In h₀ → News h₀ L s.heap (l ++ rest) → TP h₀ →
    A.frames = some (env :: outer) → env.frame = some L → env.scope.kind = .function → A.handled = none → A.depth ≤ D → A.units ≤ U →
    (∀ p ∈ rest, ∀ q ∈ l, p.1 ≠ q.1) →
    (∀ v fr l' h' tk', Post v fr l' → s.toks ≤ tk' → (∀ p ∈ fr, ∀ r ∈ l ++ rest, @LT.lt Nat _ r.1 p.1) → Fr h₀ L h' m → News h₀ L h' (fr ++ l' ++ rest) → Q v { s with heap := h', toks := tk' }) →
    wpAny (model prog w) A t Q E s

theorem CtrC.call {prog : Program} {w : World} {K : Frag} {TP : Heap → Prop} {D U : Nat} {f : Value} {pos : List Value} {kw : List (Str × Value)} {l : Led} {Post : CPost}
    (C : CtrC prog w K TP D U f ⟨pos, kw⟩ l Post) : Ctr prog w K TP D U (PySem.call f pos kw) l Post := by
  intro A A₀ base h₀ env outer L m s Q E rest B F X N T hA hf hke hh hd hu hne hQ
  exact wpAny_call (C A A₀ base h₀ env outer L m s _ rest B F X N T hA hf hke hh hd hu hne hQ)
/-- the call of a bound method -/
theorem CtrC.bound {prog : Program} {w : World} {K : Frag} {TP : Heap → Prop} {D U : Nat} {f self : Value} {q : Addr} {pos : List Value} {kw : List (Str × Value)} {l : Led} {Post : CPost}
    (C : CtrC prog w K TP D U f ⟨self :: pos, kw⟩ l Post) (hql : ∀ p ∈ l, q ≠ p.1) :
    Ctr prog w K TP D U (PySem.call (.ref q) pos kw) ((q, methodObj f self) :: l) (fun v fr l' => ∃ l'', l' = (q, methodObj f self) :: l'' ∧ Post v fr l'') := by
  intro A A₀ base h₀ env outer L m s Q E rest B F X N T hA hf hke hh hd hu hne hQ
  have N2 : News h₀ L s.heap (l ++ (q, methodObj f self) :: rest) := fun p hp => N p (by
    simp only [List.cons_append, List.mem_append, List.mem_cons] at hp ⊢
    rcases hp with h | h | h
    · exact .inr (.inl h)
    · exact .inl h
    · exact .inr (.inr h))
  refine wpAny_call (method_call (N (q, methodObj f self) (List.mem_append_left _ (List.mem_cons_self ..))).1 (C A A₀ base h₀ env outer L m s _ ((q, methodObj f self) :: rest) B F X N2 T hA hf hke hh hd hu (fun p hp r hr => ?_) (fun v fr l' h' tk' hp ht hfr F' N' => ?_)))
  · rcases List.mem_cons.mp hp with rfl | hp
    · exact hql r hr
    · exact hne p hp r (List.mem_cons_of_mem _ hr)
  · refine hQ v fr ((q, methodObj f self) :: l') h' tk' ⟨l', rfl, hp⟩ ht (fun p hp r hr => hfr p hp r ?_) F' (fun p hp => N' p ?_)
    · simp only [List.cons_append, List.mem_append, List.mem_cons] at hr ⊢
      rcases hr with h | h | h
      · exact .inr (.inl h)
      · exact .inl h
      · exact .inr (.inr h)
    · simp only [List.cons_append, List.mem_append, List.mem_cons] at hp ⊢
      rcases hp with (h | h | h) | h
      · exact .inl (.inl h)
      · exact .inr (.inl h)
      · exact .inl (.inr h)
      · exact .inr (.inr h)

theorem ctr_intro {prog : Program} {w : World} {K : Frag} {TP : Heap → Prop} {D U : Nat} {l : Led} {Post : CPost}
    {name qual : Str} {params : Arguments} {body : List Stmt} {scope : Scope} {dV kV doc pm cdv ct oc : Value} {an od : Option Addr} {osl : Array (Option Value)} {f : Addr} {pos : List Value} {kw : List (Str × Value)} {binds : List (Str × Value)}
    (hT : ∀ h h' : Heap, TP h → h.StaysIn h' → TP h') (hlim : ∀ h : Heap, TP h → h.NoLimit)
    (ho : K.lookup f = some ⟨oc, od, .func (fnOf name qual params body scope dV kV doc pm an cdv ct), osl⟩) (hcd : codeIn K cdv qual = true) (hD : D < recursionLimit)
    (hbind : ∀ s : Shared, K.In s.heap → BindsTo s (fnOf name qual params body scope dV kV doc pm an cdv ct) ⟨pos, kw⟩ binds) (hloc : ∀ y ∈ binds, scope.names.lookup y.1 = some .local)
    (h : ∀ (A : Around) (base g : Heap) (env : Env) (outer : List Env) (L' : Addr) (h₁ : Heap) (s : Shared) (tk : Nat),
      Below A base (env :: outer) g → Fr g L' h₁ (fun y => binds.reverse.lookup y) → K.In g → News g L' h₁ l → TP g → (∀ p ∈ l, p.1 < L') →
      wpAny (model prog w) ((topA D (U + 1) env outer).deeper (envOf qual scope L' f cdv)) (execs body (envOf qual scope L' f cdv))
        (fun fl s' => CEnd g l Post s (match fl with | .ret v => v | _ => .none) s') (fun _ _ => False) { s with heap := h₁, toks := tk })
    (hcell : ∀ x ∈ scope.names, x.2 ≠ .cell) (hco : scope.isCoroutine = false) (hgen : scope.isGenerator = false) (hk : scope.kind = .function) :
    CtrC prog w K TP D U (.ref f) ⟨pos, kw⟩ l Post := by
  intro A A₀ base h₀ env outer L m s R rest B F X N T hA hf hke hh hd hu hne hQ
  have Ns : News h₀ L s.heap l := fun p hp => N p (List.mem_append_left _ hp)
  refine code_weaken (A' := topA D U env outer) hh hd hA.symm rfl hu ?_
  have hA' : (topA D U env outer).frames = some (env :: outer) := rfl
  obtain ⟨FG, BG, st, lv⟩ := groundX (A := topA D U env outer) (R := fun _ _ => True) B F Ns hA' hf hke
  have X' : K.In s.heap := X.keeps F.keep
  have key : codeAny (model prog w) (topA D U env outer) (.call (.ref f) ⟨pos, kw⟩) (fun r s' => ∃ v, r = .ok (.ret v) ∧ CEnd (hideAll s.heap (l.map (·.1))) l Post s v s') s := by
    refine codeAny_call_def (fd := fnOf name qual params body scope dV kV doc pm an cdv ct) (body := body) (binds := binds) hD (X' _ _ ho) rfl ((hlim _ T).keeps F.keep) (codeRec_of X' hcd) rfl (hbind s X') hcell hloc (fun h₁ hns hk₁ => ?_) hco hgen hk
    have key := h (topA D U env outer) base (hideAll s.heap (l.map (·.1))) env outer s.heap.objs.size h₁ s (s.toks + binds.length) BG
      ⟨hns, fun b o e => hk₁ b o (of_hideAll _ e), Nat.le_of_eq (hideAll_size _ _)⟩ (X.keeps st)
      (fun p hp => ⟨hk₁ _ _ (Ns p hp).1, Nat.ne_of_lt (Heap.lt_size (Ns p hp).1), hideAll_none _ (List.mem_map_of_mem hp)⟩) (hT _ _ T st) (fun p hp => Heap.lt_size (Ns p hp).1)
    exact wpAny_mono (wp_weaken (A' := (topA D (U + 1) env outer).deeper (envOf qual scope s.heap.objs.size f cdv)) rfl (Nat.le_refl _) rfl rfl (by show U + 3 ≤ U + 1 + 3; omega) key) (fun fl s' hl => ⟨_, rfl, hl⟩) fun _ _ y => y.elim
  intro Γ p hc hΓ
  obtain ⟨r, s', hr, v, rfl, L', m', fr, l', h', tk', rfl, F', N', hfr, hp⟩ := key Γ p hc hΓ
  have hlat : Later s _ := runs_later hr
  refine ⟨_, _, hr, ?_⟩
  obtain ⟨oL, es, ep, hL, r⟩ := FG.ns
  have keep : ∀ b o, h₀.get? b = some o → h'.get? b = some o := fun b o e => F'.keep b o (st b o e)
  refine hQ _ fr l' h' tk' hp hlat.toks ?_ ⟨⟨oL, es, ep, F'.keep L oL hL, r⟩, keep, F.above⟩ (fun p hp => ?_)
  · intro p hp r hr
    have hp' := N' p (List.mem_append_left _ hp)
    have hn : s.heap.get? p.1 = none := by
      cases q : s.heap.get? p.1 with
      | none => rfl
      | some o =>
        have hni : p.1 ∉ l.map (·.1) := fun hm => by
          obtain ⟨z, hz, e⟩ := List.mem_map.mp hm
          exact hfr p hp z hz e.symm
        have := hideAll_get (l.map (·.1)) q hni
        rw [hp'.2.2] at this; cases this
    have hge : s.heap.objs.size ≤ p.1 := by
      by_cases q : p.1 < s.heap.objs.size
      · have := hlat.dead p.1 q hn
        have h2 := hp'.1
        rw [this] at h2; cases h2
      · exact Nat.le_of_not_lt q
    exact Nat.lt_of_lt_of_le (Heap.lt_size (N r hr).1) hge
  rcases List.mem_append.mp hp with hp | hp
  · refine ⟨(N' p hp).1, fun q => ?_, ?_⟩
    · have := (N' p hp).2.2; rw [q, hL] at this; cases this
    · cases q : h₀.get? p.1 with
      | none => rfl
      | some o => have := (N' p hp).2.2; rw [st _ _ q] at this; cases this
  · have q := N p (List.mem_append_right _ hp)
    refine ⟨F'.keep _ _ (hideAll_get _ q.1 fun hm => ?_), q.2.1, q.2.2⟩
    obtain ⟨z, hz, e⟩ := List.mem_map.mp hm
    exact hne p hp z hz e.symm

inductive Del (p : Addr × Obj) : Led → Led → Prop
  | head {r} : Del p (p :: r) r
  | tail {q r r'} : Del p r r' → Del p (q :: r) (q :: r')
theorem Del.mem {p : Addr × Obj} {l r : Led} (h : Del p l r) : ∀ x, x = p ∨ x ∈ r → x ∈ l := by
  induction h with
  | head => intro x hx; rcases hx with rfl | hx; exact .head _; exact .tail _ hx
  | tail _ ih => intro x hx; rcases hx with rfl | hx; exact .tail _ (ih _ (.inl rfl)); cases hx with | head => exact .head _ | tail _ hx => exact .tail _ (ih _ (.inr hx))
/-- a ledger with a block at its end -/
inductive Tl (T : Led) : Led → Led → Prop
  | nil : Tl T T []
  | app {o} : Tl T (o ++ T) o
  | cons {e N cs} : Tl T N cs → Tl T (e :: N) (e :: cs)
theorem Tl.eq {T N cs : Led} (t : Tl T N cs) : N = cs ++ T := by
  induction t with
  | nil => rfl
  | app => rfl
  | cons _ ih => rw [ih]; rfl
inductive Take : Led → Led → Led → Prop
  | nil {l} : Take [] l l
  | cons {p ps l l' r} : Del p l l' → Take ps l' r → Take (p :: ps) l r
  | all {T N cs} : Tl T N cs → Take T N cs
theorem Take.news {l c rest : Led} (t : Take l c rest) {h₀ h : Heap} {L : Addr} (N : News h₀ L h c) : News h₀ L h (l ++ rest) := by
  intro p hp
  refine N p ?_
  induction t with
  | nil => simpa using hp
  | all q => rw [q.eq]; rcases List.mem_append.mp hp with hp | hp; exact List.mem_append_right _ hp; exact List.mem_append_left _ hp
  | cons d _ ih =>
    refine d.mem p ?_
    rcases List.mem_append.mp hp with hp | hp
    · cases hp with
      | head => exact .inl rfl
      | tail _ hp => exact .inr (ih (fun q hq => N q (d.mem q (.inr hq))) (List.mem_append_left _ hp))
    · exact .inr (ih (fun q hq => N q (d.mem q (.inr hq))) (List.mem_append_right _ hp))
end Mine

end
section
open PySem PySem.W PyProof.Rows
namespace Mine
/-- addresses, the newest first -/
def Srt : List Addr → Prop
  | [] => True
  | a :: l => (∀ b ∈ l, @LT.lt Nat _ b a) ∧ Srt l
inductive Aft : List Addr → Addr → Addr → Prop
  | here {a b : Addr} {l : List Addr} : b ∈ l → Aft (a :: l) a b
  | there {x a b : Addr} {l : List Addr} : Aft l a b → Aft (x :: l) a b
inductive Apart : List Addr → Addr → Addr → Prop
  | l {a b : Addr} {l : List Addr} : b ∈ l → Apart (a :: l) a b
  | r {a b : Addr} {l : List Addr} : a ∈ l → Apart (b :: l) a b
  | t {x a b : Addr} {l : List Addr} : Apart l a b → Apart (x :: l) a b
theorem Srt.lt : ∀ {l : List Addr} {a b : Addr}, Srt l → Aft l a b → @LT.lt Nat _ b a
  | _, _, _, S, .here h => S.1 _ h
  | _, _, _, S, .there h => Srt.lt S.2 h
theorem Srt.ne : ∀ {l : List Addr} {a b : Addr}, Srt l → Apart l a b → @Ne Nat a b
  | _, _, _, S, .l h => Nat.ne_of_gt (S.1 _ h)
  | _, _, _, S, .r h => Nat.ne_of_lt (S.1 _ h)
  | _, _, _, S, .t h => Srt.ne S.2 h
theorem Srt.tl {a : Addr} {l : List Addr} (S : Srt (a :: l)) : Srt l := S.2
theorem Srt.grow {t d : Addr} {l : List Addr} (S : Srt (t :: l)) (h : @LT.lt Nat _ t d) : Srt (d :: t :: l) :=
  ⟨fun b hb => by
    rcases List.mem_cons.mp hb with rfl | hb
    · exact h
    · exact Nat.lt_trans (S.1 b hb) h, S⟩
theorem Srt.six {sd st rce dd ds er : Addr} (h : @LT.lt Nat _ sd st ∧ @LT.lt Nat _ st rce ∧ @LT.lt Nat _ rce dd ∧ @LT.lt Nat _ dd ds ∧ @LT.lt Nat _ ds er) : Srt [er, ds, dd, rce, st, sd] := by
  obtain ⟨h1, h2, h3, h4, h5⟩ := h
  have S0 : Srt [sd] := ⟨fun _ h => (nomatch h), trivial⟩
  exact ((((S0.grow h1).grow h2).grow h3).grow h4).grow h5
theorem Srt.nine {zd za sd st rce dd ds er tq : Addr} (h : @LT.lt Nat _ sd st ∧ @LT.lt Nat _ st rce ∧ @LT.lt Nat _ rce dd ∧ @LT.lt Nat _ dd ds ∧ @LT.lt Nat _ ds er) (k : @LT.lt Nat _ zd za ∧ @LT.lt Nat _ za sd ∧ @LT.lt Nat _ er tq) : Srt [tq, er, ds, dd, rce, st, sd, za, zd] := by
  obtain ⟨h1, h2, h3, h4, h5⟩ := h
  obtain ⟨k1, k2, k3⟩ := k
  have S0 : Srt [zd] := ⟨fun _ h => (nomatch h), trivial⟩
  exact (((((((S0.grow k1).grow k2).grow h1).grow h2).grow h3).grow h4).grow h5).grow k3
theorem one_lt_tq {zd za sd st rce dd ds er tq : Addr} (h : @LT.lt Nat _ sd st ∧ @LT.lt Nat _ st rce ∧ @LT.lt Nat _ rce dd ∧ @LT.lt Nat _ dd ds ∧ @LT.lt Nat _ ds er) (k : @LT.lt Nat _ zd za ∧ @LT.lt Nat _ za sd ∧ @LT.lt Nat _ er tq) : @LT.lt Nat _ 1 tq := by omega
theorem Srt.two {a b : Addr} (h : @LT.lt Nat _ a b) : Srt [b, a] := by
  have S0 : Srt [a] := ⟨fun _ h => (nomatch h), trivial⟩
  exact S0.grow h
/-- a ledger that is written out; a frame that is written out -/
def NEWSC (g0 : Heap) (L : Addr) (h : Heap) (p : Addr × Obj) (l : List (Addr × Obj)) : Prop := News g0 L h (p :: l)
theorem news_cons (g0 : Heap) (L : Addr) (h : Heap) (p : Addr × Obj) (l : List (Addr × Obj)) : News g0 L h (p :: l) = NEWSC g0 L h p l := rfl
def FRC (g0 : Heap) (L : Addr) (h : Heap) (x : Str) (v : Option Value) (f : Str → Option Value) : Prop := Fr g0 L h (fun y => if y = x then v else f y)
theorem fr_ite (g0 : Heap) (L : Addr) (h : Heap) (x : Str) (v : Option Value) (f : Str → Option Value) : Fr g0 L h (fun y => if y = x then v else f y) = FRC g0 L h x v f := rfl
end Mine
namespace Mine
/-- marks: which way a walk keeps its order facts -/
inductive MarkB : Prop | mk
inductive MarkC : Prop | mk
end Mine

end
section
open PySem PySem.W PyProof.Rows PySem.Calls PySem.Spec PyProof.V
namespace Mine
abbrev tupO (vs : List Value) : Obj := { cls := .type "tuple", data := .seq vs.toArray }
structure Hold (p : Prop) : Prop where
  out : p
theorem hold {p : Prop} (h : Hold p) : p := h.out
theorem fit63 {n : Nat} (h : n ≤ 1048576) : (n : Int) < 9223372036854775808 := by omega
theorem gentoks {α : Type} {M : Model} {A : Around} {t : Sem α} {Q : α → Shared → Prop} {E : Value → Shared → Prop} {h g d o} {n : Nat} (hq : ∀ k, @LE.le Nat _ n k → wpAny M A t Q E (Shared.mk h g d k o)) : wpAny M A t Q E (Shared.mk h g d n o) := hq n (Nat.le_refl n)
section
variable {prog : Program} {w : World} {A : Around} {E : Value → Shared → Prop} {s : Shared} {value slice : Expr} {x : Str} {t u : Tok} {i : Int} {c : Nat} {Q : Value → Shared → Prop}
theorem sub_chr (h0 : 0 ≤ i) (h1 : i < 9223372036854775808) (hc : x.cps[i.toNat]? = some c) (h : Q (.str ⟨#[c]⟩ s.toks) { s with toks := s.toks + 1 })
    (hs : subscripted slice false (.str x t) (.int i u) = operate [.str x t, .int i u] (getItem (.str x t) (.int i u)) := by with_unfolding_all rfl)
    (ht : ∀ r, letTemporaryGo value (.str x t) r = pure () := by intro _; with_unfolding_all rfl) :
    wpAny (model prog w) A (subscriptTail value slice (.str x t) (.int i u)) Q E s := by
  obtain ⟨k, rfl⟩ := Int.eq_ofNat_of_zero_le h0
  simp only [Int.toNat_natCast] at hc
  have hk : k < x.cps.size := by
    obtain ⟨hk, _⟩ := Array.getElem?_eq_some_iff.mp hc
    exact hk
  have hkz : (k : Int) < (x.cps.size : Int) := by omega
  have hn : ¬ ((k : Int) < 0) := by omega
  have e : Txt.charAt x (k : Int) = some c := by
    have e1 : seqIndex? (k : Int) x.length = some k := by
      unfold seqIndex?
      simp [Str.length, hn, hk]
    unfold Txt.charAt
    rw [e1]; exact hc
  have e2 : Txt.item x (k : Int) = ⟨#[c]⟩ := by unfold Txt.item; rw [e]; rfl
  refine item_str (fitsSsize_of (N := 9223372036854775808) (by omega) (by omega) (Int.le_refl _)) (by omega) (by show (k : Int) < (x.cps.size : Int); omega) (fun _ => ?_) hs ht
  rw [e2]; exact h
theorem sub_last (h0 : i = -1) (h1 : 1 ≤ x.length) (h2 : x.length < 9223372036854775808) (h : ∀ c, x.cps.toList.getLast? = some c → Q (.str ⟨#[c]⟩ s.toks) { s with toks := s.toks + 1 })
    (hs : subscripted slice false (.str x t) (.int i u) = operate [.str x t, .int i u] (getItem (.str x t) (.int i u)) := by with_unfolding_all rfl)
    (ht : ∀ r, letTemporaryGo value (.str x t) r = pure () := by intro _; with_unfolding_all rfl) :
    wpAny (model prog w) A (subscriptTail value slice (.str x t) (.int i u)) Q E s := by
  subst h0
  have hlen : x.cps.toList.length = x.length := by simp [Str.length]
  obtain ⟨c, hc⟩ : ∃ c, x.cps.toList.getLast? = some c := by
    cases q : x.cps.toList.getLast? with
    | some c => exact ⟨c, rfl⟩
    | none => rw [List.getLast?_eq_none_iff] at q; rw [q] at hlen; simp at hlen; omega
  have hi : x.cps[x.length - 1]? = some c := by
    rw [List.getLast?_eq_getElem?] at hc
    rw [hlen] at hc
    simpa using hc
  have e2 : Txt.item x (-1) = ⟨#[c]⟩ := by
    unfold Txt.item Txt.charAt
    have e1 : seqIndex? (-1) x.length = some (x.length - 1) := by
      unfold seqIndex?
      have a : ((-1 : Int) < 0) := by decide
      have b1 : (0 : Int) ≤ -1 + (x.length : Int) := by omega
      have b2 : (-1 : Int) + (x.length : Int) < x.length := by omega
      have b3 : ((-1 : Int) + (x.length : Int)).toNat = x.length - 1 := by omega
      simp [a, b1, b2, b3]
    rw [e1]
    show (⟨#[(x.cps[x.length - 1]?).getD 0]⟩ : Str) = _
    rw [hi]; rfl
  refine item_str (fitsSsize_of (N := 9223372036854775808) (by omega) (by omega) (Int.le_refl _)) (by omega) (by omega) (fun _ => ?_) hs ht
  rw [e2]; exact h c hc
open Builtin Builtin.Str in
theorem gives_count4 (x y : Str) (i j : Int) (t u v v' : Tok) : Gives («str.count» ⟨[.str x t, .str y u, .int i v, .int j v'], []⟩) (.int (occurrences x y (fromIndex x.length i) (min (fromIndex x.length j) x.length) (x.length + 1)).length) := by
  show Gives (retInt (occurrences x y (fromIndex x.length i) (min (fromIndex x.length j) x.length) (x.length + 1)).length) _
  exact .of_eq rfl
open Builtin Builtin.Str in
theorem gives_rfind4 (x y : Str) (i j : Int) (t u v v' : Tok) : Gives («str.rfind» ⟨[.str x t, .str y u, .int i v, .int j v'], []⟩) (.int (match lastOccurrence x y (fromIndex x.length i) (min (fromIndex x.length j) x.length) with | some i => (i : Int) | none => -1)) := by
  show Gives (match lastOccurrence x y (fromIndex x.length i) (min (fromIndex x.length j) x.length) with | some i => retInt i | none => (do rule "str.rfind.not-found"; retInt (-1))) _
  cases lastOccurrence x y (fromIndex x.length i) (min (fromIndex x.length j) x.length) with
  | none => exact .rule (.of_eq rfl)
  | some k => exact .of_eq rfl
open Builtin Builtin.Str in
def countTo (x y : Str) (i j : Int) : Int := (occurrences x y (fromIndex x.length i) (min (fromIndex x.length j) x.length) (x.length + 1)).length
open Builtin Builtin.Str in
def rfindTo (x y : Str) (i j : Int) : Int := match lastOccurrence x y (fromIndex x.length i) (min (fromIndex x.length j) x.length) with | some i => (i : Int) | none => -1
section
variable {y : Str} {j : Int} {v v' : Tok}
theorem count4 (hq : Q (.int (countTo x y i j) s.toks) { s with toks := s.toks + 1 }) : wpAny (model prog w) A (call (.builtin "str.count") [.str x t, .str y u, .int i v, .int j v']) Q E s :=
  call_gives F.slot_str_count (typeIs_str _ _ _) F.entry_str_count (F.args_str_count_4 _ _ _ _) (gives_count4 x y i j t u v v') hq
theorem rfind4 (hq : Q (.int (rfindTo x y i j) s.toks) { s with toks := s.toks + 1 }) : wpAny (model prog w) A (call (.builtin "str.rfind") [.str x t, .str y u, .int i v, .int j v']) Q E s :=
  call_gives F.slot_str_rfind (typeIs_str _ _ _) F.entry_str_rfind (F.args_str_rfind_4 _ _ _ _) (gives_rfind4 x y i j t u v v') hq
end
theorem method_nobool : typeLookup (.type "method") "__bool__" = pure none := by rw [typeLookup_type, builtinLookup_eq_fast]; kernel_rfl
theorem method_nolen : typeLookup (.type "method") "__len__" = pure none := by rw [typeLookup_type, builtinLookup_eq_fast]; kernel_rfl
theorem truthy_meth {q : Addr} {f self : Value} {h₀ : Heap} {L : Addr} {news : List (Addr × Obj)} {Q : Bool → Shared → Prop} (N : News h₀ L s.heap news) (hq : (q, methodObj f self) ∈ news) (h : Q true s) :
    wpAny (model prog w) A (truthy (.ref q)) Q E s := by
  have ty : Looks (model prog w) s.heap (typeOf (.ref q)) (.type "method") := (Looks.ld (part := none) (N _ hq).1).andThen .now
  unfold truthy
  refine wpAny_bind (m := callSpecial? (.ref q) (Str.ofString "__bool__")) (wpAny_bind (wpAny_bind (ty.here ((Looks.of_pure method_nobool).here (wpAny_pure ?_)))))
  refine wpAny_bind (wpAny_bind (ty.here ((Looks.of_pure method_nolen).here ?_)))
  exact wpAny_pure h
theorem last_lt {src x : Str} {k B c : Nat} (hs : ∀ c ∈ src.cps.toList, c < B) (hx : x.cps.toList = src.cps.toList.drop k) (hc : x.cps.toList.getLast? = some c) : c < B := by
  refine hs c (List.mem_of_mem_drop (i := k) ?_)
  rw [← hx]; exact List.mem_of_getLast? hc
open Builtin Builtin.Str in
theorem replaceM {x y z : Str} {t u v : Tok} (hu : @Ne Nat u 0) (hv : @Ne Nat v 0) (huv : @Ne Nat u v) (hyz : (y == z) = false) (hx : x.length ≤ 1048576) (hz : z.length ≤ 14)
    (hq : ∀ t' k, s.toks ≤ k → Q (.str (Txt.replace x y z) t') { s with toks := k }) : wpAny (model prog w) A (call (.builtin "str.replace") [.str x t, .str y u, .str z v]) Q E s := by
  have h1 : (x.length + 1) * z.length ≤ (x.length + 1) * 14 := Nat.mul_le_mul_left _ hz
  have hb : x.length + (x.length + 1) * z.length ≤ 16777216 := by omega
  have e : (2 : Nat) ^ 24 = 16777216 := by decide
  have hl : tooLong (x.length + (occurrences x y 0 x.length (x.length + 1)).length * z.length) = false := by
    have h1 := StrLaws.occ_length_le x y 0 x.length (x.length + 1)
    have h2 : (occurrences x y 0 x.length (x.length + 1)).length * z.length ≤ (x.length + 1) * z.length := Nat.mul_le_mul_right _ h1
    unfold tooLong sizeLine
    exact decide_eq_false (by omega)
  refine call_gives F.slot_str_replace (typeIs_str _ _ _) F.entry_str_replace (F.args_str_replace_3 _ _ _)
    (gives_str_replace x y z t u v fun _ => ⟨by simp [hu, hv], by simp [huv], hyz, hl⟩) ?_
  have hq' := hq
  unfold Txt.replace at hq'
  cases hc : ((occurrences x y 0 x.length (x.length + 1)).isEmpty || (y.length == 0 && z.length == 0))
  · rw [hc] at hq'
    simp only [Bool.false_eq_true, if_false] at hq' ⊢
    exact ⟨fits_replaced y hb, hq' _ _ (Nat.le_succ _)⟩
  · rw [hc] at hq'
    simp only [if_true] at hq' ⊢
    exact hq' t s.toks (Nat.le_refl _)
end
end Mine

end
section
open PySem PySem.W PyProof.Rows PySem.Calls PySem.Spec PyProof.V
namespace Mine
open Builtin Builtin.Str

def clipI (n : Nat) (i : Int) : Nat := (max 0 (min (if i < 0 then i + n else i) n)).toNat
def sliceLo (n : Nat) : Option Int → Nat | none => 0 | some i => clipI n i
def sliceHi (n : Nat) : Option Int → Nat | none => n | some i => clipI n i
theorem clipI_le (n : Nat) (i : Int) : clipI n i ≤ n := by unfold clipI; split <;> omega
theorem sliceLo_le (n : Nat) (o : Option Int) : sliceLo n o ≤ n := by cases o; exact Nat.zero_le _; exact clipI_le _ _
theorem sliceHi_le (n : Nat) (o : Option Int) : sliceHi n o ≤ n := by cases o; exact Nat.le_refl _; exact clipI_le _ _
theorem indices_gen (l u : Option Int) (n : Nat) : strSliceIndices l u 1 n = (List.range (sliceHi n u - sliceLo n l)).map (fun k => sliceLo n l + k) := by
  have key : ∀ a b : Int, 0 ≤ a → 0 ≤ b → sliceRange a b 1 = (List.range (b.toNat - a.toNat)).map (fun k => a.toNat + k) := by
    intro a b ha hb
    unfold sliceRange
    simp only [show ((1 : Int) > 0) = True from by simp, if_true]
    by_cases hlt : a < b
    · have e3 : ((b - a + 1 - 1) / 1).toNat = b.toNat - a.toNat := by simp only [Int.ediv_one]; omega
      simp only [hlt, if_true, e3]
      refine List.map_congr_left fun k _ => ?_
      omega
    · have : b.toNat - a.toNat = 0 := by omega
      simp [hlt, this]
  unfold strSliceIndices
  simp only [show ((1 : Int) > 0) = True from by simp, if_true]
  cases l <;> cases u <;> (dsimp only; rw [key _ _ (by first | omega | (split <;> omega)) (by first | omega | (split <;> omega))]; simp [sliceLo, sliceHi, clipI])
theorem slice_gen (x : Str) (l u : Option Int) : Txt.slice x l u = ⟨((x.cps.toList.drop (sliceLo x.length l)).take (sliceHi x.length u - sliceLo x.length l)).toArray⟩ := by
  have hl := sliceLo_le x.length l
  have hu := sliceHi_le x.length u
  have e : (strSliceIndices l u 1 x.length).filterMap (x.cps[·]?) = (x.cps.toList.drop (sliceLo x.length l)).take (sliceHi x.length u - sliceLo x.length l) := by
    rw [indices_gen]
    by_cases h : sliceLo x.length l ≤ sliceHi x.length u
    · have h := StrLaws.picks x.cps.toList (sliceHi x.length u - sliceLo x.length l) (sliceLo x.length l) (by have e : x.cps.toList.length = x.length := (by simp [Str.length]); omega)
      simpa using h
    · have h0 : sliceHi x.length u - sliceLo x.length l = 0 := by omega
      rw [h0]; simp
  unfold Txt.slice
  rw [e]
  split
  · rename_i hc
    have hc' : (strSliceIndices l u 1 x.length).length = x.length := by simpa using hc
    rw [indices_gen] at hc'
    simp only [List.length_map, List.length_range] at hc'
    have h0 : sliceLo x.length l = 0 := by omega
    have h1 : sliceHi x.length u = x.length := by omega
    rw [h0, h1]
    refine Str.ext' ?_
    show x.cps = _
    rw [List.drop_zero, Nat.sub_zero, List.take_of_length_le (by simp [Str.length])]
  · rfl
theorem maxmin (a n : Nat) : (max 0 (min (a : Int) (n : Int))).toNat = min a n := by omega
theorem clip_nat (n a : Nat) : clipI n (a : Int) = min a n := by
  unfold clipI
  rw [if_neg (Int.not_lt.mpr (Int.natCast_nonneg a)), maxmin]
theorem drop_min {l : List Nat} {a b n : Nat} (hn : l.length = n) : (l.drop (min a n)).take (min b n - min a n) = (l.drop a).take (b - a) := by
  subst hn
  rw [← List.drop_take, ← List.drop_take, ← List.take_eq_take_min]
  rcases Nat.le_total a l.length with h | h
  · rw [Nat.min_eq_left h]
  · rw [Nat.min_eq_right h, List.drop_of_length_le (by rw [List.length_take]; exact Nat.min_le_right _ _), List.drop_of_length_le (by rw [List.length_take]; exact Nat.le_trans (Nat.min_le_right _ _) h)]
theorem cps_len (x : Str) : x.cps.toList.length = x.length := Array.length_toList
theorem slice_ss {x : Str} {i j : Int} (h0 : 0 ≤ i) (h1 : i ≤ j) : Txt.slice x (some i) (some j) = ⟨((x.cps.toList.drop i.toNat).take (j - i).toNat).toArray⟩ := by
  obtain ⟨a, rfl⟩ := Int.eq_ofNat_of_zero_le h0
  obtain ⟨b, rfl⟩ := Int.eq_ofNat_of_zero_le (Int.le_trans h0 h1)
  rw [slice_gen]
  refine Str.ext' (congrArg List.toArray ?_)
  simp only [sliceLo, sliceHi, clip_nat]
  rw [drop_min (cps_len x), Int.toNat_natCast, Int.toNat_sub]
theorem slice_sn {x : Str} {i : Int} (h0 : 0 ≤ i) : Txt.slice x (some i) none = ⟨(x.cps.toList.drop i.toNat).toArray⟩ := by
  obtain ⟨a, rfl⟩ := Int.eq_ofNat_of_zero_le h0
  rw [slice_gen]
  refine Str.ext' (congrArg List.toArray ?_)
  simp only [sliceLo, sliceHi, clip_nat, Int.toNat_natCast]
  have q := drop_min (a := a) (b := x.length) (cps_len x)
  rw [Nat.min_self] at q
  rw [q, List.take_of_length_le (by rw [List.length_drop, cps_len]; exact Nat.le_refl _)]
theorem clip_m1 (n : Nat) : clipI n (-1) = n - 1 := by
  unfold clipI
  rw [if_pos (by decide)]
  cases n with
  | zero => rfl
  | succ n => rw [show (-1 : Int) + ((n + 1 : Nat) : Int) = (n : Int) from by rw [Int.natCast_add, Int.add_comm]; exact Int.add_sub_cancel (n : Int) 1, maxmin, Nat.min_eq_left (Nat.le_succ n)]; rfl
theorem slice_last {x : Str} {j : Int} (h0 : j = -1) : Txt.slice x none (some j) = ⟨x.cps.toList.dropLast.toArray⟩ := by
  subst h0
  rw [slice_gen]
  refine Str.ext' (congrArg List.toArray ?_)
  simp only [sliceLo, sliceHi, List.drop_zero, Nat.sub_zero]
  rw [List.dropLast_eq_take, cps_len, clip_m1]
theorem slice_len_le {x : Str} {l u : Option Int} {n : Nat} (h : x.length ≤ n) : (Txt.slice x l u).length ≤ n := Nat.le_trans (Txt.slice_le x l u) h
end Mine

end
section
open PySem PySem.W PyProof.Rows PySem.Calls PySem.Spec PyProof.V
namespace Mine
open Builtin Builtin.Str
/-- greedy replacing over lists of code points; the number: signs to skip -/
def repS (y z : List Nat) : Nat → List Nat → List Nat
  | _, [] => []
  | k + 1, _ :: r => repS y z k r
  | 0, c :: r => if y.isPrefixOf (c :: r) then z ++ repS y z (y.length - 1) r else c :: repS y z 0 r
theorem repS_drop (y z : List Nat) : ∀ (k : Nat) (l : List Nat), repS y z k l = repS y z 0 (l.drop k)
  | 0, l => rfl
  | k + 1, [] => by simp [repS]
  | k + 1, c :: r => by rw [repS, List.drop_succ_cons]; exact repS_drop y z k r
def scanF (hit : Nat → Bool) (w : Nat) : Nat → Nat → Nat → List Nat
  | 0, _, _ => []
  | n + 1, i, free => if free ≤ i ∧ hit i = true then i :: scanF hit w n (i + 1) (i + w) else scanF hit w n (i + 1) free
def hitAt (x y : Str) (i : Nat) : Bool := decide (i + y.length ≤ x.length) && subAt x y i
theorem fold_scan (x y : Str) (limit : Nat) : ∀ (n i free : Nat) (F : Array Nat), F.size + n ≤ limit →
    (forIn (List.range' i n) (F, free) (StrLaws.occBody x y x.length limit)).run.fst.toList = F.toList ++ scanF (hitAt x y) y.length n i free
  | 0, i, free, F, _ => by simp [scanF]
  | n + 1, i, free, F, h => by
    rw [List.range'_succ, List.forIn_cons]
    unfold StrLaws.occBody scanF
    by_cases hc : free ≤ i ∧ hitAt x y i = true
    · have h2 := hc.2
      unfold hitAt at h2
      simp only [Bool.and_eq_true, decide_eq_true_eq] at h2
      have c1 : ((F.size < limit ∧ free ≤ i) ∧ i + y.length ≤ x.length) ∧ subAt x y i = true := ⟨⟨⟨by omega, hc.1⟩, h2.1⟩, h2.2⟩
      rw [if_pos hc]
      simp only [c1, if_true, and_self, pure_bind]
      have ih := fold_scan x y limit n (i + 1) (i + y.length) (F.push i) (by simp; omega)
      unfold StrLaws.occBody at ih
      rw [ih]; simp
    · have c1 : ¬ (((F.size < limit ∧ free ≤ i) ∧ i + y.length ≤ x.length) ∧ subAt x y i = true) := by
        rintro ⟨⟨⟨_, a⟩, b⟩, c⟩
        exact hc ⟨a, by unfold hitAt; simp [b, c]⟩
      rw [if_neg hc]
      simp only [c1, if_false, pure_bind]
      have ih := fold_scan x y limit n (i + 1) free F (by omega)
      unfold StrLaws.occBody at ih
      rw [ih]
theorem hit_iff {x y : Str} (hy : 1 ≤ y.length) (i : Nat) : hitAt x y i = y.cps.toList.isPrefixOf (x.cps.toList.drop i) := by
  unfold hitAt
  rw [StrLaws.subAt_eq]
  have hyl : y.cps.toList.length = y.length := by simp [Str.length]
  have hxl : x.cps.toList.length = x.length := by simp [Str.length]
  rw [Bool.eq_iff_iff]
  simp only [Bool.and_eq_true, decide_eq_true_eq, beq_iff_eq, List.isPrefixOf_iff_prefix]
  constructor
  · rintro ⟨_, h⟩
    rw [← h]; exact List.take_prefix _ _
  · intro h
    have hle := h.length_le
    rw [List.length_drop, hyl, hxl] at hle
    exact ⟨by omega, by rw [← hyl]; exact (List.prefix_iff_eq_take.mp h).symm⟩
theorem parts_rep {x y : Str} (z : Str) (hy : 1 ≤ y.length) : ∀ (n i free a : Nat), i + n = x.length + 1 → a ≤ x.length → (free ≤ i → a ≤ i) → (i < free → a = free) → free ≤ x.length →
    (Str.join z (StrLaws.partsFrom x y.length a (scanF (hitAt x y) y.length n i free))).cps.toList = (x.cps.toList.drop a).take (max i free - a) ++ repS y.cps.toList z.cps.toList 0 (x.cps.toList.drop (max i free))
  | 0, i, free, a, h1, h2, h3, h4, h5 => by
    have hxl : x.cps.toList.length = x.length := by simp [Str.length]
    have hi : i = x.length + 1 := h1
    subst hi
    have q1 : x.cps.toList.drop (x.length + 1) = [] := List.drop_of_length_le (by rw [hxl]; exact Nat.le_succ _)
    rw [Nat.max_eq_left (Nat.le_trans h5 (Nat.le_succ _)), q1]
    show (strSub x a x.length).cps.toList = _ ++ []
    rw [StrLaws.strSub_toList, List.append_nil, List.take_of_length_le (by rw [List.length_drop, hxl]; exact Nat.le_refl _), List.take_of_length_le (by rw [List.length_drop, hxl]; exact Nat.sub_le_sub_right (Nat.le_succ _) _)]
  | n + 1, i, free, a, h1, h2, h3, h4, h5 => by
    have hxl : x.cps.toList.length = x.length := by simp [Str.length]
    have hxs : x.cps.size = x.length := rfl
    unfold scanF
    by_cases hc : free ≤ i ∧ hitAt x y i = true
    · rw [if_pos hc]
      have hp := hc.2
      rw [hit_iff hy] at hp
      have hle : i + y.length ≤ x.length := by
        have := hc.2; unfold hitAt at this; simp only [Bool.and_eq_true, decide_eq_true_eq] at this; exact this.1
      have ih := parts_rep z hy n (i + 1) (i + y.length) (i + y.length) ((Nat.add_right_comm i 1 n).trans h1) hle (fun h => h) (fun _ => rfl) hle
      rw [Nat.max_eq_right (Nat.add_le_add_left hy i), Nat.sub_self, List.take_zero, List.nil_append] at ih
      obtain ⟨p, r, e⟩ := StrLaws.partsFrom_ne x y.length (i + y.length) (scanF (hitAt x y) y.length n (i + 1) (i + y.length))
      have ej : Str.join z (strSub x a i :: StrLaws.partsFrom x y.length (i + y.length) (scanF (hitAt x y) y.length n (i + 1) (i + y.length))) = strSub x a i ++ z ++ Str.join z (StrLaws.partsFrom x y.length (i + y.length) (scanF (hitAt x y) y.length n (i + 1) (i + y.length))) := by
        rw [e]; rfl
      show (Str.join z (strSub x a i :: StrLaws.partsFrom x y.length (i + y.length) _)).cps.toList = _
      rw [ej]
      simp only [Str.cps_append, Array.toList_append, StrLaws.strSub_toList]
      rw [ih]
      rw [Nat.max_eq_left hc.1, List.append_assoc]
      congr 1
      obtain ⟨c, t, ed⟩ : ∃ c t, x.cps.toList.drop i = c :: t := by
        cases q : x.cps.toList.drop i with
        | cons c t => exact ⟨c, t, rfl⟩
        | nil => exact absurd (List.drop_eq_nil_iff.mp q) (Nat.not_le.mpr (by rw [hxl]; exact Nat.lt_of_lt_of_le (Nat.lt_add_of_pos_right hy) hle))
      rw [ed] at hp ⊢
      rw [repS, if_pos hp, repS_drop _ _ (y.cps.toList.length - 1) t]
      congr 1
      have hyl : y.cps.toList.length = y.length := by simp [Str.length]
      have e3 : t = x.cps.toList.drop (i + 1) := by
        have := congrArg List.tail ed
        rw [List.tail_drop] at this; exact this.symm
      rw [e3, List.drop_drop, hyl]
      rw [Nat.add_assoc, Nat.add_sub_cancel' hy]
    · rw [if_neg hc]
      have ih := parts_rep z hy n (i + 1) free a ((Nat.add_right_comm i 1 n).trans h1) h2 (fun h => (Nat.lt_or_ge i free).elim (fun hf => by rw [h4 hf]; exact h) (fun hf => Nat.le_succ_of_le (h3 hf))) (fun h => h4 (Nat.lt_of_succ_lt h)) h5
      rw [ih]
      by_cases hf : i < free
      · rw [Nat.max_eq_right hf, Nat.max_eq_right (Nat.le_of_lt hf)]
      · have hfi := Nat.le_of_not_lt hf
        rw [Nat.max_eq_left (Nat.le_succ_of_le hfi), Nat.max_eq_left hfi]
        have hnp : ¬ (y.cps.toList.isPrefixOf (x.cps.toList.drop i) = true) := fun h => hc ⟨hfi, by rw [hit_iff hy]; exact h⟩
        have hai : a ≤ i := h3 hfi
        clear ih h1 h3 h4 hc
        by_cases hi : i < x.length
        · obtain ⟨c, t, ed⟩ : ∃ c t, x.cps.toList.drop i = c :: t := by
            cases q : x.cps.toList.drop i with
            | cons c t => exact ⟨c, t, rfl⟩
            | nil => exact absurd (List.drop_eq_nil_iff.mp q) (Nat.not_le.mpr (by rw [hxl]; exact hi))
          have e3 : x.cps.toList.drop (i + 1) = t := by
            have := congrArg List.tail ed
            rw [List.tail_drop] at this; exact this
          rw [ed] at hnp
          rw [ed, repS, if_neg hnp, e3]
          have e4 : (x.cps.toList.drop a).take (i + 1 - a) = (x.cps.toList.drop a).take (i - a) ++ [c] := by
            have e5 : i + 1 - a = (i - a) + 1 := Nat.succ_sub hai
            rw [e5, List.take_add_one, List.getElem?_drop]
            have e6 : x.cps.toList[a + (i - a)]? = some c := by
              have : (x.cps.toList.drop i)[0]? = some c := by rw [ed]; rfl
              rw [List.getElem?_drop] at this
              rw [← this, Nat.add_sub_cancel' hai]; rfl
            rw [e6]; rfl
          rw [e4]; simp
        · have q1 : x.cps.toList.drop (i + 1) = [] := List.drop_of_length_le (by omega)
          have q2 : x.cps.toList.drop i = [] := List.drop_of_length_le (by omega)
          rw [q1, q2, List.take_of_length_le (i := i + 1 - a) (by rw [List.length_drop]; omega), List.take_of_length_le (i := i - a) (by rw [List.length_drop]; omega)]
theorem replace_toList (x y z : Str) (hy : 1 ≤ y.length) : (Txt.replace x y z).cps.toList = repS y.cps.toList z.cps.toList 0 x.cps.toList := by
  have hs : occurrences x y 0 x.length (x.length + 1) = scanF (hitAt x y) y.length (x.length + 1) 0 0 := by
    rw [StrLaws.occ_eq]
    have := fold_scan x y (x.length + 1) (x.length + 1) 0 0 #[] (by simp)
    simpa using this
  have key := parts_rep (x := x) z hy (x.length + 1) 0 0 0 (Nat.zero_add _) (Nat.zero_le _) (fun _ => Nat.le_refl _) (fun h => absurd h (by omega)) (Nat.zero_le _)
  simp only [Nat.max_self, Nat.sub_self, List.take_zero, List.nil_append, List.drop_zero] at key
  unfold Txt.replace
  split
  · rename_i hc
    have hempty : (occurrences x y 0 x.length (x.length + 1)).isEmpty = true := by
      simp only [Bool.or_eq_true, Bool.and_eq_true, beq_iff_eq] at hc
      rcases hc with h | h
      · exact h
      · omega
    rw [hs] at hempty
    have h0 : scanF (hitAt x y) y.length (x.length + 1) 0 0 = [] := List.isEmpty_iff.mp hempty
    rw [h0] at key
    rw [← key]
    show x.cps.toList = (strSub x 0 x.length).cps.toList
    rw [StrLaws.sub_whole]
  · rw [StrLaws.glued_eq_join, hs, StrLaws.partsBetween_eq]
    exact key
/-- line ends mended -/
def mendL (l : List Nat) : List Nat := repS [13] [10] 0 (repS [13, 10] [10] 0 l)
abbrev mendS (x : Str) : Str := Txt.replace (Txt.replace x (Str.ofString "\x0d\n") (Str.ofString "\n")) (Str.ofString "\x0d") (Str.ofString "\n")
theorem mendS_toList (x : Str) : (mendS x).cps.toList = mendL x.cps.toList := by
  have a : (Str.ofString "\x0d\n").cps.toList = [13, 10] := by decide +kernel
  have b : (Str.ofString "\n").cps.toList = [10] := by decide +kernel
  have c : (Str.ofString "\x0d").cps.toList = [13] := by decide +kernel
  unfold mendS mendL
  rw [replace_toList _ _ _ (by decide +kernel), replace_toList _ _ _ (by decide +kernel), a, b, c]
theorem repS_len {y z : List Nat} (h : z.length ≤ y.length) (hy : y ≠ []) : ∀ (l : List Nat) (k : Nat), (repS y z k l).length ≤ l.length - k
  | [], k => by cases k <;> simp [repS]
  | c :: r, k + 1 => by rw [repS]; have := repS_len h hy r k; simp; omega
  | c :: r, 0 => by
    rw [repS]
    split
    · rename_i hp
      have h1 := repS_len h hy r (y.length - 1)
      have h2 := (List.isPrefixOf_iff_prefix.mp hp).length_le
      have h3 : 1 ≤ y.length := by cases y with | nil => exact absurd rfl hy | cons _ _ => simp
      simp only [List.length_append, List.length_cons] at h2 ⊢
      omega
    · have := repS_len h hy r 0
      simp only [List.length_cons]; omega
theorem replace_len {x y z : Str} (hy : 1 ≤ y.length) (hz : z.length ≤ y.length) : (Txt.replace x y z).length ≤ x.length := by
  have e : ∀ s : Str, s.length = s.cps.toList.length := fun s => by simp [Str.length]
  rw [e, replace_toList x y z hy, e x]
  refine Nat.le_trans (repS_len (by rw [← e, ← e]; exact hz) ?_ _ 0) (Nat.sub_le _ _)
  intro h0; rw [e, h0] at hy; simp at hy
end Mine

end
section
open PyProof.V PySem PySem.W PyProof.Rows PySem.Calls PySem.Spec
namespace Mine
section
variable {prog : Program} {w : World} {A : Around} {E : Value → Shared → Prop} {s : Shared}
theorem eqBool_str_none {x : Str} {t : Tok} {Q : Bool → Shared → Prop} (h : Q false s) : wpAny (model prog w) A (eqBool (.str x t) .none) Q E s := by
  unfold eqBool
  refine wpAny_holding ?_
  have hab : ¬ (Value.str x t == Value.none) = true := fun e => by have := eq_of_beq e; cases this
  rw [if_neg hab]
  exact wpAny_bind (EqNone.eq_str_none (wpAny_truthy_bool h))
theorem tuple_contains_none {t : Addr} {items : Array Value} {ys : List Str} {P : Fin → Shared → Prop} (ht : IsTup s.heap t items) (hi : StrsAre items.toList ys)
    (h : P (.done (.ret (.bool false))) s) : wpAny (model prog w) A (Builtin.«tuple.__contains__» ⟨[.ref t, .none], []⟩) P E s := by
  show wpAny _ _ (Builtin.Tuple.tupleItemsOf (.ref t) >>= _) _ _ s
  refine wpAny_bind (tupleItemsOf_ ht ?_)
  refine wpAny_bind (forIn_array_ _ (fun rest b s' => b.1 = none ∧ s' = s ∧ ∃ ms, StrsAre rest ms) _ ?_ ?_ items _ ⟨rfl, rfl, ys, hi⟩)
  · rintro y rest b s' ⟨hb, rfl, ms, hm⟩
    cases hm with
    | cons n tk hm' => exact wpAny_bind (eqBool_str_none (wpAny_pure ⟨rfl, rfl, _, hm'⟩))
  · rintro ⟨b1, b2⟩ s' ⟨hb, rfl, ms, hm⟩
    simp only at hb
    subst hb
    exact wpAny_pure h
theorem in_tuple_none {t : Addr} {items : Array Value} {ys : List Str} {Q : Value → Shared → Prop} (ht : IsTup s.heap t items) (hi : StrsAre items.toList ys)
    (h : Q (.bool false) s) : wpAny (model prog w) A (compareOp .In .none (.ref t)) Q E s := by
  show wpAny _ _ (do return .bool (← contains (.ref t) .none)) Q E s
  refine wpAny_bind ?_
  unfold contains
  refine wpAny_holding ?_
  refine wpAny_bind (wpAny_specialOf ht.typeIs slot_tuple_contains.lookup ?_)
  rw [if_neg (by decide)]
  exact wpAny_bind (wpAny_callSpecialUnlessNone?_slot (name := Str.ofString "__contains__") ht.typeIs slot_tuple_contains
    (wpAny_call_entry slot_tuple_contains ht.typeIs entry_tuple_contains (tuple_contains_none ht hi ⟨_, rfl, wpAny_truthy_bool (wpAny_pure h)⟩) (args_tuple_contains _ _)))
/-- a written tuple -/
theorem K_tup {K : Frag} {h₀ : Heap} {L q : Addr} {m : Str → Option Value} {od : Option Addr} {items : Array Value} {n : Nat} {osl : Array (Option Value)} (F : Fr h₀ L s.heap m) (X : K.In h₀)
    (hk : K.lookup q = some ⟨.type "tuple", od, .seq items n, osl⟩) : IsTup s.heap q items := ⟨_, F.keep _ _ (X _ _ hk), rfl, n, rfl⟩
theorem in_tupK {K : Frag} {h₀ : Heap} {L q : Addr} {m : Str → Option Value} {od : Option Addr} {items : Array Value} {n : Nat} {osl : Array (Option Value)} {ys : List Str} {al : Nat → Bool} {c : Nat} {u : Tok} {Q : Value → Shared → Prop}
    (F : Fr h₀ L s.heap m) (X : K.In h₀) (hk : K.lookup q = some ⟨.type "tuple", od, .seq items n, osl⟩) (hi : StrsAre items.toList ys) (he : ∀ c : Nat, ys.any (· == ⟨#[c]⟩) = al c)
    (h : Q (.bool (al c)) s) : wpAny (model prog w) A (compareOp .In (.str ⟨#[c]⟩ u) (.ref q)) Q E s := in_tuple_strs (K_tup F X hk) hi (by rw [he]; exact h)
theorem in_tupK_none {K : Frag} {h₀ : Heap} {L q : Addr} {m : Str → Option Value} {od : Option Addr} {items : Array Value} {n : Nat} {osl : Array (Option Value)} {ys : List Str} {Q : Value → Shared → Prop}
    (F : Fr h₀ L s.heap m) (X : K.In h₀) (hk : K.lookup q = some ⟨.type "tuple", od, .seq items n, osl⟩) (hi : StrsAre items.toList ys)
    (h : Q (.bool false) s) : wpAny (model prog w) A (compareOp .In .none (.ref q)) Q E s := in_tuple_none (K_tup F X hk) hi h
end
def alD (hex : Bool) (c : Nat) : Bool := decide (48 ≤ c ∧ c ≤ 57) || (hex && (decide (65 ≤ c ∧ c ≤ 70) || decide (97 ≤ c ∧ c ≤ 102)))
theorem chr_eq (d c : Nat) : ((⟨#[d]⟩ : Str) == ⟨#[c]⟩) = decide (c = d) := by
  rw [Bool.eq_iff_iff, beq_iff_eq, decide_eq_true_iff]
  constructor
  · intro h; injection h with h; have := congrArg Array.toList h; simp at this; exact this.symm
  · rintro rfl; rfl
theorem chr_any (c : Nat) : ∀ L : List Nat, (L.map (fun d => (⟨#[d]⟩ : Str))).any (· == ⟨#[c]⟩) = decide (c ∈ L)
  | [] => by simp
  | d :: r => by rw [List.map_cons, List.any_cons, chr_any c r, chr_eq]; simp [List.mem_cons]
theorem alD_far {c : Nat} (b : Bool) (h : 128 ≤ c) : alD b c = false := by
  have h1 : ¬ c ≤ 57 := Nat.not_le.mpr (Nat.lt_of_lt_of_le (by decide) h)
  have h2 : ¬ c ≤ 70 := Nat.not_le.mpr (Nat.lt_of_lt_of_le (by decide) h)
  have h3 : ¬ c ≤ 102 := Nat.not_le.mpr (Nat.lt_of_lt_of_le (by decide) h)
  simp [alD, h1, h2, h3]
theorem alD_any {b : Bool} {L : List Nat} (hL : ∀ d ∈ L, d < 128) (hb : ∀ c : Nat, c < 128 → decide (c ∈ L) = alD b c) (c : Nat) : (L.map (fun d => (⟨#[d]⟩ : Str))).any (· == ⟨#[c]⟩) = alD b c := by
  rw [chr_any]
  by_cases h : c < 128
  · exact hb c h
  · rw [alD_far b (Nat.not_lt.mp h)]
    exact decide_eq_false fun hc => h (hL c hc)
theorem dec_any (c : Nat) : ([⟨#[48]⟩, ⟨#[49]⟩, ⟨#[50]⟩, ⟨#[51]⟩, ⟨#[52]⟩, ⟨#[53]⟩, ⟨#[54]⟩, ⟨#[55]⟩, ⟨#[56]⟩, ⟨#[57]⟩] : List Str).any (· == ⟨#[c]⟩) = alD false c :=
  alD_any (L := [48, 49, 50, 51, 52, 53, 54, 55, 56, 57]) (by decide +kernel) (by decide +kernel) c
theorem hex_any (c : Nat) : ([⟨#[48]⟩, ⟨#[49]⟩, ⟨#[50]⟩, ⟨#[51]⟩, ⟨#[52]⟩, ⟨#[53]⟩, ⟨#[54]⟩, ⟨#[55]⟩, ⟨#[56]⟩, ⟨#[57]⟩, ⟨#[97]⟩, ⟨#[98]⟩, ⟨#[99]⟩, ⟨#[100]⟩, ⟨#[101]⟩, ⟨#[102]⟩, ⟨#[65]⟩, ⟨#[66]⟩, ⟨#[67]⟩, ⟨#[68]⟩, ⟨#[69]⟩, ⟨#[70]⟩] : List Str).any (· == ⟨#[c]⟩) = alD true c :=
  alD_any (L := [48, 49, 50, 51, 52, 53, 54, 55, 56, 57, 97, 98, 99, 100, 101, 102, 65, 66, 67, 68, 69, 70]) (by decide +kernel) (by decide +kernel) c
def latin : List Nat := [8364, 129, 8218, 402, 8222, 8230, 8224, 8225, 710, 8240, 352, 8249, 338, 141, 381, 143, 144, 8216, 8217, 8220, 8221, 8226, 8211, 8212, 732, 8482, 353, 8250, 339, 157, 382, 376]
def replC (n : Nat) : Nat := if n = 0 then 65533 else if n = 13 then 13 else latin.getD (n - 128) 0
def replT : List (Int × PyData) := [(0, .str ⟨#[65533]⟩), (13, .str ⟨#[13]⟩), (128, .str ⟨#[8364]⟩), (129, .str ⟨#[129]⟩), (130, .str ⟨#[8218]⟩), (131, .str ⟨#[402]⟩), (132, .str ⟨#[8222]⟩), (133, .str ⟨#[8230]⟩), (134, .str ⟨#[8224]⟩), (135, .str ⟨#[8225]⟩), (136, .str ⟨#[710]⟩), (137, .str ⟨#[8240]⟩), (138, .str ⟨#[352]⟩), (139, .str ⟨#[8249]⟩), (140, .str ⟨#[338]⟩), (141, .str ⟨#[141]⟩), (142, .str ⟨#[381]⟩), (143, .str ⟨#[143]⟩), (144, .str ⟨#[144]⟩), (145, .str ⟨#[8216]⟩), (146, .str ⟨#[8217]⟩), (147, .str ⟨#[8220]⟩), (148, .str ⟨#[8221]⟩), (149, .str ⟨#[8226]⟩), (150, .str ⟨#[8211]⟩), (151, .str ⟨#[8212]⟩), (152, .str ⟨#[732]⟩), (153, .str ⟨#[8482]⟩), (154, .str ⟨#[353]⟩), (155, .str ⟨#[8250]⟩), (156, .str ⟨#[339]⟩), (157, .str ⟨#[157]⟩), (158, .str ⟨#[382]⟩), (159, .str ⟨#[376]⟩)]
def inRepl (z : Int) : Bool := decide (z = 0 ∨ z = 13 ∨ (128 ≤ z ∧ z ≤ 159))
def surr (z : Int) : Bool := decide ((55296 ≤ z ∧ z ≤ 57343) ∨ 1114111 < z)
def nonchL : List Int := [11, 65534, 65535, 131070, 131071, 196606, 196607, 262142, 262143, 327678, 327679, 393214, 393215, 458750, 458751, 524286, 524287, 589822, 589823, 655358, 655359, 720894, 720895, 786430, 786431, 851966, 851967, 917502, 917503, 983038, 983039, 1048574, 1048575, 1114110, 1114111]
def nonch (z : Int) : Bool := KTD.inNums z nonchL
def fltZ (z : Int) : Bool := decide ((1 ≤ z ∧ z ≤ 8) ∨ (14 ≤ z ∧ z ≤ 31) ∨ (127 ≤ z ∧ z ≤ 159) ∨ (64976 ≤ z ∧ z ≤ 65007)) || nonch z
def sgZ (z : Int) : Nat := if inRepl z then replC z.toNat else if surr z then 65533 else z.toNat
def ftZ (z : Int) : Bool := inRepl z || surr z || fltZ z
theorem inKeys_iff (z : Int) : ∀ tab : List (Int × PyData), KTD.inKeys z tab = true ↔ z ∈ tab.map (·.1)
  | [] => by simp [KTD.inKeys]
  | p :: r => by simp [KTD.inKeys, inKeys_iff z r]
theorem repl_keys : replT.map (·.1) = 0 :: 13 :: (List.range 32).map (fun k : Nat => (k : Int) + 128) := by decide +kernel
theorem repl_in (z : Int) : KTD.inKeys z replT = inRepl z := by
  rw [Bool.eq_iff_iff, inKeys_iff, repl_keys, inRepl, decide_eq_true_iff, List.mem_cons, List.mem_cons]
  refine or_congr_right (or_congr_right ⟨fun h => ?_, fun h => ?_⟩)
  · obtain ⟨k, hk, e⟩ := List.mem_map.mp h
    have := List.mem_range.mp hk
    omega
  · exact List.mem_map.mpr ⟨(z - 128).toNat, List.mem_range.mpr (by omega), by omega⟩
def isStr1 (o : Option PyData) (c : Nat) : Bool := match o with | some (.str s) => s == ⟨#[c]⟩ | _ => false
theorem isStr1_is {o : Option PyData} {c : Nat} (h : isStr1 o c = true) : o = some (.str ⟨#[c]⟩) := by
  unfold isStr1 at h
  split at h
  · rw [eq_of_beq h]
  · cases h
theorem repl_at (z : Int) (h : inRepl z = true) : KTD.datumAt z replT = some (.str ⟨#[replC z.toNat]⟩) := by
  have h' : z = 0 ∨ z = 13 ∨ (128 ≤ z ∧ z ≤ 159) := by simpa [inRepl] using h
  have : ∀ k : Nat, k < 32 → isStr1 (KTD.datumAt ((k : Int) + 128) replT) (replC (k + 128)) = true := by decide +kernel
  rcases h' with h | h | h
  · subst h; exact isStr1_is (by decide +kernel)
  · subst h; exact isStr1_is (by decide +kernel)
  · have q := isStr1_is (this (z.toNat - 128) (by omega))
    rw [show ((z.toNat - 128 : Nat) : Int) + 128 = z from by omega, show z.toNat - 128 + 128 = z.toNat from by omega] at q
    exact q
section
variable {prog : Program} {w : World} {A : Around} {E : Value → Shared → Prop} {s : Shared} {K : Frag} {h₀ : Heap} {L q : Addr} {m : Str → Option Value} {z : Int} {u : Tok}
theorem in_repl {Q : Value → Shared → Prop} (F : Fr h₀ L s.heap m) (X : K.In h₀) (hk : KTD.keyedLook (fun b => K.lookup b) q replT = true) (h : ∀ b, b = inRepl z → Q (.bool b) { s with toks := s.toks + 1 }) :
    wpAny (model prog w) A (compareOp .In (.int z u) (.ref q)) Q E s := KTD.in_keyed (kt_keyed_in X hk) F.keep (h _ (repl_in z))
theorem item_repl {value slice : Expr} {Q : Value → Shared → Prop} (F : Fr h₀ L s.heap m) (X : K.In h₀) (hk : KTD.keyedLook (fun b => K.lookup b) q replT = true) (hz : inRepl z = true) (h : ∀ t, Q (.str ⟨#[replC z.toNat]⟩ t) { s with toks := s.toks + 1 })
    (hs : subscripted slice false (.ref q) (.int z u) = operate [.ref q, .int z u] (getItem (.ref q) (.int z u)) := by with_unfolding_all rfl) (hg : ∀ r, letTemporaryGo value (.ref q) r = pure () := by intro _; with_unfolding_all rfl) :
    wpAny (model prog w) A (subscriptTail value slice (.ref q) (.int z u)) Q E s :=
  item_intTab ((kt_keyed_in X hk).keep F.keep prog w) (by rw [KTD.lookup_keyed]; exact repl_at z hz) (fun v hv => by obtain ⟨t, rfl⟩ := PyProof.V.Flat.str_inv hv; exact h t) hs hg
theorem in_numsK {Q : Value → Shared → Prop} {ns : List Int} {items : Array Value} (ht : IsTup s.heap q items) (hi : IntsAre items.toList ns) (h : ∀ b, b = KTD.inNums z ns → Q (.bool b) s) :
    wpAny (model prog w) A (compareOp .In (.int z u) (.ref q)) Q E s := in_tuple_ints ht hi (by rw [KTD.any_nums]; exact h _ rfl)
/-- ways that meet in one truth value -/
structure Meet (b0 : Bool) (s : Shared) (b : Bool) (s' : Shared) : Prop where
  val : b = b0
  st : ∃ k, s' = { s with toks := k }
theorem wp_meet {t : Sem Bool} {Q : Bool → Shared → Prop} (b0 : Bool) (hw : wpAny (model prog w) A t (Meet b0 s) E s) (hq : ∀ k, Q b0 { s with toks := k }) : wpAny (model prog w) A t Q E s :=
  wpAny_mono hw (fun b s' h => by obtain ⟨rfl, k, rfl⟩ := h; exact hq k) (fun _ _ h => h)
end
/-- the table of the kinds of tokens -/
def tokT : List (Str × PyData) := [(Str.ofString "Doctype", .int 0), (Str.ofString "Characters", .int 1), (Str.ofString "SpaceCharacters", .int 2), (Str.ofString "StartTag", .int 3), (Str.ofString "EndTag", .int 4), (Str.ofString "EmptyTag", .int 5), (Str.ofString "Comment", .int 6), (Str.ofString "ParseError", .int 7)]
theorem tokT_nodup : (tokT.map (·.1)).Nodup := by decide +kernel
section
variable {prog : Program} {w : World} {A : Around} {E : Value → Shared → Prop} {s : Shared} {K : Frag} {h₀ : Heap} {L q : Addr} {m : Str → Option Value} {u : Tok}
theorem item_tok {value slice : Expr} {Q : Value → Shared → Prop} {x : Str} (i : Int) (F : Fr h₀ L s.heap m) (X : K.In h₀) (e : KTD.tabLook KTD.flatLooks (fun b => K.lookup b) q tokT = true)
    (hh : KTD.hashesOf (fun b => K.lookup b) q = tokT.map fun p => (PySem.strKind prog w).hash p.1) (hl : lookup (.str x) (tokT.map fun p => (PyData.str p.1, p.2)) = some (.int i))
    (h : ∀ t, Q (.int i t) { s with toks := s.toks + 1 })
    (hs : subscripted slice false (.ref q) (.str x u) = operate [.ref q, .str x u] (getItem (.ref q) (.str x u)) := by with_unfolding_all rfl) (hg : ∀ r, letTemporaryGo value (.ref q) r = pure () := by intro _; with_unfolding_all rfl) :
    wpAny (model prog w) A (subscriptTail value slice (.ref q) (.str x u)) Q E s :=
  item_strTab ((let ⟨lo, kvs, ⟨o, es, ep, ho, r⟩, hf⟩ := kt_tab_in prog w X e tokT_nodup hh; ⟨lo, kvs, ⟨o, es, ep, F.keep _ _ ho, r⟩, hf⟩)) hl (fun v hv => by obtain ⟨t, rfl⟩ := PyProof.V.Flat.int_inv hv; exact h t) hs hg
end
theorem data_ints : ∀ {ns : List Int} {vs : List Value}, DataAre vs (ns.map PyData.int) → IntsAre vs ns
  | [], _, .nil => .nil
  | _ :: _, _, .cons h r => by obtain ⟨t, e⟩ := IsDatum.int h; subst e; exact .cons _ t (data_ints r)
theorem data_strs : ∀ {ns : List Str} {vs : List Value}, DataAre vs (ns.map PyData.str) → StrsAre vs ns
  | [], _, .nil => .nil
  | _ :: _, _, .cons h r => by obtain ⟨t, e⟩ := IsDatum.str h; subst e; exact .cons _ t (data_strs r)
/-- what a merged test leaves -/
structure MeetH (g : Heap) (L : Addr) (m : Str → Option Value) (news : List (Addr × Obj)) (b0 : Bool) (s : Shared) (b : Bool) (s' : Shared) : Prop where
  val : b = b0
  st : ∃ h' k, s' = { s with heap := h', toks := k } ∧ Fr g L h' m ∧ News g L h' news
section
variable {prog : Program} {w : World} {A : Around} {E : Value → Shared → Prop} {s : Shared} {g : Heap} {L : Addr} {m : Str → Option Value} {news : List (Addr × Obj)}
theorem wp_meetH {t : Sem Bool} {Q : Bool → Shared → Prop} (b0 : Bool) (_ : Fr g L s.heap m) (_ : News g L s.heap news) (hq : ∀ h' k, Fr g L h' m → News g L h' news → Q b0 { s with heap := h', toks := k }) (hw : wpAny (model prog w) A t (MeetH g L m news b0 s) E s) : wpAny (model prog w) A t Q E s :=
  wpAny_mono hw (fun b s' h => by obtain ⟨rfl, h', k, rfl, F', N'⟩ := h; exact hq h' k F' N') (fun _ _ h => h)
theorem meetH_end {b0 b : Bool} {h' : Heap} {k : Nat} (F : Fr g L h' m) (N : News g L h' news) (hb : b = b0) : MeetH g L m news b0 s b { s with heap := h', toks := k } := ⟨hb, h', k, rfl, F, N⟩
theorem tuple_ints {env : Env} {elts : List Expr} {k : Nat} {pos : Pos} {ns : List Int} {Q : Value → Shared → Prop} (F : Fr g L s.heap m) (N : News g L s.heap news) (hl : tupLitsOf elts = some (ns.map PyData.int)) (hsz : ns.length ≤ sizeLine)
    (h : ∀ h' a tk items, Fr g L h' m → News g L h' news → IsTup h' a items → IntsAre items.toList ns → Q (.ref a) { s with heap := h', toks := tk }) : wpAny (model prog w) A (eval (.Tuple elts k pos) env) Q E s := by
  refine Tuple_ (spliced_lits elts _ s _ hl fun vs tk hvs => ?_)
  have hi := data_ints hvs
  have hlen : vs.length ≤ sizeLine := by rw [hi.length]; exact hsz
  refine newTuple_N (s := { s with toks := tk }) F N (fun h' F' N' => ?_) hlen
  exact h h' _ tk vs.toArray F' (fun p hp => N' p (List.mem_cons_of_mem _ hp)) ⟨_, (N' _ (List.mem_cons_self ..)).1, rfl, _, rfl⟩ hi
theorem in_nums {q : Addr} {z : Int} {u : Tok} {Q : Value → Shared → Prop} {ns : List Int} {items : Array Value} (ht : IsTup s.heap q items) (hi : IntsAre items.toList ns) (h : Q (.bool (KTD.inNums z ns)) s) :
    wpAny (model prog w) A (compareOp .In (.int z u) (.ref q)) Q E s := in_tuple_ints ht hi (by rw [KTD.any_nums]; exact h)
end
theorem flt_a {z : Int} (h : 1 ≤ z ∧ z ≤ 8 ∨ 14 ≤ z ∧ z ≤ 31 ∨ 127 ≤ z ∧ z ≤ 159 ∨ 64976 ≤ z ∧ z ≤ 65007) : fltZ z = true := by
  unfold fltZ; rw [decide_eq_true h]; rfl
theorem flt_b {z : Int} (h : ¬ (1 ≤ z ∧ z ≤ 8 ∨ 14 ≤ z ∧ z ≤ 31 ∨ 127 ≤ z ∧ z ≤ 159 ∨ 64976 ≤ z ∧ z ≤ 65007)) : nonch z = fltZ z := by
  unfold fltZ; rw [decide_eq_false h]; rfl
theorem surr_t {z : Int} (h : 55296 ≤ z ∧ z ≤ 57343 ∨ 1114111 < z) : true = surr z := (decide_eq_true h).symm
theorem surr_f {z : Int} (h : ¬ (55296 ≤ z ∧ z ≤ 57343 ∨ 1114111 < z)) : false = surr z := (decide_eq_false h).symm
theorem flt_n {z : Int} (h : KTD.inNums z nonchL = true) : true = fltZ z := by
  unfold fltZ nonch; rw [h, Bool.or_true]
theorem flt_0 {z : Int} (h : ¬ (1 ≤ z ∧ z ≤ 8 ∨ 14 ≤ z ∧ z ≤ 31 ∨ 127 ≤ z ∧ z ≤ 159 ∨ 64976 ≤ z ∧ z ≤ 65007)) (hn : KTD.inNums z nonchL = false) : false = fltZ z := by
  unfold fltZ nonch; rw [decide_eq_false h, hn]; rfl
end Mine

end
section
open PySem PySem.W PyProof.Rows PySem.Calls PySem.Spec PySem.NumText
set_option maxRecDepth 100000
namespace Mine
def figV (c : Nat) : Nat := if 48 ≤ c ∧ c ≤ 57 then c - 48 else if 97 ≤ c ∧ c ≤ 122 then c - 87 else c - 55
def numV (b : Nat) (ds : List Nat) : Nat := ds.foldl (fun acc c => acc * b + figV c) 0
def baseOf (hex : Bool) : Nat := if hex then 16 else 10
theorem alD_cases {hex : Bool} {c : Nat} (h : alD hex c = true) : (48 ≤ c ∧ c ≤ 57) ∨ (hex = true ∧ ((65 ≤ c ∧ c ≤ 70) ∨ (97 ≤ c ∧ c ≤ 102))) := by
  simp only [alD, Bool.or_eq_true, Bool.and_eq_true, decide_eq_true_iff] at h
  exact h
theorem digit_al {hex : Bool} {c : Nat} (h : alD hex c = true) : digit? c = some (figV c) ∧ figV c < baseOf hex := by
  unfold digit? figV baseOf
  rcases alD_cases h with h | ⟨rfl, h | h⟩
  · simp [h]; split <;> omega
  · have h1 : ¬ (c ≤ 57) := by omega
    have h2 : ¬ (97 ≤ c) := by omega
    have h3 : c ≤ 90 := by omega
    simp [h1, h2, h.1, h3]; omega
  · have h1 : ¬ (c ≤ 57) := by omega
    have h2 : c ≤ 122 := by omega
    simp [h1, h.1, h2]; omega
theorem step_al {hex : Bool} {c : Nat} (h : alD hex c = true) (p : Array Nat × Bool) : NumText.step (baseOf hex) p c = some (p.1.push (figV c), true) := by
  obtain ⟨h1, h2⟩ := digit_al h
  have h3 : c ≠ 95 := by rcases alD_cases h with h | ⟨_, h | h⟩ <;> omega
  unfold NumText.step
  rw [if_neg (by simpa using h3), h1]
  simp [h2]
theorem fold_al {hex : Bool} : ∀ (ds : List Nat) (p : Array Nat × Bool), (∀ d ∈ ds, alD hex d = true) → ds.foldlM (NumText.step (baseOf hex)) p = some (p.1 ++ (ds.map figV).toArray, p.2 || !ds.isEmpty)
  | [], p, _ => by simp
  | c :: r, p, h => by
    rw [List.foldlM_cons, step_al (h c (List.mem_cons_self ..))]
    show r.foldlM _ _ = _
    rw [fold_al r _ (fun d hd => h d (List.mem_cons_of_mem _ hd))]
    simp
theorem digits_al {hex : Bool} {ds : List Nat} (h : ∀ d ∈ ds, alD hex d = true) (hne : ds ≠ []) : digits? (baseOf hex) ds = some (ds.map figV).toArray := by
  unfold digits?
  rw [fold_al ds _ h]
  cases ds with
  | nil => exact absurd rfl hne
  | cons c r => simp
theorem blank_al {hex : Bool} {c : Nat} (h : alD hex c = true) : blank c = false := by
  unfold blank
  rcases alD_cases h with h | ⟨_, h | h⟩ <;> (simp; omega)
theorem drop_al {hex : Bool} : ∀ {ds : List Nat}, (∀ d ∈ ds, alD hex d = true) → ds.dropWhile blank = ds
  | [], _ => rfl
  | c :: r, h => by rw [List.dropWhile_cons, blank_al (h c (List.mem_cons_self ..))]; rfl
theorem sign_al {hex : Bool} {ds : List Nat} (h : ∀ d ∈ ds, alD hex d = true) : sign ds = (false, ds) := by
  unfold sign
  split
  · have := alD_cases (h 45 (List.mem_cons_self ..)); omega
  · have := alD_cases (h 43 (List.mem_cons_self ..)); omega
  · rfl
theorem based_al {hex : Bool} {ds : List Nat} (h : ∀ d ∈ ds, alD hex d = true) : based (baseOf hex) ds = (baseOf hex, false, ds) := by
  unfold based
  have hb : (baseOf hex == 0) = false := by cases hex <;> rfl
  split
  · rename_i p hp
    have hne : (baseOf hex == p) = false := by
      unfold prefix? at hp
      split at hp
      · rename_i c r
        have hc := alD_cases (h c (List.mem_cons_of_mem _ (List.mem_cons_self ..)))
        have e1 : (c == 120 || c == 88) = false := by simp; omega
        have e2 : (c == 111 || c == 79) = false := by simp; omega
        rw [e1, e2] at hp
        simp only [Bool.false_eq_true, if_false] at hp
        split at hp
        · cases hp; cases hex <;> rfl
        · cases hp
      · cases hp
    rw [hb, hne]; rfl
  · rw [hb]; rfl
theorem foldl_figs (b : Nat) : ∀ (ds : List Nat) (a : Nat), (ds.map figV).foldl (fun acc d => acc * b + d) a = ds.foldl (fun acc c => acc * b + figV c) a
  | [], _ => rfl
  | c :: r, a => foldl_figs b r _
theorem judge_al {hex : Bool} {ds : List Nat} (hl : ds.length ≤ 640) : judge 0 false (baseOf hex) false (some (ds.map figV).toArray) = (int_private% "Numeral.value") ((numV (baseOf hex) ds : Nat) : Int) := by
  unfold judge
  have h1 : (![2, 4, 8, 16, 32].contains (baseOf hex) && (0 : Nat) != 0 && decide ((ds.map figV).toArray.size > 0)) = false := by simp
  have h2 : (baseOf hex == 10 && decide ((ds.map figV).toArray.size > 6000)) = false := by simp; omega
  simp only [h1, h2, Bool.false_eq_true, if_false, Bool.false_and]
  rw [show (ds.map figV).toArray.foldl (fun acc d => acc * baseOf hex + d) 0 = numV (baseOf hex) ds from by
    rw [List.foldl_toArray]; exact foldl_figs (baseOf hex) ds 0]
theorem read_al {hex : Bool} {ds : List Nat} (h : ∀ d ∈ ds, alD hex d = true) (hne : ds ≠ []) (hl : ds.length ≤ 640) :
    (int_private% "readNumeral") 0 (baseOf hex) ds = (int_private% "Numeral.value") ((numV (baseOf hex) ds : Nat) : Int) := by
  rw [readNumeral_eq, drop_al h, sign_al h]
  dsimp only
  rw [based_al h]
  dsimp only
  rw [drop_al (hex := hex) (fun d hd => h d (List.mem_reverse.mp hd)), List.reverse_reverse, digits_al h hne, judge_al hl]
theorem wp_textB {M : Model} {A : Around} {E : Value → Shared → Prop} {s : Shared} {Q : Value → Shared → Prop} {v : Value} {text : List Nat} {n : Int} {b : Nat}
    (hs : (text.takeWhile (· != 0)).length ≤ 640) (hr : (int_private% "readNumeral") 0 b (text.takeWhile (· != 0)) = (int_private% "Numeral.value") n)
    (ha : ((text.takeWhile (· != 0)).length == text.length) = true) (h : Q (.int n s.toks) { s with toks := s.toks + 1 }) :
    wpAny M A ((int_private% "intFromText") v text b) Q E s := by
  obtain ⟨hp, g, d, tk, os⟩ := s
  repeat (any_goals (first
    | assumption
    | (with_reducible refine wpAny_ite_true (decide_eq_true hs) ?_)
    | (with_reducible refine wpAny_ite_true (decide_eq_true ha) ?_)
    | wp_step))
  all_goals (try rw [hr])
  all_goals (try dsimp only)
  repeat (any_goals (first
    | assumption
    | (with_reducible refine wpAny_ite_true (decide_eq_true hs) ?_)
    | (with_reducible refine wpAny_ite_true (decide_eq_true ha) ?_)
    | wp_step))
theorem take_al {hex : Bool} : ∀ {ds : List Nat}, (∀ d ∈ ds, alD hex d = true) → ds.takeWhile (· != 0) = ds
  | [], _ => rfl
  | c :: r, h => by
    have hc : (c != 0) = true := by have := alD_cases (h c (List.mem_cons_self ..)); simp; omega
    rw [List.takeWhile_cons, hc]
    show c :: r.takeWhile _ = _
    rw [take_al (fun d hd => h d (List.mem_cons_of_mem _ hd))]
theorem all_al {hex : Bool} {ds : List Nat} (h : ∀ d ∈ ds, alD hex d = true) : (ds.toArray.all (· < 128)) = true := by
  rw [List.all_toArray, List.all_eq_true]
  intro d hd
  have := alD_cases (h d hd)
  simp; omega
structure HidB (hex : Bool) (ds : List Nat) : Prop where
  h : ∀ d ∈ ds, alD hex d = true
  ne : ds ≠ []
  len : ds.length ≤ 640
theorem wp_textH {hex : Bool} {ds : List Nat} (k : HidB hex ds) {M : Model} {A : Around} {E : Value → Shared → Prop} {s : Shared} {Q : Value → Shared → Prop} {v : Value} {b : Nat} {text : List Nat} (ht : text = ds) (hb : b = baseOf hex)
    (h : Q (.int (numV (baseOf hex) ds : Nat) s.toks) { s with toks := s.toks + 1 }) : wpAny M A ((int_private% "intFromText") v text b) Q E s := by
  rw [ht]; subst hb
  refine wp_textB (n := (numV (baseOf hex) ds : Nat)) ?_ ?_ ?_ h
  · rw [take_al k.h]; exact k.len
  · rw [take_al k.h]; exact read_al k.h k.ne k.len
  · rw [take_al k.h]; exact beq_self_eq_true _
set_option maxHeartbeats 4000000 in
theorem gives_textB {hex : Bool} {ds : List Nat} {u v : Tok} {b : Int} (k : HidB hex ds) (hb : b = (baseOf hex : Nat)) :
    Gives (Builtin.«int.__new__» ⟨[.type "int", .str ⟨ds.toArray⟩ u, .int b v], []⟩) (.int (numV (baseOf hex) ds : Nat)) :=
  .of_wp fun M A E s Q h => by
    obtain ⟨hp, g, d, tk, os⟩ := s
    have f1 := F.conv_sub_int
    have f2 := F.madeHere_int
    have f6 : typeOf (.str ⟨ds.toArray⟩ u) = pure (.type "str") := rfl
    have hall := all_al k.h
    have hbt : b.toNat = baseOf hex := by rw [hb]; rfl
    have hbase : decide (((b != 0 && decide (b < 2)) || decide (b > 36)) = true) = false := by subst hb; cases hex <;> rfl
    have hall' : decide ((ds.toArray.all (· < 128)) = true) = true := decide_eq_true hall
    repeat (any_goals (first
      | assumption
      | ((with_reducible show wpAny _ _ ((int_private% "intFromText") _ _ _) _ _ _); refine wp_textH k (by rw [if_pos hall]) hbt ?_)
      | (with_reducible refine wpAny_ite_true hall' ?_)
      | (with_reducible refine wpAny_ite_false hbase ?_)
      | wp_step))
    all_goals exact ⟨_, rfl, h⟩
theorem typeCall_int_2 (a b : Value) : checkTypeCall "int" ⟨[a, b], []⟩ = pure () := by kernel_rfl
theorem newCall_int_2 (a b : Value) : checkBuiltinCall "int.__new__" ⟨[.type "int", a, b], []⟩ = pure () := by kernel_rfl
/-- the text of the list's one-sign texts, glued -/
theorem toList_app (x y : Str) : (x ++ y).cps.toList = x.cps.toList ++ y.cps.toList := by
  show (x.cps ++ y.cps).toList = _
  rw [Array.toList_append]
theorem join_flat : ∀ ys : List Str, (Txt.join (Str.ofString "") ys).cps.toList = (ys.map (·.cps.toList)).flatten := by
  intro ys
  show (Builtin.Str.glued _ ys).cps.toList = _
  rw [StrLaws.glued_eq_join]
  have e0 : (Str.ofString "").cps.toList = [] := by decide +kernel
  induction ys with
  | nil => rfl
  | cons x r ih =>
    cases r with
    | nil => simp [Str.join]
    | cons y r =>
      rw [Str.join, toList_app, toList_app, ih, e0]
      · simp
      · intro h; cases h
section
variable {prog : Program} {w : World} {A : Around} {E : Value → Shared → Prop} {s : Shared} {Q : Value → Shared → Prop}
theorem call_int_B {hex : Bool} {ds : List Nat} {u v : Tok} {b : Int} (k : HidB hex ds) (hb : b = (baseOf hex : Nat)) (h : Q (.int (numV (baseOf hex) ds : Nat) s.toks) { s with toks := s.toks + 1 }) :
    wpAny (model prog w) A (call (.type "int") [.str ⟨ds.toArray⟩ u, .int b v]) Q E s :=
  callType_new F.called_int F.newNe_int (typeCall_int_2 _ _) (newCall_int_2 _ _) (fun obj => F.args_object_init_3 obj _ _) F.entry_int_new (gives_textB k hb).meets (show (Made.int (numV (baseOf hex) ds : Nat)).post _ s from ⟨rfl, h⟩)
theorem call_int_Z {hex : Bool} {ds : List Nat} {u v : Tok} {b z : Int} (k : HidB hex ds) (hb : b = (baseOf hex : Nat)) (hz : ((numV (baseOf hex) ds : Nat) : Int) = z) (h : Q (.int z s.toks) { s with toks := s.toks + 1 }) :
    wpAny (model prog w) A (call (.type "int") [.str ⟨ds.toArray⟩ u, .int b v]) Q E s := call_int_B k hb (by rw [hz]; exact h)
theorem sum_ones (f : Nat → Str) (hf : ∀ d, (f d).length = 1) : ∀ ds : List Nat, ((ds.map f).map (·.length)).sum = ds.length
  | [] => rfl
  | c :: r => by simp only [List.map_cons, List.sum_cons, hf, sum_ones f hf r, List.length_cons]; omega
theorem join_chs {g : Nat → Str} (hg : ∀ d, g d = ⟨#[d]⟩) {D : Addr} {vs : List Value} {ds : List Nat} {t : Tok} (hl : s.heap.IsList D vs.toArray) (hi : StrsAre vs (ds.map g)) (hn : ds.length ≤ 100000)
    (h : ∀ t' k, Q (.str ⟨ds.toArray⟩ t') { s with toks := k }) : wpAny (model prog w) A (call (.builtin "str.join") [.str (Str.ofString "") t, .ref D]) Q E s := by
  refine join_listW hl hi (by decide) ?_ (fun t' k => ?_)
  · rw [sum_ones g (fun d => by rw [hg]; rfl), List.length_map]; omega
  · have e : Txt.join (Str.ofString "") (ds.map g) = ⟨ds.toArray⟩ := by
      refine Str.ext' (Array.toList_inj.mp ?_)
      rw [join_flat, List.map_map]
      have : ∀ ds : List Nat, (ds.map ((·.cps.toList) ∘ g)).flatten = ds := by
        intro ds
        induction ds with
        | nil => rfl
        | cons c r ih => rw [List.map_cons, List.flatten_cons, ih, Function.comp, hg]; rfl
      exact this ds
    rw [e]; exact h t' k
end
end Mine

end
section
open PySem PySem.W PyProof.Rows PySem.Calls PySem.Spec PyProof.V
namespace Mine
/-- the entries of the stream's dict -/
abbrev sdict (P : Params) (k0 k1 k2 k3 k4 k5 k6 k7 k8 k9 : Tok) (rce nl ds : Addr) (chunk : Str) (tc : Tok) (size : Int) (ts : Tok) (off : Int) (to : Tok) (er : Addr) (pl : Int) (tl : Tok) (pc : Int) (tp : Tok) (buf : Value) : List DictEntry :=
  [⟨PyData.keyHash P "reportCharacterErrors", .str "reportCharacterErrors" k0, .ref rce⟩,
   ⟨PyData.keyHash P "newLines", .str "newLines" k1, .ref nl⟩,
   ⟨PyData.keyHash P "dataStream", .str "dataStream" k2, .ref ds⟩,
   ⟨PyData.keyHash P "chunk", .str "chunk" k3, .str chunk tc⟩,
   ⟨PyData.keyHash P "chunkSize", .str "chunkSize" k4, .int size ts⟩,
   ⟨PyData.keyHash P "chunkOffset", .str "chunkOffset" k5, .int off to⟩,
   ⟨PyData.keyHash P "errors", .str "errors" k6, .ref er⟩,
   ⟨PyData.keyHash P "prevNumLines", .str "prevNumLines" k7, .int pl tl⟩,
   ⟨PyData.keyHash P "prevNumCols", .str "prevNumCols" k8, .int pc tp⟩,
   ⟨PyData.keyHash P "_bufferedCharacter", .str "_bufferedCharacter" k9, buf⟩]
/-- the entries of the text's dict -/
abbrev tdict (P : Params) (j0 j1 : Tok) (src : Str) (tsr : Tok) (place : Int) (tpl : Tok) : List DictEntry :=
  [⟨PyData.keyHash P "text", .str "text" j0, .str src tsr⟩, ⟨PyData.keyHash P "place", .str "place" j1, .int place tpl⟩]
/-- the stream's state -/
structure St where
  chunk : Str
  tc : Tok
  size : Int
  ts : Tok
  off : Int
  to : Tok
  pl : Int
  tl : Tok
  pc : Int
  tp : Tok
  buf : Value
  pend : List Nat
  place : Int
  tpl : Tok
  es : List Value
  n : Nat
def BufIs (buf : Value) (p : List Nat) : Prop := (buf = .none ∧ p = []) ∨ (∃ t, buf = .str ⟨#[13]⟩ t ∧ p = [13])
structure St.ok (src : Str) (x : St) : Prop where
  csize : x.size = x.chunk.length
  off0 : 0 ≤ x.off
  off1 : x.off ≤ x.size
  clen : x.chunk.length ≤ 10000
  place0 : 0 ≤ x.place
  place1 : x.place ≤ src.length
  slen : src.length ≤ 10000
  bufis : BufIs x.buf x.pend
  bud : x.es.length + (src.length - x.place.toNat) + x.pend.length ≤ 50000
  sur : ∀ c ∈ src.cps.toList, c < 55296
  pendat : x.pend ≠ [] → x.place = src.length
/-- what is still to be read, line ends mended -/
def St.rem (src : Str) (x : St) : List Nat := x.chunk.cps.toList.drop x.off.toNat ++ mendL (x.pend ++ src.cps.toList.drop x.place.toNat)
/-- the entries of the tokenizer's dict -/
abbrev kdict (P : Params) (m0 m1 m2 m3 m4 m5 m6 m7 : Tok) (st : Addr) (v1 v2 v3 v4 v5 v6 : Value) (tq : Addr) : List DictEntry :=
  [⟨PyData.keyHash P "stream", .str "stream" m0, .ref st⟩,
   ⟨PyData.keyHash P "parser", .str "parser" m1, v1⟩,
   ⟨PyData.keyHash P "escapeFlag", .str "escapeFlag" m2, v2⟩,
   ⟨PyData.keyHash P "lastFourChars", .str "lastFourChars" m3, v3⟩,
   ⟨PyData.keyHash P "state", .str "state" m4, v4⟩,
   ⟨PyData.keyHash P "escape", .str "escape" m5, v5⟩,
   ⟨PyData.keyHash P "currentToken", .str "currentToken" m6, v6⟩,
   ⟨PyData.keyHash P "tokenQueue", .str "tokenQueue" m7, .ref tq⟩]
def chS (c : Nat) : Str := ⟨#[c]⟩
/-- a loop's state: the stream, the signs taken, the sign at hand -/
structure Cn where
  x : St
  vs : List Value
  n : Nat
  cv : Value
/-- the sign at hand, as it was read -/
def CvIs (src : Str) (x : St) (cv : Value) (r : List Nat) : Prop :=
  (cv = .none ∧ r = [] ∧ x.rem src = []) ∨ ∃ (c : Nat) (t : Tok), cv = .str ⟨#[c]⟩ t ∧ r = c :: x.rem src ∧ 1 ≤ x.off ∧ x.chunk.cps[(x.off - 1).toNat]? = some c
structure Cn.ok (src : Str) (al : Nat → Bool) (L : List Nat) (c : Cn) : Prop where
  sok : c.x.ok src
  ex : ∃ ds r, StrsAre c.vs (ds.map chS) ∧ (∀ d ∈ ds, al d = true) ∧ L = ds ++ r ∧ CvIs src c.x c.cv r
def posL (chunk : Str) (o pl : Int) : Int := pl + countTo chunk (Str.ofString "\n") 0 o
def posC (chunk : Str) (o pc : Int) : Int := if rfindTo chunk (Str.ofString "\n") 0 o = -1 then pc + o else o - (rfindTo chunk (Str.ofString "\n") 0 o + 1)
abbrev kdict7 (P : Params) (m0 m1 m2 m3 m4 m5 m6 : Tok) (st : Addr) (v1 v2 v3 v4 v5 v6 : Value) : List DictEntry :=
  [⟨PyData.keyHash P "stream", .str "stream" m0, .ref st⟩,
   ⟨PyData.keyHash P "parser", .str "parser" m1, v1⟩,
   ⟨PyData.keyHash P "escapeFlag", .str "escapeFlag" m2, v2⟩,
   ⟨PyData.keyHash P "lastFourChars", .str "lastFourChars" m3, v3⟩,
   ⟨PyData.keyHash P "state", .str "state" m4, v4⟩,
   ⟨PyData.keyHash P "escape", .str "escape" m5, v5⟩,
   ⟨PyData.keyHash P "currentToken", .str "currentToken" m6, v6⟩]
def TinitP (w : World) (src : Str) (tsr : Tok) (za zd : Addr) (d : Obj) (fr : List (Addr × Obj)) : Prop :=
  ∃ (st sd : Addr) (k0 k1 k2 k3 k4 k5 k6 k7 k8 k9 : Tok) (rce nl ds er dd : Addr) (j0 j1 : Tok) (x : St) (m0 m1 m2 m3 m4 m5 m6 : Tok) (v1 v2 v3 v4 v5 v6 : Value),
    (@LT.lt Nat _ sd st ∧ @LT.lt Nat _ st rce ∧ @LT.lt Nat _ rce dd ∧ @LT.lt Nat _ dd ds ∧ @LT.lt Nat _ ds er) ∧ x.ok src ∧ x.rem src = mendL src.cps.toList ∧
    d = W.dictOf (kdict7 w.params m0 m1 m2 m3 m4 m5 m6 st v1 v2 v3 v4 v5 v6) 7 ∧ fr = [(st, instObj 166 sd), (sd, dictOf (sdict w.params k0 k1 k2 k3 k4 k5 k6 k7 k8 k9 rce nl ds x.chunk x.tc x.size x.ts x.off x.to er x.pl x.tl x.pc x.tp x.buf) 10), (ds, instObj 73 dd), (dd, dictOf (tdict w.params j0 j1 src tsr x.place x.tpl) 2), (rce, methodObj (.ref 148) (.ref st)), (er, W.listOf x.es.toArray x.n)]

end Mine

end
section
open PySem PySem.W PyProof.Rows PySem.Calls PySem.Spec PyProof.V
namespace Mine
theorem Take.sub {l c rest : Led} (t : Take l c rest) : ∀ p ∈ l, p ∈ c := by
  induction t with
  | nil => intro p hp; cases hp
  | all q => intro p hp; rw [q.eq]; exact List.mem_append_right _ hp
  | cons d _ ih =>
    intro p hp
    refine d.mem p ?_
    cases hp with
    | head => exact .inl rfl
    | tail _ hp => exact .inr (ih p hp)
theorem CtrC.mono {prog : Program} {w : World} {K : Frag} {TP : Heap → Prop} {D U : Nat} {f : Value} {args : Args} {l : Led} {Post Post' : CPost}
    (hp : ∀ v fr l, Post v fr l → Post' v fr l) (C : CtrC prog w K TP D U f args l Post) : CtrC prog w K TP D U f args l Post' := by
  intro A A₀ base h₀ env outer L m s R rest B F X N T hA hf hke hh hd hu hne hQ
  exact C A A₀ base h₀ env outer L m s R rest B F X N T hA hf hke hh hd hu hne (fun v fr l' h' tk' h => hQ v fr l' h' tk' (hp _ _ _ h))
/-- line ends mended, by one pass; the flag: the sign before was a carriage return -/
def mendF : Bool → List Nat → List Nat
  | _, [] => []
  | f, c :: r => if c = 10 ∧ f = true then mendF false r else if c = 13 then 10 :: mendF true r else c :: mendF false r
theorem mendF_flag {r : List Nat} (h : ∀ t, r ≠ 10 :: t) : mendF true r = mendF false r := by
  cases r with
  | nil => rfl
  | cons c t =>
    have hc : c ≠ 10 := fun e => h t (by rw [e])
    simp [mendF, hc]
theorem mendL_eq : ∀ (n : Nat) (l : List Nat), l.length ≤ n → mendL l = mendF false l
  | _, [], _ => rfl
  | 0, c :: r, h => by simp at h
  | n + 1, [c], _ => by
    by_cases hc : c = 13
    · subst hc; decide
    · have hc' : ¬ 13 = c := fun e => hc e.symm
      simp [mendL, repS, mendF, hc, hc', List.isPrefixOf]
  | n + 1, c :: d :: r, h => by
    have h1 : (d :: r).length ≤ n := by simp at h ⊢; omega
    have h2 : r.length ≤ n := by simp at h ⊢; omega
    have i1 := mendL_eq n (d :: r) h1
    have i2 := mendL_eq n r h2
    unfold mendL at i1 i2 ⊢
    by_cases hc : c = 13
    · subst hc
      by_cases hd : d = 10
      · subst hd
        have e : repS [13, 10] [10] 0 (13 :: 10 :: r) = 10 :: repS [13, 10] [10] 0 r := by simp [repS, List.isPrefixOf]
        rw [e]
        have e2 : ∀ t, repS [13] [10] 0 (10 :: t) = 10 :: repS [13] [10] 0 t := fun t => by simp [repS, List.isPrefixOf]
        rw [e2, i2]
        simp [mendF]
      · have hd' : ¬ 10 = d := fun e => hd e.symm
        have e : repS [13, 10] [10] 0 (13 :: d :: r) = 13 :: repS [13, 10] [10] 0 (d :: r) := by rw [repS, if_neg (by simp [List.isPrefixOf, hd'])]
        have e2 : ∀ t, repS [13] [10] 0 (13 :: t) = 10 :: repS [13] [10] 0 t := fun t => by simp [repS, List.isPrefixOf]
        rw [e, e2, i1]
        have e3 : mendF false (13 :: d :: r) = 10 :: mendF true (d :: r) := by simp [mendF]
        rw [e3, mendF_flag (fun t e => hd (List.cons.inj e).1)]
    · have hc' : ¬ 13 = c := fun e => hc e.symm
      have e : repS [13, 10] [10] 0 (c :: d :: r) = c :: repS [13, 10] [10] 0 (d :: r) := by rw [repS, if_neg (by simp [List.isPrefixOf, hc'])]
      have e2 : ∀ t, repS [13] [10] 0 (c :: t) = c :: repS [13] [10] 0 t := fun t => by rw [repS, if_neg (by simp [List.isPrefixOf, hc'])]
      have e3 : mendF false (c :: d :: r) = c :: mendF false (d :: r) := by simp [mendF, hc]
      rw [e, e2, i1, e3]
theorem mendL_F (l : List Nat) : mendL l = mendF false l := mendL_eq l.length l (Nat.le_refl _)
theorem mendF_cr : ∀ (y : List Nat) (f : Bool), mendF f (y ++ [13]) = mendF f y ++ [10]
  | [], f => by cases f <;> rfl
  | c :: r, f => by
    have i := mendF_cr r
    simp only [List.cons_append, mendF]
    split
    · exact i _
    · split
      · rw [i]; rfl
      · rw [i]; rfl
theorem mendF_ne {l : List Nat} (h : l ≠ []) : mendF false l ≠ [] := by
  cases l with
  | nil => exact absurd rfl h
  | cons c r => simp only [mendF]; split; (rename_i q; simp at q); split <;> simp
/-- a run without line ends before a text -/
theorem mendL_plain : ∀ (p t : List Nat), (∀ c ∈ p, c ≠ 13) → mendF false (p ++ t) = p ++ mendF false t
  | [], t, _ => rfl
  | c :: r, t, h => by
    have hc : c ≠ 13 := h c (List.mem_cons_self ..)
    have i := mendL_plain r t (fun d hd => h d (List.mem_cons_of_mem _ hd))
    simp only [List.cons_append, mendF]
    rw [if_neg (by simp), if_neg hc, i]
theorem len_toList (x : Str) : x.cps.toList.length = x.length := by simp [Str.length]
/-- what readChunk leaves -/
theorem rd_fin {src x y : Str} {p0 pend' : List Nat} {place p' off : Int} {buf' : Value} {es es' : List Value}
    (h0 : 0 ≤ place) (hs : src.length ≤ 10000) (hsu : ∀ c ∈ src.cps.toList, c < 55296)
    (hes : es.length + (src.length - place.toNat) + p0.length ≤ 50000)
    (hx : x.cps.toList = p0 ++ src.cps.toList.drop place.toNat) (hxl : x.length ≤ 10000) (hp' : p' = src.length)
    (hy : x.cps.toList = y.cps.toList ++ pend') (hb : BufIs buf' pend') (hl : es'.length ≤ es.length + y.length) (hoff : off = 0) : ∀ tc ts to pl tl pc tp tpl n,
    St.ok src ⟨mendS y, tc, (mendS y).length, ts, off, to, pl, tl, pc, tp, buf', pend', p', tpl, es', n⟩ ∧
    St.rem src ⟨mendS y, tc, (mendS y).length, ts, off, to, pl, tl, pc, tp, buf', pend', p', tpl, es', n⟩ = mendL (p0 ++ src.cps.toList.drop place.toNat) ∧
    (1 ≤ y.length → 1 ≤ ((mendS y).length : Int)) := by
  intro tc ts to pl tl pc tp tpl n
  subst hoff
  have hxx : x.length = p0.length + (src.length - place.toNat) := by
    rw [← len_toList, hx, List.length_append, List.length_drop, len_toList]
  have hyy : x.length = y.length + pend'.length := by rw [← len_toList, hy, List.length_append, len_toList]
  have hm : (mendS y).length ≤ y.length := Nat.le_trans (replace_len (by decide +kernel) (by decide +kernel)) (replace_len (by decide +kernel) (by decide +kernel))
  have hd : src.cps.toList.drop (p'.toNat) = [] := List.drop_of_length_le (by rw [len_toList]; omega)
  refine ⟨⟨rfl, Int.le_refl _, by dsimp only; omega, by dsimp only; omega, by dsimp only; omega, by dsimp only; omega, hs, hb, by dsimp only; omega, hsu, fun _ => hp'⟩, ?_, ?_⟩
  · unfold St.rem
    dsimp only
    rw [hd, List.append_nil, ← hx, hy, mendS_toList, mendL_F, mendL_F, mendL_F]
    show _ ++ _ = _
    rw [show (0 : Int).toNat = 0 from rfl, List.drop_zero]
    rcases hb with ⟨_, h⟩ | ⟨_, _, h⟩
    · subst h; simp [mendF]
    · subst h
      rw [mendF_cr]; rfl
  · intro h1
    have : y.cps.toList ≠ [] := fun e => by have := len_toList y; rw [e] at this; simp at this; omega
    have h2 := mendF_ne this
    rw [← mendL_F, ← mendS_toList] at h2
    have h3 : (mendS y).length ≠ 0 := fun e => h2 (List.length_eq_zero_iff.mp (by rw [len_toList]; exact e))
    omega
/-- nothing more to read -/
theorem rd_none {src x : Str} {place p' size off : Int} {chunk : Str} {es : List Value}
    (h0 : 0 ≤ place) (hs : src.length ≤ 10000) (hsu : ∀ c ∈ src.cps.toList, c < 55296)
    (hes : es.length + (src.length - place.toNat) + ([] : List Nat).length ≤ 50000)
    (hx : x.cps.toList = src.cps.toList.drop place.toNat) (hp' : p' = src.length) (hn : x.length = 0) (hoff : off = 0) (hsize : size = 0) (hch : chunk = Str.ofString "") : ∀ tc ts to pl tl pc tp tpl n,
    St.ok src ⟨chunk, tc, size, ts, off, to, pl, tl, pc, tp, .none, [], p', tpl, es, n⟩ ∧
    St.rem src ⟨chunk, tc, size, ts, off, to, pl, tl, pc, tp, .none, [], p', tpl, es, n⟩ = [] ∧ mendL (src.cps.toList.drop place.toNat) = [] := by
  intro tc ts to pl tl pc tp tpl n
  subst hoff; subst hsize; subst hch
  have hl : (Str.ofString "").length = 0 := by decide +kernel
  have hc : (Str.ofString "").cps.toList = [] := by decide +kernel
  have hd : src.cps.toList.drop (p'.toNat) = [] := List.drop_of_length_le (by rw [len_toList]; omega)
  have hx0 : x.cps.toList = [] := List.length_eq_zero_iff.mp (by rw [len_toList]; exact hn)
  refine ⟨⟨by dsimp only; rw [hl]; rfl, Int.le_refl _, Int.le_refl _, by dsimp only; omega, by dsimp only; omega, by dsimp only; omega, hs, .inl ⟨rfl, rfl⟩, ?_, hsu, fun h => absurd rfl h⟩, ?_, ?_⟩
  · have hxx : x.length = src.length - place.toNat := by
      rw [← len_toList, hx, List.length_drop, len_toList]
    dsimp only; omega
  · unfold St.rem; dsimp only; rw [hd, hc]; rfl
  · rw [← hx, hx0]; rfl
theorem rd_fin0 {src x y : Str} {pend' : List Nat} {place p' : Int} {buf' : Value} {es es' : List Value}
    (h0 : 0 ≤ place) (hs : src.length ≤ 10000) (hsu : ∀ c ∈ src.cps.toList, c < 55296)
    (hes : es.length + (src.length - place.toNat) + ([] : List Nat).length ≤ 50000)
    (hx : x.cps.toList = src.cps.toList.drop place.toNat) (hxl : x.length ≤ 10000) (hp' : p' = src.length)
    (hy : x.cps.toList = y.cps.toList ++ pend') (hb : BufIs buf' pend') (hl : es'.length ≤ es.length + y.length) (hy1 : 1 ≤ y.length) : ∀ tc ts to pl tl pc tp tpl n,
    St.ok src ⟨mendS y, tc, (mendS y).length, ts, 0, to, pl, tl, pc, tp, buf', pend', p', tpl, es', n⟩ ∧
    St.rem src ⟨mendS y, tc, (mendS y).length, ts, 0, to, pl, tl, pc, tp, buf', pend', p', tpl, es', n⟩ = mendL (src.cps.toList.drop place.toNat) ∧
    1 ≤ ((mendS y).length : Int) := fun tc ts to pl tl pc tp tpl n =>
  have h := rd_fin (off := 0) h0 hs hsu hes (hx.trans (List.nil_append _).symm) hxl hp' hy hb hl rfl tc ts to pl tl pc tp tpl n
  ⟨h.1, h.2.1, h.2.2 hy1⟩
theorem c13 {c d : Nat} {l : List Nat} (h : (c : Int) = 13) (h1 : l.getLast? = some c) (h2 : l.getLast? = some d) : d = 13 := by
  rw [h1] at h2; cases h2; omega
theorem cut_len {x y : Str} {c : Nat} (hy : x.cps.toList = y.cps.toList ++ [c]) (h : 1 < (x.length : Int)) : 1 ≤ y.length := by
  have := congrArg List.length hy
  rw [List.length_append, len_toList, len_toList] at this
  simp only [List.length_cons, List.length_nil] at this
  omega
theorem last_cut {x : Str} {j : Int} {c : Nat} (hj : j = -1) (hc : x.cps.toList.getLast? = some c) : x.cps.toList = (Txt.slice x none (some j)).cps.toList ++ [c] := by
  rw [slice_last hj]
  show _ = x.cps.toList.dropLast ++ [c]
  have hne : x.cps.toList ≠ [] := fun e => by rw [e] at hc; cases hc
  have := List.dropLast_concat_getLast hne
  rw [List.getLast?_eq_some_getLast hne] at hc
  rw [← Option.some.inj hc]; exact this.symm
/-- the stream's state: what a reader of one sign needs -/
theorem St.ok.at {src : Str} {x : St} (ok : x.ok src) (h : x.off < x.size) : ∃ c, x.chunk.cps[x.off.toNat]? = some c := by
  have h1 := ok.off0; have h2 := ok.csize
  have h3 : x.off.toNat < x.chunk.cps.size := by simp only [Str.length] at h2; omega
  exact ⟨x.chunk.cps[x.off.toNat], Array.getElem?_eq_getElem h3⟩
theorem St.ok.small {src : Str} {x : St} (ok : x.ok src) : x.off < 9223372036854775808 := by
  have h1 := ok.off1; have h2 := ok.csize; have h3 := ok.clen; omega
theorem getq {x : Str} {k c : Nat} (hc : x.cps[k]? = some c) : x.cps.toList[k]? = some c := by rw [Array.getElem?_toList]; exact hc
theorem drop_at {l : List Nat} {k c : Nat} (hc : l[k]? = some c) : l.drop k = c :: l.drop (k + 1) := by
  obtain ⟨h, e⟩ := List.getElem?_eq_some_iff.mp hc
  rw [List.drop_eq_getElem_cons h, e]
theorem rem_step {src : Str} {x : St} (ok : x.ok src) {c : Nat} (hc : x.chunk.cps[x.off.toNat]? = some c) {o : Int} (ho : o = x.off + 1) : ∀ to, ∀ t : Tok, 
    St.ok src { x with off := o, to := to } ∧ x.rem src = c :: St.rem src { x with off := o, to := t } ∧ 1 ≤ o ∧ x.chunk.cps[(o - 1).toNat]? = some c := by
  intro to t
  subst ho
  have h1 := ok.off0; have h2 := ok.csize; have h4 := ok.off1
  have h3 : x.off.toNat < x.chunk.cps.size := (Array.getElem?_eq_some_iff.mp hc).1
  have h5 : x.off < x.size := by simp only [Str.length] at h2; omega
  have e1 : (x.off + 1).toNat = x.off.toNat + 1 := by omega
  have e2 : (x.off + 1 - 1).toNat = x.off.toNat := by omega
  refine ⟨⟨ok.csize, by dsimp only; omega, by dsimp only; omega, ok.clen, ok.place0, ok.place1, ok.slen, ok.bufis, ok.bud, ok.sur, ok.pendat⟩, ?_, by omega, by rw [e2]; exact hc⟩
  unfold St.rem
  dsimp only
  rw [e1, drop_at (getq hc), List.cons_append]
theorem rem_end {src : Str} {x : St} (ok : x.ok src) (h : x.size ≤ x.off) : x.rem src = mendL (x.pend ++ src.cps.toList.drop x.place.toNat) := by
  unfold St.rem
  have h1 := ok.off0; have h2 := ok.csize
  rw [List.drop_of_length_le (by rw [len_toList]; omega), List.nil_append]
theorem rem_back {src : Str} {x : St} (ok : x.ok src) {c : Nat} (h1 : 1 ≤ x.off) (hc : x.chunk.cps[(x.off - 1).toNat]? = some c) {o : Int} (ho : o = x.off - 1) : ∀ to t : Tok,
    St.ok src { x with off := o, to := to } ∧ St.rem src { x with off := o, to := t } = c :: x.rem src := by
  intro to t
  subst ho
  have h4 := ok.off1
  have e1 : x.off.toNat = (x.off - 1).toNat + 1 := by omega
  refine ⟨⟨ok.csize, by dsimp only; omega, by dsimp only; omega, ok.clen, ok.place0, ok.place1, ok.slen, ok.bufis, ok.bud, ok.sur, ok.pendat⟩, ?_⟩
  unfold St.rem
  dsimp only
  rw [drop_at (getq hc), ← e1, List.cons_append]
section
variable {prog : Program} {w : World} {A : Around} {E : Value → Shared → Prop} {s : Shared} {value slice : Expr} {src : Str} {x : St} {t u : Tok} {Q : Value → Shared → Prop}
theorem sub_st (ok : x.ok src) (h : x.off < x.size) (hq : ∀ c, x.chunk.cps[x.off.toNat]? = some c → Q (.str ⟨#[c]⟩ s.toks) { s with toks := s.toks + 1 })
    (hs : subscripted slice false (.str x.chunk t) (.int x.off u) = operate [.str x.chunk t, .int x.off u] (getItem (.str x.chunk t) (.int x.off u)) := by with_unfolding_all rfl)
    (ht : ∀ r, letTemporaryGo value (.str x.chunk t) r = pure () := by intro _; with_unfolding_all rfl) :
    wpAny (model prog w) A (subscriptTail value slice (.str x.chunk t) (.int x.off u)) Q E s := by
  obtain ⟨c, hc⟩ := ok.at h
  exact sub_chr ok.off0 ok.small hc (hq c hc) hs ht
end
/-- what readChunk leaves where the text is done and a carriage return was held back -/
theorem rd_cr {src : Str} {place p' : Int} {es es' : List Value} (h0 : 0 ≤ place) (hs : src.length ≤ 10000) (hsu : ∀ c ∈ src.cps.toList, c < 55296)
    (hes : es.length + (src.length - place.toNat) + ([13] : List Nat).length ≤ 50000) (hpl : place = src.length) (hp' : p' = src.length)
    (hl : es'.length ≤ es.length + (Str.ofString "\x0d").length) : ∀ tc ts to pl tl pc tp tpl n,
    St.ok src ⟨Str.ofString "\n", tc, (Str.ofString "\n").length, ts, 0, to, pl, tl, pc, tp, .none, [], p', tpl, es', n⟩ ∧
    St.rem src ⟨Str.ofString "\n", tc, (Str.ofString "\n").length, ts, 0, to, pl, tl, pc, tp, .none, [], p', tpl, es', n⟩ = mendL (13 :: src.cps.toList.drop place.toNat) ∧
    1 ≤ ((Str.ofString "\n").length : Int) := by
  intro tc ts to pl tl pc tp tpl n
  have l1 : (Str.ofString "\n").length = 1 := by decide +kernel
  have l2 : (Str.ofString "\x0d").length = 1 := by decide +kernel
  have c1 : (Str.ofString "\n").cps.toList = [10] := by decide +kernel
  rw [l2] at hl
  have hd : src.cps.toList.drop (p'.toNat) = [] := List.drop_of_length_le (by rw [len_toList]; omega)
  have hd2 : src.cps.toList.drop (place.toNat) = [] := List.drop_of_length_le (by rw [len_toList]; omega)
  simp only [List.length_cons, List.length_nil] at hes
  refine ⟨⟨rfl, Int.le_refl _, by dsimp only; omega, by dsimp only; omega, by dsimp only; omega, by dsimp only; omega, hs, .inl ⟨rfl, rfl⟩, by dsimp only [List.length_nil]; omega, hsu, fun h => absurd rfl h⟩, ?_, by rw [l1]; decide⟩
  unfold St.rem
  dsimp only
  rw [hd, hd2, c1, mendL_F, mendL_F]
  rfl
/-- a contract over a larger ledger -/
theorem CtrC.frame {prog : Program} {w : World} {K : Frag} {TP : Heap → Prop} {D U : Nat} {f : Value} {args : Args} {l e : Led} {Post : CPost}
    (C : CtrC prog w K TP D U f args l Post) (hd : ∀ p ∈ e, ∀ q ∈ l, p.1 ≠ q.1) : CtrC prog w K TP D U f args (l ++ e) (fun v fr l' => ∃ l'', l' = l'' ++ e ∧ Post v fr l'') := by
  intro A A₀ base h₀ env outer L m s R rest B F X N T hA hf hke hh hdp hu hne hQ
  rw [List.append_assoc] at N
  refine C A A₀ base h₀ env outer L m s R (e ++ rest) B F X N T hA hf hke hh hdp hu (fun p hp q hq => ?_) (fun v fr l' h' tk' h ht hfr F' N' => ?_)
  · rcases List.mem_append.mp hp with hp | hp
    · exact hd p hp q hq
    · exact hne p hp q (List.mem_append_left _ hq)
  · refine hQ v fr (l' ++ e) h' tk' ⟨l', rfl, h⟩ ht (fun p hp r hr => hfr p hp r (by rw [← List.append_assoc]; exact hr)) F' ?_
    rw [show fr ++ (l' ++ e) ++ rest = fr ++ l' ++ (e ++ rest) from by simp [List.append_assoc]]
    exact N'
def Cn.mu (src : Str) (c : Cn) : Nat := (c.x.rem src).length + (match c.cv with | .none => 0 | _ => 1)
theorem Cn.start {src : Str} {al : Nat → Bool} {L : List Nat} {x y : St} {v : Value} (ok : y.ok src) (hL : x.rem src = L) (hv : CvIs src y v (x.rem src)) : Cn.ok src al L ⟨y, [], 0, v⟩ :=
  ⟨ok, [], L, .nil, (fun _ h => nomatch h), rfl, (by rw [← hL]; exact hv)⟩
theorem mendF_len : ∀ (l : List Nat) (f : Bool), (mendF f l).length ≤ l.length
  | [], _ => Nat.le_refl _
  | c :: r, f => by
    have i1 := mendF_len r false
    have i2 := mendF_len r true
    simp only [mendF]
    split
    · simp only [List.length_cons]; omega
    · split <;> (simp only [List.length_cons]; omega)
theorem St.ok.remlen {src : Str} {x : St} (ok : x.ok src) : (x.rem src).length ≤ 20001 := by
  have h1 := ok.clen; have h2 := ok.slen
  have h3 : x.pend.length ≤ 1 := by rcases ok.bufis with ⟨_, h⟩ | ⟨_, _, h⟩ <;> rw [h] <;> simp
  have h4 := mendF_len (x.pend ++ src.cps.toList.drop x.place.toNat) false
  unfold St.rem
  rw [mendL_F, List.length_append, List.length_drop, len_toList]
  rw [List.length_append, List.length_drop, len_toList] at h4
  omega
theorem strs_len : ∀ {vs : List Value} {ys : List Str}, StrsAre vs ys → vs.length = ys.length
  | _, _, .nil => rfl
  | _, _, .cons _ _ h => by rw [List.length_cons, List.length_cons, strs_len h]
theorem strs_snoc : ∀ {vs : List Value} {ys : List Str} (y : Str) (t : Tok), StrsAre vs ys → StrsAre (vs ++ [.str y t]) (ys ++ [y])
  | _, _, y, t, .nil => .cons y t .nil
  | _, _, y, t, .cons y' t' h => .cons y' t' (strs_snoc y t h)
/-- the longest run is one alone -/
theorem span_uq {al : Nat → Bool} : ∀ {ds r ds0 r0 : List Nat}, ds ++ r = ds0 ++ r0 → (∀ d ∈ ds, al d = true) → (∀ d ∈ ds0, al d = true) → (∀ c t, r = c :: t → al c = false) → (∀ c t, r0 = c :: t → al c = false) → ds = ds0 ∧ r = r0
  | [], r, [], r0, h, _, _, _, _ => ⟨rfl, h⟩
  | [], r, d :: ds0, r0, h, _, h2, h3, _ => by
    have := h3 d (ds0 ++ r0) h
    rw [h2 d (List.mem_cons_self ..)] at this; cases this
  | d :: ds, r, [], r0, h, h1, _, _, h4 => by
    have := h4 d (ds ++ r) h.symm
    rw [h1 d (List.mem_cons_self ..)] at this; cases this
  | d :: ds, r, d' :: ds0, r0, h, h1, h2, h3, h4 => by
    injection h with e h
    have := span_uq h (fun x hx => h1 x (List.mem_cons_of_mem _ hx)) (fun x hx => h2 x (List.mem_cons_of_mem _ hx)) h3 h4
    exact ⟨by rw [e, this.1], this.2⟩
theorem Cn.vlen {src : Str} {x : St} {L ds r : List Nat} {vs : List Value} (ok : x.ok src) (hL : x.rem src = L) (h : L = ds ++ r) (hv : StrsAre vs (ds.map chS)) : vs.length ≤ 100000 := by
  have h1 := ok.remlen
  rw [hL, h, List.length_append] at h1
  rw [strs_len hv, List.length_map]
  omega
/-- a while whose ways out meet -/
structure MeetW {σ : Type} (g : Heap) (L : Addr) (s : Shared) (Led : σ → List (Addr × Obj)) (ps : σ → List (Str × Value)) (stored : List Str) (m₀ : Str → Option Value) (X : σ → Prop) (f : Flow) (s' : Shared) : Prop where
  fl : f = .next
  st : ∃ (c : σ) (u : Str → Option Value) (h' : Heap) (k : Nat), s' = { s with heap := h', toks := k } ∧ Fr g L h' (kstB (fun z => if stored.contains z then u z else m₀ z) (ps c)) ∧ News g L h' (Led c) ∧ X c
section
variable {prog : Program} {w : World} {A : Around} {E : Value → Shared → Prop} {Q : Flow → Shared → Prop} {s : Shared} {env : Env} {g : Heap} {L : Addr} {σ : Type}
theorem meetW_end {Led : σ → List (Addr × Obj)} {ps : σ → List (Str × Value)} {stored : List Str} {m₀ : Str → Option Value} {X : σ → Prop} {h' : Heap} {k : Nat} {news : List (Addr × Obj)} (c : σ) (u : Str → Option Value)
    (F : Fr g L h' (kstB (fun z => if stored.contains z then u z else m₀ z) (ps c))) (N : News g L h' news) (hn : ∀ p ∈ Led c, p ∈ news) (x : X c) : MeetW g L s Led ps stored m₀ X .next { s with heap := h', toks := k } :=
  ⟨rfl, c, u, h', k, rfl, F, fun p hp => N p (hn p hp), x⟩
theorem ksw_meet {test : Expr} {body : List Stmt} {pos : Pos} {m₀ : Str → Option Value} (Led : σ → List (Addr × Obj)) (ps : σ → List (Str × Value)) (stored : List Str) (P X : σ → Prop) (μ : σ → Nat) (c₀ : σ)
    (F : Fr g L s.heap m₀) (N : News g L s.heap (Led c₀)) (hk : ∀ p ∈ ps c₀, m₀ p.1 = some p.2) (hp : P c₀)
    (hq : ∀ (c : σ) (u : Str → Option Value) h k, X c → Fr g L h (kstB (fun z => if stored.contains z then u z else m₀ z) (ps c)) → News g L h (Led c) → Q .next { s with heap := h, toks := k })
    (turn : ∀ (c : σ) (u : Str → Option Value) h tk, P c → Fr g L h (kstB (fun z => if stored.contains z then u z else m₀ z) (ps c)) → News g L h (Led c) →
      wpAny (model prog w) A (isTrue test env (eval test env)) (fun b s₂ =>
        if b = true then wpAny (model prog w) A (execs body env) (KswPost g L s Led ps (fun _ => True) stored m₀ P μ (MeetW g L s Led ps stored m₀ X) c) E s₂ else MeetW g L s Led ps stored m₀ X .next s₂) E { s with heap := h, toks := tk })
    (hE : PassesOwn (model prog w) A env E := by passes_own) :
    wpAny (model prog w) A (exec (.While test body [] pos) env) Q E s := by
  refine wpAny_mono (ksw_while Led ps (fun _ => True) stored P μ c₀ F N trivial hk hp (Q := MeetW g L s Led ps stored m₀ X) (fun c u h tk _ hp' F' N' => turn c u h tk hp' F' N') hE) (fun f s' h => ?_) (fun _ _ e => e)
  obtain ⟨hf, c, u, h', k, hs, F', N', x⟩ := h
  rw [hf, hs]
  exact hq c u h' k x F' N'
end
/-- the number's signs are read: what the loop leaves -/
def CnX (src : Str) (ds0 r0 : List Nat) (c : Cn) : Prop := c.x.ok src ∧ StrsAre c.vs (ds0.map chS) ∧ CvIs src c.x c.cv r0
theorem cnx_of {src : Str} {al : Nat → Bool} {ds0 r0 us rr : List Nat} {c : Cn} (h0 : ∀ d ∈ ds0, al d = true) (hr0 : ∀ c t, r0 = c :: t → al c = false) (sok : c.x.ok src) (hv : StrsAre c.vs (us.map chS)) (hu : ∀ d ∈ us, al d = true)
    (hL : ds0 ++ r0 = us ++ rr) (hc : CvIs src c.x c.cv rr) (hx : ∀ c t, rr = c :: t → al c = false) : CnX src ds0 r0 c := by
  obtain ⟨e1, e2⟩ := span_uq hL.symm hu h0 hx hr0
  subst e1; subst e2
  exact ⟨sok, hv, hc⟩
/-- one more sign -/
theorem cn_more {src : Str} {al : Nat → Bool} {L us : List Nat} {x y : St} {vs : List Value} {n n' : Nat} {c1 : Nat} {t1 : Tok} {v : Value} (oky : y.ok src) (hv : StrsAre vs (us.map chS)) (hu : ∀ d ∈ us, al d = true) (hc1 : al c1 = true)
    {rr : List Nat} (hL : L = us ++ rr) (e : rr = c1 :: x.rem src) (hcv : CvIs src y v (x.rem src)) : Cn.ok src al L ⟨y, vs ++ [.str ⟨#[c1]⟩ t1], n', v⟩ ∧ Cn.mu src ⟨y, vs ++ [.str ⟨#[c1]⟩ t1], n', v⟩ < Cn.mu src ⟨x, vs, n, .str ⟨#[c1]⟩ t1⟩ := by
  refine ⟨⟨oky, us ++ [c1], x.rem src, ?_, ?_, ?_, hcv⟩, ?_⟩
  · rw [List.map_append]; exact strs_snoc _ _ hv
  · intro d hd
    rcases List.mem_append.mp hd with h | h
    · exact hu d h
    · rw [List.mem_singleton.mp h]; exact hc1
  · rw [hL, e]; simp
  · rcases hcv with ⟨e1, e2, e3⟩ | ⟨c, t, e1, e2, _⟩
    · subst e1
      simp only [Cn.mu]; rw [e2, e3]; simp
    · subst e1
      simp only [Cn.mu]; rw [e2]; simp
end Mine

end
section
open PySem PySem.W PyProof.Rows PySem.Calls PySem.Spec
namespace Mine
/-- what an initialiser leaves: the instance with its dict filled, and new objects -/
def InitP (C x dx : Addr) (P : Addr → Addr → Obj → Led → Prop) : CPost := fun v fr l => v = .none ∧ ∃ d, l = [(x, instObj C dx), (dx, d)] ∧ P x dx d fr
/-- what the making of an instance leaves -/
def ClsP (C : Addr) (P : Addr → Addr → Obj → Led → Prop) : CPost := fun v fr l => l = [] ∧ ∃ x dx d fr', @LT.lt Nat _ dx x ∧ (∀ p ∈ fr', @LT.lt Nat _ x p.1) ∧ v = .ref x ∧ fr = fr' ++ [(x, instObj C dx), (dx, d)] ∧ P x dx d fr'
theorem CtrC.cls {prog : Program} {w : World} {K : Frag} {TP : Heap → Prop} {D U : Nat} {C fI : Addr} {pos : List Value} {kw : List (Str × Value)} {P : Addr → Addr → Obj → Led → Prop}
    (hm : makesIn K C = true) (hi : findIn K (.ref C) "__init__" = some (some (.ref fI))) (hf : isFn K (.ref fI) = true)
    (c : ∀ x dx, @LT.lt Nat _ dx x → CtrC prog w K TP (D + 1) (U + 9) (.ref fI) ⟨.ref x :: pos, kw⟩ [(x, instObj C dx), (dx, dictOf [] 0)] (InitP C x dx P)) :
    Ctr prog w K TP D U (PySem.call (.ref C) pos kw) [] (ClsP C P) := by
  intro A A₀ base h₀ env outer L m s Q E rest B F X N T hA hf' hke hh hd hu hne hQ
  refine call_cls (news := rest) F X N hm hi hf fun x dx h' F' N' l1 l2 => ?_
  refine c x dx l2 _ A₀ base h₀ env outer L m { s with heap := h' } _ rest B F' X N' T hA hf' hke hh (Nat.succ_le_succ hd) (by have e : (Code.builtin "type.__call__" ⟨Value.ref C :: pos, kw⟩).cUnits ≤ 9 := Nat.le_of_ble_eq_true rfl; show _ ≤ _; simp only [Around.under]; omega) ?_ ?_
  · intro p hp q hq
    have h1 : @LT.lt Nat _ p.1 dx := l1 p hp
    simp only [List.mem_cons, List.not_mem_nil, or_false] at hq
    rcases hq with rfl | rfl
    · exact Nat.ne_of_lt (Nat.lt_trans h1 l2)
    · exact Nat.ne_of_lt h1
  · intro v fr l' h2 tk' hp ht hfr F2 N2
    obtain ⟨rfl, d, rfl, hp⟩ := hp
    refine ⟨rfl, hQ _ (fr ++ [(x, instObj C dx), (dx, d)]) [] h2 tk' ⟨rfl, x, dx, d, fr, l2, fun p hp => hfr p hp _ (.head _), rfl, rfl, hp⟩ ht ?_ F2 (fun p hp => N2 p (by simpa using hp))⟩
    intro p hp r hr
    have hr' : @LT.lt Nat _ r.1 dx := l1 r hr
    rcases List.mem_append.mp hp with hp | hp
    · exact hfr p hp r (List.mem_append_right _ hr)
    · simp only [List.mem_cons, List.not_mem_nil, or_false] at hp
      rcases hp with rfl | rfl
      · exact Nat.lt_trans hr' l2
      · exact hr'
end Mine

end
section
open PySem PySem.W PyProof.Rows PySem.Calls PySem.Spec PyProof.V
namespace Mine
/-- a stream's addresses and words, and the text that it reads -/
structure Ks where
  st : Addr
  sd : Addr
  k0 : Tok
  k1 : Tok
  k2 : Tok
  k3 : Tok
  k4 : Tok
  k5 : Tok
  k6 : Tok
  k7 : Tok
  k8 : Tok
  k9 : Tok
  rce : Addr
  nl : Addr
  ds : Addr
  er : Addr
  dd : Addr
  j0 : Tok
  j1 : Tok
  src : Str
  tsr : Tok
def Ks.ord (K : Ks) : Prop := @LT.lt Nat _ K.sd K.st ∧ @LT.lt Nat _ K.st K.rce ∧ @LT.lt Nat _ K.rce K.dd ∧ @LT.lt Nat _ K.dd K.ds ∧ @LT.lt Nat _ K.ds K.er
/-- the stream's six objects -/
@[irreducible] def Ks.led (w : World) (K : Ks) (x : St) : Led :=
  [(K.st, instObj 166 K.sd), (K.sd, dictOf (sdict w.params K.k0 K.k1 K.k2 K.k3 K.k4 K.k5 K.k6 K.k7 K.k8 K.k9 K.rce K.nl K.ds x.chunk x.tc x.size x.ts x.off x.to K.er x.pl x.tl x.pc x.tp x.buf) 10),
   (K.ds, instObj 73 K.dd), (K.dd, dictOf (tdict w.params K.j0 K.j1 K.src K.tsr x.place x.tpl) 2), (K.rce, methodObj (.ref 148) (.ref K.st)), (K.er, W.listOf x.es.toArray x.n)]
theorem Ks.led_eq (w : World) (K : Ks) (x : St) : K.led w x =
  [(K.st, instObj 166 K.sd), (K.sd, dictOf (sdict w.params K.k0 K.k1 K.k2 K.k3 K.k4 K.k5 K.k6 K.k7 K.k8 K.k9 K.rce K.nl K.ds x.chunk x.tc x.size x.ts x.off x.to K.er x.pl x.tl x.pc x.tp x.buf) 10),
   (K.ds, instObj 73 K.dd), (K.dd, dictOf (tdict w.params K.j0 K.j1 K.src K.tsr x.place x.tpl) 2), (K.rce, methodObj (.ref 148) (.ref K.st)), (K.er, W.listOf x.es.toArray x.n)] := by
  unfold Ks.led; rfl
theorem Take.blk {w : World} {K : Ks} {x : St} {N cs : Led} (t : Tl (K.led w x) N cs) : Take (K.led w x) N cs := .all t
theorem Ks.between {w : World} {K : Ks} {x : St} (o : K.ord) : ∀ q ∈ K.led w x, @LE.le Nat _ K.sd q.1 ∧ @LE.le Nat _ q.1 K.er := by
  obtain ⟨h1, h2, h3, h4, h5⟩ := o
  unfold Ks.led
  simp only [List.forall_mem_cons]
  refine ⟨?_, ?_, ?_, ?_, ?_, ?_, fun _ h => nomatch h⟩ <;> constructor <;> omega
/-- what lies outside the stream -/
def Outs (K : Ks) (es : Led) : Prop := ∀ p ∈ es, @LT.lt Nat _ p.1 K.sd ∨ @LT.lt Nat _ K.er p.1
theorem Outs.nil {K : Ks} : Outs K [] := fun _ h => nomatch h
theorem Outs.lo {K : Ks} {a : Addr} {o : Obj} {es : Led} (h : @LT.lt Nat _ a K.sd) (r : Outs K es) : Outs K ((a, o) :: es) := fun p hp => by
  cases hp with
  | head => exact .inl h
  | tail _ hp => exact r p hp
theorem Outs.hi {K : Ks} {a : Addr} {o : Obj} {es : Led} (h : @LT.lt Nat _ K.er a) (r : Outs K es) : Outs K ((a, o) :: es) := fun p hp => by
  cases hp with
  | head => exact .inr h
  | tail _ hp => exact r p hp
theorem Outs.low {K : Ks} {b : Addr} {es : Led} (hb : @LE.le Nat _ b K.sd) (h : ∀ p ∈ es, @LT.lt Nat _ p.1 b) : Outs K es := fun p hp => .inl (Nat.lt_of_lt_of_le (h p hp) hb)
theorem Outs.ne {w : World} {K : Ks} {x : St} {es : Led} (h : Outs K es) (o : K.ord) : ∀ p ∈ es, ∀ q ∈ K.led w x, @Ne Nat p.1 q.1 := fun p hp q hq e => by
  obtain ⟨h1, h2⟩ := Ks.between (w := w) (x := x) o q hq
  rcases h p hp with h | h
  · exact absurd (Nat.lt_of_lt_of_le h h1) (by rw [e]; exact Nat.lt_irrefl _)
  · exact absurd (Nat.lt_of_le_of_lt h2 h) (by rw [e]; exact Nat.lt_irrefl _)
theorem Ks.ne_all {w : World} {K : Ks} {x : St} {a : Addr} (o : K.ord) (h : @LT.lt Nat _ a K.sd ∨ @LT.lt Nat _ K.er a) : ∀ q ∈ K.led w x, q.1 ≠ a := fun q hq e =>
  Outs.ne (es := [(a, instObj 0 0)]) (fun p hp => by cases List.mem_singleton.mp hp; exact h) o _ (.head _) q hq e.symm
theorem ne_by {a d : Addr} {o : Obj} {l : Led} (h : ∀ p ∈ l, p.1 < d) (m : (a, o) ∈ l) : @Ne Nat a d := Nat.ne_of_lt (h _ m)
theorem ne_by' {a d : Addr} {o : Obj} {l : Led} (h : ∀ p ∈ l, p.1 < d) (m : (a, o) ∈ l) : @Ne Nat d a := Nat.ne_of_gt (h _ m)
theorem Ks.lo_hi (K : Ks) (o : K.ord) : @LT.lt Nat _ K.sd K.er := by
  obtain ⟨h1, h2, h3, h4, h5⟩ := o
  exact Nat.lt_trans h1 (Nat.lt_trans h2 (Nat.lt_trans h3 (Nat.lt_trans h4 h5)))
theorem Ks.er_lt {w : World} {K : Ks} {x : St} {d : Addr} {N : Led} (h : ∀ p ∈ N, p.1 < d) (s : ∀ p ∈ K.led w x, p ∈ N) : @LT.lt Nat _ K.er d :=
  h (K.er, W.listOf x.es.toArray x.n) (s _ (by rw [Ks.led_eq]; exact .tail _ (.tail _ (.tail _ (.tail _ (.tail _ (.head _)))))))
theorem tail_ne {w : World} {K : Ks} {x : St} {d : Addr} {N o : Led} (h : ∀ p ∈ N, p.1 < d) (s : ∀ p ∈ o, p ∈ N) (k : K.ord) (hd : @LT.lt Nat _ d K.sd ∨ @LT.lt Nat _ K.er d) : ∀ q ∈ o ++ K.led w x, q.1 ≠ d := fun q hq => by
  rcases List.mem_append.mp hq with hq | hq
  · exact Nat.ne_of_lt (h q (s q hq))
  · exact Ks.ne_all k hd q hq
theorem Outs.sub {K : Ks} {b : Addr} {N es : Led} (h : ∀ p ∈ N, p.1 < b) (hb : @LE.le Nat _ b K.sd) (s : ∀ p ∈ es, p ∈ N) : Outs K es := fun p hp => .inl (Nat.lt_of_lt_of_le (h p (s p hp)) hb)
theorem Tl.lt {T N cs : Led} {d : Addr} (h : ∀ p ∈ N, p.1 < d) (t : Tl T N cs) : ∀ p ∈ cs, @LT.lt Nat _ p.1 d := fun p hp => h p (by rw [t.eq]; exact List.mem_append_left _ hp)
/-- a tokenizer's addresses and words -/
structure Kz where
  za : Addr
  zd : Addr
  m0 : Tok
  m1 : Tok
  m2 : Tok
  m3 : Tok
  m4 : Tok
  m5 : Tok
  m6 : Tok
  v1 : Value
  v2 : Value
  v3 : Value
  v4 : Value
  v5 : Value
  v6 : Value
abbrev Kz.kd (w : World) (Z : Kz) (st : Addr) (m7 : Tok) (tq : Addr) : Obj := dictOf (kdict w.params Z.m0 Z.m1 Z.m2 Z.m3 Z.m4 Z.m5 Z.m6 m7 st Z.v1 Z.v2 Z.v3 Z.v4 Z.v5 Z.v6 tq) 8
abbrev Kz.kd7 (w : World) (Z : Kz) (st : Addr) : Obj := dictOf (kdict7 w.params Z.m0 Z.m1 Z.m2 Z.m3 Z.m4 Z.m5 Z.m6 st Z.v1 Z.v2 Z.v3 Z.v4 Z.v5 Z.v6) 7
theorem Srt.five {K : Ks} {Z : Kz} {tq : Addr} (h : K.ord) (k : @LT.lt Nat _ Z.zd Z.za ∧ @LT.lt Nat _ Z.za K.sd ∧ @LT.lt Nat _ K.er tq) : Srt [tq, K.er, K.sd, Z.za, Z.zd] := by
  obtain ⟨h1, h2, h3, h4, h5⟩ := h
  obtain ⟨k1, k2, k3⟩ := k
  have S0 : Srt [Z.zd] := ⟨fun _ h => (nomatch h), trivial⟩
  exact (((S0.grow k1).grow k2).grow (Nat.lt_trans h1 (Nat.lt_trans h2 (Nat.lt_trans h3 (Nat.lt_trans h4 h5))))).grow k3
theorem one_lt_tq5 {K : Ks} {Z : Kz} {tq : Addr} (h : K.ord) (k : @LT.lt Nat _ Z.zd Z.za ∧ @LT.lt Nat _ Z.za K.sd ∧ @LT.lt Nat _ K.er tq) : @LT.lt Nat _ 1 tq := by
  obtain ⟨h1, h2, h3, h4, h5⟩ := h
  omega
section
variable {prog : Program} {w : World} {A : Around} {E : Value → Shared → Prop} {s : Shared} {Kf : Frag} {L : Addr} {h₀ : Heap} {m : Str → Option Value}
/-- a method of the stream, read off the block -/
theorem meth_blk {K : Ks} {x : St} {nl rest : Led} {name : Str} {f : Addr} {pl : Sem Bool} {Q : Value × List Value → Shared → Prop} (F : Fr h₀ L s.heap m) (X₀ : Kf.In h₀) (N : News h₀ L s.heap nl) (tk : Take (K.led w x) nl rest)
    (hg : plainGet Kf 166 name = true) (hf : findIn Kf (.ref 166) name = some (some (.ref f))) (ht : isFn Kf (.ref f) = true)
    (hl : getL name (sdict w.params K.k0 K.k1 K.k2 K.k3 K.k4 K.k5 K.k6 K.k7 K.k8 K.k9 K.rce K.nl K.ds x.chunk x.tc x.size x.ts x.off x.to K.er x.pl x.tl x.pc x.tp x.buf) = some none)
    (h : Q (.ref f, [.ref K.st]) s) : wpAny (model prog w) A (getMethod (.ref K.st) name pl) Q E s := by
  have N2 : News h₀ L s.heap (K.led w x) := fun p hp => N p (tk.sub p hp)
  rw [Ks.led_eq] at N2
  exact method_inst F X₀ (InstAt.of_news N2 (.head _) (.tail _ (.head _))) hg hf ht hl h
end
end Mine

end
section
open PySem PySem.W PyProof.Rows PySem.Calls PySem.Spec PyProof.V
namespace Mine
theorem ok_start {src : Str} (hs : src.length ≤ 10000) (hsu : ∀ c ∈ src.cps.toList, c < 55296) {tc ts to tl tp tpl : Tok} {n : Nat} :
    St.ok src ⟨Str.ofString "", tc, 0, ts, 0, to, 0, tl, 0, tp, .none, [], 0, tpl, [], n⟩ := by
  have hl : (Str.ofString "").length = 0 := by decide +kernel
  exact ⟨by dsimp only; rw [hl]; rfl, Int.le_refl _, Int.le_refl _, by dsimp only; omega, Int.le_refl _, by dsimp only; omega, hs, .inl ⟨rfl, rfl⟩, by simp only [List.length_nil]; omega, hsu, fun h => absurd rfl h⟩
theorem rem_start {src : Str} (_ : src.length ≤ 10000) {tc ts to tl tp tpl : Tok} {n : Nat} :
    St.rem src ⟨Str.ofString "", tc, 0, ts, 0, to, 0, tl, 0, tp, .none, [], 0, tpl, [], n⟩ = mendL src.cps.toList := by
  have hc : (Str.ofString "").cps.toList = [] := by decide +kernel
  unfold St.rem
  dsimp only
  rw [hc]
  rfl

theorem al_f {b : Bool} (h : (b == false) = true) : b = false := by cases b <;> first | rfl | cases h
theorem al_t {b : Bool} (h : (b == false) = false) : b = true := by cases b <;> first | rfl | cases h
/-- a run up to a stop: the state of the outer loop -/
structure Cu where
  x : St
  vs : List Value
  n : Nat
def flat (ws : List Str) : List Nat := (ws.map (·.cps.toList)).flatten
theorem flat_snoc (ws : List Str) (y : Str) : flat (ws ++ [y]) = flat ws ++ y.cps.toList := by simp [flat]
structure Cu.ok (src : Str) (al : Nat → Bool) (L : List Nat) (c : Cu) : Prop where
  sok : c.x.ok src
  ex : ∃ ws, StrsAre c.vs ws ∧ L = flat ws ++ c.x.rem src ∧ (∀ d ∈ flat ws, al d = false) ∧ c.vs.length + 2 * (c.x.rem src).length + (if c.x.off = c.x.size then 1 else 0) ≤ 2 * L.length + 1
structure CuX (src : Str) (al : Nat → Bool) (L : List Nat) (c : Cu) : Prop where
  sok : c.x.ok src
  vl : c.vs.length ≤ 100000
  ex : ∃ ws, StrsAre c.vs ws ∧ L = flat ws ++ c.x.rem src ∧ (∀ d ∈ flat ws, al d = false) ∧ (∀ d t, c.x.rem src = d :: t → al d = true)
def Cu.mu (src : Str) (c : Cu) : Nat := 2 * (c.x.rem src).length + (if c.x.off = c.x.size then 1 else 0)
theorem Cu.start {src : Str} {al : Nat → Bool} {x : St} (ok : x.ok src) : Cu.ok src al (x.rem src) ⟨x, [], 0⟩ :=
  ⟨ok, [], .nil, rfl, (fun _ h => nomatch h), by simp only [List.length_nil]; split <;> omega⟩
theorem Cu.vlen {src : Str} {L : List Nat} {m k : Nat} {x : St} (ok : x.ok src) (hL : x.rem src = L) (h : m + 2 * k + b ≤ 2 * L.length + 1) : m ≤ 50000 := by
  have := ok.remlen; rw [hL] at this; omega
/-- the inner loop: signs from off to e are no stops -/
structure RunTo (al : Nat → Bool) (x : St) (e : Int) : Prop where
  lo : x.off ≤ e
  hi : e ≤ x.size
  all : ∀ k : Nat, x.off ≤ k → (k : Int) < e → ∀ d, x.chunk.cps[k]? = some d → al d = false
theorem RunTo.start {src : Str} {al : Nat → Bool} {x : St} (ok : x.ok src) : RunTo al x x.off := ⟨Int.le_refl _, ok.off1, fun k h1 h2 => by omega⟩
theorem RunTo.step {al : Nat → Bool} {x : St} {e : Int} (h0 : 0 ≤ x.off) (r : RunTo al x e) {c : Nat} (hc : x.chunk.cps[e.toNat]? = some c) (ha : al c = false) (he : e < x.size) : RunTo al x (e + 1) :=
  ⟨by have := r.lo; omega, by omega, fun k h1 h2 d hd => by
    have hlo := r.lo
    rcases (show (k : Int) < e ∨ e ≤ k by omega) with h | h
    · exact r.all k h1 h d hd
    · have : k = e.toNat := by omega
      rw [this, hc] at hd; cases hd; exact ha⟩
theorem St.ok.at2 {src : Str} {x : St} (ok : x.ok src) {e : Int} (h0 : 0 ≤ e) (h : e < x.size) : ∃ c, x.chunk.cps[e.toNat]? = some c := by
  have h2 := ok.csize
  have h3 : e.toNat < x.chunk.cps.size := by simp only [Str.length] at h2; omega
  exact ⟨x.chunk.cps[e.toNat], Array.getElem?_eq_getElem h3⟩
theorem run_stop {al : Nat → Bool} {ys0 : List Str} (hal0 : ∀ c : Nat, ys0.any (· == ⟨#[c]⟩) = al c) (x : St) (e : Int) {c : Nat} (hc : x.chunk.cps[e.toNat]? = some c) (h : ((ys0.any fun z => z == ⟨#[c]⟩) == false) = false) (h2 : e ≤ x.size) (h3 : e ≠ x.size) :
    ∃ d, x.chunk.cps[e.toNat]? = some d ∧ al d = true ∧ e < x.size := ⟨c, hc, (hal0 c).symm.trans (al_t h), by omega⟩
/-- the signs of a run -/
theorem RunTo.take {src : Str} {al : Nat → Bool} {x : St} {e : Int} (ok : x.ok src) (r : RunTo al x e) :
    (∀ d ∈ (x.chunk.cps.toList.drop x.off.toNat).take (e - x.off).toNat, al d = false) ∧ x.rem src = (x.chunk.cps.toList.drop x.off.toNat).take (e - x.off).toNat ++ St.rem src { x with off := e } := by
  have h0 := ok.off0; have h1 := r.lo; have h2 := r.hi; have h3 := ok.csize
  constructor
  · intro d hd
    obtain ⟨i, hi, e1⟩ := List.mem_iff_getElem.mp hd
    rw [List.length_take, List.length_drop, len_toList] at hi
    have : x.chunk.cps[x.off.toNat + i]? = some d := by
      rw [← Array.getElem?_toList, ← e1, List.getElem_take, List.getElem_drop, List.getElem?_eq_getElem]
    exact r.all (x.off.toNat + i) (by omega) (by omega) d this
  · unfold St.rem
    dsimp only
    rw [← List.append_assoc]
    congr 1
    have : e.toNat = x.off.toNat + (e - x.off).toNat := by omega
    rw [this, ← List.drop_drop, List.take_append_drop]
theorem St.ok.to {src : Str} {x : St} (ok : x.ok src) {e : Int} (h0 : 0 ≤ e) (h1 : e ≤ x.size) (t : Tok) : St.ok src { x with off := e, to := t } :=
  ⟨ok.csize, h0, h1, ok.clen, ok.place0, ok.place1, ok.slen, ok.bufis, ok.bud, ok.sur, ok.pendat⟩
theorem St.rem_to {src : Str} {x : St} (e : Int) (t : Tok) : St.rem src { x with off := e, to := t } = St.rem src { x with off := e } := rfl
theorem rem_at {src : Str} {x : St} {e : Int} {c : Nat} (hc : x.chunk.cps[e.toNat]? = some c) : ∃ t, St.rem src { x with off := e } = c :: t := by
  unfold St.rem
  dsimp only
  rw [drop_at (getq hc)]
  exact ⟨_, rfl⟩
/-- a stop at hand -/
theorem cux_stop {src : Str} {al : Nat → Bool} {L : List Nat} {x : St} {vs : List Value} {n : Nat} {ws : List Str} {c : Nat} (ok : x.ok src) (hv : StrsAre vs ws) (hL : L = flat ws ++ x.rem src) (ha : ∀ d ∈ flat ws, al d = false)
    (hc : x.chunk.cps[x.off.toNat]? = some c) (hs : al c = true) (hvl : vs.length ≤ 50000) : CuX src al L ⟨x, vs, n⟩ := by
  refine ⟨ok, by dsimp only; omega, ws, hv, hL, ha, fun d t h => ?_⟩
  obtain ⟨t', h'⟩ := rem_at (src := src) hc
  have : c :: t' = d :: t := h'.symm.trans h
  injection this with e; rw [← e]; exact hs
/-- a stop behind a run -/
theorem cux_run {src : Str} {al : Nat → Bool} {L : List Nat} {x : St} {vs : List Value} {n : Nat} {ws : List Str} {c : Nat} {e : Int} {t1 t2 : Tok} (ok : x.ok src) (hv : StrsAre vs ws) (hL : L = flat ws ++ x.rem src) (ha : ∀ d ∈ flat ws, al d = false)
    (r : RunTo al x e) (hc : x.chunk.cps[e.toNat]? = some c) (hs : al c = true) (hvl : vs.length ≤ 50000) : CuX src al L ⟨{ x with off := e, to := t2 }, vs ++ [.str (Txt.slice x.chunk (some x.off) (some e)) t1], n⟩ := by
  have h0 := ok.off0; have h1 := r.lo
  obtain ⟨q1, q2⟩ := r.take ok
  have e1 : (Txt.slice x.chunk (some x.off) (some e)).cps.toList = (x.chunk.cps.toList.drop x.off.toNat).take (e - x.off).toNat := by rw [slice_ss h0 h1]
  refine ⟨ok.to (by omega) r.hi t2, by dsimp only; rw [List.length_append, List.length_singleton]; omega, ws ++ [_], strs_snoc _ _ hv, ?_, ?_, fun d t h => ?_⟩
  · rw [flat_snoc, e1, hL, q2, List.append_assoc]; rfl
  · intro d hd
    rw [flat_snoc, e1] at hd
    rcases List.mem_append.mp hd with hd | hd
    · exact ha d hd
    · exact q1 d hd
  · obtain ⟨t', h'⟩ := rem_at (src := src) hc
    have : c :: t' = d :: t := h'.symm.trans h
    injection this with e; rw [← e]; exact hs
/-- the chunk's end -/
theorem cu_end {src : Str} {al : Nat → Bool} {L : List Nat} {x y : St} {vs : List Value} {n : Nat} {ws : List Str} {e : Int} {t1 : Tok} (ok : x.ok src) (hv : StrsAre vs ws) (hL : L = flat ws ++ x.rem src) (ha : ∀ d ∈ flat ws, al d = false)
    (r : RunTo al x e) (he : e = x.size) (hy : y.ok src) (hyr : y.rem src = mendL (x.pend ++ src.cps.toList.drop x.place.toNat)) :
    ∃ ws', StrsAre (vs ++ [.str (Txt.slice x.chunk (some x.off) none) t1]) ws' ∧ L = flat ws' ++ y.rem src ∧ (∀ d ∈ flat ws', al d = false) ∧ (x.rem src).length = (x.size - x.off).toNat + (y.rem src).length := by
  have h0 := ok.off0; have h1 := r.lo; have h3 := ok.csize
  obtain ⟨q1, q2⟩ := r.take ok
  have e1 : (Txt.slice x.chunk (some x.off) none).cps.toList = x.chunk.cps.toList.drop x.off.toNat := by rw [slice_sn h0]
  have e2 : (x.chunk.cps.toList.drop x.off.toNat).take (e - x.off).toNat = x.chunk.cps.toList.drop x.off.toNat := List.take_of_length_le (by rw [List.length_drop, len_toList]; omega)
  rw [e2] at q1
  refine ⟨ws ++ [_], strs_snoc _ _ hv, ?_, ?_, ?_⟩
  · rw [flat_snoc, e1, hL, hyr, List.append_assoc]; rfl
  · intro d hd
    rw [flat_snoc, e1] at hd
    rcases List.mem_append.mp hd with hd | hd
    · exact ha d hd
    · exact q1 d hd
  · rw [hyr]; unfold St.rem; rw [List.length_append, List.length_drop, len_toList]; omega
theorem cu_next {src : Str} {al : Nat → Bool} {L : List Nat} {x y : St} {vs : List Value} {n : Nat} {ws : List Str} {e : Int} {t1 : Tok} (ok : x.ok src) (hv : StrsAre vs ws) (hL : L = flat ws ++ x.rem src) (ha : ∀ d ∈ flat ws, al d = false)
    (hb : vs.length + 2 * (x.rem src).length + (if x.off = x.size then 1 else 0) ≤ 2 * L.length + 1)
    (r : RunTo al x e) (he : e = x.size) (hy : y.ok src) (hyr : y.rem src = mendL (x.pend ++ src.cps.toList.drop x.place.toNat)) (hy0 : y.off = 0) (hy1 : 1 ≤ y.size) :
    Cu.ok src al L ⟨y, vs ++ [.str (Txt.slice x.chunk (some x.off) none) t1], n⟩ ∧ ∀ m, Cu.mu src ⟨y, vs ++ [.str (Txt.slice x.chunk (some x.off) none) t1], n⟩ < Cu.mu src ⟨x, vs, m⟩ := by
  obtain ⟨ws', q1, q2, q3, q4⟩ := cu_end (n := 0) (t1 := t1) ok hv hL ha r he hy hyr
  have h4 := ok.off1
  have hs : ¬ y.off = y.size := by omega
  refine ⟨⟨hy, ws', q1, q2, q3, ?_⟩, fun m => ?_⟩
  · dsimp only
    rw [if_neg hs, List.length_append, List.length_singleton]
    split at hb <;> omega
  · unfold Cu.mu
    dsimp only
    rw [if_neg hs]
    split <;> omega
theorem cux_end {src : Str} {al : Nat → Bool} {L : List Nat} {x y : St} {vs : List Value} {n : Nat} {ws : List Str} {e : Int} {t1 : Tok} (ok : x.ok src) (hv : StrsAre vs ws) (hL : L = flat ws ++ x.rem src) (ha : ∀ d ∈ flat ws, al d = false)
    (r : RunTo al x e) (he : e = x.size) (hy : y.ok src) (hyr : y.rem src = mendL (x.pend ++ src.cps.toList.drop x.place.toNat)) (hy0 : y.rem src = []) (hvl : vs.length ≤ 50000) :
    CuX src al L ⟨y, vs ++ [.str (Txt.slice x.chunk (some x.off) none) t1], n⟩ := by
  obtain ⟨ws', q1, q2, q3, q4⟩ := cu_end (n := 0) (t1 := t1) ok hv hL ha r he hy hyr
  exact ⟨hy, by dsimp only; rw [List.length_append, List.length_singleton]; omega, ws', q1, q2, q3, fun d t h => by dsimp only at h; rw [hy0] at h; cases h⟩
section
variable {prog : Program} {w : World} {A : Around} {E : Value → Shared → Prop} {s : Shared} {h₀ : Heap} {L : Addr} {m : Str → Option Value} {news : List (Addr × Obj)}
theorem in_tupN {q : Addr} {items : List Value} {ys : List Str} {al : Nat → Bool} {c : Nat} {u : Tok} {Q : Value → Shared → Prop} (N : News h₀ L s.heap news) (hm : (q, tupO items) ∈ news) (hi : StrsAre items ys) (he : ∀ c : Nat, ys.any (· == ⟨#[c]⟩) = al c)
    (h : Q (.bool (al c)) s) : wpAny (model prog w) A (compareOp .In (.str ⟨#[c]⟩ u) (.ref q)) Q E s := in_tuple_strs ⟨_, (N _ hm).1, rfl, _, rfl⟩ hi (by rw [he]; exact h)
theorem meetW_fin {σ : Type} {g : Heap} {Led : σ → List (Addr × Obj)} {ps : σ → List (Str × Value)} {stored : List Str} {m₀ m' : Str → Option Value} {X : σ → Prop} {h' : Heap} {k : Nat} {news : List (Addr × Obj)} (c : σ)
    (F : Fr g L h' m') (N : News g L h' news) (hn : ∀ p ∈ Led c, p ∈ news) (hk : ∀ p ∈ ps c, m' p.1 = some p.2) (hr : ∀ z, (∀ p ∈ ps c, z ≠ p.1) → stored.contains z = false → m' z = m₀ z) (x : X c) : MeetW g L s Led ps stored m₀ X .next { s with heap := h', toks := k } :=
  meetW_end c m' (ksw_fr hk hr F) N hn x
theorem flat_sum : ∀ ws : List Str, (ws.map (·.length)).sum = (flat ws).length
  | [] => rfl
  | y :: r => by
    have := flat_sum r
    rw [List.map_cons, List.sum_cons, this]
    show y.length + _ = (flat ([y] ++ r)).length
    rw [show flat ([y] ++ r) = y.cps.toList ++ flat r from by simp [flat], List.length_append, len_toList]
theorem join_flats {D : Addr} {vs : List Value} {ws : List Str} {t : Tok} {Q : Value → Shared → Prop} (hl : s.heap.IsList D vs.toArray) (hi : StrsAre vs ws) (hn : vs.length ≤ 100000) (hm : (flat ws).length ≤ 100000)
    (h : ∀ t' k, Q (.str ⟨(flat ws).toArray⟩ t') { s with toks := k }) : wpAny (model prog w) A (call (.builtin "str.join") [.str (Str.ofString "") t, .ref D]) Q E s := by
  refine join_listW hl hi (by decide) ?_ (fun t' k => ?_)
  · rw [flat_sum, ← strs_len hi]; omega
  · have e : Txt.join (Str.ofString "") ws = ⟨(flat ws).toArray⟩ := Str.ext' (Array.toList_inj.mp (join_flat ws))
    rw [e]; exact h t' k
theorem sub_st2 {src : Str} {x : St} {value slice : Expr} {t u : Tok} {e : Int} {Q : Value → Shared → Prop} (ok : x.ok src) (h0 : 0 ≤ e) (h : e < x.size) (hq : ∀ c, x.chunk.cps[e.toNat]? = some c → Q (.str ⟨#[c]⟩ s.toks) { s with toks := s.toks + 1 })
    (hs : subscripted slice false (.str x.chunk t) (.int e u) = operate [.str x.chunk t, .int e u] (getItem (.str x.chunk t) (.int e u)) := by with_unfolding_all rfl)
    (ht : ∀ r, letTemporaryGo value (.str x.chunk t) r = pure () := by intro _; with_unfolding_all rfl) :
    wpAny (model prog w) A (subscriptTail value slice (.str x.chunk t) (.int e u)) Q E s := by
  obtain ⟨c, hc⟩ := ok.at2 h0 h
  have := ok.csize; have := ok.clen
  exact sub_chr h0 (by omega) hc (hq c hc) hs ht
end
theorem CuX.vlen {src : Str} {x : St} {ws : List Str} {y : St} (ok : x.ok src) (hL : x.rem src = flat ws ++ y.rem src) : (flat ws).length ≤ 100000 := by
  have := ok.remlen; rw [hL, List.length_append] at this; omega
end Mine

end
section
open PySem PySem.W PyProof.Rows PySem.Calls PySem.Spec PyProof.V
namespace Mine
theorem surr_le {z : Int} (h : surr z = false) : z ≤ 1114111 := by
  have := of_decide_eq_false h; omega
/-- a fault's token, with the number in it -/
structure FaultO (prog : Program) (w : World) (z : Int) (b : Addr) (oa ob : Obj) : Prop where
  tok : ∃ t1 t2, oa.IsDictOf (PySem.strKind prog w) [(Str.ofString "type", .int 7 t1), (Str.ofString "data", .str (Str.ofString "illegal-codepoint-for-numeric-entity") t2), (Str.ofString "datavars", .ref b)]
  vars : ∃ t, ob.IsDictOf (PySem.strKind prog w) [(Str.ofString "charAsInt", .int z t)]
/-- a fault's token, plain -/
def PlainO (prog : Program) (w : World) (n : Str) (oc : Obj) : Prop := ∃ t1 t2, oc.IsDictOf (PySem.strKind prog w) [(Str.ofString "type", .int 7 t1), (Str.ofString "data", .str n t2)]
def semiN : Str := Str.ofString "numeric-entity-without-semicolon"
theorem not_mods {a : Addr} (h : @LT.lt Nat _ 1 a) : (a == sysModules) = false := beq_eq_false_iff_ne.mpr (Nat.ne_of_gt h)
/-- what a number puts onto the queue -/
structure Adds (prog : Program) (w : World) (z : Int) (semi : Bool) (a b c : Addr) (oa ob oc : Obj) (adds : List Value) : Prop where
  eq : adds = (if ftZ z = true then [.ref a] else []) ++ (if semi = true then [.ref c] else [])
  flt : ftZ z = true → FaultO prog w z b oa ob
  sem : semi = true → PlainO prog w semiN oc
  loF : ftZ z = true → (a == sysModules) = false ∧ (b == sysModules) = false
  loS : semi = true → (c == sysModules) = false
theorem rep_of {z : Int} (h : inRepl z = true) : sgZ z = replC z.toNat ∧ ftZ z = true := by simp [sgZ, ftZ, h]
theorem surr_of {z : Int} (h0 : inRepl z = false) (h : surr z = true) : sgZ z = 65533 ∧ ftZ z = true := by simp [sgZ, ftZ, h0, h]
theorem flt_of {z : Int} (h0 : inRepl z = false) (h1 : surr z = false) (h : fltZ z = true) : sgZ z = z.toNat ∧ ftZ z = true := by simp [sgZ, ftZ, h0, h1, h]
theorem nof_of {z : Int} (h0 : inRepl z = false) (h1 : surr z = false) (h : fltZ z = false) : sgZ z = z.toNat ∧ ftZ z = false := by simp [sgZ, ftZ, h0, h1, h]
/-- what stands behind a number -/
def afterNum (r : List Nat) : List Nat := match r with | 59 :: t => t | r => r
def semiB (r : List Nat) : Bool := match r with | 59 :: _ => false | _ => true
theorem semi_nil : afterNum [] = [] ∧ semiB [] = true := ⟨rfl, rfl⟩
theorem semi_yes {r t : List Nat} {c : Nat} (hr : r = c :: t) (h : c = 59) : afterNum r = t ∧ semiB r = false := by subst hr; subst h; exact ⟨rfl, rfl⟩
theorem semi_no {r t : List Nat} {c : Nat} (hr : r = c :: t) (h : c ≠ 59) : afterNum r = c :: t ∧ semiB r = true := by
  subst hr
  constructor
  · unfold afterNum; split; (rename_i e; injection e with e; exact absurd e h); rfl
  · unfold semiB; split; (rename_i e; injection e with e; exact absurd e h); rfl
end Mine
namespace Mine
theorem ne59 {c : Nat} (h : ((⟨#[c]⟩ : Str) != Str.ofString ";") = true) : c ≠ 59 := by
  rintro rfl
  exact absurd h (by decide +kernel)
theorem eq59 {c : Nat} (h : ((⟨#[c]⟩ : Str) != Str.ofString ";") = false) : c = 59 := by
  have h1 : (⟨#[c]⟩ : Str) = Str.ofString ";" := by simpa using h
  have h2 : (Str.ofString ";") = ⟨#[59]⟩ := by decide +kernel
  rw [h2] at h1
  injection h1 with h1
  have := congrArg Array.toList h1
  simpa using this
theorem sem_n {r : List Nat} (e : r = []) : afterNum r = [] ∧ semiB r = true := by subst e; exact semi_nil
theorem sem_c {r t : List Nat} {c : Nat} (e : r = c :: t) (h : ((⟨#[c]⟩ : Str) != Str.ofString ";") = true) : afterNum r = c :: t ∧ semiB r = true := semi_no e (ne59 h)
theorem sem_s {r t : List Nat} {c : Nat} (e : r = c :: t) (h : ((⟨#[c]⟩ : Str) != Str.ofString ";") = false) : afterNum r = t ∧ semiB r = false := semi_yes e (eq59 h)
theorem ufffd : Str.ofString "�" = ⟨#[65533]⟩ := by decide +kernel
end Mine
namespace Mine
def lb1 (z : Int) : Bool := decide (z = 0 ∨ (55296 ≤ z ∧ z ≤ 57343) ∨ 1114111 < z)
def lb3 (z : Int) : Bool := decide (z < 9 ∨ z = 11 ∨ (13 ≤ z ∧ z ≤ 31) ∨ z = 127 ∨ (64976 ≤ z ∧ z ≤ 65007) ∨ 65533 < z % 65536)
theorem lb1_t {z : Int} (h : z = 0 ∨ (55296 ≤ z ∧ z ≤ 57343) ∨ 1114111 < z) : true = lb1 z := (decide_eq_true h).symm
theorem lb1_f {z : Int} (h : ¬ (z = 0 ∨ (55296 ≤ z ∧ z ≤ 57343) ∨ 1114111 < z)) : false = lb1 z := (decide_eq_false h).symm
theorem lb3_t {z : Int} (h : z < 9 ∨ z = 11 ∨ (13 ≤ z ∧ z ≤ 31) ∨ z = 127 ∨ (64976 ≤ z ∧ z ≤ 65007) ∨ 65533 < z % 65536) : true = lb3 z := (decide_eq_true h).symm
theorem lb3_f {z : Int} (h : ¬ (z < 9 ∨ z = 11 ∨ (13 ≤ z ∧ z ≤ 31) ∨ z = 127 ∨ (64976 ≤ z ∧ z ≤ 65007) ∨ 65533 < z % 65536)) : false = lb3 z := (decide_eq_false h).symm
theorem inNums_iff (z : Int) : ∀ ns : List Int, KTD.inNums z ns = true ↔ z ∈ ns
  | [] => by simp [KTD.inNums]
  | n :: r => by simp [KTD.inNums, inNums_iff z r]
theorem nonch_iff {z : Int} (h0 : 0 ≤ z) (h1 : z ≤ 1114111) : nonch z = true ↔ (z = 11 ∨ 65533 < z % 65536) := by
  unfold nonch
  rw [inNums_iff]
  constructor
  · exact (by decide +kernel : ∀ n ∈ nonchL, n = 11 ∨ 65533 < n % 65536) z
  · rintro (h | h)
    · subst h; decide +kernel
    · have q : ∀ q : Nat, q < 17 → (65536 * (q : Int) + 65534) ∈ nonchL ∧ (65536 * (q : Int) + 65535) ∈ nonchL := by decide +kernel
      have q1 := q (z / 65536).toNat (by omega)
      have e : z = 65536 * ((z / 65536).toNat : Int) + 65534 ∨ z = 65536 * ((z / 65536).toNat : Int) + 65535 := by omega
      rcases e with e | e
      · rw [e]; exact q1.1
      · rw [e]; exact q1.2
theorem lb1_of {z : Int} (h : lb1 z = true) : sgZ z = 65533 ∧ ftZ z = true := by
  have h := of_decide_eq_true h
  by_cases e : z = 0
  · subst e; decide +kernel
  · have h2 : surr z = true := decide_eq_true (by omega)
    have h3 : inRepl z = false := decide_eq_false (by omega)
    exact surr_of h3 h2
theorem lb1_le {z : Int} (h : lb1 z = false) : z ≤ 1114111 := by
  have := of_decide_eq_false h; omega
theorem lat_of {z : Int} (h1 : 128 ≤ z) (h2 : z ≤ 159) : sgZ z = latin.getD (z.toNat - 128) 0 ∧ ftZ z = true := by
  have h3 : inRepl z = true := decide_eq_true (by omega)
  obtain ⟨a, b⟩ := rep_of h3
  refine ⟨a.trans ?_, b⟩
  unfold replC
  rw [if_neg (by omega), if_neg (by omega)]
theorem lb34 {z : Int} (h0 : 0 ≤ z) (h1 : lb1 z = false) (h2 : ¬ (128 ≤ z ∧ z ≤ 159)) : sgZ z = z.toNat ∧ ftZ z = lb3 z := by
  have q := of_decide_eq_false h1
  have hs : surr z = false := decide_eq_false (fun h => q (.inr h))
  have hz := lb1_le h1
  by_cases e : z = 13
  · subst e; decide +kernel
  · have h3 : inRepl z = false := decide_eq_false (fun h => h.elim (fun h => q (.inl h)) (fun h => h.elim e h2))
    refine ⟨by simp [sgZ, h3, hs], ?_⟩
    simp only [ftZ, h3, hs, Bool.false_or, fltZ]
    rw [Bool.eq_iff_iff, Bool.or_eq_true, nonch_iff h0 hz, decide_eq_true_iff]
    unfold lb3
    rw [decide_eq_true_iff]
    have hz0 : z ≠ 0 := fun e => q (.inl e)
    clear q hs hz h3 h1
    constructor
    · rintro ((h | h | h | h) | (h | h))
      · exact .inl (by omega)
      · exact .inr (.inr (.inl ⟨by omega, h.2⟩))
      · exact .inr (.inr (.inr (.inl (by omega))))
      · exact .inr (.inr (.inr (.inr (.inl h))))
      · exact .inr (.inl h)
      · exact .inr (.inr (.inr (.inr (.inr h))))
    · rintro (h | h | h | h | h | h)
      · exact .inl (.inl (by omega))
      · exact .inr (.inl h)
      · exact .inl (.inr (.inl ⟨by omega, h.2⟩))
      · exact .inl (.inr (.inr (.inl (by omega))))
      · exact .inl (.inr (.inr (.inr h)))
      · exact .inr (.inr h)
theorem lb3_of {z : Int} (h0 : 0 ≤ z) (h1 : lb1 z = false) (h2 : ¬ (128 ≤ z ∧ z ≤ 159)) {b : Bool} (h3 : lb3 z = b) : sgZ z = z.toNat ∧ ftZ z = b := by
  have := lb34 h0 h1 h2; rw [h3] at this; exact this
end Mine
namespace Mine
theorem lb3_ft {z : Int} (h0 : 0 ≤ z) (h : 65533 < z.fmod 65536) : true = lb3 z := lb3_t (by rw [Int.fmod_eq_emod_of_nonneg z (by decide)] at h; omega)
theorem lb3_ff {z : Int} (h0 : 0 ≤ z) (h2 : ¬ (z < 9 ∨ z = 11 ∨ (13 ≤ z ∧ z ≤ 31) ∨ z = 127 ∨ (64976 ≤ z ∧ z ≤ 65007))) (h : ¬ 65533 < z.fmod 65536) : false = lb3 z := lb3_f (by rw [Int.fmod_eq_emod_of_nonneg z (by decide)] at h; omega)
theorem item_lat {x : Str} {z : Int} (h1 : 128 ≤ z) (h2 : z ≤ 159) (hx : x.cps.toList = latin) : Txt.item x (z - 128) = ⟨#[latin.getD (z.toNat - 128) 0]⟩ := by
  have e : x = ⟨latin.toArray⟩ := Str.ext' (by rw [← hx])
  subst e
  have : ∀ k : Nat, k < 32 → (Txt.item (⟨latin.toArray⟩ : Str) ((k : Nat) : Int) == ⟨#[latin.getD k 0]⟩) = true := by decide +kernel
  have q := this (z.toNat - 128) (by omega)
  rw [show ((z.toNat - 128 : Nat) : Int) = z - 128 from by omega] at q
  exact eq_of_beq q
/-- what the law's own table leaves -/
theorem ls_f {prog : Program} {w : World} {z : Int} {g h : Heap} {L : Addr} {m : Str → Option Value} {s : Shared} {tk n1 : Nat} {D lf a b : Addr} {oa ob : Obj} {x0 : Str} {t : Tok}
    (F : Fr g L h m) (N : News g L h [(D, tupO [.str x0 t, .ref lf]), (lf, W.listOf [Value.ref a].toArray n1), (b, ob), (a, oa)]) (hx : x0 = ⟨#[sgZ z]⟩) (hf : ftZ z = true) (f : FaultO prog w z b oa ob) (la : (a == sysModules) = false) (lb : (b == sysModules) = false) :
    CEnd g [] (fun v fr l => l = [] ∧ ∃ (q lf a b : Addr) (oa ob : Obj) (faults : List Value) (n : Nat) (t : Tok), v = .ref q ∧ fr = [(q, tupO [.str ⟨#[sgZ z]⟩ t, .ref lf]), (lf, W.listOf faults.toArray n), (a, oa), (b, ob)] ∧ faults = (if ftZ z = true then [.ref a] else []) ∧ FaultO prog w z b oa ob ∧ (a == sysModules) = false ∧ (b == sysModules) = false) s (.ref D) { s with heap := h, toks := tk } := by
  subst hx
  refine cendF (fr := [(D, tupO [.str ⟨#[sgZ z]⟩ t, .ref lf]), (lf, W.listOf [Value.ref a].toArray n1), (a, oa), (b, ob)]) (l := []) F N ?_ (fun _ _ _ h => nomatch h) ⟨rfl, D, lf, a, b, oa, ob, [.ref a], n1, t, rfl, rfl, by rw [if_pos hf], f, la, lb⟩
  repeat' (first | exact List.forall_mem_nil _ | exact List.Mem.head _ | refine List.Mem.tail _ ?_ | refine List.forall_mem_cons.mpr ⟨?_, ?_⟩)
theorem ls_n {prog : Program} {w : World} {z : Int} {g h : Heap} {L : Addr} {m : Str → Option Value} {s : Shared} {tk n1 : Nat} {D lf a b : Addr} {oa ob : Obj} {x0 : Str} {t : Tok}
    (F : Fr g L h m) (N : News g L h [(D, tupO [.str x0 t, .ref lf]), (lf, W.listOf [].toArray n1), (b, ob), (a, oa)]) (hx : x0 = ⟨#[sgZ z]⟩) (hf : ftZ z = false) (f : FaultO prog w z b oa ob) (la : (a == sysModules) = false) (lb : (b == sysModules) = false) :
    CEnd g [] (fun v fr l => l = [] ∧ ∃ (q lf a b : Addr) (oa ob : Obj) (faults : List Value) (n : Nat) (t : Tok), v = .ref q ∧ fr = [(q, tupO [.str ⟨#[sgZ z]⟩ t, .ref lf]), (lf, W.listOf faults.toArray n), (a, oa), (b, ob)] ∧ faults = (if ftZ z = true then [.ref a] else []) ∧ FaultO prog w z b oa ob ∧ (a == sysModules) = false ∧ (b == sysModules) = false) s (.ref D) { s with heap := h, toks := tk } := by
  subst hx
  refine cendF (fr := [(D, tupO [.str ⟨#[sgZ z]⟩ t, .ref lf]), (lf, W.listOf [].toArray n1), (a, oa), (b, ob)]) (l := []) F N ?_ (fun _ _ _ h => nomatch h) ⟨rfl, D, lf, a, b, oa, ob, [], n1, t, rfl, rfl, by rw [hf]; rfl, f, la, lb⟩
  repeat' (first | exact List.forall_mem_nil _ | exact List.Mem.head _ | refine List.Mem.tail _ ?_ | refine List.forall_mem_cons.mpr ⟨?_, ?_⟩)
end Mine
namespace Mine
def edgesL : List Int := [0, 8, 11, 13, 31, 127, 128, 159, 55296, 57343, 64976, 65007, 65534, 131070, 1114110, 1114112]
def tailsL : List Str := [Str.ofString "", Str.ofString " a", Str.ofString "g1;", Str.ofString "\x0d\n7", Str.ofString "&#5;", Str.ofString "<9", Str.ofString "١;", Str.ofString "x41;", Str.ofString "7", Str.ofString ";", Str.ofString "F;", Str.ofString "\x0d"]
end Mine

end
section
open PySem PySem.W PyProof.Rows PySem.Calls PySem.Spec PyProof.V
namespace Mine
/-- what consumeNumberEntity leaves -/
def CneP (prog : Program) (w : World) (K : Ks) (Z : Kz) (m7 : Tok) (tq : Addr) (qs : List Value) (z : Int) (r0 : List Nat) (v : Value) (l : Led) : Prop :=
  ∃ (x' : St) (a b c : Addr) (oa ob oc : Obj) (adds : List Value) (n' : Nat) (t : Tok), x'.ok K.src ∧ v = .str ⟨#[sgZ z]⟩ t ∧ x'.rem K.src = afterNum r0 ∧ (@LE.le Nat _ tq a ∧ @LE.le Nat _ tq b ∧ @LE.le Nat _ tq c) ∧ Adds prog w z (semiB r0) a b c oa ob oc adds ∧
    l = (Z.za, instObj 762 Z.zd) :: (Z.zd, Z.kd w K.st m7 tq) :: (tq, W.listOf (qs ++ adds).toArray n') :: (a, oa) :: (b, ob) :: (c, oc) :: K.led w x'
theorem cne_end {prog : Program} {w : World} {K : Ks} {Z : Kz} {m7 : Tok} {tq : Addr} {qs ql : List Value} {z : Int} {r0 : List Nat} {g h : Heap} {L : Addr} {m : Str → Option Value} {s : Shared} {lo nl rest : Led} {tk n1 : Nat} {y : St} {t : Tok} {a b c : Addr} {oa ob oc : Obj} {adds : List Value}
    (F : Fr g L h m) (N : News g L h nl) (hql : ql = qs ++ adds) (ht : Take ((Z.za, instObj 762 Z.zd) :: (Z.zd, Z.kd w K.st m7 tq) :: (tq, W.listOf ql.toArray n1) :: K.led w y) nl rest)
    (ma : (a, oa) ∈ nl) (mb : (b, ob) ∈ nl) (mc : (c, oc) ∈ nl) (ok : y.ok K.src) (hrem : y.rem K.src = afterNum r0) (la : @LE.le Nat _ tq a) (lb : @LE.le Nat _ tq b) (lc : @LE.le Nat _ tq c) (had : Adds prog w z (semiB r0) a b c oa ob oc adds) :
    CEnd g lo (noF (CneP prog w K Z m7 tq qs z r0)) s (.str ⟨#[sgZ z]⟩ t) { s with heap := h, toks := tk } := by
  subst hql
  have q := ht.sub
  refine cend F N ?_ ⟨y, a, b, c, oa, ob, oc, adds, n1, t, ok, rfl, hrem, ⟨la, lb, lc⟩, had, rfl⟩
  intro p hp
  rcases List.mem_cons.mp hp with rfl | hp
  · exact q _ (.head _)
  rcases List.mem_cons.mp hp with rfl | hp
  · exact q _ (.tail _ (.head _))
  rcases List.mem_cons.mp hp with rfl | hp
  · exact q _ (.tail _ (.tail _ (.head _)))
  rcases List.mem_cons.mp hp with rfl | hp
  · exact ma
  rcases List.mem_cons.mp hp with rfl | hp
  · exact mb
  rcases List.mem_cons.mp hp with rfl | hp
  · exact mc
  exact q p (.tail _ (.tail _ (.tail _ hp)))

end Mine

end
section
open PySem PySem.W PyProof.Rows PySem.Calls PySem.Spec PyProof.V
namespace Mine
/-- the writer's state -/
structure Wr where
  num : Int
  t1 : Tok
  way : Int
  t3 : Tok
  x : Str
  t2 : Tok
structure WrP (hex : Bool) (N : Int) (c : Wr) : Prop where
  num0 : 0 ≤ c.num
  num1 : c.num ≤ 1000000000000000000000000
  way0 : 0 ≤ c.way
  len : c.x.length ≤ 25
  val : c.num.toNat * (baseOf hex) ^ c.x.length + numV (baseOf hex) c.x.cps.toList = N.toNat
  bnd : N.toNat ≤ 1000000000000000000000000
  all : ∀ d ∈ c.x.cps.toList, alD hex d = true
structure WrX (hex : Bool) (N : Int) (x : Str) : Prop where
  len : x.length ≤ 25
  val : numV (baseOf hex) x.cps.toList = N.toNat
  all : ∀ d ∈ x.cps.toList, alD hex d = true
  ne : x.cps.toList ≠ []
def Wr.mu (c : Wr) : Nat := c.num.toNat + (if c.x.length = 0 then 1 else 0)
theorem WrP.start {hex : Bool} {N way : Int} {t1 t2 t3 : Tok} (h0 : 0 ≤ N) (h1 : N ≤ 1000000000000000000000000) (hw : 0 ≤ way) : WrP hex N ⟨N, t1, way, t3, Str.ofString "", t2⟩ := by
  have hl : (Str.ofString "").length = 0 := by decide +kernel
  have hc : (Str.ofString "").cps.toList = [] := by decide +kernel
  refine ⟨h0, h1, hw, by dsimp only; omega, ?_, by omega, ?_⟩
  · dsimp only; rw [hl, hc]; simp [numV]
  · dsimp only; rw [hc]; exact fun _ h => nomatch h

theorem numV_from (b : Nat) : ∀ (l : List Nat) (a : Nat), l.foldl (fun acc c => acc * b + figV c) a = a * b ^ l.length + numV b l
  | [], a => by simp [numV]
  | c :: r, a => by
    have h1 := numV_from b r (a * b + figV c)
    have h2 := numV_from b r (0 * b + figV c)
    show r.foldl _ (a * b + figV c) = _ + r.foldl _ (0 * b + figV c)
    rw [h1, h2, List.length_cons, Nat.pow_succ, Nat.add_mul, Nat.add_mul, Nat.zero_mul, Nat.zero_mul, Nat.zero_add, Nat.mul_assoc, Nat.mul_comm b (b ^ _), Nat.add_assoc]
theorem numV_cons (b c : Nat) (l : List Nat) : numV b (c :: l) = figV c * b ^ l.length + numV b l := by
  show l.foldl _ (0 * b + figV c) = _
  rw [numV_from, Nat.zero_mul, Nat.zero_add]
def goodFig (hex : Bool) (lit : Str) : Bool := (List.range (baseOf hex)).all fun k => match (Txt.item lit ((k : Nat) : Int)).cps.toList with | [c] => figV c == k && alD hex c | _ => false
theorem goodFig_at {hex : Bool} {lit : Str} (h : goodFig hex lit = true) {k : Nat} (hk : k < baseOf hex) : ∃ c, (Txt.item lit ((k : Nat) : Int)).cps.toList = [c] ∧ figV c = k ∧ alD hex c = true := by
  have := List.all_eq_true.mp h k (List.mem_range.mpr hk)
  split at this
  · rename_i c e
    rw [Bool.and_eq_true, beq_iff_eq] at this
    exact ⟨c, e, this.1, this.2⟩
  · cases this
theorem litL (hex : Bool) : goodFig hex (Str.ofString "0123456789abcdef") = true := by cases hex <;> decide +kernel
theorem litU (hex : Bool) : goodFig hex (Str.ofString "0123456789ABCDEF") = true := by cases hex <;> decide +kernel
theorem pow_len {B n len : Nat} (hB : 10 ≤ B) (hn : 0 < n) (h : n * B ^ len ≤ 1000000000000000000000000) : len ≤ 24 := by
  rcases Nat.lt_or_ge 24 len with hl | hl
  · exfalso
    have h1 : 10 ^ 25 ≤ 10 ^ len := Nat.pow_le_pow_right (by decide) hl
    have h2 : 10 ^ len ≤ B ^ len := Nat.pow_le_pow_left hB len
    have h3 : B ^ len ≤ n * B ^ len := Nat.le_mul_of_pos_left _ hn
    have h4 : (10 : Nat) ^ 25 = 10000000000000000000000000 := by decide
    omega
  · exact hl
theorem wr_step {hex : Bool} {N num wy b : Int} {t1 t3 t2 t1' t3' t2' : Tok} {x lit : Str} (hb : b = ((baseOf hex : Nat) : Int)) (hi : WrP hex N ⟨num, t1, wy, t3, x, t2⟩) (hg : 0 < num ∨ (x == Str.ofString "") = true) (hl : goodFig hex lit = true) :
    WrP hex N ⟨num.fdiv b, t1', wy.fdiv 2, t3', Txt.item lit (num.fmod b) ++ x, t2'⟩ ∧ Wr.mu ⟨num.fdiv b, t1', wy.fdiv 2, t3', Txt.item lit (num.fmod b) ++ x, t2'⟩ < Wr.mu ⟨num, t1, wy, t3, x, t2⟩ := by
  obtain ⟨h0, h1, hw, hlen, hval, hbnd, hall⟩ := hi
  dsimp only at *
  have hB : 10 ≤ baseOf hex := by cases hex <;> decide
  have hb0 : (0 : Int) ≤ b := by omega
  obtain ⟨n, rfl⟩ := Int.eq_ofNat_of_zero_le h0
  have e1 : (n : Int).fdiv b = ((n / baseOf hex : Nat) : Int) := by rw [hb]; rw [Int.fdiv_eq_ediv_of_nonneg _ (by omega)]; rfl
  have e2 : (n : Int).fmod b = ((n % baseOf hex : Nat) : Int) := by rw [hb]; rw [Int.fmod_eq_emod_of_nonneg _ (by omega)]; rfl
  rw [e1, e2]
  obtain ⟨c, hc1, hc2, hc3⟩ := goodFig_at hl (Nat.mod_lt n (by omega : 0 < baseOf hex))
  have ex : (Txt.item lit ((n % baseOf hex : Nat) : Int) ++ x).cps.toList = c :: x.cps.toList := by rw [toList_app, hc1]; rfl
  have el : (Txt.item lit ((n % baseOf hex : Nat) : Int) ++ x).length = x.length + 1 := by
    have := congrArg List.length ex
    rw [List.length_cons] at this
    simp only [Array.length_toList] at this
    exact this
  have hxl : x.cps.toList.length = x.length := by simp [Str.length]
  have hdiv : n / baseOf hex ≤ n := Nat.div_le_self _ _
  simp only [Int.toNat_natCast] at hval
  have hx0 : (x == Str.ofString "") = true → x.length = 0 := fun h => by rw [eq_of_beq h]; decide +kernel
  refine ⟨⟨Int.natCast_nonneg _, Int.le_trans (Int.ofNat_le.mpr hdiv) h1, ?_, ?_, ?_, hbnd, ?_⟩, ?_⟩
  · show 0 ≤ wy.fdiv 2
    rw [Int.fdiv_eq_ediv_of_nonneg _ (by decide)]; omega
  · dsimp only
    rw [el]
    rcases hg with hg | hg
    · have := pow_len hB (by omega : 0 < n) (by omega : n * baseOf hex ^ x.length ≤ _)
      omega
    · have := hx0 hg; omega
  · dsimp only
    rw [el, ex, numV_cons, hc2, hxl, Int.toNat_natCast, ← hval, Nat.pow_succ, Nat.mul_comm (baseOf hex ^ x.length) (baseOf hex), ← Nat.mul_assoc, ← Nat.add_assoc, ← Nat.add_mul]
    congr 2
    exact Nat.div_add_mod' n (baseOf hex)
  · dsimp only
    rw [ex]
    intro d hd
    rcases List.mem_cons.mp hd with rfl | hd
    · exact hc3
    · exact hall d hd
  · unfold Wr.mu
    dsimp only
    rw [el, if_neg (by omega : ¬ x.length + 1 = 0), Int.toNat_natCast, Int.toNat_natCast]
    rcases hg with hg | hg
    · have : n / baseOf hex < n := Nat.div_lt_self (by omega) (by omega)
      omega
    · rw [if_pos (hx0 hg)]; omega
theorem wr_exit {hex : Bool} {N num wy : Int} {t1 t3 t2 : Tok} {x : Str} (hi : WrP hex N ⟨num, t1, wy, t3, x, t2⟩) (h1 : ¬ 0 < num) (h2 : (x == Str.ofString "") = false) : WrX hex N x := by
  obtain ⟨h0, _, hw, hlen, hval, hbnd, hall⟩ := hi
  dsimp only at *
  have e : num = 0 := by omega
  subst e
  refine ⟨hlen, by simpa using hval, hall, fun e => ?_⟩
  have : x = Str.ofString "" := Str.ext' (by rw [← Array.toList_inj, e]; decide +kernel)
  rw [this] at h2
  exact absurd h2 (by decide +kernel)
end Mine

end
section
open PySem PySem.W PyProof.Rows PySem.Calls PySem.Spec PyProof.V
namespace Mine
section
variable {prog : Program} {w : World} {A : Around} {E : Value → Shared → Prop} {s : Shared} {g : Heap} {L : Addr} {m : Str → Option Value} {news : List (Addr × Obj)}
/-- a value on which ways meet, the objects as they were -/
structure MeetV (g : Heap) (L : Addr) (m : Str → Option Value) (news : List (Addr × Obj)) (P : Value → Prop) (s : Shared) (v : Value) (s' : Shared) : Prop where
  val : P v
  st : ∃ (h' : Heap) (k : Nat), s' = { s with heap := h', toks := k } ∧ Fr g L h' m ∧ News g L h' news
theorem wp_meetV {t : Sem Value} {Q : Value → Shared → Prop} (P : Value → Prop) (_ : Fr g L s.heap m) (_ : News g L s.heap news) (hq : ∀ v h' k, P v → Fr g L h' m → News g L h' news → Q v { s with heap := h', toks := k })
    (hw : wpAny (model prog w) A t (MeetV g L m news P s) E s) : wpAny (model prog w) A t Q E s :=
  wpAny_mono hw (fun v s' ⟨hv, h', k, e, F, N⟩ => by subst e; exact hq v h' k hv F N) (fun _ _ e => e)
theorem meetV_end {P : Value → Prop} {v : Value} {h' : Heap} {k : Nat} {news' : List (Addr × Obj)} (F : Fr g L h' m) (N : News g L h' news') (hn : ∀ p ∈ news, p ∈ news') (hv : P v) : MeetV g L m news P s v { s with heap := h', toks := k } := ⟨hv, h', k, rfl, F, fun p hp => N p (hn p hp)⟩
/-- a value on which ways meet, with two new objects -/
structure MeetD (g : Heap) (L : Addr) (m : Str → Option Value) (news : List (Addr × Obj)) (P : Value → Addr → Obj → Addr → Obj → Prop) (s : Shared) (v : Value) (s' : Shared) : Prop where
  st : ∃ (h' : Heap) (k : Nat) (a b : Addr) (oa ob : Obj), P v a oa b ob ∧ s' = { s with heap := h', toks := k } ∧ Fr g L h' m ∧ News g L h' ((a, oa) :: (b, ob) :: news)
theorem wp_meetD {t : Sem Value} {Q : Value → Shared → Prop} (P : Value → Addr → Obj → Addr → Obj → Prop) (_ : Fr g L s.heap m) (_ : News g L s.heap news)
    (hq : ∀ v a oa b ob h' k, P v a oa b ob → Fr g L h' m → News g L h' ((a, oa) :: (b, ob) :: news) → Q v { s with heap := h', toks := k })
    (hw : wpAny (model prog w) A t (MeetD g L m news P s) E s) : wpAny (model prog w) A t Q E s :=
  wpAny_mono hw (fun v s' ⟨h', k, a, b, oa, ob, hv, e, F, N⟩ => by subst e; exact hq v a oa b ob h' k hv F N) (fun _ _ e => e)
theorem meetD_end {P : Value → Addr → Obj → Addr → Obj → Prop} {v : Value} {h' : Heap} {k : Nat} {news' : List (Addr × Obj)} (a : Addr) (oa : Obj) (b : Addr) (ob : Obj) (F : Fr g L h' m) (N : News g L h' news') (hn : ∀ p ∈ (a, oa) :: (b, ob) :: news, p ∈ news') (hv : P v a oa b ob) :
    MeetD g L m news P s v { s with heap := h', toks := k } := ⟨h', k, a, b, oa, ob, hv, rfl, F, fun p hp => N p (hn p hp)⟩
/-- a list of ints on which ways meet -/
structure MeetL (g : Heap) (L : Addr) (m : Str → Option Value) (news : List (Addr × Obj)) (s : Shared) (v : Value) (s' : Shared) : Prop where
  st : ∃ (h' : Heap) (k : Nat) (l : Addr) (vs : List Value) (n : Nat) (ns : List Int), v = .ref l ∧ IntsAre vs ns ∧ vs.length ≤ 1000 ∧ s' = { s with heap := h', toks := k } ∧ Fr g L h' m ∧ News g L h' ((l, W.listOf vs.toArray n) :: news)
theorem wp_meetL {t : Sem Value} {Q : Value → Shared → Prop} (_ : Fr g L s.heap m) (_ : News g L s.heap news)
    (hq : ∀ l vs n ns h' k, IntsAre vs ns → vs.length ≤ 1000 → Fr g L h' m → News g L h' ((l, W.listOf vs.toArray n) :: news) → Q (.ref l) { s with heap := h', toks := k })
    (hw : wpAny (model prog w) A t (MeetL g L m news s) E s) : wpAny (model prog w) A t Q E s :=
  wpAny_mono hw (fun v s' ⟨h', k, l, vs, n, ns, hv, hi, hl, e, F, N⟩ => by subst e; subst hv; exact hq l vs n ns h' k hi hl F N) (fun _ _ e => e)
theorem meetL_end {h' : Heap} {k : Nat} {news' : List (Addr × Obj)} {l : Addr} {vs : List Value} {n : Nat} {ns : List Int} (F : Fr g L h' m) (N : News g L h' news') (hn : ∀ p ∈ (l, W.listOf vs.toArray n) :: news, p ∈ news') (hi : IntsAre vs ns) (hl : vs.length ≤ 1000) :
    MeetL g L m news s (.ref l) { s with heap := h', toks := k } := ⟨h', k, l, vs, n, ns, rfl, hi, hl, rfl, F, fun p hp => N p (hn p hp)⟩
end
end Mine
namespace Mine
theorem ints_len : ∀ {vs : List Value} {ns : List Int}, IntsAre vs ns → vs.length = ns.length
  | _, _, .nil => rfl
  | _, _, .cons _ _ h => by rw [List.length_cons, List.length_cons, ints_len h]
theorem take3_len {vs : List Value} {ns : List Int} (h : IntsAre vs (List.take 3 ns)) : vs.length ≤ 1000 := by
  rw [ints_len h, List.length_take]; omega
end Mine

end
section
open PySem PySem.W PyProof.Rows PySem.Calls PySem.Spec PyProof.V
namespace Mine
theorem edges_le (k : Nat) : edgesL.getD k 0 ≤ 1114112 := by
  rcases Nat.lt_or_ge k 16 with h | h
  · have : ∀ k : Nat, k < 16 → edgesL.getD k 0 ≤ 1114112 := by decide +kernel
    exact this k h
  · rw [List.getD_eq_getElem?_getD, List.getElem?_eq_none (by exact h)]; decide
theorem num_ok {e q b : Int} {k j : Nat} (he : e = edgesL.getD j 0) :
    0 ≤ [if e + b.fmod 5 - 2 > 0 then e + b.fmod 5 - 2 else 0, q.fmod 1179648, q.fmod 65536, q.fmod (10 ^ Int.toNat 24)].getD k 0 ∧
    [if e + b.fmod 5 - 2 > 0 then e + b.fmod 5 - 2 else 0, q.fmod 1179648, q.fmod 65536, q.fmod (10 ^ Int.toNat 24)].getD k 0 ≤ 1000000000000000000000000 := by
  have h1 : e ≤ 1114112 := by rw [he]; exact edges_le j
  have h2 := Int.fmod_lt_of_pos b (show (0 : Int) < 5 by decide)
  have h3 := Int.fmod_nonneg_of_pos b (show (0 : Int) < 5 by decide)
  have e4 : (10 : Int) ^ Int.toNat 24 = 1000000000000000000000000 := by decide +kernel
  have a1 := Int.fmod_lt_of_pos q (show (0 : Int) < 1179648 by decide)
  have a2 := Int.fmod_nonneg_of_pos q (show (0 : Int) < 1179648 by decide)
  have a3 := Int.fmod_lt_of_pos q (show (0 : Int) < 65536 by decide)
  have a4 := Int.fmod_nonneg_of_pos q (show (0 : Int) < 65536 by decide)
  have a5 := Int.fmod_lt_of_pos q (show (0 : Int) < 1000000000000000000000000 by decide)
  have a6 := Int.fmod_nonneg_of_pos q (show (0 : Int) < 1000000000000000000000000 by decide)
  rw [e4]
  match k with
  | 0 => simp only [List.getD_cons_zero]; split <;> omega
  | 1 => simp only [List.getD_cons_succ, List.getD_cons_zero]; omega
  | 2 => simp only [List.getD_cons_succ, List.getD_cons_zero]; omega
  | 3 => simp only [List.getD_cons_succ, List.getD_cons_zero]; omega
  | (n + 4) => simp
/-- the tails -/
def okTail (x : Str) : Bool := x.cps.toList.all (· < 55296) && decide (x.length ≤ 5)
def openTail (x : Str) : Bool := okTail x && (match mendL x.cps.toList with | [] => true | c :: _ => c != 59 && alD true c == false && alD false c == false)
theorem tails_ok : tailsL.all okTail = true := by decide +kernel
theorem tails_open : (tailsL.take 8).all openTail = true := by decide +kernel
structure TailIs (cl : Bool) (x : Str) : Prop where
  small : ∀ c ∈ x.cps.toList, c < 55296
  len : x.length ≤ 5
  opn : cl = false → ∀ c t, mendL x.cps.toList = c :: t → c ≠ 59 ∧ alD true c = false ∧ alD false c = false
theorem tailIs_of {cl : Bool} {x : Str} (h : x ∈ tailsL) (h2 : cl = false → x ∈ tailsL.take 8) : TailIs cl x := by
  have h1 := List.all_eq_true.mp tails_ok x h
  unfold okTail at h1
  rw [Bool.and_eq_true, List.all_eq_true, decide_eq_true_iff] at h1
  refine ⟨fun c hc => by simpa using h1.1 c hc, h1.2, fun hcl c t e => ?_⟩
  have h3 := List.all_eq_true.mp tails_open x (h2 hcl)
  unfold openTail at h3
  rw [e, Bool.and_eq_true] at h3
  have h4 := h3.2
  simp only [Bool.and_eq_true, bne_iff_ne, ne_eq, beq_iff_eq] at h4
  exact ⟨h4.1.1, h4.1.2, h4.2⟩
theorem getD_mem {xs : List Str} {k : Nat} (h : k < xs.length) : xs.getD k ⟨#[]⟩ ∈ xs := by
  rw [List.getD_eq_getElem?_getD, List.getElem?_eq_getElem h]; exact List.getElem_mem h
/-- the text that the law writes -/
structure TextIs (hex cl : Bool) (z : Int) (tl x : Str) : Prop where
  ex : ∃ (k : Nat) (y : Str), k ≤ 3 ∧ WrX hex z y ∧ x.cps.toList = List.replicate k 48 ++ y.cps.toList ++ (if cl = true then [59] else []) ++ tl.cps.toList
theorem al_small {hex : Bool} {d : Nat} (h : alD hex d = true) : d < 128 ∧ d ≠ 13 := by
  rcases alD_cases h with h | ⟨_, h | h⟩ <;> omega
theorem al48 (hex : Bool) : alD hex 48 = true := by cases hex <;> decide
theorem al59 (hex : Bool) : alD hex 59 = false := by cases hex <;> decide
theorem numV_zeros (b : Nat) (l : List Nat) : ∀ k, numV b (List.replicate k 48 ++ l) = numV b l
  | 0 => rfl
  | k + 1 => by rw [List.replicate_succ, List.cons_append, numV_cons, numV_zeros b l k]; simp [figV]
/-- what a reader sees of it -/
structure SeenIs (hex cl : Bool) (z : Int) (tl : Str) (r : List Nat) : Prop where
  ex : ∃ ds r0, r = ds ++ r0 ∧ (∀ d ∈ ds, alD hex d = true) ∧ (∀ c t, r0 = c :: t → alD hex c = false) ∧ ds ≠ [] ∧ ds.length ≤ 640 ∧ ((numV (baseOf hex) ds : Nat) : Int) = z ∧ semiB r0 = !cl ∧ afterNum r0 = mendL tl.cps.toList
theorem TextIs.len {hex cl : Bool} {z : Int} {tl x : Str} (h : TextIs hex cl z tl x) (ht : TailIs cl tl) : x.length ≤ 10000 := by
  obtain ⟨k, y, hk, hy, e⟩ := h.ex
  have h1 := hy.len; have h2 := ht.len
  have := congrArg List.length e
  simp only [List.length_append, List.length_replicate, len_toList] at this
  have h3 : (if cl = true then [59] else [] : List Nat).length ≤ 1 := by split <;> simp
  omega
theorem TextIs.small {hex cl : Bool} {z : Int} {tl x : Str} (h : TextIs hex cl z tl x) (ht : TailIs cl tl) : ∀ c ∈ x.cps.toList, c < 55296 := by
  obtain ⟨k, y, hk, hy, e⟩ := h.ex
  intro c hc
  rw [e] at hc
  simp only [List.mem_append, List.mem_replicate] at hc
  rcases hc with ((hc | hc) | hc) | hc
  · omega
  · have := al_small (hy.all c hc); omega
  · split at hc
    · simp at hc; omega
    · cases hc
  · exact ht.small c hc
theorem TextIs.seen {hex cl : Bool} {z : Int} {tl x : Str} (hz : 0 ≤ z) (h : TextIs hex cl z tl x) (ht : TailIs cl tl) : SeenIs hex cl z tl (mendL x.cps.toList) := by
  obtain ⟨k, y, hk, hy, e⟩ := h.ex
  have h1 := hy.len
  have hall : ∀ d ∈ List.replicate k 48 ++ y.cps.toList, alD hex d = true := by
    intro d hd
    rcases List.mem_append.mp hd with hd | hd
    · rw [(List.mem_replicate.mp hd).2]; exact al48 hex
    · exact hy.all d hd
  have hnum : ((numV (baseOf hex) (List.replicate k 48 ++ y.cps.toList) : Nat) : Int) = z := by rw [numV_zeros, hy.val]; omega
  have hne : List.replicate k 48 ++ y.cps.toList ≠ [] := fun e => hy.ne (List.append_eq_nil_iff.mp e).2
  have hlen : (List.replicate k 48 ++ y.cps.toList).length ≤ 640 := by rw [List.length_append, List.length_replicate, len_toList]; omega
  have hp : ∀ c ∈ List.replicate k 48 ++ y.cps.toList, c ≠ 13 := fun c hc => (al_small (hall c hc)).2
  cases cl with
  | true =>
    refine ⟨_, 59 :: mendL tl.cps.toList, ?_, hall, ?_, hne, hlen, hnum, rfl, rfl⟩
    · rw [e, if_pos rfl, List.append_assoc (_ ++ _), mendL_F, mendL_plain _ _ hp, mendL_F tl.cps.toList]
      rfl
    · intro c t e; injection e with e; rw [← e]; exact al59 hex
  | false =>
    have e2 : mendL x.cps.toList = (List.replicate k 48 ++ y.cps.toList) ++ mendL tl.cps.toList := by
      rw [e, if_neg (by simp), List.append_nil, mendL_F, mendL_plain _ _ hp, mendL_F tl.cps.toList]
    refine ⟨_, _, e2, hall, ?_, hne, hlen, hnum, ?_, ?_⟩
    · intro c t ec
      obtain ⟨_, q1, q2⟩ := ht.opn rfl c t ec
      cases hex
      · exact q2
      · exact q1
    · cases q : mendL tl.cps.toList with
      | nil => rfl
      | cons c t => exact (semi_no rfl (ht.opn rfl c t q).1).2
    · cases q : mendL tl.cps.toList with
      | nil => rfl
      | cons c t => exact (semi_no rfl (ht.opn rfl c t q).1).1
end Mine
namespace Mine
section
variable {prog : Program} {w : World} {A : Around} {E : Value → Shared → Prop} {s : Shared} {g : Heap} {L : Addr} {m : Str → Option Value} {news : List (Addr × Obj)}
theorem item_tail12 {value slice : Expr} {a : Addr} {l : List Value} {n : Nat} {b : Int} {u : Tok} {Q : Value → Shared → Prop} (N : News g L s.heap news) (hm : (a, W.listOf l.toArray n) ∈ news) (hi : StrsAre l tailsL)
    (h : ∀ x t, TailIs true x → Q (.str x t) s)
    (hs : subscripted slice false (.ref a) (.int (b.fmod 12) u) = operate [.ref a, .int (b.fmod 12) u] (getItem (.ref a) (.int (b.fmod 12) u)) := by with_unfolding_all rfl) :
    wpAny (model prog w) A (subscriptTail value slice (.ref a) (.int (b.fmod 12) u)) Q E s := by
  have h1 := Int.fmod_lt_of_pos b (show (0 : Int) < 12 by decide)
  have h2 := Int.fmod_nonneg_of_pos b (show (0 : Int) < 12 by decide)
  have hl : tailsL.length = 12 := rfl
  refine KTb.item_list (News.isList N hm) hi h2 (by rw [hl]; exact h1) (by omega) (fun t' _ => h _ t' (tailIs_of ?_ (fun e => nomatch e))) hs
  rw [List.getD_eq_getElem?_getD, List.getElem?_eq_getElem (by rw [hl]; omega)]
  exact List.getElem_mem _
theorem item_tail8 {value slice : Expr} {a : Addr} {l : List Value} {n : Nat} {b : Int} {u : Tok} {Q : Value → Shared → Prop} (N : News g L s.heap news) (hm : (a, W.listOf l.toArray n) ∈ news) (hi : StrsAre l tailsL)
    (h : ∀ x t, TailIs false x → Q (.str x t) s)
    (hs : subscripted slice false (.ref a) (.int (b.fmod 8) u) = operate [.ref a, .int (b.fmod 8) u] (getItem (.ref a) (.int (b.fmod 8) u)) := by with_unfolding_all rfl) :
    wpAny (model prog w) A (subscriptTail value slice (.ref a) (.int (b.fmod 8) u)) Q E s := by
  have h1 := Int.fmod_lt_of_pos b (show (0 : Int) < 8 by decide)
  have h2 := Int.fmod_nonneg_of_pos b (show (0 : Int) < 8 by decide)
  have hl : tailsL.length = 12 := rfl
  have hlt : (b.fmod 8).toNat < 8 := by omega
  have e0 : tailsL.getD (b.fmod 8).toNat Str.empty = (tailsL.take 8).getD (b.fmod 8).toNat Str.empty := by
    have : ∀ k : Nat, k < 8 → tailsL.getD k Str.empty = (tailsL.take 8).getD k Str.empty := by decide +kernel
    exact this _ hlt
  have hmem : tailsL.getD (b.fmod 8).toNat Str.empty ∈ tailsL.take 8 := by
    rw [e0, List.getD_eq_getElem?_getD, List.getElem?_eq_getElem (by exact hlt)]
    exact List.getElem_mem _
  exact KTb.item_list (News.isList N hm) hi h2 (by rw [hl]; omega) (by omega) (fun t' _ => h _ t' (tailIs_of (List.mem_of_mem_take hmem) (fun _ => hmem))) hs
end
end Mine
namespace Mine
theorem tail_cast {cl b : Bool} {x : Str} (h : cl = b) (hx : TailIs b x) : TailIs cl x := by subst h; exact hx
end Mine
namespace Mine
section
variable {prog : Program} {w : World} {A : Around} {E : Value → Shared → Prop} {s : Shared} {g : Heap} {L : Addr} {m : Str → Option Value} {news : List (Addr × Obj)}
theorem add_fs {lf l2 : Addr} {fs ys : List Value} {n1 n2 : Nat} {Q : Value → Shared → Prop} (F : Fr g L s.heap m) (N : News g L s.heap news) (h1 : (lf, W.listOf fs.toArray n1) ∈ news) (h2 : (l2, W.listOf ys.toArray n2) ∈ news) (hf : fs.length + ys.length ≤ 100)
    (h : ∀ D h', Fr g L h' m → News g L h' ((D, W.listOf (fs ++ ys).toArray 0) :: news) → (∀ p ∈ news, p.1 < D) → Q (.ref D) { s with heap := h' }) :
    wpAny (model prog w) A (binaryOp .Add (.ref lf) (.ref l2)) Q E s :=
  kmk_add_lit F N (News.isList N h1) (News.isList N h2) (by simp) h (by rw [sizeLine_eq]; simp; omega)
theorem fs_len {z : Int} {fs : List Value} {a : Addr} (h : fs = if ftZ z = true then [.ref a] else []) : fs.length ≤ 1 := by subst h; split <;> simp
theorem adds_closed {z : Int} {cl : Bool} {fs : List Value} {a b c : Addr} {oa ob oc : Obj} (hcl : cl = true) (hfs : fs = if ftZ z = true then [.ref a] else []) (hfo : FaultO prog w z b oa ob) (la : (a == sysModules) = false) (lb : (b == sysModules) = false) : Adds prog w z (!cl) a b c oa ob oc (fs ++ []) := by
  subst hcl
  exact ⟨by rw [hfs]; rfl, fun _ => hfo, (fun h => nomatch h), fun _ => ⟨la, lb⟩, (fun h => nomatch h)⟩
theorem adds_open {z : Int} {cl : Bool} {fs : List Value} {a b c : Addr} {oa ob oc : Obj} (hcl : cl = false) (hfs : fs = if ftZ z = true then [.ref a] else []) (hfo : FaultO prog w z b oa ob) (la : (a == sysModules) = false) (lb : (b == sysModules) = false) (hp : PlainO prog w semiN oc) (lc : (c == sysModules) = false) : Adds prog w z (!cl) a b c oa ob oc (fs ++ [.ref c]) := by
  subst hcl
  exact ⟨by rw [hfs]; rfl, fun _ => hfo, fun _ => hp, fun _ => ⟨la, lb⟩, fun _ => lc⟩
theorem meetD_closed {P : Value → Addr → Obj → Addr → Obj → Prop} {h' : Heap} {k : Nat} {D l2 : Addr} {od o2 : Obj} (F : Fr g L h' m) (N : News g L h' ((D, od) :: (l2, o2) :: news)) (hv : P (.ref D) D od D od) : MeetD g L m news P s (.ref D) { s with heap := h', toks := k } :=
  meetD_end D od D od F N (fun p hp => by
    rcases List.mem_cons.mp hp with rfl | hp
    · exact .head _
    · rcases List.mem_cons.mp hp with rfl | hp
      · exact .head _
      · exact .tail _ (.tail _ hp)) hv
theorem meetD_open {P : Value → Addr → Obj → Addr → Obj → Prop} {h' : Heap} {k : Nat} {D l2 c : Addr} {od o2 oc : Obj} (F : Fr g L h' m) (N : News g L h' ((D, od) :: (l2, o2) :: (c, oc) :: news)) (hv : P (.ref D) D od c oc) : MeetD g L m news P s (.ref D) { s with heap := h', toks := k } :=
  meetD_end D od c oc F N (fun p hp => by
    rcases List.mem_cons.mp hp with rfl | hp
    · exact .head _
    · rcases List.mem_cons.mp hp with rfl | hp
      · exact .tail _ (.tail _ (.head _))
      · exact .tail _ (.tail _ (.tail _ hp))) hv
end
end Mine
namespace Mine
theorem base_is {g h : Heap} {L : Addr} {m : Str → Option Value} {b : Int} {t : Tok} (_ : Fr g L h m) (_ : m (Str.ofString "base") = some (.int b t)) : True := trivial
end Mine
namespace Mine
section
variable {prog : Program} {w : World} {A : Around} {E : Value → Shared → Prop} {Q : Flow → Shared → Prop} {s : Shared} {env : Env} {h₀ : Heap} {x : Str} {body : List Stmt} {m₀ : Str → Option Value}
/-- a loop over a written list of two ints, the ledger as it stands -/
theorem kst_two {l2 : Addr} {n1 n2 : Int} {t1 t2 : Tok} {nn : Nat} (stored : List Str) (rest : List (Addr × Obj)) (hh : A.handled = none) (F : Fr h₀ env.locals s.heap m₀) (N : News h₀ env.locals s.heap ((l2, W.listOf [Value.int n1 t1, Value.int n2 t2].toArray nn) :: rest))
    (turn : ∀ n t (u : Str → Option Value) h tk own pre, (n = n1 ∨ n = n2) → Fr h₀ env.locals h (fun y => if y = x then some (.int n t) else kstB (fun z => if stored.contains z then u z else m₀ z) [] y) →
      News h₀ env.locals h ((l2, W.listOf [Value.int n1 t1, Value.int n2 t2].toArray nn) :: (rest ++ own)) →
      wpAny (model prog w) A (execs body env) (InvPostN h₀ env.locals (KstS (σ := Unit) (fun _ => (l2, W.listOf [Value.int n1 t1, Value.int n2 t2].toArray nn) :: rest) (fun _ => []) (fun _ => True) x stored m₀ (fun _ _ => True) pre) own (((l2, W.listOf [Value.int n1 t1, Value.int n2 t2].toArray nn) :: rest).map (·.1)) { s with heap := h, toks := tk } Q) E { s with heap := h, toks := tk })
    (done : ∀ (u : Str → Option Value) h tk, Fr h₀ env.locals h (fun y => if y = x then u y else kstB (fun z => if stored.contains z then u z else m₀ z) [] y) → News h₀ env.locals h ((l2, W.listOf [Value.int n1 t1, Value.int n2 t2].toArray nn) :: rest) → Q .next { s with heap := h, toks := tk }) :
    wpAny (model prog w) A (pyIter (.ref l2)) (fun it s₂ => LoopAtV prog w A h₀ env x body Q E it s₂) E s :=
  kst_listL (σ := Unit) (vs := [.int n1 t1, .int n2 t2]) (nn := nn) (fun _ => (l2, W.listOf [Value.int n1 t1, Value.int n2 t2].toArray nn) :: rest) (fun _ => []) (fun _ => True) stored (fun _ _ => True) () hh (fun _ => .head _) (.cons _ _ (.cons _ _ .nil)) F N trivial (fun _ h => nomatch h) trivial
    (fun c pre post n t u h tk own hns hmem _ _ _ F' N' => turn n t u h tk own (pre ++ [n]) (by simpa using hmem) F' N') (fun c u h tk _ _ F' N' => done u h tk F' N')
end
end Mine
namespace Mine
/-- the text's parts -/
structure PreIs (hex : Bool) (z : Int) (p : Str) : Prop where
  ex : ∃ (k : Nat) (y : Str), k ≤ 3 ∧ WrX hex z y ∧ p.cps.toList = List.replicate k 48 ++ y.cps.toList
structure MidIs (hex cl : Bool) (z : Int) (p : Str) : Prop where
  ex : ∃ (k : Nat) (y : Str), k ≤ 3 ∧ WrX hex z y ∧ p.cps.toList = List.replicate k 48 ++ y.cps.toList ++ (if cl = true then [59] else [])
theorem mul0 (b : Int) : ∃ k : Nat, k ≤ 3 ∧ (Txt.mul (Str.ofString "0") (b.fmod 4)).cps.toList = List.replicate k 48 := by
  have h1 := Int.fmod_lt_of_pos b (show (0 : Int) < 4 by decide)
  have h2 := Int.fmod_nonneg_of_pos b (show (0 : Int) < 4 by decide)
  have h : b.fmod 4 = 0 ∨ b.fmod 4 = 1 ∨ b.fmod 4 = 2 ∨ b.fmod 4 = 3 := by omega
  rcases h with h | h | h | h <;> rw [h]
  · exact ⟨0, by decide, by decide +kernel⟩
  · exact ⟨1, by decide, by decide +kernel⟩
  · exact ⟨2, by decide, by decide +kernel⟩
  · exact ⟨3, by decide, by decide +kernel⟩
theorem PreIs.len {hex : Bool} {z : Int} {p : Str} (h : PreIs hex z p) : p.length ≤ 28 := by
  obtain ⟨k, y, hk, hy, e⟩ := h.ex
  have := congrArg List.length e
  simp only [List.length_append, List.length_replicate, len_toList] at this
  have := hy.len; omega
theorem MidIs.len {hex cl : Bool} {z : Int} {p : Str} (h : MidIs hex cl z p) : p.length ≤ 29 := by
  obtain ⟨k, y, hk, hy, e⟩ := h.ex
  have := congrArg List.length e
  simp only [List.length_append, List.length_replicate, len_toList] at this
  have h3 : (if cl = true then [59] else [] : List Nat).length ≤ 1 := by split <;> simp
  have := hy.len; omega
section
variable {prog : Program} {w : World} {A : Around} {E : Value → Shared → Prop} {s : Shared} {hex cl : Bool} {z b : Int} {x p tl : Str} {t u : Tok} {Q : Value → Shared → Prop}
theorem sum1 (hx : WrX hex z x) (h : ∀ p t' k, PreIs hex z p → Q (.str p t') { s with toks := k }) : wpAny (model prog w) A (binaryOp .Add (.str (Txt.mul (Str.ofString "0") (b.fmod 4)) t) (.str x u)) Q E s := by
  obtain ⟨k, hk, e⟩ := mul0 b
  have hl : (Txt.mul (Str.ofString "0") (b.fmod 4)).length ≤ 3 := by rw [← len_toList, e, List.length_replicate]; exact hk
  have h2 := hx.len
  exact SBL.add (fun t' tk _ => h _ t' tk ⟨k, x, hk, hx, by rw [toList_app, e]⟩) (by rw [sizeLine_eq]; omega)
theorem sum2a (hp : PreIs hex z p) (hcl : cl = true) (h : ∀ p t' k, MidIs hex cl z p → Q (.str p t') { s with toks := k }) : wpAny (model prog w) A (binaryOp .Add (.str p t) (.str (Str.ofString ";") u)) Q E s := by
  have h1 := hp.len
  obtain ⟨k, y, hk, hy, e⟩ := hp.ex
  have e2 : (Str.ofString ";").cps.toList = [59] := by decide +kernel
  have h2 : (Str.ofString ";").length = 1 := by decide +kernel
  exact SBL.add (fun t' tk _ => h _ t' tk ⟨k, y, hk, hy, by rw [toList_app, e, e2, if_pos hcl]⟩) (by rw [sizeLine_eq]; omega)
theorem sum2b (hp : PreIs hex z p) (hcl : cl = false) (h : ∀ p t' k, MidIs hex cl z p → Q (.str p t') { s with toks := k }) : wpAny (model prog w) A (binaryOp .Add (.str p t) (.str (Str.ofString "") u)) Q E s := by
  have h1 := hp.len
  obtain ⟨k, y, hk, hy, e⟩ := hp.ex
  have e2 : (Str.ofString "").cps.toList = [] := by decide +kernel
  have h2 : (Str.ofString "").length = 0 := by decide +kernel
  exact SBL.add (fun t' tk _ => h _ t' tk ⟨k, y, hk, hy, by rw [toList_app, e, e2, if_neg (by rw [hcl]; simp)]⟩) (by rw [sizeLine_eq]; omega)
theorem sum3 (hp : MidIs hex cl z p) (ht : TailIs cl tl) (h : ∀ p t' k, TextIs hex cl z tl p → Q (.str p t') { s with toks := k }) : wpAny (model prog w) A (binaryOp .Add (.str p t) (.str tl u)) Q E s := by
  have h1 := hp.len; have h2 := ht.len
  obtain ⟨k, y, hk, hy, e⟩ := hp.ex
  exact SBL.add (fun t' tk _ => h _ t' tk ⟨k, y, hk, hy, by rw [toList_app, e]⟩) (by rw [sizeLine_eq]; omega)
end
end Mine

end
section
open PySem PySem.W PyProof.Rows PySem.Calls PySem.Spec PyProof.V
namespace Mine
/-- two values are equal, in this one model -/
def EqW (prog : Program) (w : World) (A : Around) (s : Shared) (v y : Value) : Prop :=
  ∀ (E : Value → Shared → Prop) (Q : Bool → Shared → Prop), Q true s → wpAny (model prog w) A (eqBool v y) Q E s
section
variable {prog : Program} {w : World} {A : Around} {E : Value → Shared → Prop} {s : Shared}
theorem EqW.int {z : Int} {t u : Tok} : EqW prog w A s (.int z t) (.int z u) := fun E Q hq => by
  have q := keq_flat (A := A) (s := s) (Flat.int z t) (Flat.int z u) prog w E Q
  refine q ?_
  simpa [PyData.eqv] using hq
theorem EqW.str {x : Str} {t u : Tok} : EqW prog w A s (.str x t) (.str x u) := fun E Q hq => by
  have q := keq_flat (A := A) (s := s) (Flat.str x t) (Flat.str x u) prog w E Q
  refine q ?_
  simpa [PyData.eqv] using hq
/-- one turn over the pairs of two dicts -/
theorem pairs_alike {K : Type} [DecidableEq K] {knd : KeyKind prog w K} {nm : String} {a b : Addr} {ka kb : List (K × Value)} {Q : Bool → Shared → Prop}
    (ha : (a == sysModules) = false) (hb : (b == sysModules) = false) (da : s.heap.DictOf knd a ka) (db : s.heap.DictOf knd b kb) (hl : ka.length = kb.length)
    (hv : ∀ (i : Nat) k v, ka[i]? = some (k, v) → ∃ y, valueAt kb k = some y ∧ EqW prog w A s v y) (h : Q true s) :
    wpAny (model prog w) A (Builtin.Dict.samePairs nm a b) Q E s := by
  obtain ⟨o, xs, p, ho, -, hd, hk, hp, -⟩ := da
  obtain ⟨o2, ys, p2, ho2, -, hd2, hk2, hp2, -⟩ := db
  have n1 : xs.size = ka.length := by rw [← Array.length_toList, hp.length]
  have n2 : ys.size = kb.length := by rw [← Array.length_toList, hp2.length]
  have hsz : xs.size = ys.size := by rw [n1, n2, hl]
  unfold Builtin.Dict.samePairs Builtin.Dict.showsAll
  rw [ha, hb]
  simp only [Bool.false_eq_true, if_false]
  refine wpAny_bind (wpAny_pure (wpAny_bind (wpAny_pure (wpAny_bind (wpAny_dictEntries ho hd (wpAny_bind (wpAny_dictEntries ho2 hd2 ?_)))))))
  rw [if_neg (by simp [hsz])]
  refine wpAny_bind (wpAny_dictEpoch ho hd (wpAny_bind ?_))
  rw [Std.Legacy.Range.forIn_eq_forIn_range']
  refine wpAny_forIn_list _ (fun rest q s' => s' = s ∧ q = (none, ()) ∧ ∀ x ∈ rest, x < xs.size) _ ?turn ?fin _ _ ⟨rfl, rfl, ?start⟩
  case start =>
    intro x hx
    rw [List.mem_range'] at hx
    obtain ⟨i, hi, e⟩ := hx
    simp only [Std.Legacy.Range.size] at hi
    simp at e hi
    omega
  case fin => rintro q s' ⟨rfl, rfl, -⟩; exact wpAny_pure h
  case turn =>
    rintro x rest q s' ⟨rfl, rfl, hr⟩
    have hx : x < xs.size := hr x (.head _)
    have hx2 : x < ka.length := n1 ▸ hx
    obtain ⟨k, v, e⟩ : ∃ k v, ka[x] = (k, v) := ⟨_, _, rfl⟩
    have e2 : ka[x]? = some (k, v) := by rw [List.getElem?_eq_getElem hx2, e]
    obtain ⟨hkey, hval⟩ := hp.get? (i := x) (e := xs[x]) (k := k) (v := v) (by rw [Array.getElem?_toList, Array.getElem?_eq_getElem hx]) e2
    obtain ⟨k2, hk3, hh⟩ := hk xs[x] (Array.getElem_mem hx)
    have ek := knd.inj _ _ _ hk3 hkey
    subst ek
    obtain ⟨y, hy, heq⟩ := hv x _ _ e2
    refine wpAny_bind (wpAny_dictEntries ho hd ?_)
    rw [Array.getElem?_eq_getElem hx]
    show wpAny _ _ (holding [xs[x].key, xs[x].val] _ >>= _) _ _ _
    rw [hh]
    refine wpAny_bind (wpAny_holding (wpAny_bind (wpAny_dictFind_of hkey ho2 hd2 hk2 ?_)))
    have hf := (hp2.find k2).trans hy
    cases hj : ys.findIdx? fun e => knd.is k2 e.key with
    | none =>
      rw [Array.findIdx?_eq_none_iff] at hj
      rw [List.find?_eq_none.mpr (fun z hz => by simp [hj z (by simpa using hz)])] at hf
      cases hf
    | some j =>
      obtain ⟨hjl, hj1, hj2⟩ := Array.findIdx?_eq_some_iff_getElem.mp hj
      have hyv : ys[j].val = y := by
        have : ys.toList.find? (fun e => knd.is k2 e.key) = some ys[j] := by
          rw [List.find?_eq_some_iff_getElem]
          exact ⟨hj1, j, by simpa using hjl, by simp, fun i hi => by simpa using hj2 i hi⟩
        rw [this] at hf
        exact Option.some.inj hf
      refine wpAny_bind (wpAny_dictEntries ho2 hd2 ?_)
      rw [Array.getElem?_eq_getElem hjl]
      refine wpAny_holding ?_
      rw [hyv, hval]
      refine heq _ _ ?_
      show wpAny _ _ (if (!true) = true then _ else _) _ _ _
      rw [if_neg (by decide)]
      refine wpAny_bind (wpAny_dictEpoch ho hd ?_)
      rw [if_neg (by simp)]
      exact wpAny_pure ⟨rfl, rfl, fun z hz => hr z (.tail _ hz)⟩
theorem EqW.dicts {K : Type} [DecidableEq K] {knd : KeyKind prog w K} {a b : Addr} {ka kb : List (K × Value)} (ha : (a == sysModules) = false) (hb : (b == sysModules) = false)
    (da : s.heap.DictOf knd a ka) (db : s.heap.DictOf knd b kb) (hl : ka.length = kb.length) (hu : A.units < cLine)
    (hv : ∀ (i : Nat) k v, ka[i]? = some (k, v) → ∃ y, valueAt kb k = some y ∧ EqW prog w A.in1 s v y) : EqW prog w A s (.ref a) (.ref b) := by
  intro E Q hq
  by_cases e : a = b
  · subst e; exact SeqAt.EqAt.same _ prog w E Q hq
  unfold eqBool
  refine wpAny_holding (wpAny_ite_split (fun hab => absurd (by have := eq_of_beq hab; injection this) e) (fun _ => wpAny_bind ?_))
  refine wpAny_richCompare_same_room (op := .Eq) da.typeIs db.typeIs PySem.F.slot_dict_eq (wpAny_call_entry PySem.F.slot_dict_eq da.typeIs PySem.F.entry_dict_eq ?_ (PySem.F.args_dict_eq_2 _ _)) hu
  show wpAny _ _ (Builtin.Dict.dictSlotArgs "__eq__" ⟨[.ref a, .ref b], []⟩ >>= _) _ _ s
  unfold Builtin.Dict.dictSlotArgs
  refine wpAny_bind (wpAny_bind (wpAny_notOrdered_dict da.typeIs ?_))
  show wpAny _ _ (pure (Value.ref a, Value.ref b)) _ _ s
  refine wpAny_pure (wpAny_bind (wpAny_isInstance (T := "dict") db.typeIs PySem.F.sub_dict_dict ?_))
  simp only [Bool.not_true, Bool.false_eq_true, if_false]
  refine wpAny_bind (wpAny_pure (wpAny_bind (wpAny_pure (wpAny_bind (pairs_alike ha hb da db hl hv (wpAny_pure ⟨_, rfl, (fun x => nomatch x), ?_⟩))))))
  exact wpAny_truthy_bool hq
end
end Mine
namespace Mine
section
open PySem.SeqAt PySem.AutoSeq1 PySem.MeetsSeq PySem.MeetsSeq2 PySem.MeetsSeq3
variable {prog : Program} {w : World} {A : Around} {E : Value → Shared → Prop} {s : Shared}
/-- two lists, alike place by place, are walked to their end -/
theorem alike_walk (l b : Addr) (xs ys : Array Value) (n n2 : Nat) (dd dd2 : Option Addr) (sl sl2 : Array (Option Value)) (hsz : xs.size = ys.size) :
    ∀ k i : Nat, xs.size - i = k → MeetsIn prog w (Builtin.«list.__eq__.loop» ⟨[.ref l, .ref b, rawInt i, rawInt 3], []⟩)
      (fun A R s => (s.heap.get? l = some { cls := .type "list", dict := dd, data := .seq xs n, slots := sl } ∧ s.heap.get? b = some { cls := .type "list", dict := dd2, data := .seq ys n2, slots := sl2 }) ∧
        (∀ j (h1 : j < xs.size) (h2 : j < ys.size), EqW prog w A.in1 s xs[j] ys[j]) ∧ R (.ok (.ret (.bool false))) s)
  | k, i, hk, A, R, s, h => by
    obtain ⟨hp, g, d, tk, os⟩ := s
    obtain ⟨⟨hl, hb⟩, he, hR⟩ := h
    wp_walk using wpAny_loadPart' hl, wpAny_loadPart' hb
    have q0 : ((i : Nat) : Int).toNat = i := Int.toNat_natCast i
    rw [q0]
    by_cases hi : i < xs.size
    · have hi2 : i < ys.size := hsz ▸ hi
      rw [Array.getElem?_eq_getElem hi, Array.getElem?_eq_getElem hi2]
      refine wpAny_bind (he i hi hi2 _ _ ?_)
      wp_walk
      rw [show ((i : Int) + 1) = ((i + 1 : Nat) : Int) from rfl]
      exact ⟨plainId_quiet plain_eq_loop _, codeAny_builtin entry_eq_loop (by
        rw [Around.under_plainId plain_eq_loop _]
        exact alike_walk l b xs ys n n2 dd dd2 sl sl2 hsz (k - 1) (i + 1) (by omega) A R _ ⟨⟨hl, hb⟩, he, hR⟩)⟩
    · rw [Array.getElem?_eq_none (by omega), Array.getElem?_eq_none (by omega)]
      wp_walk using wpAny_loadPart' hl, wpAny_loadPart' hb
      show R (.ok (.ret (.bool (xs.size != ys.size)))) _
      rw [hsz]
      simpa using hR
  termination_by k i hk => k
theorem alike_ne (l b : Addr) (xs ys : Array Value) (n n2 : Nat) (dd dd2 : Option Addr) (sl sl2 : Array (Option Value)) (hsz : xs.size = ys.size) :
    MeetsIn prog w (Builtin.«list.__ne__» ⟨[.ref l, .ref b], []⟩)
      (fun A R s => (s.heap.get? l = some { cls := .type "list", dict := dd, data := .seq xs n, slots := sl } ∧ s.heap.get? b = some { cls := .type "list", dict := dd2, data := .seq ys n2, slots := sl2 }) ∧
        (∀ j (h1 : j < xs.size) (h2 : j < ys.size), EqW prog w A.in1 s xs[j] ys[j]) ∧ R (.ok (.ret (.bool false))) s) := by
  intro A R s h
  obtain ⟨hp, g, d, tk, os⟩ := s
  obtain ⟨⟨hl, hb⟩, he, hR⟩ := h
  have f3 := AutoSeq1.sub_list_list
  have hne : ¬ (xs.size != ys.size) = true := by simp [hsz]
  wp_walk using wpAny_loadPart' hl, wpAny_loadPart' hb
  exact ⟨plainId_quiet plain_eq_loop _, codeAny_builtin entry_eq_loop (by
    rw [Around.under_plainId plain_eq_loop _]
    exact alike_walk l b xs ys n n2 dd dd2 sl sl2 hsz _ 0 rfl A R _ ⟨⟨hl, hb⟩, he, hR⟩)⟩
theorem ne_alike {l b : Addr} {xs ys : Array Value} {Q : Value → Shared → Prop} (hl : s.heap.IsList l xs) (hb : s.heap.IsList b ys) (hsz : xs.size = ys.size) (hu : A.units < cLine)
    (he : ∀ j (h1 : j < xs.size) (h2 : j < ys.size), EqW prog w A.in1 s xs[j] ys[j]) (h : Q (.bool false) s) : wpAny (model prog w) A (compareOp .NotEq (.ref l) (.ref b)) Q E s := by
  obtain ⟨⟨cls, dd, data, sl⟩, ho, hc, n, hd⟩ := hl
  obtain ⟨⟨cls2, dd2, data2, sl2⟩, ho2, hc2, n2, hd2⟩ := hb
  simp only at hc hd hc2 hd2
  subst hc hd hc2 hd2
  exact wpAny_richCompare_same_room (op := .NotEq) ⟨_, ho, rfl⟩ ⟨_, ho2, rfl⟩ F.slot_list_ne
    (call_meetsIn F.slot_list_ne ⟨_, ho, rfl⟩ F.entry_list_ne (F.args_list_ne_2 _ _) (alike_ne l b xs ys n n2 dd dd2 sl sl2 hsz)
      ⟨⟨ho, ho2⟩, he, show Value.bool false ≠ Value.notImplemented ∧ Q (.bool false) s from ⟨(fun x => nomatch x), h⟩⟩) hu
end
end Mine
namespace Mine
section
variable {prog : Program} {w : World} {A : Around} {E : Value → Shared → Prop} {s : Shared} {h₀ : Heap} {L : Addr} {news : List (Addr × Obj)}
theorem FaultO.eqW {z : Int} {a b a' b' : Addr} {oa ob oa' ob' : Obj} (N : News h₀ L s.heap news) (f : FaultO prog w z b oa ob) (f' : FaultO prog w z b' oa' ob')
    (ha : (a, oa) ∈ news) (hb : (b, ob) ∈ news) (ha' : (a', oa') ∈ news) (hb' : (b', ob') ∈ news)
    (la : (a == sysModules) = false) (lb : (b == sysModules) = false) (la' : (a' == sysModules) = false) (lb' : (b' == sysModules) = false) (hu : A.units + 1 < cLine) : EqW prog w A s (.ref a) (.ref a') := by
  obtain ⟨⟨t1, t2, d1⟩, ⟨t3, d2⟩⟩ := f
  obtain ⟨⟨u1, u2, e1⟩, ⟨u3, e2⟩⟩ := f'
  refine EqW.dicts la la' (Heap.dictOf_iff.mpr ⟨oa, (N _ ha).1, d1⟩) (Heap.dictOf_iff.mpr ⟨oa', (N _ ha').1, e1⟩) rfl (by omega) fun i k v e => ?_
  match i with
  | 0 => cases e; exact ⟨_, by rfl, EqW.int⟩
  | 1 => cases e; exact ⟨_, by rfl, EqW.str⟩
  | 2 =>
    cases e
    refine ⟨_, by rfl, EqW.dicts lb lb' (Heap.dictOf_iff.mpr ⟨ob, (N _ hb).1, d2⟩) (Heap.dictOf_iff.mpr ⟨ob', (N _ hb').1, e2⟩) rfl (by show A.units + 1 < cLine; exact hu) fun i k v e => ?_⟩
    match i with
    | 0 => cases e; exact ⟨_, by rfl, EqW.int⟩
    | i + 1 => cases e
  | i + 3 => cases e
theorem PlainO.eqW {n : Str} {c c' : Addr} {oc oc' : Obj} (N : News h₀ L s.heap news) (f : PlainO prog w n oc) (f' : PlainO prog w n oc')
    (hc : (c, oc) ∈ news) (hc' : (c', oc') ∈ news) (lc : (c == sysModules) = false) (lc' : (c' == sysModules) = false) (hu : A.units < cLine) : EqW prog w A s (.ref c) (.ref c') := by
  obtain ⟨t1, t2, d1⟩ := f
  obtain ⟨u1, u2, e1⟩ := f'
  refine EqW.dicts lc lc' (Heap.dictOf_iff.mpr ⟨oc, (N _ hc).1, d1⟩) (Heap.dictOf_iff.mpr ⟨oc', (N _ hc').1, e1⟩) rfl hu fun i k v e => ?_
  match i with
  | 0 => cases e; exact ⟨_, by rfl, EqW.int⟩
  | 1 => cases e; exact ⟨_, by rfl, EqW.str⟩
  | i + 2 => cases e
/-- the two queues are alike -/
theorem law_ne {tq d a b c a' b' c' : Addr} {oa ob oc oa' ob' oc' : Obj} {z : Int} {sb : Bool} {qs adds ds : List Value} {n1 n2 : Nat} {Q : Value → Shared → Prop} (N : News h₀ L s.heap news)
    (hq : (tq, W.listOf (qs ++ adds).toArray n1) ∈ news) (hqs : qs = []) (ha : (a, oa) ∈ news) (hb : (b, ob) ∈ news) (hc : (c, oc) ∈ news) (A1 : Adds prog w z sb a b c oa ob oc adds)
    (hd : (d, W.listOf ds.toArray n2) ∈ news) (ha' : (a', oa') ∈ news) (hb' : (b', ob') ∈ news) (hc' : (c', oc') ∈ news) (A2 : Adds prog w z sb a' b' c' oa' ob' oc' ds) (hu : A.units + 9 < cLine) (h : Q (.bool false) s) :
    wpAny (model prog w) A (compareOp .NotEq (.ref tq) (.ref d)) Q E s := by
  subst hqs
  obtain ⟨rfl, f1, g1, lf1, lg1⟩ := A1
  obtain ⟨rfl, f2, g2, lf2, lg2⟩ := A2
  have hu1 : A.in1.units + 1 < cLine := by show A.units + 1 + 1 < cLine; omega
  have hu2 : A.in1.units < cLine := by show A.units + 1 < cLine; omega
  refine ne_alike (News.isList N hq) (News.isList N hd) ?_ (by omega) ?_ h
  · cases ftZ z <;> cases sb <;> rfl
  · have qF : ftZ z = true → EqW prog w A.in1 s (.ref a) (.ref a') := fun q => FaultO.eqW N (f1 q) (f2 q) ha hb ha' hb' (lf1 q).1 (lf1 q).2 (lf2 q).1 (lf2 q).2 hu1
    have qS : sb = true → EqW prog w A.in1 s (.ref c) (.ref c') := fun q => PlainO.eqW N (g1 q) (g2 q) hc hc' (lg1 q) (lg2 q) hu2
    cases e1 : ftZ z <;> cases e2 : sb
    · intro j h1; exact absurd h1 (Nat.not_lt_zero _)
    · intro j h1 h2
      have : j = 0 := by have : j < 1 := h1; omega
      subst this; exact qS e2
    · intro j h1 h2
      have : j = 0 := by have : j < 1 := h1; omega
      subst this; exact qF e1
    · intro j h1 h2
      have : j = 0 ∨ j = 1 := by have : j < 2 := h1; omega
      rcases this with rfl | rfl
      · exact qF e1
      · exact qS e2
end
end Mine

end
section
open PySem PySem.W PyProof.Rows PySem.Calls PySem.Spec PyProof.V
namespace Mine
section
variable {prog : Program} {w : World} {A : Around} {E : Value → Shared → Prop} {s : Shared}
theorem ne_txt {x y : Str} {t u : Tok} {Q : Value → Shared → Prop} (e : x = y) (h : Q (.bool false) s) : wpAny (model prog w) A (compareOp .NotEq (.str x t) (.str y u)) Q E s := by
  subst e; refine ne_str ?_; simpa using h
theorem rest_eq {src tl : Str} {x x' : St} {p r0 : List Nat} (hp : x.rem src = p ++ x'.rem src) (hst : ∀ c t, x'.rem src = c :: t → (fun _ : Nat => false) c = true)
    (ha : x.rem src = afterNum r0) (hr : afterNum r0 = mendL tl.cps.toList) : (⟨p.toArray⟩ : Str) = mendS tl := by
  have e : x'.rem src = [] := by
    cases q : x'.rem src with
    | nil => rfl
    | cons c t => exact absurd (hst c t q) (by simp)
  refine Str.ext' (Array.toList_inj.mp ?_)
  rw [mendS_toList]
  rw [e, List.append_nil] at hp
  rw [← hr, ← ha, hp]
/-- two ledgers, one below -/
theorem sep {rest l : List (Addr × Obj)} (B : Addr) (h1 : ∀ p ∈ rest, @LT.lt Nat _ p.1 B) (h2 : ∀ q ∈ l, @LE.le Nat _ B q.1) : ∀ p ∈ rest, ∀ q ∈ l, p.1 ≠ q.1 :=
  fun p hp q hq => Nat.ne_of_lt (Nat.lt_of_lt_of_le (h1 p hp) (h2 q hq))
/-- a ledger's middle, and one new object -/
theorem sep_mid {rest l : List (Addr × Obj)} (lo hi n : Addr) (h2 : ∀ q ∈ l, (@LE.le Nat _ lo q.1 ∧ @LE.le Nat _ q.1 hi) ∨ q.1 = n) (h1 : ∀ p ∈ rest, (@LT.lt Nat _ p.1 lo ∨ @LT.lt Nat _ hi p.1) ∧ @LT.lt Nat _ p.1 n) : ∀ p ∈ rest, ∀ q ∈ l, p.1 ≠ q.1 := by
  intro p hp q hq e
  obtain ⟨h3, h4⟩ := h1 p hp
  rcases h2 q hq with ⟨h5, h6⟩ | h5
  · rw [← e] at h5 h6
    rcases h3 with h3 | h3
    · exact Nat.lt_irrefl _ (Nat.lt_of_lt_of_le h3 h5)
    · exact Nat.lt_irrefl _ (Nat.lt_of_lt_of_le h3 h6)
  · rw [← h5, ← e] at h4; exact Nat.lt_irrefl _ h4
theorem sep_mid6 {rest : List (Addr × Obj)} {e1 e2 e3 e4 e5 e6 : Addr × Obj} {n : Addr} {o : Obj} (lo hi : Addr) (h2 : ∀ q ∈ [e1, e2, e3, e4, e5, e6], @LE.le Nat _ lo q.1 ∧ @LE.le Nat _ q.1 hi) (h1 : ∀ p ∈ rest, (@LT.lt Nat _ p.1 lo ∨ @LT.lt Nat _ hi p.1) ∧ @LT.lt Nat _ p.1 n) : ∀ p ∈ rest, ∀ q ∈ [e1, e2, e3, e4, e5, e6, (n, o)], p.1 ≠ q.1 :=
  sep_mid lo hi n (fun q hq => by
    rcases List.mem_append.mp (show q ∈ [e1, e2, e3, e4, e5, e6] ++ [(n, o)] from hq) with h | h
    · exact .inl (h2 q h)
    · exact .inr (by rw [List.mem_singleton.mp h])) h1
end
end Mine

end
section
open PySem PySem.W PyProof.Rows PySem.Calls PySem.Spec PyProof.V
namespace Mine
section
variable {prog : Program} {w : World} {A : Around} {E : Value → Shared → Prop} {s : Shared} {g : Heap} {L : Addr}
/-- a statement's end, on which ways meet -/
def MeetX {α : Type} (g : Heap) (L : Addr) (m : α → Str → Option Value) (led : α → List (Addr × Obj)) (P : α → Prop) (s : Shared) (fl : Flow) (s' : Shared) : Prop :=
  ∃ (c : α) (h' : Heap) (k : Nat), fl = .next ∧ P c ∧ s' = { s with heap := h', toks := k } ∧ Fr g L h' (m c) ∧ News g L h' (led c)
theorem wp_meetX {α : Type} {t : Sem Flow} {Q : Flow → Shared → Prop} {m₀ : Str → Option Value} (m : α → Str → Option Value) (led : α → List (Addr × Obj)) (P : α → Prop) (_ : Fr g L s.heap m₀)
    (hq : ∀ c h' k, P c → Fr g L h' (m c) → News g L h' (led c) → Q .next { s with heap := h', toks := k })
    (hw : wpAny (model prog w) A t (MeetX g L m led P s) E s) : wpAny (model prog w) A t Q E s :=
  wpAny_mono hw (fun fl s' ⟨c, h', k, e1, hp, e, F, N⟩ => by subst e1; subst e; exact hq c h' k hp F N) (fun _ _ e => e)
theorem meetX_end {α : Type} {m : α → Str → Option Value} {led : α → List (Addr × Obj)} {P : α → Prop} {h' : Heap} {k : Nat} {m' : Str → Option Value} {news' : List (Addr × Obj)} (c : α)
    (F : Fr g L h' m') (N : News g L h' news') (hm : m' = m c) (hn : ∀ p ∈ led c, p ∈ news') (hp : P c) : MeetX g L m led P s .next { s with heap := h', toks := k } :=
  ⟨c, h', k, rfl, hp, rfl, hm ▸ F, fun p h => N p (hn p h)⟩
end
/-- what a number's value leaves: its sign, and a fault or none -/
structure Md where
  t : Tok
  a : Addr
  b : Addr
  oa : Obj
  ob : Obj
  n : Nat
def Md.fs (z : Int) (c : Md) : List Value := if ftZ z = true then [.ref c.a] else []
structure Md.ok (prog : Program) (w : World) (z : Int) (tq : Addr) (c : Md) : Prop where
  la : @LT.lt Nat _ tq c.a
  lb : @LT.lt Nat _ tq c.b
  flt : ftZ z = true → FaultO prog w z c.b c.oa c.ob
theorem md_f {prog : Program} {w : World} {z : Int} {tq a b : Addr} {oa ob : Obj} {t : Tok} {n : Nat} (la : @LT.lt Nat _ tq a) (lb : @LT.lt Nat _ tq b) (f : FaultO prog w z b oa ob) : Md.ok prog w z tq ⟨t, a, b, oa, ob, n⟩ := ⟨la, lb, fun _ => f⟩
theorem md_n {prog : Program} {w : World} {z : Int} {tq a : Addr} {oa : Obj} {t : Tok} {n : Nat} (la : @LT.lt Nat _ tq a) (hf : ftZ z = false) : Md.ok prog w z tq ⟨t, a, a, oa, oa, n⟩ := ⟨la, la, fun h => by rw [hf] at h; cases h⟩
theorem Md.len (z : Int) (c : Md) {qs : List Value} (h : qs.length ≤ 100000) : (qs ++ c.fs z).length ≤ 100001 := by
  unfold Md.fs; rw [List.length_append]; split <;> simp <;> omega
theorem adds_md {prog : Program} {w : World} {z : Int} {tq : Addr} {c : Md} (k : c.ok prog w z tq) (h1 : @LT.lt Nat _ 1 tq) {oc : Obj} {x : Addr} {sb : Bool} {as : List Value}
    (e : as = if sb = true then [.ref x] else []) (lx : sb = true → @LT.lt Nat _ tq x) (hs : sb = true → PlainO prog w semiN oc) : Adds prog w z sb c.a c.b x c.oa c.ob oc (c.fs z ++ as) :=
  ⟨by rw [e]; rfl, k.flt, hs, fun _ => ⟨not_mods (Nat.lt_trans h1 k.la), not_mods (Nat.lt_trans h1 k.lb)⟩, fun h => not_mods (Nat.lt_trans h1 (lx h))⟩
end Mine
namespace Mine
section
variable {prog : Program} {w : World} {A : Around} {E : Value → Shared → Prop} {s : Shared} {g : Heap} {L : Addr}
theorem in_tupG {K : Frag} {h₀ : Heap} {L q1 q2 : Addr} {m : Str → Option Value} {od1 od2 : Option Addr} {i1 i2 : Array Value} {n1 n2 : Nat} {o1 o2 : Array (Option Value)} {ys1 ys2 : List Str} {hex : Bool} {c : Nat} {u : Tok} {Q : Value → Shared → Prop}
    (F : Fr h₀ L s.heap m) (X : K.In h₀) (hk1 : K.lookup q1 = some ⟨.type "tuple", od1, .seq i1 n1, o1⟩) (hi1 : StrsAre i1.toList ys1) (he1 : ∀ c : Nat, ys1.any (· == ⟨#[c]⟩) = alD true c)
    (hk2 : K.lookup q2 = some ⟨.type "tuple", od2, .seq i2 n2, o2⟩) (hi2 : StrsAre i2.toList ys2) (he2 : ∀ c : Nat, ys2.any (· == ⟨#[c]⟩) = alD false c)
    (h : Q (.bool (alD hex c)) s) : wpAny (model prog w) A (compareOp .In (.str ⟨#[c]⟩ u) (.ref (if hex = true then q1 else q2))) Q E s := by
  cases hex
  · exact in_tupK F X hk2 hi2 he2 h
  · exact in_tupK F X hk1 hi1 he1 h
theorem in_tupG_none {K : Frag} {h₀ : Heap} {L q1 q2 : Addr} {m : Str → Option Value} {od1 od2 : Option Addr} {i1 i2 : Array Value} {n1 n2 : Nat} {o1 o2 : Array (Option Value)} {ys1 ys2 : List Str} {hex : Bool} {Q : Value → Shared → Prop}
    (F : Fr h₀ L s.heap m) (X : K.In h₀) (hk1 : K.lookup q1 = some ⟨.type "tuple", od1, .seq i1 n1, o1⟩) (hi1 : StrsAre i1.toList ys1)
    (hk2 : K.lookup q2 = some ⟨.type "tuple", od2, .seq i2 n2, o2⟩) (hi2 : StrsAre i2.toList ys2)
    (h : Q (.bool false) s) : wpAny (model prog w) A (compareOp .In .none (.ref (if hex = true then q1 else q2))) Q E s := by
  cases hex
  · exact in_tupK_none F X hk2 hi2 h
  · exact in_tupK_none F X hk1 hi1 h
theorem wp_meetC {t : Sem Flow} {Q : Flow → Shared → Prop} {m₀ : Str → Option Value} {v : Md → Value} (led : Md → List (Addr × Obj)) (P : Md → Prop) (F0 : Fr g L s.heap m₀)
    (hq : ∀ c h' k, P c → Fr g L h' (fun y => if y = Str.ofString "char" then some (v c) else m₀ y) → News g L h' (led c) → Q .next { s with heap := h', toks := k })
    (hw : wpAny (model prog w) A t (MeetX g L (fun c y => if y = Str.ofString "char" then some (v c) else m₀ y) led P s) E s) : wpAny (model prog w) A t Q E s :=
  wp_meetX _ led P F0 hq hw
theorem radix_eq {b : Bool} {t : Tok} {q1 q2 : Addr} {m : Str → Option Value} (hb : b = false) :
    (fun y => if y = Str.ofString "radix" then some (Value.int 10 t) else if y = Str.ofString "allowed" then some (.ref q2) else m y) = (fun y => if y = Str.ofString "radix" then some (Value.int (if b = true then 16 else 10) t) else if y = Str.ofString "allowed" then some (.ref (if b = true then q1 else q2)) else m y) := by
  subst hb; rfl
theorem radix_eqH {b : Bool} {t t' : Tok} {q1 q2 : Addr} {m : Str → Option Value} (hb : b = true) :
    (fun y => if y = Str.ofString "radix" then some (Value.int 16 t) else if y = Str.ofString "allowed" then some (.ref q1) else if y = Str.ofString "radix" then some (Value.int 10 t') else if y = Str.ofString "allowed" then some (.ref q2) else m y) = (fun y => if y = Str.ofString "radix" then some (Value.int (if b = true then 16 else 10) t) else if y = Str.ofString "allowed" then some (.ref (if b = true then q1 else q2)) else m y) := by
  subst hb
  funext y
  by_cases h1 : y = Str.ofString "radix"
  · rw [if_pos h1, if_pos h1]; rfl
  · by_cases h2 : y = Str.ofString "allowed"
    · simp only [h1, h2, if_false, if_true]
    · simp only [h1, h2, if_false]
end
end Mine
namespace Mine
theorem base_if (hex : Bool) : (if hex = true then 16 else 10 : Int) = (baseOf hex : Nat) := by cases hex <;> rfl
end Mine
namespace Mine
section
variable {prog : Program} {w : World} {s : Shared} {g : Heap} {L : Addr}
theorem meetC_f {m₀ m' : Str → Option Value} {z : Int} {tq a b : Addr} {oa ob : Obj} {t : Tok} {n k : Nat} {h' : Heap} {qs : List Value} {news' : List (Addr × Obj)} (base : List Value → Nat → List (Addr × Obj))
    (F : Fr g L h' m') (N : News g L h' news') (hm : m' = fun y => if y = Str.ofString "char" then some (.str ⟨#[sgZ z]⟩ t) else m₀ y) (hf : ftZ z = true) (hn : ∀ p ∈ (a, oa) :: (b, ob) :: base (qs ++ [.ref a]) n, p ∈ news')
    (la : @LT.lt Nat _ tq a) (lb : @LT.lt Nat _ tq b) (f : FaultO prog w z b oa ob) :
    MeetX g L (fun c y => if y = Str.ofString "char" then some (Value.str ⟨#[sgZ z]⟩ c.t) else m₀ y) (fun c : Md => (c.a, c.oa) :: (c.b, c.ob) :: base (qs ++ c.fs z) c.n) (Md.ok prog w z tq) s .next { s with heap := h', toks := k } :=
  meetX_end (⟨t, a, b, oa, ob, n⟩ : Md) F N hm (fun p hp => hn p (by have e : Md.fs z ⟨t, a, b, oa, ob, n⟩ = [.ref a] := if_pos hf; rw [e] at hp; exact hp)) (md_f la lb f)
theorem meetC_n {m₀ m' : Str → Option Value} {z : Int} {tq a : Addr} {oa : Obj} {t : Tok} {n k : Nat} {h' : Heap} {qs : List Value} {news' : List (Addr × Obj)} (base : List Value → Nat → List (Addr × Obj))
    (F : Fr g L h' m') (N : News g L h' news') (hm : m' = fun y => if y = Str.ofString "char" then some (.str ⟨#[sgZ z]⟩ t) else m₀ y) (hf : ftZ z = false) (hn : ∀ p ∈ (a, oa) :: base qs n, p ∈ news')
    (la : @LT.lt Nat _ tq a) :
    MeetX g L (fun c y => if y = Str.ofString "char" then some (Value.str ⟨#[sgZ z]⟩ c.t) else m₀ y) (fun c : Md => (c.a, c.oa) :: (c.b, c.ob) :: base (qs ++ c.fs z) c.n) (Md.ok prog w z tq) s .next { s with heap := h', toks := k } :=
  meetX_end (⟨t, a, a, oa, oa, n⟩ : Md) F N hm (fun p hp => hn p (by
    have e : Md.fs z ⟨t, a, a, oa, oa, n⟩ = [] := if_neg (by rw [hf]; exact Bool.false_ne_true)
    rw [e, List.append_nil] at hp
    rcases List.mem_cons.mp hp with h | h
    · exact List.mem_cons.mpr (.inl h)
    · exact h)) (md_n la hf)
theorem adds_md0 {z : Int} {tq : Addr} {c : Md} (k : c.ok prog w z tq) (h1 : @LT.lt Nat _ 1 tq) {oc : Obj} {x : Addr} {sb : Bool} (e : sb = false) : Adds prog w z sb c.a c.b x c.oa c.ob oc (c.fs z) := by
  have q := adds_md (oc := oc) (x := x) (sb := sb) (as := []) k h1 (by rw [e]; rfl) (fun h => by rw [e] at h; cases h) (fun h => by rw [e] at h; cases h)
  rwa [List.append_nil] at q
end
end Mine

end
section
open PySem PySem.W PyProof.Rows PySem.Calls PySem.Spec
set_option maxRecDepth 100000
set_option maxHeartbeats 8000000
namespace Mine
local macro_rules | `(tactic| walk_at $s:str) => `(tactic| k_extra $s)
local macro_rules | `(tactic| k_in) => `(tactic| first | with_reducible assumption | exact Frag.In.keeps (by with_reducible assumption) (Fr.keep (by with_reducible assumption)))
local macro_rules | `(tactic| k_all) => `(tactic| first | exact Mine.Ks.ne_all (by with_reducible assumption) (by first | exact .inr (Mine.Srt.lt (by with_reducible assumption) (by with_reducible solve_by_elim (maxDepth := 40) only [Mine.Aft.here, Mine.Aft.there, List.Mem.head, List.Mem.tail])) | exact .inl (Mine.Srt.lt (by with_reducible assumption) (by with_reducible solve_by_elim (maxDepth := 40) only [Mine.Aft.here, Mine.Aft.there, List.Mem.head, List.Mem.tail]))) | exact Mine.tail_ne (by with_reducible assumption) (fun p9 hp9 => by repeat (first | exact hp9 | refine List.mem_cons_of_mem _ ?_)) (by with_reducible assumption) (.inl (by with_reducible assumption)))
local macro_rules | `(tactic| k_ne) => `(tactic| (refine neN ?_; first | exact Mine.ne_by (by with_reducible assumption) (by k_dflt k_mem) | exact Mine.ne_by' (by with_reducible assumption) (by k_dflt k_mem) | exact Mine.Srt.ne (by with_reducible assumption) (by with_reducible solve_by_elim (maxDepth := 40) only [Mine.Apart.l, Mine.Apart.r, Mine.Apart.t, List.Mem.head, List.Mem.tail]) | ((try dsimp only); omega)))
local macro_rules | `(tactic| k_lt $h) => `(tactic| first
  | ((with_reducible rename Mine.MarkC => mk9); (have l1r9 := $h); (replace $h := allLt_of $h); (simp only [AllLt, and_true] at $h:ident))
  | ((with_reducible rename Mine.MarkB => mk9); (with_reducible rename Mine.Srt _ => S8); (have S9 := Mine.Srt.grow S8 ($h (_, _) (by k_dflt k_mem))); clear S8)
  | ((fail_if_success (with_reducible rename Mine.MarkB => mk9)); (fail_if_success (with_reducible rename Mine.MarkC => mk9)); (with_reducible rename Mine.Srt _ => S8); (first | (have S9 := Mine.Srt.grow S8 ($h (_, _) (by k_dflt k_mem)); clear S8) | (have S9 := Mine.Srt.grow S8.tl ($h (_, _) (by k_dflt k_mem)); clear S8) | (have S9 := Mine.Srt.grow S8.tl.tl ($h (_, _) (by k_dflt k_mem)); clear S8)); clear $h)
  | ((fail_if_success (with_reducible rename Mine.MarkB => mk9)); (fail_if_success (with_reducible rename Mine.MarkC => mk9)); replace $h := allLt_of $h; simp only [AllLt, and_true] at $h:ident))
local macro_rules | `(tactic| k_lt2 $h) => `(tactic| first | (replace $h := ltN $h; (with_reducible rename Mine.Srt _ => S8); (have S9 := Mine.Srt.grow S8 $h); clear S8; clear $h) | (replace $h := ltN $h))
theorem main.tw480701840831765632 : True := trivial
theorem main.tw10367043833027533253 : True := trivial
theorem main.tw7019240024125815769 : True := trivial
theorem main.tw1610520696219057239 : True := trivial
theorem main.tw12608185968620612914 : True := trivial
theorem main.tw2085318621824738512 : True := trivial
theorem main.tw16688187236449151857 : True := trivial
theorem main.tw11092141859048813250 : True := trivial
theorem main.tw4908570168794737769 : True := trivial
theorem main.tw10543740743216835930 : True := trivial
theorem main.tw6907636171062424033 : True := trivial
theorem main.tw15949526494057022110 : True := trivial
theorem main.tw8828626079734051433 : True := trivial
theorem main.tw12205347405646519318 : True := trivial
theorem main.tw18165044119631177899 : True := trivial
theorem main.tw3562595001068472590 : True := trivial
theorem main.tw6516198228755648517 : True := trivial
theorem main.tw16170375726192610265 : True := trivial
theorem main.tw8989776476301544223 : True := trivial
theorem main.tw9406782406253462049 : True := trivial
theorem main.tw10450603732522932521 : True := trivial
theorem main.tw6511744376749373798 : True := trivial
theorem main.tw6935676897619631941 : True := trivial
theorem main.tw379899607457092286 : True := trivial
theorem main.tw2406621943657119228 : True := trivial
theorem main.tw372505627349444580 : True := trivial
theorem main.tw13972245371655741198 : True := trivial
theorem main.tw4034048572721927537 : True := trivial
theorem main.tw5004366561265856203 : True := trivial
theorem main.tw5372645768047454471 : True := trivial
theorem main.tw9581019380814227218 : True := trivial
theorem main.tw5378808338967829844 : True := trivial
theorem main.tw10418042200766032776 : True := trivial
theorem main.tw8060562821785662972 : True := trivial
theorem main.tw3731879374237491455 : True := trivial
theorem main.tw5451317232050628999 : True := trivial
theorem main.tw14027531716089632829 : True := trivial
theorem main.tw6056095068991171605 : True := trivial
theorem main.tw12748397558918655664 : True := trivial
theorem main.tw11119146913839337285 : True := trivial
theorem main.tw17262041522474090127 : True := trivial
theorem main.tw3197156666308221516 : True := trivial
theorem main.tw16142765227538719955 : True := trivial
theorem main.tw6535589618603614281 : True := trivial
theorem main.tw10255180020182114038 : True := trivial
theorem main.tw2895952525429962455 : True := trivial
theorem main.tw7554534293552944094 : True := trivial
theorem main.tw681127517646744459 : True := trivial
theorem main.tw3464005467892915075 : True := trivial
theorem main.tw11785714552879321826 : True := trivial
theorem main.tw7901126011190779259 : True := trivial
theorem main.tw10896356407431480244 : True := trivial
theorem main.tw11725999154989108132 : True := trivial
theorem main.tw5781596087445459943 : True := trivial
theorem main.tw223528310411579522 : True := trivial
theorem main.tw8102450764968551371 : True := trivial
theorem main.tw15303317825217679618 : True := trivial
theorem main.tw4838787530573997063 : True := trivial
theorem main.tw16798207577519904205 : True := trivial
theorem main.tw15955573374722617477 : True := trivial
theorem main.tw15282798724139172088 : True := trivial
theorem main.tw4887914996728235509 : True := trivial
theorem main.tw7883848961242879871 : True := trivial
theorem main.tw7332552209862256014 : True := trivial
theorem main.tw2402762420636078793 : True := trivial
theorem main.tw5518243967957118194 : True := trivial
theorem main.tw9716624006974247489 : True := trivial
theorem main.tw11156056980113079860 : True := trivial
theorem main.tw10452441009100146310 : True := trivial
theorem main.tw4926259647451002352 : True := trivial
theorem main.tw16778611742570070204 : True := trivial
theorem main.tw2821470743931037460 : True := trivial
theorem main.tw11101190512080308003 : True := trivial
theorem main.tw4637267157515435788 : True := trivial
theorem main.tw8984930932524396370 : True := trivial
theorem main.tw1216228984421328439 : True := trivial
theorem main.tw1142173933681417890 : True := trivial
theorem main.tw16022572192331126682 : True := trivial
theorem main.tw1632041292262086317 : True := trivial
theorem main.tw11218778669853930896 : True := trivial
theorem main.tw495442525896006271 : True := trivial
theorem main.tw16338599768312175441 : True := trivial
theorem main.tw6855474311058116810 : True := trivial
theorem main.tw9265829497004654079 : True := trivial
theorem main.tw10092017014551392330 : True := trivial
theorem main.tw16332121612629036173 : True := trivial
theorem main.tw6801380410627298636 : True := trivial
theorem main.tw451873465583785326 : True := trivial
theorem main.tw14539993770535171780 : True := trivial
theorem main.tw13110970153573199417 : True := trivial
theorem main.tw6570437773673931950 : True := trivial
theorem main.tw15485851114877660061 : True := trivial
theorem main.tw7293704977770490947 : True := trivial
theorem main.tw12450111651097656602 : True := trivial
theorem main.tw8394416109485655870 : True := trivial
theorem main.tw2039954845988140816 : True := trivial
theorem main.tw17297283025540448806 : True := trivial
theorem main.tw5084117380071580128 : True := trivial
theorem main.tw8624498521744291746 : True := trivial
theorem main.tw11409991511011244131 : True := trivial
theorem main.tw11548542833958708988 : True := trivial
theorem main.tw8528285597010949478 : True := trivial
theorem main.tw15237998210293483671 : True := trivial
theorem main.tw1544020853599562407 : True := trivial
theorem main.tw7093617532817203218 : True := trivial
theorem main.tw2019394398466159022 : True := trivial
theorem main.tw17644181745481072423 : True := trivial
theorem main.tw3394367416137920725 : True := trivial
theorem main.tw17035731627637430848 : True := trivial
theorem main.tw1150287232629052791 : True := trivial
theorem main.tw6655696309031964122 : True := trivial
theorem main.tw15580989882048331800 : True := trivial
theorem main.tw1504049600530537962 : True := trivial
theorem main.tw13406003279186336099 : True := trivial
theorem main.tw12134908399292295839 : True := trivial
theorem main.tw17052023290607921161 : True := trivial
theorem main.tw4967792270526972898 : True := trivial
theorem main.tw4365514962571936147 : True := trivial
theorem main.tw4330594992337426955 : True := trivial
theorem main.tw8046773169563483271 : True := trivial
theorem main.tw6252391252262179987 : True := trivial
theorem main.tw17096532924672817327 : True := trivial
theorem main.tw12304082900475741265 : True := trivial
theorem main.tw9184045479044318644 : True := trivial
theorem main.tw14457758005677747962 : True := trivial
theorem main.tw13777938177461255882 : True := trivial
theorem main.tw16452447596832230105 : True := trivial
theorem main.tw8883465813499100731 : True := trivial
theorem main.tw2704602940660078815 : True := trivial
theorem main.tw16026775910206950810 : True := trivial
theorem main.tw15984706205718930553 : True := trivial
theorem main.tw13989496423458381343 : True := trivial
theorem main.tw6361450105264607166 : True := trivial
theorem main.tw15510692781650021527 : True := trivial
theorem main.tw10483362588635715401 : True := trivial
theorem main.tw12653679108036650311 : True := trivial
theorem main.tw5768018617931124328 : True := trivial
theorem main.tw12755441557018050348 : True := trivial
theorem main.tw17445186720391901401 : True := trivial
theorem main.tw4156125974679941130 : True := trivial
theorem main.tw14992222465124788362 : True := trivial
theorem main.tw9512817274939609580 : True := trivial
theorem main.tw8312829660672013939 : True := trivial
theorem main.tw4638281056170512193 : True := trivial
theorem main.tw11239335112260394413 : True := trivial
theorem main.tw15438212644395081984 : True := trivial
theorem main.tw16806246253224384389 : True := trivial
theorem main.tw4370134204219402791 : True := trivial
theorem main.tw11676816360460091147 : True := trivial
theorem main.tw15294211896409635767 : True := trivial
theorem main.tw10283388844273144081 : True := trivial
theorem main.tw14640416626631428029 : True := trivial
theorem main.tw2672093188730551128 : True := trivial
theorem main.tw3220561703981169602 : True := trivial
theorem main.tw2278972029675796859 : True := trivial
theorem main.tw17403364634526059139 : True := trivial
theorem main.tw15672986146971166658 : True := trivial
theorem main.tw4139100593308808776 : True := trivial
theorem main.tw2287757881348798766 : True := trivial
theorem main.tw1402309974066972641 : True := trivial
theorem main.tw9302470337196694018 : True := trivial
theorem main.tw2724176850512262202 : True := trivial
theorem main.tw14562738103837258888 : True := trivial
theorem main.tw7487416344156704005 : True := trivial
theorem main.tw14864641218109852296 : True := trivial
theorem main.tw7237411587787531456 : True := trivial
theorem main.tw17128291446047057950 : True := trivial
theorem main.tw17647351573629430322 : True := trivial
theorem main.tw4452170602077327944 : True := trivial
theorem main.tw5240779543111244032 : True := trivial
theorem main.tw12885385263037960081 : True := trivial
theorem main.tw2675658811408624930 : True := trivial
theorem main.tw1084220662915027778 : True := trivial
theorem main.tw16817993663026736274 : True := trivial
theorem main.tw14805756002866571830 : True := trivial
theorem main.tw11712081513822626495 : True := trivial
theorem main.tw6663778134991626487 : True := trivial
theorem main.tw1678875084529416142 : True := trivial
theorem main.tw8496349624203035976 : True := trivial
theorem main.tw3033261876257692807 : True := trivial
theorem main.tw9653258972835725974 : True := trivial
theorem main.tw10876375607700338302 : True := trivial
theorem main.tw9376575566392132001 : True := trivial
theorem main.tw18238007617527299592 : True := trivial
theorem main.tw8627561154394265716 : True := trivial
theorem main.tw2714283472998740243 : True := trivial
theorem main.tw15109750227778091905 : True := trivial
theorem main.tw3635900802997115186 : True := trivial
theorem main.tw9925469786538053656 : True := trivial
theorem main.tw6140287776057189764 : True := trivial
theorem main.tw14489535830319231195 : True := trivial
theorem main.tw7563215957194029611 : True := trivial
theorem main.tw526373878138232175 : True := trivial
theorem main.tw9558744834307401277 : True := trivial
theorem main.tw2923286348875671695 : True := trivial
theorem main.tw9303439499767911484 : True := trivial
theorem main.tw10825838108423173272 : True := trivial
theorem main.tw14136325212780177784 : True := trivial
theorem main.tw16008252555379753968 : True := trivial
theorem main.tw5363903885879670357 : True := trivial
theorem main.tw2341703837736514645 : True := trivial
theorem main.tw10149618387772673413 : True := trivial
theorem main.tw17768309097967576573 : True := trivial
theorem main.tw12247406853277913960 : True := trivial
theorem main.tw4900431672193113347 : True := trivial
theorem main.tw9994787619460420439 : True := trivial
theorem main.tw9121559901702372667 : True := trivial
theorem main.tw13110577991587790113 : True := trivial
theorem main.tw4966469486753893531 : True := trivial
theorem main.tw15326346284793698685 : True := trivial
theorem main.tw10821422270917381399 : True := trivial
theorem main.tw12431561837914552411 : True := trivial
theorem main.tw6161133996638707016 : True := trivial
theorem main.tw7113585516715319716 : True := trivial
theorem main.tw10707853282979444102 : True := trivial
theorem main.tw4193505271845495863 : True := trivial
theorem main.tw5102715291955495162 : True := trivial
theorem main.tw14011416340940902608 : True := trivial
theorem main.tw15136431859952498927 : True := trivial
theorem main.tw11904941031934877020 : True := trivial
theorem main.tw16218864148678617972 : True := trivial
theorem main.tw1429040668314091153 : True := trivial
theorem main.tw11716418206903941319 : True := trivial
theorem main.tw12732289081945773324 : True := trivial
theorem main.tw15670109119070698982 : True := trivial
theorem main.tw16826212616301561204 : True := trivial
theorem main.tw17974016328880235120 : True := trivial
theorem main.tw9805168224760091760 : True := trivial
theorem main.tw13980345723018547825 : True := trivial
theorem main.tw1270039299266317192 : True := trivial
theorem main.tw13348322127785295214 : True := trivial
theorem main.tw8567518541235275850 : True := trivial
theorem main.tw10567084921333377638 : True := trivial
theorem main.tw17118054049896295152 : True := trivial
theorem main.tw2965820268544440810 : True := trivial
theorem main.tw15461212566085484399 : True := trivial
theorem main.tw8096190563154859447 : True := trivial
theorem main.tw12747388180105724736 : True := trivial
theorem main.tw15631942387314964779 : True := trivial
theorem main.tw14027650596787315314 : True := trivial
theorem main.tw9247501659233101145 : True := trivial
theorem main.tw17600866488970185278 : True := trivial
theorem main.tw17272174723667511238 : True := trivial
theorem main.tw6234934611588079204 : True := trivial
theorem main.tw4500915450034043215 : True := trivial
theorem main.tw14907226015203709474 : True := trivial
theorem main.tw16932134980577923087 : True := trivial
theorem main.tw16629339528299215175 : True := trivial
theorem main.tw1118068078248606362 : True := trivial
theorem main.tw3027586509356016917 : True := trivial
theorem main.tw3724484323120607773 : True := trivial
theorem main.tw8546124895413445307 : True := trivial
theorem main.tw14064073609400967072 : True := trivial
theorem main.tw17737603089517620647 : True := trivial
theorem main.tw892681787802806017 : True := trivial
theorem main.tw11490900464029743698 : True := trivial
theorem main.tw17147588175821073265 : True := trivial
theorem main.tw3422715526262721465 : True := trivial
theorem main.tw7943094425149488825 : True := trivial
theorem main.tw10204856939554784155 : True := trivial
theorem main.tw7514964652732493775 : True := trivial
theorem main.tw14364048958407549093 : True := trivial
theorem main.tw8809968196449919288 : True := trivial
theorem main.tw8231103150381890471 : True := trivial
theorem main.tw8634654232796393261 : True := trivial
theorem main.tw6886502059237256666 : True := trivial
theorem main.tw11670399090076514202 : True := trivial
theorem main.tw6283666216762299864 : True := trivial
theorem main.tw5436791530062809996 : True := trivial
theorem main.tw12346658559823942425 : True := trivial
theorem main.tw1453356044741674121 : True := trivial
theorem main.tw16923884221124529275 : True := trivial
theorem main.tw6565609875121592624 : True := trivial
theorem main.tw6785657489111691699 : True := trivial
theorem main.tw7591743695986301205 : True := trivial
theorem main.tw8928990268580360915 : True := trivial
theorem main.tw9417822746687237092 : True := trivial
theorem main.tw245345280340631454 : True := trivial
theorem main.tw8344989883159853150 : True := trivial
theorem main.tw6264281720289328834 : True := trivial
theorem main.tw10455743928339290457 : True := trivial
theorem main.tw15642941266545998023 : True := trivial
theorem main.tw2496676261509829067 : True := trivial
theorem main.tw5435614590818080486 : True := trivial
theorem main.tw6519269512792494810 : True := trivial
theorem main.tw4324958949535026087 : True := trivial
theorem main.tw5613160597433933154 : True := trivial
theorem main.tw4385281892830598654 : True := trivial
theorem main.tw8440099810896429113 : True := trivial
theorem main.tw10123989817122485451 : True := trivial
theorem main.tw6642858168728409138 : True := trivial
theorem main.tw7299474751278700455 : True := trivial
theorem main.tw3583811862363856187 : True := trivial
theorem main.tw4749052000479324790 : True := trivial
theorem main.tw4630824681090250767 : True := trivial
theorem main.tw1454224541498743561 : True := trivial
theorem main.tw9293455121233016472 : True := trivial
theorem main.tw12922898485456448571 : True := trivial
theorem main.tw104360540948158410 : True := trivial
theorem main.tw15684375888932747349 : True := trivial
theorem main.tw3485684062173492111 : True := trivial
theorem main.tw7884331609784382070 : True := trivial
theorem main.tw12594366453804578888 : True := trivial
theorem main.tw6237627108579964202 : True := trivial
theorem main.tw2900998541784483753 : True := trivial
theorem main.tw17298425922696826006 : True := trivial
theorem main.tw6162249291895867263 : True := trivial
theorem main.tw15098031235356848795 : True := trivial
theorem main.tw8079908401900000222 : True := trivial
theorem main.tw12800608258095302798 : True := trivial
theorem main.tw9897820754763898449 : True := trivial
theorem main.tw11390293659975261258 : True := trivial
theorem main.tw12590340796369385619 : True := trivial
theorem main.tw15350898050860989542 : True := trivial
theorem main.tw17958375852430007124 : True := trivial
theorem main.tw4310270188432123100 : True := trivial
theorem main.tw8663697691656813868 : True := trivial
theorem main.tw11735423636902730196 : True := trivial
theorem main.tw15554039934745177238 : True := trivial
theorem main.tw16128220689672181975 : True := trivial
theorem main.tw7624122152786673341 : True := trivial
theorem main.tw15558288988949320067 : True := trivial
theorem main.tw10864377008497418100 : True := trivial
theorem main.tw4370652028205933106 : True := trivial
theorem main.tw12455012482086183272 : True := trivial
theorem main.tw11403851563620829512 : True := trivial
theorem main.tw5527929279227188259 : True := trivial
theorem main.tw12361340156312767134 : True := trivial
theorem main.tw15734660467963936456 : True := trivial
theorem main.tw10234815189450012239 : True := trivial
theorem main.tw18134284020713443437 : True := trivial
theorem main.tw2906824675625879941 : True := trivial
theorem main.tw8478376212529829071 : True := trivial
theorem main.tw2021556316718937628 : True := trivial
theorem main.tw11086099901593105684 : True := trivial
theorem main.tw11476092923266045095 : True := trivial
theorem main.tw17353955331779342651 : True := trivial
theorem main.tw9325587581009544774 : True := trivial
theorem main.tw5102693214775723256 : True := trivial
theorem main.tw16451033083921036709 : True := trivial
theorem main.tw6541472054586571296 : True := trivial
theorem main.tw9508770018378322450 : True := trivial
theorem main.tw9840939614602229412 : True := trivial
theorem main.tw5797031442667253490 : True := trivial
theorem main.tw6590341273101898363 : True := trivial
theorem main.tw12519306246395310219 : True := trivial
theorem main.tw16135426469972691074 : True := trivial
theorem main.tw16396084126727719574 : True := trivial
theorem main.tw9287587430799945685 : True := trivial
theorem main.tw18190005008629794160 : True := trivial
theorem main.tw3314904115985164895 : True := trivial
theorem main.tw7675930258259734528 : True := trivial
theorem main.tw8903568455446660058 : True := trivial
theorem main.tw5396361742852586263 : True := trivial
theorem main.tw1269329923203890863 : True := trivial
theorem main.tw15270170921892066516 : True := trivial
theorem main.tw17057053908230417247 : True := trivial
theorem main.tw15595112118272840620 : True := trivial
theorem main.tw65644731488775911 : True := trivial
theorem main.tw16235428439501865183 : True := trivial
theorem main.tw4350604851675314991 : True := trivial
theorem main.tw6862268138105152660 : True := trivial
theorem main.tw16651728564920304373 : True := trivial
theorem main.tw5995161000843957690 : True := trivial
theorem main.tw14368271195830560734 : True := trivial
theorem main.tw1336659820572712380 : True := trivial
theorem main.tw11689664321512496715 : True := trivial
theorem main.tw2127038452521536779 : True := trivial
theorem main.tw6690441779611380620 : True := trivial
theorem main.tw9498315638749924794 : True := trivial
theorem main.tw17268439761433841065 : True := trivial
theorem main.tw7974275031393228247 : True := trivial
theorem main.tw10453263994017694363 : True := trivial
theorem main.tw9903775340124721222 : True := trivial
theorem main.tw12646911602827044314 : True := trivial
theorem main.tw14020873708864708748 : True := trivial
theorem main.tw18063282731904131703 : True := trivial
theorem main.tw1277820614484962519 : True := trivial
theorem main.tw16320729459185622934 : True := trivial
theorem main.tw3374421720907634814 : True := trivial
theorem main.tw9432497158254318119 : True := trivial
theorem main.tw15022946984557111684 : True := trivial
theorem main.tw9703084557020090508 : True := trivial
theorem main.tw2373237607127697691 : True := trivial
theorem main.tw15540984915698410164 : True := trivial
theorem main.tw14759895335926876869 : True := trivial
theorem main.tw18046886581883190830 : True := trivial
theorem main.tw3706830351922483016 : True := trivial
theorem main.tw14080665800827857628 : True := trivial
theorem main.tw6196461290593541540 : True := trivial
theorem main.tw17871620999419790863 : True := trivial
theorem main.tw14554314840745968623 : True := trivial
theorem main.tw3203809635103463919 : True := trivial
theorem main.tw11544348965984651327 : True := trivial
theorem main.tw7668756792840097458 : True := trivial
theorem main.tw14161005256144132680 : True := trivial
theorem main.tw2847738043507502446 : True := trivial
theorem main.tw2709746457059553413 : True := trivial
theorem main.tw15565075772751903193 : True := trivial
theorem main.tw16136984950599521427 : True := trivial
theorem main.tw613567027398061577 : True := trivial
theorem main.tw3748114642381145586 : True := trivial
theorem main.tw1587290215689348708 : True := trivial
theorem main.tw14535484193269619989 : True := trivial
theorem main.tw11020365191643786025 : True := trivial
theorem main.tw8228058824784995430 : True := trivial
theorem main.tw5790326737455844299 : True := trivial
theorem main.tw1439166485080882 : True := trivial
theorem main.tw13547569757486424058 : True := trivial
theorem main.tw14504180641510445567 : True := trivial
theorem main.tw1319676515408343850 : True := trivial
theorem main.tw6697339332421208802 : True := trivial
theorem main.tw14798791472264738832 : True := trivial
theorem main.tw10474107093616326617 : True := trivial
theorem main.tw4216741518440994707 : True := trivial
theorem main.tw10663580350406149668 : True := trivial
theorem main.tw17563168436475441343 : True := trivial
theorem main.tw8651587035891514320 : True := trivial
theorem main.tw1496695287857109588 : True := trivial
theorem main.tw16765925921980633802 : True := trivial
theorem main.tw6214117541549086881 : True := trivial
theorem main.tw12222963475772708484 : True := trivial
theorem main.tw5418533224930618480 : True := trivial
theorem main.tw16008457594558532635 : True := trivial
theorem main.tw6404898279339705064 : True := trivial
theorem main.tw73751810991705359 : True := trivial
theorem main.tw10625486282989778954 : True := trivial
theorem main.tw15737690656516749961 : True := trivial
theorem main.tw563973728909168745 : True := trivial
theorem main.tw15017983477296125989 : True := trivial
theorem main.tw11387536720948717409 : True := trivial
theorem main.tw16891041157754790011 : True := trivial
theorem main.tw1409966394225722968 : True := trivial
theorem main.tw6183352029847204284 : True := trivial
theorem main.tw2729793432009153956 : True := trivial
theorem main.tw9964214247947446159 : True := trivial
theorem main.tw7186131708394509389 : True := trivial
theorem main.tw820145642477177705 : True := trivial
theorem main.tw17298271098590275757 : True := trivial
theorem main.tw12941917028564957548 : True := trivial
theorem main.tw7235775444256392728 : True := trivial
theorem main.tw8905992674379837232 : True := trivial
theorem main.tw12543713266681445118 : True := trivial
theorem main.tw6341409668436394099 : True := trivial
theorem main.tw341453280667917650 : True := trivial
theorem main.tw15606653302220566414 : True := trivial
theorem main.tw10813080517026676716 : True := trivial
theorem main.tw7268301785047649679 : True := trivial
theorem main.tw6741292078354696603 : True := trivial
theorem main.tw12959741745000181155 : True := trivial
theorem main.tw31828345220925962 : True := trivial
theorem main.tw6559806142732475569 : True := trivial
theorem main.tw6674386428176565332 : True := trivial
theorem main.tw17067035981215421688 : True := trivial
theorem main.tw10225356144477167704 : True := trivial
theorem main.tw18314829044154829275 : True := trivial
theorem main.tw13077236301305049449 : True := trivial
theorem main.tw33456957511925785 : True := trivial
theorem main.tw17292155258170135553 : True := trivial
theorem main.tw5623159541915647742 : True := trivial
theorem main.tw270496394426124508 : True := trivial
theorem main.tw4359638763739663684 : True := trivial
theorem main.tw1198661942849946583 : True := trivial
theorem main.tw16033097090804400913 : True := trivial
theorem main.tw6418202794160714309 : True := trivial
theorem main.tw18344032359734412310 : True := trivial
theorem main.tw3627144658338631552 : True := trivial
theorem main.tw15803610866087392283 : True := trivial
theorem main.tw1156462466702112376 : True := trivial
theorem main.tw18120430973489738927 : True := trivial
theorem main.tw17906638245316424091 : True := trivial
theorem main.tw961187720498965250 : True := trivial
theorem main.tw4540862073306924251 : True := trivial
theorem main.tw854977524454699277 : True := trivial
theorem main.tw11135027115929721415 : True := trivial
theorem main.tw5865035375444044283 : True := trivial
theorem main.tw5873463020976553958 : True := trivial
theorem main.tw15608450976537380609 : True := trivial
theorem main.tw11967333016625521393 : True := trivial
theorem main.tw14636892021812066514 : True := trivial
theorem main.tw18288009448212308685 : True := trivial
theorem main.tw1318968915056948652 : True := trivial
theorem main.tw9394770849952503311 : True := trivial
theorem main.tw10669944970481658594 : True := trivial
theorem main.tw11403970630465759474 : True := trivial
theorem main.tw13355152605343272895 : True := trivial
theorem main.tw5567732340971880690 : True := trivial
theorem main.tw14806125269305119590 : True := trivial
theorem main.tw4297412468100583042 : True := trivial
theorem main.tw6768520987592691376 : True := trivial
theorem main.tw6981815665589151136 : True := trivial
theorem main.tw12702744160499308131 : True := trivial
theorem main.tw8249873531624179374 : True := trivial
theorem main.tw8419495778230234659 : True := trivial
theorem main.tw8557395850702784662 : True := trivial
theorem main.tw1306636233014830658 : True := trivial
theorem main.tw5287059835090251167 : True := trivial
theorem main.tw3466206800631347469 : True := trivial
theorem main.tw4946776927847147119 : True := trivial
theorem main.tw14962632401376961426 : True := trivial
theorem main.tw1590763530083325563 : True := trivial
theorem main.tw11814867827210800679 : True := trivial
theorem main.tw6334894449686545209 : True := trivial
theorem main.tw16501172079758305675 : True := trivial
theorem main.tw5203219222101121401 : True := trivial
theorem main.tw14925635105145352654 : True := trivial
theorem main.tw358491910552652209 : True := trivial
theorem main.tw16153351446899991344 : True := trivial
theorem main.tw12741544251441588921 : True := trivial
theorem main.tw11028137302277699333 : True := trivial
theorem main.tw234599468654550697 : True := trivial
theorem main.tw7699798408344515789 : True := trivial
theorem main.tw11049269918873537771 : True := trivial
theorem main.tw12909650291622432550 : True := trivial
theorem main.tw2058021452347087232 : True := trivial
theorem main.tw14637806741061077295 : True := trivial
theorem main.tw10652611922669240339 : True := trivial
theorem main.tw3342365933539840098 : True := trivial
theorem main.tw11554813239044494598 : True := trivial
theorem main.tw14698241182937546978 : True := trivial
theorem main.tw16508919721030705984 : True := trivial
theorem main.tw221909299271738847 : True := trivial
theorem main.tw5160751907100791332 : True := trivial
theorem main.tw2279707942289718827 : True := trivial
theorem main.tw15810667371194948217 : True := trivial
theorem main.tw453184122279072053 : True := trivial
theorem main.tw15624239662980076321 : True := trivial
theorem main.tw11987853993630220354 : True := trivial
theorem main.tw12027323910402764344 : True := trivial
theorem main.tw6921685317656363116 : True := trivial
theorem main.tw2583023086579268501 : True := trivial
theorem main.tw3609762217373132089 : True := trivial
theorem main.tw9563168847844234846 : True := trivial
theorem main.tw10877679251791092727 : True := trivial
theorem main.tw793299525264137939 : True := trivial
theorem main.tw6674893403203295414 : True := trivial
theorem main.tw10114013102757674387 : True := trivial
theorem main.tw12992176717851604617 : True := trivial
theorem main.tw962032349192862916 : True := trivial
theorem main.tw17450470499104002142 : True := trivial
theorem main.tw8260724100714396741 : True := trivial
theorem main.tw2343935838158425641 : True := trivial
theorem main.tw13572980719466306388 : True := trivial
theorem main.tw18178676814319149831 : True := trivial
theorem main.tw5534937755968359062 : True := trivial
theorem main.tw917386388269078853 : True := trivial
theorem main.tw3370190323706015969 : True := trivial
theorem main.tw6072795283324543088 : True := trivial
theorem main.tw17495560712657236704 : True := trivial
theorem main.tw2555861160798251974 : True := trivial
theorem main.tw10733187975300939785 : True := trivial
theorem main.tw1519992759497675636 : True := trivial
theorem main.tw470481871638761223 : True := trivial
theorem main.tw7394006948641179287 : True := trivial
theorem main.tw17453503289922162039 : True := trivial
theorem main.tw17904854198161793398 : True := trivial
theorem main.tw10101900104965146230 : True := trivial
theorem main.tw9211707205177423737 : True := trivial
theorem main.tw17708487481403421675 : True := trivial
theorem main.tw12839114828313443825 : True := trivial
theorem main.tw3613476055612923068 : True := trivial
theorem main.tw1826329307503635854 : True := trivial
theorem main.tw12518504611687188807 : True := trivial
theorem main.tw14313061170024940013 : True := trivial
theorem main.tw10987386120367425466 : True := trivial
theorem main.tw18315214858253571532 : True := trivial
theorem main.tw13532707612510029741 : True := trivial
theorem main.tw8127475511531132179 : True := trivial
theorem main.tw7358942708152152329 : True := trivial
theorem main.tw13227692790652741651 : True := trivial
theorem main.tw7751025194823839400 : True := trivial
theorem main.tw6044114016751833949 : True := trivial
theorem main.tw8466321980469482115 : True := trivial
theorem main.tw2759098988195820126 : True := trivial
theorem main.tw11225645599760410699 : True := trivial
theorem main.tw12692632004510240207 : True := trivial
theorem main.tw13447304073604360266 : True := trivial
theorem main.tw8436210846270712021 : True := trivial
theorem main.tw9483120023164983764 : True := trivial
theorem main.tw2653321512126949328 : True := trivial
theorem main.tw10140136200207757160 : True := trivial
theorem main.tw14893090268090260817 : True := trivial
theorem main.tw13429379312604010019 : True := trivial
theorem main.tw18385570937342765463 : True := trivial
theorem main.tw2923326968966308885 : True := trivial
theorem main.tw7000664437366286474 : True := trivial
theorem main.tw10298723112805639129 : True := trivial
theorem main.tw11501822485730972192 : True := trivial
theorem main.tw6137908229700043457 : True := trivial
theorem main.tw14666387041718499266 : True := trivial
theorem main.tw13503263706703578961 : True := trivial
theorem main.tw15950006927108054178 : True := trivial
theorem main.tw12431731261707249289 : True := trivial
theorem main.tw16965079339398995527 : True := trivial
theorem main.tw6545385358150927430 : True := trivial
theorem main.tw16863156106696720372 : True := trivial
theorem main.tw4990475226369331113 : True := trivial
theorem main.tw4650958065196391918 : True := trivial
theorem main.tw7624293977416268664 : True := trivial
theorem main.tw16832360635688203351 : True := trivial
theorem main.tw11125538497796368324 : True := trivial
theorem main.tw10750994468655217958 : True := trivial
theorem main.tw7647378279178456250 : True := trivial
theorem main.tw16411370214107742406 : True := trivial
theorem main.tw734625210370093676 : True := trivial
theorem main.tw13187166440333854079 : True := trivial
theorem main.tw4210618832060959676 : True := trivial
theorem main.tw7374449385936029500 : True := trivial
theorem main.tw4977165927707633593 : True := trivial
theorem main.tw6117098260805541702 : True := trivial
theorem main.tw17431719831054627609 : True := trivial
theorem main.tw12582173479537470380 : True := trivial
theorem main.tw14635473669698735251 : True := trivial
theorem main.tw4651154628705390771 : True := trivial
theorem main.tw8460393628821922486 : True := trivial
theorem main.tw9368617206455126095 : True := trivial
theorem main.tw9381277316556691805 : True := trivial
theorem main.tw10363585996791799541 : True := trivial
theorem main.tw7411558596216406370 : True := trivial
theorem main.tw9682133043923132273 : True := trivial
theorem main.tw12570134572688502250 : True := trivial
theorem main.tw11181722664286889309 : True := trivial
theorem main.tw11646826074482590764 : True := trivial
theorem main.tw5900072995565114194 : True := trivial
theorem main.tw833945537157984683 : True := trivial
theorem main.tw1707505545463187130 : True := trivial
theorem main.tw1289389943133740499 : True := trivial
theorem main.tw3298483428156984901 : True := trivial
theorem main.tw8707812797481193996 : True := trivial
theorem main.tw6389877041954997217 : True := trivial
theorem main.tw3544752959273917758 : True := trivial
theorem main.tw17726818538635551376 : True := trivial
theorem main.tw8125125469695226666 : True := trivial
theorem main.tw14060465935940456498 : True := trivial
theorem main.tw2173562974560187446 : True := trivial
theorem main.tw17679725944135375923 : True := trivial
theorem main.tw6596593509180878263 : True := trivial
theorem main.tw10717781254789130011 : True := trivial
theorem main.tw7472237861779093752 : True := trivial
theorem main.tw13597483153833180358 : True := trivial
theorem main.tw6254453501864316152 : True := trivial
theorem main.tw16544489699163171333 : True := trivial
theorem main.tw12130321265151566525 : True := trivial
theorem main.tw18284262389922463811 : True := trivial
theorem main.tw2542808073141276813 : True := trivial
theorem main.tw17227442419121036007 : True := trivial
theorem main.tw4812270449578504274 : True := trivial
theorem main.tw5460091804258272057 : True := trivial
theorem main.tw11962923498438245051 : True := trivial
theorem main.tw13565518394914824834 : True := trivial
theorem main.tw3136416535801588117 : True := trivial
theorem main.tw9747897558166968733 : True := trivial
theorem main.tw5010051100324977839 : True := trivial
theorem main.tw3305931106042330821 : True := trivial
theorem main.tw8265370782698574782 : True := trivial
theorem main.tw9321267617633783869 : True := trivial
theorem main.tw11399646045708457374 : True := trivial
theorem main.tw2544328076492683441 : True := trivial
theorem main.tw4244067443239231564 : True := trivial
theorem main.tw2629084897520917108 : True := trivial
theorem main.tw13306352142949925410 : True := trivial
theorem main.tw1041082287264499562 : True := trivial
theorem main.tw4413345314126155841 : True := trivial
theorem main.tw7153082081811710619 : True := trivial
theorem main.tw6053611964639427726 : True := trivial
theorem main.tw8729708805864041840 : True := trivial
theorem main.tw9811667543942387436 : True := trivial
theorem main.tw8404659333953806752 : True := trivial
theorem main.tw12273490649430754879 : True := trivial
theorem main.tw17413556829735388813 : True := trivial
theorem main.tw3911810758690780188 : True := trivial
theorem main.tw452746233719593009 : True := trivial
theorem main.tw5473700226181020891 : True := trivial
theorem main.tw15425874342098770709 : True := trivial
theorem main.tw13738235750113832370 : True := trivial
theorem main.tw4924694640843408985 : True := trivial
theorem main.tw17025424565251489684 : True := trivial
theorem main.tw7623509227018997848 : True := trivial
theorem main.tw8484041278411425421 : True := trivial
theorem main.tw12077450504624328385 : True := trivial
theorem main.tw3222223853247747169 : True := trivial
theorem main.tw14235155234550121937 : True := trivial
theorem main.tw15277975159832343749 : True := trivial
theorem main.tw8844999433837080629 : True := trivial
theorem main.tw15445229340043853549 : True := trivial
theorem main.tw716429049611869786 : True := trivial
theorem main.tw7008153826215325649 : True := trivial
theorem main.tw1046443281632482020 : True := trivial
theorem main.tw6542085627976250192 : True := trivial
theorem main.tw12463224122652932544 : True := trivial
theorem main.tw12667108692942931566 : True := trivial
theorem main.tw10542905334921785414 : True := trivial
theorem main.tw6483966928607899096 : True := trivial
theorem main.tw2564707057010578714 : True := trivial
theorem main.tw13965128551521907918 : True := trivial
theorem main.tw4039676971129161736 : True := trivial
theorem main.tw16723884430069596700 : True := trivial
theorem main.tw8118072479153026202 : True := trivial
theorem main.tw17236958762192778904 : True := trivial
theorem main.tw10242657825688863476 : True := trivial
theorem main.tw13626721169425172152 : True := trivial
theorem main.tw9957550378297406723 : True := trivial
theorem main.tw10435530978670571659 : True := trivial
theorem main.tw2033968301974640842 : True := trivial
theorem main.tw3491332818749588091 : True := trivial
theorem main.tw16689149305811164139 : True := trivial
theorem main.tw302440914744352476 : True := trivial
theorem main.tw2647654807098235363 : True := trivial
theorem main.tw2456247091588846565 : True := trivial
theorem main.tw15312394840280087653 : True := trivial
theorem main.tw11001617756164336837 : True := trivial
theorem main.tw6632538468102435922 : True := trivial
theorem main.tw7214478077546791972 : True := trivial
theorem main.tw10554957952762445534 : True := trivial
theorem main.tw11410963132546700228 : True := trivial
theorem main.tw955993832684835811 : True := trivial
theorem main.tw11923525502935528744 : True := trivial
theorem main.tw10825349956297869744 : True := trivial
theorem main.tw11388154006635350966 : True := trivial
theorem main.tw14406990849044604362 : True := trivial
theorem main.tw11003572833241299968 : True := trivial
theorem main.tw1519927702969063271 : True := trivial
theorem main.tw10737556833816505880 : True := trivial
theorem main.tw13132915859168520264 : True := trivial
theorem main.tw2259866600804224517 : True := trivial
theorem main.tw2794983428953441941 : True := trivial
theorem main.tw6914184659022975773 : True := trivial
theorem main.tw474381771622712015 : True := trivial
theorem main.tw4475767826048309731 : True := trivial
theorem main.tw10665089971535097683 : True := trivial
theorem main.tw16950194794029067938 : True := trivial
theorem main.tw1372806426800153423 : True := trivial
theorem main.tw11405101455947879731 : True := trivial
theorem main.tw13962693860625380366 : True := trivial
theorem main.tw11982392923317675503 : True := trivial
theorem main.tw15060185592220127646 : True := trivial
theorem main.tw10201359505653846880 : True := trivial
theorem main.tw10953687544409504101 : True := trivial
theorem main.tw5502569546826302122 : True := trivial
theorem main.tw17223442867436993403 : True := trivial
theorem main.tw4333880214566435006 : True := trivial
theorem main.tw8068379698969174043 : True := trivial
theorem main.tw9190990891756207365 : True := trivial
theorem main.tw387501639795913443 : True := trivial
theorem main.tw15312040371321221727 : True := trivial
theorem main.tw13293747886898857621 : True := trivial
theorem main.tw7623511443260959870 : True := trivial
theorem main.tw10391951854915411234 : True := trivial
theorem main.tw4817600198373253283 : True := trivial
theorem main.tw10047389527955405517 : True := trivial
theorem main.tw1850612553970854742 : True := trivial
theorem main.tw16057503054469045564 : True := trivial
theorem main.tw12987577155417789579 : True := trivial
theorem main.tw14216407083858561409 : True := trivial
theorem main.tw13667920496262714385 : True := trivial
theorem main.tw5456330333991267789 : True := trivial
theorem main.tw9808303207383738048 : True := trivial
theorem main.tw11710404883906591787 : True := trivial
theorem main.tw11728771520666845194 : True := trivial
theorem main.tw15087427406127887449 : True := trivial
theorem main.tw14639212616227390028 : True := trivial
theorem main.tw2599750674813586877 : True := trivial
theorem main.tw3137596982192898869 : True := trivial
theorem main.tw3404965551341049163 : True := trivial
theorem main.tw11916895729686876088 : True := trivial
theorem main.tw18325589031809861271 : True := trivial
theorem main.tw4917070330192852093 : True := trivial
theorem main.tw16357356043003861740 : True := trivial
theorem main.tw16187894506366716058 : True := trivial
theorem main.tw6862492499505807319 : True := trivial
theorem main.tw5400957986263281647 : True := trivial
theorem main.tw6702130215012162313 : True := trivial
theorem main.tw12139096438432415106 : True := trivial
theorem main.tw2156145737304315219 : True := trivial
theorem main.tw8548823596671561066 : True := trivial
theorem main.tw7884273913378172499 : True := trivial
theorem main.tw10939538800803721631 : True := trivial
theorem main.tw7530017696762252536 : True := trivial
theorem main.tw13934608090901567409 : True := trivial
theorem main.tw4036238207498611232 : True := trivial
theorem main.tw2921621734765799159 : True := trivial
theorem main.tw15957597259013190341 : True := trivial
theorem main.tw4502447428920916452 : True := trivial
theorem main.tw7761410557224570781 : True := trivial
theorem main.tw7054876372555587774 : True := trivial
theorem main.tw1415428593365352553 : True := trivial
theorem main.tw15140838672463199983 : True := trivial
theorem main.tw17864028415675338326 : True := trivial
theorem main.tw4088224383575840552 : True := trivial
theorem main.tw9361300454564663673 : True := trivial
theorem main.tw10177057350305019805 : True := trivial
theorem main.tw18431692314602308842 : True := trivial
theorem main.tw3994622017586750766 : True := trivial
theorem main.tw1777545030009416734 : True := trivial
theorem main.tw10159738436595150677 : True := trivial
theorem main.tw918671981122897330 : True := trivial
theorem main.tw10094358506670053839 : True := trivial
theorem main.tw6640438233256266117 : True := trivial
theorem main.tw16153842264607907944 : True := trivial
theorem main.tw6087835443962453003 : True := trivial
theorem main.tw12675357926760492328 : True := trivial
theorem main.tw4948327476702027199 : True := trivial
theorem main.tw983542388872702638 : True := trivial
theorem main.tw3714520120236048840 : True := trivial
theorem main.tw12623159325031504133 : True := trivial
theorem main.tw2538046985915079169 : True := trivial
theorem main.tw765107192605250810 : True := trivial
theorem main.tw1255815211270559930 : True := trivial
theorem main.tw17767330081159143506 : True := trivial
theorem main.tw9515011664573035354 : True := trivial
theorem main.tw7165207203227711834 : True := trivial
theorem main.tw1261021989165538067 : True := trivial
theorem main.tw9939699701984659387 : True := trivial
theorem main.tw4784553394551972577 : True := trivial
theorem main.tw7697417962357392202 : True := trivial
theorem main.tw9458421452666605423 : True := trivial
theorem main.tw471287901995484742 : True := trivial
theorem main.tw18328743936084910167 : True := trivial
theorem main.tw5616070069386785504 : True := trivial
theorem main.tw4044139247061151142 : True := trivial
theorem main.tw1615045767204293396 : True := trivial
theorem main.tw13270728482189477470 : True := trivial
theorem main.tw10219080375879083632 : True := trivial
theorem main.tw5671064798259553346 : True := trivial
theorem main.tw11041858737867550897 : True := trivial
theorem main.tw6605025701479795990 : True := trivial
theorem main.tw8834365191522931223 : True := trivial
theorem main.tw17699438841360665129 : True := trivial
theorem main.tw16676564476587882173 : True := trivial
theorem main.tw9381886862466946253 : True := trivial
theorem main.tw17734603463515337306 : True := trivial
theorem main.tw2136821422063795447 : True := trivial
theorem main.tw18442785490491869365 : True := trivial
theorem main.tw2007339730380871907 : True := trivial
theorem main.tw13591255225166038476 : True := trivial
theorem main.tw15059693217772790739 : True := trivial
theorem main.tw12332102779922042578 : True := trivial
theorem main.tw834873547066669988 : True := trivial
theorem main.tw16819838333489098493 : True := trivial
theorem main.tw52199770228462824 : True := trivial
theorem main.tw17715262827843222689 : True := trivial
theorem main.tw1050151122526681168 : True := trivial
theorem main.tw16251939892948500945 : True := trivial
theorem main.tw1781223760143429554 : True := trivial
theorem main.tw14336716466608126219 : True := trivial
theorem main.tw13590572293223372214 : True := trivial
theorem main.tw3288582142898991060 : True := trivial
theorem main.tw3867218068155391060 : True := trivial
theorem main.tw6385024630547198690 : True := trivial
theorem main.tw8652556701797213591 : True := trivial
theorem main.tw14377180257169084997 : True := trivial
theorem main.tw2442773178527959075 : True := trivial
theorem main.tw1552421926411342777 : True := trivial
theorem main.tw12751799325998411230 : True := trivial
theorem main.tw4681395471914393968 : True := trivial
theorem main.tw9942282790977331292 : True := trivial
theorem main.tw9360745474812902239 : True := trivial
theorem main.tw9626384672669237482 : True := trivial
theorem main.tw7742616358663508648 : True := trivial
theorem main.tw15593309334025535782 : True := trivial
theorem main.tw2433702464844828792 : True := trivial
theorem main.tw1886080085820668685 : True := trivial
theorem main.tw1099256609624015869 : True := trivial
theorem main.tw2287093442842179507 : True := trivial
theorem main.tw432790634136133436 : True := trivial
theorem main.tw13803360072150633466 : True := trivial
theorem main.tw5061512775090418087 : True := trivial
theorem main.tw1355085073191494161 : True := trivial
theorem main.tw5870225077901225703 : True := trivial
theorem main.tw9253799994812790149 : True := trivial
theorem main.tw6912675738884088206 : True := trivial
theorem main.tw6584820252761975732 : True := trivial
theorem main.tw1098248734344127483 : True := trivial
theorem main.tw11614346279706655073 : True := trivial
theorem main.tw11463369355524808266 : True := trivial
theorem main.tw15465920861327815835 : True := trivial
theorem main.tw17659147809683748901 : True := trivial
theorem main.tw13642826006792871662 : True := trivial
theorem main.tw16790050636404226231 : True := trivial
theorem main.tw5665406974723832613 : True := trivial
theorem main.tw15491723280356408159 : True := trivial
theorem main.tw13194694976546938235 : True := trivial
theorem main.tw962193829226610041 : True := trivial
theorem main.tw12483276189755474720 : True := trivial
theorem main.tw16049902774474827687 : True := trivial
theorem main.tw11120327062377616369 : True := trivial
theorem main.tw8952462522180670554 : True := trivial
theorem main.tw14327529596952217943 : True := trivial
theorem main.tw13154001654789283132 : True := trivial
theorem main.tw4585930131862741453 : True := trivial
theorem main.tw66260789543402106 : True := trivial
theorem main.tw12106859168716417752 : True := trivial
theorem main.tw1548279923187021627 : True := trivial
theorem main.tw1606137496264982490 : True := trivial
theorem main.tw15643365686152983790 : True := trivial
theorem main.tw4409510580461579534 : True := trivial
theorem main.tw1800746815547063501 : True := trivial
theorem main.tw18031918436515192882 : True := trivial
theorem main.tw13313126695403321540 : True := trivial
theorem main.tw11815829001073249272 : True := trivial
theorem main.tw1628013610222277130 : True := trivial
theorem main.tw16784772322866675431 : True := trivial
theorem main.tw12429675835336498981 : True := trivial
theorem main.tw8756518407330761489 : True := trivial
theorem main.tw4561105241695004074 : True := trivial
theorem main.tw13116522157475607773 : True := trivial
theorem main.tw7350554884032477566 : True := trivial
theorem main.tw7073996269223845280 : True := trivial
theorem main.tw12867379429370454646 : True := trivial
theorem main.tw14009396871252706886 : True := trivial
theorem main.tw16721930046160240684 : True := trivial
theorem main.tw5842977544298395883 : True := trivial
theorem main.tw12298629886278197574 : True := trivial
theorem main.tw9175052073728820173 : True := trivial
theorem main.tw12870486517592710932 : True := trivial
theorem main.tw656089360051881306 : True := trivial
theorem main.tw10463206416058312583 : True := trivial
theorem main.tw5517759331935216279 : True := trivial
theorem main.tw12245857906982125569 : True := trivial
theorem main.tw10210597933619972095 : True := trivial
theorem main.tw14286279103370969706 : True := trivial
theorem main.tw7929128423345735474 : True := trivial
theorem main.tw4420394385881154636 : True := trivial
theorem main.tw12900284412222446716 : True := trivial
theorem main.tw645136716886899192 : True := trivial
theorem main.tw18421580907717582127 : True := trivial
theorem main.tw2566753976717531306 : True := trivial
theorem main.tw16097269412956081036 : True := trivial
theorem main.tw17144978775634262171 : True := trivial
theorem main.tw1211270941048087907 : True := trivial
theorem main.tw9656510801202774680 : True := trivial
theorem main.tw3343439749351644125 : True := trivial
theorem main.tw8281396171620568247 : True := trivial
theorem main.tw15023316991559800185 : True := trivial
theorem main.tw6449824600675878752 : True := trivial
theorem main.tw15244097889725654702 : True := trivial
theorem main.tw12574995316784493246 : True := trivial
theorem main.tw9006321595064636914 : True := trivial
theorem main.tw3750506576032048294 : True := trivial
theorem main.tw14313897822631088780 : True := trivial
theorem main.tw17110241357884498264 : True := trivial
theorem main.tw6425626318312657004 : True := trivial
theorem main.tw10169072693733980587 : True := trivial
theorem main.tw49674306023711395 : True := trivial
theorem main.tw1242282695825638017 : True := trivial
theorem main.tw15589955886551607785 : True := trivial
theorem main.tw16193401482309157537 : True := trivial
theorem main.tw12564604832814323664 : True := trivial
theorem main.tw18392154025008590481 : True := trivial
theorem main.tw8748973510418095054 : True := trivial
theorem main.tw2190695567426971638 : True := trivial
theorem main.tw16959884160788844718 : True := trivial
theorem main.tw16757190730947197508 : True := trivial
theorem main.tw11261727412033496967 : True := trivial
theorem main.tw2921958311620399285 : True := trivial
theorem main.tw4124465007535222370 : True := trivial
theorem main.tw18403998269306519403 : True := trivial
theorem main.tw14909365282108701170 : True := trivial
theorem main.tw4046449949787424452 : True := trivial
theorem main.tw5649967823195072380 : True := trivial
theorem main.tw7860819179221955721 : True := trivial
theorem main.tw13797323745857372409 : True := trivial
theorem main.tw11183452524601008856 : True := trivial
theorem main.tw588950844065142505 : True := trivial
theorem main.tw3549514262204291990 : True := trivial
theorem main.tw13914785722749861914 : True := trivial
theorem main.tw11019096307435631222 : True := trivial
theorem main.tw161903638078081290 : True := trivial
theorem main.tw1157997071576566072 : True := trivial
theorem main.tw5461779845614304980 : True := trivial
theorem main.tw10044588960856096794 : True := trivial
theorem main.tw3234112476842188716 : True := trivial
theorem main.tw2702614204127132176 : True := trivial
theorem main.tw12093647306153771053 : True := trivial
theorem main.tw16480584520131690045 : True := trivial
theorem main.tw17920292393507637884 : True := trivial
theorem main.tw12915833801598196605 : True := trivial
theorem main.tw9131807755668617818 : True := trivial
theorem main.tw14439473939278146460 : True := trivial
theorem main.tw6639522245352263942 : True := trivial
theorem main.tw9756827057097773860 : True := trivial
theorem main.tw13148611719377898607 : True := trivial
theorem main.tw7070123817558143148 : True := trivial
theorem main.tw9681375758050803366 : True := trivial
theorem main.tw9483696857397876608 : True := trivial
theorem main.tw11789403723227289746 : True := trivial
theorem main.tw12681957500809781501 : True := trivial
theorem main.tw15079240505294077160 : True := trivial
theorem main.tw1027651156746619712 : True := trivial
theorem main.tw13350764725976880583 : True := trivial
theorem main.tw1191263595243908205 : True := trivial
theorem main.tw5303952258864922383 : True := trivial
theorem main.tw722433290690908527 : True := trivial
theorem main.tw7083192437325867461 : True := trivial
theorem main.tw8643928048826747898 : True := trivial
theorem main.tw14390754486103292620 : True := trivial
theorem main.tw9693634834776466397 : True := trivial
theorem main.tw13978478705568000493 : True := trivial
theorem main.tw9274054859765456524 : True := trivial
theorem main.tw9392487213469676918 : True := trivial
theorem main.tw17185042187573640451 : True := trivial
theorem main.tw9071729483887776986 : True := trivial
theorem main.tw4719957520787936630 : True := trivial
theorem main.tw3626430660855392483 : True := trivial
theorem main.tw2225892363528398861 : True := trivial
theorem main.tw2744014450722944760 : True := trivial
theorem main.tw8475525182357872103 : True := trivial
theorem main.tw17290568124846718506 : True := trivial
theorem main.tw4047586217144654443 : True := trivial
theorem main.tw11487549891475536569 : True := trivial
theorem main.tw5352104535322881683 : True := trivial
theorem main.tw6877560268529008848 : True := trivial
theorem main.tw15768048840197415361 : True := trivial
theorem main.tw4871624949866520906 : True := trivial
theorem main.tw861011362418597151 : True := trivial
theorem main.tw14662554035588321541 : True := trivial
theorem main.tw9561784451562097942 : True := trivial
theorem main.tw18162592725011693541 : True := trivial
theorem main.tw11251407683458634364 : True := trivial
theorem main.tw11349898740250378076 : True := trivial
theorem main.tw5831584030425509755 : True := trivial
theorem main.tw5837888446457221635 : True := trivial
theorem main.tw16355746345580011080 : True := trivial
theorem main.tw2484414159333256978 : True := trivial
theorem main.tw17477492558424962760 : True := trivial
theorem main.tw8947760058931562597 : True := trivial
theorem main.tw8402242094647718915 : True := trivial
theorem main.tw12252054271945606052 : True := trivial
theorem main.tw8708525158762292434 : True := trivial
theorem main.tw6868236387235032019 : True := trivial
theorem main.tw4156893749530806270 : True := trivial
theorem main.tw12986061983710234785 : True := trivial
theorem main.tw6635558491612396129 : True := trivial
theorem main.tw17028514697001254897 : True := trivial
theorem main.tw10199874654664476236 : True := trivial
theorem main.tw4189750870438640210 : True := trivial
theorem main.tw16922381011570985944 : True := trivial
theorem main.tw13113777628852026922 : True := trivial
theorem main.tw11026368017406528944 : True := trivial
theorem main.tw13260870731297125680 : True := trivial
theorem main.tw17810739071172958242 : True := trivial
theorem main.tw9272984997812220495 : True := trivial
theorem main.tw2855982326401850692 : True := trivial
theorem main.tw15575723056732996420 : True := trivial
theorem main.tw13995172100960836882 : True := trivial
theorem main.tw10564528347858357063 : True := trivial
theorem main.tw7108953243070827183 : True := trivial
theorem main.tw5665735395497279834 : True := trivial
theorem main.tw1178595665728414349 : True := trivial
theorem main.tw2110754180369666209 : True := trivial
theorem main.tw3160845607165458772 : True := trivial
theorem main.tw3864431920445960829 : True := trivial
theorem main.tw54841869916938688 : True := trivial
theorem main.tw4839478117068044826 : True := trivial
theorem main.tw12942913107403878096 : True := trivial
theorem main.tw15970538086172389420 : True := trivial
theorem main.tw6164561884633627433 : True := trivial
theorem main.tw11595355409239048105 : True := trivial
theorem main.tw244467455267321384 : True := trivial
theorem main.tw17201416709059790184 : True := trivial
theorem main.tw14106445559736802775 : True := trivial
theorem main.tw14097447854668400296 : True := trivial
theorem main.tw11213863890663495067 : True := trivial
theorem main.tw9880953963774564861 : True := trivial
theorem main.tw1054321117371714560 : True := trivial
theorem main.tw7697325545964645800 : True := trivial
theorem main.tw13676971244355772609 : True := trivial
theorem main.tw12927740378394474205 : True := trivial
theorem main.tw9557352009045844224 : True := trivial
theorem main.tw8681388529863501421 : True := trivial
theorem main.tw14161465996007527954 : True := trivial
theorem main.tw11707585526205722907 : True := trivial
theorem main.tw5181119749688162637 : True := trivial
theorem main.tw9069182735580402390 : True := trivial
theorem main.tw1130211791997205004 : True := trivial
theorem main.tw1980160206288974728 : True := trivial
theorem main.tw7142256002058171272 : True := trivial
theorem main.tw12969983923199422630 : True := trivial
theorem main.tw10992214633131536827 : True := trivial
theorem main.tw16989488325979979065 : True := trivial
theorem main.tw13713940216889387898 : True := trivial
theorem main.tw5104194264097766351 : True := trivial
theorem main.tw14722489848711283861 : True := trivial
theorem main.tw10876229203375891673 : True := trivial
theorem main.tw6910295442248876197 : True := trivial
theorem main.tw14755733875199540201 : True := trivial
theorem main.tw5839530249802149432 : True := trivial
theorem main.tw18317609476662902477 : True := trivial
theorem main.tw17749094844149355310 : True := trivial
theorem main.tw12974819211118642341 : True := trivial
theorem main.tw10063615490667107986 : True := trivial
theorem main.tw17275675667316583603 : True := trivial
theorem main.tw4491334807805099456 : True := trivial
theorem main.tw6106196091520820027 : True := trivial
theorem main.tw15616401959046598769 : True := trivial
theorem main.tw13255245976751338989 : True := trivial
theorem main.tw7273056430967151046 : True := trivial
theorem main.tw799486724532869496 : True := trivial
theorem main.tw14713023043418418522 : True := trivial
theorem main.tw13974046611088194958 : True := trivial
theorem main.tw7691172733374981047 : True := trivial
theorem main.tw14788915703135433725 : True := trivial
theorem main.tw16292202817602668162 : True := trivial
theorem main.tw17016820405989369747 : True := trivial
theorem main.tw12118360930388700471 : True := trivial
theorem main.tw12338497608069007261 : True := trivial
theorem main.tw15579395750891953841 : True := trivial
theorem main.tw6981580820607432535 : True := trivial
theorem main.tw7788533954027902341 : True := trivial
theorem main.tw17128476026691140212 : True := trivial
theorem main.tw3985830497718990404 : True := trivial
theorem main.tw14168887731352723522 : True := trivial
theorem main.tw5240536507193477226 : True := trivial
theorem main.tw14672674291997333471 : True := trivial
theorem main.tw4587069139193485165 : True := trivial
theorem main.tw10715366876728099628 : True := trivial
theorem main.tw7521444476212097132 : True := trivial
theorem main.tw5343319030673445083 : True := trivial
theorem main.tw5309058905264134205 : True := trivial
theorem main.tw13514204307011423542 : True := trivial
theorem main.tw2399826469436781019 : True := trivial
theorem main.tw18029164874364165131 : True := trivial
theorem main.tw14443092014599818573 : True := trivial
theorem main.tw11933201153402537488 : True := trivial
theorem main.tw545269030811804461 : True := trivial
theorem main.tw6437645805973890128 : True := trivial
theorem main.tw14814594519894181452 : True := trivial
theorem main.tw5289026146741335887 : True := trivial
theorem main.tw15097543051748444868 : True := trivial
theorem main.tw13180746182150919023 : True := trivial
theorem main.tw17413806152003534235 : True := trivial
theorem main.tw13689083923384677848 : True := trivial
theorem main.tw6418098437765475518 : True := trivial
theorem main.tw9189880136782149556 : True := trivial
theorem main.tw17456035664235451855 : True := trivial
theorem main.tw7139307881021679148 : True := trivial
theorem main.tw3905226178654972811 : True := trivial
theorem main.tw6657087868060814 : True := trivial
theorem main.tw16952715711813285254 : True := trivial
theorem main.tw3056878081241006185 : True := trivial
theorem main.tw6660377722381337597 : True := trivial
theorem main.tw5234446048077146213 : True := trivial
theorem main.tw5401703158475992631 : True := trivial
theorem main.tw18342001204779339714 : True := trivial
theorem main.tw3299218664060906527 : True := trivial
theorem main.tw11774690029378154688 : True := trivial
theorem main.tw11041547156204584376 : True := trivial
theorem main.tw16320215318167395912 : True := trivial
theorem main.tw1390771862084280389 : True := trivial
theorem main.tw13157206579259725088 : True := trivial
theorem main.tw13049578078411036502 : True := trivial
theorem main.tw13363961296955438189 : True := trivial
set_option Elab.async true in
theorem main : PySem.Challenge.rw_te0076_03.Holds := by
  w_on; o_law; k_head; (case hw => w_witness2)
  (try clear main)
  have ctr_is_invalid {w : World} {loose : List Str} {mean : ExcName → Option Value} {mg mb : Str → Option Value} {c : Int} {tc : Tok} : CtrC PySem.Challenge.rw_te0076_03.row.prog w (main.heap_1_39 w.params) (Top main.view_1_40 loose mean mg mb) 490 900 (.ref 84) ⟨[.int c tc], []⟩ [] (noF fun v l => ∃ b, v = .bool b ∧ l = []) := by
    as_aux_lemma =>
      k_with_none
      k_with "subscriptTail" => (k_here; (with_reducible show wpAny _ _ (subscriptTail _ _ (Value.str _ _) (Value.int _ _)) _ _ _); (refine Mine.sub_chr (by omega) (by omega) (by assumption) ?_))
      k_with "getMethod ref" => (k_here; k_dflt (first | (refine' method_inst ?k1_isinv ?k2_isinv ?k3_isinv ?k4_isinv ?k5_isinv ?k6_isinv ?k7_isinv ?_; (case k1_isinv => k_asm); (case k2_isinv => k_asm); (case k3_isinv => k_inst); (case k4_isinv => k_is); (case k5_isinv => k_is); (case k6_isinv => k_is); (case k7_isinv => k_get); k_whole) | (refine' kmu_own ?k1_isinv ?k2_isinv ?k3_isinv ?k4_isinv ?k5_isinv ?_; (case k1_isinv => k_asm); (case k2_isinv => k_asm); (case k3_isinv => k_inst); (case k4_isinv => k_is); (case k5_isinv => k_is); k_whole)))
      k_with "getMethod ref" => (k_here; (with_reducible show wpAny _ _ (getMethod (Value.ref _) (PySem.Str.ofString "append") _) _ _ _); k_dflt (refine' kl_method ?N_isinv ?m_isinv slot_list_append type_list_append ?_; (case N_isinv => k_asm); (case m_isinv => k_mem); k_whole))
      k_with "subscriptTail Name UnaryOp str int" => (k_here; (with_reducible show wpAny _ _ (subscriptTail _ _ (Value.str _ _) (Value.int _ _)) _ _ _); (refine Mine.sub_last (by omega) (by omega) (by omega) ?_); intro c9 hc9; (try (k_dflt (have hs9 := Mine.last_lt (B := 55296) (by assumption) (by assumption) hc9))))
      k_with "call builtin:str.replace" => (k_here; (with_reducible show wpAny _ _ (call (Value.builtin "str.replace") [Value.str _ _, Value.str _ _, Value.str _ _]) _ _ _); (refine Mine.replaceM (by (try dsimp only); omega) (by (try dsimp only); omega) (by (try dsimp only); omega) (by decide +kernel) (by (refine Nat.le_trans (m := 10000) ?_ (by decide); repeat' (first | with_reducible assumption | with_reducible refine Mine.slice_len_le ?_ | (with_reducible refine Nat.le_trans (Mine.replace_len (by decide +kernel) (by decide +kernel)) ?_) | exact (by decide +kernel)))) (by decide +kernel) ?_); intro t9 kq9 hk9; (try dsimp only at hk9))
      k_with "execs cons" => (k_here; (with_reducible show wpAny _ _ _ _ _ (Shared.mk _ _ _ (_ + _) _)); (refine Mine.gentoks ?_); intro tkg9 htk9; (try dsimp only at htk9))
      k_with "call builtin:len" => (k_here; (with_reducible show wpAny _ _ (call (Value.builtin "len") [Value.str _ _]) _ _ _); (refine SBL.len (by first | omega | exact Mine.fit63 (by (refine Nat.le_trans (m := 10000) ?_ (by decide); repeat' (first | with_reducible assumption | with_reducible refine Mine.slice_len_le ?_ | (with_reducible refine Nat.le_trans (Mine.replace_len (by decide +kernel) (by decide +kernel)) ?_) | exact (by decide +kernel))))) ?_))
      k_with "truthy ref" => (k_here; k_dflt (refine' Mine.truthy_meth ?k1_isinv ?k2_isinv ?_; (case k1_isinv => k_asm); (case k2_isinv => k_mem); k_whole))
      k_with "truthy str" => (k_here; (with_reducible show wpAny _ _ (PySem.truthy (Value.str _ _)) _ _ _); (refine SBL.truthy (by omega) ?_))
      k_with "ite" => (k_here; k_openite; first
      | (refine ite_pos ?hq_isinv ?_; (case hq_isinv => first | (simp only [decide_eq_true_eq, beq_iff_eq, bne_iff_ne, ne_eq, Bool.not_eq_true', decide_eq_false_iff_not]; omega) | (simp; done)))
      | (refine ite_neg ?hq_isinv ?_; (case hq_isinv => first | (simp only [decide_eq_true_eq, beq_iff_eq, bne_iff_ne, ne_eq, Bool.not_eq_true', decide_eq_false_iff_not]; omega) | (simp; done))))
      k_with "call builtin:str.count" => (k_here; (with_reducible show wpAny _ _ (call (Value.builtin "str.count") [Value.str _ _, Value.str _ _, Value.int _ _, Value.int _ _]) _ _ _); (refine Mine.count4 ?_))
      k_with "call builtin:str.rfind" => (k_here; (with_reducible show wpAny _ _ (call (Value.builtin "str.rfind") [Value.str _ _, Value.str _ _, Value.int _ _, Value.int _ _]) _ _ _); (refine Mine.rfind4 ?_))
      k_with "exec Assign" => ((with_reducible show wpAny _ _ _ _ _ _); k_fold)
      k_with "exec Expr" => ((with_reducible show wpAny _ _ _ _ _ _); k_fold)
      k_with "exec If" => ((with_reducible show wpAny _ _ _ _ _ _); k_fold)
      k_with "exec AugAssign" => ((with_reducible show wpAny _ _ _ _ _ _); k_fold)
      k_with "exec Return" => ((with_reducible show wpAny _ _ _ _ _ _); k_fold)
      k_with "exec While" => ((with_reducible show wpAny _ _ _ _ _ _); k_fold)
      k_fill
      refine' ctr_intro (binds := [("codepoint", .int c tc)]) (fun h h' T k => T.keeps k) (fun h T => T.nolimit) ?ho_isinv ?hcd_isinv ?hD_isinv ?hb_isinv ?hl_isinv ?_ ?hc_isinv ?c1_isinv ?c2_isinv ?c3_isinv
      case ho_isinv => k_is
      case hcd_isinv => k_is
      case hD_isinv => decide
      case hb_isinv => (intro s X; first | exact BindsTo.of_eq rfl | exact binds_K X rfl (by k_is) rfl rfl rfl)
      case hl_isinv => exact locs rfl
      case hc_isinv => decide
      case c1_isinv => exact rfl
      case c2_isinv => exact rfl
      case c3_isinv => exact rfl
      intro A base g env outer L' h₁ s tk B' F' X' N' T' l1
      (try k_lt l1)
      (try dsimp only)
      first | have S0 := Mine.Srt.grow (Mine.Srt.six ho) hoq | have S0 := Mine.Srt.five ho hk | have S0 := Mine.Srt.six ho | have S0 := Mine.Srt.two ho | have S0 := Mine.Srt.two hk | skip
      (with_reducible show wpAny _ _ _ _ _ _)
      k_fold
      k_steps
      all_goals ((try dsimp only); exact cend (l := []) (by assumption) (by assumption) (fun _ h => nomatch h) ⟨_, rfl, rfl⟩)
  have ctr_charErrors {w : World} {loose : List Str} {mean : ExcName → Option Value} {mg mb : Str → Option Value} {st sd : Addr} {k0 k1 k2 k3 k4 k5 k6 k7 k8 k9 : Tok} {rce nl ds : Addr} {chunk : Str} {tc : Tok} {size : Int} {ts : Tok} {off : Int} {to : Tok} {er : Addr} {pl : Int} {tl : Tok} {pc : Int} {tp : Tok} {buf : Value} {es : List Value} {n : Nat} {x : Str} {tx : Tok}
      (ho : @LT.lt Nat _ sd st) (ho2 : @LT.lt Nat _ st er) (hx : x.length ≤ 20000) (hes : es.length ≤ 100000) :
      CtrC PySem.Challenge.rw_te0076_03.row.prog w (main.heap_1_39 w.params) (Top main.view_1_40 loose mean mg mb) 480 800 (.ref 148) ⟨[.ref st, .str x tx], []⟩ [(st, instObj 166 sd), (sd, dictOf (sdict w.params k0 k1 k2 k3 k4 k5 k6 k7 k8 k9 rce nl ds chunk tc size ts off to er pl tl pc tp buf) 10), (er, W.listOf es.toArray n)]
        (noF fun v l => v = .none ∧ ∃ (es' : List Value) (n' : Nat), es'.length ≤ es.length + x.length ∧ l = [(st, instObj 166 sd), (sd, dictOf (sdict w.params k0 k1 k2 k3 k4 k5 k6 k7 k8 k9 rce nl ds chunk tc size ts off to er pl tl pc tp buf) 10), (er, W.listOf es'.toArray n')]) := by
    as_aux_lemma =>
      k_with_none
      k_with "subscriptTail" => (k_here; (with_reducible show wpAny _ _ (subscriptTail _ _ (Value.str _ _) (Value.int _ _)) _ _ _); (refine Mine.sub_chr (by omega) (by omega) (by assumption) ?_))
      k_with "getMethod ref" => (k_here; k_dflt (first | (refine' method_inst ?k1_charerr ?k2_charerr ?k3_charerr ?k4_charerr ?k5_charerr ?k6_charerr ?k7_charerr ?_; (case k1_charerr => k_asm); (case k2_charerr => k_asm); (case k3_charerr => k_inst); (case k4_charerr => k_is); (case k5_charerr => k_is); (case k6_charerr => k_is); (case k7_charerr => k_get); k_whole) | (refine' kmu_own ?k1_charerr ?k2_charerr ?k3_charerr ?k4_charerr ?k5_charerr ?_; (case k1_charerr => k_asm); (case k2_charerr => k_asm); (case k3_charerr => k_inst); (case k4_charerr => k_is); (case k5_charerr => k_is); k_whole)))
      k_with "getMethod ref" => (k_here; (with_reducible show wpAny _ _ (getMethod (Value.ref _) (PySem.Str.ofString "append") _) _ _ _); k_dflt (refine' kl_method ?N_charerr ?m_charerr slot_list_append type_list_append ?_; (case N_charerr => k_asm); (case m_charerr => k_mem); k_whole))
      k_with "subscriptTail Name UnaryOp str int" => (k_here; (with_reducible show wpAny _ _ (subscriptTail _ _ (Value.str _ _) (Value.int _ _)) _ _ _); (refine Mine.sub_last (by omega) (by omega) (by omega) ?_); intro c9 hc9; (try (k_dflt (have hs9 := Mine.last_lt (B := 55296) (by assumption) (by assumption) hc9))))
      k_with "call builtin:str.replace" => (k_here; (with_reducible show wpAny _ _ (call (Value.builtin "str.replace") [Value.str _ _, Value.str _ _, Value.str _ _]) _ _ _); (refine Mine.replaceM (by (try dsimp only); omega) (by (try dsimp only); omega) (by (try dsimp only); omega) (by decide +kernel) (by (refine Nat.le_trans (m := 10000) ?_ (by decide); repeat' (first | with_reducible assumption | with_reducible refine Mine.slice_len_le ?_ | (with_reducible refine Nat.le_trans (Mine.replace_len (by decide +kernel) (by decide +kernel)) ?_) | exact (by decide +kernel)))) (by decide +kernel) ?_); intro t9 kq9 hk9; (try dsimp only at hk9))
      k_with "execs cons" => (k_here; (with_reducible show wpAny _ _ _ _ _ (Shared.mk _ _ _ (_ + _) _)); (refine Mine.gentoks ?_); intro tkg9 htk9; (try dsimp only at htk9))
      k_with "call builtin:len" => (k_here; (with_reducible show wpAny _ _ (call (Value.builtin "len") [Value.str _ _]) _ _ _); (refine SBL.len (by first | omega | exact Mine.fit63 (by (refine Nat.le_trans (m := 10000) ?_ (by decide); repeat' (first | with_reducible assumption | with_reducible refine Mine.slice_len_le ?_ | (with_reducible refine Nat.le_trans (Mine.replace_len (by decide +kernel) (by decide +kernel)) ?_) | exact (by decide +kernel))))) ?_))
      k_with "truthy ref" => (k_here; k_dflt (refine' Mine.truthy_meth ?k1_charerr ?k2_charerr ?_; (case k1_charerr => k_asm); (case k2_charerr => k_mem); k_whole))
      k_with "truthy str" => (k_here; (with_reducible show wpAny _ _ (PySem.truthy (Value.str _ _)) _ _ _); (refine SBL.truthy (by omega) ?_))
      k_with "ite" => (k_here; k_openite; first
      | (refine ite_pos ?hq_charerr ?_; (case hq_charerr => first | (simp only [decide_eq_true_eq, beq_iff_eq, bne_iff_ne, ne_eq, Bool.not_eq_true', decide_eq_false_iff_not]; omega) | (simp; done)))
      | (refine ite_neg ?hq_charerr ?_; (case hq_charerr => first | (simp only [decide_eq_true_eq, beq_iff_eq, bne_iff_ne, ne_eq, Bool.not_eq_true', decide_eq_false_iff_not]; omega) | (simp; done))))
      k_with "call builtin:str.count" => (k_here; (with_reducible show wpAny _ _ (call (Value.builtin "str.count") [Value.str _ _, Value.str _ _, Value.int _ _, Value.int _ _]) _ _ _); (refine Mine.count4 ?_))
      k_with "call builtin:str.rfind" => (k_here; (with_reducible show wpAny _ _ (call (Value.builtin "str.rfind") [Value.str _ _, Value.str _ _, Value.int _ _, Value.int _ _]) _ _ _); (refine Mine.rfind4 ?_))
      k_with "exec Assign" => ((with_reducible show wpAny _ _ _ _ _ _); k_fold)
      k_with "exec Expr" => ((with_reducible show wpAny _ _ _ _ _ _); k_fold)
      k_with "exec If" => ((with_reducible show wpAny _ _ _ _ _ _); k_fold)
      k_with "exec AugAssign" => ((with_reducible show wpAny _ _ _ _ _ _); k_fold)
      k_with "exec Return" => ((with_reducible show wpAny _ _ _ _ _ _); k_fold)
      k_with "exec While" => ((with_reducible show wpAny _ _ _ _ _ _); k_fold)
      k_with "call ref" => (k_here; (with_reducible show wpAny _ _ (call (Value.ref 84) [Value.int _ _] _) _ _ _); k_dflt (refine' Mine.CtrC.call ctr_is_invalid _ _ _ _ _ _ _ _ _ _ _ _ ?cB_charerr ?cF_charerr ?cX_charerr ?cN_charerr ?cT_charerr ?ca_charerr ?cb_charerr ?cc_charerr ?ce_charerr ?cd_charerr ?cu_charerr ?cne_charerr ?_; (case cB_charerr => k_asm); (case cF_charerr => k_asm); (case cX_charerr => k_asm); (case cT_charerr => k_asm); (case ca_charerr => exact rfl); (case cb_charerr => exact rfl); (case cc_charerr => exact rfl); (case ce_charerr => exact rfl); (case cd_charerr => exact Nat.le_of_ble_eq_true rfl); (case cu_charerr => exact Nat.le_of_ble_eq_true rfl); (case cN_charerr => (refine' Mine.Take.news ?tk_charerr ?nn_charerr; (case nn_charerr => k_asm); (case tk_charerr => (try (refine' Mine.Take.cons ?_ ?_)); repeat' (first | exact Mine.Take.nil | exact Mine.Del.head | refine' Mine.Take.cons ?_ ?_ | refine' Mine.Del.tail ?_)))); (case cne_charerr => first | exact List.forall_mem_nil _ | exact (fun _ _ => List.forall_mem_nil _) | ((simp only [List.forall_mem_cons, List.not_mem_nil, false_implies, implies_true, and_true, true_and]); (repeat' (refine And.intro ?_ ?_)); all_goals k_ne)); (k_whole; intro v' fr' l' h' tk' hp' htk' hfr' F' N'; obtain ⟨e0', ⟨b', e1', e2'⟩⟩ := hp'; subst e0'; subst e1'; subst e2'; (clear hfr'); (try dsimp only at htk'); (try dsimp only [List.cons_append, List.nil_append] at N'); (try k_sweep); (try dsimp only); (try k_fold))))
      k_fill
      refine' ctr_intro (binds := [("self", .ref st), ("data", .str x tx)]) (fun h h' T k => T.keeps k) (fun h T => T.nolimit) ?ho_charerr ?hcd_charerr ?hD_charerr ?hb_charerr ?hl_charerr ?_ ?hc_charerr ?c1_charerr ?c2_charerr ?c3_charerr
      case ho_charerr => k_is
      case hcd_charerr => k_is
      case hD_charerr => decide
      case hb_charerr => (intro s X; first | exact BindsTo.of_eq rfl | exact binds_K X rfl (by k_is) rfl rfl rfl)
      case hl_charerr => exact locs rfl
      case hc_charerr => decide
      case c1_charerr => exact rfl
      case c2_charerr => exact rfl
      case c3_charerr => exact rfl
      intro A base g env outer L' h₁ s tk B' F' X' N' T' l1
      (try k_lt l1)
      (try dsimp only)
      first | have S0 := Mine.Srt.grow (Mine.Srt.six ho) hoq | have S0 := Mine.Srt.five ho hk | have S0 := Mine.Srt.six ho | have S0 := Mine.Srt.two ho | have S0 := Mine.Srt.two hk | skip
      (with_reducible show wpAny _ _ _ _ _ _)
      k_fold
      k_with "pyIter str" => ((rename Fr _ _ _ _ => F0); (rename News _ _ _ _ => N0); (with_unfolding_all refine' KStt.kst_text (σ := List Value × Nat) (fun c => [(st, instObj 166 sd), (sd, dictOf (sdict w.params k0 k1 k2 k3 k4 k5 k6 k7 k8 k9 rce nl ds chunk tc size ts off to er pl tl pc tp buf) 10), (er, W.listOf c.1.toArray c.2)]) (fun _ => []) (fun _ => True) [] (fun pre c => c.1.length ≤ es.length + pre.length ∧ pre.length ≤ x.length) (es, n) (by rfl) F0 N0 trivial (fun _ h => nomatch h) ⟨Nat.le_refl _, Nat.zero_le _⟩ ?turn_charerr ?done_charerr); (intro c pre post nn tn u hq tq own hco hoff hf hi Ft Nt; (try clear F0 N0); (try dsimp only [List.cons_append, List.nil_append] at Ft); (try dsimp only [List.cons_append, List.nil_append] at Nt)); rotate_left; (intro c u hq tq hf hi Ft Nt; (try clear F0 N0); (try dsimp only [List.cons_append, List.nil_append] at Ft); (try dsimp only [List.cons_append, List.nil_append] at Nt)); rotate_left; all_goals (try k_fold))
      k_steps
      case done_charerr =>
        exact cend (by assumption) (by assumption) (fun _ h => h) ⟨rfl, c.1, c.2, by rw [KStt.codes_length] at hi; exact hi.1, rfl⟩
      all_goals (have hlen := congrArg List.length hco; rw [KStt.codes_length, List.length_append, List.length_cons] at hlen)
      all_goals ((try simp only [List.push_toArray] at *); refine' kst_end (_, _) (by assumption) (by assumption) (fun p hp => List.mem_append_left own hp) ?_ ?_ trivial ?_ ?_ ?_)
      all_goals first | exact rfl | (intro _ h; cases h; done) | (intro p hp; simp [hp]; done) | (intro z hz _ _; simp [hz, kstB]; done) | (simp only [List.length_append, List.length_cons, List.length_nil]; omega)
  have ctr_read {w : World} {loose : List Str} {mean : ExcName → Option Value} {mg mb : Str → Option Value} {ds dd : Addr} {j0 j1 : Tok} {src : Str} {tsr : Tok} {place : Int} {tpl : Tok} {sz : Int} {t0 : Tok}
      (ho : @LT.lt Nat _ dd ds) (h0 : 0 ≤ place) (h1 : place ≤ src.length) (hs : src.length ≤ 10000) (hz : sz = 10240) :
      CtrC PySem.Challenge.rw_te0076_03.row.prog w (main.heap_1_39 w.params) (Top main.view_1_40 loose mean mg mb) 490 900 (.ref 70) ⟨[.ref ds, .int sz t0], []⟩ [(ds, instObj 73 dd), (dd, dictOf (tdict w.params j0 j1 src tsr place tpl) 2)]
        (noF fun v l => ∃ (x : Str) (tv : Tok) (p' : Int) (tp' : Tok), x.cps.toList = src.cps.toList.drop place.toNat ∧ x.length ≤ 10000 ∧ p' = src.length ∧ v = .str x tv ∧ l = [(ds, instObj 73 dd), (dd, dictOf (tdict w.params j0 j1 src tsr p' tp') 2)]) := by
    as_aux_lemma =>
      clear ctr_is_invalid ctr_charErrors
      k_with_none
      k_with "subscriptTail" => (k_here; (with_reducible show wpAny _ _ (subscriptTail _ _ (Value.str _ _) (Value.int _ _)) _ _ _); (refine Mine.sub_chr (by omega) (by omega) (by assumption) ?_))
      k_with "getMethod ref" => (k_here; k_dflt (first | (refine' method_inst ?k1_read ?k2_read ?k3_read ?k4_read ?k5_read ?k6_read ?k7_read ?_; (case k1_read => k_asm); (case k2_read => k_asm); (case k3_read => k_inst); (case k4_read => k_is); (case k5_read => k_is); (case k6_read => k_is); (case k7_read => k_get); k_whole) | (refine' kmu_own ?k1_read ?k2_read ?k3_read ?k4_read ?k5_read ?_; (case k1_read => k_asm); (case k2_read => k_asm); (case k3_read => k_inst); (case k4_read => k_is); (case k5_read => k_is); k_whole)))
      k_with "getMethod ref" => (k_here; (with_reducible show wpAny _ _ (getMethod (Value.ref _) (PySem.Str.ofString "append") _) _ _ _); k_dflt (refine' kl_method ?N_read ?m_read slot_list_append type_list_append ?_; (case N_read => k_asm); (case m_read => k_mem); k_whole))
      k_with "subscriptTail Name UnaryOp str int" => (k_here; (with_reducible show wpAny _ _ (subscriptTail _ _ (Value.str _ _) (Value.int _ _)) _ _ _); (refine Mine.sub_last (by omega) (by omega) (by omega) ?_); intro c9 hc9; (try (k_dflt (have hs9 := Mine.last_lt (B := 55296) (by assumption) (by assumption) hc9))))
      k_with "call builtin:str.replace" => (k_here; (with_reducible show wpAny _ _ (call (Value.builtin "str.replace") [Value.str _ _, Value.str _ _, Value.str _ _]) _ _ _); (refine Mine.replaceM (by (try dsimp only); omega) (by (try dsimp only); omega) (by (try dsimp only); omega) (by decide +kernel) (by (refine Nat.le_trans (m := 10000) ?_ (by decide); repeat' (first | with_reducible assumption | with_reducible refine Mine.slice_len_le ?_ | (with_reducible refine Nat.le_trans (Mine.replace_len (by decide +kernel) (by decide +kernel)) ?_) | exact (by decide +kernel)))) (by decide +kernel) ?_); intro t9 kq9 hk9; (try dsimp only at hk9))
      k_with "execs cons" => (k_here; (with_reducible show wpAny _ _ _ _ _ (Shared.mk _ _ _ (_ + _) _)); (refine Mine.gentoks ?_); intro tkg9 htk9; (try dsimp only at htk9))
      k_with "call builtin:len" => (k_here; (with_reducible show wpAny _ _ (call (Value.builtin "len") [Value.str _ _]) _ _ _); (refine SBL.len (by first | omega | exact Mine.fit63 (by (refine Nat.le_trans (m := 10000) ?_ (by decide); repeat' (first | with_reducible assumption | with_reducible refine Mine.slice_len_le ?_ | (with_reducible refine Nat.le_trans (Mine.replace_len (by decide +kernel) (by decide +kernel)) ?_) | exact (by decide +kernel))))) ?_))
      k_with "truthy ref" => (k_here; k_dflt (refine' Mine.truthy_meth ?k1_read ?k2_read ?_; (case k1_read => k_asm); (case k2_read => k_mem); k_whole))
      k_with "truthy str" => (k_here; (with_reducible show wpAny _ _ (PySem.truthy (Value.str _ _)) _ _ _); (refine SBL.truthy (by omega) ?_))
      k_with "ite" => (k_here; k_openite; first
      | (refine ite_pos ?hq_read ?_; (case hq_read => first | (simp only [decide_eq_true_eq, beq_iff_eq, bne_iff_ne, ne_eq, Bool.not_eq_true', decide_eq_false_iff_not]; omega) | (simp; done)))
      | (refine ite_neg ?hq_read ?_; (case hq_read => first | (simp only [decide_eq_true_eq, beq_iff_eq, bne_iff_ne, ne_eq, Bool.not_eq_true', decide_eq_false_iff_not]; omega) | (simp; done))))
      k_with "call builtin:str.count" => (k_here; (with_reducible show wpAny _ _ (call (Value.builtin "str.count") [Value.str _ _, Value.str _ _, Value.int _ _, Value.int _ _]) _ _ _); (refine Mine.count4 ?_))
      k_with "call builtin:str.rfind" => (k_here; (with_reducible show wpAny _ _ (call (Value.builtin "str.rfind") [Value.str _ _, Value.str _ _, Value.int _ _, Value.int _ _]) _ _ _); (refine Mine.rfind4 ?_))
      k_with "exec Assign" => ((with_reducible show wpAny _ _ _ _ _ _); k_fold)
      k_with "exec Expr" => ((with_reducible show wpAny _ _ _ _ _ _); k_fold)
      k_with "exec If" => ((with_reducible show wpAny _ _ _ _ _ _); k_fold)
      k_with "exec AugAssign" => ((with_reducible show wpAny _ _ _ _ _ _); k_fold)
      k_with "exec Return" => ((with_reducible show wpAny _ _ _ _ _ _); k_fold)
      k_with "exec While" => ((with_reducible show wpAny _ _ _ _ _ _); k_fold)
      k_fill
      refine' ctr_intro (binds := [("self", .ref ds), ("size", .int sz t0)]) (fun h h' T k => T.keeps k) (fun h T => T.nolimit) ?ho_read ?hcd_read ?hD_read ?hb_read ?hl_read ?_ ?hc_read ?c1_read ?c2_read ?c3_read
      case ho_read => k_is
      case hcd_read => k_is
      case hD_read => decide
      case hb_read => (intro s X; first | exact BindsTo.of_eq rfl | exact binds_K X rfl (by k_is) rfl rfl rfl)
      case hl_read => exact locs rfl
      case hc_read => decide
      case c1_read => exact rfl
      case c2_read => exact rfl
      case c3_read => exact rfl
      intro A base g env outer L' h₁ s tk B' F' X' N' T' l1
      (try k_lt l1)
      (try dsimp only)
      first | have S0 := Mine.Srt.grow (Mine.Srt.six ho) hoq | have S0 := Mine.Srt.five ho hk | have S0 := Mine.Srt.six ho | have S0 := Mine.Srt.two ho | have S0 := Mine.Srt.two hk | skip
      (with_reducible show wpAny _ _ _ _ _ _)
      k_fold
      k_steps
      (try dsimp only)
      have e : Txt.slice src (some place) (some (place + sz)) = ⟨(src.cps.toList.drop place.toNat).toArray⟩ := by
        rw [slice_ss h0 (by omega), List.take_of_length_le (by rw [List.length_drop]; simp only [Array.length_toList]; simp only [Str.length] at hs; omega)]
      refine cend (by assumption) (by assumption) (fun _ h => h) ⟨_, _, _, _, by rw [e], ?_, ?_, rfl, rfl⟩
      · rw [e]
        simp only [Str.length, List.size_toArray, List.length_drop, Array.length_toList] at hs ⊢
        omega
      · rw [e]
        simp only [Str.length, List.size_toArray, List.length_drop, Array.length_toList] at h1 ⊢
        omega
  have ctr_readE {w : World} {loose : List Str} {mean : ExcName → Option Value} {mg mb : Str → Option Value} {ds dd : Addr} {j0 j1 : Tok} {src : Str} {tsr : Tok} {place : Int} {tpl : Tok} {sz : Int} {t0 : Tok}
      (ho : @LT.lt Nat _ dd ds) (h1 : place = src.length) (hs : src.length ≤ 10000) (hz : sz = 10240) :
      CtrC PySem.Challenge.rw_te0076_03.row.prog w (main.heap_1_39 w.params) (Top main.view_1_40 loose mean mg mb) 490 900 (.ref 70) ⟨[.ref ds, .int sz t0], []⟩ [(ds, instObj 73 dd), (dd, dictOf (tdict w.params j0 j1 src tsr place tpl) 2)]
        (noF fun v l => ∃ (tv : Tok) (p' : Int) (tp' : Tok), p' = src.length ∧ v = .str ⟨#[]⟩ tv ∧ l = [(ds, instObj 73 dd), (dd, dictOf (tdict w.params j0 j1 src tsr p' tp') 2)]) := by
    as_aux_lemma =>
      clear ctr_is_invalid ctr_charErrors
      refine CtrC.mono (fun v fr l h => ?_) (ctr_read ho (by omega) (by omega) hs hz)
      obtain ⟨h0, y, tv, p', tp', hy, hyl, hp, hv, hl⟩ := h
      refine ⟨h0, tv, p', tp', hp, ?_, hl⟩
      have : y.cps.toList = (#[] : Array Nat).toList := by rw [hy, List.drop_of_length_le (by rw [len_toList]; omega)]
      rw [hv, show y = ⟨#[]⟩ from Str.ext' (Array.toList_inj.mp this)]
  have ctr_position0 {w : World} {loose : List Str} {mean : ExcName → Option Value} {mg mb : Str → Option Value} {st sd : Addr} {k0 k1 k2 k3 k4 k5 k6 k7 k8 k9 : Tok} {rce nl ds : Addr} {chunk : Str} {tc : Tok} {size : Int} {ts : Tok} {off : Int} {to : Tok} {er : Addr} {pl : Int} {tl : Tok} {pc : Int} {tp : Tok} {buf : Value} {o : Int} {t0 : Tok} (ho : @LT.lt Nat _ sd st) :
      CtrC PySem.Challenge.rw_te0076_03.row.prog w (main.heap_1_39 w.params) (Top main.view_1_40 loose mean mg mb) 480 800 (.ref 119) ⟨[.ref st, .int o t0], []⟩ [(st, instObj 166 sd), (sd, dictOf (sdict w.params k0 k1 k2 k3 k4 k5 k6 k7 k8 k9 rce nl ds chunk tc size ts off to er pl tl pc tp buf) 10)]
        (fun v fr l => ∃ (q : Addr) (ta tb : Tok), v = .ref q ∧ fr = [(q, tupO [.int (posL chunk o pl) ta, .int (posC chunk o pc) tb])] ∧ l = [(st, instObj 166 sd), (sd, dictOf (sdict w.params k0 k1 k2 k3 k4 k5 k6 k7 k8 k9 rce nl ds chunk tc size ts off to er pl tl pc tp buf) 10)]) := by
    as_aux_lemma =>
      clear ctr_is_invalid ctr_charErrors ctr_read ctr_readE
      k_with_none
      k_with "subscriptTail" => (k_here; (with_reducible show wpAny _ _ (subscriptTail _ _ (Value.str _ _) (Value.int _ _)) _ _ _); (refine Mine.sub_chr (by omega) (by omega) (by assumption) ?_))
      k_with "getMethod ref" => (k_here; k_dflt (first | (refine' method_inst ?k1_position0 ?k2_position0 ?k3_position0 ?k4_position0 ?k5_position0 ?k6_position0 ?k7_position0 ?_; (case k1_position0 => k_asm); (case k2_position0 => k_asm); (case k3_position0 => k_inst); (case k4_position0 => k_is); (case k5_position0 => k_is); (case k6_position0 => k_is); (case k7_position0 => k_get); k_whole) | (refine' kmu_own ?k1_position0 ?k2_position0 ?k3_position0 ?k4_position0 ?k5_position0 ?_; (case k1_position0 => k_asm); (case k2_position0 => k_asm); (case k3_position0 => k_inst); (case k4_position0 => k_is); (case k5_position0 => k_is); k_whole)))
      k_with "getMethod ref" => (k_here; (with_reducible show wpAny _ _ (getMethod (Value.ref _) (PySem.Str.ofString "append") _) _ _ _); k_dflt (refine' kl_method ?N_position0 ?m_position0 slot_list_append type_list_append ?_; (case N_position0 => k_asm); (case m_position0 => k_mem); k_whole))
      k_with "subscriptTail Name UnaryOp str int" => (k_here; (with_reducible show wpAny _ _ (subscriptTail _ _ (Value.str _ _) (Value.int _ _)) _ _ _); (refine Mine.sub_last (by omega) (by omega) (by omega) ?_); intro c9 hc9; (try (k_dflt (have hs9 := Mine.last_lt (B := 55296) (by assumption) (by assumption) hc9))))
      k_with "call builtin:str.replace" => (k_here; (with_reducible show wpAny _ _ (call (Value.builtin "str.replace") [Value.str _ _, Value.str _ _, Value.str _ _]) _ _ _); (refine Mine.replaceM (by (try dsimp only); omega) (by (try dsimp only); omega) (by (try dsimp only); omega) (by decide +kernel) (by (refine Nat.le_trans (m := 10000) ?_ (by decide); repeat' (first | with_reducible assumption | with_reducible refine Mine.slice_len_le ?_ | (with_reducible refine Nat.le_trans (Mine.replace_len (by decide +kernel) (by decide +kernel)) ?_) | exact (by decide +kernel)))) (by decide +kernel) ?_); intro t9 kq9 hk9; (try dsimp only at hk9))
      k_with "execs cons" => (k_here; (with_reducible show wpAny _ _ _ _ _ (Shared.mk _ _ _ (_ + _) _)); (refine Mine.gentoks ?_); intro tkg9 htk9; (try dsimp only at htk9))
      k_with "call builtin:len" => (k_here; (with_reducible show wpAny _ _ (call (Value.builtin "len") [Value.str _ _]) _ _ _); (refine SBL.len (by first | omega | exact Mine.fit63 (by (refine Nat.le_trans (m := 10000) ?_ (by decide); repeat' (first | with_reducible assumption | with_reducible refine Mine.slice_len_le ?_ | (with_reducible refine Nat.le_trans (Mine.replace_len (by decide +kernel) (by decide +kernel)) ?_) | exact (by decide +kernel))))) ?_))
      k_with "truthy ref" => (k_here; k_dflt (refine' Mine.truthy_meth ?k1_position0 ?k2_position0 ?_; (case k1_position0 => k_asm); (case k2_position0 => k_mem); k_whole))
      k_with "truthy str" => (k_here; (with_reducible show wpAny _ _ (PySem.truthy (Value.str _ _)) _ _ _); (refine SBL.truthy (by omega) ?_))
      k_with "ite" => (k_here; k_openite; first
      | (refine ite_pos ?hq_position0 ?_; (case hq_position0 => first | (simp only [decide_eq_true_eq, beq_iff_eq, bne_iff_ne, ne_eq, Bool.not_eq_true', decide_eq_false_iff_not]; omega) | (simp; done)))
      | (refine ite_neg ?hq_position0 ?_; (case hq_position0 => first | (simp only [decide_eq_true_eq, beq_iff_eq, bne_iff_ne, ne_eq, Bool.not_eq_true', decide_eq_false_iff_not]; omega) | (simp; done))))
      k_with "call builtin:str.count" => (k_here; (with_reducible show wpAny _ _ (call (Value.builtin "str.count") [Value.str _ _, Value.str _ _, Value.int _ _, Value.int _ _]) _ _ _); (refine Mine.count4 ?_))
      k_with "call builtin:str.rfind" => (k_here; (with_reducible show wpAny _ _ (call (Value.builtin "str.rfind") [Value.str _ _, Value.str _ _, Value.int _ _, Value.int _ _]) _ _ _); (refine Mine.rfind4 ?_))
      k_with "exec Assign" => ((with_reducible show wpAny _ _ _ _ _ _); k_fold)
      k_with "exec Expr" => ((with_reducible show wpAny _ _ _ _ _ _); k_fold)
      k_with "exec If" => ((with_reducible show wpAny _ _ _ _ _ _); k_fold)
      k_with "exec AugAssign" => ((with_reducible show wpAny _ _ _ _ _ _); k_fold)
      k_with "exec Return" => ((with_reducible show wpAny _ _ _ _ _ _); k_fold)
      k_with "exec While" => ((with_reducible show wpAny _ _ _ _ _ _); k_fold)
      k_fill
      refine' ctr_intro (binds := [("self", .ref st), ("offset", .int o t0)]) (fun h h' T k => T.keeps k) (fun h T => T.nolimit) ?ho_position0 ?hcd_position0 ?hD_position0 ?hb_position0 ?hl_position0 ?_ ?hc_position0 ?c1_position0 ?c2_position0 ?c3_position0
      case ho_position0 => k_is
      case hcd_position0 => k_is
      case hD_position0 => decide
      case hb_position0 => (intro s X; first | exact BindsTo.of_eq rfl | exact binds_K X rfl (by k_is) rfl rfl rfl)
      case hl_position0 => exact locs rfl
      case hc_position0 => decide
      case c1_position0 => exact rfl
      case c2_position0 => exact rfl
      case c3_position0 => exact rfl
      intro A base g env outer L' h₁ s tk B' F' X' N' T' l1
      (try k_lt l1)
      (try dsimp only)
      first | have S0 := Mine.Srt.grow (Mine.Srt.six ho) hoq | have S0 := Mine.Srt.five ho hk | have S0 := Mine.Srt.six ho | have S0 := Mine.Srt.two ho | have S0 := Mine.Srt.two hk | skip
      (with_reducible show wpAny _ _ _ _ _ _)
      k_fold
      k_steps
      all_goals first
        | ((have hc : rfindTo chunk (Str.ofString "\n") 0 o = -1 := by assumption); refine' cendF (fr := [_]) (l := [_, _]) (by assumption) (by assumption) (fun _ h => h) ?_ ⟨_, _, _, rfl, by rw [show posC chunk o pc = pc + o from if_pos hc]; rfl, rfl⟩; (simp only [List.forall_mem_cons, List.not_mem_nil, false_implies, implies_true, and_true, true_and]; (repeat' (refine And.intro ?_ ?_)); all_goals k_ne))
        | ((have hc : ¬ rfindTo chunk (Str.ofString "\n") 0 o = -1 := by assumption); refine' cendF (fr := [_]) (l := [_, _]) (by assumption) (by assumption) (fun _ h => h) ?_ ⟨_, _, _, rfl, by rw [show posC chunk o pc = _ from if_neg hc]; rfl, rfl⟩; (simp only [List.forall_mem_cons, List.not_mem_nil, false_implies, implies_true, and_true, true_and]; (repeat' (refine And.intro ?_ ?_)); all_goals k_ne))
  have ctr_unget {w : World} {loose : List Str} {mean : ExcName → Option Value} {mg mb : Str → Option Value} {st sd : Addr} {k0 k1 k2 k3 k4 k5 k6 k7 k8 k9 : Tok} {rce nl ds : Addr} {chunk : Str} {tc : Tok} {size : Int} {ts : Tok} {off : Int} {to : Tok} {er : Addr} {pl : Int} {tl : Tok} {pc : Int} {tp : Tok} {buf : Value} {c : Nat} {tk0 : Tok}
      (ho : @LT.lt Nat _ sd st) (h1 : 1 ≤ off) (h2 : off ≤ 16777216) (hc : chunk.cps[(off - 1).toNat]? = some c) :
      CtrC PySem.Challenge.rw_te0076_03.row.prog w (main.heap_1_39 w.params) (Top main.view_1_40 loose mean mg mb) 460 600 (.ref 163) ⟨[.ref st, .str ⟨#[c]⟩ tk0], []⟩ [(st, instObj 166 sd), (sd, dictOf (sdict w.params k0 k1 k2 k3 k4 k5 k6 k7 k8 k9 rce nl ds chunk tc size ts off to er pl tl pc tp buf) 10)]
        (noF fun v l => v = .none ∧ ∃ to', l = [(st, instObj 166 sd), (sd, dictOf (sdict w.params k0 k1 k2 k3 k4 k5 k6 k7 k8 k9 rce nl ds chunk tc size ts (off - 1) to' er pl tl pc tp buf) 10)]) := by
    as_aux_lemma =>
      clear ctr_is_invalid ctr_charErrors ctr_read ctr_readE ctr_position0
      k_with_none
      k_with "subscriptTail" => (k_here; (with_reducible show wpAny _ _ (subscriptTail _ _ (Value.str _ _) (Value.int _ _)) _ _ _); (refine Mine.sub_chr (by omega) (by omega) (by assumption) ?_))
      k_with "getMethod ref" => (k_here; k_dflt (first | (refine' method_inst ?k1_unget ?k2_unget ?k3_unget ?k4_unget ?k5_unget ?k6_unget ?k7_unget ?_; (case k1_unget => k_asm); (case k2_unget => k_asm); (case k3_unget => k_inst); (case k4_unget => k_is); (case k5_unget => k_is); (case k6_unget => k_is); (case k7_unget => k_get); k_whole) | (refine' kmu_own ?k1_unget ?k2_unget ?k3_unget ?k4_unget ?k5_unget ?_; (case k1_unget => k_asm); (case k2_unget => k_asm); (case k3_unget => k_inst); (case k4_unget => k_is); (case k5_unget => k_is); k_whole)))
      k_with "getMethod ref" => (k_here; (with_reducible show wpAny _ _ (getMethod (Value.ref _) (PySem.Str.ofString "append") _) _ _ _); k_dflt (refine' kl_method ?N_unget ?m_unget slot_list_append type_list_append ?_; (case N_unget => k_asm); (case m_unget => k_mem); k_whole))
      k_with "subscriptTail Name UnaryOp str int" => (k_here; (with_reducible show wpAny _ _ (subscriptTail _ _ (Value.str _ _) (Value.int _ _)) _ _ _); (refine Mine.sub_last (by omega) (by omega) (by omega) ?_); intro c9 hc9; (try (k_dflt (have hs9 := Mine.last_lt (B := 55296) (by assumption) (by assumption) hc9))))
      k_with "call builtin:str.replace" => (k_here; (with_reducible show wpAny _ _ (call (Value.builtin "str.replace") [Value.str _ _, Value.str _ _, Value.str _ _]) _ _ _); (refine Mine.replaceM (by (try dsimp only); omega) (by (try dsimp only); omega) (by (try dsimp only); omega) (by decide +kernel) (by (refine Nat.le_trans (m := 10000) ?_ (by decide); repeat' (first | with_reducible assumption | with_reducible refine Mine.slice_len_le ?_ | (with_reducible refine Nat.le_trans (Mine.replace_len (by decide +kernel) (by decide +kernel)) ?_) | exact (by decide +kernel)))) (by decide +kernel) ?_); intro t9 kq9 hk9; (try dsimp only at hk9))
      k_with "execs cons" => (k_here; (with_reducible show wpAny _ _ _ _ _ (Shared.mk _ _ _ (_ + _) _)); (refine Mine.gentoks ?_); intro tkg9 htk9; (try dsimp only at htk9))
      k_with "call builtin:len" => (k_here; (with_reducible show wpAny _ _ (call (Value.builtin "len") [Value.str _ _]) _ _ _); (refine SBL.len (by first | omega | exact Mine.fit63 (by (refine Nat.le_trans (m := 10000) ?_ (by decide); repeat' (first | with_reducible assumption | with_reducible refine Mine.slice_len_le ?_ | (with_reducible refine Nat.le_trans (Mine.replace_len (by decide +kernel) (by decide +kernel)) ?_) | exact (by decide +kernel))))) ?_))
      k_with "truthy ref" => (k_here; k_dflt (refine' Mine.truthy_meth ?k1_unget ?k2_unget ?_; (case k1_unget => k_asm); (case k2_unget => k_mem); k_whole))
      k_with "truthy str" => (k_here; (with_reducible show wpAny _ _ (PySem.truthy (Value.str _ _)) _ _ _); (refine SBL.truthy (by omega) ?_))
      k_with "ite" => (k_here; k_openite; first
      | (refine ite_pos ?hq_unget ?_; (case hq_unget => first | (simp only [decide_eq_true_eq, beq_iff_eq, bne_iff_ne, ne_eq, Bool.not_eq_true', decide_eq_false_iff_not]; omega) | (simp; done)))
      | (refine ite_neg ?hq_unget ?_; (case hq_unget => first | (simp only [decide_eq_true_eq, beq_iff_eq, bne_iff_ne, ne_eq, Bool.not_eq_true', decide_eq_false_iff_not]; omega) | (simp; done))))
      k_with "call builtin:str.count" => (k_here; (with_reducible show wpAny _ _ (call (Value.builtin "str.count") [Value.str _ _, Value.str _ _, Value.int _ _, Value.int _ _]) _ _ _); (refine Mine.count4 ?_))
      k_with "call builtin:str.rfind" => (k_here; (with_reducible show wpAny _ _ (call (Value.builtin "str.rfind") [Value.str _ _, Value.str _ _, Value.int _ _, Value.int _ _]) _ _ _); (refine Mine.rfind4 ?_))
      k_with "exec Assign" => ((with_reducible show wpAny _ _ _ _ _ _); k_fold)
      k_with "exec Expr" => ((with_reducible show wpAny _ _ _ _ _ _); k_fold)
      k_with "exec If" => ((with_reducible show wpAny _ _ _ _ _ _); k_fold)
      k_with "exec AugAssign" => ((with_reducible show wpAny _ _ _ _ _ _); k_fold)
      k_with "exec Return" => ((with_reducible show wpAny _ _ _ _ _ _); k_fold)
      k_with "exec While" => ((with_reducible show wpAny _ _ _ _ _ _); k_fold)
      k_fill
      refine' ctr_intro (binds := [("self", .ref st), ("char", .str ⟨#[c]⟩ tk0)]) (fun h h' T k => T.keeps k) (fun h T => T.nolimit) ?ho_unget ?hcd_unget ?hD_unget ?hb_unget ?hl_unget ?_ ?hc_unget ?c1_unget ?c2_unget ?c3_unget
      case ho_unget => k_is
      case hcd_unget => k_is
      case hD_unget => decide
      case hb_unget => (intro s X; first | exact BindsTo.of_eq rfl | exact binds_K X rfl (by k_is) rfl rfl rfl)
      case hl_unget => exact locs rfl
      case hc_unget => decide
      case c1_unget => exact rfl
      case c2_unget => exact rfl
      case c3_unget => exact rfl
      intro A base g env outer L' h₁ s tk B' F' X' N' T' l1
      (try k_lt l1)
      (try dsimp only)
      first | have S0 := Mine.Srt.grow (Mine.Srt.six ho) hoq | have S0 := Mine.Srt.five ho hk | have S0 := Mine.Srt.six ho | have S0 := Mine.Srt.two ho | have S0 := Mine.Srt.two hk | skip
      (with_reducible show wpAny _ _ _ _ _ _)
      k_fold
      k_steps
      all_goals (refine cend (by assumption) (by assumption) (fun _ h => h) ⟨rfl, _, rfl⟩)
  have ctr_ungetN {w : World} {loose : List Str} {mean : ExcName → Option Value} {mg mb : Str → Option Value} {st : Addr} : CtrC PySem.Challenge.rw_te0076_03.row.prog w (main.heap_1_39 w.params) (Top main.view_1_40 loose mean mg mb) 460 600 (.ref 163) ⟨[.ref st, .none], []⟩ [] (noF fun v l => v = .none ∧ l = []) := by
    as_aux_lemma =>
      clear ctr_is_invalid ctr_charErrors ctr_read ctr_readE ctr_position0 ctr_unget
      k_with_none
      k_with "subscriptTail" => (k_here; (with_reducible show wpAny _ _ (subscriptTail _ _ (Value.str _ _) (Value.int _ _)) _ _ _); (refine Mine.sub_chr (by omega) (by omega) (by assumption) ?_))
      k_with "getMethod ref" => (k_here; k_dflt (first | (refine' method_inst ?k1_ungetN ?k2_ungetN ?k3_ungetN ?k4_ungetN ?k5_ungetN ?k6_ungetN ?k7_ungetN ?_; (case k1_ungetN => k_asm); (case k2_ungetN => k_asm); (case k3_ungetN => k_inst); (case k4_ungetN => k_is); (case k5_ungetN => k_is); (case k6_ungetN => k_is); (case k7_ungetN => k_get); k_whole) | (refine' kmu_own ?k1_ungetN ?k2_ungetN ?k3_ungetN ?k4_ungetN ?k5_ungetN ?_; (case k1_ungetN => k_asm); (case k2_ungetN => k_asm); (case k3_ungetN => k_inst); (case k4_ungetN => k_is); (case k5_ungetN => k_is); k_whole)))
      k_with "getMethod ref" => (k_here; (with_reducible show wpAny _ _ (getMethod (Value.ref _) (PySem.Str.ofString "append") _) _ _ _); k_dflt (refine' kl_method ?N_ungetN ?m_ungetN slot_list_append type_list_append ?_; (case N_ungetN => k_asm); (case m_ungetN => k_mem); k_whole))
      k_with "subscriptTail Name UnaryOp str int" => (k_here; (with_reducible show wpAny _ _ (subscriptTail _ _ (Value.str _ _) (Value.int _ _)) _ _ _); (refine Mine.sub_last (by omega) (by omega) (by omega) ?_); intro c9 hc9; (try (k_dflt (have hs9 := Mine.last_lt (B := 55296) (by assumption) (by assumption) hc9))))
      k_with "call builtin:str.replace" => (k_here; (with_reducible show wpAny _ _ (call (Value.builtin "str.replace") [Value.str _ _, Value.str _ _, Value.str _ _]) _ _ _); (refine Mine.replaceM (by (try dsimp only); omega) (by (try dsimp only); omega) (by (try dsimp only); omega) (by decide +kernel) (by (refine Nat.le_trans (m := 10000) ?_ (by decide); repeat' (first | with_reducible assumption | with_reducible refine Mine.slice_len_le ?_ | (with_reducible refine Nat.le_trans (Mine.replace_len (by decide +kernel) (by decide +kernel)) ?_) | exact (by decide +kernel)))) (by decide +kernel) ?_); intro t9 kq9 hk9; (try dsimp only at hk9))
      k_with "execs cons" => (k_here; (with_reducible show wpAny _ _ _ _ _ (Shared.mk _ _ _ (_ + _) _)); (refine Mine.gentoks ?_); intro tkg9 htk9; (try dsimp only at htk9))
      k_with "call builtin:len" => (k_here; (with_reducible show wpAny _ _ (call (Value.builtin "len") [Value.str _ _]) _ _ _); (refine SBL.len (by first | omega | exact Mine.fit63 (by (refine Nat.le_trans (m := 10000) ?_ (by decide); repeat' (first | with_reducible assumption | with_reducible refine Mine.slice_len_le ?_ | (with_reducible refine Nat.le_trans (Mine.replace_len (by decide +kernel) (by decide +kernel)) ?_) | exact (by decide +kernel))))) ?_))
      k_with "truthy ref" => (k_here; k_dflt (refine' Mine.truthy_meth ?k1_ungetN ?k2_ungetN ?_; (case k1_ungetN => k_asm); (case k2_ungetN => k_mem); k_whole))
      k_with "truthy str" => (k_here; (with_reducible show wpAny _ _ (PySem.truthy (Value.str _ _)) _ _ _); (refine SBL.truthy (by omega) ?_))
      k_with "ite" => (k_here; k_openite; first
      | (refine ite_pos ?hq_ungetN ?_; (case hq_ungetN => first | (simp only [decide_eq_true_eq, beq_iff_eq, bne_iff_ne, ne_eq, Bool.not_eq_true', decide_eq_false_iff_not]; omega) | (simp; done)))
      | (refine ite_neg ?hq_ungetN ?_; (case hq_ungetN => first | (simp only [decide_eq_true_eq, beq_iff_eq, bne_iff_ne, ne_eq, Bool.not_eq_true', decide_eq_false_iff_not]; omega) | (simp; done))))
      k_with "call builtin:str.count" => (k_here; (with_reducible show wpAny _ _ (call (Value.builtin "str.count") [Value.str _ _, Value.str _ _, Value.int _ _, Value.int _ _]) _ _ _); (refine Mine.count4 ?_))
      k_with "call builtin:str.rfind" => (k_here; (with_reducible show wpAny _ _ (call (Value.builtin "str.rfind") [Value.str _ _, Value.str _ _, Value.int _ _, Value.int _ _]) _ _ _); (refine Mine.rfind4 ?_))
      k_with "exec Assign" => ((with_reducible show wpAny _ _ _ _ _ _); k_fold)
      k_with "exec Expr" => ((with_reducible show wpAny _ _ _ _ _ _); k_fold)
      k_with "exec If" => ((with_reducible show wpAny _ _ _ _ _ _); k_fold)
      k_with "exec AugAssign" => ((with_reducible show wpAny _ _ _ _ _ _); k_fold)
      k_with "exec Return" => ((with_reducible show wpAny _ _ _ _ _ _); k_fold)
      k_with "exec While" => ((with_reducible show wpAny _ _ _ _ _ _); k_fold)
      k_fill
      refine' ctr_intro (binds := [("self", .ref st), ("char", .none)]) (fun h h' T k => T.keeps k) (fun h T => T.nolimit) ?ho_ungetN ?hcd_ungetN ?hD_ungetN ?hb_ungetN ?hl_ungetN ?_ ?hc_ungetN ?c1_ungetN ?c2_ungetN ?c3_ungetN
      case ho_ungetN => k_is
      case hcd_ungetN => k_is
      case hD_ungetN => decide
      case hb_ungetN => (intro s X; first | exact BindsTo.of_eq rfl | exact binds_K X rfl (by k_is) rfl rfl rfl)
      case hl_ungetN => exact locs rfl
      case hc_ungetN => decide
      case c1_ungetN => exact rfl
      case c2_ungetN => exact rfl
      case c3_ungetN => exact rfl
      intro A base g env outer L' h₁ s tk B' F' X' N' T' l1
      (try k_lt l1)
      (try dsimp only)
      first | have S0 := Mine.Srt.grow (Mine.Srt.six ho) hoq | have S0 := Mine.Srt.five ho hk | have S0 := Mine.Srt.six ho | have S0 := Mine.Srt.two ho | have S0 := Mine.Srt.two hk | skip
      (with_reducible show wpAny _ _ _ _ _ _)
      k_fold
      k_steps
      all_goals (refine cend (l := []) (by assumption) (by assumption) (fun _ h => nomatch h) ⟨rfl, rfl⟩)
  have ctr_ungetS {w : World} {loose : List Str} {mean : ExcName → Option Value} {mg mb : Str → Option Value} {st sd : Addr} {k0 k1 k2 k3 k4 k5 k6 k7 k8 k9 : Tok} {rce nl ds er dd : Addr} {j0 j1 : Tok} {src : Str} {tsr : Tok} {x : St} {c : Nat} {tk0 : Tok} (ho : @LT.lt Nat _ sd st ∧ @LT.lt Nat _ st rce ∧ @LT.lt Nat _ rce dd ∧ @LT.lt Nat _ dd ds ∧ @LT.lt Nat _ ds er) (ok : x.ok src) (h1 : 1 ≤ x.off) (hc : x.chunk.cps[(x.off - 1).toNat]? = some c) :
      CtrC PySem.Challenge.rw_te0076_03.row.prog w (main.heap_1_39 w.params) (Top main.view_1_40 loose mean mg mb) 460 600 (.ref 163) ⟨[.ref st, .str ⟨#[c]⟩ tk0], []⟩ [(st, instObj 166 sd), (sd, dictOf (sdict w.params k0 k1 k2 k3 k4 k5 k6 k7 k8 k9 rce nl ds x.chunk x.tc x.size x.ts x.off x.to er x.pl x.tl x.pc x.tp x.buf) 10), (ds, instObj 73 dd), (dd, dictOf (tdict w.params j0 j1 src tsr x.place x.tpl) 2), (rce, methodObj (.ref 148) (.ref st)), (er, W.listOf x.es.toArray x.n)] (noF fun v l => v = .none ∧ ∃ x' : St, x'.ok src ∧ x'.rem src = c :: x.rem src ∧ l = [(st, instObj 166 sd), (sd, dictOf (sdict w.params k0 k1 k2 k3 k4 k5 k6 k7 k8 k9 rce nl ds x'.chunk x'.tc x'.size x'.ts x'.off x'.to er x'.pl x'.tl x'.pc x'.tp x'.buf) 10), (ds, instObj 73 dd), (dd, dictOf (tdict w.params j0 j1 src tsr x'.place x'.tpl) 2), (rce, methodObj (.ref 148) (.ref st)), (er, W.listOf x'.es.toArray x'.n)]) := by
    as_aux_lemma =>
      clear ctr_is_invalid ctr_charErrors ctr_read ctr_readE ctr_position0 ctr_ungetN
      refine CtrC.mono (fun v fr l h => ?_) (CtrC.frame (l := [_, _]) (e := [_, _, _, _]) (ctr_unget ho.1 h1 (by have := ok.off1; have := ok.csize; have := ok.clen; omega) hc) ?_)
      · obtain ⟨l', hl, h0, hv, to', hl'⟩ := h
        have hq := rem_back ok h1 hc rfl
        refine ⟨h0, hv, { x with off := x.off - 1, to := to' }, (hq _ 0).1, (hq 0 _).2, ?_⟩
        rw [hl, hl']; rfl
      · have ho' := ho
        simp only [List.forall_mem_cons, List.not_mem_nil, false_implies, implies_true, and_true]
        refine ⟨⟨?_, ?_⟩, ⟨?_, ?_⟩, ⟨?_, ?_⟩, ⟨?_, ?_⟩⟩ <;> (intro e; subst e; omega)
  have ctr_readN {w : World} {loose : List Str} {mean : ExcName → Option Value} {mg mb : Str → Option Value} {st sd : Addr} {k0 k1 k2 k3 k4 k5 k6 k7 k8 k9 : Tok} {rce nl ds er dd : Addr} {j0 j1 : Tok} {src : Str} {tsr : Tok} {x : St} (ho : @LT.lt Nat _ sd st ∧ @LT.lt Nat _ st rce ∧ @LT.lt Nat _ rce dd ∧ @LT.lt Nat _ dd ds ∧ @LT.lt Nat _ ds er) (ok : x.ok src) (hb : x.buf = .none) :
      CtrC PySem.Challenge.rw_te0076_03.row.prog w (main.heap_1_39 w.params) (Top main.view_1_40 loose mean mg mb) 470 700 (.ref 141) ⟨[.ref st], []⟩ [(st, instObj 166 sd), (sd, dictOf (sdict w.params k0 k1 k2 k3 k4 k5 k6 k7 k8 k9 rce nl ds x.chunk x.tc x.size x.ts x.off x.to er x.pl x.tl x.pc x.tp x.buf) 10), (ds, instObj 73 dd), (dd, dictOf (tdict w.params j0 j1 src tsr x.place x.tpl) 2), (rce, methodObj (.ref 148) (.ref st)), (er, W.listOf x.es.toArray x.n)] (noF fun v l => ∃ (x' : St) (b : Bool), v = .bool b ∧ x'.ok src ∧ x'.off = 0 ∧ x'.rem src = mendL (x.pend ++ src.cps.toList.drop x.place.toNat) ∧ (b = true → 1 ≤ x'.size) ∧ (b = false → x'.rem src = []) ∧ x'.pl = posL x.chunk x.size x.pl ∧ x'.pc = posC x.chunk x.size x.pc ∧ l = [(st, instObj 166 sd), (sd, dictOf (sdict w.params k0 k1 k2 k3 k4 k5 k6 k7 k8 k9 rce nl ds x'.chunk x'.tc x'.size x'.ts x'.off x'.to er x'.pl x'.tl x'.pc x'.tp x'.buf) 10), (ds, instObj 73 dd), (dd, dictOf (tdict w.params j0 j1 src tsr x'.place x'.tpl) 2), (rce, methodObj (.ref 148) (.ref st)), (er, W.listOf x'.es.toArray x'.n)]) := by
    as_aux_lemma =>
      clear ctr_is_invalid ctr_readE ctr_unget ctr_ungetN ctr_ungetS
      obtain ⟨chunk, tc, size, ts, off, to, pl, tl, pc, tp, buf, pend, place, tpl, es, n⟩ := x
      obtain ⟨oksize, okoff0, okoff1, oklen, h0, h1, hs, okbuf, hes, hsu, okpend⟩ := ok
      dsimp only at *
      have hpend : pend = [] := by rcases okbuf with h | ⟨t, h, _⟩; exact h.2; (rw [hb] at h; cases h)
      subst hb; subst hpend
      k_with_none
      k_with "subscriptTail" => (k_here; (with_reducible show wpAny _ _ (subscriptTail _ _ (Value.str _ _) (Value.int _ _)) _ _ _); (refine Mine.sub_chr (by omega) (by omega) (by assumption) ?_))
      k_with "getMethod ref" => (k_here; k_dflt (first | (refine' method_inst ?k1_readN ?k2_readN ?k3_readN ?k4_readN ?k5_readN ?k6_readN ?k7_readN ?_; (case k1_readN => k_asm); (case k2_readN => k_asm); (case k3_readN => k_inst); (case k4_readN => k_is); (case k5_readN => k_is); (case k6_readN => k_is); (case k7_readN => k_get); k_whole) | (refine' kmu_own ?k1_readN ?k2_readN ?k3_readN ?k4_readN ?k5_readN ?_; (case k1_readN => k_asm); (case k2_readN => k_asm); (case k3_readN => k_inst); (case k4_readN => k_is); (case k5_readN => k_is); k_whole)))
      k_with "getMethod ref" => (k_here; (with_reducible show wpAny _ _ (getMethod (Value.ref _) (PySem.Str.ofString "append") _) _ _ _); k_dflt (refine' kl_method ?N_readN ?m_readN slot_list_append type_list_append ?_; (case N_readN => k_asm); (case m_readN => k_mem); k_whole))
      k_with "subscriptTail Name UnaryOp str int" => (k_here; (with_reducible show wpAny _ _ (subscriptTail _ _ (Value.str _ _) (Value.int _ _)) _ _ _); (refine Mine.sub_last (by omega) (by omega) (by omega) ?_); intro c9 hc9; (try (k_dflt (have hs9 := Mine.last_lt (B := 55296) (by assumption) (by assumption) hc9))))
      k_with "call builtin:str.replace" => (k_here; (with_reducible show wpAny _ _ (call (Value.builtin "str.replace") [Value.str _ _, Value.str _ _, Value.str _ _]) _ _ _); (refine Mine.replaceM (by (try dsimp only); omega) (by (try dsimp only); omega) (by (try dsimp only); omega) (by decide +kernel) (by (refine Nat.le_trans (m := 10000) ?_ (by decide); repeat' (first | with_reducible assumption | with_reducible refine Mine.slice_len_le ?_ | (with_reducible refine Nat.le_trans (Mine.replace_len (by decide +kernel) (by decide +kernel)) ?_) | exact (by decide +kernel)))) (by decide +kernel) ?_); intro t9 kq9 hk9; (try dsimp only at hk9))
      k_with "execs cons" => (k_here; (with_reducible show wpAny _ _ _ _ _ (Shared.mk _ _ _ (_ + _) _)); (refine Mine.gentoks ?_); intro tkg9 htk9; (try dsimp only at htk9))
      k_with "call builtin:len" => (k_here; (with_reducible show wpAny _ _ (call (Value.builtin "len") [Value.str _ _]) _ _ _); (refine SBL.len (by first | omega | exact Mine.fit63 (by (refine Nat.le_trans (m := 10000) ?_ (by decide); repeat' (first | with_reducible assumption | with_reducible refine Mine.slice_len_le ?_ | (with_reducible refine Nat.le_trans (Mine.replace_len (by decide +kernel) (by decide +kernel)) ?_) | exact (by decide +kernel))))) ?_))
      k_with "truthy ref" => (k_here; k_dflt (refine' Mine.truthy_meth ?k1_readN ?k2_readN ?_; (case k1_readN => k_asm); (case k2_readN => k_mem); k_whole))
      k_with "truthy str" => (k_here; (with_reducible show wpAny _ _ (PySem.truthy (Value.str _ _)) _ _ _); (refine SBL.truthy (by omega) ?_))
      k_with "ite" => (k_here; k_openite; first
      | (refine ite_pos ?hq_readN ?_; (case hq_readN => first | (simp only [decide_eq_true_eq, beq_iff_eq, bne_iff_ne, ne_eq, Bool.not_eq_true', decide_eq_false_iff_not]; omega) | (simp; done)))
      | (refine ite_neg ?hq_readN ?_; (case hq_readN => first | (simp only [decide_eq_true_eq, beq_iff_eq, bne_iff_ne, ne_eq, Bool.not_eq_true', decide_eq_false_iff_not]; omega) | (simp; done))))
      k_with "call builtin:str.count" => (k_here; (with_reducible show wpAny _ _ (call (Value.builtin "str.count") [Value.str _ _, Value.str _ _, Value.int _ _, Value.int _ _]) _ _ _); (refine Mine.count4 ?_))
      k_with "call builtin:str.rfind" => (k_here; (with_reducible show wpAny _ _ (call (Value.builtin "str.rfind") [Value.str _ _, Value.str _ _, Value.int _ _, Value.int _ _]) _ _ _); (refine Mine.rfind4 ?_))
      k_with "exec Assign" => ((with_reducible show wpAny _ _ _ _ _ _); k_fold)
      k_with "exec Expr" => ((with_reducible show wpAny _ _ _ _ _ _); k_fold)
      k_with "exec If" => ((with_reducible show wpAny _ _ _ _ _ _); k_fold)
      k_with "exec AugAssign" => ((with_reducible show wpAny _ _ _ _ _ _); k_fold)
      k_with "exec Return" => ((with_reducible show wpAny _ _ _ _ _ _); k_fold)
      k_with "exec While" => ((with_reducible show wpAny _ _ _ _ _ _); k_fold)
      k_with "call ref" => (k_here; (with_reducible show wpAny _ _ (call (Value.ref 119) [Value.ref _, Value.int _ _] _) _ _ _); k_dflt (refine' Mine.CtrC.call (ctr_position0 ?p1_readN) _ _ _ _ _ _ _ _ _ _ _ _ ?cB_readN ?cF_readN ?cX_readN ?cN_readN ?cT_readN ?ca_readN ?cb_readN ?cc_readN ?ce_readN ?cd_readN ?cu_readN ?cne_readN ?_; (case cB_readN => k_asm); (case cF_readN => k_asm); (case cX_readN => k_asm); (case cT_readN => k_asm); (case ca_readN => exact rfl); (case cb_readN => exact rfl); (case cc_readN => exact rfl); (case ce_readN => exact rfl); (case cd_readN => exact Nat.le_of_ble_eq_true rfl); (case cu_readN => exact Nat.le_of_ble_eq_true rfl); (case cN_readN => (refine' Mine.Take.news ?tk_readN ?nn_readN; (case nn_readN => k_asm); (case tk_readN => (try (refine' Mine.Take.cons ?_ ?_)); repeat' (first | exact Mine.Take.nil | exact Mine.Del.head | refine' Mine.Take.cons ?_ ?_ | refine' Mine.Del.tail ?_)))); (case cne_readN => first | exact List.forall_mem_nil _ | exact (fun _ _ => List.forall_mem_nil _) | ((simp only [List.forall_mem_cons, List.not_mem_nil, false_implies, implies_true, and_true, true_and]); (repeat' (refine And.intro ?_ ?_)); all_goals k_ne)); (case p1_readN => omega); (k_whole; intro v' fr' l' h' tk' hp' htk' hfr' F' N'; obtain ⟨q', ta', tb', e1', e2', e3'⟩ := hp'; subst e1'; subst e2'; subst e3'; (simp only [List.cons_append, List.nil_append, List.forall_mem_cons, List.not_mem_nil, false_implies, implies_true, and_true, true_and] at hfr'); (try dsimp only at htk'); (try dsimp only [List.cons_append, List.nil_append] at N'); (try k_sweep); (try dsimp only); (try k_fold))))
      k_with "call ref" => (k_here; (with_reducible show wpAny _ _ (call (Value.ref 70) [Value.ref _, Value.int _ _] _) _ _ _); k_dflt (refine' Mine.CtrC.call (ctr_read ?p1_readN ?p2_readN ?p3_readN ?p4_readN ?p5_readN) _ _ _ _ _ _ _ _ _ _ _ _ ?cB_readN ?cF_readN ?cX_readN ?cN_readN ?cT_readN ?ca_readN ?cb_readN ?cc_readN ?ce_readN ?cd_readN ?cu_readN ?cne_readN ?_; (case cB_readN => k_asm); (case cF_readN => k_asm); (case cX_readN => k_asm); (case cT_readN => k_asm); (case ca_readN => exact rfl); (case cb_readN => exact rfl); (case cc_readN => exact rfl); (case ce_readN => exact rfl); (case cd_readN => exact Nat.le_of_ble_eq_true rfl); (case cu_readN => exact Nat.le_of_ble_eq_true rfl); (case cN_readN => (refine' Mine.Take.news ?tk_readN ?nn_readN; (case nn_readN => k_asm); (case tk_readN => (try (refine' Mine.Take.cons ?_ ?_)); repeat' (first | exact Mine.Take.nil | exact Mine.Del.head | refine' Mine.Take.cons ?_ ?_ | refine' Mine.Del.tail ?_)))); (case cne_readN => first | exact List.forall_mem_nil _ | exact (fun _ _ => List.forall_mem_nil _) | ((simp only [List.forall_mem_cons, List.not_mem_nil, false_implies, implies_true, and_true, true_and]); (repeat' (refine And.intro ?_ ?_)); all_goals k_ne)); (case p1_readN => omega); (case p2_readN => omega); (case p3_readN => omega); (case p4_readN => omega); (case p5_readN => rfl); (k_whole; intro v' fr' l' h' tk' hp' htk' hfr' F' N'; obtain ⟨e0', ⟨x', tv', p', tp', hx', hxl', hq', e1', e2'⟩⟩ := hp'; subst e0'; subst e1'; subst e2'; (clear hfr'); (try dsimp only at htk'); (try dsimp only [List.cons_append, List.nil_append] at N'); (try k_sweep); (try dsimp only); (try k_fold))))
      k_with "call ref" => (k_here; (with_reducible show wpAny _ _ (call (Value.ref _) [Value.str _ _] _) _ _ _); k_dflt (refine' Mine.CtrC.bound (ctr_charErrors ?p1_readN ?p2_readN ?p3_readN ?p4_readN) ?p5_readN _ _ _ _ _ _ _ _ _ _ _ _ ?cB_readN ?cF_readN ?cX_readN ?cN_readN ?cT_readN ?ca_readN ?cb_readN ?cc_readN ?ce_readN ?cd_readN ?cu_readN ?cne_readN ?_; (case cB_readN => k_asm); (case cF_readN => k_asm); (case cX_readN => k_asm); (case cT_readN => k_asm); (case ca_readN => exact rfl); (case cb_readN => exact rfl); (case cc_readN => exact rfl); (case ce_readN => exact rfl); (case cd_readN => exact Nat.le_of_ble_eq_true rfl); (case cu_readN => exact Nat.le_of_ble_eq_true rfl); (case cN_readN => (refine' Mine.Take.news ?tk_readN ?nn_readN; (case nn_readN => k_asm); (case tk_readN => (try (refine' Mine.Take.cons ?_ ?_)); repeat' (first | exact Mine.Take.nil | exact Mine.Del.head | refine' Mine.Take.cons ?_ ?_ | refine' Mine.Del.tail ?_)))); (case cne_readN => first | exact List.forall_mem_nil _ | exact (fun _ _ => List.forall_mem_nil _) | ((simp only [List.forall_mem_cons, List.not_mem_nil, false_implies, implies_true, and_true, true_and]); (repeat' (refine And.intro ?_ ?_)); all_goals k_ne)); (case p1_readN => omega); (case p2_readN => omega); (case p3_readN => (refine Nat.le_trans (m := 10000) ?_ (by decide); repeat' (first | with_reducible assumption | with_reducible refine Mine.slice_len_le ?_ | (with_reducible refine Nat.le_trans (Mine.replace_len (by decide +kernel) (by decide +kernel)) ?_) | exact (by decide +kernel)))); (case p4_readN => omega); (case p5_readN => (simp only [List.forall_mem_cons, List.not_mem_nil, false_implies, implies_true, and_true, true_and]; (repeat' (refine And.intro ?_ ?_)); all_goals k_ne)); (k_whole; intro v' fr' l' h' tk' hp' htk' hfr' F' N'; obtain ⟨l2', e9', e0', e1', es', n', hl', e2'⟩ := hp'; subst e9'; subst e0'; subst e1'; subst e2'; (clear hfr'); (try dsimp only at htk'); (try dsimp only [List.cons_append, List.nil_append] at N'); (try k_sweep); (try dsimp only); (try k_fold))))
      k_fill
      refine' ctr_intro (binds := [("self", .ref st), ("chunkSize", .none)]) (fun h h' T k => T.keeps k) (fun h T => T.nolimit) ?ho_readN ?hcd_readN ?hD_readN ?hb_readN ?hl_readN ?_ ?hc_readN ?c1_readN ?c2_readN ?c3_readN
      case ho_readN => k_is
      case hcd_readN => k_is
      case hD_readN => decide
      case hb_readN => (intro s X; first | exact BindsTo.of_eq rfl | exact binds_K X rfl (by k_is) rfl rfl rfl)
      case hl_readN => exact locs rfl
      case hc_readN => decide
      case c1_readN => exact rfl
      case c2_readN => exact rfl
      case c3_readN => exact rfl
      intro A base g env outer L' h₁ s tk B' F' X' N' T' l1
      (try k_lt l1)
      (try dsimp only)
      first | have S0 := Mine.Srt.grow (Mine.Srt.six ho) hoq | have S0 := Mine.Srt.five ho hk | have S0 := Mine.Srt.six ho | have S0 := Mine.Srt.two ho | have S0 := Mine.Srt.two hk | skip
      (with_reducible show wpAny _ _ _ _ _ _)
      k_fold
      k_steps
      all_goals (dsimp only)
      all_goals (refine' cend (l := [(st, _), (sd, _), (ds, _), (dd, _), (rce, _), (er, _)]) (by assumption) (by assumption) (Mine.Take.sub (by ((try dsimp only); repeat' (first | exact Mine.Take.nil | exact Mine.Del.head | refine' Mine.Take.blk ?_ | exact Mine.Tl.nil | exact Mine.Tl.app | refine' Mine.Take.cons ?_ ?_ | refine' Mine.Del.tail ?_ | refine' Mine.Tl.cons ?_)))) ?_)
      rotate_left 3
      · have hq9 := Mine.rd_none h0 hs hsu hes (by with_reducible assumption) (by with_reducible assumption) (by omega) rfl rfl rfl
        (refine' ⟨⟨_, _, _, _, _, _, _, _, _, _, _, [], _, _, _, _⟩, false, rfl, ?rp1a1_readN, ?rp1a2_readN, ?rp1a3_readN, ?rp1a4_readN, ?rp1a5_readN, ?rp1a6_readN, ?rp1a7_readN, ?rp1a8_readN⟩; (case rp1a8_readN => exact rfl); (case rp1a1_readN => exact (hq9 ..).1); (case rp1a2_readN => exact rfl); (case rp1a3_readN => exact ((hq9 0 0 0 0 0 0 0 0 0).2.1.trans (hq9 0 0 0 0 0 0 0 0 0).2.2.symm)); (case rp1a4_readN => exact (fun h => nomatch h)); (case rp1a5_readN => exact (fun _ => (hq9 0 0 0 0 0 0 0 0 0).2.1)); (case rp1a6_readN => exact rfl); (case rp1a7_readN => exact rfl))
      · have e9 := Mine.c13 (by with_reducible assumption) (by with_reducible assumption) (by with_reducible assumption)
        subst e9
        have hy9 := Mine.last_cut (j := -1) rfl (by with_reducible assumption)
        have hq9 := fun tb => Mine.rd_fin0 (pend' := [13]) (buf' := .str ⟨#[13]⟩ tb) h0 hs hsu hes (by with_reducible assumption) (by with_reducible assumption) (by with_reducible assumption) hy9 (.inr ⟨_, rfl, rfl⟩) (by with_reducible assumption) (Mine.cut_len hy9 (by omega))
        (refine' ⟨⟨_, _, _, _, _, _, _, _, _, _, _, [13], _, _, _, _⟩, true, rfl, ?rp2a1_readN, ?rp2a2_readN, ?rp2a3_readN, ?rp2a4_readN, ?rp2a5_readN, ?rp2a6_readN, ?rp2a7_readN, ?rp2a8_readN⟩; (case rp2a8_readN => exact rfl); (case rp2a1_readN => exact (hq9 ..).1); (case rp2a2_readN => exact rfl); (case rp2a3_readN => exact (hq9 0 0 0 0 0 0 0 0 0 0).2.1); (case rp2a4_readN => exact (fun _ => (hq9 0 0 0 0 0 0 0 0 0 0).2.2)); (case rp2a5_readN => exact (fun h => nomatch h)); (case rp2a6_readN => exact rfl); (case rp2a7_readN => exact rfl))
      all_goals (have hq9 := Mine.rd_fin0 (pend' := []) (buf' := .none) h0 hs hsu hes (by with_reducible assumption) (by with_reducible assumption) (by with_reducible assumption) (List.append_nil _).symm (.inl ⟨rfl, rfl⟩) (by with_reducible assumption) (by omega); (refine' ⟨⟨_, _, _, _, _, _, _, _, _, _, _, [], _, _, _, _⟩, true, rfl, ?rp3a1_readN, ?rp3a2_readN, ?rp3a3_readN, ?rp3a4_readN, ?rp3a5_readN, ?rp3a6_readN, ?rp3a7_readN, ?rp3a8_readN⟩; (case rp3a8_readN => exact rfl); (case rp3a1_readN => exact (hq9 ..).1); (case rp3a2_readN => exact rfl); (case rp3a3_readN => exact (hq9 0 0 0 0 0 0 0 0 0).2.1); (case rp3a4_readN => exact (fun _ => (hq9 0 0 0 0 0 0 0 0 0).2.2)); (case rp3a5_readN => exact (fun h => nomatch h))); (case rp3a6_readN => exact rfl); (case rp3a7_readN => exact rfl))
  have ctr_readC {w : World} {loose : List Str} {mean : ExcName → Option Value} {mg mb : Str → Option Value} {st sd : Addr} {k0 k1 k2 k3 k4 k5 k6 k7 k8 k9 : Tok} {rce nl ds er dd : Addr} {j0 j1 : Tok} {src : Str} {tsr : Tok} {x : St} {tb : Tok} (ho : @LT.lt Nat _ sd st ∧ @LT.lt Nat _ st rce ∧ @LT.lt Nat _ rce dd ∧ @LT.lt Nat _ dd ds ∧ @LT.lt Nat _ ds er) (ok : x.ok src) (hb : x.buf = .str ⟨#[13]⟩ tb) :
      CtrC PySem.Challenge.rw_te0076_03.row.prog w (main.heap_1_39 w.params) (Top main.view_1_40 loose mean mg mb) 470 700 (.ref 141) ⟨[.ref st], []⟩ [(st, instObj 166 sd), (sd, dictOf (sdict w.params k0 k1 k2 k3 k4 k5 k6 k7 k8 k9 rce nl ds x.chunk x.tc x.size x.ts x.off x.to er x.pl x.tl x.pc x.tp x.buf) 10), (ds, instObj 73 dd), (dd, dictOf (tdict w.params j0 j1 src tsr x.place x.tpl) 2), (rce, methodObj (.ref 148) (.ref st)), (er, W.listOf x.es.toArray x.n)] (noF fun v l => ∃ (x' : St) (b : Bool), v = .bool b ∧ x'.ok src ∧ x'.off = 0 ∧ x'.rem src = mendL (x.pend ++ src.cps.toList.drop x.place.toNat) ∧ (b = true → 1 ≤ x'.size) ∧ (b = false → x'.rem src = []) ∧ x'.pl = posL x.chunk x.size x.pl ∧ x'.pc = posC x.chunk x.size x.pc ∧ l = [(st, instObj 166 sd), (sd, dictOf (sdict w.params k0 k1 k2 k3 k4 k5 k6 k7 k8 k9 rce nl ds x'.chunk x'.tc x'.size x'.ts x'.off x'.to er x'.pl x'.tl x'.pc x'.tp x'.buf) 10), (ds, instObj 73 dd), (dd, dictOf (tdict w.params j0 j1 src tsr x'.place x'.tpl) 2), (rce, methodObj (.ref 148) (.ref st)), (er, W.listOf x'.es.toArray x'.n)]) := by
    as_aux_lemma =>
      clear ctr_is_invalid ctr_read ctr_unget ctr_ungetN ctr_ungetS ctr_readN
      obtain ⟨chunk, tc, size, ts, off, to, pl, tl, pc, tp, buf, pend, place, tpl, es, n⟩ := x
      obtain ⟨oksize, okoff0, okoff1, oklen, h0, h1, hs, okbuf, hes, hsu, okpend⟩ := ok
      dsimp only at *
      have hpend : pend = [13] := by rcases okbuf with h | ⟨t, h, h'⟩; (rw [hb] at h; cases h.1); exact h'
      subst hb; subst hpend
      have hpl := okpend (by simp)
      k_with_none
      k_with "subscriptTail" => (k_here; (with_reducible show wpAny _ _ (subscriptTail _ _ (Value.str _ _) (Value.int _ _)) _ _ _); (refine Mine.sub_chr (by omega) (by omega) (by assumption) ?_))
      k_with "getMethod ref" => (k_here; k_dflt (first | (refine' method_inst ?k1_readC ?k2_readC ?k3_readC ?k4_readC ?k5_readC ?k6_readC ?k7_readC ?_; (case k1_readC => k_asm); (case k2_readC => k_asm); (case k3_readC => k_inst); (case k4_readC => k_is); (case k5_readC => k_is); (case k6_readC => k_is); (case k7_readC => k_get); k_whole) | (refine' kmu_own ?k1_readC ?k2_readC ?k3_readC ?k4_readC ?k5_readC ?_; (case k1_readC => k_asm); (case k2_readC => k_asm); (case k3_readC => k_inst); (case k4_readC => k_is); (case k5_readC => k_is); k_whole)))
      k_with "getMethod ref" => (k_here; (with_reducible show wpAny _ _ (getMethod (Value.ref _) (PySem.Str.ofString "append") _) _ _ _); k_dflt (refine' kl_method ?N_readC ?m_readC slot_list_append type_list_append ?_; (case N_readC => k_asm); (case m_readC => k_mem); k_whole))
      k_with "subscriptTail Name UnaryOp str int" => (k_here; (with_reducible show wpAny _ _ (subscriptTail _ _ (Value.str _ _) (Value.int _ _)) _ _ _); (refine Mine.sub_last (by omega) (by omega) (by omega) ?_); intro c9 hc9; (try (k_dflt (have hs9 := Mine.last_lt (B := 55296) (by assumption) (by assumption) hc9))))
      k_with "call builtin:str.replace" => (k_here; (with_reducible show wpAny _ _ (call (Value.builtin "str.replace") [Value.str _ _, Value.str _ _, Value.str _ _]) _ _ _); (refine Mine.replaceM (by (try dsimp only); omega) (by (try dsimp only); omega) (by (try dsimp only); omega) (by decide +kernel) (by (refine Nat.le_trans (m := 10000) ?_ (by decide); repeat' (first | with_reducible assumption | with_reducible refine Mine.slice_len_le ?_ | (with_reducible refine Nat.le_trans (Mine.replace_len (by decide +kernel) (by decide +kernel)) ?_) | exact (by decide +kernel)))) (by decide +kernel) ?_); intro t9 kq9 hk9; (try dsimp only at hk9))
      k_with "execs cons" => (k_here; (with_reducible show wpAny _ _ _ _ _ (Shared.mk _ _ _ (_ + _) _)); (refine Mine.gentoks ?_); intro tkg9 htk9; (try dsimp only at htk9))
      k_with "call builtin:len" => (k_here; (with_reducible show wpAny _ _ (call (Value.builtin "len") [Value.str _ _]) _ _ _); (refine SBL.len (by first | omega | exact Mine.fit63 (by (refine Nat.le_trans (m := 10000) ?_ (by decide); repeat' (first | with_reducible assumption | with_reducible refine Mine.slice_len_le ?_ | (with_reducible refine Nat.le_trans (Mine.replace_len (by decide +kernel) (by decide +kernel)) ?_) | exact (by decide +kernel))))) ?_))
      k_with "truthy ref" => (k_here; k_dflt (refine' Mine.truthy_meth ?k1_readC ?k2_readC ?_; (case k1_readC => k_asm); (case k2_readC => k_mem); k_whole))
      k_with "truthy str" => (k_here; (with_reducible show wpAny _ _ (PySem.truthy (Value.str _ _)) _ _ _); (refine SBL.truthy (by omega) ?_))
      k_with "ite" => (k_here; k_openite; first
      | (refine ite_pos ?hq_readC ?_; (case hq_readC => first | (simp only [decide_eq_true_eq, beq_iff_eq, bne_iff_ne, ne_eq, Bool.not_eq_true', decide_eq_false_iff_not]; omega) | (simp; done)))
      | (refine ite_neg ?hq_readC ?_; (case hq_readC => first | (simp only [decide_eq_true_eq, beq_iff_eq, bne_iff_ne, ne_eq, Bool.not_eq_true', decide_eq_false_iff_not]; omega) | (simp; done))))
      k_with "call builtin:str.count" => (k_here; (with_reducible show wpAny _ _ (call (Value.builtin "str.count") [Value.str _ _, Value.str _ _, Value.int _ _, Value.int _ _]) _ _ _); (refine Mine.count4 ?_))
      k_with "call builtin:str.rfind" => (k_here; (with_reducible show wpAny _ _ (call (Value.builtin "str.rfind") [Value.str _ _, Value.str _ _, Value.int _ _, Value.int _ _]) _ _ _); (refine Mine.rfind4 ?_))
      k_with "exec Assign" => ((with_reducible show wpAny _ _ _ _ _ _); k_fold)
      k_with "exec Expr" => ((with_reducible show wpAny _ _ _ _ _ _); k_fold)
      k_with "exec If" => ((with_reducible show wpAny _ _ _ _ _ _); k_fold)
      k_with "exec AugAssign" => ((with_reducible show wpAny _ _ _ _ _ _); k_fold)
      k_with "exec Return" => ((with_reducible show wpAny _ _ _ _ _ _); k_fold)
      k_with "exec While" => ((with_reducible show wpAny _ _ _ _ _ _); k_fold)
      k_with "call ref" => (k_here; (with_reducible show wpAny _ _ (call (Value.ref 119) [Value.ref _, Value.int _ _] _) _ _ _); k_dflt (refine' Mine.CtrC.call (ctr_position0 ?p1_readC) _ _ _ _ _ _ _ _ _ _ _ _ ?cB_readC ?cF_readC ?cX_readC ?cN_readC ?cT_readC ?ca_readC ?cb_readC ?cc_readC ?ce_readC ?cd_readC ?cu_readC ?cne_readC ?_; (case cB_readC => k_asm); (case cF_readC => k_asm); (case cX_readC => k_asm); (case cT_readC => k_asm); (case ca_readC => exact rfl); (case cb_readC => exact rfl); (case cc_readC => exact rfl); (case ce_readC => exact rfl); (case cd_readC => exact Nat.le_of_ble_eq_true rfl); (case cu_readC => exact Nat.le_of_ble_eq_true rfl); (case cN_readC => (refine' Mine.Take.news ?tk_readC ?nn_readC; (case nn_readC => k_asm); (case tk_readC => (try (refine' Mine.Take.cons ?_ ?_)); repeat' (first | exact Mine.Take.nil | exact Mine.Del.head | refine' Mine.Take.cons ?_ ?_ | refine' Mine.Del.tail ?_)))); (case cne_readC => first | exact List.forall_mem_nil _ | exact (fun _ _ => List.forall_mem_nil _) | ((simp only [List.forall_mem_cons, List.not_mem_nil, false_implies, implies_true, and_true, true_and]); (repeat' (refine And.intro ?_ ?_)); all_goals k_ne)); (case p1_readC => omega); (k_whole; intro v' fr' l' h' tk' hp' htk' hfr' F' N'; obtain ⟨q', ta', tb', e1', e2', e3'⟩ := hp'; subst e1'; subst e2'; subst e3'; (simp only [List.cons_append, List.nil_append, List.forall_mem_cons, List.not_mem_nil, false_implies, implies_true, and_true, true_and] at hfr'); (try dsimp only at htk'); (try dsimp only [List.cons_append, List.nil_append] at N'); (try k_sweep); (try dsimp only); (try k_fold))))
      k_with "call ref" => (k_here; (with_reducible show wpAny _ _ (call (Value.ref 70) [Value.ref _, Value.int _ _] _) _ _ _); k_dflt (refine' Mine.CtrC.call (ctr_readE ?p1_readC ?p2_readC ?p3_readC ?p4_readC) _ _ _ _ _ _ _ _ _ _ _ _ ?cB_readC ?cF_readC ?cX_readC ?cN_readC ?cT_readC ?ca_readC ?cb_readC ?cc_readC ?ce_readC ?cd_readC ?cu_readC ?cne_readC ?_; (case cB_readC => k_asm); (case cF_readC => k_asm); (case cX_readC => k_asm); (case cT_readC => k_asm); (case ca_readC => exact rfl); (case cb_readC => exact rfl); (case cc_readC => exact rfl); (case ce_readC => exact rfl); (case cd_readC => exact Nat.le_of_ble_eq_true rfl); (case cu_readC => exact Nat.le_of_ble_eq_true rfl); (case cN_readC => (refine' Mine.Take.news ?tk_readC ?nn_readC; (case nn_readC => k_asm); (case tk_readC => (try (refine' Mine.Take.cons ?_ ?_)); repeat' (first | exact Mine.Take.nil | exact Mine.Del.head | refine' Mine.Take.cons ?_ ?_ | refine' Mine.Del.tail ?_)))); (case cne_readC => first | exact List.forall_mem_nil _ | exact (fun _ _ => List.forall_mem_nil _) | ((simp only [List.forall_mem_cons, List.not_mem_nil, false_implies, implies_true, and_true, true_and]); (repeat' (refine And.intro ?_ ?_)); all_goals k_ne)); (case p1_readC => omega); (case p2_readC => omega); (case p3_readC => omega); (case p4_readC => rfl); (k_whole; intro v' fr' l' h' tk' hp' htk' hfr' F' N'; obtain ⟨e0', ⟨tv', p', tp', hq', e1', e2'⟩⟩ := hp'; subst e0'; subst e1'; subst e2'; (clear hfr'); (try dsimp only at htk'); (try dsimp only [List.cons_append, List.nil_append] at N'); (try k_sweep); (try dsimp only); (try k_fold))))
      k_with "call ref" => (k_here; (with_reducible show wpAny _ _ (call (Value.ref _) [Value.str _ _] _) _ _ _); k_dflt (refine' Mine.CtrC.bound (ctr_charErrors ?p1_readC ?p2_readC ?p3_readC ?p4_readC) ?p5_readC _ _ _ _ _ _ _ _ _ _ _ _ ?cB_readC ?cF_readC ?cX_readC ?cN_readC ?cT_readC ?ca_readC ?cb_readC ?cc_readC ?ce_readC ?cd_readC ?cu_readC ?cne_readC ?_; (case cB_readC => k_asm); (case cF_readC => k_asm); (case cX_readC => k_asm); (case cT_readC => k_asm); (case ca_readC => exact rfl); (case cb_readC => exact rfl); (case cc_readC => exact rfl); (case ce_readC => exact rfl); (case cd_readC => exact Nat.le_of_ble_eq_true rfl); (case cu_readC => exact Nat.le_of_ble_eq_true rfl); (case cN_readC => (refine' Mine.Take.news ?tk_readC ?nn_readC; (case nn_readC => k_asm); (case tk_readC => (try (refine' Mine.Take.cons ?_ ?_)); repeat' (first | exact Mine.Take.nil | exact Mine.Del.head | refine' Mine.Take.cons ?_ ?_ | refine' Mine.Del.tail ?_)))); (case cne_readC => first | exact List.forall_mem_nil _ | exact (fun _ _ => List.forall_mem_nil _) | ((simp only [List.forall_mem_cons, List.not_mem_nil, false_implies, implies_true, and_true, true_and]); (repeat' (refine And.intro ?_ ?_)); all_goals k_ne)); (case p1_readC => omega); (case p2_readC => omega); (case p3_readC => (refine Nat.le_trans (m := 10000) ?_ (by decide); repeat' (first | with_reducible assumption | with_reducible refine Mine.slice_len_le ?_ | (with_reducible refine Nat.le_trans (Mine.replace_len (by decide +kernel) (by decide +kernel)) ?_) | exact (by decide +kernel)))); (case p4_readC => omega); (case p5_readC => (simp only [List.forall_mem_cons, List.not_mem_nil, false_implies, implies_true, and_true, true_and]; (repeat' (refine And.intro ?_ ?_)); all_goals k_ne)); (k_whole; intro v' fr' l' h' tk' hp' htk' hfr' F' N'; obtain ⟨l2', e9', e0', e1', es', n', hl', e2'⟩ := hp'; subst e9'; subst e0'; subst e1'; subst e2'; (clear hfr'); (try dsimp only at htk'); (try dsimp only [List.cons_append, List.nil_append] at N'); (try k_sweep); (try dsimp only); (try k_fold))))
      k_fill
      refine' ctr_intro (binds := [("self", .ref st), ("chunkSize", .none)]) (fun h h' T k => T.keeps k) (fun h T => T.nolimit) ?ho_readC ?hcd_readC ?hD_readC ?hb_readC ?hl_readC ?_ ?hc_readC ?c1_readC ?c2_readC ?c3_readC
      case ho_readC => k_is
      case hcd_readC => k_is
      case hD_readC => decide
      case hb_readC => (intro s X; first | exact BindsTo.of_eq rfl | exact binds_K X rfl (by k_is) rfl rfl rfl)
      case hl_readC => exact locs rfl
      case hc_readC => decide
      case c1_readC => exact rfl
      case c2_readC => exact rfl
      case c3_readC => exact rfl
      intro A base g env outer L' h₁ s tk B' F' X' N' T' l1
      (try k_lt l1)
      (try dsimp only)
      first | have S0 := Mine.Srt.grow (Mine.Srt.six ho) hoq | have S0 := Mine.Srt.five ho hk | have S0 := Mine.Srt.six ho | have S0 := Mine.Srt.two ho | have S0 := Mine.Srt.two hk | skip
      (with_reducible show wpAny _ _ _ _ _ _)
      k_fold
      k_steps
      all_goals (try dsimp only)
      all_goals (refine' cend (l := [(st, _), (sd, _), (ds, _), (dd, _), (rce, _), (er, _)]) (by assumption) (by assumption) (Mine.Take.sub (by ((try dsimp only); repeat' (first | exact Mine.Take.nil | exact Mine.Del.head | refine' Mine.Take.blk ?_ | exact Mine.Tl.nil | exact Mine.Tl.app | refine' Mine.Take.cons ?_ ?_ | refine' Mine.Del.tail ?_ | refine' Mine.Tl.cons ?_)))) ?_)
      have hq9 := Mine.rd_cr h0 hs hsu hes hpl (by with_reducible assumption) (by with_reducible assumption)
      (refine' ⟨⟨_, _, _, _, _, _, _, _, _, _, _, [], _, _, _, _⟩, true, rfl, ?rp1a1_readC, ?rp1a2_readC, ?rp1a3_readC, ?rp1a4_readC, ?rp1a5_readC, ?rp1a6_readC, ?rp1a7_readC, ?rp1a8_readC⟩; (case rp1a8_readC => exact rfl); (case rp1a1_readC => exact (hq9 ..).1); (case rp1a2_readC => exact rfl); (case rp1a3_readC => exact (hq9 0 0 0 0 0 0 0 0 0).2.1); (case rp1a4_readC => exact (fun _ => (hq9 0 0 0 0 0 0 0 0 0).2.2)); (case rp1a5_readC => exact (fun h => nomatch h)); (case rp1a6_readC => exact rfl); (case rp1a7_readC => exact rfl))
  have ctr_readA {w : World} {loose : List Str} {mean : ExcName → Option Value} {mg mb : Str → Option Value} {st sd : Addr} {k0 k1 k2 k3 k4 k5 k6 k7 k8 k9 : Tok} {rce nl ds er dd : Addr} {j0 j1 : Tok} {src : Str} {tsr : Tok} {x : St} (ho : @LT.lt Nat _ sd st ∧ @LT.lt Nat _ st rce ∧ @LT.lt Nat _ rce dd ∧ @LT.lt Nat _ dd ds ∧ @LT.lt Nat _ ds er) (ok : x.ok src) :
      CtrC PySem.Challenge.rw_te0076_03.row.prog w (main.heap_1_39 w.params) (Top main.view_1_40 loose mean mg mb) 470 700 (.ref 141) ⟨[.ref st], []⟩ [(st, instObj 166 sd), (sd, dictOf (sdict w.params k0 k1 k2 k3 k4 k5 k6 k7 k8 k9 rce nl ds x.chunk x.tc x.size x.ts x.off x.to er x.pl x.tl x.pc x.tp x.buf) 10), (ds, instObj 73 dd), (dd, dictOf (tdict w.params j0 j1 src tsr x.place x.tpl) 2), (rce, methodObj (.ref 148) (.ref st)), (er, W.listOf x.es.toArray x.n)] (noF fun v l => ∃ (x' : St) (b : Bool), v = .bool b ∧ x'.ok src ∧ x'.off = 0 ∧ x'.rem src = mendL (x.pend ++ src.cps.toList.drop x.place.toNat) ∧ (b = true → 1 ≤ x'.size) ∧ (b = false → x'.rem src = []) ∧ x'.pl = posL x.chunk x.size x.pl ∧ x'.pc = posC x.chunk x.size x.pc ∧ l = [(st, instObj 166 sd), (sd, dictOf (sdict w.params k0 k1 k2 k3 k4 k5 k6 k7 k8 k9 rce nl ds x'.chunk x'.tc x'.size x'.ts x'.off x'.to er x'.pl x'.tl x'.pc x'.tp x'.buf) 10), (ds, instObj 73 dd), (dd, dictOf (tdict w.params j0 j1 src tsr x'.place x'.tpl) 2), (rce, methodObj (.ref 148) (.ref st)), (er, W.listOf x'.es.toArray x'.n)]) := by
    as_aux_lemma =>
      clear ctr_is_invalid ctr_charErrors ctr_read ctr_readE ctr_position0 ctr_unget ctr_ungetN ctr_ungetS
      rcases ok.bufis with ⟨h, _⟩ | ⟨t, h, _⟩
      · exact ctr_readN ho ok h
      · exact ctr_readC ho ok h
  have ctr_char {w : World} {loose : List Str} {mean : ExcName → Option Value} {mg mb : Str → Option Value} {st sd : Addr} {k0 k1 k2 k3 k4 k5 k6 k7 k8 k9 : Tok} {rce nl ds er dd : Addr} {j0 j1 : Tok} {src : Str} {tsr : Tok} {x : St} (ho : @LT.lt Nat _ sd st ∧ @LT.lt Nat _ st rce ∧ @LT.lt Nat _ rce dd ∧ @LT.lt Nat _ dd ds ∧ @LT.lt Nat _ ds er) (ok : x.ok src) :
      CtrC PySem.Challenge.rw_te0076_03.row.prog w (main.heap_1_39 w.params) (Top main.view_1_40 loose mean mg mb) 460 600 (.ref 133) ⟨[.ref st], []⟩ [(st, instObj 166 sd), (sd, dictOf (sdict w.params k0 k1 k2 k3 k4 k5 k6 k7 k8 k9 rce nl ds x.chunk x.tc x.size x.ts x.off x.to er x.pl x.tl x.pc x.tp x.buf) 10), (ds, instObj 73 dd), (dd, dictOf (tdict w.params j0 j1 src tsr x.place x.tpl) 2), (rce, methodObj (.ref 148) (.ref st)), (er, W.listOf x.es.toArray x.n)] (noF fun v l => ∃ (x' : St), x'.ok src ∧ CvIs src x' v (x.rem src) ∧ l = [(st, instObj 166 sd), (sd, dictOf (sdict w.params k0 k1 k2 k3 k4 k5 k6 k7 k8 k9 rce nl ds x'.chunk x'.tc x'.size x'.ts x'.off x'.to er x'.pl x'.tl x'.pc x'.tp x'.buf) 10), (ds, instObj 73 dd), (dd, dictOf (tdict w.params j0 j1 src tsr x'.place x'.tpl) 2), (rce, methodObj (.ref 148) (.ref st)), (er, W.listOf x'.es.toArray x'.n)]) := by
    as_aux_lemma =>
      clear ctr_is_invalid ctr_charErrors ctr_read ctr_readE ctr_position0 ctr_unget ctr_ungetN ctr_ungetS ctr_readN ctr_readC
      k_with_none
      k_with "subscriptTail" => (k_here; (with_reducible show wpAny _ _ (subscriptTail _ _ (Value.str _ _) (Value.int _ _)) _ _ _); (refine Mine.sub_chr (by omega) (by omega) (by assumption) ?_))
      k_with "getMethod ref" => (k_here; k_dflt (first | (refine' method_inst ?k1_char ?k2_char ?k3_char ?k4_char ?k5_char ?k6_char ?k7_char ?_; (case k1_char => k_asm); (case k2_char => k_asm); (case k3_char => k_inst); (case k4_char => k_is); (case k5_char => k_is); (case k6_char => k_is); (case k7_char => k_get); k_whole) | (refine' kmu_own ?k1_char ?k2_char ?k3_char ?k4_char ?k5_char ?_; (case k1_char => k_asm); (case k2_char => k_asm); (case k3_char => k_inst); (case k4_char => k_is); (case k5_char => k_is); k_whole)))
      k_with "getMethod ref" => (k_here; (with_reducible show wpAny _ _ (getMethod (Value.ref _) (PySem.Str.ofString "append") _) _ _ _); k_dflt (refine' kl_method ?N_char ?m_char slot_list_append type_list_append ?_; (case N_char => k_asm); (case m_char => k_mem); k_whole))
      k_with "subscriptTail Name UnaryOp str int" => (k_here; (with_reducible show wpAny _ _ (subscriptTail _ _ (Value.str _ _) (Value.int _ _)) _ _ _); (refine Mine.sub_last (by omega) (by omega) (by omega) ?_); intro c9 hc9; (try (k_dflt (have hs9 := Mine.last_lt (B := 55296) (by assumption) (by assumption) hc9))))
      k_with "call builtin:str.replace" => (k_here; (with_reducible show wpAny _ _ (call (Value.builtin "str.replace") [Value.str _ _, Value.str _ _, Value.str _ _]) _ _ _); (refine Mine.replaceM (by (try dsimp only); omega) (by (try dsimp only); omega) (by (try dsimp only); omega) (by decide +kernel) (by (refine Nat.le_trans (m := 10000) ?_ (by decide); repeat' (first | with_reducible assumption | with_reducible refine Mine.slice_len_le ?_ | (with_reducible refine Nat.le_trans (Mine.replace_len (by decide +kernel) (by decide +kernel)) ?_) | exact (by decide +kernel)))) (by decide +kernel) ?_); intro t9 kq9 hk9; (try dsimp only at hk9))
      k_with "execs cons" => (k_here; (with_reducible show wpAny _ _ _ _ _ (Shared.mk _ _ _ (_ + _) _)); (refine Mine.gentoks ?_); intro tkg9 htk9; (try dsimp only at htk9))
      k_with "call builtin:len" => (k_here; (with_reducible show wpAny _ _ (call (Value.builtin "len") [Value.str _ _]) _ _ _); (refine SBL.len (by first | omega | exact Mine.fit63 (by (refine Nat.le_trans (m := 10000) ?_ (by decide); repeat' (first | with_reducible assumption | with_reducible refine Mine.slice_len_le ?_ | (with_reducible refine Nat.le_trans (Mine.replace_len (by decide +kernel) (by decide +kernel)) ?_) | exact (by decide +kernel))))) ?_))
      k_with "truthy ref" => (k_here; k_dflt (refine' Mine.truthy_meth ?k1_char ?k2_char ?_; (case k1_char => k_asm); (case k2_char => k_mem); k_whole))
      k_with "truthy str" => (k_here; (with_reducible show wpAny _ _ (PySem.truthy (Value.str _ _)) _ _ _); (refine SBL.truthy (by omega) ?_))
      k_with "ite" => (k_here; k_openite; first
      | (refine ite_pos ?hq_char ?_; (case hq_char => first | (simp only [decide_eq_true_eq, beq_iff_eq, bne_iff_ne, ne_eq, Bool.not_eq_true', decide_eq_false_iff_not]; omega) | (simp; done)))
      | (refine ite_neg ?hq_char ?_; (case hq_char => first | (simp only [decide_eq_true_eq, beq_iff_eq, bne_iff_ne, ne_eq, Bool.not_eq_true', decide_eq_false_iff_not]; omega) | (simp; done))))
      k_with "call builtin:str.count" => (k_here; (with_reducible show wpAny _ _ (call (Value.builtin "str.count") [Value.str _ _, Value.str _ _, Value.int _ _, Value.int _ _]) _ _ _); (refine Mine.count4 ?_))
      k_with "call builtin:str.rfind" => (k_here; (with_reducible show wpAny _ _ (call (Value.builtin "str.rfind") [Value.str _ _, Value.str _ _, Value.int _ _, Value.int _ _]) _ _ _); (refine Mine.rfind4 ?_))
      k_with "exec Assign" => ((with_reducible show wpAny _ _ _ _ _ _); k_fold)
      k_with "exec Expr" => ((with_reducible show wpAny _ _ _ _ _ _); k_fold)
      k_with "exec If" => ((with_reducible show wpAny _ _ _ _ _ _); k_fold)
      k_with "exec AugAssign" => ((with_reducible show wpAny _ _ _ _ _ _); k_fold)
      k_with "exec Return" => ((with_reducible show wpAny _ _ _ _ _ _); k_fold)
      k_with "exec While" => ((with_reducible show wpAny _ _ _ _ _ _); k_fold)
      k_with "subscriptTail" => (k_here; (with_reducible show wpAny _ _ (subscriptTail _ _ (Value.str (St.chunk _) _) (Value.int (St.off _) _)) _ _ _); (refine Mine.sub_st (by with_reducible assumption) (by omega) ?_); intro c9 hc9; (try k_fold))
      k_with "call ref" => (k_here; (with_reducible show wpAny _ _ (call (Value.ref 141) _ _) _ _ _); k_dflt (refine' Mine.CtrC.call (ctr_readA ?p1_char ?p2_char) _ _ _ _ _ _ _ _ _ _ _ _ ?cB_char ?cF_char ?cX_char ?cN_char ?cT_char ?ca_char ?cb_char ?cc_char ?ce_char ?cd_char ?cu_char ?cne_char ?_; (case cB_char => k_asm); (case cF_char => k_asm); (case cX_char => k_asm); (case cT_char => k_asm); (case ca_char => exact rfl); (case cb_char => exact rfl); (case cc_char => exact rfl); (case ce_char => exact rfl); (case cd_char => exact Nat.le_of_ble_eq_true rfl); (case cu_char => exact Nat.le_of_ble_eq_true rfl); (case cN_char => (refine' Mine.Take.news ?tk_char ?nn_char; (case nn_char => k_asm); (case tk_char => (try (refine' Mine.Take.cons ?_ ?_)); repeat' (first | exact Mine.Take.nil | exact Mine.Del.head | refine' Mine.Take.cons ?_ ?_ | refine' Mine.Del.tail ?_)))); (case cne_char => first | exact List.forall_mem_nil _ | exact (fun _ _ => List.forall_mem_nil _) | ((simp only [List.forall_mem_cons, List.not_mem_nil, false_implies, implies_true, and_true, true_and]); (repeat' (refine And.intro ?_ ?_)); all_goals k_ne)); (case p1_char => with_reducible assumption); (case p2_char => with_reducible assumption); (k_whole; intro v' fr' l' h' tk' hp' htk' hfr' F' N'; obtain ⟨e0', ⟨x', b', e1', ok', hoff', hrem', hb1', hb0', hpl', hpc', e2'⟩⟩ := hp'; subst e0'; subst e1'; subst e2'; (clear hfr'); (try dsimp only at htk'); (try dsimp only [List.cons_append, List.nil_append] at N'); (try k_sweep); (try dsimp only); (try k_fold)); (rcases b' with _ | _); all_goals (first | (have hb2' := hb1' rfl) | (have hb3' := hb0' rfl))))
      k_fill
      refine' ctr_intro (binds := [("self", .ref st)]) (fun h h' T k => T.keeps k) (fun h T => T.nolimit) ?ho_char ?hcd_char ?hD_char ?hb_char ?hl_char ?_ ?hc_char ?c1_char ?c2_char ?c3_char
      case ho_char => k_is
      case hcd_char => k_is
      case hD_char => decide
      case hb_char => (intro s X; first | exact BindsTo.of_eq rfl | exact binds_K X rfl (by k_is) rfl rfl rfl)
      case hl_char => exact locs rfl
      case hc_char => decide
      case c1_char => exact rfl
      case c2_char => exact rfl
      case c3_char => exact rfl
      intro A base g env outer L' h₁ s tk B' F' X' N' T' l1
      (try k_lt l1)
      (try dsimp only)
      first | have S0 := Mine.Srt.grow (Mine.Srt.six ho) hoq | have S0 := Mine.Srt.five ho hk | have S0 := Mine.Srt.six ho | have S0 := Mine.Srt.two ho | have S0 := Mine.Srt.two hk | skip
      (with_reducible show wpAny _ _ _ _ _ _)
      k_fold
      k_steps
      all_goals (dsimp only)
      all_goals (refine' cend (l := [(st, _), (sd, _), (ds, _), (dd, _), (rce, _), (er, _)]) (by assumption) (by assumption) (Mine.Take.sub (by ((try dsimp only); repeat' (first | exact Mine.Take.nil | exact Mine.Del.head | refine' Mine.Take.blk ?_ | exact Mine.Tl.nil | exact Mine.Tl.app | refine' Mine.Take.cons ?_ ?_ | refine' Mine.Del.tail ?_ | refine' Mine.Tl.cons ?_)))) ?_)
      · rename St => y
        refine' ⟨y, ?hxa_char, .inl ⟨rfl, ?hxb_char, ?hxc_char⟩, ?hxl_char⟩
        case hxl_char => exact rfl
        case hxa_char => with_reducible assumption
        case hxc_char => with_reducible assumption
        case hxb_char => exact (Mine.rem_end ok (by with_reducible assumption)).trans (Eq.trans (Eq.symm (by with_reducible assumption)) (by with_reducible assumption))
      · rename St => y
        have hq9 := Mine.rem_step (x := y) (by with_reducible assumption) (by with_reducible assumption) rfl
        refine' ⟨{ y with off := y.off + 1, to := _ }, ?hxa_char, .inr ⟨_, _, rfl, ?hxb_char, (hq9 0 0).2.2.1, (hq9 0 0).2.2.2⟩, ?hxl_char⟩
        case hxl_char => exact rfl
        case hxa_char => exact (hq9 _ 0).1
        case hxb_char => exact ((Mine.rem_end ok (by with_reducible assumption)).trans (Eq.symm (by with_reducible assumption))).trans (hq9 0 0).2.1
      · have hq9 := Mine.rem_step ok (by with_reducible assumption) rfl
        refine' ⟨{ x with off := x.off + 1, to := _ }, ?hxa_char, .inr ⟨_, _, rfl, ?hxb_char, (hq9 0 0).2.2.1, (hq9 0 0).2.2.2⟩, ?hxl_char⟩
        case hxl_char => exact rfl
        case hxa_char => exact (hq9 _ 0).1
        case hxb_char => exact (hq9 0 0).2.1
  have ctr_until {w : World} {loose : List Str} {mean : ExcName → Option Value} {mg mb : Str → Option Value} {st sd : Addr} {k0 k1 k2 k3 k4 k5 k6 k7 k8 k9 : Tok} {rce nl ds er dd : Addr} {j0 j1 : Tok} {src : Str} {tsr : Tok} {x : St} {q : Addr} {vs0 : List Value} {ys0 : List Str} {al : Nat → Bool} (ho : @LT.lt Nat _ sd st ∧ @LT.lt Nat _ st rce ∧ @LT.lt Nat _ rce dd ∧ @LT.lt Nat _ dd ds ∧ @LT.lt Nat _ ds er) (hoq : @LT.lt Nat _ er q) (ok : x.ok src) (hvs0 : StrsAre vs0 ys0) (hal0 : ∀ c : Nat, ys0.any (· == ⟨#[c]⟩) = al c) :
      CtrC PySem.Challenge.rw_te0076_03.row.prog w (main.heap_1_39 w.params) (Top main.view_1_40 loose mean mg mb) 460 600 (.ref 156) ⟨[.ref st, .ref q], []⟩ ([(st, instObj 166 sd), (sd, dictOf (sdict w.params k0 k1 k2 k3 k4 k5 k6 k7 k8 k9 rce nl ds x.chunk x.tc x.size x.ts x.off x.to er x.pl x.tl x.pc x.tp x.buf) 10), (ds, instObj 73 dd), (dd, dictOf (tdict w.params j0 j1 src tsr x.place x.tpl) 2), (rce, methodObj (.ref 148) (.ref st)), (er, W.listOf x.es.toArray x.n), (q, tupO vs0)]) (noF fun v l => ∃ (x' : St) (p : List Nat) (t : Tok), x'.ok src ∧ v = .str ⟨p.toArray⟩ t ∧ x.rem src = p ++ x'.rem src ∧ (∀ c ∈ p, al c = false) ∧ (∀ c t, x'.rem src = c :: t → al c = true) ∧ l = [(st, instObj 166 sd), (sd, dictOf (sdict w.params k0 k1 k2 k3 k4 k5 k6 k7 k8 k9 rce nl ds x'.chunk x'.tc x'.size x'.ts x'.off x'.to er x'.pl x'.tl x'.pc x'.tp x'.buf) 10), (ds, instObj 73 dd), (dd, dictOf (tdict w.params j0 j1 src tsr x'.place x'.tpl) 2), (rce, methodObj (.ref 148) (.ref st)), (er, W.listOf x'.es.toArray x'.n), (q, tupO vs0)]) := by
    as_aux_lemma =>
      clear ctr_is_invalid ctr_charErrors ctr_read ctr_readE ctr_position0 ctr_unget ctr_ungetN ctr_ungetS ctr_readN ctr_readC ctr_char
      k_with_none
      k_with "subscriptTail" => (k_here; (with_reducible show wpAny _ _ (subscriptTail _ _ (Value.str _ _) (Value.int _ _)) _ _ _); (refine Mine.sub_chr (by omega) (by omega) (by assumption) ?_))
      k_with "getMethod ref" => (k_here; k_dflt (first | (refine' method_inst ?k1_until ?k2_until ?k3_until ?k4_until ?k5_until ?k6_until ?k7_until ?_; (case k1_until => k_asm); (case k2_until => k_asm); (case k3_until => k_inst); (case k4_until => k_is); (case k5_until => k_is); (case k6_until => k_is); (case k7_until => k_get); k_whole) | (refine' kmu_own ?k1_until ?k2_until ?k3_until ?k4_until ?k5_until ?_; (case k1_until => k_asm); (case k2_until => k_asm); (case k3_until => k_inst); (case k4_until => k_is); (case k5_until => k_is); k_whole)))
      k_with "getMethod ref" => (k_here; (with_reducible show wpAny _ _ (getMethod (Value.ref _) (PySem.Str.ofString "append") _) _ _ _); k_dflt (refine' kl_method ?N_until ?m_until slot_list_append type_list_append ?_; (case N_until => k_asm); (case m_until => k_mem); k_whole))
      k_with "subscriptTail Name UnaryOp str int" => (k_here; (with_reducible show wpAny _ _ (subscriptTail _ _ (Value.str _ _) (Value.int _ _)) _ _ _); (refine Mine.sub_last (by omega) (by omega) (by omega) ?_); intro c9 hc9; (try (k_dflt (have hs9 := Mine.last_lt (B := 55296) (by assumption) (by assumption) hc9))))
      k_with "call builtin:str.replace" => (k_here; (with_reducible show wpAny _ _ (call (Value.builtin "str.replace") [Value.str _ _, Value.str _ _, Value.str _ _]) _ _ _); (refine Mine.replaceM (by (try dsimp only); omega) (by (try dsimp only); omega) (by (try dsimp only); omega) (by decide +kernel) (by (refine Nat.le_trans (m := 10000) ?_ (by decide); repeat' (first | with_reducible assumption | with_reducible refine Mine.slice_len_le ?_ | (with_reducible refine Nat.le_trans (Mine.replace_len (by decide +kernel) (by decide +kernel)) ?_) | exact (by decide +kernel)))) (by decide +kernel) ?_); intro t9 kq9 hk9; (try dsimp only at hk9))
      k_with "execs cons" => (k_here; (with_reducible show wpAny _ _ _ _ _ (Shared.mk _ _ _ (_ + _) _)); (refine Mine.gentoks ?_); intro tkg9 htk9; (try dsimp only at htk9))
      k_with "call builtin:len" => (k_here; (with_reducible show wpAny _ _ (call (Value.builtin "len") [Value.str _ _]) _ _ _); (refine SBL.len (by first | omega | exact Mine.fit63 (by (refine Nat.le_trans (m := 10000) ?_ (by decide); repeat' (first | with_reducible assumption | with_reducible refine Mine.slice_len_le ?_ | (with_reducible refine Nat.le_trans (Mine.replace_len (by decide +kernel) (by decide +kernel)) ?_) | exact (by decide +kernel))))) ?_))
      k_with "truthy ref" => (k_here; k_dflt (refine' Mine.truthy_meth ?k1_until ?k2_until ?_; (case k1_until => k_asm); (case k2_until => k_mem); k_whole))
      k_with "truthy str" => (k_here; (with_reducible show wpAny _ _ (PySem.truthy (Value.str _ _)) _ _ _); (refine SBL.truthy (by omega) ?_))
      k_with "ite" => (k_here; k_openite; first
      | (refine ite_pos ?hq_until ?_; (case hq_until => first | (simp only [decide_eq_true_eq, beq_iff_eq, bne_iff_ne, ne_eq, Bool.not_eq_true', decide_eq_false_iff_not]; omega) | (simp; done)))
      | (refine ite_neg ?hq_until ?_; (case hq_until => first | (simp only [decide_eq_true_eq, beq_iff_eq, bne_iff_ne, ne_eq, Bool.not_eq_true', decide_eq_false_iff_not]; omega) | (simp; done))))
      k_with "call builtin:str.count" => (k_here; (with_reducible show wpAny _ _ (call (Value.builtin "str.count") [Value.str _ _, Value.str _ _, Value.int _ _, Value.int _ _]) _ _ _); (refine Mine.count4 ?_))
      k_with "call builtin:str.rfind" => (k_here; (with_reducible show wpAny _ _ (call (Value.builtin "str.rfind") [Value.str _ _, Value.str _ _, Value.int _ _, Value.int _ _]) _ _ _); (refine Mine.rfind4 ?_))
      k_with "exec Assign" => ((with_reducible show wpAny _ _ _ _ _ _); k_fold)
      k_with "exec Expr" => ((with_reducible show wpAny _ _ _ _ _ _); k_fold)
      k_with "exec If" => ((with_reducible show wpAny _ _ _ _ _ _); k_fold)
      k_with "exec AugAssign" => ((with_reducible show wpAny _ _ _ _ _ _); k_fold)
      k_with "exec Return" => ((with_reducible show wpAny _ _ _ _ _ _); k_fold)
      k_with "exec While" => ((with_reducible show wpAny _ _ _ _ _ _); k_fold)
      k_with "call ref" => refine Mine.hold ?_
      k_with "compareOp In" => (k_here; (with_reducible show wpAny _ _ (compareOp CmpOp.In (Value.str ⟨#[_]⟩ _) (Value.ref _)) _ _ _); k_dflt (refine' Mine.in_tupN ?N_until ?hm_until hvs0 hal0 ?_; (case N_until => k_asm); (case hm_until => news_mem); k_whole))
      k_with "subscriptTail" => (k_here; (with_reducible show wpAny _ _ (subscriptTail _ _ (Value.str _ _) (Value.int _ _)) _ _ _); (refine Mine.sub_st2 (by with_reducible assumption) (by omega) (by omega) ?_); intro c9 hc9; (try k_fold))
      k_with "call ref" => (k_here; (with_reducible show wpAny _ _ (call (Value.ref 141) _ _) _ _ _); k_dflt (refine' Mine.CtrC.call (ctr_readA ?p1_until ?p2_until) _ _ _ _ _ _ _ _ _ _ _ _ ?cB_until ?cF_until ?cX_until ?cN_until ?cT_until ?ca_until ?cb_until ?cc_until ?ce_until ?cd_until ?cu_until ?cne_until ?_; (case cB_until => k_asm); (case cF_until => k_asm); (case cX_until => k_asm); (case cT_until => k_asm); (case ca_until => exact rfl); (case cb_until => exact rfl); (case cc_until => exact rfl); (case ce_until => exact rfl); (case cd_until => exact Nat.le_of_ble_eq_true rfl); (case cu_until => exact Nat.le_of_ble_eq_true rfl); (case cN_until => (refine' Mine.Take.news ?tk_until ?nn_until; (case nn_until => k_asm); (case tk_until => (try (refine' Mine.Take.cons ?_ ?_)); repeat' (first | exact Mine.Take.nil | exact Mine.Del.head | refine' Mine.Take.cons ?_ ?_ | refine' Mine.Del.tail ?_)))); (case cne_until => first | exact List.forall_mem_nil _ | exact (fun _ _ => List.forall_mem_nil _) | ((simp only [List.forall_mem_cons, List.not_mem_nil, false_implies, implies_true, and_true, true_and]); (repeat' (refine And.intro ?_ ?_)); all_goals k_ne)); (case p1_until => with_reducible assumption); (case p2_until => with_reducible assumption); (k_whole; intro v' fr' l' h' tk' hp' htk' hfr' F' N'; obtain ⟨e0', ⟨x', b', e1', ok', hoff', hrem', hb1', hb0', hpl', hpc', e2'⟩⟩ := hp'; subst e0'; subst e1'; subst e2'; (clear hfr'); (try dsimp only at htk'); (try dsimp only [List.cons_append, List.nil_append] at N'); (try k_sweep); (try dsimp only); (try k_fold)); (rcases b' with _ | _); all_goals (first | (have hb2' := hb1' rfl) | (have hb3' := hb0' rfl))))
      k_fill
      refine' ctr_intro (binds := [("self", .ref st), ("characters", .ref q), ("opposite", .bool false)]) (fun h h' T k => T.keeps k) (fun h T => T.nolimit) ?ho_until ?hcd_until ?hD_until ?hb_until ?hl_until ?_ ?hc_until ?c1_until ?c2_until ?c3_until
      case ho_until => k_is
      case hcd_until => k_is
      case hD_until => decide
      case hb_until => (intro s X; first | exact BindsTo.of_eq rfl | exact binds_K X rfl (by k_is) rfl rfl rfl)
      case hl_until => exact locs rfl
      case hc_until => decide
      case c1_until => exact rfl
      case c2_until => exact rfl
      case c3_until => exact rfl
      intro A base g env outer L' h₁ s tk B' F' X' N' T' l1
      (try k_lt l1)
      (try dsimp only)
      first | have S0 := Mine.Srt.grow (Mine.Srt.six ho) hoq | have S0 := Mine.Srt.five ho hk | have S0 := Mine.Srt.six ho | have S0 := Mine.Srt.two ho | have S0 := Mine.Srt.two hk | skip
      (with_reducible show wpAny _ _ _ _ _ _)
      k_fold
      k_with "exec While" => k_dflt (first
        | ((with_reducible show wpAny _ _ (exec (Stmt.While (Expr.Constant _ _ _) _ _ _) _) _ _ _); (rename Fr _ _ _ _ => F0); (rename News _ _ _ _ => N0); (refine' ksw_meet (σ := Cu) (fun c => [(_, W.listOf c.vs.toArray c.n), (st, instObj 166 sd), (sd, dictOf (sdict w.params k0 k1 k2 k3 k4 k5 k6 k7 k8 k9 rce nl ds c.x.chunk c.x.tc c.x.size c.x.ts c.x.off c.x.to er c.x.pl c.x.tl c.x.pc c.x.tp c.x.buf) 10), (ds, instObj 73 dd), (dd, dictOf (tdict w.params j0 j1 src tsr c.x.place c.x.tpl) 2), (rce, methodObj (.ref 148) (.ref st)), (er, W.listOf c.x.es.toArray c.x.n), (q, tupO vs0)]) (fun _ => []) ["end"] (Cu.ok src al (x.rem src)) (CuX src al (x.rem src)) (fun c => c.mu src) ⟨x, [], 0⟩ F0 (fun p hp => N0 p (Mine.Take.sub ?otk_until p hp)) (fun _ h => nomatch h) (Cu.start ok) ?ohq_until ?oturn_until); (case otk_until => ((try dsimp only); repeat' (first | exact Mine.Take.nil | exact Mine.Del.head | refine' Mine.Take.blk ?_ | exact Mine.Tl.nil | exact Mine.Tl.app | refine' Mine.Take.cons ?_ ?_ | refine' Mine.Del.tail ?_ | refine' Mine.Tl.cons ?_))); (case' ohq_until => (intro c u hh tk2 hi Ft Nt; (try clear F0 N0); obtain ⟨y, vs, vn⟩ := c; obtain ⟨sok, hvl, ws, hvs, hL, hws, hst⟩ := hi; (dsimp only at sok hvl hvs hL hst Ft Nt))); (case' oturn_until => (intro c u hh tk2 hi Ft Nt; (try clear F0 N0); obtain ⟨y, vs, vn⟩ := c; obtain ⟨sok, ws, hvs, hL, hws, hb⟩ := hi; (dsimp only at sok hvs hL hb Ft Nt); have hvl : vs.length ≤ 50000 := Cu.vlen ok rfl hb; have hy0 := sok.off0; have hy1 := sok.off1; have hy2 := sok.csize; have hy3 := sok.clen)))
        | ((with_reducible show wpAny _ _ (exec (Stmt.While (Expr.BoolOp _ _ _) _ _ _) _) _ _ _); (rename Fr _ _ _ _ => F0); (rename News _ _ _ _ => N0); (refine' ksw_meet (σ := Int × Tok) (fun _ => [(_, W.listOf vs.toArray vn), (st, instObj 166 sd), (sd, dictOf (sdict w.params k0 k1 k2 k3 k4 k5 k6 k7 k8 k9 rce nl ds y.chunk y.tc y.size y.ts y.off y.to er y.pl y.tl y.pc y.tp y.buf) 10), (ds, instObj 73 dd), (dd, dictOf (tdict w.params j0 j1 src tsr y.place y.tpl) 2), (rce, methodObj (.ref 148) (.ref st)), (er, W.listOf y.es.toArray y.n), (q, tupO vs0)]) (fun c => [("end", .int c.1 c.2)]) [] (fun c => RunTo al y c.1) (fun c => RunTo al y c.1 ∧ (c.1 = y.size ∨ ∃ d, y.chunk.cps[c.1.toNat]? = some d ∧ al d = true ∧ c.1 < y.size)) (fun c => (y.size - c.1).toNat) (y.off, y.to) F0 (fun p hp => N0 p (Mine.Take.sub ?itk_until p hp)) ?ikk_until (RunTo.start sok) ?ihq_until ?iturn_until); (case itk_until => ((try dsimp only); repeat' (first | exact Mine.Take.nil | exact Mine.Del.head | refine' Mine.Take.blk ?_ | exact Mine.Tl.nil | exact Mine.Tl.app | refine' Mine.Take.cons ?_ ?_ | refine' Mine.Del.tail ?_ | refine' Mine.Tl.cons ?_))); (case ikk_until => intro p hp; (simp only [List.mem_singleton] at hp); subst hp; rfl); (case' ihq_until => (intro c u2 hh2 tk3 hx Ft2 Nt2; (try clear F0 N0); obtain ⟨e, te⟩ := c; obtain ⟨hr, hx⟩ := hx; (dsimp only at hr hx Ft2 Nt2); have he0 := hr.lo; have he1 := hr.hi; rcases hx with he | ⟨d, hd, had, hlt⟩)); (case' iturn_until => (intro c u2 hh2 tk3 hr Ft2 Nt2; (try clear F0 N0); obtain ⟨e, te⟩ := c; (dsimp only at hr Ft2 Nt2); have he0 := hr.lo; have he1 := hr.hi))))
      k_with "call builtin:str.join" => k_dflt ((with_reducible show wpAny _ _ (call (Value.builtin "str.join") [Value.str _ _, Value.ref _]) _ _ _); (refine' Mine.join_flats (News.isList (by k_asm) (by news_mem)) hvs hvl (CuX.vlen ok hL) ?_); intro t9 k9)
      k_with "KswEnd" => k_dflt (first
        | ((with_reducible show KswEnd _ _ _ _ _ _ [] _ _ _ _ _); (rename Fr _ _ _ _ => F9); (rename News _ _ _ _ => N9); (refine' ksw_end (σ := Int × Tok) (e + 1, _) F9 N9 (Mine.Take.sub ?itk2_until) trivial ?ihk2_until ?ihr2_until (RunTo.step hy0 hr (by with_reducible assumption) ((hal0 _).symm.trans (al_f (by with_reducible assumption))) (by omega)) ?imu2_until); (case itk2_until => ((try dsimp only); repeat' (first | exact Mine.Take.nil | exact Mine.Del.head | refine' Mine.Take.blk ?_ | exact Mine.Tl.nil | exact Mine.Tl.app | refine' Mine.Take.cons ?_ ?_ | refine' Mine.Del.tail ?_ | refine' Mine.Tl.cons ?_))); (case ihk2_until => (intro p hp; (simp only [List.mem_singleton] at hp); subst hp; first | rfl | exact if_pos rfl)); (case ihr2_until => (intro z9 hz9 hz8; have hz7 := hz9 _ (List.mem_singleton.mpr rfl); simp [hz7, kstB])); (case imu2_until => (dsimp only; omega)))
        | ((with_reducible show KswEnd _ _ _ _ _ _ ["end"] _ _ _ _ _); (rename St => y2); (rename Fr _ _ _ _ => F9); (rename News _ _ _ _ => N9); (try simp only [List.push_toArray] at N9); (have hx9 := fun n9 t9 => cu_next (n := n9) (t1 := t9) sok (by with_reducible assumption : StrsAre vs ws) hL hws hb hr he (by with_reducible assumption : St.ok src y2) (by with_reducible assumption) (by with_reducible assumption) (by with_reducible assumption)); first | ((refine' ksw_end (σ := Cu) ⟨y2, vs ++ [.str _ _], _⟩ F9 N9 (Mine.Take.sub ?m1tka_until) trivial (fun _ h => nomatch h) ?m1hra_until (hx9 _ _).1 ((hx9 _ _).2 _)); (case m1tka_until => ((try dsimp only); repeat' (first | exact Mine.Take.nil | exact Mine.Del.head | refine' Mine.Take.blk ?_ | exact Mine.Tl.nil | exact Mine.Tl.app | refine' Mine.Take.cons ?_ ?_ | refine' Mine.Del.tail ?_ | refine' Mine.Tl.cons ?_))); (case m1hra_until => (intro z9 hz9 hz8; have hz7 : z9 ≠ Str.ofString "end" := (by intro e9; subst e9; simp at hz8); simp [hz7, kstB]))) | ((refine' ksw_end (σ := Cu) ⟨y2, vs ++ [.str _ _], _⟩ F9 N9 (Mine.Take.sub ?m1tkb_until) trivial (fun _ h => nomatch h) ?m1hrb_until (hx9 _ _).1 ((hx9 _ _).2 _)); (case m1tkb_until => ((try dsimp only); repeat' (first | exact Mine.Take.nil | exact Mine.Del.head | refine' Mine.Take.blk ?_ | exact Mine.Tl.nil | exact Mine.Tl.app | refine' Mine.Take.cons ?_ ?_ | refine' Mine.Del.tail ?_ | refine' Mine.Tl.cons ?_))); (case m1hrb_until => (intro z9 hz9 hz8; have hz7 : z9 ≠ Str.ofString "end" := (by intro e9; subst e9; simp at hz8); simp [hz7, kstB]))))
        | (refine Mine.hold ?_))
      k_with "MeetW" => k_dflt (first
        | ((with_reducible show MeetW _ _ _ _ _ [] _ _ _ _); exact meetW_end (σ := Int × Tok) (e, te) u2 Ft2 Nt2 (fun _ h => h) ⟨hr, .inl (by with_reducible assumption)⟩)
        | ((with_reducible show MeetW _ _ _ _ _ [] _ _ _ _); (have hx9 := run_stop hal0 y e (by with_reducible assumption) (by with_reducible assumption) he1 (by with_reducible assumption)); exact meetW_end (σ := Int × Tok) (e, te) u2 Ft2 Nt2 (fun _ h => h) ⟨hr, .inr hx9⟩)
        | ((with_reducible show MeetW _ _ _ _ _ ["end"] _ _ _ _); (rename St => y2); (rename Fr _ _ _ _ => F9); (rename News _ _ _ _ => N9); (try simp only [List.push_toArray] at N9); (have hx9 := fun n9 t9 => cux_end (n := n9) (t1 := t9) sok (by with_reducible assumption : StrsAre vs ws) hL hws hr he (by with_reducible assumption : St.ok src y2) (by with_reducible assumption) (by with_reducible assumption) hvl); first | ((refine' meetW_fin (σ := Cu) ⟨y2, vs ++ [.str _ _], _⟩ F9 N9 (Mine.Take.sub ?m4tka_until) (fun _ h => nomatch h) ?m4hra_until (hx9 _ _)); (case m4tka_until => ((try dsimp only); repeat' (first | exact Mine.Take.nil | exact Mine.Del.head | refine' Mine.Take.blk ?_ | exact Mine.Tl.nil | exact Mine.Tl.app | refine' Mine.Take.cons ?_ ?_ | refine' Mine.Del.tail ?_ | refine' Mine.Tl.cons ?_))); (case m4hra_until => (intro z9 hz9 hz8; have hz7 : z9 ≠ Str.ofString "end" := (by intro e9; subst e9; simp at hz8); simp [hz7, kstB]))) | ((refine' meetW_fin (σ := Cu) ⟨y2, vs ++ [.str _ _], _⟩ F9 N9 (Mine.Take.sub ?m4tkb_until) (fun _ h => nomatch h) ?m4hrb_until (hx9 _ _)); (case m4tkb_until => ((try dsimp only); repeat' (first | exact Mine.Take.nil | exact Mine.Del.head | refine' Mine.Take.blk ?_ | exact Mine.Tl.nil | exact Mine.Tl.app | refine' Mine.Take.cons ?_ ?_ | refine' Mine.Del.tail ?_ | refine' Mine.Tl.cons ?_))); (case m4hrb_until => (intro z9 hz9 hz8; have hz7 : z9 ≠ Str.ofString "end" := (by intro e9; subst e9; simp at hz8); simp [hz7, kstB]))))
        | ((with_reducible show MeetW _ _ _ _ _ ["end"] _ _ _ _); (rename Fr _ _ _ _ => F9); (rename News _ _ _ _ => N9); (have hx9 := cux_stop (n := vn) sok (by with_reducible assumption : StrsAre vs ws) hL hws (by rw [← show e = y.off from by with_reducible assumption]; exact hd) had hvl); (refine' meetW_fin (σ := Cu) ⟨y, vs, vn⟩ F9 N9 (Mine.Take.sub ?m5tk_until) (fun _ h => nomatch h) ?m5hr_until hx9); (case m5tk_until => ((try dsimp only); repeat' (first | exact Mine.Take.nil | exact Mine.Del.head | refine' Mine.Take.blk ?_ | exact Mine.Tl.nil | exact Mine.Tl.app | refine' Mine.Take.cons ?_ ?_ | refine' Mine.Del.tail ?_ | refine' Mine.Tl.cons ?_))); (case m5hr_until => (intro z9 hz9 hz8; have hz7 : z9 ≠ Str.ofString "end" := (by intro e9; subst e9; simp at hz8); simp [hz7, kstB])))
        | ((with_reducible show MeetW _ _ _ _ _ ["end"] _ _ _ _); (rename Fr _ _ _ _ => F9); (rename News _ _ _ _ => N9); (try simp only [List.push_toArray] at N9); (have hx9 := fun n' t9 => cux_run (n := n') (t1 := t9) (t2 := te) sok (by with_reducible assumption : StrsAre vs ws) hL hws hr hd had hvl); (refine' meetW_fin (σ := Cu) ⟨{ y with off := e, to := te }, vs ++ [.str _ _], _⟩ F9 N9 (Mine.Take.sub ?m6tk_until) (fun _ h => nomatch h) ?m6hr_until (hx9 _ _)); (case m6tk_until => ((try dsimp only); repeat' (first | exact Mine.Take.nil | exact Mine.Del.head | refine' Mine.Take.blk ?_ | exact Mine.Tl.nil | exact Mine.Tl.app | refine' Mine.Take.cons ?_ ?_ | refine' Mine.Del.tail ?_ | refine' Mine.Tl.cons ?_))); (case m6hr_until => (intro z9 hz9 hz8; have hz7 : z9 ≠ Str.ofString "end" := (by intro e9; subst e9; simp at hz8); simp [hz7, kstB])))
        | (refine Mine.hold ?_))
      k_steps
      all_goals (try dsimp only)
      all_goals (refine' cend (l := [(st, _), (sd, _), (ds, _), (dd, _), (rce, _), (er, _), (q, _)]) (by assumption) (by assumption) (Mine.Take.sub (by ((try dsimp only); repeat' (first | exact Mine.Take.nil | exact Mine.Del.head | refine' Mine.Take.blk ?_ | exact Mine.Tl.nil | exact Mine.Tl.app | refine' Mine.Take.cons ?_ ?_ | refine' Mine.Del.tail ?_ | refine' Mine.Tl.cons ?_)))) ?_)
      all_goals (exact ⟨y, flat ws, _, sok, rfl, hL, hws, hst, rfl⟩)
  have ctr_tinit {w : World} {loose : List Str} {mean : ExcName → Option Value} {mg mb : Str → Option Value} {za zd : Addr} {src : Str} {tsr : Tok} (hk : @LT.lt Nat _ zd za) (hs : src.length ≤ 10000) (hsu : ∀ c ∈ src.cps.toList, c < 55296) :
      CtrC PySem.Challenge.rw_te0076_03.row.prog w (main.heap_1_39 w.params) (Top main.view_1_40 loose mean mg mb) 480 800 (.ref 261) ⟨[.ref za, .str src tsr], []⟩ [(za, instObj 762 zd), (zd, W.dictOf [] 0)]
        (Mine.InitP 762 za zd (Mine.TinitP w src tsr)) := by
    as_aux_lemma =>
      clear ctr_is_invalid ctr_charErrors ctr_read ctr_readE ctr_position0 ctr_unget ctr_ungetN ctr_ungetS ctr_readN ctr_readC ctr_readA ctr_char ctr_until
      k_with_none
      k_with "subscriptTail" => (k_here; (with_reducible show wpAny _ _ (subscriptTail _ _ (Value.str _ _) (Value.int _ _)) _ _ _); (refine Mine.sub_chr (by omega) (by omega) (by assumption) ?_))
      k_with "getMethod ref" => (k_here; k_dflt (first | (refine' method_inst ?k1_tinit ?k2_tinit ?k3_tinit ?k4_tinit ?k5_tinit ?k6_tinit ?k7_tinit ?_; (case k1_tinit => k_asm); (case k2_tinit => k_asm); (case k3_tinit => k_inst); (case k4_tinit => k_is); (case k5_tinit => k_is); (case k6_tinit => k_is); (case k7_tinit => k_get); k_whole) | (refine' kmu_own ?k1_tinit ?k2_tinit ?k3_tinit ?k4_tinit ?k5_tinit ?_; (case k1_tinit => k_asm); (case k2_tinit => k_asm); (case k3_tinit => k_inst); (case k4_tinit => k_is); (case k5_tinit => k_is); k_whole)))
      k_with "getMethod ref" => (k_here; (with_reducible show wpAny _ _ (getMethod (Value.ref _) (PySem.Str.ofString "append") _) _ _ _); k_dflt (refine' kl_method ?N_tinit ?m_tinit slot_list_append type_list_append ?_; (case N_tinit => k_asm); (case m_tinit => k_mem); k_whole))
      k_with "subscriptTail Name UnaryOp str int" => (k_here; (with_reducible show wpAny _ _ (subscriptTail _ _ (Value.str _ _) (Value.int _ _)) _ _ _); (refine Mine.sub_last (by omega) (by omega) (by omega) ?_); intro c9 hc9; (try (k_dflt (have hs9 := Mine.last_lt (B := 55296) (by assumption) (by assumption) hc9))))
      k_with "call builtin:str.replace" => (k_here; (with_reducible show wpAny _ _ (call (Value.builtin "str.replace") [Value.str _ _, Value.str _ _, Value.str _ _]) _ _ _); (refine Mine.replaceM (by (try dsimp only); omega) (by (try dsimp only); omega) (by (try dsimp only); omega) (by decide +kernel) (by (refine Nat.le_trans (m := 10000) ?_ (by decide); repeat' (first | with_reducible assumption | with_reducible refine Mine.slice_len_le ?_ | (with_reducible refine Nat.le_trans (Mine.replace_len (by decide +kernel) (by decide +kernel)) ?_) | exact (by decide +kernel)))) (by decide +kernel) ?_); intro t9 kq9 hk9; (try dsimp only at hk9))
      k_with "execs cons" => (k_here; (with_reducible show wpAny _ _ _ _ _ (Shared.mk _ _ _ (_ + _) _)); (refine Mine.gentoks ?_); intro tkg9 htk9; (try dsimp only at htk9))
      k_with "call builtin:len" => (k_here; (with_reducible show wpAny _ _ (call (Value.builtin "len") [Value.str _ _]) _ _ _); (refine SBL.len (by first | omega | exact Mine.fit63 (by (refine Nat.le_trans (m := 10000) ?_ (by decide); repeat' (first | with_reducible assumption | with_reducible refine Mine.slice_len_le ?_ | (with_reducible refine Nat.le_trans (Mine.replace_len (by decide +kernel) (by decide +kernel)) ?_) | exact (by decide +kernel))))) ?_))
      k_with "truthy ref" => (k_here; k_dflt (refine' Mine.truthy_meth ?k1_tinit ?k2_tinit ?_; (case k1_tinit => k_asm); (case k2_tinit => k_mem); k_whole))
      k_with "truthy str" => (k_here; (with_reducible show wpAny _ _ (PySem.truthy (Value.str _ _)) _ _ _); (refine SBL.truthy (by omega) ?_))
      k_with "ite" => (k_here; k_openite; first
      | (refine ite_pos ?hq_tinit ?_; (case hq_tinit => first | (simp only [decide_eq_true_eq, beq_iff_eq, bne_iff_ne, ne_eq, Bool.not_eq_true', decide_eq_false_iff_not]; omega) | (simp; done)))
      | (refine ite_neg ?hq_tinit ?_; (case hq_tinit => first | (simp only [decide_eq_true_eq, beq_iff_eq, bne_iff_ne, ne_eq, Bool.not_eq_true', decide_eq_false_iff_not]; omega) | (simp; done))))
      k_with "call builtin:str.count" => (k_here; (with_reducible show wpAny _ _ (call (Value.builtin "str.count") [Value.str _ _, Value.str _ _, Value.int _ _, Value.int _ _]) _ _ _); (refine Mine.count4 ?_))
      k_with "call builtin:str.rfind" => (k_here; (with_reducible show wpAny _ _ (call (Value.builtin "str.rfind") [Value.str _ _, Value.str _ _, Value.int _ _, Value.int _ _]) _ _ _); (refine Mine.rfind4 ?_))
      k_with "exec Assign" => ((with_reducible show wpAny _ _ _ _ _ _); k_fold)
      k_with "exec Expr" => ((with_reducible show wpAny _ _ _ _ _ _); k_fold)
      k_with "exec If" => ((with_reducible show wpAny _ _ _ _ _ _); k_fold)
      k_with "exec AugAssign" => ((with_reducible show wpAny _ _ _ _ _ _); k_fold)
      k_with "exec Return" => ((with_reducible show wpAny _ _ _ _ _ _); k_fold)
      k_with "exec While" => ((with_reducible show wpAny _ _ _ _ _ _); k_fold)
      k_fill
      refine' ctr_intro (binds := [("self", .ref za), ("stream", .str src tsr), ("parser", .none)]) (fun h h' T k => T.keeps k) (fun h T => T.nolimit) ?ho_tinit ?hcd_tinit ?hD_tinit ?hb_tinit ?hl_tinit ?_ ?hc_tinit ?c1_tinit ?c2_tinit ?c3_tinit
      case ho_tinit => k_is
      case hcd_tinit => k_is
      case hD_tinit => decide
      case hb_tinit => (intro s X; first | exact BindsTo.of_eq rfl | exact binds_K X rfl (by k_is) rfl rfl rfl)
      case hl_tinit => exact locs rfl
      case hc_tinit => decide
      case c1_tinit => exact rfl
      case c2_tinit => exact rfl
      case c3_tinit => exact rfl
      intro A base g env outer L' h₁ s tk B' F' X' N' T' l1
      (try k_lt l1)
      (try dsimp only)
      first | have S0 := Mine.Srt.grow (Mine.Srt.six ho) hoq | have S0 := Mine.Srt.five ho hk | have S0 := Mine.Srt.six ho | have S0 := Mine.Srt.two ho | have S0 := Mine.Srt.two hk | skip
      (with_reducible show wpAny _ _ _ _ _ _)
      k_fold
      k_steps
      refine' cendF (fr := [(?q_st_tinit, instObj 166 ?q_sd_tinit), (?q_sd_tinit, dictOf (sdict w.params ?q_k0_tinit ?q_k1_tinit ?q_k2_tinit ?q_k3_tinit ?q_k4_tinit ?q_k5_tinit ?q_k6_tinit ?q_k7_tinit ?q_k8_tinit ?q_k9_tinit ?q_rce_tinit ?q_nl_tinit ?q_ds_tinit ?q_chunk_tinit ?q_tc_tinit ?q_size_tinit ?q_ts_tinit ?q_off_tinit ?q_to_tinit ?q_er_tinit ?q_pl_tinit ?q_tl_tinit ?q_pc_tinit ?q_tp_tinit ?q_buf_tinit) 10), (?q_ds_tinit, instObj 73 ?q_dd_tinit), (?q_dd_tinit, dictOf (tdict w.params ?q_j0_tinit ?q_j1_tinit src tsr ?q_place_tinit ?q_tpl_tinit) 2), (?q_rce_tinit, methodObj (.ref 148) (.ref ?q_st_tinit)), (?q_er_tinit, W.listOf [].toArray ?q_n_tinit)]) (l := [(za, instObj 762 zd), (zd, ?zo_tinit)]) ?F_tinit ?N_tinit (Mine.Take.sub ?tk_tinit) ?hf_tinit ?P_tinit
      case F_tinit => assumption
      case N_tinit => assumption
      case tk_tinit => ((try dsimp only); repeat' (first | exact Mine.Take.nil | exact Mine.Del.head | refine' Mine.Take.blk ?_ | exact Mine.Tl.nil | exact Mine.Tl.app | refine' Mine.Take.cons ?_ ?_ | refine' Mine.Del.tail ?_ | refine' Mine.Tl.cons ?_))
      case hf_tinit => (simp only [List.forall_mem_cons, List.not_mem_nil, false_implies, implies_true, and_true, true_and]; (repeat' (refine And.intro ?_ ?_)); all_goals k_ne)
      case P_tinit =>
        refine' ⟨rfl, _, rfl, _, _, _, _, _, _, _, _, _, _, _, _, _, _, _, _, _, _, _, ⟨_, _, _, _, _, _, _, _, _, _, _, [], _, _, [], _⟩, _, _, _, _, _, _, _, _, _, _, _, _, _, ?ord_tinit, ?ok_tinit, ?rem_tinit, ?dd_tinit, ?ll_tinit⟩
        case dd_tinit => exact rfl
        case ll_tinit => exact rfl
        case ord_tinit => (refine ⟨?_, ?_, ?_, ?_, ?_⟩ <;> first | exact (Mine.Srt.lt (by with_reducible assumption) (by with_reducible solve_by_elim (maxDepth := 40) only [Mine.Aft.here, Mine.Aft.there, List.Mem.head, List.Mem.tail])) | omega)
        case ok_tinit => exact Mine.ok_start hs hsu
        case rem_tinit => exact Mine.rem_start hs
  have call_char {w : World} {loose : List Str} {mean : ExcName → Option Value} {mg mb : Str → Option Value} {K : Ks} {x : St} {A A₀ : Around} {base h₀ : Heap} {env : Env} {outer : List Env} {L : Addr} {m : Str → Option Value} {s : Shared} {Q E : Value → Shared → Prop} {N rest : Led} (ho : K.ord) (ok : x.ok K.src) (B : Below A₀ base outer h₀) (F : Fr h₀ L s.heap m) (X : (main.heap_1_39 w.params).In h₀) (T : (Top main.view_1_40 loose mean mg mb) h₀) (hA : A.frames = some (env :: outer)) (hf : env.frame = some L) (hke : env.scope.kind = .function) (hh : A.handled = none) (hdd : A.depth ≤ 460) (hu : A.units ≤ 600) (Nw : News h₀ L s.heap N) (tk : Take (K.led w x) N rest) (hne : Outs K rest)
      (hQ : ∀ (x' : St) (v : Value) (h' : Heap) (tk' : Nat), x'.ok K.src → CvIs K.src x' v (x.rem K.src) → @LE.le Nat _ s.toks tk' → Fr h₀ L h' m → News h₀ L h' (rest ++ K.led w x') → Q v { s with heap := h', toks := tk' }) :
      wpAny (model PySem.Challenge.rw_te0076_03.row.prog w) A (PySem.call (.ref 133) [.ref K.st] []) Q E s := by
    as_aux_lemma =>
      clear ctr_is_invalid ctr_charErrors ctr_read ctr_readE ctr_position0 ctr_unget ctr_ungetN ctr_ungetS ctr_readN ctr_readC ctr_readA ctr_until ctr_tinit
      have C : CtrC PySem.Challenge.rw_te0076_03.row.prog w (main.heap_1_39 w.params) (Top main.view_1_40 loose mean mg mb) 460 600 (.ref 133) ⟨[.ref K.st], []⟩ (K.led w x) (noF fun v l => ∃ x' : St, x'.ok K.src ∧ CvIs K.src x' v (x.rem K.src) ∧ l = K.led w x') := by
        simp only [Ks.led_eq]
        exact ctr_char (x := x) ho ok
      refine CtrC.call C A A₀ base h₀ env outer L m s Q E rest B F X (tk.news Nw) T hA hf hke hh hdd hu (hne.ne ho) ?_
      intro v fr l' h' tk' hp ht _ F' N'
      obtain ⟨rfl, x', ok', hx', rfl⟩ := hp
      exact hQ x' v h' tk' ok' hx' ht F' (fun p hp => N' p (by (try rw [List.nil_append]); exact (List.mem_append.mp hp).elim (List.mem_append_right _) (List.mem_append_left _)))
  have call_unget {w : World} {loose : List Str} {mean : ExcName → Option Value} {mg mb : Str → Option Value} {K : Ks} {x : St} {c : Nat} {t0 : Tok} {A A₀ : Around} {base h₀ : Heap} {env : Env} {outer : List Env} {L : Addr} {m : Str → Option Value} {s : Shared} {Q E : Value → Shared → Prop} {N rest : Led} (ho : K.ord) (ok : x.ok K.src) (h1 : 1 ≤ x.off) (hc : x.chunk.cps[(x.off - 1).toNat]? = some c) (B : Below A₀ base outer h₀) (F : Fr h₀ L s.heap m) (X : (main.heap_1_39 w.params).In h₀) (T : (Top main.view_1_40 loose mean mg mb) h₀) (hA : A.frames = some (env :: outer)) (hf : env.frame = some L) (hke : env.scope.kind = .function) (hh : A.handled = none) (hdd : A.depth ≤ 460) (hu : A.units ≤ 600) (Nw : News h₀ L s.heap N) (tk : Take (K.led w x) N rest) (hne : Outs K rest)
      (hQ : ∀ (x' : St) (h' : Heap) (tk' : Nat), x'.ok K.src → x'.rem K.src = c :: x.rem K.src → @LE.le Nat _ s.toks tk' → Fr h₀ L h' m → News h₀ L h' (rest ++ K.led w x') → Q .none { s with heap := h', toks := tk' }) :
      wpAny (model PySem.Challenge.rw_te0076_03.row.prog w) A (PySem.call (.ref 163) [.ref K.st, .str ⟨#[c]⟩ t0] []) Q E s := by
    as_aux_lemma =>
      clear ctr_is_invalid ctr_charErrors ctr_read ctr_readE ctr_position0 ctr_unget ctr_ungetN ctr_readN ctr_readC ctr_readA ctr_char ctr_until ctr_tinit call_char
      have C : CtrC PySem.Challenge.rw_te0076_03.row.prog w (main.heap_1_39 w.params) (Top main.view_1_40 loose mean mg mb) 460 600 (.ref 163) ⟨[.ref K.st, .str ⟨#[c]⟩ t0], []⟩ (K.led w x) (noF fun v l => v = .none ∧ ∃ x' : St, x'.ok K.src ∧ x'.rem K.src = c :: x.rem K.src ∧ l = K.led w x') := by
        simp only [Ks.led_eq]
        exact ctr_ungetS (x := x) ho ok h1 hc
      refine CtrC.call C A A₀ base h₀ env outer L m s Q E rest B F X (tk.news Nw) T hA hf hke hh hdd hu (hne.ne ho) ?_
      intro v fr l' h' tk' hp ht _ F' N'
      obtain ⟨rfl, rfl, x', ok', hx', rfl⟩ := hp
      exact hQ x' h' tk' ok' hx' ht F' (fun p hp => N' p (by (try rw [List.nil_append]); exact (List.mem_append.mp hp).elim (List.mem_append_right _) (List.mem_append_left _)))
  have call_ungetN {w : World} {loose : List Str} {mean : ExcName → Option Value} {mg mb : Str → Option Value} {st : Addr} {A A₀ : Around} {base h₀ : Heap} {env : Env} {outer : List Env} {L : Addr} {m : Str → Option Value} {s : Shared} {Q E : Value → Shared → Prop} {N : Led} (B : Below A₀ base outer h₀) (F : Fr h₀ L s.heap m) (X : (main.heap_1_39 w.params).In h₀) (T : (Top main.view_1_40 loose mean mg mb) h₀) (hA : A.frames = some (env :: outer)) (hf : env.frame = some L) (hke : env.scope.kind = .function) (hh : A.handled = none) (hdd : A.depth ≤ 460) (hu : A.units ≤ 600) (Nw : News h₀ L s.heap N)
      (hQ : ∀ (h' : Heap) (tk' : Nat), @LE.le Nat _ s.toks tk' → Fr h₀ L h' m → News h₀ L h' N → Q .none { s with heap := h', toks := tk' }) :
      wpAny (model PySem.Challenge.rw_te0076_03.row.prog w) A (PySem.call (.ref 163) [.ref st, .none] []) Q E s := by
    as_aux_lemma =>
      clear ctr_is_invalid ctr_charErrors ctr_read ctr_readE ctr_position0 ctr_unget ctr_ungetS ctr_readN ctr_readC ctr_readA ctr_char ctr_until ctr_tinit call_char call_unget
      refine CtrC.call ctr_ungetN A A₀ base h₀ env outer L m s Q E N B F X Nw T hA hf hke hh hdd hu (fun _ _ => List.forall_mem_nil _) ?_
      intro v fr l' h' tk' hp ht _ F' N'
      obtain ⟨rfl, rfl, rfl⟩ := hp
      exact hQ h' tk' ht F' N'
  have call_until {w : World} {loose : List Str} {mean : ExcName → Option Value} {mg mb : Str → Option Value} {K : Ks} {x : St} {q : Addr} {vs0 : List Value} {ys0 : List Str} {al : Nat → Bool} {A A₀ : Around} {base h₀ : Heap} {env : Env} {outer : List Env} {L : Addr} {m : Str → Option Value} {s : Shared} {Q E : Value → Shared → Prop} {N rest : Led} (ho : K.ord) (hoq : @LT.lt Nat _ K.er q) (ok : x.ok K.src) (hvs0 : StrsAre vs0 ys0) (hal0 : ∀ c : Nat, ys0.any (· == ⟨#[c]⟩) = al c) (B : Below A₀ base outer h₀) (F : Fr h₀ L s.heap m) (X : (main.heap_1_39 w.params).In h₀) (T : (Top main.view_1_40 loose mean mg mb) h₀) (hA : A.frames = some (env :: outer)) (hf : env.frame = some L) (hke : env.scope.kind = .function) (hh : A.handled = none) (hdd : A.depth ≤ 460) (hu : A.units ≤ 600) (Nw : News h₀ L s.heap N)
      (tk : Take ((q, tupO vs0) :: K.led w x) N rest) (hne : Outs K rest) (hnq : ∀ p ∈ rest, @LT.lt Nat _ p.1 q)
      (hQ : ∀ (x' : St) (p : List Nat) (t : Tok) (h' : Heap) (tk' : Nat), x'.ok K.src → x.rem K.src = p ++ x'.rem K.src → (∀ c ∈ p, al c = false) → (∀ c t, x'.rem K.src = c :: t → al c = true) → @LE.le Nat _ s.toks tk' → Fr h₀ L h' m → News h₀ L h' (rest ++ K.led w x') → Q (.str ⟨p.toArray⟩ t) { s with heap := h', toks := tk' }) :
      wpAny (model PySem.Challenge.rw_te0076_03.row.prog w) A (PySem.call (.ref 156) [.ref K.st, .ref q] []) Q E s := by
    as_aux_lemma =>
      clear ctr_is_invalid ctr_charErrors ctr_read ctr_readE ctr_position0 ctr_unget ctr_ungetN ctr_ungetS ctr_readN ctr_readC ctr_readA ctr_char ctr_tinit call_char call_unget call_ungetN
      have C : CtrC PySem.Challenge.rw_te0076_03.row.prog w (main.heap_1_39 w.params) (Top main.view_1_40 loose mean mg mb) 460 600 (.ref 156) ⟨[.ref K.st, .ref q], []⟩ (K.led w x ++ [(q, tupO vs0)]) (noF fun v l => ∃ (x' : St) (p : List Nat) (t : Tok), x'.ok K.src ∧ v = .str ⟨p.toArray⟩ t ∧ x.rem K.src = p ++ x'.rem K.src ∧ (∀ c ∈ p, al c = false) ∧ (∀ c t, x'.rem K.src = c :: t → al c = true) ∧ l = K.led w x' ++ [(q, tupO vs0)]) := by
        simp only [Ks.led_eq, List.cons_append, List.nil_append]
        exact ctr_until (x := x) ho hoq ok hvs0 hal0
      refine CtrC.call C A A₀ base h₀ env outer L m s Q E rest B F X (fun p hp => tk.news Nw p ?_) T hA hf hke hh hdd hu ?_ ?_
      · simp only [List.mem_append, List.mem_cons, List.not_mem_nil, or_false] at hp ⊢
        rcases hp with (h | h) | h
        · exact .inl (.inr h)
        · exact .inl (.inl h)
        · exact .inr h
      · intro p hp z hz
        rcases List.mem_append.mp hz with hz | hz
        · exact hne.ne ho p hp z hz
        · cases List.mem_singleton.mp hz
          exact Nat.ne_of_lt (hnq p hp)
      intro v fr l' h' tk' hp ht _ F' N'
      obtain ⟨rfl, x', y, t, ok', rfl, hr, ha, hs, rfl⟩ := hp
      refine hQ x' y t h' tk' ok' hr ha hs ht F' (fun p hp => N' p ?_)
      simp only [List.nil_append, List.mem_append] at hp ⊢
      rcases hp with h | h
      · exact .inr h
      · exact .inl (.inl h)
  have call_tok {w : World} {loose : List Str} {mean : ExcName → Option Value} {mg mb : Str → Option Value} {src : Str} {tsr : Tok} {A A₀ : Around} {base h₀ : Heap} {env : Env} {outer : List Env} {L : Addr} {m : Str → Option Value} {s : Shared} {Q E : Value → Shared → Prop} {N : Led} (hs : src.length ≤ 10000) (hsu : ∀ c ∈ src.cps.toList, c < 55296) (B : Below A₀ base outer h₀) (F : Fr h₀ L s.heap m) (X : (main.heap_1_39 w.params).In h₀) (T : (Top main.view_1_40 loose mean mg mb) h₀) (hA : A.frames = some (env :: outer)) (hf : env.frame = some L) (hke : env.scope.kind = .function) (hh : A.handled = none) (hdd : A.depth ≤ 479) (hu : A.units ≤ 791) (Nw : News h₀ L s.heap N)
      (hQ : ∀ (K : Ks) (Z : Kz) (x : St) (h' : Heap) (tk' : Nat), K.ord → @LT.lt Nat _ Z.zd Z.za ∧ @LT.lt Nat _ Z.za K.sd → (∀ p ∈ N, @LT.lt Nat _ p.1 Z.zd) → x.ok K.src → x.rem K.src = mendL src.cps.toList → @LE.le Nat _ s.toks tk' → Fr h₀ L h' m →
        News h₀ L h' ((Z.za, instObj 762 Z.zd) :: (Z.zd, Z.kd7 w K.st) :: (N ++ K.led w x)) → Q (.ref Z.za) { s with heap := h', toks := tk' }) :
      wpAny (model PySem.Challenge.rw_te0076_03.row.prog w) A (PySem.call (.ref 762) [.str src tsr] []) Q E s := by
    as_aux_lemma =>
      clear ctr_is_invalid ctr_charErrors ctr_read ctr_readE ctr_position0 ctr_unget ctr_ungetN ctr_ungetS ctr_readN ctr_readC ctr_readA ctr_char ctr_until call_char call_unget call_ungetN call_until
      have C : Ctr PySem.Challenge.rw_te0076_03.row.prog w (main.heap_1_39 w.params) (Top main.view_1_40 loose mean mg mb) 479 791 (PySem.call (.ref 762) [.str src tsr] []) [] (ClsP 762 (TinitP w src tsr)) := by
        k_fill
        exact CtrC.cls (fI := 261) (by k_is) (by k_is) (by k_is) (fun x9 d9 l9 => ctr_tinit l9 hs hsu)
      refine C A A₀ base h₀ env outer L m s Q E N B F X Nw T hA hf hke hh hdd hu (fun _ _ => List.forall_mem_nil _) ?_
      intro v fr l' h' tk' hp ht hfr F' N'
      obtain ⟨rfl, za, zd, d, fq, hzd, hfz, rfl, rfl, st, sd, k0, k1, k2, k3, k4, k5, k6, k7, k8, k9, rce, nl, ds, er, dd, j0, j1, x, m0, m1, m2, m3, m4, m5, m6, v1, v2, v3, v4, v5, v6, ho, ok, hrem, rfl, rfl⟩ := hp
      refine hQ ⟨st, sd, k0, k1, k2, k3, k4, k5, k6, k7, k8, k9, rce, nl, ds, er, dd, j0, j1, src, tsr⟩ ⟨za, zd, m0, m1, m2, m3, m4, m5, m6, v1, v2, v3, v4, v5, v6⟩ x h' tk' ho ⟨hzd, hfz (sd, _) (.tail _ (.head _))⟩ (fun p hp => hfr (zd, _) (List.mem_append_right _ (.tail _ (.head _))) p (by simpa using hp)) ok hrem ht F' (fun p hp => N' p ?_)
      simp only [Ks.led_eq, List.mem_append, List.mem_cons, List.not_mem_nil, or_false] at hp ⊢
      rcases hp with h | h | h | h
      · exact .inl (.inr (.inl h))
      · exact .inl (.inr (.inr h))
      · exact .inr h
      · exact .inl (.inl h)
  have ctr_cne {w : World} {loose : List Str} {mean : ExcName → Option Value} {mg mb : Str → Option Value} {K : Ks} {Z : Kz} {m7 : Tok} {tq : Addr} {qs : List Value} {qn : Nat} {x : St} {hex : Bool} {ds0 r0 : List Nat} (ho : K.ord) (hk : @LT.lt Nat _ Z.zd Z.za ∧ @LT.lt Nat _ Z.za K.sd ∧ @LT.lt Nat _ K.er tq) (ok : x.ok K.src) (hL0 : x.rem K.src = ds0 ++ r0) (h0 : ∀ d ∈ ds0, alD hex d = true) (hr0 : ∀ c t, r0 = c :: t → alD hex c = false) (hne0 : ds0 ≠ []) (hn0 : ds0.length ≤ 640) {z : Int} (hz : ((numV (baseOf hex) ds0 : Nat) : Int) = z) (hz0 : 0 ≤ z) (hq : qs.length ≤ 100000) :
      CtrC PySem.Challenge.rw_te0076_03.row.prog w (main.heap_1_39 w.params) (Top main.view_1_40 loose mean mg mb) 450 500 (.ref 275) ⟨[.ref Z.za, .bool hex], []⟩ ((Z.za, instObj 762 Z.zd) :: (Z.zd, Z.kd w K.st m7 tq) :: (tq, W.listOf qs.toArray qn) :: K.led w x)
        (noF (Mine.CneP PySem.Challenge.rw_te0076_03.row.prog w K Z m7 tq qs z r0)) := by
    as_aux_lemma =>
      clear ctr_is_invalid ctr_charErrors ctr_read ctr_readE ctr_position0 ctr_unget ctr_ungetN ctr_ungetS ctr_readN ctr_readC ctr_readA ctr_char ctr_until ctr_tinit call_until call_tok
      have mkB9 : Mine.MarkB := .mk
      k_with_none
      k_with "subscriptTail" => (k_here; (with_reducible show wpAny _ _ (subscriptTail _ _ (Value.str _ _) (Value.int _ _)) _ _ _); (refine Mine.sub_chr (by omega) (by omega) (by assumption) ?_))
      k_with "getMethod ref" => (k_here; k_dflt (first | (refine' method_inst ?k1_cne ?k2_cne ?k3_cne ?k4_cne ?k5_cne ?k6_cne ?k7_cne ?_; (case k1_cne => k_asm); (case k2_cne => k_asm); (case k3_cne => k_inst); (case k4_cne => k_is); (case k5_cne => k_is); (case k6_cne => k_is); (case k7_cne => k_get); k_whole) | (refine' kmu_own ?k1_cne ?k2_cne ?k3_cne ?k4_cne ?k5_cne ?_; (case k1_cne => k_asm); (case k2_cne => k_asm); (case k3_cne => k_inst); (case k4_cne => k_is); (case k5_cne => k_is); k_whole)))
      k_with "getMethod ref" => (k_here; (with_reducible show wpAny _ _ (getMethod (Value.ref _) (PySem.Str.ofString "append") _) _ _ _); k_dflt (refine' kl_method ?N_cne ?m_cne slot_list_append type_list_append ?_; (case N_cne => k_asm); (case m_cne => k_mem); k_whole))
      k_with "subscriptTail Name UnaryOp str int" => (k_here; (with_reducible show wpAny _ _ (subscriptTail _ _ (Value.str _ _) (Value.int _ _)) _ _ _); (refine Mine.sub_last (by omega) (by omega) (by omega) ?_); intro c9 hc9; (try (k_dflt (have hs9 := Mine.last_lt (B := 55296) (by assumption) (by assumption) hc9))))
      k_with "call builtin:str.replace" => (k_here; (with_reducible show wpAny _ _ (call (Value.builtin "str.replace") [Value.str _ _, Value.str _ _, Value.str _ _]) _ _ _); (refine Mine.replaceM (by (try dsimp only); omega) (by (try dsimp only); omega) (by (try dsimp only); omega) (by decide +kernel) (by (refine Nat.le_trans (m := 10000) ?_ (by decide); repeat' (first | with_reducible assumption | with_reducible refine Mine.slice_len_le ?_ | (with_reducible refine Nat.le_trans (Mine.replace_len (by decide +kernel) (by decide +kernel)) ?_) | exact (by decide +kernel)))) (by decide +kernel) ?_); intro t9 kq9 hk9; (try dsimp only at hk9))
      k_with "execs cons" => (k_here; (with_reducible show wpAny _ _ _ _ _ (Shared.mk _ _ _ (_ + _) _)); (refine Mine.gentoks ?_); intro tkg9 htk9; (try dsimp only at htk9))
      k_with "call builtin:len" => (k_here; (with_reducible show wpAny _ _ (call (Value.builtin "len") [Value.str _ _]) _ _ _); (refine SBL.len (by first | omega | exact Mine.fit63 (by (refine Nat.le_trans (m := 10000) ?_ (by decide); repeat' (first | with_reducible assumption | with_reducible refine Mine.slice_len_le ?_ | (with_reducible refine Nat.le_trans (Mine.replace_len (by decide +kernel) (by decide +kernel)) ?_) | exact (by decide +kernel))))) ?_))
      k_with "truthy ref" => (k_here; k_dflt (refine' Mine.truthy_meth ?k1_cne ?k2_cne ?_; (case k1_cne => k_asm); (case k2_cne => k_mem); k_whole))
      k_with "truthy str" => (k_here; (with_reducible show wpAny _ _ (PySem.truthy (Value.str _ _)) _ _ _); (refine SBL.truthy (by omega) ?_))
      k_with "ite" => (k_here; k_openite; first
      | (refine ite_pos ?hq_cne ?_; (case hq_cne => first | (simp only [decide_eq_true_eq, beq_iff_eq, bne_iff_ne, ne_eq, Bool.not_eq_true', decide_eq_false_iff_not]; omega) | (simp; done)))
      | (refine ite_neg ?hq_cne ?_; (case hq_cne => first | (simp only [decide_eq_true_eq, beq_iff_eq, bne_iff_ne, ne_eq, Bool.not_eq_true', decide_eq_false_iff_not]; omega) | (simp; done))))
      k_with "call builtin:str.count" => (k_here; (with_reducible show wpAny _ _ (call (Value.builtin "str.count") [Value.str _ _, Value.str _ _, Value.int _ _, Value.int _ _]) _ _ _); (refine Mine.count4 ?_))
      k_with "call builtin:str.rfind" => (k_here; (with_reducible show wpAny _ _ (call (Value.builtin "str.rfind") [Value.str _ _, Value.str _ _, Value.int _ _, Value.int _ _]) _ _ _); (refine Mine.rfind4 ?_))
      k_with "exec Assign" => ((with_reducible show wpAny _ _ _ _ _ _); k_fold)
      k_with "exec Expr" => ((with_reducible show wpAny _ _ _ _ _ _); k_fold)
      k_with "exec If" => ((with_reducible show wpAny _ _ _ _ _ _); k_fold)
      k_with "exec AugAssign" => ((with_reducible show wpAny _ _ _ _ _ _); k_fold)
      k_with "exec Return" => ((with_reducible show wpAny _ _ _ _ _ _); k_fold)
      k_with "exec While" => ((with_reducible show wpAny _ _ _ _ _ _); k_fold)
      k_with "call ref" => refine Mine.hold ?_
      k_with "getMethod ref" => (k_here; (with_reducible show wpAny _ _ (getMethod (Value.ref (Mine.Ks.st _)) _ _) _ _ _); k_dflt (refine' Mine.meth_blk ?F_cne ?X_cne ?N_cne ?tk_cne ?hg_cne ?hf_cne ?ht_cne ?hl_cne ?_; (case F_cne => k_asm); (case X_cne => k_asm); (case N_cne => k_asm); (case tk_cne => ((try dsimp only); repeat' (first | exact Mine.Take.nil | exact Mine.Del.head | refine' Mine.Take.blk ?_ | exact Mine.Tl.nil | exact Mine.Tl.app | refine' Mine.Take.cons ?_ ?_ | refine' Mine.Del.tail ?_ | refine' Mine.Tl.cons ?_))); (case hg_cne => k_is); (case hf_cne => k_is); (case ht_cne => k_is); (case hl_cne => exact rfl); k_whole))
      k_with "call ref" => (k_here; (with_reducible show wpAny _ _ (call (Value.ref 133) _ _) _ _ _); k_dflt (refine' call_char ?p1_cne ?p2_cne ?cB_cne ?cF_cne ?cX_cne ?cT_cne ?ca_cne ?cb_cne ?cc_cne ?ce_cne ?cd_cne ?cu_cne ?cN_cne ?tk_cne ?ne_cne ?_; (case p1_cne => with_reducible assumption); (case p2_cne => with_reducible assumption); (case cB_cne => k_asm); (case cF_cne => k_asm); (case cX_cne => k_asm); (case cT_cne => k_asm); (case ca_cne => exact rfl); (case cb_cne => exact rfl); (case cc_cne => exact rfl); (case ce_cne => exact rfl); (case cd_cne => exact Nat.le_of_ble_eq_true rfl); (case cu_cne => exact Nat.le_of_ble_eq_true rfl); (case cN_cne => k_asm); (case tk_cne => ((try dsimp only); repeat' (first | exact Mine.Take.nil | exact Mine.Del.head | refine' Mine.Take.blk ?_ | exact Mine.Tl.nil | exact Mine.Tl.app | refine' Mine.Take.cons ?_ ?_ | refine' Mine.Del.tail ?_ | refine' Mine.Tl.cons ?_))); (case ne_cne => repeat' (first | exact Mine.Outs.nil | refine' Mine.Outs.hi (by with_reducible assumption) ?_ | refine' Mine.Outs.lo (by with_reducible assumption) ?_ | refine' Mine.Outs.hi (Mine.Srt.lt (by with_reducible assumption) (by with_reducible solve_by_elim (maxDepth := 40) only [Mine.Aft.here, Mine.Aft.there, List.Mem.head, List.Mem.tail])) ?_)); k_whole; intro x' v' h' tk' ok' hx' htk' F' N'; (try dsimp only at htk'); (try dsimp only [List.cons_append, List.nil_append] at N'); (try k_sweep); (try dsimp only); (try k_fold)))
      k_with "call ref" => (k_here; (with_reducible show wpAny _ _ (call (Value.ref 163) [Value.ref _, Value.none] _) _ _ _); k_dflt (refine' call_ungetN  ?cB_cne ?cF_cne ?cX_cne ?cT_cne ?ca_cne ?cb_cne ?cc_cne ?ce_cne ?cd_cne ?cu_cne ?cN_cne  ?_; (case cB_cne => k_asm); (case cF_cne => k_asm); (case cX_cne => k_asm); (case cT_cne => k_asm); (case ca_cne => exact rfl); (case cb_cne => exact rfl); (case cc_cne => exact rfl); (case ce_cne => exact rfl); (case cd_cne => exact Nat.le_of_ble_eq_true rfl); (case cu_cne => exact Nat.le_of_ble_eq_true rfl); (case cN_cne => k_asm); k_whole; intro h' tk' htk' F' N'; (try dsimp only at htk'); (try dsimp only [List.cons_append, List.nil_append] at N'); (try k_sweep); (try dsimp only); (try k_fold)))
      k_with "call ref" => (k_here; (with_reducible show wpAny _ _ (call (Value.ref 163) [Value.ref _, Value.str ⟨#[_]⟩ _] _) _ _ _); k_dflt (refine' call_unget ?p1_cne ?p2_cne ?p3_cne ?p4_cne ?cB_cne ?cF_cne ?cX_cne ?cT_cne ?ca_cne ?cb_cne ?cc_cne ?ce_cne ?cd_cne ?cu_cne ?cN_cne ?tk_cne ?ne_cne ?_; (case p1_cne => with_reducible assumption); (case p2_cne => with_reducible assumption); (case p3_cne => with_reducible assumption); (case p4_cne => with_reducible assumption); (case cB_cne => k_asm); (case cF_cne => k_asm); (case cX_cne => k_asm); (case cT_cne => k_asm); (case ca_cne => exact rfl); (case cb_cne => exact rfl); (case cc_cne => exact rfl); (case ce_cne => exact rfl); (case cd_cne => exact Nat.le_of_ble_eq_true rfl); (case cu_cne => exact Nat.le_of_ble_eq_true rfl); (case cN_cne => k_asm); (case tk_cne => ((try dsimp only); repeat' (first | exact Mine.Take.nil | exact Mine.Del.head | refine' Mine.Take.blk ?_ | exact Mine.Tl.nil | exact Mine.Tl.app | refine' Mine.Take.cons ?_ ?_ | refine' Mine.Del.tail ?_ | refine' Mine.Tl.cons ?_))); (case ne_cne => repeat' (first | exact Mine.Outs.nil | refine' Mine.Outs.hi (by with_reducible assumption) ?_ | refine' Mine.Outs.lo (by with_reducible assumption) ?_ | refine' Mine.Outs.hi (Mine.Srt.lt (by with_reducible assumption) (by with_reducible solve_by_elim (maxDepth := 40) only [Mine.Aft.here, Mine.Aft.there, List.Mem.head, List.Mem.tail])) ?_)); k_whole; intro x' h' tk' ok' hx' htk' F' N'; (try dsimp only at htk'); (try dsimp only [List.cons_append, List.nil_append] at N'); (try k_sweep); (try dsimp only); (try k_fold)))
      k_with "compareOp In" => (k_here; first
      | ((with_reducible show wpAny _ _ (compareOp CmpOp.In (Value.str ⟨#[_]⟩ _) (Value.ref (ite _ _ _))) _ _ _); k_dflt (refine' Mine.in_tupG ?F_cne ?X_cne ?hk1_cne ?hi1_cne ?he1_cne ?hk2_cne ?hi2_cne ?he2_cne ?_; (case F_cne => k_asm); (case X_cne => k_asm); (case hk1_cne => k_is); (case hk2_cne => k_is); (case hi1_cne => repeat' constructor); (case hi2_cne => repeat' constructor); (case he1_cne => exact Mine.hex_any); (case he2_cne => exact Mine.dec_any); k_whole))
      | ((with_reducible show wpAny _ _ (compareOp CmpOp.In Value.none (Value.ref (ite _ _ _))) _ _ _); k_dflt (refine' Mine.in_tupG_none ?F_cne ?X_cne ?hk1_cne ?hi1_cne ?hk2_cne ?hi2_cne ?_; (case F_cne => k_asm); (case X_cne => k_asm); (case hk1_cne => k_is); (case hk2_cne => k_is); (case hi1_cne => repeat' constructor); (case hi2_cne => repeat' constructor); k_whole)))
      k_with "subscriptTail" => (k_here; first
      | ((with_reducible show wpAny _ _ (subscriptTail _ _ (Value.ref 48) (Value.str _ _)) _ _ _); k_dflt (first | (refine' Mine.item_tok 7 ?F_cne ?X_cne ?he_cne ?hh_cne ?hl_cne ?_; (case hl_cne => kernel_rfl)) | (refine' Mine.item_tok 1 ?F_cne ?X_cne ?he_cne ?hh_cne ?hl_cne ?_; (case hl_cne => kernel_rfl)) | (refine' Mine.item_tok 2 ?F_cne ?X_cne ?he_cne ?hh_cne ?hl_cne ?_; (case hl_cne => kernel_rfl)) | (refine' Mine.item_tok 3 ?F_cne ?X_cne ?he_cne ?hh_cne ?hl_cne ?_; (case hl_cne => kernel_rfl))); (case F_cne => k_asm); (case X_cne => k_asm); (case he_cne => kernel_rfl); (case hh_cne => kernel_rfl); k_whole; intro t9)
      | ((with_reducible show wpAny _ _ (subscriptTail _ _ (Value.ref 46) (Value.int _ _)) _ _ _); k_dflt (refine' Mine.item_repl ?F_cne ?X_cne ?hk_cne ?hz_cne ?_; (case F_cne => k_asm); (case X_cne => k_asm); (case hk_cne => kernel_rfl); (case hz_cne => with_reducible assumption); k_whole); intro t9))
      k_with "eval Tuple" => (k_here; (with_reducible show wpAny _ _ (eval (Expr.Tuple _ _ _) _) _ _ _); k_dflt (refine' Mine.tuple_ints (ns := Mine.nonchL) ?F_cne ?N_cne ?hl_cne ?hz_cne ?_; (case F_cne => k_asm); (case N_cne => k_asm); (case hl_cne => exact rfl); (case hz_cne => decide +kernel); k_whole); intro h9 a9 kq9 items9 F9 N9 htup9 hint9; (try dsimp only); (try k_fold))
      k_with "compareOp In int ref" => (k_here; (with_reducible show wpAny _ _ (compareOp CmpOp.In (Value.int _ _) (Value.ref _)) _ _ _); first
      | ((with_reducible show wpAny _ _ (compareOp CmpOp.In (Value.int _ _) (Value.ref 46)) _ _ _); k_dflt (refine' Mine.in_repl ?F_cne ?X_cne ?hk_cne ?_; (case F_cne => k_asm); (case X_cne => k_asm); (case hk_cne => kernel_rfl); k_whole); intro b9 hb9; subst hb9)
      | k_dflt (refine' Mine.in_nums ?ht_cne ?hi_cne ?_; (case ht_cne => with_reducible assumption); (case hi_cne => with_reducible assumption); k_whole))
      k_with "eval Dict" => (k_here; (with_reducible show wpAny _ _ (eval (Expr.Dict (_ :: _) _ _) _) _ _ _); k_dflt (refine' kdn_str ?q_cne ?F_cne ?N_cne ?b_cne ?a_cne ?l_cne ?e_cne ?n_cne ?_; (case q_cne => rfl); (case F_cne => k_asm); (case N_cne => first | k_asm | exact News.nil); (case b_cne => exact Top.nolimit (by k_asm)); (case a_cne => rfl); (case l_cne => rfl); (case e_cne => exact List.cons_ne_nil _ _); (case n_cne => exact Nat.le_of_ble_eq_true rfl)); intro d' h' o' F' N' l1 lo' hd'; (try k_lt l1))
      k_with "callWith" => (k_here; (with_reducible show wpAny _ _ (callWith _ (Value.builtin _) (_ :: _) (backTo _ (starEach [Expr.Dict _ _ _] _)) []) _ _ _); k_dflt (refine callWith_method1 ?_; k_whole))
      k_with "spliced" => (k_here; (with_reducible show wpAny _ _ (spliced (backTo _ (starEach [Expr.Dict _ _ _] _))) _ _ _); k_dflt (refine args_cons ?_; k_whole))
      k_fill
      refine' ctr_intro (binds := [("self", .ref Z.za), ("isHex", .bool hex)]) (fun h h' T k => T.keeps k) (fun h T => T.nolimit) ?ho_cne ?hcd_cne ?hD_cne ?hb_cne ?hl_cne ?_ ?hc_cne ?c1_cne ?c2_cne ?c3_cne
      case ho_cne => k_is
      case hcd_cne => k_is
      case hD_cne => decide
      case hb_cne => (intro s X; first | exact BindsTo.of_eq rfl | exact binds_K X rfl (by k_is) rfl rfl rfl)
      case hl_cne => exact locs rfl
      case hc_cne => decide
      case c1_cne => exact rfl
      case c2_cne => exact rfl
      case c3_cne => exact rfl
      intro A base g env outer L' h₁ s tk B' F' X' N' T' l1
      (try k_lt l1)
      (try dsimp only)
      first | have S0 := Mine.Srt.grow (Mine.Srt.six ho) hoq | have S0 := Mine.Srt.five ho hk | have S0 := Mine.Srt.six ho | have S0 := Mine.Srt.two ho | have S0 := Mine.Srt.two hk | skip
      (with_reducible show wpAny _ _ _ _ _ _)
      k_fold
      have hk1 := hk.2.2
      have hk2 := hk.2.1
      have hk3 := Nat.lt_trans hk.1 hk.2.1
      have htq9 := Mine.one_lt_tq5 ho hk
      k_with "exec If" => k_dflt ((fail_if_success (with_reducible show wpAny _ _ _ (Mine.MeetX _ _ _ _ _ _) _ _)); first
        | ((with_reducible show wpAny _ _ (exec (Stmt.If (Expr.Name _ _) _ _ _) _) _ _ _); (rename Fr _ _ _ _ => F0); (rename News _ _ _ _ => N0); (refine' Mine.wp_meetX (α := Tok) (fun c y => if y = Str.ofString "radix" then some (.int (if hex = true then 16 else 10) c) else if y = Str.ofString "allowed" then some (.ref (if hex = true then 37 else 32)) else List.lookup y ([(Str.ofString "self", Value.ref Z.za), (Str.ofString "isHex", Value.bool hex)].reverse)) (fun _ => (Z.za, instObj 762 Z.zd) :: (Z.zd, Z.kd w K.st m7 tq) :: (tq, W.listOf qs.toArray qn) :: K.led w x) (fun _ => True) F0 ?mxq_cne ?mxw_cne); (case' mxq_cne => (intro c9 h9 tk9 hp9 F9 N9; (clear F0 N0); (try dsimp only at F9); (try dsimp only at N9); (try dsimp only); (try k_fold))); (case' mxw_cne => cases hex))
        | ((with_reducible show wpAny _ _ (exec (Stmt.If (Expr.Compare _ [CmpOp.In] _ _) _ _ _) _) _ _ _); (rename Fr _ _ _ _ => F0); (rename News _ _ _ _ => N0); (refine' Mine.wp_meetC (v := fun c => .str ⟨#[sgZ z]⟩ c.t) (fun c => (c.a, c.oa) :: (c.b, c.ob) :: (Z.za, instObj 762 Z.zd) :: (Z.zd, Z.kd w K.st m7 tq) :: (tq, W.listOf (qs ++ c.fs z).toArray c.n) :: K.led w y) (Md.ok PySem.Challenge.rw_te0076_03.row.prog w z tq) F0 ?mcq_cne ?mcw_cne); (case' mcq_cne => (intro c9 h9 tk9 hp9 F9 N9; (clear F0 N0); obtain ⟨tc9, ca9, cb9, oa9, ob9, nq9⟩ := c9; (try dsimp only at F9); (try dsimp only at N9); have la9 := hp9.la; have lb9 := hp9.lb; have la8 := Nat.lt_trans hk.2.2 hp9.la; have lb8 := Nat.lt_trans hk.2.2 hp9.lb; (rename Mine.Srt _ => S8); have S9 := Mine.Srt.five ho hk; clear S8; have hlen9 := Mine.Md.len z ⟨tc9, ca9, cb9, oa9, ob9, nq9⟩ hq; (try dsimp only at la9); (try dsimp only at lb9); (try dsimp only at la8); (try dsimp only at lb8); (try dsimp only); (try k_fold)))))
      k_with "MeetX" => k_dflt ((rename Fr _ _ _ _ => F9); (rename News _ _ _ _ => N9); (try simp only [List.push_toArray] at N9); first
        | exact Mine.meetX_end _ F9 N9 (Mine.radix_eq rfl) (fun _ h => h) trivial
        | exact Mine.meetX_end _ F9 N9 (Mine.radix_eqH rfl) (fun _ h => h) trivial
        | ((first | have hz9 := Mine.rep_of (by with_reducible assumption) | have hz9 := Mine.surr_of (by with_reducible assumption) (by with_reducible assumption) | have hz9 := Mine.flt_of (by with_reducible assumption) (by with_reducible assumption) (by with_reducible assumption)); (refine' Mine.meetC_f (fun q9 n9 => (Z.za, instObj 762 Z.zd) :: (Z.zd, Z.kd w K.st m7 tq) :: (tq, W.listOf q9.toArray n9) :: K.led w y) F9 N9 ?hm_cne ?hf_cne ?hn_cne ?la_cne ?lb_cne ⟨⟨_, _, ?f1_cne⟩, ⟨_, ?f2_cne⟩⟩); (case f1_cne => assumption); (case f2_cne => assumption); (case hf_cne => exact hz9.2); (case hn_cne => exact Mine.Take.sub (by ((try dsimp only); repeat' (first | exact Mine.Take.nil | exact Mine.Del.head | refine' Mine.Take.blk ?_ | exact Mine.Tl.nil | exact Mine.Tl.app | refine' Mine.Take.cons ?_ ?_ | refine' Mine.Del.tail ?_ | refine' Mine.Tl.cons ?_)))); (case la_cne => exact (Mine.Srt.lt (by with_reducible assumption) (by with_reducible solve_by_elim (maxDepth := 40) only [Mine.Aft.here, Mine.Aft.there, List.Mem.head, List.Mem.tail]))); (case lb_cne => exact (Mine.Srt.lt (by with_reducible assumption) (by with_reducible solve_by_elim (maxDepth := 40) only [Mine.Aft.here, Mine.Aft.there, List.Mem.head, List.Mem.tail]))); (case hm_cne => first | (rw [hz9.1]; done) | (rw [hz9.1, Mine.ufffd]; done) | (rw [hz9.1]; rfl)))
        | ((have hz9 := Mine.nof_of (by with_reducible assumption) (by with_reducible assumption) (by with_reducible assumption)); (refine' Mine.meetC_n (oa := W.listOf vs.toArray vn) (fun q9 n9 => (Z.za, instObj 762 Z.zd) :: (Z.zd, Z.kd w K.st m7 tq) :: (tq, W.listOf q9.toArray n9) :: K.led w y) F9 N9 ?hm_cne ?hf_cne ?hn_cne ?la_cne); (case hf_cne => exact hz9.2); (case hn_cne => exact Mine.Take.sub (by ((try dsimp only); repeat' (first | exact Mine.Take.nil | exact Mine.Del.head | refine' Mine.Take.blk ?_ | exact Mine.Tl.nil | exact Mine.Tl.app | refine' Mine.Take.cons ?_ ?_ | refine' Mine.Del.tail ?_ | refine' Mine.Tl.cons ?_)))); (case la_cne => exact (Mine.Srt.lt (by with_reducible assumption) (by with_reducible solve_by_elim (maxDepth := 40) only [Mine.Aft.here, Mine.Aft.there, List.Mem.head, List.Mem.tail]))); (case hm_cne => first | (rw [hz9.1]; done) | (rw [hz9.1]; rfl)))
        | (refine Mine.hold ?_))
      k_with "exec While" => ((rename Fr _ _ _ _ => F0); (rename News _ _ _ _ => N0); (rename St => y); (rename Value => v0); (refine' ksw_meet (σ := Cn) (fun c => (_, W.listOf c.vs.toArray c.n) :: (Z.za, instObj 762 Z.zd) :: (Z.zd, Z.kd w K.st m7 tq) :: (tq, W.listOf qs.toArray qn) :: K.led w c.x) (fun c => [("c", c.cv)]) [] (fun c => c.ok K.src (alD hex) (ds0 ++ r0)) (CnX K.src ds0 r0) (fun c => c.mu K.src) ⟨y, [], 0, v0⟩ F0 (fun p hp => N0 p (Mine.Take.sub ?tk_cne p hp)) ?kk_cne ?kp_cne ?hq_cne ?turn_cne); (case tk_cne => ((try dsimp only); repeat' (first | exact Mine.Take.nil | exact Mine.Del.head | refine' Mine.Take.blk ?_ | exact Mine.Tl.nil | exact Mine.Tl.app | refine' Mine.Take.cons ?_ ?_ | refine' Mine.Del.tail ?_ | refine' Mine.Tl.cons ?_))); (case kk_cne => intro p hp; (simp only [List.mem_singleton] at hp); subst hp; rfl); (case kp_cne => exact Cn.start (by with_reducible assumption) hL0 (by with_reducible assumption)); (case' hq_cne => (intro c u hh tk2 hi Ft Nt; (try clear F0 N0); obtain ⟨y, vs, vn, cv⟩ := c; obtain ⟨sok, hvs, hcv⟩ := hi; (dsimp only at sok hvs hcv Ft Nt))); (case' turn_cne => (intro c u hh tk2 hi Ft Nt; (try clear F0 N0); obtain ⟨y, vs, vn, cv⟩ := c; obtain ⟨sok, us, rr, hvs, hus, hLr, hcv⟩ := hi; (dsimp only at sok hvs hcv Ft Nt); have hvl : vs.length ≤ 100000 := Cn.vlen ok hL0 hLr hvs; rcases hcv with ⟨e1, e2, e3⟩ | ⟨c1, t1, e1, e2, e3, e4⟩ <;> subst e1)))
      k_with "call builtin:str.join" => ((with_reducible show wpAny _ _ (call (Value.builtin "str.join") [Value.str _ _, Value.ref _]) _ _ _); (refine' Mine.join_chs (g := Mine.chS) (fun _ => rfl) (News.isList (by k_asm) (by news_mem)) hvs (by omega) ?_); intro t9 k9)
      k_with "call type:int" => ((with_reducible show wpAny _ _ (call (Value.type "int") [Value.str _ _, Value.int _ _]) _ _ _); (refine Mine.call_int_Z (hex := hex) ⟨h0, hne0, hn0⟩ (Mine.base_if hex) hz ?_))
      k_with "compareOp NotEq" => ((with_reducible show wpAny _ _ (compareOp CmpOp.NotEq _ (Value.str _ _)) _ _ _); (rcases hcv with ⟨e1, e2, e3⟩ | ⟨c1, t1, e1, e2, e3, e4⟩ <;> subst e1))
      k_with "call builtin:chr" => k_dflt ((with_reducible show wpAny _ _ (call (Value.builtin "chr") [Value.int _ _]) _ _ _); (refine chr_of_range hz0 (Mine.surr_le (by with_reducible assumption)) ?_))
      k_with "KswEnd" => ((rename St => y2); (rename Value => v2); (rename CvIs _ _ _ _ => hcv2); (rename Fr _ _ _ _ => F9); (rename News _ _ _ _ => N9); (try simp only [List.push_toArray] at N9); (have hq9 := fun n' => cn_more (n := vn) (n' := n') (t1 := t1) (by with_reducible assumption : St.ok K.src y2) hvs hus (by with_reducible assumption) hLr e2 hcv2); (refine' ksw_end ⟨y2, vs ++ [.str ⟨#[c1]⟩ t1], _, v2⟩ F9 N9 (Mine.Take.sub ?tk2_cne) trivial ?hk2_cne ?hr2_cne (hq9 _).1 (hq9 _).2); (case tk2_cne => ((try dsimp only); repeat' (first | exact Mine.Take.nil | exact Mine.Del.head | refine' Mine.Take.blk ?_ | exact Mine.Tl.nil | exact Mine.Tl.app | refine' Mine.Take.cons ?_ ?_ | refine' Mine.Del.tail ?_ | refine' Mine.Tl.cons ?_))); (case hk2_cne => (intro p hp; (simp only [List.mem_singleton] at hp); subst hp; first | rfl | exact if_pos rfl)); (case hr2_cne => (intro z9 hz9 hz8; have hz7 := hz9 _ (List.mem_singleton.mpr rfl); simp [hz7, kstB])))
      k_with "MeetW" => k_dflt (first
        | (exact meetW_end ⟨y, vs, vn, .none⟩ u Ft Nt (fun _ h => h) (cnx_of h0 hr0 sok hvs hus hLr (.inl ⟨rfl, e2, e3⟩) (fun c t h => by rw [e2] at h; cases h)))
        | (exact meetW_end ⟨y, vs, vn, .str ⟨#[c1]⟩ t1⟩ u Ft Nt (fun _ h => h) (cnx_of h0 hr0 sok hvs hus hLr (.inr ⟨c1, t1, rfl, e2, e3, e4⟩) (fun c t h => by rw [e2] at h; injection h with h; rw [← h]; with_reducible assumption)))
        | (refine Mine.hold ?_))
      k_with "MeetH" => (first
        | exact Mine.meetH_end (by assumption) (by assumption) (by first | exact Mine.surr_t (by omega) | exact Mine.surr_f (by omega) | exact (Mine.flt_a (by omega)).symm | exact Mine.flt_n (by with_reducible assumption) | exact Mine.flt_0 (by omega) (by with_reducible assumption) | exact Mine.flt_b (by omega))
        | (refine Mine.hold ?_))
      k_with "isTrue BoolOp" => ((fail_if_success (with_reducible show wpAny _ _ _ (Mine.MeetH _ _ _ _ _ _) _ _)); first
        | ((with_reducible show wpAny _ _ (isTrue (Expr.BoolOp BoolOp.Or [_, Expr.Compare _ [CmpOp.Gt] _ _] _) _ _) _ _ _); (rename Fr _ _ _ _ => F0); (rename News _ _ _ _ => N0); (refine' Mine.wp_meetH (Mine.surr z) F0 N0 ?_ ?_); (intro h9 k9 F9 N9); clear F0 N0; (try dsimp only); (try k_fold))
        | ((with_reducible show wpAny _ _ (isTrue (Expr.BoolOp BoolOp.Or [_, _, _, _, _] _) _ _) _ _ _); (rename Fr _ _ _ _ => F0); (rename News _ _ _ _ => N0); (refine' Mine.wp_meetH (Mine.fltZ z) F0 N0 ?_ ?_); (intro h9 k9 F9 N9); clear F0 N0; (try dsimp only); (try k_fold)))
      k_steps
      all_goals (try dsimp only)
      all_goals (rename Fr _ _ _ _ => F9; rename News _ _ _ _ => N9; (try simp only [List.push_toArray, List.append_assoc, List.cons_append, List.nil_append] at N9))
      all_goals (first | have hs9 := Mine.sem_n e2 | have hs9 := Mine.sem_c e2 (by with_reducible assumption) | have hs9 := Mine.sem_s e2 (by with_reducible assumption))
      all_goals first
        | ((have q2 : semiB r0 = false := hs9.2); refine' Mine.cne_end (c := tq) (adds := Md.fs z ⟨tc9, ca9, cb9, oa9, ob9, nq9⟩) F9 N9 rfl ?ztk_cne ?zma_cne ?zmb_cne ?zmc_cne (by with_reducible assumption) ?zrem_cne (Nat.le_of_lt la9) (Nat.le_of_lt lb9) (Nat.le_refl _) (Mine.adds_md0 hp9 htq9 q2); (case ztk_cne => ((try dsimp only); repeat' (first | exact Mine.Take.nil | exact Mine.Del.head | refine' Mine.Take.blk ?_ | exact Mine.Tl.nil | exact Mine.Tl.app | refine' Mine.Take.cons ?_ ?_ | refine' Mine.Del.tail ?_ | refine' Mine.Tl.cons ?_))); (case zma_cne => k_mem); (case zmb_cne => k_mem); (case zmc_cne => k_mem); (case zrem_cne => first | exact Eq.trans (by with_reducible assumption) hs9.1.symm | exact hs9.1.symm))
        | ((have q2 : semiB r0 = true := hs9.2); refine' Mine.cne_end (adds := Md.fs z ⟨tc9, ca9, cb9, oa9, ob9, nq9⟩ ++ [Value.ref _]) F9 N9 rfl ?ztk_cne ?zma_cne ?zmb_cne ?zmc_cne (by with_reducible assumption) ?zrem_cne (Nat.le_of_lt la9) (Nat.le_of_lt lb9) ?zlc_cne (Mine.adds_md hp9 htq9 (if_pos q2).symm (fun _ => ?zld_cne) (fun _ => ⟨_, _, ?zpl_cne⟩)); (case ztk_cne => ((try dsimp only); repeat' (first | exact Mine.Take.nil | exact Mine.Del.head | refine' Mine.Take.blk ?_ | exact Mine.Tl.nil | exact Mine.Tl.app | refine' Mine.Take.cons ?_ ?_ | refine' Mine.Del.tail ?_ | refine' Mine.Tl.cons ?_))); (case zpl_cne => assumption); (case zma_cne => k_mem); (case zmb_cne => k_mem); (case zmc_cne => k_mem); (case zld_cne => exact (Mine.Srt.lt (by with_reducible assumption) (by with_reducible solve_by_elim (maxDepth := 40) only [Mine.Aft.here, Mine.Aft.there, List.Mem.head, List.Mem.tail]))); (case zlc_cne => exact Nat.le_of_lt (Mine.Srt.lt (by with_reducible assumption) (by with_reducible solve_by_elim (maxDepth := 40) only [Mine.Aft.here, Mine.Aft.there, List.Mem.head, List.Mem.tail]))); (case zrem_cne => first | exact Eq.trans (by with_reducible assumption) hs9.1.symm | exact hs9.1.symm))
        | fail
  have call_cne {w : World} {loose : List Str} {mean : ExcName → Option Value} {mg mb : Str → Option Value} {K : Ks} {Z : Kz} {m7 : Tok} {tq : Addr} {qs : List Value} {qn : Nat} {x : St} {hex : Bool} {ds0 r0 : List Nat} {z : Int} {A A₀ : Around} {base h₀ : Heap} {env : Env} {outer : List Env} {L : Addr} {m : Str → Option Value} {s : Shared} {Q E : Value → Shared → Prop} {N rest : Led} (ho : K.ord) (hk : @LT.lt Nat _ Z.zd Z.za ∧ @LT.lt Nat _ Z.za K.sd ∧ @LT.lt Nat _ K.er tq) (ok : x.ok K.src) (hL0 : x.rem K.src = ds0 ++ r0) (h0 : ∀ d ∈ ds0, alD hex d = true) (hr0 : ∀ c t, r0 = c :: t → alD hex c = false) (hne0 : ds0 ≠ []) (hn0 : ds0.length ≤ 640) (hz : ((numV (baseOf hex) ds0 : Nat) : Int) = z) (hz0 : 0 ≤ z) (hq : qs.length ≤ 100000)
      (B : Below A₀ base outer h₀) (F : Fr h₀ L s.heap m) (X : (main.heap_1_39 w.params).In h₀) (T : (Top main.view_1_40 loose mean mg mb) h₀) (hA : A.frames = some (env :: outer)) (hf : env.frame = some L) (hke : env.scope.kind = .function) (hh : A.handled = none) (hdd : A.depth ≤ 450) (hu : A.units ≤ 500) (Nw : News h₀ L s.heap N) (tk : Take ((Z.za, instObj 762 Z.zd) :: (Z.zd, Z.kd w K.st m7 tq) :: (tq, W.listOf qs.toArray qn) :: K.led w x) N rest) (hne : ∀ p ∈ rest, @LT.lt Nat _ p.1 Z.zd ∨ @LT.lt Nat _ tq p.1)
      (hQ : ∀ (x' : St) (a b c : Addr) (oa ob oc : Obj) (adds : List Value) (n : Nat) (t : Tok) (h' : Heap) (tk' : Nat), x'.ok K.src → x'.rem K.src = afterNum r0 → (@LE.le Nat _ tq a ∧ @LE.le Nat _ tq b ∧ @LE.le Nat _ tq c) → (@LT.lt Nat _ K.er tq ∧ @LT.lt Nat _ K.er a ∧ @LT.lt Nat _ K.er b ∧ @LT.lt Nat _ K.er c) → Adds PySem.Challenge.rw_te0076_03.row.prog w z (semiB r0) a b c oa ob oc adds → @LE.le Nat _ s.toks tk' → Fr h₀ L h' m →
        News h₀ L h' ((Z.za, instObj 762 Z.zd) :: (Z.zd, Z.kd w K.st m7 tq) :: (tq, W.listOf (qs ++ adds).toArray n) :: (a, oa) :: (b, ob) :: (c, oc) :: (rest ++ K.led w x')) → Q (.str ⟨#[sgZ z]⟩ t) { s with heap := h', toks := tk' }) :
      wpAny (model PySem.Challenge.rw_te0076_03.row.prog w) A (PySem.call (.ref 275) [.ref Z.za, .bool hex] []) Q E s := by
    as_aux_lemma =>
      clear ctr_is_invalid ctr_charErrors ctr_read ctr_readE ctr_position0 ctr_unget ctr_ungetN ctr_ungetS ctr_readN ctr_readC ctr_readA ctr_char ctr_until ctr_tinit call_char call_unget call_ungetN call_until call_tok
      refine CtrC.call (ctr_cne ho hk ok hL0 h0 hr0 hne0 hn0 hz hz0 hq) A A₀ base h₀ env outer L m s Q E rest B F X (tk.news Nw) T hA hf hke hh hdd hu ?_ ?_
      · intro p hp q hq'
        have e := hk.1
        have e1 := hk.2.1
        have e2 := hk.2.2
        have e3 := K.lo_hi ho
        rcases List.mem_cons.mp hq' with rfl | hq'
        · rcases hne p hp with h | h
          · exact Nat.ne_of_lt (Nat.lt_trans h e)
          · exact Nat.ne_of_gt (Nat.lt_trans e1 (Nat.lt_trans e3 (Nat.lt_trans e2 h)))
        rcases List.mem_cons.mp hq' with rfl | hq'
        · rcases hne p hp with h | h
          · exact Nat.ne_of_lt h
          · exact Nat.ne_of_gt (Nat.lt_trans e (Nat.lt_trans e1 (Nat.lt_trans e3 (Nat.lt_trans e2 h))))
        rcases List.mem_cons.mp hq' with rfl | hq'
        · rcases hne p hp with h | h
          · exact Nat.ne_of_lt (Nat.lt_trans h (Nat.lt_trans e (Nat.lt_trans e1 (Nat.lt_trans e3 e2))))
          · exact Nat.ne_of_gt h
        refine Outs.ne (K := K) (es := rest) (fun p hp => ?_) ho p hp q hq'
        rcases hne p hp with h | h
        · exact .inl (Nat.lt_trans h (Nat.lt_trans e e1))
        · exact .inr (Nat.lt_trans e2 h)
      intro v fr l' h' tk' hp ht _ F' N'
      obtain ⟨rfl, x', a, b, c, oa, ob, oc, adds, n, t, ok', rfl, hrem, hle, had, rfl⟩ := hp
      refine hQ x' a b c oa ob oc adds n t h' tk' ok' hrem hle ⟨hk.2.2, Nat.lt_of_lt_of_le hk.2.2 hle.1, Nat.lt_of_lt_of_le hk.2.2 hle.2.1, Nat.lt_of_lt_of_le hk.2.2 hle.2.2⟩ had ht F' (fun p hp => N' p ?_)
      simp only [List.mem_append, List.mem_cons, List.nil_append] at hp ⊢
      rcases hp with h | h | h | h | h | h | h | h
      · exact .inl (.inl h)
      · exact .inl (.inr (.inl h))
      · exact .inl (.inr (.inr (.inl h)))
      · exact .inl (.inr (.inr (.inr (.inl h))))
      · exact .inl (.inr (.inr (.inr (.inr (.inl h)))))
      · exact .inl (.inr (.inr (.inr (.inr (.inr (.inl h))))))
      · exact .inr h
      · exact .inl (.inr (.inr (.inr (.inr (.inr (.inr h))))))
  have ctr_lfault {w : World} {loose : List Str} {mean : ExcName → Option Value} {mg mb : Str → Option Value} {n : Str} {tn : Tok} :
      CtrC PySem.Challenge.rw_te0076_03.row.prog w (main.heap_1_39 w.params) (Top main.view_1_40 loose mean mg mb) 460 600 (.ref 773) ⟨[.str n tn], []⟩ [] (fun v fr l => l = [] ∧ ∃ d o, v = .ref d ∧ fr = [(d, o)] ∧ (d == sysModules) = false ∧ PlainO PySem.Challenge.rw_te0076_03.row.prog w n o) := by
    as_aux_lemma =>
      clear ctr_is_invalid ctr_charErrors ctr_read ctr_readE ctr_position0 ctr_unget ctr_ungetN ctr_ungetS ctr_readN ctr_readC ctr_readA ctr_char ctr_until ctr_tinit call_char call_unget call_ungetN call_until call_tok ctr_cne call_cne
      k_with_none
      k_with "subscriptTail" => (k_here; (with_reducible show wpAny _ _ (subscriptTail _ _ (Value.str _ _) (Value.int _ _)) _ _ _); (refine Mine.sub_chr (by omega) (by omega) (by assumption) ?_))
      k_with "getMethod ref" => (k_here; k_dflt (first | (refine' method_inst ?k1_lfault ?k2_lfault ?k3_lfault ?k4_lfault ?k5_lfault ?k6_lfault ?k7_lfault ?_; (case k1_lfault => k_asm); (case k2_lfault => k_asm); (case k3_lfault => k_inst); (case k4_lfault => k_is); (case k5_lfault => k_is); (case k6_lfault => k_is); (case k7_lfault => k_get); k_whole) | (refine' kmu_own ?k1_lfault ?k2_lfault ?k3_lfault ?k4_lfault ?k5_lfault ?_; (case k1_lfault => k_asm); (case k2_lfault => k_asm); (case k3_lfault => k_inst); (case k4_lfault => k_is); (case k5_lfault => k_is); k_whole)))
      k_with "getMethod ref" => (k_here; (with_reducible show wpAny _ _ (getMethod (Value.ref _) (PySem.Str.ofString "append") _) _ _ _); k_dflt (refine' kl_method ?N_lfault ?m_lfault slot_list_append type_list_append ?_; (case N_lfault => k_asm); (case m_lfault => k_mem); k_whole))
      k_with "subscriptTail Name UnaryOp str int" => (k_here; (with_reducible show wpAny _ _ (subscriptTail _ _ (Value.str _ _) (Value.int _ _)) _ _ _); (refine Mine.sub_last (by omega) (by omega) (by omega) ?_); intro c9 hc9; (try (k_dflt (have hs9 := Mine.last_lt (B := 55296) (by assumption) (by assumption) hc9))))
      k_with "call builtin:str.replace" => (k_here; (with_reducible show wpAny _ _ (call (Value.builtin "str.replace") [Value.str _ _, Value.str _ _, Value.str _ _]) _ _ _); (refine Mine.replaceM (by (try dsimp only); omega) (by (try dsimp only); omega) (by (try dsimp only); omega) (by decide +kernel) (by (refine Nat.le_trans (m := 10000) ?_ (by decide); repeat' (first | with_reducible assumption | with_reducible refine Mine.slice_len_le ?_ | (with_reducible refine Nat.le_trans (Mine.replace_len (by decide +kernel) (by decide +kernel)) ?_) | exact (by decide +kernel)))) (by decide +kernel) ?_); intro t9 kq9 hk9; (try dsimp only at hk9))
      k_with "execs cons" => (k_here; (with_reducible show wpAny _ _ _ _ _ (Shared.mk _ _ _ (_ + _) _)); (refine Mine.gentoks ?_); intro tkg9 htk9; (try dsimp only at htk9))
      k_with "call builtin:len" => (k_here; (with_reducible show wpAny _ _ (call (Value.builtin "len") [Value.str _ _]) _ _ _); (refine SBL.len (by first | omega | exact Mine.fit63 (by (refine Nat.le_trans (m := 10000) ?_ (by decide); repeat' (first | with_reducible assumption | with_reducible refine Mine.slice_len_le ?_ | (with_reducible refine Nat.le_trans (Mine.replace_len (by decide +kernel) (by decide +kernel)) ?_) | exact (by decide +kernel))))) ?_))
      k_with "truthy ref" => (k_here; k_dflt (refine' Mine.truthy_meth ?k1_lfault ?k2_lfault ?_; (case k1_lfault => k_asm); (case k2_lfault => k_mem); k_whole))
      k_with "truthy str" => (k_here; (with_reducible show wpAny _ _ (PySem.truthy (Value.str _ _)) _ _ _); (refine SBL.truthy (by omega) ?_))
      k_with "ite" => (k_here; k_openite; first
      | (refine ite_pos ?hq_lfault ?_; (case hq_lfault => first | (simp only [decide_eq_true_eq, beq_iff_eq, bne_iff_ne, ne_eq, Bool.not_eq_true', decide_eq_false_iff_not]; omega) | (simp; done)))
      | (refine ite_neg ?hq_lfault ?_; (case hq_lfault => first | (simp only [decide_eq_true_eq, beq_iff_eq, bne_iff_ne, ne_eq, Bool.not_eq_true', decide_eq_false_iff_not]; omega) | (simp; done))))
      k_with "call builtin:str.count" => (k_here; (with_reducible show wpAny _ _ (call (Value.builtin "str.count") [Value.str _ _, Value.str _ _, Value.int _ _, Value.int _ _]) _ _ _); (refine Mine.count4 ?_))
      k_with "call builtin:str.rfind" => (k_here; (with_reducible show wpAny _ _ (call (Value.builtin "str.rfind") [Value.str _ _, Value.str _ _, Value.int _ _, Value.int _ _]) _ _ _); (refine Mine.rfind4 ?_))
      k_with "exec Assign" => ((with_reducible show wpAny _ _ _ _ _ _); k_fold)
      k_with "exec Expr" => ((with_reducible show wpAny _ _ _ _ _ _); k_fold)
      k_with "exec If" => ((with_reducible show wpAny _ _ _ _ _ _); k_fold)
      k_with "exec AugAssign" => ((with_reducible show wpAny _ _ _ _ _ _); k_fold)
      k_with "exec Return" => ((with_reducible show wpAny _ _ _ _ _ _); k_fold)
      k_with "exec While" => ((with_reducible show wpAny _ _ _ _ _ _); k_fold)
      k_with "call ref" => refine Mine.hold ?_
      k_with "subscriptTail" => (k_here; first
      | ((with_reducible show wpAny _ _ (subscriptTail _ _ (Value.ref 48) (Value.str _ _)) _ _ _); k_dflt (first | (refine' Mine.item_tok 7 ?F_lfault ?X_lfault ?he_lfault ?hh_lfault ?hl_lfault ?_; (case hl_lfault => kernel_rfl)) | (refine' Mine.item_tok 1 ?F_lfault ?X_lfault ?he_lfault ?hh_lfault ?hl_lfault ?_; (case hl_lfault => kernel_rfl)) | (refine' Mine.item_tok 2 ?F_lfault ?X_lfault ?he_lfault ?hh_lfault ?hl_lfault ?_; (case hl_lfault => kernel_rfl)) | (refine' Mine.item_tok 3 ?F_lfault ?X_lfault ?he_lfault ?hh_lfault ?hl_lfault ?_; (case hl_lfault => kernel_rfl))); (case F_lfault => k_asm); (case X_lfault => k_asm); (case he_lfault => kernel_rfl); (case hh_lfault => kernel_rfl); k_whole; intro t9)
      | ((with_reducible show wpAny _ _ (subscriptTail _ _ (Value.ref 46) (Value.int _ _)) _ _ _); k_dflt (refine' Mine.item_repl ?F_lfault ?X_lfault ?hk_lfault ?hz_lfault ?_; (case F_lfault => k_asm); (case X_lfault => k_asm); (case hk_lfault => kernel_rfl); (case hz_lfault => with_reducible assumption); k_whole); intro t9))
      k_with "eval Dict" => (k_here; (with_reducible show wpAny _ _ (eval (Expr.Dict (_ :: _) _ _) _) _ _ _); k_dflt (refine' kdn_str ?q_lfault ?F_lfault ?N_lfault ?b_lfault ?a_lfault ?l_lfault ?e_lfault ?n_lfault ?_; (case q_lfault => rfl); (case F_lfault => k_asm); (case N_lfault => first | k_asm | exact News.nil); (case b_lfault => exact Top.nolimit (by k_asm)); (case a_lfault => rfl); (case l_lfault => rfl); (case e_lfault => exact List.cons_ne_nil _ _); (case n_lfault => exact Nat.le_of_ble_eq_true rfl)); intro d' h' o' F' N' l1 lo' hd'; (try k_lt l1))
      k_fill
      refine' ctr_intro (binds := [("name", .str n tn)]) (fun h h' T k => T.keeps k) (fun h T => T.nolimit) ?ho_lfault ?hcd_lfault ?hD_lfault ?hb_lfault ?hl_lfault ?_ ?hc_lfault ?c1_lfault ?c2_lfault ?c3_lfault
      case ho_lfault => k_is
      case hcd_lfault => k_is
      case hD_lfault => decide
      case hb_lfault => (intro s X; first | exact BindsTo.of_eq rfl | exact binds_K X rfl (by k_is) rfl rfl rfl)
      case hl_lfault => exact locs rfl
      case hc_lfault => decide
      case c1_lfault => exact rfl
      case c2_lfault => exact rfl
      case c3_lfault => exact rfl
      intro A base g env outer L' h₁ s tk B' F' X' N' T' l1
      (try k_lt l1)
      (try dsimp only)
      first | have S0 := Mine.Srt.grow (Mine.Srt.six ho) hoq | have S0 := Mine.Srt.five ho hk | have S0 := Mine.Srt.six ho | have S0 := Mine.Srt.two ho | have S0 := Mine.Srt.two hk | skip
      (with_reducible show wpAny _ _ _ _ _ _)
      k_fold
      k_steps
      all_goals (try dsimp only)
      refine' cendF (fr := [(_, _)]) (l := []) (by assumption) (by assumption) (Mine.Take.sub ?tk_lfault) (fun _ _ _ h => nomatch h) ⟨rfl, _, _, rfl, rfl, by assumption, _, _, by assumption⟩
      case tk_lfault => ((try dsimp only); repeat' (first | exact Mine.Take.nil | exact Mine.Del.head | refine' Mine.Take.blk ?_ | exact Mine.Tl.nil | exact Mine.Tl.app | refine' Mine.Take.cons ?_ ?_ | refine' Mine.Del.tail ?_ | refine' Mine.Tl.cons ?_))
  have ctr_lsign {w : World} {loose : List Str} {mean : ExcName → Option Value} {mg mb : Str → Option Value} {z : Int} {tz : Tok} (hz0 : 0 ≤ z) (hz1 : z ≤ 1000000000000000000000000) :
      CtrC PySem.Challenge.rw_te0076_03.row.prog w (main.heap_1_39 w.params) (Top main.view_1_40 loose mean mg mb) 450 500 (.ref 780) ⟨[.int z tz], []⟩ [] (fun v fr l => l = [] ∧ ∃ (q lf a b : Addr) (oa ob : Obj) (faults : List Value) (n : Nat) (t : Tok), v = .ref q ∧ fr = [(q, tupO [.str ⟨#[sgZ z]⟩ t, .ref lf]), (lf, W.listOf faults.toArray n), (a, oa), (b, ob)] ∧ faults = (if ftZ z = true then [.ref a] else []) ∧ FaultO PySem.Challenge.rw_te0076_03.row.prog w z b oa ob ∧ (a == sysModules) = false ∧ (b == sysModules) = false) := by
    as_aux_lemma =>
      clear ctr_is_invalid ctr_charErrors ctr_read ctr_readE ctr_position0 ctr_unget ctr_ungetN ctr_ungetS ctr_readN ctr_readC ctr_readA ctr_char ctr_until ctr_tinit call_char call_unget call_ungetN call_until call_tok ctr_cne call_cne
      k_with_none
      k_with "subscriptTail" => (k_here; (with_reducible show wpAny _ _ (subscriptTail _ _ (Value.str _ _) (Value.int _ _)) _ _ _); (refine Mine.sub_chr (by omega) (by omega) (by assumption) ?_))
      k_with "getMethod ref" => (k_here; k_dflt (first | (refine' method_inst ?k1_lsign ?k2_lsign ?k3_lsign ?k4_lsign ?k5_lsign ?k6_lsign ?k7_lsign ?_; (case k1_lsign => k_asm); (case k2_lsign => k_asm); (case k3_lsign => k_inst); (case k4_lsign => k_is); (case k5_lsign => k_is); (case k6_lsign => k_is); (case k7_lsign => k_get); k_whole) | (refine' kmu_own ?k1_lsign ?k2_lsign ?k3_lsign ?k4_lsign ?k5_lsign ?_; (case k1_lsign => k_asm); (case k2_lsign => k_asm); (case k3_lsign => k_inst); (case k4_lsign => k_is); (case k5_lsign => k_is); k_whole)))
      k_with "getMethod ref" => (k_here; (with_reducible show wpAny _ _ (getMethod (Value.ref _) (PySem.Str.ofString "append") _) _ _ _); k_dflt (refine' kl_method ?N_lsign ?m_lsign slot_list_append type_list_append ?_; (case N_lsign => k_asm); (case m_lsign => k_mem); k_whole))
      k_with "subscriptTail Name UnaryOp str int" => (k_here; (with_reducible show wpAny _ _ (subscriptTail _ _ (Value.str _ _) (Value.int _ _)) _ _ _); (refine Mine.sub_last (by omega) (by omega) (by omega) ?_); intro c9 hc9; (try (k_dflt (have hs9 := Mine.last_lt (B := 55296) (by assumption) (by assumption) hc9))))
      k_with "call builtin:str.replace" => (k_here; (with_reducible show wpAny _ _ (call (Value.builtin "str.replace") [Value.str _ _, Value.str _ _, Value.str _ _]) _ _ _); (refine Mine.replaceM (by (try dsimp only); omega) (by (try dsimp only); omega) (by (try dsimp only); omega) (by decide +kernel) (by (refine Nat.le_trans (m := 10000) ?_ (by decide); repeat' (first | with_reducible assumption | with_reducible refine Mine.slice_len_le ?_ | (with_reducible refine Nat.le_trans (Mine.replace_len (by decide +kernel) (by decide +kernel)) ?_) | exact (by decide +kernel)))) (by decide +kernel) ?_); intro t9 kq9 hk9; (try dsimp only at hk9))
      k_with "execs cons" => (k_here; (with_reducible show wpAny _ _ _ _ _ (Shared.mk _ _ _ (_ + _) _)); (refine Mine.gentoks ?_); intro tkg9 htk9; (try dsimp only at htk9))
      k_with "call builtin:len" => (k_here; (with_reducible show wpAny _ _ (call (Value.builtin "len") [Value.str _ _]) _ _ _); (refine SBL.len (by first | omega | exact Mine.fit63 (by (refine Nat.le_trans (m := 10000) ?_ (by decide); repeat' (first | with_reducible assumption | with_reducible refine Mine.slice_len_le ?_ | (with_reducible refine Nat.le_trans (Mine.replace_len (by decide +kernel) (by decide +kernel)) ?_) | exact (by decide +kernel))))) ?_))
      k_with "truthy ref" => (k_here; k_dflt (refine' Mine.truthy_meth ?k1_lsign ?k2_lsign ?_; (case k1_lsign => k_asm); (case k2_lsign => k_mem); k_whole))
      k_with "truthy str" => (k_here; (with_reducible show wpAny _ _ (PySem.truthy (Value.str _ _)) _ _ _); (refine SBL.truthy (by omega) ?_))
      k_with "ite" => (k_here; k_openite; first
      | (refine ite_pos ?hq_lsign ?_; (case hq_lsign => first | (simp only [decide_eq_true_eq, beq_iff_eq, bne_iff_ne, ne_eq, Bool.not_eq_true', decide_eq_false_iff_not]; omega) | (simp; done)))
      | (refine ite_neg ?hq_lsign ?_; (case hq_lsign => first | (simp only [decide_eq_true_eq, beq_iff_eq, bne_iff_ne, ne_eq, Bool.not_eq_true', decide_eq_false_iff_not]; omega) | (simp; done))))
      k_with "call builtin:str.count" => (k_here; (with_reducible show wpAny _ _ (call (Value.builtin "str.count") [Value.str _ _, Value.str _ _, Value.int _ _, Value.int _ _]) _ _ _); (refine Mine.count4 ?_))
      k_with "call builtin:str.rfind" => (k_here; (with_reducible show wpAny _ _ (call (Value.builtin "str.rfind") [Value.str _ _, Value.str _ _, Value.int _ _, Value.int _ _]) _ _ _); (refine Mine.rfind4 ?_))
      k_with "exec Assign" => ((with_reducible show wpAny _ _ _ _ _ _); k_fold)
      k_with "exec Expr" => ((with_reducible show wpAny _ _ _ _ _ _); k_fold)
      k_with "exec If" => ((with_reducible show wpAny _ _ _ _ _ _); k_fold)
      k_with "exec AugAssign" => ((with_reducible show wpAny _ _ _ _ _ _); k_fold)
      k_with "exec Return" => ((with_reducible show wpAny _ _ _ _ _ _); k_fold)
      k_with "exec While" => ((with_reducible show wpAny _ _ _ _ _ _); k_fold)
      k_with "call ref" => refine Mine.hold ?_
      k_with "eval Dict" => (k_here; (with_reducible show wpAny _ _ (eval (Expr.Dict (_ :: _) _ _) _) _ _ _); k_dflt (refine' kdn_str ?q_lsign ?F_lsign ?N_lsign ?b_lsign ?a_lsign ?l_lsign ?e_lsign ?n_lsign ?_; (case q_lsign => rfl); (case F_lsign => k_asm); (case N_lsign => first | k_asm | exact News.nil); (case b_lsign => exact Top.nolimit (by k_asm)); (case a_lsign => rfl); (case l_lsign => rfl); (case e_lsign => exact List.cons_ne_nil _ _); (case n_lsign => exact Nat.le_of_ble_eq_true rfl)); intro d' h' o' F' N' l1 lo' hd'; (try k_lt l1))
      k_with "call ref" => (k_here; (with_reducible show wpAny _ _ (call (Value.ref 773) [Value.str _ _] _) _ _ _); k_dflt (refine' Mine.CtrC.call ctr_lfault _ _ _ _ _ _ _ _ _ _ _ _ ?cB_lsign ?cF_lsign ?cX_lsign ?cN_lsign ?cT_lsign ?ca_lsign ?cb_lsign ?cc_lsign ?ce_lsign ?cd_lsign ?cu_lsign ?cne_lsign ?_; (case cB_lsign => k_asm); (case cF_lsign => k_asm); (case cX_lsign => k_asm); (case cT_lsign => k_asm); (case ca_lsign => exact rfl); (case cb_lsign => exact rfl); (case cc_lsign => exact rfl); (case ce_lsign => exact rfl); (case cd_lsign => exact Nat.le_of_ble_eq_true rfl); (case cu_lsign => exact Nat.le_of_ble_eq_true rfl); (case cN_lsign => (refine' Mine.Take.news ?tk_lsign ?nn_lsign; (case nn_lsign => k_asm); (case tk_lsign => (try (refine' Mine.Take.cons ?_ ?_)); repeat' (first | exact Mine.Take.nil | exact Mine.Del.head | refine' Mine.Take.cons ?_ ?_ | refine' Mine.Del.tail ?_)))); (case cne_lsign => first | exact List.forall_mem_nil _ | exact (fun _ _ => List.forall_mem_nil _) | ((simp only [List.forall_mem_cons, List.not_mem_nil, false_implies, implies_true, and_true, true_and]); (repeat' (refine And.intro ?_ ?_)); all_goals k_ne)); (k_whole; intro v' fr' l' h' tk' hp' htk' hfr' F' N'; obtain ⟨e3', d', o', e1', e2', hlo', ta', tb', hd'⟩ := hp'; subst e3'; subst e1'; subst e2'; (simp only [List.cons_append, List.nil_append, List.forall_mem_cons, List.not_mem_nil, false_implies, implies_true, and_true, true_and] at hfr'); (try dsimp only at htk'); (try dsimp only [List.cons_append, List.nil_append] at N'); (try k_sweep); (try dsimp only); (try k_fold))))
      k_fill
      refine' ctr_intro (binds := [("number", .int z tz)]) (fun h h' T k => T.keeps k) (fun h T => T.nolimit) ?ho_lsign ?hcd_lsign ?hD_lsign ?hb_lsign ?hl_lsign ?_ ?hc_lsign ?c1_lsign ?c2_lsign ?c3_lsign
      case ho_lsign => k_is
      case hcd_lsign => k_is
      case hD_lsign => decide
      case hb_lsign => (intro s X; first | exact BindsTo.of_eq rfl | exact binds_K X rfl (by k_is) rfl rfl rfl)
      case hl_lsign => exact locs rfl
      case hc_lsign => decide
      case c1_lsign => exact rfl
      case c2_lsign => exact rfl
      case c3_lsign => exact rfl
      intro A base g env outer L' h₁ s tk B' F' X' N' T' l1
      (try k_lt l1)
      (try dsimp only)
      first | have S0 := Mine.Srt.grow (Mine.Srt.six ho) hoq | have S0 := Mine.Srt.five ho hk | have S0 := Mine.Srt.six ho | have S0 := Mine.Srt.two ho | have S0 := Mine.Srt.two hk | skip
      (with_reducible show wpAny _ _ _ _ _ _)
      k_fold
      k_with "MeetH" => (first
        | exact Mine.meetH_end (by assumption) (by assumption) (by first | exact Mine.lb1_t (by omega) | exact Mine.lb1_f (by omega) | exact Mine.lb3_t (by omega) | exact Mine.lb3_f (by omega) | exact Mine.lb3_ft hz0 (by with_reducible assumption) | exact Mine.lb3_ff hz0 (by omega) (by with_reducible assumption))
        | (refine Mine.hold ?_))
      k_with "isTrue BoolOp" => ((fail_if_success (with_reducible show wpAny _ _ _ (Mine.MeetH _ _ _ _ _ _) _ _)); first
        | ((with_reducible show wpAny _ _ (isTrue (Expr.BoolOp BoolOp.Or [_, _, _] _) _ _) _ _ _); (rename Fr _ _ _ _ => F0); (rename News _ _ _ _ => N0); (refine' Mine.wp_meetH (Mine.lb1 z) F0 N0 ?_ ?_); (intro h9 k9 F9 N9); clear F0 N0; (try dsimp only); (try k_fold))
        | ((with_reducible show wpAny _ _ (isTrue (Expr.BoolOp BoolOp.Or [_, _, _, _, _, _] _) _ _) _ _ _); (rename Fr _ _ _ _ => F0); (rename News _ _ _ _ => N0); (refine' Mine.wp_meetH (Mine.lb3 z) F0 N0 ?_ ?_); (intro h9 k9 F9 N9); clear F0 N0; (try dsimp only); (try k_fold)))
      k_with "call builtin:chr" => k_dflt ((with_reducible show wpAny _ _ (call (Value.builtin "chr") [Value.int _ _]) _ _ _); (refine chr_of_range hz0 (Mine.lb1_le (by with_reducible assumption)) ?_))
      k_steps
      all_goals (try dsimp only)
      all_goals (rename Fr _ _ _ _ => F9; rename News _ _ _ _ => N9)
      all_goals (first
        | ((have h9 := Mine.lb1_of (by with_reducible assumption : lb1 z = true)); exact Mine.ls_f F9 N9 (by rw [h9.1]; exact Mine.ufffd) h9.2 ⟨⟨_, _, by assumption⟩, ⟨_, by assumption⟩⟩ (by assumption) (by assumption))
        | ((have h8 : 128 ≤ z := by with_reducible assumption); (have h7 : z ≤ 159 := by with_reducible assumption); (have h9 := Mine.lat_of h8 h7); exact Mine.ls_f F9 N9 (by rw [h9.1]; exact Mine.item_lat h8 h7 (by decide +kernel)) h9.2 ⟨⟨_, _, by assumption⟩, ⟨_, by assumption⟩⟩ (by assumption) (by assumption))
        | ((have h9 := Mine.lb3_of hz0 (by with_reducible assumption : lb1 z = false) (by omega) (by with_reducible assumption : lb3 z = true)); exact Mine.ls_f F9 N9 (by rw [h9.1]) h9.2 ⟨⟨_, _, by assumption⟩, ⟨_, by assumption⟩⟩ (by assumption) (by assumption))
        | ((have h9 := Mine.lb3_of hz0 (by with_reducible assumption : lb1 z = false) (by omega) (by with_reducible assumption : lb3 z = false)); exact Mine.ls_n F9 N9 (by rw [h9.1]) h9.2 ⟨⟨_, _, by assumption⟩, ⟨_, by assumption⟩⟩ (by assumption) (by assumption))
        | fail)
  have ctr_ledges {w : World} {loose : List Str} {mean : ExcName → Option Value} {mg mb : Str → Option Value} :
      CtrC PySem.Challenge.rw_te0076_03.row.prog w (main.heap_1_39 w.params) (Top main.view_1_40 loose mean mg mb) 460 600 (.ref 787) ⟨[], []⟩ [] (fun v fr l => l = [] ∧ ∃ q vs n, v = .ref q ∧ fr = [(q, W.listOf vs.toArray n)] ∧ IntsAre vs edgesL) := by
    as_aux_lemma =>
      clear ctr_is_invalid ctr_charErrors ctr_read ctr_readE ctr_position0 ctr_unget ctr_ungetN ctr_ungetS ctr_readN ctr_readC ctr_readA ctr_char ctr_until ctr_tinit call_char call_unget call_ungetN call_until call_tok ctr_cne call_cne ctr_lfault ctr_lsign
      k_with_none
      k_with "subscriptTail" => (k_here; (with_reducible show wpAny _ _ (subscriptTail _ _ (Value.str _ _) (Value.int _ _)) _ _ _); (refine Mine.sub_chr (by omega) (by omega) (by assumption) ?_))
      k_with "getMethod ref" => (k_here; k_dflt (first | (refine' method_inst ?k1_ledges ?k2_ledges ?k3_ledges ?k4_ledges ?k5_ledges ?k6_ledges ?k7_ledges ?_; (case k1_ledges => k_asm); (case k2_ledges => k_asm); (case k3_ledges => k_inst); (case k4_ledges => k_is); (case k5_ledges => k_is); (case k6_ledges => k_is); (case k7_ledges => k_get); k_whole) | (refine' kmu_own ?k1_ledges ?k2_ledges ?k3_ledges ?k4_ledges ?k5_ledges ?_; (case k1_ledges => k_asm); (case k2_ledges => k_asm); (case k3_ledges => k_inst); (case k4_ledges => k_is); (case k5_ledges => k_is); k_whole)))
      k_with "getMethod ref" => (k_here; (with_reducible show wpAny _ _ (getMethod (Value.ref _) (PySem.Str.ofString "append") _) _ _ _); k_dflt (refine' kl_method ?N_ledges ?m_ledges slot_list_append type_list_append ?_; (case N_ledges => k_asm); (case m_ledges => k_mem); k_whole))
      k_with "subscriptTail Name UnaryOp str int" => (k_here; (with_reducible show wpAny _ _ (subscriptTail _ _ (Value.str _ _) (Value.int _ _)) _ _ _); (refine Mine.sub_last (by omega) (by omega) (by omega) ?_); intro c9 hc9; (try (k_dflt (have hs9 := Mine.last_lt (B := 55296) (by assumption) (by assumption) hc9))))
      k_with "call builtin:str.replace" => (k_here; (with_reducible show wpAny _ _ (call (Value.builtin "str.replace") [Value.str _ _, Value.str _ _, Value.str _ _]) _ _ _); (refine Mine.replaceM (by (try dsimp only); omega) (by (try dsimp only); omega) (by (try dsimp only); omega) (by decide +kernel) (by (refine Nat.le_trans (m := 10000) ?_ (by decide); repeat' (first | with_reducible assumption | with_reducible refine Mine.slice_len_le ?_ | (with_reducible refine Nat.le_trans (Mine.replace_len (by decide +kernel) (by decide +kernel)) ?_) | exact (by decide +kernel)))) (by decide +kernel) ?_); intro t9 kq9 hk9; (try dsimp only at hk9))
      k_with "execs cons" => (k_here; (with_reducible show wpAny _ _ _ _ _ (Shared.mk _ _ _ (_ + _) _)); (refine Mine.gentoks ?_); intro tkg9 htk9; (try dsimp only at htk9))
      k_with "call builtin:len" => (k_here; (with_reducible show wpAny _ _ (call (Value.builtin "len") [Value.str _ _]) _ _ _); (refine SBL.len (by first | omega | exact Mine.fit63 (by (refine Nat.le_trans (m := 10000) ?_ (by decide); repeat' (first | with_reducible assumption | with_reducible refine Mine.slice_len_le ?_ | (with_reducible refine Nat.le_trans (Mine.replace_len (by decide +kernel) (by decide +kernel)) ?_) | exact (by decide +kernel))))) ?_))
      k_with "truthy ref" => (k_here; k_dflt (refine' Mine.truthy_meth ?k1_ledges ?k2_ledges ?_; (case k1_ledges => k_asm); (case k2_ledges => k_mem); k_whole))
      k_with "truthy str" => (k_here; (with_reducible show wpAny _ _ (PySem.truthy (Value.str _ _)) _ _ _); (refine SBL.truthy (by omega) ?_))
      k_with "ite" => (k_here; k_openite; first
      | (refine ite_pos ?hq_ledges ?_; (case hq_ledges => first | (simp only [decide_eq_true_eq, beq_iff_eq, bne_iff_ne, ne_eq, Bool.not_eq_true', decide_eq_false_iff_not]; omega) | (simp; done)))
      | (refine ite_neg ?hq_ledges ?_; (case hq_ledges => first | (simp only [decide_eq_true_eq, beq_iff_eq, bne_iff_ne, ne_eq, Bool.not_eq_true', decide_eq_false_iff_not]; omega) | (simp; done))))
      k_with "call builtin:str.count" => (k_here; (with_reducible show wpAny _ _ (call (Value.builtin "str.count") [Value.str _ _, Value.str _ _, Value.int _ _, Value.int _ _]) _ _ _); (refine Mine.count4 ?_))
      k_with "call builtin:str.rfind" => (k_here; (with_reducible show wpAny _ _ (call (Value.builtin "str.rfind") [Value.str _ _, Value.str _ _, Value.int _ _, Value.int _ _]) _ _ _); (refine Mine.rfind4 ?_))
      k_with "exec Assign" => ((with_reducible show wpAny _ _ _ _ _ _); k_fold)
      k_with "exec Expr" => ((with_reducible show wpAny _ _ _ _ _ _); k_fold)
      k_with "exec If" => ((with_reducible show wpAny _ _ _ _ _ _); k_fold)
      k_with "exec AugAssign" => ((with_reducible show wpAny _ _ _ _ _ _); k_fold)
      k_with "exec Return" => ((with_reducible show wpAny _ _ _ _ _ _); k_fold)
      k_with "exec While" => ((with_reducible show wpAny _ _ _ _ _ _); k_fold)
      k_with "call ref" => refine Mine.hold ?_
      k_fill
      refine' ctr_intro (binds := []) (fun h h' T k => T.keeps k) (fun h T => T.nolimit) ?ho_ledges ?hcd_ledges ?hD_ledges ?hb_ledges ?hl_ledges ?_ ?hc_ledges ?c1_ledges ?c2_ledges ?c3_ledges
      case ho_ledges => k_is
      case hcd_ledges => k_is
      case hD_ledges => decide
      case hb_ledges => (intro s X; first | exact BindsTo.of_eq rfl | exact binds_K X rfl (by k_is) rfl rfl rfl)
      case hl_ledges => exact locs rfl
      case hc_ledges => decide
      case c1_ledges => exact rfl
      case c2_ledges => exact rfl
      case c3_ledges => exact rfl
      intro A base g env outer L' h₁ s tk B' F' X' N' T' l1
      (try k_lt l1)
      (try dsimp only)
      first | have S0 := Mine.Srt.grow (Mine.Srt.six ho) hoq | have S0 := Mine.Srt.five ho hk | have S0 := Mine.Srt.six ho | have S0 := Mine.Srt.two ho | have S0 := Mine.Srt.two hk | skip
      (with_reducible show wpAny _ _ _ _ _ _)
      k_fold
      k_steps
      all_goals (try dsimp only)
      refine' cendF (fr := [(_, W.listOf (List.toArray _) _)]) (l := []) (by assumption) (by assumption) (Mine.Take.sub ?tk_ledges) (fun _ _ _ h => nomatch h) ⟨rfl, _, _, _, rfl, rfl, ?rr_ledges⟩
      case tk_ledges => ((try dsimp only); repeat' (first | exact Mine.Take.nil | exact Mine.Del.head | refine' Mine.Take.blk ?_ | exact Mine.Tl.nil | exact Mine.Tl.app | refine' Mine.Take.cons ?_ ?_ | refine' Mine.Del.tail ?_ | refine' Mine.Tl.cons ?_))
      case rr_ledges => (repeat' (first | exact IntsAre.nil | refine IntsAre.cons _ _ ?_))
  have ctr_ltails {w : World} {loose : List Str} {mean : ExcName → Option Value} {mg mb : Str → Option Value} :
      CtrC PySem.Challenge.rw_te0076_03.row.prog w (main.heap_1_39 w.params) (Top main.view_1_40 loose mean mg mb) 460 600 (.ref 794) ⟨[], []⟩ [] (fun v fr l => l = [] ∧ ∃ q vs n, v = .ref q ∧ fr = [(q, W.listOf vs.toArray n)] ∧ StrsAre vs tailsL) := by
    as_aux_lemma =>
      clear ctr_is_invalid ctr_charErrors ctr_read ctr_readE ctr_position0 ctr_unget ctr_ungetN ctr_ungetS ctr_readN ctr_readC ctr_readA ctr_char ctr_until ctr_tinit call_char call_unget call_ungetN call_until call_tok ctr_cne call_cne ctr_lfault ctr_lsign ctr_ledges
      k_with_none
      k_with "subscriptTail" => (k_here; (with_reducible show wpAny _ _ (subscriptTail _ _ (Value.str _ _) (Value.int _ _)) _ _ _); (refine Mine.sub_chr (by omega) (by omega) (by assumption) ?_))
      k_with "getMethod ref" => (k_here; k_dflt (first | (refine' method_inst ?k1_ltails ?k2_ltails ?k3_ltails ?k4_ltails ?k5_ltails ?k6_ltails ?k7_ltails ?_; (case k1_ltails => k_asm); (case k2_ltails => k_asm); (case k3_ltails => k_inst); (case k4_ltails => k_is); (case k5_ltails => k_is); (case k6_ltails => k_is); (case k7_ltails => k_get); k_whole) | (refine' kmu_own ?k1_ltails ?k2_ltails ?k3_ltails ?k4_ltails ?k5_ltails ?_; (case k1_ltails => k_asm); (case k2_ltails => k_asm); (case k3_ltails => k_inst); (case k4_ltails => k_is); (case k5_ltails => k_is); k_whole)))
      k_with "getMethod ref" => (k_here; (with_reducible show wpAny _ _ (getMethod (Value.ref _) (PySem.Str.ofString "append") _) _ _ _); k_dflt (refine' kl_method ?N_ltails ?m_ltails slot_list_append type_list_append ?_; (case N_ltails => k_asm); (case m_ltails => k_mem); k_whole))
      k_with "subscriptTail Name UnaryOp str int" => (k_here; (with_reducible show wpAny _ _ (subscriptTail _ _ (Value.str _ _) (Value.int _ _)) _ _ _); (refine Mine.sub_last (by omega) (by omega) (by omega) ?_); intro c9 hc9; (try (k_dflt (have hs9 := Mine.last_lt (B := 55296) (by assumption) (by assumption) hc9))))
      k_with "call builtin:str.replace" => (k_here; (with_reducible show wpAny _ _ (call (Value.builtin "str.replace") [Value.str _ _, Value.str _ _, Value.str _ _]) _ _ _); (refine Mine.replaceM (by (try dsimp only); omega) (by (try dsimp only); omega) (by (try dsimp only); omega) (by decide +kernel) (by (refine Nat.le_trans (m := 10000) ?_ (by decide); repeat' (first | with_reducible assumption | with_reducible refine Mine.slice_len_le ?_ | (with_reducible refine Nat.le_trans (Mine.replace_len (by decide +kernel) (by decide +kernel)) ?_) | exact (by decide +kernel)))) (by decide +kernel) ?_); intro t9 kq9 hk9; (try dsimp only at hk9))
      k_with "execs cons" => (k_here; (with_reducible show wpAny _ _ _ _ _ (Shared.mk _ _ _ (_ + _) _)); (refine Mine.gentoks ?_); intro tkg9 htk9; (try dsimp only at htk9))
      k_with "call builtin:len" => (k_here; (with_reducible show wpAny _ _ (call (Value.builtin "len") [Value.str _ _]) _ _ _); (refine SBL.len (by first | omega | exact Mine.fit63 (by (refine Nat.le_trans (m := 10000) ?_ (by decide); repeat' (first | with_reducible assumption | with_reducible refine Mine.slice_len_le ?_ | (with_reducible refine Nat.le_trans (Mine.replace_len (by decide +kernel) (by decide +kernel)) ?_) | exact (by decide +kernel))))) ?_))
      k_with "truthy ref" => (k_here; k_dflt (refine' Mine.truthy_meth ?k1_ltails ?k2_ltails ?_; (case k1_ltails => k_asm); (case k2_ltails => k_mem); k_whole))
      k_with "truthy str" => (k_here; (with_reducible show wpAny _ _ (PySem.truthy (Value.str _ _)) _ _ _); (refine SBL.truthy (by omega) ?_))
      k_with "ite" => (k_here; k_openite; first
      | (refine ite_pos ?hq_ltails ?_; (case hq_ltails => first | (simp only [decide_eq_true_eq, beq_iff_eq, bne_iff_ne, ne_eq, Bool.not_eq_true', decide_eq_false_iff_not]; omega) | (simp; done)))
      | (refine ite_neg ?hq_ltails ?_; (case hq_ltails => first | (simp only [decide_eq_true_eq, beq_iff_eq, bne_iff_ne, ne_eq, Bool.not_eq_true', decide_eq_false_iff_not]; omega) | (simp; done))))
      k_with "call builtin:str.count" => (k_here; (with_reducible show wpAny _ _ (call (Value.builtin "str.count") [Value.str _ _, Value.str _ _, Value.int _ _, Value.int _ _]) _ _ _); (refine Mine.count4 ?_))
      k_with "call builtin:str.rfind" => (k_here; (with_reducible show wpAny _ _ (call (Value.builtin "str.rfind") [Value.str _ _, Value.str _ _, Value.int _ _, Value.int _ _]) _ _ _); (refine Mine.rfind4 ?_))
      k_with "exec Assign" => ((with_reducible show wpAny _ _ _ _ _ _); k_fold)
      k_with "exec Expr" => ((with_reducible show wpAny _ _ _ _ _ _); k_fold)
      k_with "exec If" => ((with_reducible show wpAny _ _ _ _ _ _); k_fold)
      k_with "exec AugAssign" => ((with_reducible show wpAny _ _ _ _ _ _); k_fold)
      k_with "exec Return" => ((with_reducible show wpAny _ _ _ _ _ _); k_fold)
      k_with "exec While" => ((with_reducible show wpAny _ _ _ _ _ _); k_fold)
      k_with "call ref" => refine Mine.hold ?_
      k_fill
      refine' ctr_intro (binds := []) (fun h h' T k => T.keeps k) (fun h T => T.nolimit) ?ho_ltails ?hcd_ltails ?hD_ltails ?hb_ltails ?hl_ltails ?_ ?hc_ltails ?c1_ltails ?c2_ltails ?c3_ltails
      case ho_ltails => k_is
      case hcd_ltails => k_is
      case hD_ltails => decide
      case hb_ltails => (intro s X; first | exact BindsTo.of_eq rfl | exact binds_K X rfl (by k_is) rfl rfl rfl)
      case hl_ltails => exact locs rfl
      case hc_ltails => decide
      case c1_ltails => exact rfl
      case c2_ltails => exact rfl
      case c3_ltails => exact rfl
      intro A base g env outer L' h₁ s tk B' F' X' N' T' l1
      (try k_lt l1)
      (try dsimp only)
      first | have S0 := Mine.Srt.grow (Mine.Srt.six ho) hoq | have S0 := Mine.Srt.five ho hk | have S0 := Mine.Srt.six ho | have S0 := Mine.Srt.two ho | have S0 := Mine.Srt.two hk | skip
      (with_reducible show wpAny _ _ _ _ _ _)
      k_fold
      k_steps
      all_goals (try dsimp only)
      refine' cendF (fr := [(_, W.listOf (List.toArray _) _)]) (l := []) (by assumption) (by assumption) (Mine.Take.sub ?tk_ltails) (fun _ _ _ h => nomatch h) ⟨rfl, _, _, _, rfl, rfl, ?rr_ltails⟩
      case tk_ltails => ((try dsimp only); repeat' (first | exact Mine.Take.nil | exact Mine.Del.head | refine' Mine.Take.blk ?_ | exact Mine.Tl.nil | exact Mine.Tl.app | refine' Mine.Take.cons ?_ ?_ | refine' Mine.Del.tail ?_ | refine' Mine.Tl.cons ?_))
      case rr_ltails => (repeat' (first | exact StrsAre.nil | refine StrsAre.cons _ _ ?_))
  have ctr_lwD {w : World} {loose : List Str} {mean : ExcName → Option Value} {mg mb : Str → Option Value} {N way : Int} {tn tb tw : Tok} (hN0 : 0 ≤ N) (hN1 : N ≤ 1000000000000000000000000) (hw0 : 0 ≤ way) :
      CtrC PySem.Challenge.rw_te0076_03.row.prog w (main.heap_1_39 w.params) (Top main.view_1_40 loose mean mg mb) 460 600 (.ref 801) ⟨[.int N tn, .int 10 tb, .int way tw], []⟩ [] (noF fun v l => ∃ (x : Str) (t : Tok), v = .str x t ∧ WrX false N x ∧ l = []) := by
    as_aux_lemma =>
      clear ctr_is_invalid ctr_charErrors ctr_read ctr_readE ctr_position0 ctr_unget ctr_ungetN ctr_ungetS ctr_readN ctr_readC ctr_readA ctr_char ctr_until ctr_tinit call_char call_unget call_ungetN call_until call_tok ctr_cne call_cne ctr_lfault ctr_lsign ctr_ledges ctr_ltails
      k_with_none
      k_with "subscriptTail" => (k_here; (with_reducible show wpAny _ _ (subscriptTail _ _ (Value.str _ _) (Value.int _ _)) _ _ _); (refine Mine.sub_chr (by omega) (by omega) (by assumption) ?_))
      k_with "getMethod ref" => (k_here; k_dflt (first | (refine' method_inst ?k1_lwD ?k2_lwD ?k3_lwD ?k4_lwD ?k5_lwD ?k6_lwD ?k7_lwD ?_; (case k1_lwD => k_asm); (case k2_lwD => k_asm); (case k3_lwD => k_inst); (case k4_lwD => k_is); (case k5_lwD => k_is); (case k6_lwD => k_is); (case k7_lwD => k_get); k_whole) | (refine' kmu_own ?k1_lwD ?k2_lwD ?k3_lwD ?k4_lwD ?k5_lwD ?_; (case k1_lwD => k_asm); (case k2_lwD => k_asm); (case k3_lwD => k_inst); (case k4_lwD => k_is); (case k5_lwD => k_is); k_whole)))
      k_with "getMethod ref" => (k_here; (with_reducible show wpAny _ _ (getMethod (Value.ref _) (PySem.Str.ofString "append") _) _ _ _); k_dflt (refine' kl_method ?N_lwD ?m_lwD slot_list_append type_list_append ?_; (case N_lwD => k_asm); (case m_lwD => k_mem); k_whole))
      k_with "subscriptTail Name UnaryOp str int" => (k_here; (with_reducible show wpAny _ _ (subscriptTail _ _ (Value.str _ _) (Value.int _ _)) _ _ _); (refine Mine.sub_last (by omega) (by omega) (by omega) ?_); intro c9 hc9; (try (k_dflt (have hs9 := Mine.last_lt (B := 55296) (by assumption) (by assumption) hc9))))
      k_with "call builtin:str.replace" => (k_here; (with_reducible show wpAny _ _ (call (Value.builtin "str.replace") [Value.str _ _, Value.str _ _, Value.str _ _]) _ _ _); (refine Mine.replaceM (by (try dsimp only); omega) (by (try dsimp only); omega) (by (try dsimp only); omega) (by decide +kernel) (by (refine Nat.le_trans (m := 10000) ?_ (by decide); repeat' (first | with_reducible assumption | with_reducible refine Mine.slice_len_le ?_ | (with_reducible refine Nat.le_trans (Mine.replace_len (by decide +kernel) (by decide +kernel)) ?_) | exact (by decide +kernel)))) (by decide +kernel) ?_); intro t9 kq9 hk9; (try dsimp only at hk9))
      k_with "execs cons" => (k_here; (with_reducible show wpAny _ _ _ _ _ (Shared.mk _ _ _ (_ + _) _)); (refine Mine.gentoks ?_); intro tkg9 htk9; (try dsimp only at htk9))
      k_with "call builtin:len" => (k_here; (with_reducible show wpAny _ _ (call (Value.builtin "len") [Value.str _ _]) _ _ _); (refine SBL.len (by first | omega | exact Mine.fit63 (by (refine Nat.le_trans (m := 10000) ?_ (by decide); repeat' (first | with_reducible assumption | with_reducible refine Mine.slice_len_le ?_ | (with_reducible refine Nat.le_trans (Mine.replace_len (by decide +kernel) (by decide +kernel)) ?_) | exact (by decide +kernel))))) ?_))
      k_with "truthy ref" => (k_here; k_dflt (refine' Mine.truthy_meth ?k1_lwD ?k2_lwD ?_; (case k1_lwD => k_asm); (case k2_lwD => k_mem); k_whole))
      k_with "truthy str" => (k_here; (with_reducible show wpAny _ _ (PySem.truthy (Value.str _ _)) _ _ _); (refine SBL.truthy (by omega) ?_))
      k_with "ite" => (k_here; k_openite; first
      | (refine ite_pos ?hq_lwD ?_; (case hq_lwD => first | (simp only [decide_eq_true_eq, beq_iff_eq, bne_iff_ne, ne_eq, Bool.not_eq_true', decide_eq_false_iff_not]; omega) | (simp; done)))
      | (refine ite_neg ?hq_lwD ?_; (case hq_lwD => first | (simp only [decide_eq_true_eq, beq_iff_eq, bne_iff_ne, ne_eq, Bool.not_eq_true', decide_eq_false_iff_not]; omega) | (simp; done))))
      k_with "call builtin:str.count" => (k_here; (with_reducible show wpAny _ _ (call (Value.builtin "str.count") [Value.str _ _, Value.str _ _, Value.int _ _, Value.int _ _]) _ _ _); (refine Mine.count4 ?_))
      k_with "call builtin:str.rfind" => (k_here; (with_reducible show wpAny _ _ (call (Value.builtin "str.rfind") [Value.str _ _, Value.str _ _, Value.int _ _, Value.int _ _]) _ _ _); (refine Mine.rfind4 ?_))
      k_with "exec Assign" => ((with_reducible show wpAny _ _ _ _ _ _); k_fold)
      k_with "exec Expr" => ((with_reducible show wpAny _ _ _ _ _ _); k_fold)
      k_with "exec If" => ((with_reducible show wpAny _ _ _ _ _ _); k_fold)
      k_with "exec AugAssign" => ((with_reducible show wpAny _ _ _ _ _ _); k_fold)
      k_with "exec Return" => ((with_reducible show wpAny _ _ _ _ _ _); k_fold)
      k_with "exec While" => ((with_reducible show wpAny _ _ _ _ _ _); k_fold)
      k_with "call ref" => refine Mine.hold ?_
      k_fill
      refine' ctr_intro (binds := [("number", .int N tn), ("base", .int 10 tb), ("way", .int way tw)]) (fun h h' T k => T.keeps k) (fun h T => T.nolimit) ?ho_lwD ?hcd_lwD ?hD_lwD ?hb_lwD ?hl_lwD ?_ ?hc_lwD ?c1_lwD ?c2_lwD ?c3_lwD
      case ho_lwD => k_is
      case hcd_lwD => k_is
      case hD_lwD => decide
      case hb_lwD => (intro s X; first | exact BindsTo.of_eq rfl | exact binds_K X rfl (by k_is) rfl rfl rfl)
      case hl_lwD => exact locs rfl
      case hc_lwD => decide
      case c1_lwD => exact rfl
      case c2_lwD => exact rfl
      case c3_lwD => exact rfl
      intro A base g env outer L' h₁ s tk B' F' X' N' T' l1
      (try k_lt l1)
      (try dsimp only)
      first | have S0 := Mine.Srt.grow (Mine.Srt.six ho) hoq | have S0 := Mine.Srt.five ho hk | have S0 := Mine.Srt.six ho | have S0 := Mine.Srt.two ho | have S0 := Mine.Srt.two hk | skip
      (with_reducible show wpAny _ _ _ _ _ _)
      k_fold
      k_with "exec While" => k_dflt ((rename Fr _ _ _ _ => F0); (rename News _ _ _ _ => N0); (refine' ksw_meet (σ := Wr) (fun _ => []) (fun c => [("number", .int c.num c.t1), ("text", .str c.x c.t2), ("way", .int c.way c.t3)]) ["figure"] (WrP false N) (fun c => WrX false N c.x) Wr.mu ⟨N, _, way, _, _, _⟩ F0 N0 ?kk_lwD (WrP.start hN0 hN1 hw0) ?hq_lwD ?turn_lwD); (case kk_lwD => (intro p hp; (simp only [List.mem_cons, List.not_mem_nil, or_false] at hp); rcases hp with hp | hp | hp <;> subst hp <;> rfl)); (case' hq_lwD => (intro c u hh tk2 hi Ft Nt; (try clear F0 N0); obtain ⟨num, t1, wy, t3, x, t2⟩ := c; (dsimp only at hi Ft Nt))); (case' turn_lwD => (intro c u hh tk2 hi Ft Nt; (try clear F0 N0); obtain ⟨num, t1, wy, t3, x, t2⟩ := c; (dsimp only at Ft Nt); have hn0 := hi.num0; have hn1 := hi.num1; have hy0 := hi.way0; have hxl := hi.len; (dsimp only at hn0 hn1 hy0 hxl))))
      k_with "KswEnd" => k_dflt ((rename Fr _ _ _ _ => F9); (rename News _ _ _ _ => N9); first
        | ((have hq9 := fun t1' t3' t2' => Mine.wr_step (t1' := t1') (t3' := t3') (t2' := t2') (b := 10) rfl hi (.inl (by with_reducible assumption)) (Mine.litL false)); (refine' ksw_end (σ := Wr) ⟨_, _, _, _, _, _⟩ F9 N9 (fun _ h => nomatch h) trivial ?wk1_lwD ?wr1_lwD (hq9 _ _ _).1 (hq9 _ _ _).2); (case wk1_lwD => (intro p hp; (simp only [List.mem_cons, List.not_mem_nil, or_false] at hp); rcases hp with hp | hp | hp <;> subst hp <;> rfl)); (case wr1_lwD => (intro z9 hz9 hz8; have hz1 := hz9 _ (List.mem_cons_self ..); have hz2 := hz9 _ (List.mem_cons_of_mem _ (List.mem_cons_self ..)); have hz3 := hz9 _ (List.mem_cons_of_mem _ (List.mem_cons_of_mem _ (List.mem_cons_self ..))); (dsimp only at hz1 hz2 hz3); have hz7 : z9 ≠ Str.ofString "figure" := (by intro e9; subst e9; simp at hz8); simp [hz1, hz2, hz3, hz7, kstB])))
        | ((have hq9 := fun t1' t3' t2' => Mine.wr_step (t1' := t1') (t3' := t3') (t2' := t2') (b := 10) rfl hi (.inl (by with_reducible assumption)) (Mine.litU false)); (refine' ksw_end (σ := Wr) ⟨_, _, _, _, _, _⟩ F9 N9 (fun _ h => nomatch h) trivial ?wk2_lwD ?wr2_lwD (hq9 _ _ _).1 (hq9 _ _ _).2); (case wk2_lwD => (intro p hp; (simp only [List.mem_cons, List.not_mem_nil, or_false] at hp); rcases hp with hp | hp | hp <;> subst hp <;> rfl)); (case wr2_lwD => (intro z9 hz9 hz8; have hz1 := hz9 _ (List.mem_cons_self ..); have hz2 := hz9 _ (List.mem_cons_of_mem _ (List.mem_cons_self ..)); have hz3 := hz9 _ (List.mem_cons_of_mem _ (List.mem_cons_of_mem _ (List.mem_cons_self ..))); (dsimp only at hz1 hz2 hz3); have hz7 : z9 ≠ Str.ofString "figure" := (by intro e9; subst e9; simp at hz8); simp [hz1, hz2, hz3, hz7, kstB])))
        | ((have hq9 := fun t1' t3' t2' => Mine.wr_step (t1' := t1') (t3' := t3') (t2' := t2') (b := 10) rfl hi (.inr (by with_reducible assumption)) (Mine.litL false)); (refine' ksw_end (σ := Wr) ⟨_, _, _, _, _, _⟩ F9 N9 (fun _ h => nomatch h) trivial ?wk3_lwD ?wr3_lwD (hq9 _ _ _).1 (hq9 _ _ _).2); (case wk3_lwD => (intro p hp; (simp only [List.mem_cons, List.not_mem_nil, or_false] at hp); rcases hp with hp | hp | hp <;> subst hp <;> rfl)); (case wr3_lwD => (intro z9 hz9 hz8; have hz1 := hz9 _ (List.mem_cons_self ..); have hz2 := hz9 _ (List.mem_cons_of_mem _ (List.mem_cons_self ..)); have hz3 := hz9 _ (List.mem_cons_of_mem _ (List.mem_cons_of_mem _ (List.mem_cons_self ..))); (dsimp only at hz1 hz2 hz3); have hz7 : z9 ≠ Str.ofString "figure" := (by intro e9; subst e9; simp at hz8); simp [hz1, hz2, hz3, hz7, kstB])))
        | ((have hq9 := fun t1' t3' t2' => Mine.wr_step (t1' := t1') (t3' := t3') (t2' := t2') (b := 10) rfl hi (.inr (by with_reducible assumption)) (Mine.litU false)); (refine' ksw_end (σ := Wr) ⟨_, _, _, _, _, _⟩ F9 N9 (fun _ h => nomatch h) trivial ?wk4_lwD ?wr4_lwD (hq9 _ _ _).1 (hq9 _ _ _).2); (case wk4_lwD => (intro p hp; (simp only [List.mem_cons, List.not_mem_nil, or_false] at hp); rcases hp with hp | hp | hp <;> subst hp <;> rfl)); (case wr4_lwD => (intro z9 hz9 hz8; have hz1 := hz9 _ (List.mem_cons_self ..); have hz2 := hz9 _ (List.mem_cons_of_mem _ (List.mem_cons_self ..)); have hz3 := hz9 _ (List.mem_cons_of_mem _ (List.mem_cons_of_mem _ (List.mem_cons_self ..))); (dsimp only at hz1 hz2 hz3); have hz7 : z9 ≠ Str.ofString "figure" := (by intro e9; subst e9; simp at hz8); simp [hz1, hz2, hz3, hz7, kstB])))
        | (refine Mine.hold ?_))
      k_with "MeetW" => k_dflt (exact meetW_end (σ := Wr) ⟨num, t1, wy, t3, x, t2⟩ u Ft Nt (fun _ h => h) (Mine.wr_exit hi (by with_reducible assumption) (by with_reducible assumption)))
      k_steps
      all_goals (try dsimp only)
      all_goals (refine cend (l := []) (by assumption) (by assumption) (fun _ h => nomatch h) ⟨_, _, rfl, hi, rfl⟩)
  have ctr_lwH {w : World} {loose : List Str} {mean : ExcName → Option Value} {mg mb : Str → Option Value} {N way : Int} {tn tb tw : Tok} (hN0 : 0 ≤ N) (hN1 : N ≤ 1000000000000000000000000) (hw0 : 0 ≤ way) :
      CtrC PySem.Challenge.rw_te0076_03.row.prog w (main.heap_1_39 w.params) (Top main.view_1_40 loose mean mg mb) 460 600 (.ref 801) ⟨[.int N tn, .int 16 tb, .int way tw], []⟩ [] (noF fun v l => ∃ (x : Str) (t : Tok), v = .str x t ∧ WrX true N x ∧ l = []) := by
    as_aux_lemma =>
      clear ctr_is_invalid ctr_charErrors ctr_read ctr_readE ctr_position0 ctr_unget ctr_ungetN ctr_ungetS ctr_readN ctr_readC ctr_readA ctr_char ctr_until ctr_tinit call_char call_unget call_ungetN call_until call_tok ctr_cne call_cne ctr_lfault ctr_lsign ctr_ledges ctr_ltails ctr_lwD
      k_with_none
      k_with "subscriptTail" => (k_here; (with_reducible show wpAny _ _ (subscriptTail _ _ (Value.str _ _) (Value.int _ _)) _ _ _); (refine Mine.sub_chr (by omega) (by omega) (by assumption) ?_))
      k_with "getMethod ref" => (k_here; k_dflt (first | (refine' method_inst ?k1_lwH ?k2_lwH ?k3_lwH ?k4_lwH ?k5_lwH ?k6_lwH ?k7_lwH ?_; (case k1_lwH => k_asm); (case k2_lwH => k_asm); (case k3_lwH => k_inst); (case k4_lwH => k_is); (case k5_lwH => k_is); (case k6_lwH => k_is); (case k7_lwH => k_get); k_whole) | (refine' kmu_own ?k1_lwH ?k2_lwH ?k3_lwH ?k4_lwH ?k5_lwH ?_; (case k1_lwH => k_asm); (case k2_lwH => k_asm); (case k3_lwH => k_inst); (case k4_lwH => k_is); (case k5_lwH => k_is); k_whole)))
      k_with "getMethod ref" => (k_here; (with_reducible show wpAny _ _ (getMethod (Value.ref _) (PySem.Str.ofString "append") _) _ _ _); k_dflt (refine' kl_method ?N_lwH ?m_lwH slot_list_append type_list_append ?_; (case N_lwH => k_asm); (case m_lwH => k_mem); k_whole))
      k_with "subscriptTail Name UnaryOp str int" => (k_here; (with_reducible show wpAny _ _ (subscriptTail _ _ (Value.str _ _) (Value.int _ _)) _ _ _); (refine Mine.sub_last (by omega) (by omega) (by omega) ?_); intro c9 hc9; (try (k_dflt (have hs9 := Mine.last_lt (B := 55296) (by assumption) (by assumption) hc9))))
      k_with "call builtin:str.replace" => (k_here; (with_reducible show wpAny _ _ (call (Value.builtin "str.replace") [Value.str _ _, Value.str _ _, Value.str _ _]) _ _ _); (refine Mine.replaceM (by (try dsimp only); omega) (by (try dsimp only); omega) (by (try dsimp only); omega) (by decide +kernel) (by (refine Nat.le_trans (m := 10000) ?_ (by decide); repeat' (first | with_reducible assumption | with_reducible refine Mine.slice_len_le ?_ | (with_reducible refine Nat.le_trans (Mine.replace_len (by decide +kernel) (by decide +kernel)) ?_) | exact (by decide +kernel)))) (by decide +kernel) ?_); intro t9 kq9 hk9; (try dsimp only at hk9))
      k_with "execs cons" => (k_here; (with_reducible show wpAny _ _ _ _ _ (Shared.mk _ _ _ (_ + _) _)); (refine Mine.gentoks ?_); intro tkg9 htk9; (try dsimp only at htk9))
      k_with "call builtin:len" => (k_here; (with_reducible show wpAny _ _ (call (Value.builtin "len") [Value.str _ _]) _ _ _); (refine SBL.len (by first | omega | exact Mine.fit63 (by (refine Nat.le_trans (m := 10000) ?_ (by decide); repeat' (first | with_reducible assumption | with_reducible refine Mine.slice_len_le ?_ | (with_reducible refine Nat.le_trans (Mine.replace_len (by decide +kernel) (by decide +kernel)) ?_) | exact (by decide +kernel))))) ?_))
      k_with "truthy ref" => (k_here; k_dflt (refine' Mine.truthy_meth ?k1_lwH ?k2_lwH ?_; (case k1_lwH => k_asm); (case k2_lwH => k_mem); k_whole))
      k_with "truthy str" => (k_here; (with_reducible show wpAny _ _ (PySem.truthy (Value.str _ _)) _ _ _); (refine SBL.truthy (by omega) ?_))
      k_with "ite" => (k_here; k_openite; first
      | (refine ite_pos ?hq_lwH ?_; (case hq_lwH => first | (simp only [decide_eq_true_eq, beq_iff_eq, bne_iff_ne, ne_eq, Bool.not_eq_true', decide_eq_false_iff_not]; omega) | (simp; done)))
      | (refine ite_neg ?hq_lwH ?_; (case hq_lwH => first | (simp only [decide_eq_true_eq, beq_iff_eq, bne_iff_ne, ne_eq, Bool.not_eq_true', decide_eq_false_iff_not]; omega) | (simp; done))))
      k_with "call builtin:str.count" => (k_here; (with_reducible show wpAny _ _ (call (Value.builtin "str.count") [Value.str _ _, Value.str _ _, Value.int _ _, Value.int _ _]) _ _ _); (refine Mine.count4 ?_))
      k_with "call builtin:str.rfind" => (k_here; (with_reducible show wpAny _ _ (call (Value.builtin "str.rfind") [Value.str _ _, Value.str _ _, Value.int _ _, Value.int _ _]) _ _ _); (refine Mine.rfind4 ?_))
      k_with "exec Assign" => ((with_reducible show wpAny _ _ _ _ _ _); k_fold)
      k_with "exec Expr" => ((with_reducible show wpAny _ _ _ _ _ _); k_fold)
      k_with "exec If" => ((with_reducible show wpAny _ _ _ _ _ _); k_fold)
      k_with "exec AugAssign" => ((with_reducible show wpAny _ _ _ _ _ _); k_fold)
      k_with "exec Return" => ((with_reducible show wpAny _ _ _ _ _ _); k_fold)
      k_with "exec While" => ((with_reducible show wpAny _ _ _ _ _ _); k_fold)
      k_with "call ref" => refine Mine.hold ?_
      k_fill
      refine' ctr_intro (binds := [("number", .int N tn), ("base", .int 16 tb), ("way", .int way tw)]) (fun h h' T k => T.keeps k) (fun h T => T.nolimit) ?ho_lwH ?hcd_lwH ?hD_lwH ?hb_lwH ?hl_lwH ?_ ?hc_lwH ?c1_lwH ?c2_lwH ?c3_lwH
      case ho_lwH => k_is
      case hcd_lwH => k_is
      case hD_lwH => decide
      case hb_lwH => (intro s X; first | exact BindsTo.of_eq rfl | exact binds_K X rfl (by k_is) rfl rfl rfl)
      case hl_lwH => exact locs rfl
      case hc_lwH => decide
      case c1_lwH => exact rfl
      case c2_lwH => exact rfl
      case c3_lwH => exact rfl
      intro A base g env outer L' h₁ s tk B' F' X' N' T' l1
      (try k_lt l1)
      (try dsimp only)
      first | have S0 := Mine.Srt.grow (Mine.Srt.six ho) hoq | have S0 := Mine.Srt.five ho hk | have S0 := Mine.Srt.six ho | have S0 := Mine.Srt.two ho | have S0 := Mine.Srt.two hk | skip
      (with_reducible show wpAny _ _ _ _ _ _)
      k_fold
      k_with "exec While" => k_dflt ((rename Fr _ _ _ _ => F0); (rename News _ _ _ _ => N0); (refine' ksw_meet (σ := Wr) (fun _ => []) (fun c => [("number", .int c.num c.t1), ("text", .str c.x c.t2), ("way", .int c.way c.t3)]) ["figure"] (WrP true N) (fun c => WrX true N c.x) Wr.mu ⟨N, _, way, _, _, _⟩ F0 N0 ?kk_lwH (WrP.start hN0 hN1 hw0) ?hq_lwH ?turn_lwH); (case kk_lwH => (intro p hp; (simp only [List.mem_cons, List.not_mem_nil, or_false] at hp); rcases hp with hp | hp | hp <;> subst hp <;> rfl)); (case' hq_lwH => (intro c u hh tk2 hi Ft Nt; (try clear F0 N0); obtain ⟨num, t1, wy, t3, x, t2⟩ := c; (dsimp only at hi Ft Nt))); (case' turn_lwH => (intro c u hh tk2 hi Ft Nt; (try clear F0 N0); obtain ⟨num, t1, wy, t3, x, t2⟩ := c; (dsimp only at Ft Nt); have hn0 := hi.num0; have hn1 := hi.num1; have hy0 := hi.way0; have hxl := hi.len; (dsimp only at hn0 hn1 hy0 hxl))))
      k_with "KswEnd" => k_dflt ((rename Fr _ _ _ _ => F9); (rename News _ _ _ _ => N9); first
        | ((have hq9 := fun t1' t3' t2' => Mine.wr_step (t1' := t1') (t3' := t3') (t2' := t2') (b := 16) rfl hi (.inl (by with_reducible assumption)) (Mine.litL true)); (refine' ksw_end (σ := Wr) ⟨_, _, _, _, _, _⟩ F9 N9 (fun _ h => nomatch h) trivial ?wk1_lwH ?wr1_lwH (hq9 _ _ _).1 (hq9 _ _ _).2); (case wk1_lwH => (intro p hp; (simp only [List.mem_cons, List.not_mem_nil, or_false] at hp); rcases hp with hp | hp | hp <;> subst hp <;> rfl)); (case wr1_lwH => (intro z9 hz9 hz8; have hz1 := hz9 _ (List.mem_cons_self ..); have hz2 := hz9 _ (List.mem_cons_of_mem _ (List.mem_cons_self ..)); have hz3 := hz9 _ (List.mem_cons_of_mem _ (List.mem_cons_of_mem _ (List.mem_cons_self ..))); (dsimp only at hz1 hz2 hz3); have hz7 : z9 ≠ Str.ofString "figure" := (by intro e9; subst e9; simp at hz8); simp [hz1, hz2, hz3, hz7, kstB])))
        | ((have hq9 := fun t1' t3' t2' => Mine.wr_step (t1' := t1') (t3' := t3') (t2' := t2') (b := 16) rfl hi (.inl (by with_reducible assumption)) (Mine.litU true)); (refine' ksw_end (σ := Wr) ⟨_, _, _, _, _, _⟩ F9 N9 (fun _ h => nomatch h) trivial ?wk2_lwH ?wr2_lwH (hq9 _ _ _).1 (hq9 _ _ _).2); (case wk2_lwH => (intro p hp; (simp only [List.mem_cons, List.not_mem_nil, or_false] at hp); rcases hp with hp | hp | hp <;> subst hp <;> rfl)); (case wr2_lwH => (intro z9 hz9 hz8; have hz1 := hz9 _ (List.mem_cons_self ..); have hz2 := hz9 _ (List.mem_cons_of_mem _ (List.mem_cons_self ..)); have hz3 := hz9 _ (List.mem_cons_of_mem _ (List.mem_cons_of_mem _ (List.mem_cons_self ..))); (dsimp only at hz1 hz2 hz3); have hz7 : z9 ≠ Str.ofString "figure" := (by intro e9; subst e9; simp at hz8); simp [hz1, hz2, hz3, hz7, kstB])))
        | ((have hq9 := fun t1' t3' t2' => Mine.wr_step (t1' := t1') (t3' := t3') (t2' := t2') (b := 16) rfl hi (.inr (by with_reducible assumption)) (Mine.litL true)); (refine' ksw_end (σ := Wr) ⟨_, _, _, _, _, _⟩ F9 N9 (fun _ h => nomatch h) trivial ?wk3_lwH ?wr3_lwH (hq9 _ _ _).1 (hq9 _ _ _).2); (case wk3_lwH => (intro p hp; (simp only [List.mem_cons, List.not_mem_nil, or_false] at hp); rcases hp with hp | hp | hp <;> subst hp <;> rfl)); (case wr3_lwH => (intro z9 hz9 hz8; have hz1 := hz9 _ (List.mem_cons_self ..); have hz2 := hz9 _ (List.mem_cons_of_mem _ (List.mem_cons_self ..)); have hz3 := hz9 _ (List.mem_cons_of_mem _ (List.mem_cons_of_mem _ (List.mem_cons_self ..))); (dsimp only at hz1 hz2 hz3); have hz7 : z9 ≠ Str.ofString "figure" := (by intro e9; subst e9; simp at hz8); simp [hz1, hz2, hz3, hz7, kstB])))
        | ((have hq9 := fun t1' t3' t2' => Mine.wr_step (t1' := t1') (t3' := t3') (t2' := t2') (b := 16) rfl hi (.inr (by with_reducible assumption)) (Mine.litU true)); (refine' ksw_end (σ := Wr) ⟨_, _, _, _, _, _⟩ F9 N9 (fun _ h => nomatch h) trivial ?wk4_lwH ?wr4_lwH (hq9 _ _ _).1 (hq9 _ _ _).2); (case wk4_lwH => (intro p hp; (simp only [List.mem_cons, List.not_mem_nil, or_false] at hp); rcases hp with hp | hp | hp <;> subst hp <;> rfl)); (case wr4_lwH => (intro z9 hz9 hz8; have hz1 := hz9 _ (List.mem_cons_self ..); have hz2 := hz9 _ (List.mem_cons_of_mem _ (List.mem_cons_self ..)); have hz3 := hz9 _ (List.mem_cons_of_mem _ (List.mem_cons_of_mem _ (List.mem_cons_self ..))); (dsimp only at hz1 hz2 hz3); have hz7 : z9 ≠ Str.ofString "figure" := (by intro e9; subst e9; simp at hz8); simp [hz1, hz2, hz3, hz7, kstB])))
        | (refine Mine.hold ?_))
      k_with "MeetW" => k_dflt (exact meetW_end (σ := Wr) ⟨num, t1, wy, t3, x, t2⟩ u Ft Nt (fun _ h => h) (Mine.wr_exit hi (by with_reducible assumption) (by with_reducible assumption)))
      k_steps
      all_goals (try dsimp only)
      all_goals (refine cend (l := []) (by assumption) (by assumption) (fun _ h => nomatch h) ⟨_, _, rfl, hi, rfl⟩)
  as_aux_lemma =>
    have mkC9 : Mine.MarkC := .mk
    w_strict (
    k_with_none
    k_with "subscriptTail" => (k_here; (with_reducible show wpAny _ _ (subscriptTail _ _ (Value.str _ _) (Value.int _ _)) _ _ _); (refine Mine.sub_chr (by omega) (by omega) (by assumption) ?_))
    k_with "getMethod ref" => (k_here; k_dflt (first | (refine' method_inst ?k1_law0 ?k2_law0 ?k3_law0 ?k4_law0 ?k5_law0 ?k6_law0 ?k7_law0 ?_; (case k1_law0 => k_asm); (case k2_law0 => k_asm); (case k3_law0 => k_inst); (case k4_law0 => k_is); (case k5_law0 => k_is); (case k6_law0 => k_is); (case k7_law0 => k_get); k_whole) | (refine' kmu_own ?k1_law0 ?k2_law0 ?k3_law0 ?k4_law0 ?k5_law0 ?_; (case k1_law0 => k_asm); (case k2_law0 => k_asm); (case k3_law0 => k_inst); (case k4_law0 => k_is); (case k5_law0 => k_is); k_whole)))
    k_with "getMethod ref" => (k_here; (with_reducible show wpAny _ _ (getMethod (Value.ref _) (PySem.Str.ofString "append") _) _ _ _); k_dflt (refine' kl_method ?N_law0 ?m_law0 slot_list_append type_list_append ?_; (case N_law0 => k_asm); (case m_law0 => k_mem); k_whole))
    k_with "subscriptTail Name UnaryOp str int" => (k_here; (with_reducible show wpAny _ _ (subscriptTail _ _ (Value.str _ _) (Value.int _ _)) _ _ _); (refine Mine.sub_last (by omega) (by omega) (by omega) ?_); intro c9 hc9; (try (k_dflt (have hs9 := Mine.last_lt (B := 55296) (by assumption) (by assumption) hc9))))
    k_with "call builtin:str.replace" => (k_here; (with_reducible show wpAny _ _ (call (Value.builtin "str.replace") [Value.str _ _, Value.str _ _, Value.str _ _]) _ _ _); (refine Mine.replaceM (by (try dsimp only); omega) (by (try dsimp only); omega) (by (try dsimp only); omega) (by decide +kernel) (by (refine Nat.le_trans (m := 10000) ?_ (by decide); repeat' (first | with_reducible assumption | with_reducible refine Mine.slice_len_le ?_ | (with_reducible refine Nat.le_trans (Mine.replace_len (by decide +kernel) (by decide +kernel)) ?_) | exact (by decide +kernel)))) (by decide +kernel) ?_); intro t9 kq9 hk9; (try dsimp only at hk9))
    k_with "execs cons" => (k_here; (with_reducible show wpAny _ _ _ _ _ (Shared.mk _ _ _ (_ + _) _)); (refine Mine.gentoks ?_); intro tkg9 htk9; (try dsimp only at htk9))
    k_with "call builtin:len" => (k_here; (with_reducible show wpAny _ _ (call (Value.builtin "len") [Value.str _ _]) _ _ _); (refine SBL.len (by first | omega | exact Mine.fit63 (by (refine Nat.le_trans (m := 10000) ?_ (by decide); repeat' (first | with_reducible assumption | with_reducible refine Mine.slice_len_le ?_ | (with_reducible refine Nat.le_trans (Mine.replace_len (by decide +kernel) (by decide +kernel)) ?_) | exact (by decide +kernel))))) ?_))
    k_with "truthy ref" => (k_here; k_dflt (refine' Mine.truthy_meth ?k1_law0 ?k2_law0 ?_; (case k1_law0 => k_asm); (case k2_law0 => k_mem); k_whole))
    k_with "truthy str" => (k_here; (with_reducible show wpAny _ _ (PySem.truthy (Value.str _ _)) _ _ _); (refine SBL.truthy (by omega) ?_))
    k_with "ite" => (k_here; k_openite; first
    | (refine ite_pos ?hq_law0 ?_; (case hq_law0 => first | (simp only [decide_eq_true_eq, beq_iff_eq, bne_iff_ne, ne_eq, Bool.not_eq_true', decide_eq_false_iff_not]; omega) | (simp; done)))
    | (refine ite_neg ?hq_law0 ?_; (case hq_law0 => first | (simp only [decide_eq_true_eq, beq_iff_eq, bne_iff_ne, ne_eq, Bool.not_eq_true', decide_eq_false_iff_not]; omega) | (simp; done))))
    k_with "call builtin:str.count" => (k_here; (with_reducible show wpAny _ _ (call (Value.builtin "str.count") [Value.str _ _, Value.str _ _, Value.int _ _, Value.int _ _]) _ _ _); (refine Mine.count4 ?_))
    k_with "call builtin:str.rfind" => (k_here; (with_reducible show wpAny _ _ (call (Value.builtin "str.rfind") [Value.str _ _, Value.str _ _, Value.int _ _, Value.int _ _]) _ _ _); (refine Mine.rfind4 ?_))
    k_with "exec Assign" => ((with_reducible show wpAny _ _ _ _ _ _); k_fold)
    k_with "exec Expr" => ((with_reducible show wpAny _ _ _ _ _ _); k_fold)
    k_with "exec If" => ((with_reducible show wpAny _ _ _ _ _ _); k_fold)
    k_with "exec AugAssign" => ((with_reducible show wpAny _ _ _ _ _ _); k_fold)
    k_with "exec Return" => ((with_reducible show wpAny _ _ _ _ _ _); k_fold)
    k_with "exec While" => ((with_reducible show wpAny _ _ _ _ _ _); k_fold)
    k_go0
    (all_goals try k_fold)
    (all_goals rename World => w9)
    k_with "eval BoolOp" => k_dflt ((fail_if_success (with_reducible show wpAny _ _ _ (Mine.MeetL _ _ _ _ _) _ _)); (with_reducible show wpAny _ _ (eval (Expr.BoolOp BoolOp.Or [Expr.Subscript _ _ _, Expr.List _ _] _) _) _ _ _); (rename Fr _ _ _ _ => F0); (rename News _ _ _ _ => N0); (refine' Mine.wp_meetL F0 N0 ?_ ?_); (intro l vs nn ns h9 k9 hi9 hl9 F9 N9); (clear F0 N0); (try dsimp only))
    k_with "MeetL" => k_dflt ((rename Fr _ _ _ _ => F9); (rename News _ _ _ _ => N9); first | exact Mine.meetL_end F9 N9 (Mine.Take.sub (by ((try dsimp only); repeat' (first | exact Mine.Take.nil | exact Mine.Del.head | refine' Mine.Take.blk ?_ | exact Mine.Tl.nil | exact Mine.Tl.app | refine' Mine.Take.cons ?_ ?_ | refine' Mine.Del.tail ?_ | refine' Mine.Tl.cons ?_)))) (by with_reducible assumption) (Mine.take3_len (by with_reducible assumption)) | ((refine' Mine.meetL_end (vs := [.int 0 _]) F9 N9 (Mine.Take.sub ?mltk_law0) (.cons _ _ .nil) (Nat.le_of_ble_eq_true rfl)); (case mltk_law0 => ((try dsimp only); repeat' (first | exact Mine.Take.nil | exact Mine.Del.head | refine' Mine.Take.blk ?_ | exact Mine.Tl.nil | exact Mine.Tl.app | refine' Mine.Take.cons ?_ ?_ | refine' Mine.Del.tail ?_ | refine' Mine.Tl.cons ?_)))) | (refine Mine.hold ?_))
    k_with "pyIter ref" => k_dflt (first | ((with_reducible show wpAny _ _ (pyIter (Value.ref l)) _ _ _); (rename Fr _ _ _ _ => F0); (rename News _ _ _ _ => N0); (refine' kst_listL (σ := Unit) (fun _ => [(l, W.listOf vs.toArray nn)]) (fun _ => []) (fun _ => True) ["size", "rest", "number", "sign", "faults", "way", "closed", "tail", "due", "base", "text", "reader"] (fun _ _ => True) () ?hh_law0 (fun _ => List.mem_singleton.mpr rfl) hi9 F0 N0 trivial (fun _ h => nomatch h) trivial ?turn_law0 ?done_law0); (case hh_law0 => exact rfl); (case' turn_law0 => (intro c pre post z0 tz u hh9 tk9 own hns hmem hoff hf9 hp9 Ft Nt; (try clear F0 N0); (try dsimp only [List.cons_append, List.nil_append] at Ft); (try dsimp only [List.cons_append, List.nil_append] at Nt))); (case' done_law0 => (intro c u hh9 tk9 hf9 hp9 Ft Nt; (try clear F0 N0); (try dsimp only at Ft); (try dsimp only at Nt)))) | ((with_reducible show wpAny _ _ (pyIter (Value.ref _)) (fun it s₂ => LoopAtV _ _ _ _ _ _ [Stmt.Assign [Expr.Name _ _] (Expr.BinOp _ _ _ _) _, _, _, _, _] _ _ it s₂) _ _); (rename Fr _ _ _ _ => F0); (rename News _ _ _ _ => N0); (refine' Mine.kst_two (n1 := 10) (n2 := 16) (nn := 0) ["text", "reader"] ((dq, W.listOf ds.toArray nds) :: (cq, ocq) :: (a', oa') :: (b', ob') :: (l, W.listOf vs.toArray nn) :: own) ?hh2_law0 F0 (kst_newsOf N0 ?sub2_law0) ?turn2_law0 ?done2_law0); (case hh2_law0 => exact rfl); (case sub2_law0 => (intro p hp; (repeat (rcases List.mem_cons.mp hp with rfl | hp; focus (repeat (first | exact List.Mem.head _ | refine List.Mem.tail _ ?_)))); repeat (first | exact hp | refine List.mem_cons_of_mem _ ?_))); (case' turn2_law0 => (intro nb tb u2 hh8 tk8 own2 pre2 hmem2 Ft2 Nt2; (try clear F0 N0); (try dsimp only [List.cons_append, List.nil_append] at Ft2); (try dsimp only [List.cons_append, List.nil_append] at Nt2); rcases hmem2 with e9 | e9 <;> subst e9)); (case' done2_law0 => (intro u2 hh8 tk8 Ft2 Nt2; (try clear F0 N0); (try dsimp only at Ft2); (try dsimp only at Nt2)))))
    k_with "eval Subscript" => k_dflt ((fail_if_success (with_reducible show wpAny _ _ _ (Mine.MeetV _ _ _ _ _ _) _ _)); first | ((with_reducible show wpAny _ _ (eval (Expr.Subscript (Expr.List [_, _, _, _] _) _ _) _) _ _ _); (rename Fr _ _ _ _ => F0); (rename News _ _ _ _ => N0); (refine' Mine.wp_meetV (fun v => ∃ z t, v = .int z t ∧ 0 ≤ z ∧ z ≤ 1000000000000000000000000) F0 N0 ?_ ?_); (intro v9 h9 k9 hv9 F9 N9); (clear F0 N0); (obtain ⟨z, tz, rfl, hz0, hz1⟩ := hv9); (try dsimp only)) | ((with_reducible show wpAny _ _ (eval (Expr.Subscript (Expr.Call (Expr.Name _ _) [] [] _) (Expr.BinOp _ _ (Expr.IfExp _ _ _ _) _) _) _) _ _ _); (rename Fr _ _ _ _ => F0); (rename News _ _ _ _ => N0); (refine' Mine.wp_meetV (fun v => ∃ x t, v = .str x t ∧ TailIs cl x) F0 N0 ?_ ?_); (intro v9 h9 k9 hv9 F9 N9); (clear F0 N0); (obtain ⟨tl, ttl, rfl, htl⟩ := hv9); (try dsimp only)))
    k_with "eval BinOp" => k_dflt (first | ((fail_if_success (with_reducible show wpAny _ _ _ (Mine.MeetV _ _ _ _ _ _) _ _)); (with_reducible show wpAny _ _ (eval (Expr.BinOp (Expr.BinOp (Expr.BinOp (Expr.BinOp _ Operator.Mult _ _) Operator.Add (Expr.Call _ _ _ _) _) Operator.Add (Expr.IfExp _ _ _ _) _) Operator.Add (Expr.Name _ _) _) _) _ _ _); (rename Fr _ _ _ _ => F0); (rename News _ _ _ _ => N0); first | ((have q9 := Mine.base_is (b := 10) F0 rfl); (refine' Mine.wp_meetV (fun v => ∃ x t, v = .str x t ∧ TextIs false cl z tl x) F0 N0 ?_ ?_); (intro v9 h9 k9 hv9 F9 N9); (clear F0 N0); (obtain ⟨tx, ttx, rfl, htx⟩ := hv9); (try dsimp only)) | ((have q9 := Mine.base_is (b := 16) F0 rfl); (refine' Mine.wp_meetV (fun v => ∃ x t, v = .str x t ∧ TextIs true cl z tl x) F0 N0 ?_ ?_); (intro v9 h9 k9 hv9 F9 N9); (clear F0 N0); (obtain ⟨tx, ttx, rfl, htx⟩ := hv9); (try dsimp only))) | ((fail_if_success (with_reducible show wpAny _ _ _ (Mine.MeetV _ _ _ _ _ _) _ _)); ((with_reducible show wpAny _ _ (eval (Expr.BinOp (Expr.BinOp (Expr.Name _ _) Operator.FloorDiv (Expr.Constant (Const.int 7) _ _) _) Operator.Mod _ _) _) _ _ _); (rename Fr _ _ _ _ => F0); (rename News _ _ _ _ => N0); (refine' Mine.wp_meetV (fun v => ∃ y t, v = .int y t ∧ 0 ≤ y) F0 N0 ?_ ?_); (intro v9 h9 k9 hv9 F9 N9); (clear F0 N0); (obtain ⟨way, tway, rfl, hway⟩ := hv9); (try dsimp only))) | ((fail_if_success (with_reducible show wpAny _ _ _ (Mine.MeetD _ _ _ _ _ _) _ _)); (with_reducible show wpAny _ _ (eval (Expr.BinOp (Expr.Name _ _) Operator.Add (Expr.IfExp _ _ _ _) _) _) _ _ _); (rename Fr _ _ _ _ => F0); (rename News _ _ _ _ => N0); (refine' Mine.wp_meetD (fun v a oa b ob => ∃ ds n, v = .ref a ∧ oa = W.listOf ds.toArray n ∧ Adds PySem.Challenge.rw_te0076_03.row.prog w9 z (!cl) a' b' b oa' ob' ob ds) F0 N0 ?_ ?_); (intro v9 dq odq cq ocq h9 k9 hv9 F9 N9); (clear F0 N0); (obtain ⟨ds, nds, rfl, rfl, hadd⟩ := hv9); (try dsimp only)))
    k_with "eval Compare" => k_dflt ((fail_if_success (with_reducible show wpAny _ _ _ (Mine.MeetV _ _ _ _ _ _) _ _)); ((with_reducible show wpAny _ _ (eval (Expr.Compare (Expr.BinOp (Expr.BinOp _ _ _ _) _ _ _) [CmpOp.Eq] [Expr.Constant _ _ _] _) _) _ _ _); (rename Fr _ _ _ _ => F0); (rename News _ _ _ _ => N0); (refine' Mine.wp_meetV (fun v => ∃ b, v = .bool b) F0 N0 ?_ ?_); (intro v9 h9 k9 hv9 F9 N9); (clear F0 N0); (obtain ⟨cl, rfl⟩ := hv9); (try dsimp only)))
    k_with "call ref" => (first | ((k_here; (with_reducible show wpAny _ _ (call (Value.ref 780) _ _) _ _ _); k_dflt (refine' Mine.CtrC.call (ctr_lsign ?p1_law0 ?p2_law0) _ _ _ _ _ _ _ _ _ _ _ _ ?cB_law0 ?cF_law0 ?cX_law0 ?cN_law0 ?cT_law0 ?ca_law0 ?cb_law0 ?cc_law0 ?ce_law0 ?cd_law0 ?cu_law0 ?cne_law0 ?_; (case cB_law0 => k_asm); (case cF_law0 => k_asm); (case cX_law0 => k_asm); (case cT_law0 => k_asm); (case ca_law0 => exact rfl); (case cb_law0 => exact rfl); (case cc_law0 => exact rfl); (case ce_law0 => exact rfl); (case cd_law0 => exact Nat.le_of_ble_eq_true rfl); (case cu_law0 => exact Nat.le_of_ble_eq_true rfl); (case cN_law0 => (refine' Mine.Take.news ?tk_law0 ?nn_law0; (case nn_law0 => k_asm); (case tk_law0 => (try (refine' Mine.Take.cons ?_ ?_)); repeat' (first | exact Mine.Take.nil | exact Mine.Del.head | refine' Mine.Take.cons ?_ ?_ | refine' Mine.Del.tail ?_)))); (case cne_law0 => first | exact List.forall_mem_nil _ | exact (fun _ _ => List.forall_mem_nil _) | ((simp only [List.forall_mem_cons, List.not_mem_nil, false_implies, implies_true, and_true, true_and]); (repeat' (refine And.intro ?_ ?_)); all_goals k_ne)); (case p1_law0 => with_reducible assumption); (case p2_law0 => with_reducible assumption); (k_whole; intro v' fr' l' h' tk' hp' htk' hfr' F' N'; obtain ⟨e3', q', lf', a', b', oa', ob', fs', n', t', e1', e2', hfs', hfo', hla', hlb'⟩ := hp'; subst e3'; subst e1'; subst e2'; (simp only [List.cons_append, List.nil_append, List.forall_mem_cons, List.not_mem_nil, false_implies, implies_true, and_true, true_and] at hfr'); (try dsimp only at htk'); (try dsimp only [List.cons_append, List.nil_append] at N'); (try k_sweep); (try dsimp only); (try k_fold))))) | ((with_reducible show wpAny _ _ (call (Value.ref 762) _ _) _ _ _); k_dflt (refine' call_tok (Mine.TextIs.len htx htl) (Mine.TextIs.small htx htl) ?cB_law0 ?cF_law0 ?cX_law0 ?cT_law0 ?ca_law0 ?cb_law0 ?cc_law0 ?ce_law0 ?cd_law0 ?cu_law0 ?cN_law0  ?_; (case cB_law0 => k_asm); (case cF_law0 => k_asm); (case cX_law0 => k_asm); (case cT_law0 => k_asm); (case ca_law0 => exact rfl); (case cb_law0 => exact rfl); (case cc_law0 => exact rfl); (case ce_law0 => exact rfl); (case cd_law0 => exact Nat.le_of_ble_eq_true rfl); (case cu_law0 => exact Nat.le_of_ble_eq_true rfl); (case cN_law0 => k_asm); k_whole; intro K Z y0 h' tk' ho hzo hown' ok' hrem' htk' F' N'; have hzs := Nat.lt_trans hzo.1 hzo.2; have hzz := hzo.1; have hza := hzo.2; obtain ⟨ds0, r0, hL9, h09, hr09, hne9, hn9, hzz9, hsb9, haf9⟩ := (Mine.TextIs.seen hz0 htx htl).ex; (try dsimp only at htk'); (try dsimp only [List.cons_append, List.nil_append] at N'); (try k_sweep); (try dsimp only); (try k_fold))) | ((with_reducible show wpAny _ _ (call (Value.ref 275) [Value.ref _, Value.bool _] _) _ _ _); k_dflt (refine' call_cne (qs := []) ho ?hkk_law0 ok' (hrem'.trans hL9) h09 hr09 hne9 hn9 hzz9 hz0 (Nat.zero_le _) ?cB_law0 ?cF_law0 ?cX_law0 ?cT_law0 ?ca_law0 ?cb_law0 ?cc_law0 ?ce_law0 ?cd_law0 ?cu_law0 ?cN_law0 ?tk_law0 ?ne_law0 ?_; (case cB_law0 => k_asm); (case cF_law0 => k_asm); (case cX_law0 => k_asm); (case cT_law0 => k_asm); (case ca_law0 => exact rfl); (case cb_law0 => exact rfl); (case cc_law0 => exact rfl); (case ce_law0 => exact rfl); (case cd_law0 => exact Nat.le_of_ble_eq_true rfl); (case cu_law0 => exact Nat.le_of_ble_eq_true rfl); (case cN_law0 => k_asm); (case tk_law0 => ((try dsimp only); repeat' (first | exact Mine.Take.nil | exact Mine.Del.head | refine' Mine.Take.blk ?_ | exact Mine.Tl.nil | exact Mine.Tl.app | refine' Mine.Take.cons ?_ ?_ | refine' Mine.Del.tail ?_ | refine' Mine.Tl.cons ?_))); (case hkk_law0 => exact ⟨hzo.1, hzo.2, (Mine.Ks.er_lt (by with_reducible assumption) (fun p9 hp9 => by repeat (first | exact hp9 | exact List.mem_append_right _ hp9 | refine List.mem_cons_of_mem _ ?_)))⟩); (case ne_law0 => exact (fun p9 hp9 => .inl (hown' p9 (by repeat (first | exact hp9 | refine List.mem_cons_of_mem _ ?_))))); k_whole; intro y1 aa bb cc oaa obb occ adds nadd tadd h' tk' ok1' hrem1' hle' hers' hadd1 htk' F' N'; obtain ⟨hker, haa, hbb, hcc⟩ := hers'; (try dsimp only at htk'); (try dsimp only [List.cons_append, List.nil_append] at N'); (try k_sweep); (try dsimp only); (try k_fold))) | ((with_reducible show wpAny _ _ (call (Value.ref 156) [Value.ref _, Value.ref _] _) _ _ _); k_dflt (refine' call_until (vs0 := []) (ys0 := []) (al := fun _ => false) ho ?hoq_law0 ok1' .nil (fun _ => rfl) ?cB_law0 ?cF_law0 ?cX_law0 ?cT_law0 ?ca_law0 ?cb_law0 ?cc_law0 ?ce_law0 ?cd_law0 ?cu_law0 ?cN_law0 ?tk_law0 ?ne_law0 ?nq_law0 ?_; (case cB_law0 => k_asm); (case cF_law0 => k_asm); (case cX_law0 => k_asm); (case cT_law0 => k_asm); (case ca_law0 => exact rfl); (case cb_law0 => exact rfl); (case cc_law0 => exact rfl); (case ce_law0 => exact rfl); (case cd_law0 => exact Nat.le_of_ble_eq_true rfl); (case cu_law0 => exact Nat.le_of_ble_eq_true rfl); (case cN_law0 => k_asm); (case tk_law0 => ((try dsimp only); repeat' (first | exact Mine.Take.nil | exact Mine.Del.head | refine' Mine.Take.blk ?_ | exact Mine.Tl.nil | exact Mine.Tl.app | refine' Mine.Take.cons ?_ ?_ | refine' Mine.Del.tail ?_ | refine' Mine.Tl.cons ?_))); (case hoq_law0 => exact (Mine.Ks.er_lt (by with_reducible assumption) (fun p9 hp9 => by repeat (first | exact hp9 | exact List.mem_append_right _ hp9 | refine List.mem_cons_of_mem _ ?_)))); (case ne_law0 => repeat' (first | exact Mine.Outs.nil | refine' Mine.Outs.hi (by with_reducible assumption) ?_ | refine' Mine.Outs.lo (by with_reducible assumption) ?_ | exact Mine.Outs.sub hown' (Nat.le_of_lt hzs) (fun p9 hp9 => by repeat (first | exact hp9 | refine List.mem_cons_of_mem _ ?_)))); (case nq_law0 => (refine' Mine.Tl.lt (T := K.led _ y1) ?nq1_law0 ?nq2_law0; (case nq1_law0 => with_reducible assumption); (case nq2_law0 => repeat' (first | exact Mine.Tl.nil | exact Mine.Tl.app | refine' Mine.Tl.cons ?_)))); k_whole; intro y2 pp tpp h' tk' ok2' hrem2' hal2' hst2' htk' F' N'; have htll' : tl.length ≤ 10000 := Nat.le_trans htl.len (Nat.le_of_ble_eq_true rfl); (try dsimp only at htk'); (try dsimp only [List.cons_append, List.nil_append] at N'); (try k_sweep); (try dsimp only); (try k_fold))) | (refine Mine.hold ?_))
    k_with "compareOp NotEq str str" => k_dflt ((with_reducible show wpAny _ _ (compareOp CmpOp.NotEq (Value.str _ _) (Value.str _ _)) _ _ _); (first | (refine Mine.ne_txt rfl ?_) | (refine Mine.ne_txt (Mine.rest_eq hrem2' hst2' hrem1' haf9) ?_)))
    k_with "compareOp NotEq ref ref" => k_dflt ((with_reducible show wpAny _ _ (compareOp CmpOp.NotEq (Value.ref _) (Value.ref _)) _ _ _); (refine' Mine.law_ne (qs := []) ?N_law0 ?m1_law0 rfl ?m2_law0 ?m3_law0 ?m4_law0 (hsb9 ▸ hadd1) ?m5_law0 ?m6_law0 ?m7_law0 ?m8_law0 hadd ?hu_law0 ?_; (case N_law0 => k_asm); (case hu_law0 => exact Nat.le_of_ble_eq_true rfl); (case m1_law0 => k_mem); (case m2_law0 => k_mem); (case m3_law0 => k_mem); (case m4_law0 => k_mem); (case m5_law0 => k_mem); (case m6_law0 => k_mem); (case m7_law0 => k_mem); (case m8_law0 => k_mem); k_whole))
    k_with "MeetV" => k_dflt ((rename Fr _ _ _ _ => F9); (rename News _ _ _ _ => N9); first | ((with_reducible show Mine.MeetV _ _ _ _ (fun v => ∃ z t, v = Value.int z t ∧ 0 ≤ z ∧ z ≤ _) _ _ _); exact Mine.meetV_end F9 N9 (by intro p hp; repeat (first | exact hp | refine List.mem_cons_of_mem _ ?_)) ⟨_, _, rfl, (Mine.num_ok rfl).1, (Mine.num_ok rfl).2⟩) | ((with_reducible show Mine.MeetV _ _ _ _ (fun v => ∃ b, v = Value.bool b) _ _ _); exact Mine.meetV_end F9 N9 (by intro p hp; repeat (first | exact hp | refine List.mem_cons_of_mem _ ?_)) ⟨_, rfl⟩) | ((with_reducible show Mine.MeetV _ _ _ _ (fun v => ∃ y t, v = Value.int y t ∧ 0 ≤ y) _ _ _); exact Mine.meetV_end F9 N9 (by intro p hp; repeat (first | exact hp | refine List.mem_cons_of_mem _ ?_)) ⟨_, _, rfl, Int.fmod_nonneg_of_pos _ (by decide)⟩) | ((with_reducible show Mine.MeetV _ _ _ _ (fun v => ∃ x t, v = Value.str x t ∧ TailIs _ x) _ _ _); exact Mine.meetV_end F9 N9 (by intro p hp; repeat (first | exact hp | refine List.mem_cons_of_mem _ ?_)) ⟨_, _, rfl, Mine.tail_cast (by with_reducible assumption) (by with_reducible assumption)⟩) | ((with_reducible show Mine.MeetV _ _ _ _ (fun v => ∃ x t, v = Value.str x t ∧ TextIs _ _ _ _ x) _ _ _); exact Mine.meetV_end F9 N9 (by intro p hp; repeat (first | exact hp | refine List.mem_cons_of_mem _ ?_)) ⟨_, _, rfl, by with_reducible assumption⟩) | (refine Mine.hold ?_))
    k_with "binaryOp Add ref ref" => k_dflt ((with_reducible show wpAny _ _ (binaryOp Operator.Add (Value.ref lf') (Value.ref _)) _ _ _); (refine Mine.add_fs (by k_asm) (by k_asm) (by k_mem) (by k_mem) (Nat.add_le_add (Mine.fs_len hfs') (Nat.le_of_ble_eq_true rfl : _ ≤ 99)) ?_); (intro D9 h9 F9 N9 l9); (try k_lt l9))
    k_with "InvEndN" => k_dflt ((rename Fr _ _ _ _ => F9); (rename News _ _ _ _ => N9); first | ((with_reducible show InvEndN _ _ (KstS _ _ _ _ ["text", "reader"] _ _ _) _ _ _ _); first | ((have q9 : 10 = 10 := rfl); (refine' kst_end (σ := Unit) () F9 N9 ?ehn1_law0 ?eho1_law0 rfl trivial (fun _ h => nomatch h) ?ehr1_law0 trivial); (case ehn1_law0 => ((repeat' (first | exact List.forall_mem_nil _ | refine List.forall_mem_cons.mpr ⟨?_, ?_⟩)); (all_goals (first | ((repeat (first | exact List.Mem.head _ | refine List.Mem.tail _ ?_)); done) | (intro x9 hx9; (repeat (first | exact hx9 | exact List.mem_append_left _ (List.mem_append_left _ hx9) | exact List.mem_append_left _ hx9 | refine List.Mem.tail _ ?_))))))); (case eho1_law0 => (intro p hp; (repeat (first | exact hp | exact List.mem_append_left _ (List.mem_append_right _ hp) | exact List.mem_append_right _ hp | refine List.mem_cons_of_mem _ ?_)))); (case ehr1_law0 => (intro z9 hz9 hz77 hz8; (have hy0 : z9 ≠ Str.ofString "text" := fun e => by (subst e; exact absurd hz8 (by decide))); (have hy1 : z9 ≠ Str.ofString "reader" := fun e => by (subst e; exact absurd hz8 (by decide))); exact (if_neg hy1).trans ((if_neg hy0).trans ((if_neg hz9).trans (by (show (if List.contains _ z9 = true then _ else _) = _); rw [hz8]; rfl)))))) | ((refine' kst_end (σ := Unit) () F9 N9 ?ehn2_law0 ?eho2_law0 rfl trivial (fun _ h => nomatch h) ?ehr2_law0 trivial); (case ehn2_law0 => ((repeat' (first | exact List.forall_mem_nil _ | refine List.forall_mem_cons.mpr ⟨?_, ?_⟩)); (all_goals (first | ((repeat (first | exact List.Mem.head _ | refine List.Mem.tail _ ?_)); done) | (intro x9 hx9; (repeat (first | exact hx9 | exact List.mem_append_left _ (List.mem_append_left _ hx9) | exact List.mem_append_left _ hx9 | refine List.Mem.tail _ ?_))))))); (case eho2_law0 => (intro p hp; (repeat (first | exact hp | exact List.mem_append_left _ (List.mem_append_right _ hp) | exact List.mem_append_right _ hp | refine List.mem_cons_of_mem _ ?_)))); (case ehr2_law0 => (intro z9 hz9 hz77 hz8; (have hy0 : z9 ≠ Str.ofString "text" := fun e => by (subst e; exact absurd hz8 (by decide))); (have hy1 : z9 ≠ Str.ofString "reader" := fun e => by (subst e; exact absurd hz8 (by decide))); exact (if_neg hy1).trans ((if_neg hy0).trans ((if_neg hz9).trans (by (show (if List.contains _ z9 = true then _ else _) = _); rw [hz8]; rfl))))))) | ((refine' kst_end (σ := Unit) () F9 N9 ?ehn3_law0 ?eho3_law0 rfl trivial (fun _ h => nomatch h) ?ehr3_law0 trivial); (case ehn3_law0 => ((repeat' (first | exact List.forall_mem_nil _ | refine List.forall_mem_cons.mpr ⟨?_, ?_⟩)); (all_goals (first | ((repeat (first | exact List.Mem.head _ | refine List.Mem.tail _ ?_)); done) | (intro x9 hx9; (repeat (first | exact hx9 | exact List.mem_append_left _ (List.mem_append_left _ hx9) | exact List.mem_append_left _ hx9 | refine List.Mem.tail _ ?_))))))); (case eho3_law0 => (intro p hp; (repeat (first | exact hp | exact List.mem_append_left _ (List.mem_append_right _ hp) | exact List.mem_append_right _ hp | refine List.mem_cons_of_mem _ ?_)))); (case ehr3_law0 => (intro z9 hz9 hz77 hz8; (have hy0 : z9 ≠ Str.ofString "size" := fun e => by (subst e; exact absurd hz8 (by decide))); (have hy1 : z9 ≠ Str.ofString "rest" := fun e => by (subst e; exact absurd hz8 (by decide))); (have hy2 : z9 ≠ Str.ofString "number" := fun e => by (subst e; exact absurd hz8 (by decide))); (have hy3 : z9 ≠ Str.ofString "sign" := fun e => by (subst e; exact absurd hz8 (by decide))); (have hy4 : z9 ≠ Str.ofString "faults" := fun e => by (subst e; exact absurd hz8 (by decide))); (have hy5 : z9 ≠ Str.ofString "way" := fun e => by (subst e; exact absurd hz8 (by decide))); (have hy6 : z9 ≠ Str.ofString "closed" := fun e => by (subst e; exact absurd hz8 (by decide))); (have hy7 : z9 ≠ Str.ofString "tail" := fun e => by (subst e; exact absurd hz8 (by decide))); (have hy8 : z9 ≠ Str.ofString "due" := fun e => by (subst e; exact absurd hz8 (by decide))); (have hy9 : z9 ≠ Str.ofString "base" := fun e => by (subst e; exact absurd hz8 (by decide))); (have hy10 : z9 ≠ Str.ofString "text" := fun e => by (subst e; exact absurd hz8 (by decide))); (have hy11 : z9 ≠ Str.ofString "reader" := fun e => by (subst e; exact absurd hz8 (by decide))); (have hc2 : List.contains [Str.ofString "text", Str.ofString "reader"] z9 = false := by simp [hy10, hy11]); (simp only [kstB, hz8, hz9, hc2, hy0, hy1, hy2, hy3, hy4, hy5, hy6, hy7, hy8, hy9, hy10, hy11, if_false, Bool.false_eq_true, Bool.not_eq_true])))) | (refine Mine.hold ?_))
    k_with "binaryOp Add str str" => k_dflt ((with_reducible show wpAny _ _ (binaryOp Operator.Add (Value.str _ _) (Value.str _ _)) _ _ _); first
      | ((with_reducible show wpAny _ _ (binaryOp Operator.Add (Value.str (Txt.mul _ _) _) (Value.str _ _)) _ _ _); (refine Mine.sum1 (by with_reducible assumption) ?_); intro p9 t9 k9 hp9)
      | ((with_reducible show wpAny _ _ (binaryOp Operator.Add (Value.str _ _) (Value.str (Str.ofString ";") _)) _ _ _); (have q9 : cl = true := by with_reducible assumption); (refine Mine.sum2a (by with_reducible assumption) q9 ?_); intro p9 t9 k9 hp9)
      | ((with_reducible show wpAny _ _ (binaryOp Operator.Add (Value.str _ _) (Value.str (Str.ofString "") _)) _ _ _); (have q9 : cl = false := by with_reducible assumption); (refine Mine.sum2b (by with_reducible assumption) q9 ?_); intro p9 t9 k9 hp9)
      | ((refine Mine.sum3 (by with_reducible assumption) htl ?_); intro p9 t9 k9 hp9))
    k_with "MeetD" => k_dflt ((rename Fr _ _ _ _ => F9); (rename News _ _ _ _ => N9); first | exact Mine.meetD_closed F9 N9 ⟨_, _, rfl, rfl, Mine.adds_closed (by with_reducible assumption) hfs' hfo' hla' hlb'⟩ | exact Mine.meetD_open F9 N9 ⟨_, _, rfl, rfl, Mine.adds_open (by with_reducible assumption) hfs' hfo' hla' hlb' ⟨_, _, by assumption⟩ (by assumption)⟩ | (refine Mine.hold ?_))
    k_with "call ref" => (k_here; (with_reducible show wpAny _ _ (call (Value.ref 787) _ _) _ _ _); k_dflt (refine' Mine.CtrC.call ctr_ledges _ _ _ _ _ _ _ _ _ _ _ _ ?cB_law0 ?cF_law0 ?cX_law0 ?cN_law0 ?cT_law0 ?ca_law0 ?cb_law0 ?cc_law0 ?ce_law0 ?cd_law0 ?cu_law0 ?cne_law0 ?_; (case cB_law0 => k_asm); (case cF_law0 => k_asm); (case cX_law0 => k_asm); (case cT_law0 => k_asm); (case ca_law0 => exact rfl); (case cb_law0 => exact rfl); (case cc_law0 => exact rfl); (case ce_law0 => exact rfl); (case cd_law0 => exact Nat.le_of_ble_eq_true rfl); (case cu_law0 => exact Nat.le_of_ble_eq_true rfl); (case cN_law0 => (refine' Mine.Take.news ?tk_law0 ?nn_law0; (case nn_law0 => k_asm); (case tk_law0 => (try (refine' Mine.Take.cons ?_ ?_)); repeat' (first | exact Mine.Take.nil | exact Mine.Del.head | refine' Mine.Take.cons ?_ ?_ | refine' Mine.Del.tail ?_)))); (case cne_law0 => first | exact List.forall_mem_nil _ | exact (fun _ _ => List.forall_mem_nil _) | ((simp only [List.forall_mem_cons, List.not_mem_nil, false_implies, implies_true, and_true, true_and]); (repeat' (refine And.intro ?_ ?_)); all_goals k_ne)); (k_whole; intro v' fr' l' h' tk' hp' htk' hfr' F' N'; obtain ⟨e3', q', vs', n', e1', e2', hi'⟩ := hp'; subst e3'; subst e1'; subst e2'; (simp only [List.cons_append, List.nil_append, List.forall_mem_cons, List.not_mem_nil, false_implies, implies_true, and_true, true_and] at hfr'); (try dsimp only at htk'); (try dsimp only [List.cons_append, List.nil_append] at N'); (try k_sweep); (try dsimp only); (try k_fold))))
    k_with "call ref" => (k_here; (with_reducible show wpAny _ _ (call (Value.ref 794) _ _) _ _ _); k_dflt (refine' Mine.CtrC.call ctr_ltails _ _ _ _ _ _ _ _ _ _ _ _ ?cB_law0 ?cF_law0 ?cX_law0 ?cN_law0 ?cT_law0 ?ca_law0 ?cb_law0 ?cc_law0 ?ce_law0 ?cd_law0 ?cu_law0 ?cne_law0 ?_; (case cB_law0 => k_asm); (case cF_law0 => k_asm); (case cX_law0 => k_asm); (case cT_law0 => k_asm); (case ca_law0 => exact rfl); (case cb_law0 => exact rfl); (case cc_law0 => exact rfl); (case ce_law0 => exact rfl); (case cd_law0 => exact Nat.le_of_ble_eq_true rfl); (case cu_law0 => exact Nat.le_of_ble_eq_true rfl); (case cN_law0 => (refine' Mine.Take.news ?tk_law0 ?nn_law0; (case nn_law0 => k_asm); (case tk_law0 => (try (refine' Mine.Take.cons ?_ ?_)); repeat' (first | exact Mine.Take.nil | exact Mine.Del.head | refine' Mine.Take.cons ?_ ?_ | refine' Mine.Del.tail ?_)))); (case cne_law0 => first | exact List.forall_mem_nil _ | exact (fun _ _ => List.forall_mem_nil _) | ((simp only [List.forall_mem_cons, List.not_mem_nil, false_implies, implies_true, and_true, true_and]); (repeat' (refine And.intro ?_ ?_)); all_goals k_ne)); (k_whole; intro v' fr' l' h' tk' hp' htk' hfr' F' N'; obtain ⟨e3', q', vs', n', e1', e2', hs'⟩ := hp'; subst e3'; subst e1'; subst e2'; (simp only [List.cons_append, List.nil_append, List.forall_mem_cons, List.not_mem_nil, false_implies, implies_true, and_true, true_and] at hfr'); (try dsimp only at htk'); (try dsimp only [List.cons_append, List.nil_append] at N'); (try k_sweep); (try dsimp only); (try k_fold))))
    k_with "subscriptTail" => (k_here; first
    | ((with_reducible show wpAny _ _ (subscriptTail _ _ (Value.ref _) (Value.int (Int.fmod _ 12) _)) _ _ _); k_dflt (refine' Mine.item_tail12 ?N_law0 ?m_law0 ?h_law0 ?_; (case N_law0 => k_asm); (case m_law0 => k_mem); (case h_law0 => with_reducible assumption); k_whole); intro x9 t9 hx9)
    | ((with_reducible show wpAny _ _ (subscriptTail _ _ (Value.ref _) (Value.int (Int.fmod _ 8) _)) _ _ _); k_dflt (refine' Mine.item_tail8 ?N_law0 ?m_law0 ?h_law0 ?_; (case N_law0 => k_asm); (case m_law0 => k_mem); (case h_law0 => with_reducible assumption); k_whole); intro x9 t9 hx9))
    k_with "call ref" => (k_here; (with_reducible show wpAny _ _ (call (Value.ref 773) [Value.str _ _] _) _ _ _); k_dflt (refine' Mine.CtrC.call ctr_lfault _ _ _ _ _ _ _ _ _ _ _ _ ?cB_law0 ?cF_law0 ?cX_law0 ?cN_law0 ?cT_law0 ?ca_law0 ?cb_law0 ?cc_law0 ?ce_law0 ?cd_law0 ?cu_law0 ?cne_law0 ?_; (case cB_law0 => k_asm); (case cF_law0 => k_asm); (case cX_law0 => k_asm); (case cT_law0 => k_asm); (case ca_law0 => exact rfl); (case cb_law0 => exact rfl); (case cc_law0 => exact rfl); (case ce_law0 => exact rfl); (case cd_law0 => exact Nat.le_of_ble_eq_true rfl); (case cu_law0 => exact Nat.le_of_ble_eq_true rfl); (case cN_law0 => (refine' Mine.Take.news ?tk_law0 ?nn_law0; (case nn_law0 => k_asm); (case tk_law0 => (try (refine' Mine.Take.cons ?_ ?_)); repeat' (first | exact Mine.Take.nil | exact Mine.Del.head | refine' Mine.Take.cons ?_ ?_ | refine' Mine.Del.tail ?_)))); (case cne_law0 => first | exact List.forall_mem_nil _ | exact (fun _ _ => List.forall_mem_nil _) | ((simp only [List.forall_mem_cons, List.not_mem_nil, false_implies, implies_true, and_true, true_and]); (repeat' (refine And.intro ?_ ?_)); all_goals k_ne)); (k_whole; intro v' fr' l' h' tk' hp' htk' hfr' F' N'; obtain ⟨e3', d', o', e1', e2', hlo', ta', tb', hd'⟩ := hp'; subst e3'; subst e1'; subst e2'; (simp only [List.cons_append, List.nil_append, List.forall_mem_cons, List.not_mem_nil, false_implies, implies_true, and_true, true_and] at hfr'); (try dsimp only at htk'); (try dsimp only [List.cons_append, List.nil_append] at N'); (try k_sweep); (try dsimp only); (try k_fold))))
    k_with "call ref" => (k_here; (with_reducible show wpAny _ _ (call (Value.ref 801) [Value.int _ _, Value.int 10 _, Value.int _ _] _) _ _ _); k_dflt (refine' Mine.CtrC.call (ctr_lwD ?p1_law0 ?p2_law0 ?p3_law0) _ _ _ _ _ _ _ _ _ _ _ _ ?cB_law0 ?cF_law0 ?cX_law0 ?cN_law0 ?cT_law0 ?ca_law0 ?cb_law0 ?cc_law0 ?ce_law0 ?cd_law0 ?cu_law0 ?cne_law0 ?_; (case cB_law0 => k_asm); (case cF_law0 => k_asm); (case cX_law0 => k_asm); (case cT_law0 => k_asm); (case ca_law0 => exact rfl); (case cb_law0 => exact rfl); (case cc_law0 => exact rfl); (case ce_law0 => exact rfl); (case cd_law0 => exact Nat.le_of_ble_eq_true rfl); (case cu_law0 => exact Nat.le_of_ble_eq_true rfl); (case cN_law0 => (refine' Mine.Take.news ?tk_law0 ?nn_law0; (case nn_law0 => k_asm); (case tk_law0 => (try (refine' Mine.Take.cons ?_ ?_)); repeat' (first | exact Mine.Take.nil | exact Mine.Del.head | refine' Mine.Take.cons ?_ ?_ | refine' Mine.Del.tail ?_)))); (case cne_law0 => first | exact List.forall_mem_nil _ | exact (fun _ _ => List.forall_mem_nil _) | ((simp only [List.forall_mem_cons, List.not_mem_nil, false_implies, implies_true, and_true, true_and]); (repeat' (refine And.intro ?_ ?_)); all_goals k_ne)); (case p1_law0 => with_reducible assumption); (case p2_law0 => with_reducible assumption); (case p3_law0 => with_reducible assumption); (k_whole; intro v' fr' l' h' tk' hp' htk' hfr' F' N'; obtain ⟨e0', ⟨x', t', e1', hx', e2'⟩⟩ := hp'; subst e0'; subst e1'; subst e2'; (clear hfr'); (try dsimp only at htk'); (try dsimp only [List.cons_append, List.nil_append] at N'); (try k_sweep); (try dsimp only); (try k_fold))))
    k_with "call ref" => (k_here; (with_reducible show wpAny _ _ (call (Value.ref 801) [Value.int _ _, Value.int 16 _, Value.int _ _] _) _ _ _); k_dflt (refine' Mine.CtrC.call (ctr_lwH ?p1_law0 ?p2_law0 ?p3_law0) _ _ _ _ _ _ _ _ _ _ _ _ ?cB_law0 ?cF_law0 ?cX_law0 ?cN_law0 ?cT_law0 ?ca_law0 ?cb_law0 ?cc_law0 ?ce_law0 ?cd_law0 ?cu_law0 ?cne_law0 ?_; (case cB_law0 => k_asm); (case cF_law0 => k_asm); (case cX_law0 => k_asm); (case cT_law0 => k_asm); (case ca_law0 => exact rfl); (case cb_law0 => exact rfl); (case cc_law0 => exact rfl); (case ce_law0 => exact rfl); (case cd_law0 => exact Nat.le_of_ble_eq_true rfl); (case cu_law0 => exact Nat.le_of_ble_eq_true rfl); (case cN_law0 => (refine' Mine.Take.news ?tk_law0 ?nn_law0; (case nn_law0 => k_asm); (case tk_law0 => (try (refine' Mine.Take.cons ?_ ?_)); repeat' (first | exact Mine.Take.nil | exact Mine.Del.head | refine' Mine.Take.cons ?_ ?_ | refine' Mine.Del.tail ?_)))); (case cne_law0 => first | exact List.forall_mem_nil _ | exact (fun _ _ => List.forall_mem_nil _) | ((simp only [List.forall_mem_cons, List.not_mem_nil, false_implies, implies_true, and_true, true_and]); (repeat' (refine And.intro ?_ ?_)); all_goals k_ne)); (case p1_law0 => with_reducible assumption); (case p2_law0 => with_reducible assumption); (case p3_law0 => with_reducible assumption); (k_whole; intro v' fr' l' h' tk' hp' htk' hfr' F' N'; obtain ⟨e0', ⟨x', t', e1', hx', e2'⟩⟩ := hp'; subst e0'; subst e1'; subst e2'; (clear hfr'); (try dsimp only at htk'); (try dsimp only [List.cons_append, List.nil_append] at N'); (try k_sweep); (try dsimp only); (try k_fold))))
    k_with "getMethod ref" => (k_here; (with_reducible show wpAny _ _ (getMethod (Value.ref (Mine.Ks.st _)) _ _) _ _ _); k_dflt (refine' Mine.meth_blk ?F_law0 ?X_law0 ?N_law0 ?tk_law0 ?hg_law0 ?hf_law0 ?ht_law0 ?hl_law0 ?_; (case F_law0 => k_asm); (case X_law0 => k_asm); (case N_law0 => k_asm); (case tk_law0 => ((try dsimp only); repeat' (first | exact Mine.Take.nil | exact Mine.Del.head | refine' Mine.Take.blk ?_ | exact Mine.Tl.nil | exact Mine.Tl.app | refine' Mine.Take.cons ?_ ?_ | refine' Mine.Del.tail ?_ | refine' Mine.Tl.cons ?_))); (case hg_law0 => k_is); (case hf_law0 => k_is); (case ht_law0 => k_is); (case hl_law0 => exact rfl); k_whole))
    k_steps
    )
end Mine
end
theorem PySem.Challenge.cw_te0076_03_holds : PySem.Challenge.rw_te0076_03.Holds :=
  Mine.main
