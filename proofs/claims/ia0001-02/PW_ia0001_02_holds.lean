import PyProof.Rows.All
import Wide.All
import OpenK.AllK
import Wide.FinOn
import PySem.Challenge.RW_ia0001_02
set_option Elab.async false
section
open PySem PySem.W PySem.Calls PyProof.Rows
namespace Mine

/-- all that stands in h stands in h' -/
abbrev Ext (h h' : Heap) : Prop := ∀ b o, h.get? b = some o → h'.get? b = some o

theorem around_le {α : Type} {M : Model} {A A' : Around} {t : Sem α} {Q : α → Shared → Prop} {E : Value → Shared → Prop} {s : Shared}
    (h : wpAny M A' t Q E s) (e1 : A.handled = A'.handled) (e2 : A.depth ≤ A'.depth) (e3 : A.frames = A'.frames) (e4 : A.guards = A'.guards) (e5 : A.units ≤ A'.units) : wpAny M A t Q E s := by
  intro Γ p hΓ
  refine h Γ p ⟨?_, ?_, ?_, ?_, ?_⟩
  · rw [← e1]; exact hΓ.1
  · exact Nat.le_trans hΓ.2.1 e2
  · rw [← e3]; exact hΓ.2.2.1
  · rw [← e4]; exact hΓ.2.2.2.1
  · exact Nat.le_trans hΓ.2.2.2.2 e5

/-- an object that a call has made -/
def Fresh (h h' : Heap) (r : Addr) (o : Obj) : Prop := h.get? r = none ∧ h'.get? r = some o
theorem Fresh.of {h₀ h : Heap} {L : Addr} {news : List (Addr × Obj)} {p : Addr × Obj} (N : News h₀ L h news) (hp : p ∈ news) : Fresh h₀ h p.1 p.2 := ⟨(N p hp).2.2, (N p hp).1⟩
theorem Fresh.news {h₀ h h' : Heap} {L : Addr} {m : Str → Option Value} {news : List (Addr × Obj)} {r : Addr} {o : Obj} (F : Fr h₀ L h m) (N : News h₀ L h news) (x : Ext h h') (f : Fresh h h' r o) : News h₀ L h' ((r, o) :: news) := by
  intro p hp
  rcases List.mem_cons.mp hp with rfl | hp
  · refine ⟨f.2, fun e => ?_, ?_⟩
    · obtain ⟨oL, _, _, hL, _⟩ := F.ns
      have := f.1
      rw [show r = L from e, hL] at this
      cases this
    · cases q : h₀.get? r with
      | none => rfl
      | some o' => have := F.keep _ _ q; rw [f.1] at this; cases this
  · exact ⟨x _ _ (N p hp).1, (N p hp).2⟩
theorem Fresh.off {h₀ h h' : Heap} {L : Addr} {news : List (Addr × Obj)} {r : Addr} {o : Obj} (N : News h₀ L h news) (f : Fresh h h' r o) : ∀ p ∈ news, p.1 ≠ r := by
  intro p hp e
  have := (N p hp).1
  rw [e, f.1] at this
  cases this
theorem Fresh.ext {h₀ h h' : Heap} {r : Addr} {o : Obj} (x : Ext h₀ h) (f : Fresh h h' r o) : Fresh h₀ h' r o := by
  refine ⟨?_, f.2⟩
  cases q : h₀.get? r with
  | none => rfl
  | some o' => have := x _ _ q; rw [f.1] at this; cases this

/-- what a call hands back -/
def Ends (s : Shared) (Post : Heap → Heap → Value → Prop) (v : Value) (s' : Shared) : Prop :=
  ∃ h' tk', s' = { s with heap := h', toks := tk' } ∧ Ext s.heap h' ∧ Post s.heap h' v

/-- the contract of a def -/
def Con (D U : Nat) (prog : Program) (w : World) (K : Frag) (p : Program) (loose : List Str) (f : Addr) (vs : List Value) (Pre : Heap → Prop) (Post : Heap → Heap → Value → Prop) : Prop :=
  ∀ (A : Around) (env : Env) (outer : List Env) (A₀ : Around) (base h₀ : Heap) (L : Addr) (m : Str → Option Value) (mean : ExcName → Option Value) (mg mb : Str → Option Value) (s : Shared) (Q E : Value → Shared → Prop),
    A.frames = some (env :: outer) → env.frame = some L → env.scope.kind = .function → A.handled = none → A.depth ≤ D → A.units ≤ U →
    Below A₀ base outer h₀ → Fr h₀ L s.heap m → K.In h₀ → Top p loose mean mg mb h₀ → Pre s.heap →
    (∀ r h' tk', Ext s.heap h' → Post s.heap h' r → Q r { s with heap := h', toks := tk' }) →
    wpAny (model prog w) A (call (.ref f) vs) Q E s

/-- the body's contract -/
abbrev BodyA (D U : Nat) (gd : Option (List Code)) (env : Env) (outer : List Env) : Around := { handled := none, depth := D, frames := some (env :: outer), guards := gd, units := U }

section
variable {D U : Nat} {prog : Program} {w : World} {K : Frag} {p : Program} {loose : List Str} {f : Addr} {vs : List Value} {Pre : Heap → Prop} {Post : Heap → Heap → Value → Prop}
  {name qual : Str} {params : Arguments} {body : List Stmt} {scope : Scope} {dV kV doc pm cdv ct oc : Value} {an od : Option Addr} {osl : Array (Option Value)} {binds : List (Str × Value)}

theorem con_plain (hD : D < recursionLimit)
    (ho : K.lookup f = some ⟨oc, od, .func (fnOf name qual params body scope dV kV doc pm an cdv ct), osl⟩) (hcd : codeIn K cdv qual = true)
    (hbind : ∀ s, BindsTo s (fnOf name qual params body scope dV kV doc pm an cdv ct) ⟨vs, []⟩ binds) (hloc : ∀ y ∈ binds, scope.names.lookup y.1 = some .local)
    (hcell : ∀ x ∈ scope.names, x.2 ≠ .cell)
    (h : ∀ (env : Env) (outer : List Env) (gd : Option (List Code)) (A : Around) (base : Heap) (L' : Addr) (h₁ : Heap) (mean : ExcName → Option Value) (mg mb : Str → Option Value) (s : Shared),
      A = BodyA D U gd env outer → Fr s.heap L' h₁ (fun y => binds.reverse.lookup y) → Below A base (env :: outer) s.heap → K.In s.heap → Top p loose mean mg mb s.heap → Pre s.heap →
      wpAny (model prog w) (A.deeper (envOf qual scope L' f cdv)) (execs body (envOf qual scope L' f cdv))
        (fun fl s' => Ends s Post (match fl with | .ret v => v | _ => .none) s') (fun _ _ => False) { s with heap := h₁, toks := s.toks + binds.length })
    (hco : scope.isCoroutine = false := by rfl) (hgen : scope.isGenerator = false := by rfl) (hk : scope.kind = .function := by rfl) :
    Con D U prog w K p loose f vs Pre Post := by
  intro A env outer A₀ base h₀ L m mean mg mb s Q E e1 e2 e3 e4 e5 e6 B F X T pre ret
  refine around_le (A' := BodyA D U A.guards env outer) ?_ e4 e5 e1 rfl e6
  refine wpAny_call ?_
  have N : News h₀ L s.heap [] := News.nil
  obtain ⟨FG, BG, st, -⟩ := groundX (A := BodyA D U A.guards env outer) (R := fun _ _ => True) B F N rfl e2 e3
  have st : Ext h₀ s.heap := st
  refine codeAny_call_def (fd := fnX name qual params body scope [] dV kV doc pm an cdv ct) (body := body) (binds := binds) hD ((X.keeps F.keep) _ _ ho) rfl (T.nolimit.keeps F.keep) (codeRec_of (X.keeps F.keep) hcd) rfl (hbind _) hcell hloc (fun h₁ hns hk₁ => ?_) hco hgen hk
  refine wpAny_mono (wpAny_noRaise (h env outer A.guards _ base s.heap.objs.size h₁ mean mg mb s rfl ⟨hns, hk₁, Nat.le_refl _⟩ BG (X.keeps F.keep) (T.keeps F.keep) pre)) (fun fl s' hl => ?_) fun _ _ y => y
  obtain ⟨h', tk', rfl, x, post⟩ := hl
  exact ret _ _ _ x post

theorem con_cells (hD : D < recursionLimit)
    (ho : K.lookup f = some ⟨oc, od, .func (fnOf name qual params body scope dV kV doc pm an cdv ct), osl⟩) (hcd : codeIn K cdv qual = true)
    (hbind : ∀ s, BindsTo s (fnOf name qual params body scope dV kV doc pm an cdv ct) ⟨vs, []⟩ binds)
    (hkind : (binds.all fun y => scope.names.lookup y.1 == some .local || scope.names.lookup y.1 == some .cell) = true)
    (hnd : ((cellsFrom 0 scope.names []).map (·.1)).Nodup)
    (h : ∀ (env : Env) (outer : List Env) (gd : Option (List Code)) (A : Around) (base : Heap) (L' : Addr) (h₁ : Heap) (tk : Nat) (cells : List (Addr × Obj)) (mean : ExcName → Option Value) (mg mb : Str → Option Value) (s : Shared),
      A = BodyA D U gd env outer → Fr s.heap L' h₁ (bindL (envOfC qual scope L' f cdv).kindOf binds fun _ => none) → News s.heap L' h₁ cells →
      CellsAre (bindC (envOfC qual scope L' f cdv).kindOf binds fun _ => none) (cellsFrom (L' + 1) scope.names []) cells → Below A base (env :: outer) s.heap → K.In s.heap → Top p loose mean mg mb s.heap → Pre s.heap →
      wpAny (model prog w) (A.deeper (envOfC qual scope L' f cdv)) (execs body (envOfC qual scope L' f cdv))
        (fun fl s' => Ends s Post (match fl with | .ret v => v | _ => .none) s') (fun _ _ => False) { s with heap := h₁, toks := tk })
    (hco : scope.isCoroutine = false := by rfl) (hgen : scope.isGenerator = false := by rfl) (hk : scope.kind = .function := by rfl) :
    Con D U prog w K p loose f vs Pre Post := by
  intro A env outer A₀ base h₀ L m mean mg mb s Q E e1 e2 e3 e4 e5 e6 B F X T pre ret
  refine around_le (A' := BodyA D U A.guards env outer) ?_ e4 e5 e1 rfl e6
  refine wpAny_call ?_
  have N : News h₀ L s.heap [] := News.nil
  obtain ⟨FG, BG, st, -⟩ := groundX (A := BodyA D U A.guards env outer) (R := fun _ _ => True) B F N rfl e2 e3
  refine codeAny_call_function hD ((X.keeps F.keep) _ _ ho) rfl hco hgen rfl (codeRec_of (X.keeps F.keep) hcd) (hbind _ _ _ _ _ ?_)
  refine wpAny_newFunctionEnv_cells hk (kindsX hkind _) fun env' he s' x => ?_
  subst he
  refine ⟨(T.nolimit.keeps F.keep).keeps x.toInCall.keep, codeAny_func ?_⟩
  obtain ⟨h₁, tk, rfl, _⟩ := x.done
  have hk₁ := x.toInCall.keep
  obtain ⟨cells, NC, Y⟩ := Cl.news (h₀ := s.heap) (Nat.le_refl _) fun n c hm => ⟨x.cell n c (lookup_of_mem_nodup (cellsFrom_names scope.names 0 (s.heap.objs.size + 1) [] [] rfl ▸ hnd) hm), x.above n c hm⟩
  refine wpAny_mono (wpAny_noRaise (h env outer A.guards _ base s.heap.objs.size h₁ tk cells mean mg mb s rfl ⟨x.toInCall.ns, hk₁, Nat.le_refl _⟩ NC Y BG (X.keeps F.keep) (T.keeps F.keep) pre)) (fun fl s' hl => ?_) fun _ _ y => y
  obtain ⟨h', tk', rfl, x, post⟩ := hl
  exact ret _ _ _ x post
end

section
variable {prog : Program} {w : World} {A : Around} {E : Value → Shared → Prop} {s : Shared} {env : Env} {h₀ : Heap} {target : Expr} {body : List Stmt} {Q : Flow → Shared → Prop}

/-- a for that stands before its source -/
def LoopX (prog : Program) (w : World) (A : Around) (_h₀ : Heap) (env : Env) (target : Expr) (body : List Stmt) (Q : Flow → Shared → Prop) (E : Value → Shared → Prop) (xv : Value) (s : Shared) : Prop :=
  wpAny (model prog w) A (pyIter xv) (fun it s₂ => codeAny (model prog w) A (.forLoop target it body [] env) (fun r s' => match r with | .ok f => Q f s' | .error e => cameBackBy (model prog w) A env E e s') s₂) E s

theorem For_X (h₀ : Heap) {iter : Expr} {pos : Pos} (h : wpAny (model prog w) A (eval iter env) (fun xv s₁ => LoopX prog w A h₀ env target body Q E xv s₁) E s)
    (hs : ∀ x, foldedSetIterable iter env x = pure x) : wpAny (model prog w) A (exec (.For target iter body [] pos) env) Q E s := wpAny_For h hs

/-- a turn's end -/
def TurnEnd (h₀ : Heap) (L : Addr) (it : Addr × Obj) (J : (Str → Option Value) → List (Addr × Obj) → Prop) (Q : Flow → Shared → Prop) (s₁ : Shared) (f : Flow) (s₂ : Shared) : Prop :=
  match f with
  | .ret v => Q (.ret v) s₂
  | .brk => Q .next s₂
  | _ => ∃ h' tk m' news', s₂ = { s₁ with heap := h', toks := tk } ∧ Fr h₀ L h' m' ∧ News h₀ L h' (it :: news') ∧ (∀ p ∈ news', p.1 ≠ it.1) ∧ J m' news'

theorem loop_X {I : Addr} {fp : List Addr} {n : Nat} {P : Nat → Value → Prop} {St : Nat → Heap → Prop} {m₀ : Str → Option Value} {news : List (Addr × Obj)} (J : Nat → (Str → Option Value) → List (Addr × Obj) → Prop)
    (W : Walks prog w A I fp [I] n P St) (hlive : ∀ i h, St i h → ∃ o, h.get? I = some o)
    (hfp : ∀ i m news h o, J i m news → Fr h₀ env.locals h m → News h₀ env.locals h news → ∀ b ∈ fp, b ≠ I → ∀ h' m' news' i', Fr h₀ env.locals h' m' → News h₀ env.locals h' news' → J i' m' news' → h.get? b = some o → h'.get? b = some o)
    (hI : h₀.get? I = none) (hLI : env.locals ≠ I) (hst : St 0 s.heap) (F : Fr h₀ env.locals s.heap m₀) (N : News h₀ env.locals s.heap news) (hn : ∀ p ∈ news, p.1 ≠ I) (hj : J 0 m₀ news)
    (turn : ∀ i v m₁ news₁ h tk oI, i < n → P i v → J i m₁ news₁ → (∀ p ∈ news₁, p.1 ≠ I) → Fr h₀ env.locals h m₁ → News h₀ env.locals h ((I, oI) :: news₁) →
      wpAny (model prog w) A (assign target env v) (fun _ s₂ => wpAny (model prog w) A (execs body env) (TurnEnd h₀ env.locals (I, oI) (J (i + 1)) Q { s with heap := h, toks := tk }) E s₂) E { s with heap := h, toks := tk })
    (done : ∀ m₁ news₁ h tk, J n m₁ news₁ → Fr h₀ env.locals h m₁ → News h₀ env.locals h news₁ → Q .next { s with heap := h, toks := tk })
    (ht : ∀ v, letOwnedTupleGo target (.ref I) v = pure ()) (hE : PassesOwn (model prog w) A env E) :
    codeAny (model prog w) A (.forLoop target (.ref I) body [] env) (fun r s' => match r with | .ok f => Q f s' | .error e => cameBackBy (model prog w) A env E e s') s := by
  refine codeAny_forLoop
    (fun k s' => ∃ h' tk m' news' i, s' = { s with heap := h', toks := tk } ∧ St i h' ∧ Fr h₀ env.locals h' m' ∧ News h₀ env.locals h' news' ∧ (∀ p ∈ news', p.1 ≠ I) ∧ J i m' news' ∧ i ≤ n ∧ k = n + 1 - i) ?_ (n + 1)
    ⟨s.heap, s.toks, m₀, news, 0, rfl, hst, F, N, hn, hj, Nat.zero_le _, rfl⟩ ht
  rintro k s' ⟨h', tk, m', news', i, rfl, hst', F', N', hn', hJ, hi, rfl⟩
  have next : ∀ h₁ : Heap, (∀ b o, b ∉ [I] → h'.get? b = some o → h₁.get? b = some o) → Fr h₀ env.locals h₁ m' ∧ News h₀ env.locals h₁ news' := fun h₁ hk₁ =>
    ⟨⟨F'.ns.at' fun o e => hk₁ _ o (fun q => hLI (List.mem_singleton.mp q)) e, fun b o e => hk₁ b o (fun q => by rw [List.mem_singleton.mp q, hI] at e; cases e) (F'.keep b o e), F'.above⟩,
      fun p hp => ⟨hk₁ _ _ (fun q => hn' p hp (List.mem_singleton.mp q)) (N' p hp).1, (N' p hp).2⟩⟩
  by_cases hlt : i < n
  · refine W.item i _ _ _ hlt hst' fun v h₁ tk₁ hP hst₁ hk₁ => ?_
    obtain ⟨F₁, N₁⟩ := next h₁ hk₁
    obtain ⟨oI, hoI⟩ := hlive _ _ hst₁
    have NI : News h₀ env.locals h₁ ((I, oI) :: news') := fun p hp => by
      rcases List.mem_cons.mp hp with rfl | hp
      · exact ⟨hoI, fun e => hLI e.symm, hI⟩
      · exact N₁ p hp
    refine wpAny_passesOwn hE (wpAny_mono (turn i v m' news' h₁ tk₁ oI hlt hP hJ hn' F₁ NI) (fun _ s₂ h₂ => ?_) fun _ _ e => e)
    refine wpAny_passesOwn hE (wpAny_mono h₂ (fun f s₃ h₃ => ?_) fun _ _ e => e)
    have fin : TurnEnd h₀ env.locals (I, oI) (J (i + 1)) Q { s with heap := h₁, toks := tk₁ } .next s₃ →
        ∃ m, m < n + 1 - i ∧ ∃ h' tk m' news' i, s₃ = { s with heap := h', toks := tk } ∧ St i h' ∧ Fr h₀ env.locals h' m' ∧ News h₀ env.locals h' news' ∧ (∀ p ∈ news', p.1 ≠ I) ∧ J i m' news' ∧ i ≤ n ∧ m = n + 1 - i := by
      rintro ⟨h₄, tk₄, m₄, news₄, rfl, F₄, N₄, hn₄, hJ₄⟩
      refine ⟨n + 1 - (i + 1), by omega, h₄, tk₄, m₄, news₄, i + 1, rfl, ?_, F₄, fun p hp => N₄ p (.tail _ hp), hn₄, hJ₄, hlt, rfl⟩
      refine W.frame _ _ _ hst₁ fun b hb o e => ?_
      by_cases hbI : b = I
      · subst hbI
        rw [hoI] at e
        cases e
        exact (N₄ _ (.head _)).1
      · exact hfp i m' news' h₁ o hJ F₁ N₁ b hb hbI h₄ m₄ news₄ (i + 1) F₄ (fun p hp => N₄ p (.tail _ hp)) hJ₄ e
    cases f with
    | ret v => exact h₃
    | brk => exact h₃
    | next => exact fin h₃
    | cont => exact fin h₃
  · have hin : i = n := by omega
    subst hin
    refine W.done _ _ _ hst' fun h₁ tk₁ hk₁ => wpAny_execs_nil ?_
    obtain ⟨F₁, N₁⟩ := next h₁ hk₁
    exact done m' news' h₁ tk₁ hJ F₁ N₁

theorem range_X {r : Addr} {a₀ b₀ : Int} {t₀ u₀ v₀ : Tok} {n : Nat} {m₀ : Str → Option Value} {news : List (Addr × Obj)} (J : Nat → (Str → Option Value) → List (Addr × Obj) → Prop)
    (hh : A.handled = none) (hr : IsRange s.heap r a₀ b₀ 1 t₀ u₀ v₀) (hsmall : Builtin.Range.small a₀ b₀ 1 = true) (hn : Builtin.Range.rangeSize a₀ b₀ 1 = (n : Int)) (F : Fr h₀ env.locals s.heap m₀) (N : News h₀ env.locals s.heap news) (hj : J 0 m₀ news)
    (turn : ∀ i t m₁ news₁ h tk I oI, i < n → J i m₁ news₁ → (∀ p ∈ news₁, p.1 ≠ I) → Fr h₀ env.locals h m₁ → News h₀ env.locals h ((I, oI) :: news₁) →
      wpAny (model prog w) A (assign target env (.int (a₀ + (i : Int)) t)) (fun _ s₂ => wpAny (model prog w) A (execs body env) (TurnEnd h₀ env.locals (I, oI) (J (i + 1)) Q { s with heap := h, toks := tk }) E s₂) E { s with heap := h, toks := tk })
    (done : ∀ m₁ news₁ h tk, J n m₁ news₁ → Fr h₀ env.locals h m₁ → News h₀ env.locals h news₁ → Q .next { s with heap := h, toks := tk })
    (ht : ∀ I v, letOwnedTupleGo target (.ref I) v = pure ()) (hE : PassesOwn (model prog w) A env E) : LoopX prog w A h₀ env target body Q E (.ref r) s := by
  unfold LoopX
  refine wpAny_pyIter_range hr hsmall ?_
  have W := Walks.range (prog := prog) (w := w) hh s.heap.objs.size a₀ 1 n
  refine loop_X (s := ⟨_, _, _, _, _⟩) J W (fun i h st => ⟨_, st⟩) (fun i m news h o _ _ _ b hb hne => absurd (List.mem_singleton.mp hb) hne) (next_is_new F) ?_ ?_ (F.push _) (fun p hp => ⟨Heap.get?_push_of_some _ (N p hp).1, (N p hp).2⟩) ?_ hj ?_ done (ht _) hE
  · exact Nat.ne_of_lt F.ns.lt
  · show IsRangeIter _ _ _ _ _
    rw [hn]
    simpa using Heap.get?_push_size _ rfl
  · intro p hp e
    exact absurd (Heap.lt_size (N p hp).1) (by rw [e]; exact Nat.lt_irrefl _)
  · rintro i v m₁ news₁ h tk oI hi ⟨t, rfl⟩ hJ hn' F' N'
    have := turn i t m₁ news₁ h tk _ oI hi hJ hn' F' N'
    simpa using this

theorem list_X {l : Addr} {ol : Obj} {vs : List Value} {k : Nat} {m₀ : Str → Option Value} {news : List (Addr × Obj)} (J : Nat → (Str → Option Value) → List (Addr × Obj) → Prop)
    (hh : A.handled = none) (hl : s.heap.get? l = some ol) (hc : ol.cls = .type "list") (hd : ol.data = .seq vs.toArray k) (F : Fr h₀ env.locals s.heap m₀) (N : News h₀ env.locals s.heap news)
    (hold : ∀ i m news h, J i m news → Fr h₀ env.locals h m → News h₀ env.locals h news → h.get? l = some ol) (hj : J 0 m₀ news)
    (turn : ∀ i v m₁ news₁ h tk I oI, vs[i]? = some v → J i m₁ news₁ → (∀ p ∈ news₁, p.1 ≠ I) → Fr h₀ env.locals h m₁ → News h₀ env.locals h ((I, oI) :: news₁) →
      wpAny (model prog w) A (assign target env v) (fun _ s₂ => wpAny (model prog w) A (execs body env) (TurnEnd h₀ env.locals (I, oI) (J (i + 1)) Q { s with heap := h, toks := tk }) E s₂) E { s with heap := h, toks := tk })
    (done : ∀ m₁ news₁ h tk, J vs.length m₁ news₁ → Fr h₀ env.locals h m₁ → News h₀ env.locals h news₁ → Q .next { s with heap := h, toks := tk })
    (ht : ∀ I v, letOwnedTupleGo target (.ref I) v = pure ()) (hE : PassesOwn (model prog w) A env E) : LoopX prog w A h₀ env target body Q E (.ref l) s := by
  have hls : s.heap.IsList l vs.toArray := ⟨ol, hl, hc, k, hd⟩
  have hne : l ≠ s.heap.objs.size := Nat.ne_of_lt (Heap.lt_size hl)
  unfold LoopX
  refine wpAny_pyIter_list hls ?_
  have W := Walks.list (prog := prog) (w := w) hh s.heap.objs.size l hne vs.toArray
  rw [List.size_toArray] at W
  refine loop_X (s := ⟨_, _, _, _, _⟩) J W (fun i h st => let ⟨o, e, _⟩ := st.1; ⟨o, e⟩) ?_ (next_is_new F) (Nat.ne_of_lt F.ns.lt) ?_ (F.push _) (fun p hp => ⟨Heap.get?_push_of_some _ (N p hp).1, (N p hp).2⟩) ?_ hj ?_ done (ht _) hE
  · intro i m news h o hJ F N b hb hbI h' m' news' i' F' N' hJ' e
    have hbl : b = l := by simpa [hbI] using hb
    subst hbl
    rw [hold _ _ _ _ hJ F N] at e
    cases e
    exact hold _ _ _ _ hJ' F' N'
  · exact ⟨⟨_, Heap.get?_push_size _ rfl, rfl, rfl⟩, hls.at fun o e => Heap.get?_push_of_some _ e⟩
  · intro p hp e
    exact absurd (Heap.lt_size (N p hp).1) (by rw [e]; exact Nat.lt_irrefl _)
  · intro i v m₁ news₁ h tk oI hi hP hJ hn' F' N'
    exact turn i v m₁ news₁ h tk _ oI (by simpa using hP) hJ hn' F' N'
end

theorem off1_of {I : Addr} : ∀ {news : List (Addr × Obj)}, (∀ p ∈ news, p.1 ≠ I) → LCg.Off1 I news
  | [], _ => trivial
  | p :: _, h => ⟨h p (.head _), off1_of fun q hq => h q (.tail _ hq)⟩

/-- a place where the walk is to stop -/
def Hold (P : Prop) : Prop := P
theorem hold_of {P : Prop} (h : Hold P) : P := h

theorem con_call {D U : Nat} {prog : Program} {w : World} {K : Frag} {p : Program} {loose : List Str} {f : Addr} {vs : List Value} {Pre : Heap → Prop} {Post : Heap → Heap → Value → Prop}
    {A : Around} {env : Env} {outer : List Env} {A₀ : Around} {base h₀ : Heap} {L : Addr} {m : Str → Option Value} {mean : ExcName → Option Value} {mg mb : Str → Option Value} {s : Shared} {Q E : Value → Shared → Prop} {news : List (Addr × Obj)}
    (C : Con D U prog w K p loose f vs Pre Post) (F : Fr h₀ L s.heap m) (N : News h₀ L s.heap news) (e1 : A.frames = some (env :: outer)) (e2 : env.frame = some L) (e3 : env.scope.kind = .function) (e4 : A.handled = none) (e5 : A.depth ≤ D) (e6 : A.units ≤ U)
    (B : Below A₀ base outer h₀) (X : K.In h₀) (T : Top p loose mean mg mb h₀) (pre : Pre s.heap)
    (ret : ∀ r h' tk', Ext s.heap h' → Post s.heap h' r → Fr h₀ L h' m → News h₀ L h' news → (∀ r o, Fresh s.heap h' r o → News h₀ L h' ((r, o) :: news) ∧ LCg.Off1 r news) → Q r { s with heap := h', toks := tk' }) :
    Hold (wpAny (model prog w) A (call (.ref f) vs) Q E s) :=
  C A env outer A₀ base h₀ L m mean mg mb s Q E e1 e2 e3 e4 e5 e6 B F X T pre fun r h' tk' x q => ret r h' tk' x q (F.keeps x) (N.grown x) fun _ _ f => ⟨f.news F N x, off1_of (f.off N)⟩

theorem ListComp_X {prog : Program} {w : World} {A : Around} {E : Value → Shared → Prop} {s : Shared} {h₀ : Heap} {L : Addr} {m : Str → Option Value} {env : Env} {elt iter : Expr} {x : Str} {px : Pos} {scope : Scope} {cl : List (Str × Addr)} {pos : Pos} {Q : Value → Shared → Prop} (F₀ : Fr h₀ L s.heap m)
    (hclos : closureFor scope env = pure cl) (hcell : ∀ y ∈ scope.names, y.2 ≠ .cell) (hkind : scope.kind = .function)
    (hnames : ∀ y ∈ scope.names, y.2 = .local → scope.names.lookup y.1 = some .local) (hx : scope.names.lookup x = some .local)
    (h : wpAny (model prog w) A (eval iter env) (fun xv s₁ => Hold (LCg.CompSrc prog w A h₀ L m env elt x scope cl (fun s₂ => LCg.FinE h₀ L m s₂ Q) xv s₁)) E s)
    (hs : ∀ x, foldedSetIterable iter env x = pure x := by intro _; rfl) :
    wpAny (model prog w) A (eval (.ListComp elt [⟨.Name x px, iter, [], 0⟩] scope pos) env) Q E s := LCg.ListComp_U F₀ hclos hcell hkind hnames hx h hs
theorem ListComp_XT {prog : Program} {w : World} {A : Around} {E : Value → Shared → Prop} {s : Shared} {h₀ : Heap} {L : Addr} {m : Str → Option Value} {env : Env} {ct elt iter : Expr} {x : Str} {px : Pos} {scope : Scope} {cl : List (Str × Addr)} {pos : Pos} {Q : Value → Shared → Prop} (F₀ : Fr h₀ L s.heap m)
    (hclos : closureFor scope env = pure cl) (hcell : ∀ y ∈ scope.names, y.2 ≠ .cell) (hkind : scope.kind = .function)
    (hnames : ∀ y ∈ scope.names, y.2 = .local → scope.names.lookup y.1 = some .local) (hx : scope.names.lookup x = some .local)
    (h : wpAny (model prog w) A (eval iter env) (fun xv s₁ => Hold (LCt.CompSrcT prog w A h₀ L m env ct elt x scope cl (fun s₂ => LCg.FinE h₀ L m s₂ Q) xv s₁)) E s)
    (hs : ∀ x, foldedSetIterable iter env x = pure x := by intro _; rfl) :
    wpAny (model prog w) A (eval (.ListComp elt [⟨.Name x px, iter, [ct], 0⟩] scope pos) env) Q E s := LCt.ListComp_T F₀ hclos hcell hkind hnames hx h hs

theorem m_put {m : Str → Option Value} {x : Str} {v : Value} (h : m x = some v) : m = fun y => if y = x then some v else m y := by
  funext y
  by_cases e : y = x
  · subst e; simp [h]
  · simp [e]

theorem cell_ne {h₀ h : Heap} {L a b : Addr} {news : List (Addr × Obj)} {o o' : Obj} {v : Option Value} {xs : Array Value} {k : Nat} (N : News h₀ L h news) (h1 : (a, o) ∈ news) (hs : o.data = .seq xs k) (h2 : (b, o') ∈ news) (hd : o'.data = .cell v) : @Ne Nat a b := by
  intro e
  have e1 := (N _ h1).1
  have e2 := (N _ h2).1
  dsimp only at e1 e2
  rw [show a = b from e, e2] at e1
  cases e1
  rw [hs] at hd
  cases hd

/-- bytes values, byte by byte -/
def BytesAre : List Value → List (List Int) → Prop
  | [], [] => True
  | v :: vs, k :: ks => (∃ b t, v = .bytes b t ∧ KBw.bInts b = k) ∧ BytesAre vs ks
  | _, _ => False
theorem BytesAre.length : ∀ {vs : List Value} {ks : List (List Int)}, BytesAre vs ks → vs.length = ks.length
  | [], [], _ => rfl
  | _ :: _, _ :: _, h => congrArg (· + 1) (BytesAre.length h.2)
  | [], _ :: _, h => h.elim
  | _ :: _, [], h => h.elim
theorem BytesAre.get : ∀ {vs : List Value} {ks : List (List Int)}, BytesAre vs ks → ∀ {i : Nat} {v : Value}, vs[i]? = some v → ∃ b t k, ks[i]? = some k ∧ v = .bytes b t ∧ KBw.bInts b = k
  | [], [], _, _, _, e => by simp at e
  | _ :: _, k :: _, h, 0, v, e => by
    obtain ⟨b, t, rfl, hb⟩ := h.1
    simp at e
    exact ⟨b, t, k, rfl, e.symm, hb⟩
  | _ :: _, _ :: _, h, i + 1, v, e => by
    obtain ⟨b, t, k, hk, r⟩ := BytesAre.get h.2 (i := i) (v := v) (by simpa using e)
    exact ⟨b, t, k, by simpa using hk, r⟩
  | [], _ :: _, h, _, _, _ => h.elim
  | _ :: _, [], h, _, _, _ => h.elim
theorem BytesAre.append : ∀ {vs us : List Value} {ks ls : List (List Int)}, BytesAre vs ks → BytesAre us ls → BytesAre (vs ++ us) (ks ++ ls)
  | [], _, [], _, _, h => h
  | _ :: _, _, _ :: _, _, h, h' => ⟨h.1, BytesAre.append h.2 h'⟩
  | [], _, _ :: _, _, h, _ => h.elim
  | _ :: _, _, [], _, h, _ => h.elim
theorem BytesAre.one {b : Array UInt8} {t : Tok} {k : List Int} (h : KBw.bInts b = k) : BytesAre [.bytes b t] [k] := ⟨⟨b, t, rfl, h⟩, trivial⟩

/-- a comprehension with a test by an invariant -/
theorem compT_ind {prog : Program} {w : World} {A : Around} {h₀ : Heap} {L : Addr} {m : Str → Option Value} {env : Env} {ct elt : Expr} {x : Str} {scope : Scope} {cl : List (Str × Addr)} {s : Shared} {S : List (Addr × Obj) → Prop} {P : Nat → Value → Prop}
    {Fin : List Value → List (Addr × Obj) → Prop} (Inv : Nat → List Value → List (Addr × Obj) → Prop) (n : Nat)
    (step : ∀ i ys news, i < n → Inv i ys news → ∀ v I oI C oC D m₂ h tk (E' : Value → Shared → Prop), P i v → LCg.NsObj oC m₂ → m₂ x = some v → Fr h₀ L h m → News h₀ L h ((I, oI) :: (C, oC) :: (D, LCg.lst ys) :: news) → LCg.Off3 I C D news → ((@Ne Nat I C) ∧ (@Ne Nat I D) ∧ (@Ne Nat C D)) →
      wpAny (model prog w) A (isTrue ct (compEnvC scope cl C env) (eval ct (compEnvC scope cl C env))) (fun ok s' => if ok = true then
        wpAny (model prog w) A (eval elt (compEnvC scope cl C env)) (fun y s' => Hold (LCg.CompEnd h₀ L m { s with heap := h, toks := tk } I oI C oC D (LCg.lst ys) S (fun y news' => Inv (i + 1) (ys ++ [y]) news') y s')) E' s'
        else Hold (LCg.CompEnd h₀ L m { s with heap := h, toks := tk } I oI C oC D (LCg.lst ys) S (fun _ news' => Inv (i + 1) ys news') Value.none s')) E' { s with heap := h, toks := tk })
    (fin : ∀ ys news, Inv n ys news → Fin ys news) : ∀ k i ys news, i + k = n → Inv i ys news → LCt.CompRestT prog w A h₀ L m env ct elt x scope cl s S P Fin k i ys news
  | 0, i, ys, news, e, h => fin ys news (by have : i = n := by omega
                                            exact this ▸ h)
  | k + 1, i, ys, news, e, h => fun v I oI C oC D m₂ hh tk E' p1 p2 p3 p4 p5 p6 p7 =>
    wpAny_mono (step i ys news (by omega) h v I oI C oC D m₂ hh tk E' p1 p2 p3 p4 p5 p6 p7) (fun ok s' hok => by
      cases ok with
      | true =>
        simp only [if_true] at hok ⊢
        exact wpAny_mono hok (fun y s' ⟨h', tk', news', e1, e2, e3, e4, e5, e6⟩ => ⟨h', tk', news', e1, e2, e3, e4, e5, compT_ind Inv n step fin k (i + 1) _ _ (by omega) e6⟩) fun _ _ z => z
      | false =>
        simp only [Bool.false_eq_true, if_false] at hok ⊢
        obtain ⟨h', tk', news', e1, e2, e3, e4, e5, e6⟩ := hok
        exact ⟨h', tk', news', e1, e2, e3, e4, e5, compT_ind Inv n step fin k (i + 1) _ _ (by omega) e6⟩) fun _ _ z => z

/-- a comprehension by an invariant -/
theorem comp_ind {prog : Program} {w : World} {A : Around} {h₀ : Heap} {L : Addr} {m : Str → Option Value} {env : Env} {elt : Expr} {x : Str} {scope : Scope} {cl : List (Str × Addr)} {s : Shared} {S : List (Addr × Obj) → Prop} {P : Nat → Value → Prop}
    {Fin : List Value → List (Addr × Obj) → Prop} (Inv : Nat → List Value → List (Addr × Obj) → Prop) (n : Nat)
    (step : ∀ i ys news, i < n → Inv i ys news → ∀ v I oI C oC D m₂ h tk (E' : Value → Shared → Prop), P i v → LCg.NsObj oC m₂ → m₂ x = some v → Fr h₀ L h m → News h₀ L h ((I, oI) :: (C, oC) :: (D, LCg.lst ys) :: news) → LCg.Off3 I C D news → ((@Ne Nat I C) ∧ (@Ne Nat I D) ∧ (@Ne Nat C D)) →
      wpAny (model prog w) A (eval elt (compEnvC scope cl C env)) (fun y s' => Hold (LCg.CompEnd h₀ L m { s with heap := h, toks := tk } I oI C oC D (LCg.lst ys) S (fun y news' => Inv (i + 1) (ys ++ [y]) news') y s')) E' { s with heap := h, toks := tk })
    (fin : ∀ ys news, Inv n ys news → Fin ys news) : ∀ k i ys news, i + k = n → Inv i ys news → LCg.CompRest prog w A h₀ L m env elt x scope cl s S P Fin k i ys news
  | 0, i, ys, news, e, h => fin ys news (by have : i = n := by omega
                                            exact this ▸ h)
  | k + 1, i, ys, news, e, h => fun v I oI C oC D m₂ hh tk E' p1 p2 p3 p4 p5 p6 p7 =>
    wpAny_mono (step i ys news (by omega) h v I oI C oC D m₂ hh tk E' p1 p2 p3 p4 p5 p6 p7) (fun y s' ⟨h', tk', news', e1, e2, e3, e4, e5, e6⟩ => ⟨h', tk', news', e1, e2, e3, e4, e5, comp_ind Inv n step fin k (i + 1) _ _ (by omega) e6⟩) fun _ _ z => z
end Mine
end
section
open PySem PySem.W PySem.Calls PyProof.Rows
namespace Mine
/-- a code that holds no bytearray's buffer -/
def okCode : Code → Bool
  | .builtin id _ => !(Builtin.Bytes.decodersThatHold.contains id) && !((["bytearray.__contains__", "bytearray.__mod__", "bytearray.__rmod__", "_struct.pack_into.held", "bytearray.find.held"] : List String).contains id)
  | _ => true
def Clean (Γ : Ctx) : Prop := ∀ x ∈ Γ.below, okCode x.1 = true

def wpN {α : Type} (M : Model) (A : Around) (t : Sem α) (Q : α → Shared → Prop) (E : Value → Shared → Prop) (s : Shared) : Prop :=
  ∀ Γ p, Γ.In A → Clean Γ → okCode Γ.code = true → Sem.wp M Γ t (fun a _ s' => Q a s') (fun e _ s' => E e s') p s
def codeN (M : Model) (A : Around) (c : Code) (R : Result → Shared → Prop) (s : Shared) : Prop :=
  ∀ Γ p, Γ.code = c → Γ.Below A → Clean Γ → wpCode M Γ R p s

section
variable {α β : Type} {M : Model} {A : Around} {E : Value → Shared → Prop} {s : Shared}
theorem wpN_any {t : Sem α} {Q : α → Shared → Prop} (h : wpAny M A t Q E s) : wpN M A t Q E s := fun Γ p hΓ _ _ => h Γ p hΓ
theorem codeN_any {c : Code} {R : Result → Shared → Prop} (h : codeAny M A c R s) : codeN M A c R s := fun Γ p hc hΓ _ => h Γ p hc hΓ
theorem wpN_mono {t : Sem α} {Q Q' : α → Shared → Prop} {E' : Value → Shared → Prop} (h : wpN M A t Q E s) (hQ : ∀ a s, Q a s → Q' a s) (hE : ∀ e s, E e s → E' e s) : wpN M A t Q' E' s :=
  fun Γ p hΓ h1 h2 => Sem.wp_mono M Γ t (fun a _ s => hQ a s) (fun e _ s => hE e s) p s (h Γ p hΓ h1 h2)
theorem wpN_bind {m : Sem α} {f : α → Sem β} {Q : β → Shared → Prop} (h : wpN M A m (fun a s' => wpN M A (f a) Q E s') E s) : wpN M A (m >>= f) Q E s := fun Γ p hΓ h1 h2 => by
  rw [Sem.wp_bind']
  exact Sem.wp_mono M Γ m (fun a p' s' h' => h' Γ p' hΓ h1 h2) (fun _ _ _ h' => h') p s (h Γ p hΓ h1 h2)
theorem wpN_bindA {m : Sem α} {f : α → Sem β} {Q : β → Shared → Prop} (h : wpAny M A m (fun a s' => wpN M A (f a) Q E s') E s) : wpN M A (m >>= f) Q E s := wpN_bind (wpN_any h)
theorem wpN_bindE {m : Sem α} {f : α → Sem β} {Q : β → Shared → Prop} (h : wpN M A m (fun a s' => wpAny M A (f a) Q E s') E s) : wpN M A (m >>= f) Q E s := wpN_bind (wpN_mono h (fun _ _ x => wpN_any x) fun _ _ x => x)
theorem wpN_holding {vs : List Value} {m : Sem α} {Q : α → Shared → Prop} (h : wpN M A m Q E s) : wpN M A (holding vs m) Q E s :=
  fun Γ p hΓ h1 h2 => by rw [Sem.wp_holding]; exact h Γ p hΓ h1 h2
theorem wpN_onRaise {m : Sem α} {k : Value → Sem Unit} {Q : α → Shared → Prop} (h : wpN M A m Q (fun _ _ => False) s) : wpN M A (m.onRaise k) Q E s := fun Γ p hΓ h1 h2 => by
  rw [Sem.wp_onRaise]
  exact Sem.wp_mono M Γ m (fun _ _ _ h' => h') (fun _ _ _ h' => h'.elim) p s (h Γ p hΓ h1 h2)
theorem wpN_noRaise {t : Sem α} {Q : α → Shared → Prop} (h : wpN M A t Q (fun _ _ => False) s) : wpN M A t Q E s := wpN_mono h (fun _ _ x => x) fun _ _ x => x.elim
theorem codeN_mono {c : Code} {R R' : Result → Shared → Prop} (h : codeN M A c R s) (hR : ∀ r s, R r s → R' r s) : codeN M A c R' s := fun Γ p hc hΓ h1 => wpCode_mono hR (h Γ p hc hΓ h1)
theorem clean_enter {Γ : Ctx} {c : Code} {hd : Option Value} {p : Pos} (h1 : Clean Γ) (h2 : okCode Γ.code = true) : Clean (Γ.enter c hd p) := by
  intro x hx
  rcases List.mem_cons.mp hx with rfl | hx
  · exact h2
  · exact h1 x hx
theorem wpN_run {c : Code} {h : Option Value} {Q : Flow → Shared → Prop} (hc : codeN M (A.mark h) c (fun r s' => match r with | .ok f => Q f s' | .error e => E e s') s) (hnb : h ≠ some byPass := by intro x; cases x) : wpN M A (run c h) Q E s :=
  fun Γ p hΓ h1 h2 => by rw [Sem.wp_run]; exact hc _ p rfl (hΓ.enter c h p hnb) (clean_enter h1 h2)
theorem wpN_runValue {c : Code} {Q : Value → Shared → Prop} (hc : codeN M A c (fun r s' => match r with | .ok (.ret v) => Q v s' | .ok _ => False | .error e => E e s') s) : wpN M A (runValue c) Q E s :=
  fun Γ p hΓ h1 h2 => by rw [Sem.wp_runValue]; exact hc _ p rfl (hΓ.enter c none p (by intro x; cases x)) (clean_enter h1 h2)
theorem wpN_call {f : Value} {pos : List Value} {kw : List (Str × Value)} {Q : Value → Shared → Prop}
    (hc : codeN M A (.call f ⟨pos, kw⟩) (fun r s' => match r with | .ok (.ret v) => Q v s' | .ok _ => False | .error e => E e s') s) : wpN M A (call f pos kw) Q E s := wpN_runValue hc
theorem codeN_of_tree {c : Code} {R : Result → Shared → Prop} (hok : okCode c = true)
    (h : wpN M (A.under c) (M.den c) (fun fin s' => match fin with | .done f => R (.ok f) s' | .again c' => c'.quiet = true ∧ codeN M A c' R s') (fun e s' => R (.error e) s') s) : codeN M A c R s := fun Γ p hc hΓ h1 => by
  rw [wpCode_iff_wp, hc]
  refine Sem.wp_mono M Γ _ (fun fin p' s' h' => ?_) (fun _ _ _ h' => h') p s (h Γ p (hc ▸ hΓ.in) h1 (hc ▸ hok))
  cases fin with
  | done f => exact h'
  | again c' => exact ⟨h'.1, h'.2 (Γ.goto c') p' rfl (hΓ.goto c') h1⟩
end

def okId (id : String) : Bool := !(Builtin.Bytes.decodersThatHold.contains id) && !((["bytearray.__contains__", "bytearray.__mod__", "bytearray.__rmod__", "_struct.pack_into.held", "bytearray.find.held"] : List String).contains id)
theorem okCode_builtin (id : String) (args : Args) : okCode (.builtin id args) = okId id := rfl
theorem no_hold {P : Prop} {id : String} (h : okId id = true) (e : okId id = false) : P := by rw [h] at e; cases e
theorem held_false (c : Code) (p : Pos) {a : Addr} (h : okCode c = true) : (match (c, p) with
    | (.builtin "bytearray.__contains__" ⟨v :: _, _⟩, _) | (.builtin "bytearray.__mod__" ⟨v :: _, _⟩, _)
    | (.builtin "bytearray.__rmod__" ⟨_ :: v :: _, _⟩, _) | (.builtin "_struct.pack_into.held" ⟨v :: _, _⟩, _) => Builtin.Bytes.sameRef v (.ref a)
    | (.builtin "bytearray.find.held" ⟨_ :: _ :: held, _⟩, _) => held.any (Builtin.Bytes.sameRef (.ref a))
    | (.builtin id ⟨v :: _, _⟩, _) => Builtin.Bytes.sameRef v (.ref a) && Builtin.Bytes.decodersThatHold.contains id
    | _ => false) = false := by
  cases c with
  | builtin id args =>
    rw [okCode_builtin] at h
    split
    · rename_i e
      cases e
      exact no_hold h (by decide +kernel)
    · rename_i e
      cases e
      exact no_hold h (by decide +kernel)
    · rename_i e
      cases e
      exact no_hold h (by decide +kernel)
    · rename_i e
      cases e
      exact no_hold h (by decide +kernel)
    · rename_i e
      cases e
      exact no_hold h (by decide +kernel)
    · rename_i e
      cases e
      unfold okId at h
      rw [Bool.and_eq_true, Bool.not_eq_true'] at h
      rw [h.1, Bool.and_false]
    · rfl
  | _ => rfl
theorem wpN_exported {M : Model} {A : Around} {E : Value → Shared → Prop} {s : Shared} {a : Addr} {Q : Bool → Shared → Prop} (h : Q false s) : wpN M A (Builtin.Bytes.exported (.ref a)) Q E s := by
  intro Γ p hΓ h1 h2
  have e : ((Γ.code, p) :: Γ.below).any (fun y : Code × Pos => match y with
    | (.builtin "bytearray.__contains__" ⟨v :: _, _⟩, _) | (.builtin "bytearray.__mod__" ⟨v :: _, _⟩, _)
    | (.builtin "bytearray.__rmod__" ⟨_ :: v :: _, _⟩, _) | (.builtin "_struct.pack_into.held" ⟨v :: _, _⟩, _) => Builtin.Bytes.sameRef v (.ref a)
    | (.builtin "bytearray.find.held" ⟨_ :: _ :: held, _⟩, _) => held.any (Builtin.Bytes.sameRef (.ref a))
    | (.builtin id ⟨v :: _, _⟩, _) => Builtin.Bytes.sameRef v (.ref a) && Builtin.Bytes.decodersThatHold.contains id
    | _ => false) = false := by
    rw [List.any_eq_false]
    rintro ⟨c, q⟩ hx
    rcases List.mem_cons.mp hx with e | hx
    · cases e
      exact Bool.eq_false_iff.mp (held_false _ _ h2)
    · exact Bool.eq_false_iff.mp (held_false _ _ (h1 _ hx))
  have k : ∀ b : Bool, b = false → Q b s := fun b hb => hb ▸ h
  exact k _ e
end Mine
end
section
open PySem PySem.W PySem.Calls PyProof.Rows
set_option maxRecDepth 100000
namespace Mine
theorem ba_mro : mroOf (.type "bytearray") = pure [.type "bytearray", .type "object"] := by rw [mroOf_type]; kernel_rfl
theorem ba_lookup_new : typeLookup (.type "bytearray") "__new__" = pure (some (.builtin "bytearray.__new__")) := by rw [typeLookup_type, builtinLookup_eq_fast]; kernel_rfl
theorem ba_slot_init : Slot "bytearray" "__init__" "bytearray.__init__" :=
  .of (owner := "bytearray") (n := "__init__") (by rw [typeLookup_type, builtinLookup_eq_fast]; kernel_rfl) (by decide +kernel) (by decide +kernel) (by decide +kernel)
    (by first | exact .inl (by decide +kernel) | exact .inr (by decide +kernel)) (by rw [isSubtype_type]; kernel_rfl)
theorem ba_called : TypeCalled "bytearray" "bytearray.__new__" "bytearray.__init__" :=
  ⟨by decide +kernel, by decide +kernel, ⟨_, _, ba_mro⟩, madeBy_type ba_mro ba_lookup_new (by decide +kernel), by decide +kernel, by rw [isSubtype_type]; kernel_rfl, ba_slot_init⟩
theorem ba_typeCall (a : Value) : checkTypeCall "bytearray" ⟨[a], []⟩ = pure () := by kernel_rfl
theorem ba_newCall (a : Value) : checkBuiltinCall "bytearray.__new__" ⟨[.type "bytearray", a], []⟩ = pure () := by kernel_rfl
theorem ba_entry_new : entryFor table "bytearray.__new__" = some Builtin.«list.__new__» :=
  entryFor_alias (id' := "list.__new__") (by kernel_rfl) (by decide +kernel) (by decide +kernel) (by kernel_rfl)
theorem ba_plain_new : plainId "bytearray.__new__" = true := by decide +kernel
theorem ba_entry_init : entryFor table "bytearray.__init__" = some Builtin.«bytearray.__init__» := by first | exact entryFor_of_fast (by kernel_rfl) | exact entryFor_of_tree (by kernel_rfl)
theorem ba_sub_self : isSubtype (.type "bytearray") (.type "bytearray") = pure true := by rw [isSubtype_type]; kernel_rfl
set_option maxRecDepth 1000000 in
set_option maxHeartbeats 4000000 in
theorem ba_owner : ("bytearray.__new__".splitOn ".__new__").headD "" = "bytearray" := by simp +decide [String.splitOn, String.splitOnAux]
section
variable {prog : Program} {w : World} {A : Around} {E : Value → Shared → Prop} {s : Shared}
theorem ba_new (a : Value) {Q₁ : Value → Shared → Prop}
    (h : Q₁ (.ref s.heap.objs.size) { s with heap := s.heap.push { cls := .type "bytearray", data := .bytearray #[] } }) :
    codeAny (model prog w) A (.call (.builtin "bytearray.__new__") ⟨[.type "bytearray", a], []⟩) (wants Q₁ E) s := by
  refine codeAny_of_tree ?_
  show wpAny _ A.in1 (do checkBuiltinCall "bytearray.__new__" ⟨[.type "bytearray", a], []⟩; again (.builtin "bytearray.__new__" ⟨[.type "bytearray", a], []⟩)) _ _ s
  refine wpAny_bind (wpAny_of_eq (ba_newCall a) (wpAny_pure ⟨plainId_quiet ba_plain_new _, codeAny_builtin_stack ba_entry_new rfl fun p st => ?_⟩))
  rw [Around.under_plainId ba_plain_new _]
  have hsub := ba_sub_self
  have hown := ba_owner
  obtain ⟨hp, g, d, tk, os⟩ := s
  simp only [hown]
  wp_walk
  exact h
end
end Mine
end
section
open PySem PySem.W PySem.Calls PyProof.Rows
set_option maxRecDepth 100000
namespace Mine
section
variable {prog : Program} {w : World} {A : Around} {E : Value → Shared → Prop} {s : Shared} {R : Result → Shared → Prop}
theorem codeN_builtin {id : String} {args : Args} {b : Builtin} (hok : okId id = true) (hb : entryFor table id = some b)
    (h : wpN (model prog w) (A.under (.builtin id args)) (b args)
      (fun fin s' => match fin with | .done f => R (.ok f) s' | .again c' => c'.quiet = true ∧ codeN (model prog w) A c' R s') (fun e s' => R (.error e) s') s) :
    codeN (model prog w) A (.builtin id args) R s := by
  refine codeN_of_tree (by rw [okCode_builtin]; exact hok) ?_
  show wpN _ _ (match entryFor table id with | some b => b args | none => unsupported ((withoutEnding? id "#data").getD id)) _ _ s
  rw [hb]; exact h
theorem codeN_call_builtin {id : String} {args : Args} {b : Builtin} (hok : okId id = true) (hq : plainId id = true) (hb : entryFor table id = some b)
    (h : wpAny (model prog w) A.in1 (checkBuiltinCall id args) (fun _ s₁ => wpN (model prog w) A.in1 (b args)
      (fun fin s' => match fin with | .done f => R (.ok f) s' | .again c' => c'.quiet = true ∧ codeN (model prog w) A c' R s') (fun e s' => R (.error e) s') s₁)
      (fun e s' => R (.error e) s') s) : codeN (model prog w) A (.call (.builtin id) args) R s := by
  refine codeN_of_tree rfl ?_
  show wpN _ A.in1 (do checkBuiltinCall id args; again (.builtin id args)) _ _ s
  refine wpN_bindA (wpAny_mono h (fun _ s₁ h₁ => wpN_any (wpAny_pure (And.intro (plainId_quiet hq args) (codeN_builtin hok hb ?_)))) fun _ _ h' => h')
  rw [Around.under_plainId hq args]; exact h₁
theorem callType_N {T newId initId : String} {Bi : Builtin} {args : List Value} {Q Q₁ : Value → Shared → Prop} (ft : TypeCalled T newId initId)
    (hct : checkTypeCall T ⟨args, []⟩ = pure ()) (entryI : entryFor table initId = some Bi) (hok : okId initId = true)
    (hnew : codeAny (model prog w) A.in1 (.call (.builtin newId) ⟨.type T :: args, []⟩) (wants Q₁ E) s)
    (hnext : ∀ obj s₁, Q₁ obj s₁ → s₁.TypeIs obj T ∧ argsOk initId ⟨obj :: args, []⟩ ∧
      wpN (model prog w) A.in1.in1 (Bi ⟨obj :: args, []⟩)
        (fun fin s' => match fin with | .done f => wants (fun r s₂ => r = .none ∧ Q obj s₂) E (.ok f) s' | .again c' => c'.quiet = true ∧ codeN (model prog w) A.in1 c' (wants (fun r s₂ => r = .none ∧ Q obj s₂) E) s')
        (fun e s' => wants (fun r s₂ => r = .none ∧ Q obj s₂) E (.error e) s') s₁) :
    wpN (model prog w) A (call (.type T) args) Q E s := by
  obtain ⟨c, tl, hmro⟩ := ft.mro
  have hmade := ft.made
  have hsub := ft.sub
  refine wpN_call (codeN_of_tree rfl ?_)
  show wpN _ _ (callAny (.type T) _) _ _ _
  refine wpN_any (wpAny_pure ⟨Code.quiet_builtin _ (by decide +kernel), codeN_builtin (by decide +kernel) F.entry_type_call ?_⟩)
  rw [Around.under_plain (weight_type_call_type T args []) rfl]
  have h1 := ft.notType
  have h2 := ft.canCreate
  unfold Builtin.«type.__call__»
  simp only [h1, Bool.false_eq_true, if_false]
  rw [if_neg (by rw [h2]; decide)]
  refine wpN_bindA (wpAny_of_eq hct ?_)
  refine wpN_bindA (wpAny_of_eq hmro ?_)
  rw [if_neg (by simp)]
  refine wpN_bindA (wpAny_of_eq hmade ?_)
  show wpN _ _ (holding [Value.builtin newId] (call (Value.builtin newId) (Value.type T :: args)) >>= _) _ _ _
  refine wpN_bindA (wpAny_holding (wpAny_call (codeAny_mono hnew fun r s₁ hr => ?_)))
  cases r with
  | error e => exact hr
  | ok fl =>
    cases fl with
    | ret obj =>
      obtain ⟨hT, hokk, hsi⟩ := hnext _ _ hr
      refine wpN_bindA (wpAny_isInstance hT hsub ?_)
      rw [if_neg (by decide)]
      refine wpN_bind (wpN_holding ?_)
      have hli := ft.init.lookup
      have hbi := ft.init.bind obj
      refine wpN_mono (Q := fun r s₂ => r = some Value.none ∧ Q obj s₂) ?_ (fun r s₂ hr₂ => ?_) (fun _ _ x => x)
      · unfold callSpecial?
        refine wpN_bindA (wpAny_specialOf hT hli ?_)
        refine wpN_holding ?_
        refine wpN_bindA (wpAny_of_eq hbi ?_)
        refine wpN_bind (wpN_call (codeN_mono (codeN_call_builtin (args := ⟨obj :: args, []⟩) hok ft.init.plain entryI (ft.init.check _ _ _ _ _ _ _ _ hT hokk hsi)) fun r₂ s₂ hr₂ => ?_))
        cases r₂ with
        | error e => exact hr₂
        | ok fl₂ =>
          cases fl₂ with
          | ret r =>
            obtain ⟨rfl, hq⟩ := hr₂
            exact wpN_any (wpAny_pure ⟨rfl, hq⟩)
          | _ => exact hr₂.elim
      · obtain ⟨rfl, hq⟩ := hr₂
        exact wpN_any (wpAny_pure hq)
    | _ => exact hr.elim

theorem ba_bind (v : Value) : Builtin.Bytes.bindOptional "bytearray.__init__" "bytearray" ["source", "encoding", "errors"] [v] [] = pure [some v, none, none] := by kernel_rfl
theorem ba_release : typeLookup (.type "bytearray") "__release_buffer__" = pure (some (.builtin "bytearray.__release_buffer__")) := by rw [typeLookup_type, builtinLookup_eq_fast]; kernel_rfl
theorem ba_rel_end : ("bytearray.__release_buffer__".endsWith ("." ++ "__release_buffer__")) = true := by decide +kernel
theorem ba_rel_drop : ("bytearray.__release_buffer__".dropRight ("__release_buffer__".length + 1)) = "bytearray" := by decide +kernel
theorem wpN_if_false {α : Type} {M : Model} {c : Bool} {a b : Sem α} {Q : α → Shared → Prop} (hc : c = false) (h : wpN M A b Q E s) : wpN M A (if c = true then a else b) Q E s := by
  subst hc
  exact h
theorem wpN_if_true {α : Type} {M : Model} {c : Bool} {a b : Sem α} {Q : α → Shared → Prop} (hc : c = true) (h : wpN M A a Q E s) : wpN M A (if c = true then a else b) Q E s := by
  subst hc
  exact h
abbrev baObj (b : Array UInt8) : Obj := { cls := .type "bytearray", data := .bytearray b }
theorem ba_typeIs {S : Addr} {b : Array UInt8} (hS : s.heap.get? S = some (baObj b)) : s.TypeIs (.ref S) "bytearray" := by
  first | exact ⟨_, hS, rfl⟩ | exact .inr ⟨_, _, rfl, hS, rfl⟩
theorem wpAny_ba_write {M : Model} {S : Addr} {b : Array UInt8} {f : Array UInt8 → Array UInt8} {Q : Unit → Shared → Prop} (hS : s.heap.get? S = some (baObj b)) (hz : (f b).size ≤ sizeLine)
    (h : ∀ h', h'.get? S = some (baObj (f b)) → (∀ c o, c ≠ S → s.heap.get? c = some o → h'.get? c = some o) → Q () { s with heap := h' }) : wpAny M A (Builtin.Bytes.write (.ref S) f) Q E s := by
  show wpAny _ _ (updateBytearray S f) _ _ _
  unfold updateBytearray
  refine wpAny_bind (wpAny_load hS ?_)
  show wpAny _ _ (update S (Obj.mapBytearray f) >>= fun _ => lookBehind S) _ _ _
  refine wpAny_bind (wpAny_update hS ?_)
  have hS₂ : (s.heap.update S (Obj.mapBytearray f)).get? S = some (baObj (f b)) := Heap.get?_update_self (Obj.mapBytearray f) hS rfl
  refine wpAny_lookBehind hS₂ ?_ ?_
  · show (if (f b).size > sizeLine then some "bytearray:memory" else none) = none
    rw [if_neg (by omega)]
  · exact h _ hS₂ fun c o hc e => (Heap.get?_update_other _ _ (Ne.symm hc)).trans e
theorem ba_init {S : Addr} {n : Nat} {t : Tok} {R : Result → Shared → Prop} (hS : s.heap.get? S = some (baObj #[])) (hn : 0 < n) (hz : n ≤ 1000)
    (hR : ∀ h', h'.get? S = some (baObj (Array.replicate n 0)) → (∀ b o, b ≠ S → s.heap.get? b = some o → h'.get? b = some o) → R (.ok (.ret .none)) { s with heap := h' }) :
    wpN (model prog w) A (Builtin.«bytearray.__init__» ⟨[.ref S, .int (n : Int) t], []⟩)
        (fun fin s' => match fin with | .done f => R (.ok f) s' | .again c' => c'.quiet = true ∧ codeN (model prog w) A' c' R s')
        (fun e s' => R (.error e) s') s := by
  have hT := ba_typeIs hS
  unfold Builtin.«bytearray.__init__»
  refine wpN_bindA ?_
  unfold Builtin.Bytes.ownRelease Builtin.Bytes.slotIsOwn
  refine wpAny_bind (wpAny_bind (wpAny_specialOf hT ba_release ?_))
  show wpAny _ _ (if (!("bytearray.__release_buffer__".endsWith ("." ++ "__release_buffer__"))) = true then pure false else isInstance (Value.ref S) (Value.type ("bytearray.__release_buffer__".dropRight ("__release_buffer__".length + 1)))) _ _ _
  rw [ba_rel_end, ba_rel_drop]
  refine bm_if_false rfl ?_
  refine wpAny_isInstance hT ba_sub_self ?_
  refine wpAny_pure ?_
  refine wpN_if_false rfl ?_
  refine wpN_bindA (wpAny_of_eq (ba_bind _) ?_)
  refine wpN_bindA (wpAny_of_eq (a := ()) rfl ?_)
  refine wpN_bindA (wpAny_of_eq (a := ()) rfl ?_)
  refine wpN_bind ?_
  show wpN _ _ (Builtin.Bytes.exported (.ref S) >>= _) _ _ _
  refine wpN_bind (wpN_exported ?_)
  refine wpN_any ?_
  show wpAny _ _ (Builtin.Bytes.exportsOf (.ref S) >>= _) _ _ _
  refine wpAny_bind ?_
  unfold Builtin.Bytes.exportsOf
  refine wpAny_bind (wpAny_load hS ?_)
  refine wpAny_pure (wpAny_pure ?_)
  refine wpN_if_false (by decide) (wpN_any ?_)
  dsimp only
  refine wpAny_bind ?_
  refine wpAny_ba_write (f := fun _ => #[]) hS (by simp) fun h₁ hS₁ hk₁ => ?_
  have e : asStr? (.int (n : Int) t) = pure none := rfl
  generalize hsm : (({ s with heap := h₁ }) : Shared) = s₁
  refine wpAny_bind ?_
  rw [e]
  have i1 : typeOf (.int (n : Int) t) = pure (.type "int") := rfl
  have i2 : ∃ f, typeLookup (.type "int") (Str.ofString "__index__") = pure (some f) := ⟨_, F.slot_int_index.lookup⟩
  obtain ⟨fi, i2⟩ := i2
  have i3 : asIndex (.int (n : Int) t) = pure (n : Int) := rfl
  with_reducible refine wpAny_pure ?_
  simp only [Option.isSome_none, Bool.false_eq_true, if_false]
  with_reducible refine wpAny_bind ?_
  with_reducible refine wpAny_pure ?_
  refine wpAny_bind ?_
  with_reducible refine wpAny_specialOf_val i1 i2 ?_
  simp only [Option.isSome_some, if_true]
  refine wpAny_bind ?_
  rw [i3]
  with_reducible refine wpAny_attempt ?_
  with_reducible refine wpAny_pure ?_
  have j1 : Builtin.Bytes.fitsIndex (n : Int) = true := by
    unfold Builtin.Bytes.fitsIndex
    simp only [Bool.and_eq_true, decide_eq_true_eq]
    omega
  have j2 : ¬ (n : Int) < 0 := by omega
  have j3 : ((n : Int) == 2 ^ 63 - 1) = false := by
    rw [beq_eq_false_iff_ne]
    omega
  have j4 : Builtin.Bytes.tooLong (n : Int).toNat = false := by
    unfold Builtin.Bytes.tooLong
    rw [Int.toNat_natCast, decide_eq_false_iff_not]
    unfold sizeLine
    omega
  have j5 : (n : Int) > 0 := by omega
  simp only [j1, j2, j3, j4, j5, Bool.not_true, Bool.false_eq_true, if_false, if_true]
  refine wpAny_bind ?_
  refine wpAny_rule ?_
  refine wpAny_bind ?_
  subst hsm
  refine wpAny_ba_write (f := fun _ => Array.replicate (n : Int).toNat 0) hS₁ (by rw [Int.toNat_natCast, Array.size_replicate]; unfold sizeLine; omega) fun h₂ hS₂ hk₂ => ?_
  refine wpAny_pure ?_
  rw [Int.toNat_natCast] at hS₂
  exact hR _ hS₂ fun b o hb e => hk₂ b o hb (hk₁ b o hb e)

theorem ba_owner_init : ("bytearray" : String) = String.ofList ['b','y','t','e','a','r','r','a','y'] := by rfl
theorem ba_args (a b : Value) : argsOk "bytearray.__init__" ⟨[a, b], []⟩ := by
  unfold argsOk; rw [signature?_of (id := "bytearray.__init__") (n := ['_', '_', 't', 'i', 'n', 'i', '_', '_']) (o := ['y', 'a', 'r', 'r', 'a', 'e', 't', 'y', 'b']) (by kernel_rfl) (by rfl)]; kernel_rfl
theorem call_bytearray_N {n : Nat} {t : Tok} {Q : Value → Shared → Prop} (hn : 0 < n) (hz : n ≤ 1000)
    (hQ : ∀ h', h'.get? s.heap.objs.size = some (baObj (Array.replicate n 0)) → (∀ b o, s.heap.get? b = some o → h'.get? b = some o) → Q (.ref s.heap.objs.size) { s with heap := h' }) :
    wpN (model prog w) A (call (.type "bytearray") [.int (n : Int) t]) Q E s := by
  refine callType_N (Q₁ := fun obj s₁ => obj = .ref s.heap.objs.size ∧ s₁ = { s with heap := s.heap.push (baObj #[]) }) ba_called (ba_typeCall _) ba_entry_init (by decide +kernel)
    (ba_new _ ⟨rfl, rfl⟩) ?_
  rintro obj s₁ ⟨rfl, rfl⟩
  have hS : ({ s with heap := s.heap.push (baObj #[]) } : Shared).heap.get? s.heap.objs.size = some (baObj #[]) := Heap.get?_push_size _ rfl
  refine ⟨ba_typeIs hS, ba_args _ _, ba_init hS hn hz fun h' e1 e2 => ⟨rfl, hQ h' e1 fun b o e => e2 b o (Nat.ne_of_lt (Heap.lt_size e)) (Heap.get?_push_of_some _ e)⟩⟩
end
end Mine
end
section
open PySem PySem.W PySem.Calls PyProof.Rows
set_option maxRecDepth 100000
namespace Mine
section
variable {prog : Program} {w : World} {A : Around} {E : Value → Shared → Prop} {s : Shared} {R : Result → Shared → Prop}
theorem ba_slot_setitem : Slot "bytearray" "__setitem__" "bytearray.__setitem__" :=
  .of (owner := "bytearray") (n := "__setitem__") (by rw [typeLookup_type, builtinLookup_eq_fast]; kernel_rfl) (by decide +kernel) (by decide +kernel) (by decide +kernel)
    (by first | exact .inl (by decide +kernel) | exact .inr (by decide +kernel)) (by rw [isSubtype_type]; kernel_rfl)
theorem ba_entry_setitem : entryFor table "bytearray.__setitem__" = some Builtin.«bytearray.__setitem__» := by first | exact entryFor_of_fast (by kernel_rfl) | exact entryFor_of_tree (by kernel_rfl)
theorem ba_args_setitem (a b c : Value) : argsOk "bytearray.__setitem__" ⟨[a, b, c], []⟩ := by
  unfold argsOk; rw [signature?_of (id := "bytearray.__setitem__") (n := ['_', '_', 'm', 'e', 't', 'i', 't', 'e', 's', '_', '_']) (o := ['y', 'a', 'r', 'r', 'a', 'e', 't', 'y', 'b']) (by kernel_rfl) (by rfl)]; kernel_rfl
theorem wpAny_subscript_int {M : Model} {k : Int} {t : Tok} {Q : Option Int → Shared → Prop} (h0 : 0 ≤ k) (h1 : k < 1000) (h : Q (some k) s) : wpAny M A (Builtin.Bytes.subscript? (.int k t)) Q E s := by
  have i1 : typeOf (.int k t) = pure (.type "int") := rfl
  have i3 : asIndex (.int k t) = pure k := rfl
  have j1 : Builtin.Bytes.fitsIndex k = true := by
    unfold Builtin.Bytes.fitsIndex
    simp only [Bool.and_eq_true, decide_eq_true_eq]
    omega
  unfold Builtin.Bytes.subscript?
  refine wpAny_bind ?_
  with_reducible refine wpAny_specialOf_val i1 F.slot_int_index.lookup ?_
  simp only [Option.isNone_some, Bool.false_eq_true, if_false]
  refine wpAny_bind ?_
  rw [i3]
  with_reducible refine wpAny_pure ?_
  simp only [j1, Bool.not_true, Bool.false_eq_true, if_false]
  exact wpAny_pure h
theorem wpAny_byteValue {M : Model} {k : Int} {t : Tok} {Q : UInt8 → Shared → Prop} (h0 : 0 ≤ k) (h1 : k < 256) (h : Q k.toNat.toUInt8 s) : wpAny M A (Builtin.Bytes.byteValue (.int k t)) Q E s := by
  have i3 : asIndex (.int k t) = pure k := rfl
  unfold Builtin.Bytes.byteValue
  refine wpAny_bind ?_
  rw [i3]
  with_reducible refine wpAny_pure ?_
  have j : (decide (k < 0) || decide (k ≥ 256)) = false := by
    simp only [Bool.or_eq_false_iff, decide_eq_false_iff_not]
    omega
  simp only [j, Bool.false_eq_true, if_false]
  exact wpAny_pure h
theorem wpAny_setItem_ba {S : Addr} {b : Array UInt8} {k v : Int} {t u : Tok} {Q : Unit → Shared → Prop} (hS : s.heap.get? S = some (baObj b)) (h0 : 0 ≤ k) (h1 : k < b.size) (hz : b.size ≤ 1000) (h2 : 0 ≤ v) (h3 : v < 256)
    (hQ : ∀ h', h'.get? S = some (baObj (b.setIfInBounds k.toNat v.toNat.toUInt8)) → (∀ c o, c ≠ S → s.heap.get? c = some o → h'.get? c = some o) → Q () { s with heap := h' }) :
    wpAny (model prog w) A (setItem (.ref S) (.int k t) (.int v u)) Q E s := by
  have hT := ba_typeIs hS
  unfold setItem
  try with_reducible refine wpAny_holding ?_
  refine wpAny_bind (wpAny_sequenceKey hT (by decide) ?_)
  refine wpAny_bind (wpAny_callSpecial?_slot (name := Str.ofString "__setitem__") hT ba_slot_setitem
    (wpAny_call_entry ba_slot_setitem hT ba_entry_setitem ?_ (ba_args_setitem _ _ _)))
  unfold Builtin.«bytearray.__setitem__»
  simp only [List.isEmpty_nil, Bool.not_true, Bool.false_eq_true, if_false]
  refine wpAny_bind (wpAny_subscript_int h0 (by omega) ?_)
  refine wpAny_bind (wpAny_byteValue h2 h3 ?_)
  refine wpAny_bind ?_
  unfold Builtin.Bytes.payload Builtin.Bytes.payload?
  refine wpAny_bind (wpAny_bind (wpAny_load hS ?_))
  refine wpAny_pure (wpAny_pure ?_)
  have e : seqIndex? k b.size = some k.toNat := by
    have : ¬ k < 0 := by omega
    simp only [seqIndex?, this, if_false]
    rw [if_pos (by simp only [Bool.and_eq_true, decide_eq_true_eq]; exact ⟨h0, h1⟩)]
  simp only [e]
  refine wpAny_bind ?_
  refine wpAny_ba_write (f := fun b => b.setIfInBounds k.toNat v.toNat.toUInt8) hS (by rw [Array.size_setIfInBounds]; unfold sizeLine; omega) fun h₂ hS₂ hk₂ => ?_
  exact wpAny_pure ⟨_, rfl, wpAny_pure (hQ _ hS₂ hk₂)⟩

theorem ba_no_bytes : typeLookup (.type "bytearray") "__bytes__" = pure none := by rw [typeLookup_type, builtinLookup_eq_fast]; kernel_rfl
theorem ba_no_index : typeLookup (.type "bytearray") "__index__" = pure none := by rw [typeLookup_type, builtinLookup_eq_fast]; kernel_rfl
theorem ba_buffer : typeLookup (.type "bytearray") "__buffer__" = pure (some (.builtin "bytearray.__buffer__")) := by rw [typeLookup_type, builtinLookup_eq_fast]; kernel_rfl
theorem ba_buf_end : ("bytearray.__buffer__".endsWith ("." ++ "__buffer__")) = true := by decide +kernel
theorem ba_buf_drop : ("bytearray.__buffer__".dropRight ("__buffer__".length + 1)) = "bytearray" := by decide +kernel
theorem wpAny_ownRelease_ba {S : Addr} {Q : Bool → Shared → Prop} (hT : s.TypeIs (.ref S) "bytearray") (h : Q false s) : wpAny (model prog w) A (Builtin.Bytes.ownRelease (.ref S)) Q E s := by
  unfold Builtin.Bytes.ownRelease Builtin.Bytes.slotIsOwn
  refine wpAny_bind (wpAny_bind (wpAny_specialOf hT ba_release ?_))
  show wpAny _ _ (if (!("bytearray.__release_buffer__".endsWith ("." ++ "__release_buffer__"))) = true then pure false else isInstance (Value.ref S) (Value.type ("bytearray.__release_buffer__".dropRight ("__release_buffer__".length + 1)))) _ _ _
  rw [ba_rel_end, ba_rel_drop]
  refine bm_if_false rfl ?_
  refine wpAny_isInstance hT ba_sub_self ?_
  exact wpAny_pure h
theorem wpAny_slotIsOwn_ba {S : Addr} {Q : Bool → Shared → Prop} (hT : s.TypeIs (.ref S) "bytearray") (h : Q true s) : wpAny (model prog w) A (Builtin.Bytes.slotIsOwn (.ref S) "__buffer__") Q E s := by
  unfold Builtin.Bytes.slotIsOwn
  refine wpAny_bind (wpAny_specialOf hT ba_buffer ?_)
  show wpAny _ _ (if (!("bytearray.__buffer__".endsWith ("." ++ "__buffer__"))) = true then pure false else isInstance (Value.ref S) (Value.type ("bytearray.__buffer__".dropRight ("__buffer__".length + 1)))) _ _ _
  rw [ba_buf_end, ba_buf_drop]
  refine bm_if_false rfl ?_
  exact wpAny_isInstance hT ba_sub_self h
theorem wpAny_buffer_ba {S : Addr} {b : Array UInt8} {id : String} {Q : Option (Array UInt8) → Shared → Prop} (hS : s.heap.get? S = some (baObj b)) (h : Q (some b) s) : wpAny (model prog w) A (Builtin.Bytes.buffer? id (.ref S) true) Q E s := by
  have hT := ba_typeIs hS
  unfold Builtin.Bytes.buffer?
  refine wpAny_bind (wpAny_specialOf hT ba_buffer ?_)
  refine wpAny_bind (wpAny_slotIsOwn_ba hT ?_)
  refine bm_if_false rfl ?_
  refine wpAny_bind (wpAny_specialOf hT ba_buffer ?_)
  refine wpAny_bind (wpAny_ownRelease_ba hT ?_)
  refine bm_if_false rfl ?_
  refine wpAny_bind ?_
  unfold Builtin.Bytes.payload Builtin.Bytes.payload?
  refine wpAny_bind (wpAny_bind (wpAny_load hS ?_))
  exact wpAny_pure (wpAny_pure (wpAny_pure h))
theorem bb_new {l : Addr} {b : Array UInt8} {Q : Value → Shared → Prop} (hS : s.heap.get? l = some (baObj b)) (hz : b.size ≤ 1000)
    (hQ : ∀ t k, Q (.bytes b t) { s with toks := k }) :
    codeAny (model prog w) A (.call (.builtin "bytes.__new__") ⟨[.type "bytes", .ref l], []⟩) (wants Q E) s := by
  refine codeAny_of_tree ?_
  show wpAny _ A.in1 (do checkBuiltinCall "bytes.__new__" ⟨[.type "bytes", .ref l], []⟩; again (.builtin "bytes.__new__" ⟨[.type "bytes", .ref l], []⟩)) _ _ s
  refine wpAny_bind (wpAny_of_eq (PySem.F.bm_newCall _) (wpAny_pure ⟨plainId_quiet PySem.F.bm_plain _, codeAny_builtin PySem.F.bm_entry ?_⟩))
  rw [Around.under_plainId PySem.F.bm_plain _]
  have hT : s.TypeIs (.ref l) "bytearray" := ba_typeIs hS
  unfold Builtin.«bytes.__new__»
  refine wpAny_bind (wpAny_of_eq (a := true) rfl ?_)
  refine bm_if_false rfl ?_
  refine wpAny_bind (wpAny_of_eq PySem.F.bm_sub ?_)
  refine bm_if_false rfl ?_
  refine wpAny_bind (wpAny_of_eq (PySem.F.bm_bind _) ?_)
  refine wpAny_bind (wpAny_of_eq (a := ()) rfl ?_)
  refine wpAny_bind (wpAny_of_eq (a := ()) rfl ?_)
  refine bm_if_false rfl ?_
  refine wpAny_bind (wpAny_specialOf hT ba_no_bytes ?_)
  refine wpAny_bind (wpAny_bind ?_)
  show wpAny _ _ (load l >>= _) _ _ _
  refine wpAny_bind (wpAny_load hS ?_)
  refine wpAny_pure (wpAny_pure ?_)
  refine bm_if_false rfl ?_
  refine wpAny_bind (wpAny_specialOf hT ba_no_index ?_)
  refine bm_if_true rfl ?_
  first
    | show wpAny _ _ (Builtin.Bytes.buffer? "bytes.__new__" (.ref l) true >>= _) _ _ _
    | (refine wpAny_bind ?_; show wpAny _ _ (Builtin.Bytes.buffer? "bytes.__new__" (.ref l) true >>= _) _ _ _)
  refine wpAny_bind (wpAny_buffer_ba hS ?_)
  refine wpAny_bind (wpAny_rule ?_)
  refine wpAny_bind (wpAny_mkBytes ?_ (by unfold sizeLine; omega))
  show wpAny _ _ (if (Value.type "bytes" == Value.type "bytes") = true then _ else _) _ _ _
  refine bm_if_true (by decide) ?_
  first
    | exact wpAny_pure (hQ _ _)
    | exact wpAny_bind (wpAny_pure (wpAny_pure (hQ _ _)))
theorem call_bytes_ba {l : Addr} {b : Array UInt8} {Q : Value → Shared → Prop} (hS : s.heap.get? l = some (baObj b)) (hz : b.size ≤ 1000)
    (hQ : ∀ t k, Q (.bytes b t) { s with toks := k }) : wpAny (model prog w) A (call (.type "bytes") [.ref l]) Q E s := by
  refine callType_codes (Q₁ := fun obj s₁ => s₁.TypeIs obj "bytes" ∧ Q obj s₁) PySem.F.bm_called (PySem.F.bm_typeCall _) PySem.F.entry_object_init
    (bb_new hS hz fun t k => ⟨PySem.W.typeIs_bytes _ _ _, hQ t k⟩) fun obj s₁ h₁ => ?_
  exact ⟨h₁.1, PySem.F.args_object_init_2 obj _, object_init_meets PySem.F.bm_called.init.lookup PySem.F.bm_called.made (by decide) prog w A.in1 _ s₁ ⟨h₁.1, rfl, h₁.2⟩⟩

/-- the loop of bytes(it) over any walked iterator -/
theorem bw_loop {I S : Addr} {ns : List Int} {P : Nat → Value → Prop} {St : Nat → Heap → Prop} (W : Walks prog w A.in1 I [I] [I] ns.length P St) (hP : ∀ i v, i < ns.length → P i v → ∃ n t, v = .int n t ∧ ns[i]? = some n)
    (hr : ∀ n ∈ ns, 0 ≤ n ∧ n < 256) (hz : ns.length ≤ sizeLine) (hIS : I ≠ S) (hlive : ∀ i h, St i h → ∃ o, h.get? I = some o) :
    ∀ (k i : Nat) (s : Shared), ns.length - i = k → i ≤ ns.length → St i s.heap → s.heap.get? S = some (baObj (byteArr (ns.take i))) →
      (∀ h' t k', (∀ b o, b ≠ I → b ≠ S → s.heap.get? b = some o → h'.get? b = some o) → R (.ok (.ret (.bytes (byteArr ns) t))) { s with heap := h', toks := k' }) →
      codeAny (model prog w) A (.builtin "bytes.__new__.loop" ⟨[.type "bytes", .ref I, .ref S], []⟩) R s := by
  intro k
  induction k with
  | zero =>
    intro i s hk hle hit hS hR
    have hin : i = ns.length := by omega
    subst hin
    refine codeAny_builtin PySem.F.bm_entry_loop ?_
    rw [Around.under_plainId PySem.F.bm_plain_loop _]
    show wpAny _ A.in1 (pyNext (.ref I) >>= _) _ _ s
    refine wpAny_bind (W.done _ _ _ hit fun h' tk he => ?_)
    have he' : ∀ b o, b ≠ I → s.heap.get? b = some o → h'.get? b = some o := fun b o hb e => he b o (by simpa using hb) e
    have hS' : h'.get? S = some (baObj (byteArr (ns.take ns.length))) := he' S _ (Ne.symm hIS) hS
    refine wpAny_bind ?_
    unfold Builtin.Bytes.payload Builtin.Bytes.payload?
    refine wpAny_bind (wpAny_bind (wpAny_load hS' ?_))
    refine wpAny_pure (wpAny_pure ?_)
    rw [List.take_length]
    refine wpAny_bind (wpAny_mkBytes ?_ (by rw [byteArr_size]; exact hz))
    show wpAny _ _ (if (Value.type "bytes" == Value.type "bytes") = true then _ else _) _ _ _
    refine bm_if_true (by decide) ?_
    first
      | exact wpAny_pure (hR h' _ _ fun b o hb _ e => he' b o hb e)
      | exact wpAny_bind (wpAny_pure (wpAny_pure (hR h' _ _ fun b o hb _ e => he' b o hb e)))
  | succ k ih =>
    intro i s hk hle hit hS hR
    have hlt : i < ns.length := by omega
    refine codeAny_builtin PySem.F.bm_entry_loop ?_
    rw [Around.under_plainId PySem.F.bm_plain_loop _]
    show wpAny _ A.in1 (pyNext (.ref I) >>= _) _ _ s
    refine wpAny_bind (W.item i _ _ _ hlt hit fun x h' tk hx hit' hs => ?_)
    obtain ⟨n, t, rfl, hn⟩ := hP i x hlt hx
    obtain ⟨h0, h1⟩ := hr n (List.mem_of_getElem? hn)
    have he' : ∀ b o, b ≠ I → s.heap.get? b = some o → h'.get? b = some o := fun b o hb e => hs b o (by simpa using hb) e
    have hS' : h'.get? S = some (baObj (byteArr (ns.take i))) := he' S _ (Ne.symm hIS) hS
    refine wpAny_bind (wpAny_holding (wpAny_of_eq (rfl : asIndex (.int n t) = pure n) ?_))
    refine wpAny_bind (wpAny_letGo ?_)
    refine bm_if_false (by simp only [Bool.or_eq_false_iff, decide_eq_false_iff_not]; omega) ?_
    refine wpAny_bind ?_
    refine wpAny_ba_write (f := fun b => b.push n.toNat.toUInt8) hS' (by
      rw [Array.size_push, byteArr_size, List.length_take]; omega) fun h₂ hS₂ hk₂ => ?_
    rw [← byteArr_take hn] at hS₂
    refine wpAny_pure ⟨plainId_quiet PySem.F.bm_plain_loop _, ih (i + 1) { s with heap := h₂, toks := tk } (by omega) hlt ?_ hS₂ fun h3 t' k' hk3 => ?_⟩
    · exact W.frame _ _ _ hit' fun b hb o e => hk₂ b o (by rw [List.mem_singleton.mp hb]; exact hIS) e
    · exact hR h3 t' k' fun b o hbI hbS e => hk3 b o hbI hbS (hk₂ b o hbS (he' b o hbI e))

theorem br_no_bytes : typeLookup (.type "range") "__bytes__" = pure none := by rw [typeLookup_type, builtinLookup_eq_fast]; kernel_rfl
theorem br_no_index : typeLookup (.type "range") "__index__" = pure none := by rw [typeLookup_type, builtinLookup_eq_fast]; kernel_rfl
theorem br_no_buffer : typeLookup (.type "range") "__buffer__" = pure none := by rw [typeLookup_type, builtinLookup_eq_fast]; kernel_rfl
theorem wpAny_hint_range_b {r : Addr} {a b c : Int} {t u v : Tok} {n : Nat} {Q : Unit → Shared → Prop} (hr : IsRange s.heap r a b c t u v) (hn : Builtin.Range.rangeSize a b c = n) (hlen : n ≤ 1000)
    (h : Q () { s with toks := s.toks + 1 + 1 }) : wpAny (model prog w) A (Builtin.Bytes.lengthHint "bytes.__new__" (.ref r)) Q E s := by
  unfold Builtin.Bytes.lengthHint
  refine wpAny_bind (wpAny_specialOf ⟨_, hr, rfl⟩ PySem.F.slot_range_len.lookup ?_)
  generalize hid : ("range.__len__" : String) = id0
  wp_delta
  rw [show splitId id0 = some ("range", "__len__") from by subst hid; decide +kernel]
  subst hid
  refine wpAny_bind (wpAny_isInstance (T := "range") (b := true) ⟨_, hr, rfl⟩ (by rw [isSubtype_type]; kernel_rfl) ?_)
  refine wpAny_ite_split (fun hab => absurd hab (by decide)) (fun _ => ?_)
  refine wpAny_ite_split (fun hab => absurd hab (by decide +kernel)) (fun _ => ?_)
  refine wpAny_ite_split (fun _ => ?_) (fun hab => absurd rfl hab)
  refine wpAny_bind (wpAny_rule ?_)
  refine wpAny_bind (wpAny_attempt (call_len_range hr hn (by omega) ?_))
  have htl : Builtin.Bytes.tooLong ((n : Int).toNat) = false := by simp [Builtin.Bytes.tooLong, sizeLine]; omega
  refine wpAny_bind (m := asInt? _) (wpAny_pure ?_)
  exact wpAny_ite_split (fun hab => absurd hab (by rw [htl]; decide)) (fun _ => wpAny_pure h)

theorem br_new {r : Addr} {a b : Int} {t u v : Tok} {ns : List Int} {Q : Value → Shared → Prop} (hh : A.handled = none) (hS : IsRange s.heap r a b 1 t u v) (hsmall : Builtin.Range.small a b 1 = true)
    (hns : Builtin.Range.rangeSize a b 1 = (ns.length : Int)) (hat : ∀ i : Nat, i < ns.length → ns[i]? = some (a + (i : Int))) (hr : ∀ n ∈ ns, 0 ≤ n ∧ n < 256) (hz : ns.length ≤ 1000)
    (hQ : ∀ h' t k, (∀ b o, s.heap.get? b = some o → h'.get? b = some o) → Q (.bytes (byteArr ns) t) { s with heap := h', toks := k }) :
    codeAny (model prog w) A (.call (.builtin "bytes.__new__") ⟨[.type "bytes", .ref r], []⟩) (wants Q E) s := by
  refine codeAny_of_tree ?_
  show wpAny _ A.in1 (do checkBuiltinCall "bytes.__new__" ⟨[.type "bytes", .ref r], []⟩; again (.builtin "bytes.__new__" ⟨[.type "bytes", .ref r], []⟩)) _ _ s
  refine wpAny_bind (wpAny_of_eq (PySem.F.bm_newCall _) (wpAny_pure ⟨plainId_quiet PySem.F.bm_plain _, codeAny_builtin PySem.F.bm_entry ?_⟩))
  rw [Around.under_plainId PySem.F.bm_plain _]
  have hT : s.TypeIs (.ref r) "range" := ⟨_, hS, rfl⟩
  unfold Builtin.«bytes.__new__»
  refine wpAny_bind (wpAny_of_eq (a := true) rfl ?_)
  refine bm_if_false rfl ?_
  refine wpAny_bind (wpAny_of_eq PySem.F.bm_sub ?_)
  refine bm_if_false rfl ?_
  refine wpAny_bind (wpAny_of_eq (PySem.F.bm_bind _) ?_)
  refine wpAny_bind (wpAny_of_eq (a := ()) rfl ?_)
  refine wpAny_bind (wpAny_of_eq (a := ()) rfl ?_)
  refine bm_if_false rfl ?_
  refine wpAny_bind (wpAny_specialOf hT br_no_bytes ?_)
  refine wpAny_bind (wpAny_bind ?_)
  show wpAny _ _ (load r >>= _) _ _ _
  refine wpAny_bind (wpAny_load hS ?_)
  refine wpAny_pure (wpAny_pure ?_)
  refine bm_if_false rfl ?_
  refine wpAny_bind (wpAny_specialOf hT br_no_index ?_)
  refine bm_if_true rfl ?_
  first
    | show wpAny _ _ (Builtin.Bytes.buffer? "bytes.__new__" (.ref r) true >>= _) _ _ _
    | (refine wpAny_bind ?_; show wpAny _ _ (Builtin.Bytes.buffer? "bytes.__new__" (.ref r) true >>= _) _ _ _)
  refine wpAny_bind ?_
  unfold Builtin.Bytes.buffer?
  refine wpAny_bind (wpAny_specialOf hT br_no_buffer ?_)
  refine wpAny_bind (wpAny_specialOf hT br_no_buffer ?_)
  refine wpAny_pure ?_
  refine wpAny_bind (wpAny_tryCatch (wpAny_pyIter_range hS hsmall ?_))
  refine wpAny_bind (wpAny_holding ?_)
  refine wpAny_hint_range_b (s := { s with heap := s.heap.push _ }) (Heap.get?_push_of_some _ hS) hns hz ?_
  refine wpAny_bind ?_
  unfold Builtin.Bytes.newBytearray
  refine wpAny_newObj_type ?_ (Nat.zero_le _)
  have hI : IsRangeIter ((s.heap.push { cls := .type "range_iterator", data := .fields #[rawInt a, rawInt (Builtin.Range.rangeSize a b 1), rawInt 1] }).push { cls := .type "bytearray", data := .bytearray #[] }) s.heap.objs.size a (ns.length : Int) 1 := by
    rw [hns]
    exact Heap.get?_push_of_some _ (Heap.get?_push_size _ rfl)
  have hsz : (s.heap.push { cls := .type "range_iterator", data := .fields #[rawInt a, rawInt (Builtin.Range.rangeSize a b 1), rawInt 1] }).objs.size = s.heap.objs.size + 1 := Heap.size_push _ _
  have main := bw_loop (prog := prog) (w := w) (A := A) (R := wants Q E) (I := s.heap.objs.size) (S := (s.heap.push { cls := .type "range_iterator", data := .fields #[rawInt a, rawInt (Builtin.Range.rangeSize a b 1), rawInt 1] }).objs.size) (ns := ns)
    (Walks.range (prog := prog) (w := w) (A := A.in1) hh s.heap.objs.size a 1 ns.length) (fun i v hi ⟨t, e⟩ => ⟨_, t, e, by
      rw [Int.mul_one]; exact hat i hi⟩) hr (by unfold sizeLine; omega) (by rw [hsz]; exact Nat.ne_of_lt (Nat.lt_succ_self _)) (fun i h st => ⟨_, st⟩)
    ns.length 0 { s with heap := (s.heap.push { cls := .type "range_iterator", data := .fields #[rawInt a, rawInt (Builtin.Range.rangeSize a b 1), rawInt 1] }).push { cls := .type "bytearray", data := .bytearray #[] }, toks := s.toks + 1 + 1 } rfl (Nat.zero_le _) (by simpa using hI) (Heap.get?_push_size _ rfl)
    fun h' t k hk => hQ h' t k fun b o e => hk b o (Nat.ne_of_lt (Heap.lt_size e)) (by rw [hsz]; exact Nat.ne_of_lt (Nat.lt_succ_of_lt (Heap.lt_size e))) (Heap.get?_push_of_some _ (Heap.get?_push_of_some _ e))
  first
    | exact wpAny_pure ⟨plainId_quiet PySem.F.bm_plain_loop _, main⟩
    | exact wpAny_pure (wpAny_pure ⟨plainId_quiet PySem.F.bm_plain_loop _, main⟩)
theorem call_bytes_range {r : Addr} {a b : Int} {t u v : Tok} {ns : List Int} {Q : Value → Shared → Prop} (hh : A.handled = none) (hS : IsRange s.heap r a b 1 t u v) (hsmall : Builtin.Range.small a b 1 = true)
    (hns : Builtin.Range.rangeSize a b 1 = (ns.length : Int)) (hat : ∀ i : Nat, i < ns.length → ns[i]? = some (a + (i : Int))) (hr : ∀ n ∈ ns, 0 ≤ n ∧ n < 256) (hz : ns.length ≤ 1000)
    (hQ : ∀ h' t k, (∀ b o, s.heap.get? b = some o → h'.get? b = some o) → Q (.bytes (byteArr ns) t) { s with heap := h', toks := k }) :
    wpAny (model prog w) A (call (.type "bytes") [.ref r]) Q E s := by
  refine callType_codes (Q₁ := fun obj s₁ => s₁.TypeIs obj "bytes" ∧ Q obj s₁) PySem.F.bm_called (PySem.F.bm_typeCall _) PySem.F.entry_object_init
    (br_new hh hS hsmall hns hat hr hz fun h' t k hk => ⟨PySem.W.typeIs_bytes _ _ _, hQ h' t k hk⟩) fun obj s₁ h₁ => ?_
  exact ⟨h₁.1, PySem.F.args_object_init_2 obj _, object_init_meets PySem.F.bm_called.init.lookup PySem.F.bm_called.made (by decide) prog w A.in1 _ s₁ ⟨h₁.1, rfl, h₁.2⟩⟩
end
end Mine
end
section
open PySem PySem.W PySem.Calls PyProof.Rows
set_option maxRecDepth 100000
namespace Mine
section
variable {M : Model} {A : Around} {E : Value → Shared → Prop} {s : Shared} {env : Env}
theorem wpN_execs_nil {Q : Flow → Shared → Prop} (h : Q .next s) : wpN M A (execs [] env) Q E s := fun _ _ _ _ _ => h
theorem wpN_execs_cons {st rest} {Q : Flow → Shared → Prop}
    (h : wpN M A (exec st env) (fun f s' => match f with | .next => wpN M A (execs rest env) Q E s' | f => Q f s') E s) :
    wpN M A (execs (st :: rest) env) Q E s := fun Γ p hΓ h1 h2 => by
  rw [execs_cons, Sem.wp_bind']
  refine Sem.wp_mono M Γ _ (fun f p' s' h' => ?_) (fun _ _ _ h' => h') _ _ (h Γ p hΓ h1 h2)
  cases f <;> first | exact h' Γ p' hΓ h1 h2 | exact h'
theorem execs_append (pre post : List Stmt) : execs (pre ++ post) env = (execs pre env >>= fun f => match f with | .next => execs post env | f => pure f) := by
  induction pre with
  | nil => rfl
  | cons st pre ih =>
    rw [List.cons_append, execs_cons, execs_cons, bind_assoc]
    congr 1
    funext f
    cases f with
    | next => exact ih
    | _ => rfl
/-- the first statements by the walk, the rest over clean stacks -/
theorem wpN_execs_append {pre post : List Stmt} {Q : Flow → Shared → Prop}
    (h : wpAny M A (execs pre env) (fun f s' => match f with | .next => wpN M A (execs post env) Q E s' | f => Q f s') E s) :
    wpN M A (execs (pre ++ post) env) Q E s := by
  rw [execs_append]
  refine wpN_bindA (wpAny_mono h (fun f s' h' => ?_) fun _ _ x => x)
  cases f with
  | next => exact h'
  | _ => exact wpN_any (wpAny_pure h')
theorem wpN_execs_split (n : Nat) {body : List Stmt} {Q : Flow → Shared → Prop}
    (h : wpAny M A (execs (body.take n) env) (fun f s' => match f with | .next => wpN M A (execs (body.drop n) env) Q E s' | f => Q f s') E s) :
    wpN M A (execs body env) Q E s := by
  rw [← List.take_append_drop n body]
  exact wpN_execs_append h
/-- one statement, cut off from the rest by what holds behind it -/
theorem cut_stmt {st rest} {Q : Flow → Shared → Prop} (J : Shared → Prop) (h1 : wpAny M A (exec st env) (fun f s' => f = .next ∧ J s') (fun _ _ => False) s) (h2 : ∀ s', J s' → wpAny M A (execs rest env) Q E s') :
    wpAny M A (execs (st :: rest) env) Q E s :=
  wpAny_execs_cons (wpAny_mono (wpAny_noRaise h1) (fun f s' ⟨e, j⟩ => by subst e; exact h2 s' j) fun _ _ x => x)
theorem wpN_Assign_Name {x pos' value pos} {Q : Flow → Shared → Prop}
    (h : wpN M A (eval value env) (fun v s₁ => wpAny M A (storeName env x v) (fun _ => Q .next) E s₁) E s)
    (hs : swapsWith value (some (.Name x pos')) pos.line env = pure false := by rfl) :
    wpN M A (exec (.Assign [.Name x pos'] value pos) env) Q E s := fun Γ p hΓ h1 h2 => by
  simp only [exec_Assign_Name env x pos' value pos hs, Sem.wp_bind', Sem.wp_cmd_standAt, Sem.wp_bindName, Sem.wp_pure']
  exact Sem.wp_mono M Γ _ (fun v _ s₁ h₁ => h₁ Γ _ hΓ) (fun _ _ _ h' => h') _ _ (h Γ _ hΓ h1 h2)
theorem wpN_If {test body orelse pos} {Q : Flow → Shared → Prop}
    (h : wpN M A (isTrue test env (eval test env))
      (fun b s₂ => if b then wpAny M A (execs body env) Q E s₂ else wpAny M A (execs orelse env) Q E s₂) E s) :
    wpN M A (exec (.If test body orelse pos) env) Q E s := fun Γ p hΓ h1 h2 => by
  simp only [exec_If, Sem.wp_bind', Sem.wp_cmd_standAt]
  refine Sem.wp_mono M Γ _ (fun b p₂ s₂ h₂ => ?_) (fun _ _ _ h' => h') _ _ (h Γ _ hΓ h1 h2)
  cases b <;> exact h₂ Γ p₂ hΓ
theorem wpN_Call_ofName {x : Str} {np pos : Pos} {args : List Expr} {keywords : List Keyword} {Q : Value → Shared → Prop}
    (h : wpAny M A (eval (.Name x np) env) (fun f s₁ => wpN M A (callWith pos f [] (backTo pos (starEach args env)) (backToKw pos (keywordEach keywords env))) Q E s₁) E s) :
    wpN M A (eval (.Call (.Name x np) args keywords pos) env) Q E s := by
  show wpN M A (do callWith pos (← eval (.Name x np) env) [] (backTo pos (starEach args env)) (backToKw pos (keywordEach keywords env))) Q E s
  exact wpN_bindA h
theorem wpN_keep {α : Type} {vs : List Value} {m : Sem α} {Q : α → Shared → Prop} (h : wpN M A m Q E s) : wpN M A (m.keep vs) Q E s :=
  fun Γ p hΓ h1 h2 => by rw [Sem.wp_keep]; exact h Γ p hΓ h1 h2
/-- the call itself over clean stacks -/
theorem callWithN_of {pos : Pos} {f : Value} {first : List Value} {Q : Value → Shared → Prop} {P : Heap → Prop} {args : List (Bool × Sem Value)} {keywords : List (Option Str × Sem Value)} (hplain : (args.any (·.1) || keywords.any (·.1.isNone)) = false)
    (hk : ∀ h, P h → ∃ k, (k = Keeper.frame ∨ k = Keeper.machine ∨ k = Keeper.boundFrame) ∧ Looks M h (keeperOf f) k)
    (h : wpAny M A (evalArgs f true args keywords) (fun a s₁ => P s₁.heap ∧ wpN M A (call f (first ++ a.pos) a.kw) Q E s₁) E s) : wpN M A (callWith pos f first args keywords) Q E s := by
  unfold callWith
  refine wpN_bindA (wpAny_holding (wpAny_mono h (fun a s₁ h₁ => wpN_bindA (wpAny_standAt ?_)) fun _ _ x => x))
  obtain ⟨k, hk', L⟩ := hk _ h₁.1
  simp only [hplain]
  refine wpN_bindA (L.here ?_)
  have tail : ∀ {t : Sem Value}, wpN M A t Q E s₁ → wpN M A (t >>= fun r => holding [r] point >>= fun _ => pure r) Q E s₁ :=
    fun ht => wpN_bindE (wpN_mono ht (fun r s₂ hr => wpAny_bind (wpAny_holding (wpAny_point (wpAny_pure hr)))) fun _ _ x => x)
  have marked (mk : Value) : wpN M A (callMarked mk f (first ++ a.pos) a.kw) Q E s₁ := by unfold callMarked; exact wpN_keep h₁.2
  rcases hk' with rfl | rfl | rfl <;> dsimp only <;> first | exact tail h₁.2 | (split <;> first | exact tail h₁.2 | exact tail (marked _))
theorem callWithN_K {K : Frag} {pos : Pos} {f : Value} {first : List Value} {Q : Value → Shared → Prop} {h₀ : Heap} {e : Expr} {rest : List Expr} (_X : K.In h₀) (hk : keepIn K f = true) (h : wpAny M A (spliced (backTo pos (starEach (e :: rest) env))) (fun vs s₁ => K.In s₁.heap ∧ wpN M A (call f (first ++ vs)) Q E s₁) E s)
    (he : starEach (e :: rest) env = (false, eval e env) :: starEach rest env := by rfl) (hplain : (backTo pos (starEach rest env)).any (·.1) = false := by rfl) :
    wpN M A (callWith pos f first (backTo pos (starEach (e :: rest) env)) []) Q E s := by
  rw [he] at h ⊢
  exact callWithN_of (by show ((false || (backTo pos (starEach rest env)).any (·.1)) || false) = false; rw [hplain]; rfl) (keeps_K hk) (evalArgs_plain h)
theorem callWithN_type {pos : Pos} {T : String} {first : List Value} {args : List (Bool × Sem Value)} {Q : Value → Shared → Prop}
    (hplain : args.any (·.1) = false)
    (h : wpAny M A (evalArgs (.type T) true args []) (fun a s₁ => wpN M A (call (.type T) (first ++ a.pos) a.kw) Q E s₁) E s) :
    wpN M A (callWith pos (.type T) first args []) Q E s := by
  unfold callWith
  refine wpN_bindA (wpAny_holding (wpAny_mono h (fun a s₁ h₁ => wpN_bindA (wpAny_standAt ?_)) fun _ _ x => x))
  simp only [hplain, List.any_nil, Bool.or_false]
  refine wpN_bindA (wpAny_pure ?_)
  exact wpN_bindE (wpN_mono h₁ (fun r s₂ hr => wpAny_bind (wpAny_holding (wpAny_point (wpAny_pure hr)))) fun _ _ x => x)
theorem callWithN_type1 {pos : Pos} {T : String} {e : Expr} {Q : Value → Shared → Prop}
    (h : wpAny M A (eval e env) (fun v s₁ => wpN M A (call (.type T) [v]) Q E s₁) E s)
    (he : starEach [e] env = [(false, eval e env)] := by rfl) :
    wpN M A (callWith pos (.type T) [] (backTo pos (starEach [e] env)) []) Q E s := by
  rw [he]
  exact callWithN_type rfl (evalArgs_plain (spliced_cons (wpAny_mono h (fun v s₁ h₁ => spliced_nil h₁) fun _ _ x => x)))
theorem evalArgs_plainN {f : Value} {x : Sem Value} {rest : List (Bool × Sem Value)} {Q : Args → Shared → Prop}
    (h : wpN M A (spliced ((false, x) :: rest)) (fun vs s' => Q ⟨vs, []⟩ s') E s) : wpN M A (evalArgs f true ((false, x) :: rest) []) Q E s := by
  unfold evalArgs
  show wpN M A (spliced ((false, x) :: rest) >>= _) Q E s
  refine wpN_bindE (wpN_mono h (fun vs s' h' => ?_) fun _ _ x => x)
  refine wpAny_holding ?_
  exact wpAny_bind (wpAny_pure (wpAny_bind (wpAny_pure (wpAny_pure h'))))
theorem spliced_oneN {x : Sem Value} {Q : List Value → Shared → Prop} (h : wpN M A x (fun v s₁ => Q [v] s₁) E s) : wpN M A (spliced [(false, x)]) Q E s := by
  unfold spliced
  refine wpN_bindE (wpN_mono h (fun v s₁ h₁ => ?_) fun _ _ x => x)
  refine wpAny_bind (wpAny_pure ?_)
  refine wpAny_bind (wpAny_holding (wpAny_pure ?_))
  exact wpAny_pure h₁
/-- a type called with one argument that is made over clean stacks -/
theorem callWithN_typeArg {pos : Pos} {T : String} {e : Expr} {Q : Value → Shared → Prop}
    (h : wpN M A (eval e env) (fun v s₁ => wpAny M A (call (.type T) [v]) Q E s₁) E s)
    (he : starEach [e] env = [(false, eval e env)] := by rfl) :
    wpN M A (callWith pos (.type T) [] (backTo pos (starEach [e] env)) []) Q E s := by
  rw [he]
  unfold callWith
  refine wpN_bindE (wpN_holding ?_)
  refine evalArgs_plainN (spliced_oneN (wpN_mono h (fun v s₁ h₁ => ?_) fun _ _ x => x))
  refine wpAny_bind (wpAny_standAt ?_)
  have hplain : (backTo pos [(false, eval e env)]).any (·.1) = false := rfl
  simp only [hplain, List.any_nil, Bool.or_false]
  refine wpAny_bind (wpAny_pure ?_)
  exact wpAny_bind (wpAny_mono h₁ (fun r s₂ hr => wpAny_bind (wpAny_holding (wpAny_point (wpAny_pure hr)))) fun _ _ x => x)
end
section
variable {prog : Program} {w : World} {A : Around} {s : Shared} {R : Result → Shared → Prop}
theorem codeN_func {body env}
    (h : wpN (model prog w) (A.deeper env) (execs body env) (fun f s' => R (.ok (.ret (match f with | .ret v => v | _ => .none))) s')
      (fun _ _ => False) s) :
    codeN (model prog w) A (.func body env) R s := by
  refine codeN_of_tree rfl ?_
  show wpN _ (A.deeper env) (do point; match ← (execs body env).onRaise (leaving env) with | .ret v => ret v | _ => ret .none) _ _ s
  refine wpN_bindA (wpAny_point (wpN_bind (wpN_onRaise (wpN_mono h (fun f s' h' => ?_) fun _ _ h' => h'))))
  cases f <;> exact wpN_any (wpAny_pure h')
theorem codeN_call_function {a : Addr} {args : Args} {o : Obj} {fd : FuncData} {body : List Stmt} (hroom : A.depth < recursionLimit)
    (ho : s.heap.get? a = some o)
    (hd' : o.data = .func fd) (hco : fd.scope.isCoroutine = false) (hgen : fd.scope.isGenerator = false) (hbody : fd.body = .stmts body) (hcd : s.heap.CodeRec fd.code fd.qualname)
    (h : wpAny (model prog w) A.in1 (bindArgs fd args) (fun binds s₁ =>
      wpAny (model prog w) A.in1 (newFunctionEnv fd.scope fd.globals fd.closure binds (fd.qualname ++ ".<locals>.") (some a) fd.code none fd.builtins)
        (fun env s₂ => s₂.heap.NoLimit ∧ codeN (model prog w) A (.func body env) R s₂) (fun e s' => R (.error e) s') s₁) (fun e s' => R (.error e) s') s) :
    codeN (model prog w) A (.call (.ref a) args) R s := by
  refine codeN_of_tree rfl ?_
  show wpN _ A.in1 (callAny (.ref a) args) _ _ s
  simp only [callAny]
  refine wpN_bindA (wpAny_load ho ?_)
  obtain ⟨c, oc, vs, tq, hc, hoc, hdc, hq⟩ := hcd
  simp only [hd', callFunction, hco, hgen, hbody, hc]
  rw [hc] at h
  refine wpN_bindA (m := field (.ref c) 1) (wpAny_field hoc hdc hq (wpN_bindA (wpAny_pure ?_)))
  exact wpN_bindA (wpAny_mono h (fun binds s₁ h₁ => wpN_bindA (wpAny_mono h₁ (fun env s₂ h₂ => wpN_bindA (wpAny_enterFrame h₂.1 hroom
    (wpN_any (wpAny_pure (And.intro rfl h₂.2))))) fun _ _ h' => h')) fun _ _ h' => h')
theorem codeN_call_def {a : Addr} {o : Obj} {fd : FuncData} {body : List Stmt} {args : Args} {binds : List (Str × Value)}
    (hroom : A.depth < recursionLimit) (ho : s.heap.get? a = some o) (hdata : o.data = .func fd) (hlim : s.heap.NoLimit) (hcd : s.heap.CodeRec fd.code fd.qualname)
    (hbody : fd.body = .stmts body) (hbind : BindsTo s fd args binds)
    (hcell : ∀ x ∈ fd.scope.names, x.2 ≠ .cell) (hloc : ∀ x ∈ binds, fd.scope.names.lookup x.1 = some .local)
    (h : ∀ h₀, h₀.Ns s.heap.objs.size (fun x => binds.reverse.lookup x) → (∀ b o, s.heap.get? b = some o → h₀.get? b = some o) →
      wpN (model prog w) (A.deeper (callEnv fd s.heap.objs.size a)) (execs body (callEnv fd s.heap.objs.size a)) (fun f s' => R (.ok (.ret (match f with | .ret v => v | _ => .none))) s')
        (fun _ _ => False) { s with heap := h₀, toks := s.toks + binds.length })
    (hco : fd.scope.isCoroutine = false := by rfl) (hgen : fd.scope.isGenerator = false := by rfl) (hk : fd.scope.kind = .function := by rfl) :
    codeN (model prog w) A (.call (.ref a) args) R s := by
  refine codeN_call_function hroom ho hdata hco hgen hbody hcd (hbind _ _ _ _ ?_)
  refine wpAny_newFunctionEnv hcell hloc (fun h₀ hns₀ hsb₀ => ⟨hlim.fresh _ hsb₀, codeN_func (h h₀ hns₀ fun b o e => ?_)⟩) hk
  exact hsb₀.extBut b o (Nat.ne_of_lt (Heap.lt_size e)) (Heap.get?_push_of_some _ e)
end
end Mine
end
section
open PySem PySem.W PySem.Calls PyProof.Rows
set_option maxRecDepth 100000
namespace Mine
theorem around_leN {α : Type} {M : Model} {A A' : Around} {t : Sem α} {Q : α → Shared → Prop} {E : Value → Shared → Prop} {s : Shared}
    (h : wpN M A' t Q E s) (e1 : A.handled = A'.handled) (e2 : A.depth ≤ A'.depth) (e3 : A.frames = A'.frames) (e4 : A.guards = A'.guards) (e5 : A.units ≤ A'.units) : wpN M A t Q E s := by
  intro Γ p hΓ
  refine h Γ p ⟨?_, ?_, ?_, ?_, ?_⟩
  · rw [← e1]; exact hΓ.1
  · exact Nat.le_trans hΓ.2.1 e2
  · rw [← e3]; exact hΓ.2.2.1
  · rw [← e4]; exact hΓ.2.2.2.1
  · exact Nat.le_trans hΓ.2.2.2.2 e5

/-- a def's contract over clean stacks -/
def ConN (D U : Nat) (prog : Program) (w : World) (K : Frag) (p : Program) (loose : List Str) (f : Addr) (vs : List Value) (Pre : Heap → Prop) (Post : Heap → Heap → Value → Prop) : Prop :=
  ∀ (A : Around) (env : Env) (outer : List Env) (A₀ : Around) (base h₀ : Heap) (L : Addr) (m : Str → Option Value) (mean : ExcName → Option Value) (mg mb : Str → Option Value) (s : Shared) (Q E : Value → Shared → Prop),
    A.frames = some (env :: outer) → env.frame = some L → env.scope.kind = .function → A.handled = none → A.depth ≤ D → A.units ≤ U →
    Below A₀ base outer h₀ → Fr h₀ L s.heap m → K.In h₀ → Top p loose mean mg mb h₀ → Pre s.heap →
    (∀ r h' tk', Ext s.heap h' → Post s.heap h' r → Q r { s with heap := h', toks := tk' }) →
    wpN (model prog w) A (call (.ref f) vs) Q E s

section
variable {D U : Nat} {prog : Program} {w : World} {K : Frag} {p : Program} {loose : List Str} {f : Addr} {vs : List Value} {Pre : Heap → Prop} {Post : Heap → Heap → Value → Prop}
  {name qual : Str} {params : Arguments} {body : List Stmt} {scope : Scope} {dV kV doc pm cdv ct oc : Value} {an od : Option Addr} {osl : Array (Option Value)} {binds : List (Str × Value)}

theorem con_plainN (hD : D < recursionLimit)
    (ho : K.lookup f = some ⟨oc, od, .func (fnOf name qual params body scope dV kV doc pm an cdv ct), osl⟩) (hcd : codeIn K cdv qual = true)
    (hbind : ∀ s, BindsTo s (fnOf name qual params body scope dV kV doc pm an cdv ct) ⟨vs, []⟩ binds) (hloc : ∀ y ∈ binds, scope.names.lookup y.1 = some .local)
    (hcell : ∀ x ∈ scope.names, x.2 ≠ .cell)
    (h : ∀ (env : Env) (outer : List Env) (gd : Option (List Code)) (A : Around) (base : Heap) (L' : Addr) (h₁ : Heap) (mean : ExcName → Option Value) (mg mb : Str → Option Value) (s : Shared),
      A = BodyA D U gd env outer → Fr s.heap L' h₁ (fun y => binds.reverse.lookup y) → Below A base (env :: outer) s.heap → K.In s.heap → Top p loose mean mg mb s.heap → Pre s.heap →
      wpN (model prog w) (A.deeper (envOf qual scope L' f cdv)) (execs body (envOf qual scope L' f cdv))
        (fun fl s' => Ends s Post (match fl with | .ret v => v | _ => .none) s') (fun _ _ => False) { s with heap := h₁, toks := s.toks + binds.length })
    (hco : scope.isCoroutine = false := by rfl) (hgen : scope.isGenerator = false := by rfl) (hk : scope.kind = .function := by rfl) :
    ConN D U prog w K p loose f vs Pre Post := by
  intro A env outer A₀ base h₀ L m mean mg mb s Q E e1 e2 e3 e4 e5 e6 B F X T pre ret
  refine around_leN (A' := BodyA D U A.guards env outer) ?_ e4 e5 e1 rfl e6
  refine wpN_call ?_
  have N : News h₀ L s.heap [] := News.nil
  obtain ⟨FG, BG, st, -⟩ := groundX (A := BodyA D U A.guards env outer) (R := fun _ _ => True) B F N rfl e2 e3
  have st : Ext h₀ s.heap := st
  refine codeN_call_def (fd := fnX name qual params body scope [] dV kV doc pm an cdv ct) (body := body) (binds := binds) hD ((X.keeps F.keep) _ _ ho) rfl (T.nolimit.keeps F.keep) (codeRec_of (X.keeps F.keep) hcd) rfl (hbind _) hcell hloc (fun h₁ hns hk₁ => ?_) hco hgen hk
  refine wpN_mono (h env outer A.guards _ base s.heap.objs.size h₁ mean mg mb s rfl ⟨hns, hk₁, Nat.le_refl _⟩ BG (X.keeps F.keep) (T.keeps F.keep) pre) (fun fl s' hl => ?_) fun _ _ y => y
  obtain ⟨h', tk', rfl, x, post⟩ := hl
  exact ret _ _ _ x post
end
/-- a place where the walk is to stop, over clean stacks -/
theorem con_callN {D U : Nat} {prog : Program} {w : World} {K : Frag} {p : Program} {loose : List Str} {f : Addr} {vs : List Value} {Pre : Heap → Prop} {Post : Heap → Heap → Value → Prop}
    {A : Around} {env : Env} {outer : List Env} {A₀ : Around} {base h₀ : Heap} {L : Addr} {m : Str → Option Value} {mean : ExcName → Option Value} {mg mb : Str → Option Value} {s : Shared} {Q E : Value → Shared → Prop} {news : List (Addr × Obj)}
    (C : ConN D U prog w K p loose f vs Pre Post) (F : Fr h₀ L s.heap m) (N : News h₀ L s.heap news) (e1 : A.frames = some (env :: outer)) (e2 : env.frame = some L) (e3 : env.scope.kind = .function) (e4 : A.handled = none) (e5 : A.depth ≤ D) (e6 : A.units ≤ U)
    (B : Below A₀ base outer h₀) (X : K.In h₀) (T : Top p loose mean mg mb h₀) (pre : Pre s.heap)
    (ret : ∀ r h' tk', Ext s.heap h' → Post s.heap h' r → Fr h₀ L h' m → News h₀ L h' news → (∀ r o, Fresh s.heap h' r o → News h₀ L h' ((r, o) :: news) ∧ LCg.Off1 r news) → Q r { s with heap := h', toks := tk' }) :
    wpN (model prog w) A (call (.ref f) vs) Q E s :=
  C A env outer A₀ base h₀ L m mean mg mb s Q E e1 e2 e3 e4 e5 e6 B F X T pre fun r h' tk' x q => ret r h' tk' x q (F.keeps x) (N.grown x) fun _ _ f => ⟨f.news F N x, off1_of (f.off N)⟩

/-- one object of the ledger written over -/
theorem news_put {h₀ h h' : Heap} {L r : Addr} {o' : Obj} {news news' : List (Addr × Obj)} (N : News h₀ L h news) {o : Obj} (hr : (r, o) ∈ news) (h1 : h'.get? r = some o') (h2 : ∀ c o, c ≠ r → h.get? c = some o → h'.get? c = some o)
    (hn : ∀ p ∈ news', p = (r, o') ∨ (p ∈ news ∧ p.1 ≠ r)) : News h₀ L h' news' := by
  intro p hp
  rcases hn p hp with rfl | ⟨hp, hne⟩
  · exact ⟨h1, (N _ hr).2⟩
  · exact ⟨h2 _ _ hne (N p hp).1, (N p hp).2⟩
theorem fr_put {h₀ h h' : Heap} {L r : Addr} {m : Str → Option Value} {news : List (Addr × Obj)} (F : Fr h₀ L h m) (N : News h₀ L h news) {o : Obj} (hr : (r, o) ∈ news) (h2 : ∀ c o, c ≠ r → h.get? c = some o → h'.get? c = some o) : Fr h₀ L h' m := by
  refine ⟨F.ns.at' fun o e => h2 _ o (fun q => (N _ hr).2.1 q.symm) e, fun b o e => h2 b o (fun q => ?_) (F.keep b o e), F.above⟩
  have := (N _ hr).2.2
  rw [show b = r from q] at e
  rw [show h₀.get? r = none from this] at e
  cases e
section
variable {prog : Program} {w : World} {A : Around} {E : Value → Shared → Prop} {s : Shared} {env : Env} {h₀ : Heap} {target : Expr} {body : List Stmt} {Q : Flow → Shared → Prop}
theorem range_Xc {r : Addr} {a₀ b₀ c₀ : Int} {t₀ u₀ v₀ : Tok} {n : Nat} {m₀ : Str → Option Value} {news : List (Addr × Obj)} (J : Nat → (Str → Option Value) → List (Addr × Obj) → Prop)
    (hh : A.handled = none) (hr : IsRange s.heap r a₀ b₀ c₀ t₀ u₀ v₀) (hsmall : Builtin.Range.small a₀ b₀ c₀ = true) (hn : Builtin.Range.rangeSize a₀ b₀ c₀ = (n : Int)) (F : Fr h₀ env.locals s.heap m₀) (N : News h₀ env.locals s.heap news) (hj : J 0 m₀ news)
    (turn : ∀ i t m₁ news₁ h tk I oI, i < n → J i m₁ news₁ → (∀ p ∈ news₁, p.1 ≠ I) → Fr h₀ env.locals h m₁ → News h₀ env.locals h ((I, oI) :: news₁) →
      wpAny (model prog w) A (assign target env (.int (a₀ + (i : Int) * c₀) t)) (fun _ s₂ => wpAny (model prog w) A (execs body env) (TurnEnd h₀ env.locals (I, oI) (J (i + 1)) Q { s with heap := h, toks := tk }) E s₂) E { s with heap := h, toks := tk })
    (done : ∀ m₁ news₁ h tk, J n m₁ news₁ → Fr h₀ env.locals h m₁ → News h₀ env.locals h news₁ → Q .next { s with heap := h, toks := tk })
    (ht : ∀ I v, letOwnedTupleGo target (.ref I) v = pure ()) (hE : PassesOwn (model prog w) A env E) : LoopX prog w A h₀ env target body Q E (.ref r) s := by
  unfold LoopX
  refine wpAny_pyIter_range hr hsmall ?_
  have W := Walks.range (prog := prog) (w := w) hh s.heap.objs.size a₀ c₀ n
  refine loop_X (s := ⟨_, _, _, _, _⟩) J W (fun i h st => ⟨_, st⟩) (fun i m news h o _ _ _ b hb hne => absurd (List.mem_singleton.mp hb) hne) (next_is_new F) ?_ ?_ (F.push _) (fun p hp => ⟨Heap.get?_push_of_some _ (N p hp).1, (N p hp).2⟩) ?_ hj ?_ done (ht _) hE
  · exact Nat.ne_of_lt F.ns.lt
  · show IsRangeIter _ _ _ _ _
    rw [hn]
    simpa using Heap.get?_push_size _ rfl
  · intro p hp e
    exact absurd (Heap.lt_size (N p hp).1) (by rw [e]; exact Nat.lt_irrefl _)
  · rintro i v m₁ news₁ h tk oI hi ⟨t, rfl⟩ hJ hn' F' N'
    exact turn i t m₁ news₁ h tk _ oI hi hJ hn' F' N'
end
theorem fresh_none (h : Heap) : h.get? h.objs.size = none := by
  cases e : h.get? h.objs.size with
  | none => rfl
  | some o => exact absurd (Heap.lt_size e) (Nat.lt_irrefl _)
end Mine
end
section
open PySem PySem.W PySem.Calls PyProof.Rows
set_option maxRecDepth 100000
namespace Mine
theorem caller_clean : Clean (⟨.builtin "claim.caller" {}, none, none, [], none⟩ : Ctx) := fun _ h => nomatch h
theorem caller_ok : okCode (⟨.builtin "claim.caller" {}, none, none, [], none⟩ : Ctx).code = true := by decide +kernel
theorem wp_of_wpN_done {M : Model} {A : Around} {Γ : Ctx} {t : Sem Fin} {R : Result → Shared → Prop} {s : Shared} (hin : Γ.In A) (h1 : Clean Γ) (h2 : okCode Γ.code = true)
    (h : wpN M A t (fun fin s' => ∃ f, fin = .done f ∧ R (.ok f) s') (fun e s' => R (.error e) s') s) (p : Pos) :
    Sem.wp M Γ t (Sem.finPost M Γ R) (fun e _ s' => R (.error e) s') p s := by
  refine Sem.wp_mono M Γ t (fun fin p' s' h' => ?_) (fun _ _ _ h' => h') p s (h Γ p hin h1 h2)
  obtain ⟨f, rfl, hf⟩ := h'
  exact hf
theorem thread_ends_clean {prog : Program} {w : World} {t : Sem Fin} {s : Shared} {R : Result → Shared → Prop} (hreg : s.asleep)
    (h : wpN (model prog w) callerA t (fun fin s' => ∃ f, fin = .done f ∧ (R (.ok f) s' ∧ leftWithCleanup s'.gens = false)) (fun e s' => R (.error e) s' ∧ leftWithCleanup s'.gens = false) s) :
    ∃ n r s' s'', runN (denote table) prog w n s ⟨t, .builtin "claim.caller" {}, default, []⟩ = .halted (outcomeOf r) s' ∧
      schedN (denote table) prog w n (.single s ⟨t, .builtin "claim.caller" {}, default, []⟩) = .halted (outcomeOf r) s' ∧ s'.forget = s''.forget ∧ R r s'' := by
  obtain ⟨n, r, s₁, s₂, hs, hn, hfo, hR⟩ := wp_halts_full (M := model prog w) (R := R) hreg (wp_of_wpN_done (R := fun r s' => R r s' ∧ leftWithCleanup s'.gens = false) caller_in caller_clean caller_ok h default)
  exact ⟨n, r, s₂, s₁, hn, hs, hfo, hR⟩
theorem callFrom_clean {c : ClaimW} {tree : List Value → Sem Fin} {w : World} {s : Shared} {free : Addr → Prop} {gens : Prop} {kept : Heap → Prop} (hz : s.asleep) (hgens : s.gens = #[])
    (hspec : ∀ args, c.pre args = true → WData.layableAll args = true →
      ∀ ord : List DictEntry → List DictEntry, (∀ l, (ord l).Perm l) →
      ∃ vs s₁, layAllW c.records (classAt s.heap) w.params ord args s = some (vs, s₁) ∧
        wpN (model c.prog w) callerA (tree vs) (fun fin s' => ∃ f, fin = .done f ∧ (c.Ends s args vs s₁ (.ok f) s' ∧ s'.os = s.os ∧ AllBare s'.gens ∧ kept s'.heap))
          (fun e s' => c.Ends s args vs s₁ (.error e) s' ∧ s'.os = s.os ∧ AllBare s'.gens ∧ kept s'.heap) s₁) :
    c.CallFrom (fun vs => ⟨tree vs, .builtin "claim.caller" {}, default, []⟩) w free gens kept s := by
  intro args hpre hlay ord hord
  obtain ⟨vs, s₁, hlaid, hcode⟩ := hspec args hpre hlay ord hord
  have hal := layAllW_rest _ _ _ hlaid
  obtain ⟨k, r, s', s'', hrun, hsched, hfo, hcase, hos, hkp⟩ := thread_ends_clean (prog := c.prog) (w := w) (t := tree vs) (s := s₁)
    (R := fun r s' => c.Ends s args vs s₁ r s' ∧ s'.os = s.os ∧ kept s'.heap)
    (Shared.asleep_of_life hal.2.2.2 hz)
    (wpN_mono hcode (by
      rintro fin s' ⟨f, e, h1, h2, h3, h4⟩
      exact ⟨f, e, ⟨h1, h2, h4⟩, leftWithCleanup_false_of_bare h3⟩) (by
      rintro e s' ⟨h1, h2, h3, h4⟩
      exact ⟨⟨h1, h2, h4⟩, leftWithCleanup_false_of_bare h3⟩))
  obtain ⟨eh, _, _, eo, _⟩ := Shared.forget_eq hfo
  have hcase := hcase.congr eh
  have hkp : kept s'.heap := by first | exact eh ▸ hkp | (rw [eh] at hkp; exact hkp) | (rw [← eh] at hkp; exact hkp)
  rw [← eo] at hos
  have hlife : s'.heap.life = s.heap.life := (runN_life _ _ _ hrun).trans hal.2.2.2
  refine ⟨vs, s₁, hlaid, k, _, s', hsched, ?_, (fun _ i x hx => by rw [hgens] at hx; simp at hx), hkp, by rw [hlife], Shared.rest_eq hos⟩
  rcases hcase with ⟨v, rfl, d1, d2, d3, d4, d5⟩ | ⟨e, ob, cls, rfl, d1, d2, d3, d4, d5⟩
  · exact .inl ⟨v, rfl, d1, d2, d3, fun b o y _ => d4 b o y, d5⟩
  · exact .inr ⟨e, ob, cls, rfl, d1, d2, d3, d4, fun b o y _ => d5 b o y⟩
theorem open_clean {r : RowW} {run : Value → List Value → Sem Value} {tree : List Value → Sem Fin} {q : Program} {loose defs kps : List Str} {writes : Bool} {Xt : Shared → Bool} {XP : (Str → Option Value) → Heap → Prop} {α : Type} {Yf : Shared → α} {Ya : World → α} {YP : World → Heap → Prop} {N : Nat}
    (left : LeftO r.prog q loose Xt Yf Ya N) (hY : ∀ w s, Yf s = Ya w → YP w s.heap) (hYk : ∀ w h h', YP w h → (∀ b o, h.get? b = some o → h'.get? b = some o) → YP w h') (hX : ∀ s, Xt s = true → XP (s.heap.nsMap mainGlobals) s.heap) (hXk : ∀ mg h h', XP mg h → (∀ b o, h.get? b = some o → h'.get? b = some o) → XP mg h')
    (hRf : ∀ s, Xt s = true → RecFacts r.records s.heap) (hwr : (!writes || r.records.isEmpty) = true) (ok : (chainsOk q && opensWell r.prog && (frees r && r.within.isEmpty)) = true) (hb : r.prog.bare) (hw : r.promised)
    (ht : ∀ vs (w : World) (s : Shared) mg f (Q : Fin → Shared → Prop) (E : Value → Shared → Prop), s.heap.Ns mainGlobals mg → mg r.name = some f → wpN (model r.prog w) callerA (run f vs) (fun v s' => Q (.done (.ret v)) s') E s → wpN (model r.prog w) callerA (tree vs) Q E s)
    (pin : ∀ w s, s.heap.isNs mainGlobals = true → Ground q loose [] XP w s (s.heap.nsMap mainGlobals) (s.heap.nsMap builtinsNs) s.heap → ∀ n ∈ defs, isTheDefsW r.prog s.heap n)
    (call : ∀ (w : World) (s₀ s₁ : Shared) (mg mb : Str → Option Value), Ground q loose r.records XP w s₀ mg mb s₁.heap → YP w s₁.heap → ∀ (args : List WData) (vs : List Value) (as : List Addr),
      r.claim.pre args = true → WData.layableAll args = true → Laid r.records w s₀ s₁ args vs as → sysModules < s₀.heap.objs.size → ∃ f, mg r.name = some f ∧
        wpN (model r.prog w) callerA (run f vs) (fun v s' => GoodWG r.claim (classAt s₀.heap) (ExcName.means s₀.heap) args s₁ (.ok (.ret v)) s')
          (fun e s' => GoodWG r.claim (classAt s₀.heap) (ExcName.means s₀.heap) args s₁ (.error e) s') s₁) : r.claim.HoldsOpenBy (fun vs => ⟨tree vs, .builtin "claim.caller" {}, default, []⟩) defs kps writes := by
  obtain ⟨ok, k5⟩ := Bool.and_eq_true_iff.mp ok
  obtain ⟨hch, o1⟩ := Bool.and_eq_true_iff.mp ok
  obtain ⟨k5, k6⟩ := Bool.and_eq_true_iff.mp k5
  obtain ⟨hsame, hu, ha, hap, hm⟩ := frees_parts k5
  refine ⟨⟨hb, o1, by show r.makers.map _ = []; rw [hm]; rfl⟩, hw.witness, fun w => ⟨(left.behind hX hch w).1, fun s' hs' => ?_⟩⟩
  obtain ⟨s₀, hf, hg0, s, hT, hz, hgens, hg, G00, y⟩ := (left.behind (XP := fun mg h => XP mg h ∧ RecFacts r.records h) (fun s hs => ⟨hX s hs, hRf s hs⟩) hch w).2 s' hs'
  have G0 : Ground q loose [] XP w s (s.heap.nsMap mainGlobals) (s.heap.nsMap builtinsNs) s.heap := ⟨G00.T, G00.B, G00.D, G00.TE, G00.TD, G00.W, G00.X.1, G00.cls, G00.has, G00.apart, G00.once, G00.K⟩
  have RF := G00.X.2
  have hT' := hT
  refine ⟨s₀, hf, hg0, s, hT, pin w s hg G0, RF.1, RF.2.1, ?_⟩
  have hgens : s.gens = #[] := Array.eq_empty_of_size_eq_zero (beq_iff_eq.mp hgens)
  have G : Ground q loose r.records XP w s _ _ s.heap := RF.ground G0
  refine callFrom_clean (c := r.claim) hz hgens fun args hpre hlay ord hord => ?_
  obtain ⟨⟨vs, s₁⟩, hlaid⟩ := Option.isSome_iff_exists.mp (layAllW_isSome (P := w.params) (ord := ord) G.has args r.args s (pre_splitW hpre).1)
  have keeps := layAllW_keeps _ _ _ hlaid
  have hal := layAllW_rest _ _ _ hlaid
  obtain ⟨as, hrd, hin, hold⟩ := reads_layAllW hord _ _ _ hlaid hlay s₁.heap (fun _ _ e => e)
  have L : Laid r.records w s s₁ args vs as := ⟨⟨ord, hord, hlaid⟩, hrd, hin, hold, keeps, hal.1.trans hgens, hal.2.2.1⟩
  have G₁ := G.keeps hXk keeps
  obtain ⟨f, hf, h⟩ := call w s s₁ _ _ G₁ (hYk _ _ _ (hY w s y) keeps) args vs as hpre hlay L G.low
  have hi := ident_freeW hu ha hap
  have hwi : r.claim.within = [] := List.isEmpty_iff.mp k6
  exact ⟨vs, s₁, hlaid, ht vs w s₁ _ f _ _ G₁.T.g hf (wpN_mono h (fun v s' g => ⟨_, rfl, have z := g.laid (c := r.claim) hsame hwi hi L; ⟨z.1, z.2.1, z.2.2, fun q => ⟨namesKept_of hT' hg kps keeps g.2.1.old, noTable hwr q⟩⟩⟩) fun e s' g => have z := g.laid (c := r.claim) hsame hwi hi L; ⟨z.1, z.2.1, z.2.2, fun q => ⟨namesKept_of hT' hg kps keeps g.2.1.old, noTable hwr q⟩⟩)⟩

abbrev WalkC (q : Program) (loose : List Str) (XP : (Str → Option Value) → Heap → Prop) (YP : World → Heap → Prop) (r : RowW) (d : DefRec) (kwd : List (Str × Expr)) (run : Value → List Value → Sem Value) : Prop :=
  ∀ (w : World) (s₀ s₁ : Shared) (mg mb : Str → Option Value), Ground q loose r.records XP w s₀ mg mb s₁.heap → YP w s₁.heap → ∀ (a : Addr) (o : Obj) (pm cd doc dV kV : Value), s₁.heap.get? a = some o →
    o.data = .func { docDef d.name d.params d.body d.scope pm cd doc with defaults := dV, kwdefaults := kV } → s₁.heap.CodeRec cd d.name → Dflts mg s₁.heap d.params kwd dV kV → mg d.name = some (.ref a) → s₁.gens = #[] →
    ∀ (args : List WData) (vals : List Value) (as : List Addr), r.claim.pre args = true → WData.layableAll args = true → ReadsAllW r.records (classAt s₀.heap) s₁.heap vals args as → WellAll w.params s₁.heap vals args → (∀ a ∈ as, (a == sysModules) = false) →
      wpN (model r.prog w) callerA (run (.ref a) vals) (fun v s' => GoodWG r.claim (classAt s₀.heap) (ExcName.means s₀.heap) args s₁ (.ok (.ret v)) s')
        (fun e s' => GoodWG r.claim (classAt s₀.heap) (ExcName.means s₀.heap) args s₁ (.error e) s') s₁

/-- the kit's head, with a walk over clean stacks alone -/
theorem PySem.W.holds_open {r : OpenRow} {q : Program} {loose : List Str} {Xt : Shared → Bool} {XP : (Str → Option Value) → Heap → Prop} {α : Type} {Yf : Shared → α} {Ya : World → α} {YP : World → Heap → Prop} {d : DefRec} {kwd : List (Str × Expr)} {N : Nat}
    (left : LeftO r.prog q loose Xt Yf Ya N) (hY : ∀ w s, Yf s = Ya w → YP w s.heap) (hYk : ∀ w h h', YP w h → (∀ b o, h.get? b = some o → h'.get? b = some o) → YP w h')
    (hX : ∀ s, Xt s = true → XP (s.heap.nsMap mainGlobals) s.heap) (hXk : ∀ mg h h', XP mg h → (∀ b o, h.get? b = some o → h'.get? b = some o) → XP mg h')
    (hdef : defOf q r.name = some (d, kwd)) (hp : r.prog.theDef r.name = some (d.params, d.body, d.scope)) (hk : kwWritten? d.params.kwonlyargs d.params.kw_defaults = some kwd) (hRf : ∀ s, Xt s = true → RecFacts r.records s.heap) (hwr : (!r.writes || r.records.isEmpty) = true)
    (k1 : r.wellSaid = true) (ok : (chainsOk q && opensWell r.prog && (frees r.toRowW && r.within.isEmpty)) = true) (hb : r.prog.bare) (hw : r.toRowW.promised)
    (call : WalkC q loose XP YP r.toRowW d kwd fun f vs => _root_.PySem.call f vs) : r.Holds := by
  refine ⟨k1, hw, open_clean (r := r.toRowW) (run := fun f vs => _root_.PySem.call f vs) (tree := fun vs => do match ← nsGet mainNs r.name with
      | some f => do ret (← _root_.PySem.call f vs)
      | none => unsupported "claim.caller:no-such-global") left hY hYk hX hXk hRf hwr ok hb hw
    (fun vs w s mg f Q E hg hf h => wpN_bindA (wpAny_nsGet hg (by rw [hf]; exact wpN_bindE (wpN_mono h (fun _ _ x => wpAny_pure x) fun _ _ x => x))))
    (fun w s hg G n hn => ?_) fun w s₀ s₁ mg mb G Y args vs as hpre hlay L low => ?_⟩
  · obtain rfl : n = r.name := by split at hn <;> simp_all
    exact pinned_of_view hg G hdef hp hk
  · obtain ⟨a, o, pm, cd, doc, dV, kV, h1, h2, h3, h4, h5⟩ := G.fn hdef
    exact ⟨.ref a, h1, call w s₀ s₁ mg mb G Y a o pm cd doc dV kV h2 h3 h4 h5 (defOf_name hdef ▸ h1) L.gens args vs as hpre hlay L.reads L.well (L.low low)⟩

theorem enter_callC {M : Model} {A : Around} {s : Shared} {f : Value} {pos : List Value} {kw : List (Str × Value)} {c : ClaimW} {cl : Str → Option Addr} {mean : ExcName → Option Value} {args : List WData} {s₁ : Shared}
    (h : codeN M A (.call f ⟨pos, kw⟩) (GoodWG c cl mean args s₁) s) : wpN M A (_root_.PySem.call f pos kw) (fun v s' => GoodWG c cl mean args s₁ (.ok (.ret v)) s') (fun e s' => GoodWG c cl mean args s₁ (.error e) s') s :=
  wpN_call (codeN_mono h fun res s' g => by rcases g.1 with ⟨v, _, _, rfl, _⟩ | ⟨e, _, _, rfl, _⟩ <;> exact g)

theorem call_cellsC {prog : Program} {w : World} {A : Around} {R : Result → Shared → Prop} {s : Shared} {name : Str} {params : Arguments} {body : List Stmt} {scope : Scope}
    {pm cd doc : Value} {a : Addr} {o : Obj} {args : List Value} {binds : List (Str × Value)}
    (hroom : A.depth < recursionLimit) (ho : s.heap.get? a = some o) (hdata : o.data = .func (Calls.docDef name params body scope pm cd doc)) (hlim : s.heap.NoLimit) (hcd : s.heap.CodeRec cd name)
    (hbind : bindArgs (Calls.docDef name params body scope pm cd doc) ⟨args, []⟩ = pure binds)
    (hkind : ∀ x ∈ binds, scope.names.lookup x.1 = some .local ∨ (scope.names.lookup x.1 = some .cell ∧ ((cellsFrom (s.heap.objs.size + 1) scope.names []).lookup x.1).isSome = true))
    (hnd : ((cellsFrom 0 scope.names []).map (·.1)).Nodup)
    (h : ∀ h₀ tk cells, Fr s.heap s.heap.objs.size h₀ (bindL (envOfC name scope s.heap.objs.size a cd).kindOf binds fun _ => none) → News s.heap s.heap.objs.size h₀ cells →
      CellsAre (bindC (envOfC name scope s.heap.objs.size a cd).kindOf binds fun _ => none) (cellsFrom (s.heap.objs.size + 1) scope.names []) cells →
      wpN (model prog w) (A.deeper (envOfC name scope s.heap.objs.size a cd)) (execs body (envOfC name scope s.heap.objs.size a cd))
        (fun f s' => R (.ok (.ret (match f with | .ret v => v | _ => .none))) s')
        (fun _ _ => False)
        { s with heap := h₀, toks := tk })
    (hco : scope.isCoroutine = false := by rfl) (hgen : scope.isGenerator = false := by rfl) (hk : scope.kind = .function := by rfl) :
    codeN (model prog w) A (.call (.ref a) ⟨args, []⟩) R s := by
  refine codeN_call_function hroom ho hdata hco hgen rfl hcd ?_
  rw [hbind]
  refine wpAny_pure ?_
  refine wpAny_newFunctionEnv_cells hk hkind fun env' he s' x => ?_
  subst he
  obtain ⟨h₁, tk, rfl, _⟩ := x.done
  refine ⟨hlim.keeps x.toInCall.keep, codeN_func ?_⟩
  obtain ⟨cells, NC, Y⟩ := Cl.news (h₀ := s.heap) (Nat.le_refl _) fun n c hm => ⟨x.cell n c (lookup_of_mem_nodup (cellsFrom_names scope.names 0 (s.heap.objs.size + 1) [] [] rfl ▸ hnd) hm), x.above n c hm⟩
  exact h h₁ tk cells ⟨x.toInCall.ns, x.toInCall.keep, Nat.le_refl _⟩ NC Y

end Mine
end
section
open PySem PySem.W PySem.Calls PyProof.Rows
namespace Mine
theorem bInts_set {c : Array UInt8} {k : Nat} {v : Int} (h0 : 0 ≤ v) (h1 : v < 256) : KBw.bInts (c.setIfInBounds k v.toNat.toUInt8) = (KBw.bInts c).set k v := by
  unfold KBw.bInts
  rw [Array.toList_setIfInBounds, List.map_set]
  congr 1
  have : v.toNat < 256 := by omega
  simp [Nat.mod_eq_of_lt this]
  omega
theorem rev_set {ks : List Int} {j : Nat} (hj : j < ks.length) : (List.replicate (ks.length - j) 0 ++ (ks.take j).reverse).set (ks.length - 1 - j) (ks.getD j 0) = List.replicate (ks.length - (j + 1)) 0 ++ (ks.take (j + 1)).reverse := by
  have e : ks.length - j = (ks.length - (j + 1)) + 1 := by omega
  rw [e, List.replicate_succ', List.append_assoc, List.take_add_one, List.set_append_right _ _ (by simp; omega)]
  congr 1
  have e2 : ks.length - 1 - j - (List.replicate (ks.length - (j + 1)) (0 : Int)).length = 0 := by simp; omega
  rw [e2]
  rw [List.getElem?_eq_getElem hj, List.reverse_append]
  simp [List.getElem?_eq_getElem hj, List.getD_eq_getElem?_getD]
theorem bInts_zero (n : Nat) : KBw.bInts (Array.replicate n 0) = List.replicate n 0 := by
  simp [KBw.bInts]
theorem rangeKs_at (n : Nat) : ∀ i : Nat, i < (rangeKs 0 n).length → (rangeKs 0 n)[i]? = some (0 + (i : Int)) := by
  intro i hi
  rw [rangeKs_length] at hi
  simp [rangeKs, List.getElem?_range hi]
theorem rangeKs_byte (n : Nat) (hn : n ≤ 4) : ∀ k ∈ rangeKs 0 n, 0 ≤ k ∧ k < 256 := by
  intro k hk
  have := mem_rangeKs hk
  omega
theorem byteArr_ints {ns : List Int} (h : ∀ k ∈ ns, 0 ≤ k ∧ k < 256) : KBw.bInts (byteArr ns) = ns := KBa.ints_make h
end Mine
end
section
open PySem PySem.W PySem.Calls PyProof.Rows
namespace Mine

theorem wpAny_eqIsQuiet_tup {prog : Program} {w : World} {K : Type} [DecidableEq K] {knd : KeyKind prog w K} {A : Around} {E : Value → Shared → Prop} {s : Shared} (n : Nat) {ks : List K} {a : Addr} {Q : Bool → Shared → Prop}
    (hk : IsTupleKey knd s.heap ks a) (h : Q true s) : wpAny (model prog w) A (eqIsQuiet (n + 1) (.ref a)) Q E s := by
  have hT := hk.typeIs
  obtain ⟨o, items, m, ho, _, hd, hi⟩ := hk
  unfold eqIsQuiet
  refine wpAny_bind (wpAny_specialOf hT F.slot_tuple_eq.lookup ?_)
  show wpAny _ _ (isInstance (.ref a) (.type "tuple") >>= _) _ _ s
  refine wpAny_bind (wpAny_isInstance hT isSubtype_tuple_tuple ?_)
  simp only [Bool.not_true, Bool.false_eq_true, if_false]
  refine wpAny_bind (wpAny_seqItems ho hd ?_)
  refine wpAny_bind ?_
  show wpAny _ _ (forIn items _ _) _ _ s
  rw [← Array.forIn_toList]
  refine wpAny_forIn_list _ (fun rest r s' => r.1 = none ∧ s' = s ∧ ∀ v ∈ rest, carriedByValue v = true) _ ?_ ?_ _ _ ⟨rfl, rfl, hi.byValue⟩
  · rintro v rest r s' ⟨hr, rfl, hall⟩
    rw [eqIsQuiet_byValue _ (hall v List.mem_cons_self)]
    refine wpAny_bind (wpAny_pure ?_)
    simp only [Bool.not_true, Bool.false_eq_true, if_false]
    exact wpAny_pure ⟨rfl, rfl, fun u hu' => hall u (List.mem_cons_of_mem _ hu')⟩
  · rintro ⟨r1, r2⟩ s' ⟨hr, rfl, _⟩
    simp only at hr
    subst hr
    exact wpAny_pure h

/-- what stands between the two texts of a key -/
structure Mid (prog : Program) (w : World) (K : Type) [DecidableEq K] where
  is : Heap → K → Value → Prop
  hash : K → Int
  draws : K → Nat
  inj : ∀ {h : Heap} {v : Value} {x y : K}, is h x v → is h y v → x = y
  keeps : ∀ {h h' : Heap} {k : K} {v : Value} {d : Addr} {o : Obj} {es ep}, is h k v → h.get? d = some o → o.data = .dict es ep → Heap.SameBut d h h' → is h' k v
  pyHash : ∀ {A : Around} {E : Value → Shared → Prop} {s : Shared} {k : K} {v : Value} {Q : Int → Shared → Prop}, A.units < cLine → is s.heap k v → Q (hash k) { s with toks := s.toks + draws k } →
    wpAny (model prog w) A (PySem.pyHash v) Q E s
  eqBool : ∀ {A : Around} {E : Value → Shared → Prop} {s : Shared} {x y : K} {u v : Value} {Q : Bool → Shared → Prop}, A.units < cLine → is s.heap x u → is s.heap y v → Q (decide (x = y)) s →
    wpAny (model prog w) A (PySem.eqBool u v) Q E s
  quiet : ∀ {A : Around} {E : Value → Shared → Prop} {s : Shared} {k : K} {v : Value} {Q : Bool → Shared → Prop}, is s.heap k v → Q true s → wpAny (model prog w) A (eqIsQuiet 7 v) Q E s

def intMid (prog : Program) (w : World) : Mid prog w Int where
  is := fun _ k v => ∃ t, v = .int k t
  hash := hashInt
  draws := fun _ => 1
  inj := fun ⟨_, e1⟩ ⟨_, e2⟩ => by cases e1; cases e2; rfl
  keeps := fun h _ _ _ => h
  pyHash := fun _ ⟨_, e⟩ h => by cases e; exact wpAny_pyHash_int h
  eqBool := fun _ ⟨_, e1⟩ ⟨_, e2⟩ h => by cases e1; cases e2; exact wpAny_eqBool_int h
  quiet := fun ⟨_, e⟩ h => by cases e; rw [eqIsQuiet_byValue _ rfl]; exact wpAny_pure h

def tupMid (prog : Program) (w : World) : Mid prog w (List Int) where
  is := fun h k v => ∃ a, v = .ref a ∧ IsTupleKey (intKind prog w) h k a
  hash := tupleKeyHash (intKind prog w)
  draws := fun k => k.length + 1
  inj := fun ⟨_, e1, h1⟩ ⟨_, e2, h2⟩ => by cases e1; cases e2; exact h1.inj h2
  keeps := fun ⟨a, e, h1⟩ ho hd hs => ⟨a, e, h1.keeps ho hd hs⟩
  pyHash := fun hu ⟨_, e, h1⟩ h => by cases e; exact wpAny_pyHash_tuple hu h1 h
  eqBool := fun hu ⟨_, e1, h1⟩ ⟨_, e2, h2⟩ h => by cases e1; cases e2; exact wpAny_eqBool_tuple hu h1 h2 h
  quiet := fun ⟨_, e, h1⟩ h => by cases e; exact wpAny_eqIsQuiet_tup 6 h1 h

section
variable {prog : Program} {w : World} {K : Type} [DecidableEq K] (M : Mid prog w K) (a b : Str)

/-- a tuple: a text, what M tells, a text -/
def IsSand (h : Heap) (k : K) (d : Addr) : Prop := ∃ o n ta v tb, h.get? d = some o ∧ o.cls = .type "tuple" ∧ o.data = .seq #[.str a ta, v, .str b tb] n ∧ M.is h k v

variable {M a b}
theorem IsSand.typeIs {s : Shared} {k : K} {d : Addr} (x : IsSand M a b s.heap k d) : s.TypeIs (.ref d) "tuple" := let ⟨o, _, _, _, _, ho, hc, _⟩ := x; ⟨o, ho, hc⟩
theorem IsSand.inj {h : Heap} {x y : K} {d : Addr} (hx : IsSand M a b h x d) (hy : IsSand M a b h y d) : x = y := by
  obtain ⟨o, n, ta, v, tb, ho, hc, hd, hm⟩ := hx
  obtain ⟨o', n', ta', v', tb', ho', hc', hd', hm'⟩ := hy
  rw [ho] at ho'
  cases ho'
  rw [hd] at hd'
  injection hd' with h1 _
  injection h1 with h1
  injection h1 with _ h1
  injection h1 with h1 _
  subst h1
  exact M.inj hm hm'
theorem IsSand.keeps {h h' : Heap} {k : K} {d e : Addr} {o : Obj} {es ep} (x : IsSand M a b h k e) (ho : h.get? d = some o) (hd : o.data = .dict es ep) (hs : Heap.SameBut d h h') : IsSand M a b h' k e := by
  obtain ⟨o', n, ta, v, tb, ho', hc, hd', hm⟩ := x
  have hne : e ≠ d := by
    rintro rfl
    rw [ho] at ho'
    cases ho'
    rw [hd] at hd'
    cases hd'
  exact ⟨o', n, ta, v, tb, (hs.2 e hne).trans ho', hc, hd', M.keeps hm ho hd hs⟩

def sandHash (M : Mid prog w K) (a b : Str) (k : K) : Int := reduceHash (Builtin.Tuple.tupleHashOf [hashStr w a, M.hash k, hashStr w b])

variable {A : Around} {E : Value → Shared → Prop} {s : Shared}
theorem wpAny_pyHash_sand {k : K} {d : Addr} {Q : Int → Shared → Prop} (hu : A.units + 1 < cLine) (hk : IsSand M a b s.heap k d) (h : Q (sandHash M a b k) { s with toks := s.toks + (1 + M.draws k + 1 + 1) }) :
    wpAny (model prog w) A (pyHash (.ref d)) Q E s := by
  have hT := hk.typeIs
  obtain ⟨o, n, ta, v, tb, ho, _, hd, hm⟩ := hk
  unfold pyHash
  refine pyHash_slot hT F.slot_tuple_hash F.entry_tuple_hash (F.args_tuple_hash_1 _) (beq_builtin_none _) (.inr (by omega)) ?_
  show wpAny _ _ (Builtin.Tuple.tupleItemsOf (.ref d) >>= _) _ _ s
  refine wpAny_bind (wpAny_tupleItemsOf ho hd ?_)
  refine wpAny_bind ?_
  rw [← Array.forIn_toList]
  show wpAny _ _ (forIn [Value.str a ta, v, Value.str b tb] _ _) _ _ _
  rw [List.forIn_cons]
  refine wpAny_bind (wpAny_bind (wpAny_pyHash_str ?_))
  refine wpAny_bind (wpAny_pure (wpAny_pure ?_))
  show wpAny _ _ (forIn [v, Value.str b tb] _ _) _ _ _
  rw [List.forIn_cons]
  refine wpAny_bind (wpAny_bind (M.pyHash (by show A.units + 1 < cLine; exact hu) hm ?_))
  refine wpAny_bind (wpAny_pure (wpAny_pure ?_))
  show wpAny _ _ (forIn [Value.str b tb] _ _) _ _ _
  rw [List.forIn_cons]
  refine wpAny_bind (wpAny_bind (wpAny_pyHash_str ?_))
  refine wpAny_bind (wpAny_pure (wpAny_pure ?_))
  show wpAny _ _ (forIn [] _ _) _ _ _
  rw [List.forIn_nil]
  refine wpAny_pure ?_
  show wpAny _ _ (retInt (Builtin.Tuple.tupleHashOf [hashStr w a, M.hash k, hashStr w b])) _ _ _
  refine wpAny_bind (wpAny_mkInt (wpAny_pure ⟨_, _, rfl, ?_⟩))
  simpa [sandHash, Nat.add_assoc] using h

theorem sand_eq_tree {x y : K} {d e : Addr} {P : PySem.Fin → Shared → Prop} (hu : A.units < cLine) (hx : IsSand M a b s.heap x d) (hy : IsSand M a b s.heap y e) (h : P (.done (.ret (.bool (decide (x = y))))) s) :
    wpAny (model prog w) A (Builtin.«tuple.__eq__» ⟨[.ref d, .ref e], []⟩) P E s := by
  have hTb := hy.typeIs
  obtain ⟨o, n, ta, u, tb, ho, _, hd, hm⟩ := hx
  obtain ⟨o', n', ta', v, tb', ho', _, hd', hm'⟩ := hy
  show wpAny _ _ (isInstance (.ref e) (.type "tuple") >>= _) _ _ s
  refine wpAny_bind (wpAny_isInstance hTb isSubtype_tuple_tuple ?_)
  simp only [Bool.not_true, Bool.false_eq_true, if_false]
  refine wpAny_bind (wpAny_tupleItemsOf ho hd ?_)
  refine wpAny_bind (wpAny_tupleItemsOf ho' hd' ?_)
  refine wpAny_bind ?_
  show wpAny _ _ (forIn [(Value.str a ta, Value.str a ta'), (u, v), (Value.str b tb, Value.str b tb')] _ _) _ _ _
  rw [List.forIn_cons]
  refine wpAny_bind (wpAny_bind (wpAny_eqBool_str ?_))
  simp only [decide_true, Bool.not_true, Bool.false_eq_true, if_false]
  refine wpAny_pure ?_
  show wpAny _ _ (forIn [(u, v), (Value.str b tb, Value.str b tb')] _ _) _ _ _
  rw [List.forIn_cons]
  refine wpAny_bind (wpAny_bind (M.eqBool hu hm hm' ?_))
  by_cases hk : x = y
  · rw [decide_eq_true hk] at h ⊢
    simp only [Bool.not_true, Bool.false_eq_true, if_false]
    refine wpAny_pure ?_
    show wpAny _ _ (forIn [(Value.str b tb, Value.str b tb')] _ _) _ _ _
    rw [List.forIn_cons]
    refine wpAny_bind (wpAny_bind (wpAny_eqBool_str ?_))
    simp only [decide_true, Bool.not_true, Bool.false_eq_true, if_false]
    refine wpAny_pure ?_
    show wpAny _ _ (forIn [] _ _) _ _ _
    rw [List.forIn_nil]
    exact wpAny_pure (wpAny_pure h)
  · rw [decide_eq_false hk] at h ⊢
    simp only [Bool.not_false, if_true]
    exact wpAny_bind (wpAny_pure (wpAny_pure (wpAny_pure (wpAny_pure h))))

theorem wpAny_eqBool_sand {x y : K} {d e : Addr} {Q : Bool → Shared → Prop} (hu : A.units + 1 < cLine) (hx : IsSand M a b s.heap x d) (hy : IsSand M a b s.heap y e) (h : Q (decide (x = y)) s) :
    wpAny (model prog w) A (eqBool (.ref d) (.ref e)) Q E s := by
  unfold eqBool
  try with_reducible refine wpAny_holding ?_
  show wpAny _ _ (if (Value.ref d == Value.ref e) = true then _ else _) Q E s
  by_cases hab : (Value.ref d == Value.ref e) = true
  · rw [if_pos hab]
    have q : d = e := by have := eq_of_beq hab; injection this
    subst q
    obtain rfl := hx.inj hy
    exact wpAny_bind (wpAny_rule (wpAny_pure (by simpa using h)))
  · rw [if_neg hab]
    exact wpAny_bind (wpAny_richCompare_same_room (op := .Eq) hx.typeIs hy.typeIs F.slot_tuple_eq
      (wpAny_call_entry F.slot_tuple_eq hx.typeIs F.entry_tuple_eq (sand_eq_tree (by show A.units + 1 < cLine; exact hu) hx hy ⟨_, rfl, (fun e => nomatch e), wpAny_truthy_bool h⟩) (F.args_tuple_eq_2 _ _)) (by omega))

theorem wpAny_eqIsQuiet_sand {k : K} {d : Addr} {Q : Bool → Shared → Prop} (hk : IsSand M a b s.heap k d) (h : Q true s) : wpAny (model prog w) A (eqIsQuiet 8 (.ref d)) Q E s := by
  have hT := hk.typeIs
  obtain ⟨o, n, ta, v, tb, ho, _, hd, hm⟩ := hk
  unfold eqIsQuiet
  refine wpAny_bind (wpAny_specialOf hT F.slot_tuple_eq.lookup ?_)
  show wpAny _ _ (isInstance (.ref d) (.type "tuple") >>= _) _ _ s
  refine wpAny_bind (wpAny_isInstance hT isSubtype_tuple_tuple ?_)
  simp only [Bool.not_true, Bool.false_eq_true, if_false]
  refine wpAny_bind (wpAny_seqItems ho hd ?_)
  refine wpAny_bind ?_
  show wpAny _ _ (forIn (#[Value.str a ta, v, Value.str b tb] : Array Value) _ _) _ _ s
  rw [← Array.forIn_toList]
  show wpAny _ _ (forIn [Value.str a ta, v, Value.str b tb] _ _) _ _ _
  rw [List.forIn_cons, eqIsQuiet_byValue _ rfl]
  refine wpAny_bind (wpAny_bind (wpAny_pure ?_))
  simp only [Bool.not_true, Bool.false_eq_true, if_false]
  refine wpAny_pure ?_
  show wpAny _ _ (forIn [v, Value.str b tb] _ _) _ _ _
  rw [List.forIn_cons]
  refine wpAny_bind (wpAny_bind (M.quiet hm ?_))
  simp only [Bool.not_true, Bool.false_eq_true, if_false]
  refine wpAny_pure ?_
  show wpAny _ _ (forIn [Value.str b tb] _ _) _ _ _
  rw [List.forIn_cons, eqIsQuiet_byValue _ rfl]
  refine wpAny_bind (wpAny_bind (wpAny_pure ?_))
  simp only [Bool.not_true, Bool.false_eq_true, if_false]
  refine wpAny_pure ?_
  show wpAny _ _ (forIn [] _ _) _ _ _
  rw [List.forIn_nil]
  exact wpAny_pure (wpAny_pure h)
end

def sandKind {prog : Program} {w : World} {K : Type} [DecidableEq K] (M : Mid prog w K) (a b : Str) : HeapKind prog w K where
  is := IsSand M a b
  hash := sandHash M a b
  draws := fun k => 1 + M.draws k + 1 + 1
  room := fun A => A.units + 1 < cLine
  inj := fun hx hy => hx.inj hy
  keeps := fun x ho hd hs => x.keeps ho hd hs
  pyHash := fun hu hk h => wpAny_pyHash_sand hu hk h
  eqBool := fun hu hx hy h => wpAny_eqBool_sand hu hx hy h
  quiet := fun hk h => wpAny_eqIsQuiet_sand hk h
end Mine
end
section
open PySem PySem.W PySem.Calls PyProof.Rows
namespace Mine

/-- the dict at d, entry by entry -/
def Raw (h : Heap) (d : Addr) (es : Array DictEntry) (ep : Nat) : Prop := ∃ o, h.get? d = some o ∧ o.ExactDict ∧ o.data = .dict es ep
theorem Raw.typeIs {s : Shared} {d : Addr} {es ep} (x : Raw s.heap d es ep) : s.TypeIs (.ref d) "dict" := let ⟨o, ho, hc, _⟩ := x; ⟨o, ho, hc.1⟩
theorem Raw.at {h h' : Heap} {d : Addr} {es ep} (x : Raw h d es ep) (e : ∀ o, h.get? d = some o → h'.get? d = some o) : Raw h' d es ep := let ⟨o, ho, r⟩ := x; ⟨o, e _ ho, r⟩
theorem Raw.noDict {h : Heap} {d : Addr} {es ep} (x : Raw h d es ep) : ∀ b, Value.ref d = .ref b → ∃ ob, h.get? b = some ob ∧ ob.dict = none :=
  fun b e => by injection e with e; subst e; exact let ⟨o, ho, hc, _⟩ := x; ⟨o, ho, hc.2.1⟩

section
variable {prog : Program} {w : World} {A : Around} {E : Value → Shared → Prop} {s : Shared}

theorem meets_items (d : Addr) (hd : (d == sysModules) = false) :
    MeetsIn prog w (Builtin.«dict.items» ⟨[.ref d], []⟩) (fun _ R s => s.TypeIs (.ref d) "dict" ∧
      R (.ok (.ret (.ref s.heap.objs.size))) { s with heap := s.heap.push { cls := .type "dict_items", data := .fields #[.ref d] } }) :=
  .of_wp fun A R s ⟨hT, h⟩ => by
    unfold Builtin.«dict.items»
    refine wpAny_bind ?_
    unfold Builtin.Dict.noArgs
    refine wpAny_bind (wpAny_notOrdered_dict hT ?_)
    show wpAny _ _ (pure d) _ _ s
    refine wpAny_pure ?_
    show wpAny _ _ (Builtin.Dict.showsAll d >>= _) _ _ s
    unfold Builtin.Dict.showsAll
    rw [if_neg (by rw [hd]; exact Bool.false_ne_true)]
    refine wpAny_bind (wpAny_pure ?_)
    exact wpAny_bind (wpAny_newObj_type (wpAny_pure ⟨_, rfl, h⟩))
theorem meets_values (d : Addr) (hd : (d == sysModules) = false) :
    MeetsIn prog w (Builtin.«dict.values» ⟨[.ref d], []⟩) (fun _ R s => s.TypeIs (.ref d) "dict" ∧
      R (.ok (.ret (.ref s.heap.objs.size))) { s with heap := s.heap.push { cls := .type "dict_values", data := .fields #[.ref d] } }) :=
  .of_wp fun A R s ⟨hT, h⟩ => by
    refine wpAny_bind ?_
    unfold Builtin.Dict.noArgs
    refine wpAny_bind (wpAny_notOrdered_dict hT ?_)
    show wpAny _ _ (pure d) _ _ s
    refine wpAny_pure ?_
    show wpAny _ _ (Builtin.Dict.showsAll d >>= _) _ _ s
    unfold Builtin.Dict.showsAll
    rw [if_neg (by rw [hd]; exact Bool.false_ne_true)]
    refine wpAny_bind (wpAny_pure ?_)
    exact wpAny_bind (wpAny_newObj_type (wpAny_pure ⟨_, rfl, h⟩))

theorem pyIter_items {v d : Addr} {es : Array DictEntry} {ep : Nat} {Q : Value → Shared → Prop} (hv : s.heap.IsItemsView v d) (hm : Raw s.heap d es ep)
    (hQ : Q (.ref s.heap.objs.size) { s with heap := s.heap.push { cls := .type "dict_itemiterator", data := .fields #[.none, .bool false, .ref d, .int 0 0, .int es.size 0, .int ep 0, .none, .none] } }) :
    wpAny (model prog w) A (pyIter (.ref v)) Q E s := by
  obtain ⟨ov, hov, hcv, hdv⟩ := id hv
  obtain ⟨o, ho, hc, hdat⟩ := id hm
  refine wpAny_pyIter_slot hv.typeIs F.slot_dict_items_iter (wpAny_call_entry F.slot_dict_items_iter hv.typeIs F.entry_dict_items_iter ?_ (F.args_dict_items_iter_1 _))
  unfold Builtin.«dict_items.__iter__»
  refine wpAny_bind (wpAny_pure ?_)
  refine wpAny_bind ?_
  unfold Builtin.Dict_items.dictOf
  refine wpAny_bind (wpAny_field hov hdv (x := .ref d) rfl (wpAny_pure ?_))
  refine wpAny_bind ?_
  unfold Builtin.Dict_items.newIterator
  refine wpAny_bind (wpAny_dictEntries ho hdat ?_)
  refine wpAny_bind (wpAny_dictEpoch ho hdat ?_)
  have hown : Builtin.Dict_items.ownsTuple "dict_itemiterator" = true := by decide
  simp only [hown, if_true]
  refine wpAny_newObj_type (wpAny_pure ⟨_, rfl, "dict_itemiterator", _, ⟨_, Heap.get?_push_size _ rfl, rfl⟩, F.slot_dict_itemiterator_next.lookup, ?_⟩)
    (by simp only [sizeOk, Builtin.Dict_items.ownedTupleFields, List.size_toArray, List.length_append, List.length_cons, List.length_nil, sizeLine_eq]; omega)
  simpa [rawInt, Builtin.Dict_items.ownedTupleFields] using hQ

theorem pyNext_items {it d : Addr} {i ep : Nat} {es : Array DictEntry} {en : DictEntry} {ok ov : Value} {Q : Option Value → Shared → Prop} (hit : IsItemIter s.heap it d i es.size ep ok ov)
    (hm : Raw s.heap d es ep) (hx : es[i]? = some en)
    (hQ : ∀ h', IsItemIterOut h' it d (i + 1) es.size ep en.key en.val s.heap.objs.size →
      h'.get? s.heap.objs.size = some { cls := .type "tuple", data := .seq #[en.key, en.val] } → h'.objs.size = s.heap.objs.size + 1 →
      (∀ b o, b ≠ it → s.heap.get? b = some o → h'.get? b = some o) → Q (some (.ref s.heap.objs.size)) { s with heap := h' }) :
    wpAny (model prog w) A (pyNext (.ref it)) Q E s := by
  obtain ⟨hp, g, dr, tk, os⟩ := s
  obtain ⟨od, hod, hcd, hdd⟩ := id hm
  have hT : Shared.TypeIs ⟨hp, g, dr, tk, os⟩ (.ref it) "dict_itemiterator" := ⟨_, hit, rfl⟩
  have hlt' : i < es.size := by
    rcases Nat.lt_or_ge i es.size with h | h
    · exact h
    · simp [Array.getElem?_eq_none h] at hx
  have hen : es[i] = en := by rw [Array.getElem?_eq_getElem hlt'] at hx; exact Option.some.inj hx
  unfold pyNext
  refine wpAny_bind (wpAny_attempt (wpAny_callSpecial?_slot (name := Str.ofString "__next__") hT F.slot_dict_itemiterator_next
    (wpAny_call_entry F.slot_dict_itemiterator_next hT F.entry_dict_itemiterator_next ?_ (F.args_dict_itemiterator_next_1 _))))
  refine wpAny_bind (wpAny_pure ?_)
  refine wpAny_bind ?_
  refine wpAny_bind ?_
  first | refine wpAny_bind (wpAny_typeNameOfWhole_itemiter hT (wpAny_pure ?_)) | refine wpAny_bind (wpAny_typeNameOf_itemiter hT (wpAny_pure ?_))
  refine wpAny_bind (wpAny_fieldsOf hit rfl ?_)
  have hown : Builtin.Dict_items.ownsTuple "dict_itemiterator" = true := by decide
  simp only [hown, if_true]
  show wpAny _ _ (if (Value.ref d == Value.none) = true then _ else _) _ _ _
  rw [if_neg (show ¬ ((Value.ref d == Value.none) = true) from Bool.false_ne_true)]
  refine wpAny_bind (wpAny_pure ?_)
  refine wpAny_bind (wpAny_dictEntries hod hdd ?_)
  rw [if_neg (by simp)]
  refine wpAny_bind (wpAny_pure ?_)
  refine wpAny_bind (wpAny_dictEpoch hod hdd ?_)
  rw [if_neg (by simp)]
  refine wpAny_pure ?_
  simp only [show ¬ ((i : Int) < 0) from by omega, if_false, Int.toNat_natCast, hx]
  refine wpAny_bind ?_
  first | refine wpAny_bind (wpAny_typeNameOfWhole_itemiter hT (wpAny_pure ?_)) | refine wpAny_bind (wpAny_typeNameOf_itemiter hT (wpAny_pure ?_))
  refine wpAny_bind (wpAny_isOneOf_itemiter hT ?_)
  show wpAny _ _ (setField (.ref it) 3 (rawInt ((i : Int) + 1)) >>= _) _ _ ⟨hp, g, dr, tk, os⟩
  refine wpAny_bind (wpAny_setField_rec hit (by simp) fun h₁ he₁ hs₁ => ?_)
  replace hs₁ : Heap.SameBut it hp h₁ := hs₁
  replace he₁ : IsItemIter h₁ it d (i + 1) es.size ep ok ov := by
    have e : ((i + 1 : Nat) : Int) = (i : Int) + 1 := by omega
    unfold IsItemIter; rw [e]; simpa [rawInt] using he₁
  have hT₁ : Shared.TypeIs ⟨h₁, g, dr, tk, os⟩ (.ref it) "dict_itemiterator" := ⟨_, he₁, rfl⟩
  refine wpAny_bind (wpAny_holding ?_)
  refine wpAny_bind (wpAny_isOneOf_itemiter hT₁ ?_)
  refine wpAny_bind (wpAny_isOneOf_itemiter hT₁ ?_)
  show wpAny _ _ (Builtin.Dict_items.pairFromOwner (.ref it) 6 en.key en.val) _ _ ⟨h₁, g, dr, tk, os⟩
  unfold Builtin.Dict_items.pairFromOwner
  refine wpAny_bind (wpAny_newTuple ?_)
  have he₂ : IsItemIter (h₁.push { cls := .type "tuple", data := .seq #[en.key, en.val] }) it d (i + 1) es.size ep ok ov := Heap.get?_push_of_some _ he₁
  generalize hh₂ : h₁.push { cls := .type "tuple", data := .seq #[en.key, en.val] } = h₂ at he₂
  have hz₁ : h₁.objs.size = hp.objs.size := hs₁.1
  have hil : it < hp.objs.size := Heap.lt_size hit
  have ht₂ : h₂.get? hp.objs.size = some { cls := .type "tuple", data := .seq #[en.key, en.val] } := by rw [← hh₂, ← hz₁]; exact Heap.get?_push_size _ rfl
  have hz₂ : h₂.objs.size = hp.objs.size + 1 := by rw [← hh₂, Heap.size_push, hz₁]
  have hk₂ : ∀ b o, b ≠ it → hp.get? b = some o → h₂.get? b = some o := fun b o hb e => by rw [← hh₂]; exact Heap.get?_push_of_some _ (hs₁.extBut b o hb e)
  show wpAny _ _ (Builtin.Dict_items.ownedTupleIsFree (.ref it) >>= _) _ _ ⟨h₂, g, dr, tk, os⟩
  rw [hz₁]
  clear hh₂ he₁ hs₁ hT₁ hz₁ h₁
  refine wpAny_bind ?_
  unfold Builtin.Dict_items.ownedTupleIsFree
  refine wpAny_bind (wpAny_field he₂ rfl (x := .none) rfl (wpAny_pure ?_))
  simp only [if_true]
  refine wpAny_bind (wpAny_field he₂ rfl (x := ok) rfl ?_)
  refine wpAny_bind (wpAny_field he₂ rfl (x := ov) rfl ?_)
  refine wpAny_bind (wpAny_setField_rec he₂ (by simp) fun h₃ he₃ hs₃ => ?_)
  replace hs₃ : Heap.SameBut it h₂ h₃ := hs₃
  replace he₃ : IsItemIter h₃ it d (i + 1) es.size ep en.key ov := he₃
  refine wpAny_bind (wpAny_setField_rec he₃ (by simp) fun h₄ he₄ hs₄ => ?_)
  replace hs₄ : Heap.SameBut it h₃ h₄ := hs₄
  replace he₄ : IsItemIter h₄ it d (i + 1) es.size ep en.key en.val := he₄
  refine wpAny_bind (wpAny_setField_rec he₄ (by simp) fun h₅ he₅ hs₅ => ?_)
  replace hs₅ : Heap.SameBut it h₄ h₅ := hs₅
  replace he₅ : IsItemIterOut h₅ it d (i + 1) es.size ep en.key en.val hp.objs.size := he₅
  refine wpAny_bind (wpAny_setField_rec he₅ (by simp) fun h₆ he₆ hs₆ => ?_)
  replace hs₆ : Heap.SameBut it h₅ h₆ := hs₆
  replace he₆ : IsItemIterOut h₆ it d (i + 1) es.size ep en.key en.val hp.objs.size := he₆
  refine wpAny_bind (wpAny_letGo (wpAny_pure (wpAny_pure ⟨_, rfl, wpAny_pure (hQ h₆ he₆ ?_ ?_ ?_)⟩)))
  · exact hs₆.extBut _ _ (Nat.ne_of_gt hil) (hs₅.extBut _ _ (Nat.ne_of_gt hil) (hs₄.extBut _ _ (Nat.ne_of_gt hil) (hs₃.extBut _ _ (Nat.ne_of_gt hil) ht₂)))
  · show h₆.objs.size = hp.objs.size + 1
    rw [hs₆.1, hs₅.1, hs₄.1, hs₃.1, hz₂]
  · exact fun b o hb e => hs₆.extBut b o hb (hs₅.extBut b o hb (hs₄.extBut b o hb (hs₃.extBut b o hb (hk₂ b o hb e))))

theorem pyNext_items_end {it d : Addr} {i ep : Nat} {es : Array DictEntry} {ok ov : Value} {Q : Option Value → Shared → Prop} (hh : A.handled = none) (hit : IsItemIter s.heap it d i es.size ep ok ov)
    (hm : Raw s.heap d es ep) (hx : es[i]? = none)
    (hQ : ∀ h', Heap.ExtBut it s.heap h' → Q none { s with heap := h' }) : wpAny (model prog w) A (pyNext (.ref it)) Q E s := by
  obtain ⟨od, hod, hcd, hdd⟩ := id hm
  have hT : s.TypeIs (.ref it) "dict_itemiterator" := ⟨_, hit, rfl⟩
  unfold pyNext
  refine wpAny_bind (wpAny_attempt (wpAny_callSpecial?_slot (name := Str.ofString "__next__") hT F.slot_dict_itemiterator_next
    (wpAny_call_entry F.slot_dict_itemiterator_next hT F.entry_dict_itemiterator_next ?_ (F.args_dict_itemiterator_next_1 _))))
  refine wpAny_bind (wpAny_pure ?_)
  refine wpAny_bind ?_
  refine wpAny_bind ?_
  first | refine wpAny_bind (wpAny_typeNameOfWhole_itemiter hT (wpAny_pure ?_)) | refine wpAny_bind (wpAny_typeNameOf_itemiter hT (wpAny_pure ?_))
  refine wpAny_bind (wpAny_fieldsOf hit rfl ?_)
  have hown : Builtin.Dict_items.ownsTuple "dict_itemiterator" = true := by decide
  simp only [hown, if_true]
  show wpAny _ _ (if (Value.ref d == Value.none) = true then _ else _) _ _ s
  rw [if_neg (show ¬ ((Value.ref d == Value.none) = true) from Bool.false_ne_true)]
  refine wpAny_bind (wpAny_pure ?_)
  refine wpAny_bind (wpAny_dictEntries hod hdd ?_)
  rw [if_neg (by simp)]
  refine wpAny_bind (wpAny_pure ?_)
  refine wpAny_bind (wpAny_dictEpoch hod hdd ?_)
  rw [if_neg (by simp)]
  refine wpAny_pure ?_
  simp only [show ¬ ((i : Int) < 0) from by omega, if_false, Int.toNat_natCast, hx]
  refine wpAny_bind ?_
  first | refine wpAny_bind (wpAny_typeNameOfWhole_itemiter hT (wpAny_pure ?_)) | refine wpAny_bind (wpAny_typeNameOf_itemiter hT (wpAny_pure ?_))
  show wpAny _ _ (setField (.ref it) 2 .none >>= _) _ _ s
  refine wpAny_bind (wpAny_setField hit rfl (by simp) ?_)
  show wpAny _ _ (newExc (.type "StopIteration") [] >>= _) _ _ _
  refine wpAny_bind ?_
  simp only [newExc, newTuple]
  refine wpAny_bind (wpAny_newObj_type ?_ (by size_fits))
  refine wpAny_bind (m := firstArgMember _ _) (wpAny_of_eq (a := Value.none) (by first | rfl | (simp only [firstArgMember]; rfl)) ?_)
  refine wpAny_newObj_type ?_ (by size_fits)
  simp only [raiseNew]
  refine wpAny_bind (wpAny_handled ?_)
  rw [show A.in1.handled = none from hh]
  refine wpAny_bind (wpAny_pure (wpAny_throw ?_))
  refine wpAny_bind (wpAny_isInstance (T := "StopIteration") (b := true) ⟨_, Heap.get?_push_size _ rfl, rfl⟩ isSubtype_stop ?_)
  exact wpAny_pure (hQ _ (((Heap.SameBut.update ..).extBut.push _).push _))

theorem pyIter_vals {v d : Addr} {es : Array DictEntry} {ep : Nat} {Q : Value → Shared → Prop} (hv : s.heap.IsValuesView v d) (hm : Raw s.heap d es ep)
    (hQ : Q (.ref s.heap.objs.size) { s with heap := s.heap.push { cls := .type "dict_valueiterator", data := .fields #[.ref d, .int 0 0, .int es.size 0, .int ep 0] } }) :
    wpAny (model prog w) A (pyIter (.ref v)) Q E s := by
  obtain ⟨ov, hov, hcv, hdv⟩ := id hv
  obtain ⟨o, ho, hc, hdat⟩ := id hm
  refine wpAny_pyIter_slot hv.typeIs F.slot_dict_values_iter (wpAny_call_entry F.slot_dict_values_iter hv.typeIs F.entry_dict_values_iter ?_ (F.args_dict_values_iter_1 _))
  unfold Builtin.«dict_values.__iter__»
  refine wpAny_bind (wpAny_pure ?_)
  refine wpAny_bind ?_
  unfold Builtin.Dict_items.dictOf
  refine wpAny_bind (wpAny_field hov hdv (x := .ref d) rfl (wpAny_pure ?_))
  refine wpAny_bind ?_
  unfold Builtin.Dict_items.newIterator
  refine wpAny_bind (wpAny_dictEntries ho hdat ?_)
  refine wpAny_bind (wpAny_dictEpoch ho hdat ?_)
  have hown : Builtin.Dict_items.ownsTuple "dict_valueiterator" = false := by decide
  simp only [hown, Bool.false_eq_true, if_false]
  refine wpAny_newObj_type (wpAny_pure ⟨_, rfl, "dict_valueiterator", _, ⟨_, Heap.get?_push_size _ rfl, rfl⟩, F.slot_dict_valueiterator_next.lookup, ?_⟩)
  simpa [rawInt] using hQ

theorem pyNext_vals {it d : Addr} {i ep : Nat} {es : Array DictEntry} {en : DictEntry} {Q : Option Value → Shared → Prop} (hit : s.heap.IsValIter it d i es.size ep)
    (hm : Raw s.heap d es ep) (hx : es[i]? = some en)
    (hQ : ∀ h', h'.IsValIter it d (i + 1) es.size ep → Heap.SameBut it s.heap h' → Q (some en.val) { s with heap := h' }) :
    wpAny (model prog w) A (pyNext (.ref it)) Q E s := by
  obtain ⟨o, ho, hc, hd⟩ := id hit
  obtain ⟨od, hod, hcd, hdd⟩ := id hm
  unfold pyNext
  refine wpAny_bind (wpAny_attempt (wpAny_callSpecial?_slot (name := Str.ofString "__next__") hit.typeIs F.slot_dict_valueiterator_next
    (wpAny_call_entry F.slot_dict_valueiterator_next hit.typeIs F.entry_dict_valueiterator_next ?_ (F.args_dict_valueiterator_next_1 _))))
  refine wpAny_bind (wpAny_pure ?_)
  refine wpAny_bind ?_
  refine wpAny_bind ?_
  first | refine wpAny_bind (wpAny_typeNameOfWhole_valiter hit.typeIs (wpAny_pure ?_)) | refine wpAny_bind (wpAny_typeNameOf_valiter hit.typeIs (wpAny_pure ?_))
  refine wpAny_bind (wpAny_fieldsOf ho hd ?_)
  have hown : Builtin.Dict_items.ownsTuple "dict_valueiterator" = false := by decide
  simp only [hown, Bool.false_eq_true, if_false]
  show wpAny _ _ (if (Value.ref d == Value.none) = true then _ else _) _ _ s
  rw [if_neg (show ¬ ((Value.ref d == Value.none) = true) from Bool.false_ne_true)]
  refine wpAny_bind (wpAny_pure ?_)
  refine wpAny_bind (wpAny_dictEntries hod hdd ?_)
  rw [if_neg (by simp)]
  refine wpAny_bind (wpAny_pure ?_)
  refine wpAny_bind (wpAny_dictEpoch hod hdd ?_)
  rw [if_neg (by simp)]
  refine wpAny_pure ?_
  simp only [show ¬ ((i : Int) < 0) from by omega, if_false, Int.toNat_natCast, hx]
  refine wpAny_bind ?_
  first | refine wpAny_bind (wpAny_typeNameOfWhole_valiter hit.typeIs (wpAny_pure ?_)) | refine wpAny_bind (wpAny_typeNameOf_valiter hit.typeIs (wpAny_pure ?_))
  refine wpAny_bind (wpAny_isOneOf_valiter hit.typeIs ?_)
  show wpAny _ _ (setField (.ref it) 1 (rawInt ((i : Int) + 1)) >>= _) _ _ s
  refine wpAny_bind (wpAny_setField ho hd (by simp) ?_)
  have hit' : (s.heap.update it (Obj.mapFields (·.setIfInBounds 1 (rawInt ((i : Int) + 1))))).IsValIter it d (i + 1) es.size ep :=
    ⟨_, Heap.get?_update_self _ ho (Obj.isFreed_of_fields (Obj.data_mapFields hd _)), (Obj.cls_mapFields ..).trans hc, by rw [Obj.data_mapFields hd]; simp [rawInt]⟩
  refine wpAny_bind (wpAny_holding ?_)
  refine wpAny_bind (wpAny_isOneOf_valiter (s := { s with heap := s.heap.update it (Obj.mapFields (·.setIfInBounds 1 (rawInt ((i : Int) + 1)))) }) hit'.typeIs ?_)
  refine wpAny_bind (wpAny_isOneOf_valiter (s := { s with heap := s.heap.update it (Obj.mapFields (·.setIfInBounds 1 (rawInt ((i : Int) + 1)))) }) hit'.typeIs ?_)
  show wpAny _ _ (pure en.val) _ _ _
  exact wpAny_pure (wpAny_pure ⟨_, rfl, wpAny_pure (hQ _ hit' (Heap.SameBut.update ..))⟩)

theorem pyNext_vals_end {it d : Addr} {i ep : Nat} {es : Array DictEntry} {Q : Option Value → Shared → Prop} (hh : A.handled = none) (hit : s.heap.IsValIter it d i es.size ep)
    (hm : Raw s.heap d es ep) (hx : es[i]? = none)
    (hQ : ∀ h', Heap.ExtBut it s.heap h' → Q none { s with heap := h' }) : wpAny (model prog w) A (pyNext (.ref it)) Q E s := by
  obtain ⟨o, ho, hc, hd⟩ := id hit
  obtain ⟨od, hod, hcd, hdd⟩ := id hm
  unfold pyNext
  refine wpAny_bind (wpAny_attempt (wpAny_callSpecial?_slot (name := Str.ofString "__next__") hit.typeIs F.slot_dict_valueiterator_next
    (wpAny_call_entry F.slot_dict_valueiterator_next hit.typeIs F.entry_dict_valueiterator_next ?_ (F.args_dict_valueiterator_next_1 _))))
  refine wpAny_bind (wpAny_pure ?_)
  refine wpAny_bind ?_
  refine wpAny_bind ?_
  first | refine wpAny_bind (wpAny_typeNameOfWhole_valiter hit.typeIs (wpAny_pure ?_)) | refine wpAny_bind (wpAny_typeNameOf_valiter hit.typeIs (wpAny_pure ?_))
  refine wpAny_bind (wpAny_fieldsOf ho hd ?_)
  have hown : Builtin.Dict_items.ownsTuple "dict_valueiterator" = false := by decide
  simp only [hown, Bool.false_eq_true, if_false]
  show wpAny _ _ (if (Value.ref d == Value.none) = true then _ else _) _ _ s
  rw [if_neg (show ¬ ((Value.ref d == Value.none) = true) from Bool.false_ne_true)]
  refine wpAny_bind (wpAny_pure ?_)
  refine wpAny_bind (wpAny_dictEntries hod hdd ?_)
  rw [if_neg (by simp)]
  refine wpAny_bind (wpAny_pure ?_)
  refine wpAny_bind (wpAny_dictEpoch hod hdd ?_)
  rw [if_neg (by simp)]
  refine wpAny_pure ?_
  simp only [show ¬ ((i : Int) < 0) from by omega, if_false, Int.toNat_natCast, hx]
  refine wpAny_bind ?_
  first | refine wpAny_bind (wpAny_typeNameOfWhole_valiter hit.typeIs (wpAny_pure ?_)) | refine wpAny_bind (wpAny_typeNameOf_valiter hit.typeIs (wpAny_pure ?_))
  show wpAny _ _ (setField (.ref it) 0 .none >>= _) _ _ s
  refine wpAny_bind (wpAny_setField ho hd (by simp) ?_)
  show wpAny _ _ (newExc (.type "StopIteration") [] >>= _) _ _ _
  refine wpAny_bind ?_
  simp only [newExc, newTuple]
  refine wpAny_bind (wpAny_newObj_type ?_ (by size_fits))
  refine wpAny_bind (m := firstArgMember _ _) (wpAny_of_eq (a := Value.none) (by first | rfl | (simp only [firstArgMember]; rfl)) ?_)
  refine wpAny_newObj_type ?_ (by size_fits)
  simp only [raiseNew]
  refine wpAny_bind (wpAny_handled ?_)
  rw [show A.in1.handled = none from hh]
  refine wpAny_bind (wpAny_pure (wpAny_throw ?_))
  refine wpAny_bind (wpAny_isInstance (T := "StopIteration") (b := true) ⟨_, Heap.get?_push_size _ rfl, rfl⟩ isSubtype_stop ?_)
  exact wpAny_pure (hQ _ (((Heap.SameBut.update ..).extBut.push _).push _))

theorem vals_walks (hh : A.handled = none) (I d : Addr) (hne : d ≠ I) (es : Array DictEntry) (ep : Nat) :
    Walks prog w A I [I, d] [I] es.size (fun i v => ∃ en, es[i]? = some en ∧ v = en.val) (fun i h => h.IsValIter I d i es.size ep ∧ Raw h d es ep) where
  sub := fun b hb => by simp at hb; simp [hb]
  frame := fun _ _ _ st hk => ⟨st.1.at fun o e => hk I (by simp) o e, st.2.at fun o e => hk d (by simp) o e⟩
  item := fun i s Q E hi st hQ => by
    refine pyNext_vals (en := es[i]) st.1 st.2 (by simp [hi]) fun h' hit' hs' => ?_
    exact hQ _ h' s.toks ⟨_, by simp [hi], rfl⟩ ⟨hit', st.2.at fun o e => hs'.extBut d o hne e⟩ fun b o hb e => hs'.extBut b o (fun h => hb (by simp [h])) e
  done := fun s Q E st hQ => pyNext_vals_end hh st.1 st.2 (by simp) fun h' he' => hQ h' s.toks fun b o hb e => he' b o (fun h => hb (by simp [h])) e
  self := fun _ _ _ _ st hQ => wpAny_pyIter_valiter st.1 hQ

variable {env : Env} {h₀ : Heap} {body : List Stmt} {Q : Flow → Shared → Prop}

/-- for x in d.values() -/
theorem vals_X {v d : Addr} {od : Obj} {es : Array DictEntry} {ep : Nat} {x : Str} {px : Pos} {m₀ : Str → Option Value} {news : List (Addr × Obj)} (J : Nat → (Str → Option Value) → List (Addr × Obj) → Prop)
    (hh : A.handled = none) (hv : s.heap.IsValuesView v d) (hl : s.heap.get? d = some od) (hc : od.ExactDict) (hd : od.data = .dict es ep) (F : Fr h₀ env.locals s.heap m₀) (N : News h₀ env.locals s.heap news)
    (hold : ∀ i m news h, J i m news → Fr h₀ env.locals h m → News h₀ env.locals h news → h.get? d = some od) (hj : J 0 m₀ news)
    (turn : ∀ i en m₁ news₁ h tk I oI, es[i]? = some en → J i m₁ news₁ → (∀ p ∈ news₁, p.1 ≠ I) → Fr h₀ env.locals h m₁ → News h₀ env.locals h ((I, oI) :: news₁) →
      wpAny (model prog w) A (assign (.Name x px) env en.val) (fun _ s₂ => wpAny (model prog w) A (execs body env) (TurnEnd h₀ env.locals (I, oI) (J (i + 1)) Q { s with heap := h, toks := tk }) E s₂) E { s with heap := h, toks := tk })
    (done : ∀ m₁ news₁ h tk, J es.size m₁ news₁ → Fr h₀ env.locals h m₁ → News h₀ env.locals h news₁ → Q .next { s with heap := h, toks := tk })
    (hE : PassesOwn (model prog w) A env E) : LoopX prog w A h₀ env (.Name x px) body Q E (.ref v) s := by
  have hls : Raw s.heap d es ep := ⟨od, hl, hc, hd⟩
  have hne : d ≠ s.heap.objs.size := Nat.ne_of_lt (Heap.lt_size hl)
  unfold LoopX
  refine pyIter_vals hv hls ?_
  have W := vals_walks (prog := prog) (w := w) hh s.heap.objs.size d hne es ep
  refine loop_X (s := ⟨_, _, _, _, _⟩) J W (fun i h st => let ⟨o, e, _⟩ := st.1; ⟨o, e⟩) ?_ (next_is_new F) (Nat.ne_of_lt F.ns.lt) ?_ (F.push _) (fun p hp => ⟨Heap.get?_push_of_some _ (N p hp).1, (N p hp).2⟩) ?_ hj ?_ done (fun _ => rfl) hE
  · intro i m news h o hJ F N b hb hbI h' m' news' i' F' N' hJ' e
    have hbl : b = d := by simpa [hbI] using hb
    subst hbl
    rw [hold _ _ _ _ hJ F N] at e
    cases e
    exact hold _ _ _ _ hJ' F' N'
  · exact ⟨⟨_, Heap.get?_push_size _ rfl, rfl, rfl⟩, hls.at fun o e => Heap.get?_push_of_some _ e⟩
  · intro p hp e
    exact absurd (Heap.lt_size (N p hp).1) (by rw [e]; exact Nat.lt_irrefl _)
  · rintro i v m₁ news₁ h tk oI hi ⟨en, hen, rfl⟩ hJ hn' F' N'
    exact turn i en m₁ news₁ h tk _ oI hen hJ hn' F' N'

/-- for a, b in d.items() -/
theorem items_X {v d : Addr} {od : Obj} {es : Array DictEntry} {ep : Nat} {xk xv : Str} {pk pv pt : Pos} {x1} {m₀ : Str → Option Value} {news : List (Addr × Obj)} (J : Nat → (Str → Option Value) → List (Addr × Obj) → Prop)
    (hh : A.handled = none) (hv : s.heap.IsItemsView v d) (hl : s.heap.get? d = some od) (hc : od.ExactDict) (hd : od.data = .dict es ep) (F : Fr h₀ env.locals s.heap m₀) (N : News h₀ env.locals s.heap news)
    (hxk : env.kindOf xk = some .local) (hxv : env.kindOf xv = some .local) (hp : (env.scope.kind == .class || (env.scope.kind == .module && env.locals != env.globals)) = false)
    (hold : ∀ i m news h, J i m news → Fr h₀ env.locals h m → News h₀ env.locals h news → h.get? d = some od) (hj : J 0 m₀ news)
    (turn : ∀ i en m₁ news₁ h tk I oI, es[i]? = some en → J i m₁ news₁ → (∀ p ∈ news₁, p.1 ≠ I) → Fr h₀ env.locals h (fun y => if y = xv then some en.val else if y = xk then some en.key else m₁ y) → News h₀ env.locals h ((I, oI) :: news₁) →
      wpAny (model prog w) A (execs body env) (TurnEnd h₀ env.locals (I, oI) (J (i + 1)) Q { s with heap := h, toks := tk }) E { s with heap := h, toks := tk })
    (done : ∀ m₁ news₁ h tk, J es.size m₁ news₁ → Fr h₀ env.locals h m₁ → News h₀ env.locals h news₁ → Q .next { s with heap := h, toks := tk })
    (hE : PassesOwn (model prog w) A env E) : LoopX prog w A h₀ env (.Tuple [.Name xk pk, .Name xv pv] x1 pt) body Q E (.ref v) s := by
  have hls : Raw s.heap d es ep := ⟨od, hl, hc, hd⟩
  unfold LoopX
  refine pyIter_items hv hls ?_
  have hI : h₀.get? s.heap.objs.size = none := next_is_new F
  have hLI : env.locals ≠ s.heap.objs.size := Nat.ne_of_lt F.ns.lt
  have hn : ∀ p ∈ news, p.1 ≠ s.heap.objs.size := fun p hp e => absurd (Heap.lt_size (N p hp).1) (by rw [e]; exact Nat.lt_irrefl _)
  have hdI : d ≠ s.heap.objs.size := Nat.ne_of_lt (Heap.lt_size hl)
  generalize hIdef : s.heap.objs.size = I at hI hLI hn hdI ⊢
  refine codeAny_forLoop_any
    (fun k s' => ∃ h' tk m' news' i ok ov, s' = { s with heap := h', toks := tk } ∧ IsItemIter h' I d i es.size ep ok ov ∧ Fr h₀ env.locals h' m' ∧ News h₀ env.locals h' news' ∧ (∀ p ∈ news', p.1 ≠ I) ∧ J i m' news' ∧ i ≤ es.size ∧ k = es.size + 1 - i) ?_ (es.size + 1)
    ⟨_, s.toks, m₀, news, 0, .none, .none, rfl, hIdef ▸ Heap.get?_push_size _ rfl, F.push _, fun p hp => ⟨Heap.get?_push_of_some _ (N p hp).1, (N p hp).2⟩, hn, hj, Nat.zero_le _, rfl⟩
  rintro k s' ⟨h', tk, m', news', i, ok, ov, rfl, hit, F', N', hn', hJ, hi, rfl⟩
  have hdh : Raw h' d es ep := ⟨od, hold _ _ _ _ hJ F' N', hc, hd⟩
  cases hx : es[i]? with
  | none =>
    have hsz : i = es.size := Nat.le_antisymm hi (by simpa using hx)
    refine pyNext_items_end hh hit hdh hx fun h₁ he₁ => wpAny_execs_nil ?_
    have he₁ : Heap.ExtBut I h' h₁ := he₁
    refine done m' news' h₁ tk (hsz ▸ hJ) ⟨F'.ns.extBut he₁ hLI, fun b o e => he₁ b o (fun q => by rw [q, hI] at e; cases e) (F'.keep b o e), F'.above⟩ fun p hp => ⟨he₁ _ _ (hn' p hp) (N' p hp).1, (N' p hp).2⟩
  | some en =>
    have hlt : i < es.size := (Array.getElem?_eq_some_iff.mp hx).1
    refine pyNext_items hit hdh hx fun h₁ heo ht₁ hz₁ hk₁ => ?_
    refine wpAny_letOwnedTupleGo_items heo fun h₂ he₂ hs₂ => ?_
    replace hs₂ : Heap.SameBut I h₁ h₂ := hs₂
    have hTI : h'.objs.size ≠ I := Nat.ne_of_gt (Heap.lt_size hit)
    have ht₂ : h₂.IsTuple h'.objs.size #[en.key, en.val] := ⟨_, (hs₂.2 _ hTI).trans ht₁, rfl, _, rfl⟩
    have hz₂ : h₂.objs.size = h'.objs.size + 1 := hs₂.1.trans hz₁
    refine wpAny_assign_Tuple hh ht₂ rfl rfl fun h₃ hx₃ => ?_
    replace hx₃ : Heap.ExtBut h₂.objs.size h₂ h₃ := hx₃
    have old₃ : ∀ b o, b ≠ I → h'.get? b = some o → h₃.get? b = some o := fun b o hb e =>
      hx₃ b o (by rw [hz₂]; exact Nat.ne_of_lt (Nat.lt_succ_of_lt (Heap.lt_size e))) (hs₂.extBut b o hb (hk₁ b o hb e))
    have F₃ : Fr h₀ env.locals h₃ m' := ⟨F'.ns.at' fun o e => old₃ _ o hLI e, fun b o e => old₃ b o (fun q => by rw [q, hI] at e; cases e) (F'.keep b o e), F'.above⟩
    have hI₃ : IsItemIter h₃ I d (i + 1) es.size ep en.key en.val := hx₃ _ _ (by rw [hz₂]; exact Nat.ne_of_lt (Nat.lt_succ_of_lt (Heap.lt_size hit))) he₂
    have N₃ : News h₀ env.locals h₃ ((I, { cls := .type "dict_itemiterator", dict := none, data := .fields #[.none, .bool false, .ref d, .int ((i + 1 : Nat) : Int) 0, .int es.size 0, .int ep 0, en.key, en.val], slots := #[] }) :: news') := fun p hp => by
      rcases List.mem_cons.mp hp with rfl | hp
      · exact ⟨hI₃, Ne.symm hLI, hI⟩
      · exact ⟨old₃ _ _ (hn' p hp) (N' p hp).1, (N' p hp).2⟩
    show wpAny _ _ (do holding [en.val] (assign (.Name xk pk) env en.key); do holding [] (assign (.Name xv pv) env en.val); pure ()) _ _ _
    refine wpAny_bind (wpAny_holding (wpAny_assign_Name (wpAny_storeName_local hxk F₃.ns (fun h₄ hn₄ hs₄ => ?_) hp)))
    have F₄ := F₃.set hn₄ hs₄
    have N₄ := N₃.set hs₄
    refine wpAny_bind (wpAny_holding (wpAny_assign_Name (wpAny_storeName_local hxv F₄.ns (fun h₅ hn₅ hs₅ => wpAny_pure ?_) hp)))
    have F₅ := F₄.set hn₅ hs₅
    have N₅ := N₄.set hs₅
    refine wpAny_passesOwn hE (wpAny_mono (turn i en m' news' h₅ _ I _ hx hJ hn' F₅ N₅) (fun f s₃ h₃ => ?_) fun _ _ e => e)
    have fin : TurnEnd h₀ env.locals (I, { cls := .type "dict_itemiterator", dict := none, data := .fields #[.none, .bool false, .ref d, .int ((i + 1 : Nat) : Int) 0, .int es.size 0, .int ep 0, en.key, en.val], slots := #[] }) (J (i + 1)) Q { s with heap := h₅, toks := tk + 1 + 1 } .next s₃ →
        ∃ m, m < es.size + 1 - i ∧ ∃ h' tk m' news' i ok ov, s₃ = { s with heap := h', toks := tk } ∧ IsItemIter h' I d i es.size ep ok ov ∧ Fr h₀ env.locals h' m' ∧ News h₀ env.locals h' news' ∧ (∀ p ∈ news', p.1 ≠ I) ∧ J i m' news' ∧ i ≤ es.size ∧ m = es.size + 1 - i := by
      rintro ⟨h₆, tk₆, m₆, news₆, rfl, F₆, N₆, hn₆, hJ₆⟩
      exact ⟨es.size + 1 - (i + 1), by omega, h₆, tk₆, m₆, news₆, i + 1, en.key, en.val, rfl, (N₆ _ (.head _)).1, F₆, fun p hp => N₆ p (.tail _ hp), hn₆, hJ₆, hlt, rfl⟩
    cases f with
    | ret v => exact h₃
    | brk => exact h₃
    | next => exact fin h₃
    | cont => exact fin h₃

theorem Call_items_X {o : Expr} {apos pos : Pos} {d : Addr} {Q : Value → Shared → Prop} {es : Array DictEntry} {ep : Nat} (hdS : (d == sysModules) = false) (hm : Raw s.heap d es ep)
    (hbase : attributeBase o "items" env (eval o env) = eval o env) (hline : (apos.endLine == pos.line) = true)
    (ho : ∀ Q', Q' (.ref d) s → wpAny (model prog w) A (eval o env) Q' E s)
    (hQ : Q (.ref s.heap.objs.size) { s with heap := s.heap.push { cls := .type "dict_items", data := .fields #[.ref d] } }) :
    wpAny (model prog w) A (eval (.Call (.Attribute o "items" apos) [] [] pos) env) Q E s := by
  refine wpAny_Call_method (T := "dict") (id := "dict.items") hbase rfl hline F.plainAttrs_dict F.slot_dict_items F.type_dict_items (ho _ ⟨hm.typeIs, hm.noDict, ?_⟩)
  show wpAny _ _ (callWith pos (.builtin "dict.items") [.ref d] [] []) Q E s
  exact method_meetsIn F.slot_dict_items F.entry_dict_items rfl (PySem.evalArgs_none ⟨rfl, hm.typeIs, F.args_dict_items_1 _, _, meets_items d hdS, hm.typeIs, hQ⟩)
theorem Call_values_X {o : Expr} {apos pos : Pos} {d : Addr} {Q : Value → Shared → Prop} {es : Array DictEntry} {ep : Nat} (hdS : (d == sysModules) = false) (hm : Raw s.heap d es ep)
    (hbase : attributeBase o "values" env (eval o env) = eval o env) (hline : (apos.endLine == pos.line) = true)
    (ho : ∀ Q', Q' (.ref d) s → wpAny (model prog w) A (eval o env) Q' E s)
    (hQ : Q (.ref s.heap.objs.size) { s with heap := s.heap.push { cls := .type "dict_values", data := .fields #[.ref d] } }) :
    wpAny (model prog w) A (eval (.Call (.Attribute o "values" apos) [] [] pos) env) Q E s := by
  refine wpAny_Call_method (T := "dict") (id := "dict.values") hbase rfl hline F.plainAttrs_dict F.slot_dict_values F.type_dict_values (ho _ ⟨hm.typeIs, hm.noDict, ?_⟩)
  show wpAny _ _ (callWith pos (.builtin "dict.values") [.ref d] [] []) Q E s
  exact method_meetsIn F.slot_dict_values F.entry_dict_values rfl (PySem.evalArgs_none ⟨rfl, hm.typeIs, F.args_dict_values_1 _, _, meets_values d hdS, hm.typeIs, hQ⟩)
end
end Mine
end
section
open PySem PySem.W PySem.Calls PyProof.Rows
namespace Mine
section
variable {prog : Program} {w : World} {K : Type} [DecidableEq K] (knd : HeapKind prog w K)
/-- a dict, as an object alone -/
structure DObj (o : Obj) (es : Array DictEntry) (ep : Nat) (xs : List (K × Addr × Value)) : Prop where
  exact : o.ExactDict
  data : o.data = .dict es ep
  rows : es.toList = xs.map (entryOfKey knd)
  nodup : (xs.map (·.1)).Nodup
variable {knd}
theorem DObj.at {o : Obj} {es ep} {xs : List (K × Addr × Value)} (D : DObj knd o es ep xs) {h : Heap} {d : Addr} (hd : h.get? d = some o) (hk : ∀ x ∈ xs, knd.is h x.1 x.2.1) : h.DictOfH knd d xs :=
  ⟨o, es, ep, hd, D.exact, D.data, D.rows, hk, D.nodup⟩
theorem dobj_of {h : Heap} {d : Addr} {xs : List (K × Addr × Value)} (H : h.DictOfH knd d xs) : ∃ o es ep, h.get? d = some o ∧ DObj knd o es ep xs :=
  let ⟨o, es, ep, ho, hc, hd, he, _, hn⟩ := H; ⟨o, es, ep, ho, hc, hd, he, hn⟩
theorem dobj_new {o : Obj} (h : Obj.IsDictOf (intKind prog w) o []) : ∃ es ep, DObj knd o es ep [] := by
  obtain ⟨es₀, ep₀, h1, h2, _, h3, _⟩ := h
  have h4 := h3.length
  exact ⟨es₀, ep₀, h1, h2, List.eq_nil_of_length_eq_zero (by simpa using h4), List.nodup_nil⟩
theorem DObj.raw {o : Obj} {es ep} {xs : List (K × Addr × Value)} (D : DObj knd o es ep xs) {h : Heap} {d : Addr} (hd : h.get? d = some o) : Raw h d es ep := ⟨o, hd, D.exact, D.data⟩
theorem DObj.get {o : Obj} {es ep} {xs : List (K × Addr × Value)} (D : DObj knd o es ep xs) (i : Nat) : es[i]? = (xs[i]?).map (entryOfKey knd) := entry_at D.rows i
theorem DObj.size {o : Obj} {es ep} {xs : List (K × Addr × Value)} (D : DObj knd o es ep xs) : es.size = xs.length := size_of_entries D.rows
end

/-- the values are these ints -/
def SameInts {K : Type} : List (K × Addr × Value) → List (K × Addr × Int) → Prop
  | [], [] => True
  | v :: vs, x :: xs => (v.1 = x.1 ∧ v.2.1 = x.2.1 ∧ ∃ t, v.2.2 = .int x.2.2 t) ∧ SameInts vs xs
  | _, _ => False
theorem SameInts.length {K : Type} : ∀ {vs : List (K × Addr × Value)} {xs : List (K × Addr × Int)}, SameInts vs xs → vs.length = xs.length
  | [], [], _ => rfl
  | _ :: _, _ :: _, h => congrArg (· + 1) (SameInts.length h.2)
  | [], _ :: _, h => h.elim
  | _ :: _, [], h => h.elim
theorem SameInts.get {K : Type} : ∀ {vs : List (K × Addr × Value)} {xs : List (K × Addr × Int)}, SameInts vs xs → ∀ {i : Nat} {v : K × Addr × Value}, vs[i]? = some v → ∃ x t, xs[i]? = some x ∧ v = (x.1, x.2.1, .int x.2.2 t)
  | [], _, _, _, _, e => by simp at e
  | v₀ :: _, x :: _, h, 0, v, e => by
    obtain ⟨h1, h2, t, h3⟩ := h.1
    simp at e
    subst e
    exact ⟨x, t, rfl, by rw [← h1, ← h2, ← h3]⟩
  | _ :: _, _ :: _, h, i + 1, v, e => by
    obtain ⟨x, t, hx, r⟩ := SameInts.get h.2 (i := i) (v := v) (by simpa using e)
    exact ⟨x, t, by simpa using hx, r⟩
  | _ :: _, [], h, _, _, _ => h.elim
theorem SameInts.append {K : Type} : ∀ {vs us : List (K × Addr × Value)} {xs ys : List (K × Addr × Int)}, SameInts vs xs → SameInts us ys → SameInts (vs ++ us) (xs ++ ys)
  | [], _, [], _, _, h => h
  | _ :: _, _, _ :: _, _, h, h' => ⟨h.1, SameInts.append h.2 h'⟩
  | [], _, _ :: _, _, h, _ => h.elim
  | _ :: _, _, [], _, h, _ => h.elim
theorem SameInts.take {K : Type} : ∀ {vs : List (K × Addr × Value)} {xs : List (K × Addr × Int)}, SameInts vs xs → ∀ i, SameInts (vs.take i) (xs.take i)
  | [], [], _, i => by simp [SameInts]
  | _ :: _, _ :: _, h, 0 => by simp [SameInts]
  | _ :: _, _ :: _, h, i + 1 => ⟨h.1, SameInts.take h.2 i⟩
  | [], _ :: _, h, _ => h.elim
  | _ :: _, [], h, _ => h.elim
theorem SameInts.keys {K : Type} : ∀ {vs : List (K × Addr × Value)} {xs : List (K × Addr × Int)}, SameInts vs xs → vs.map (fun v => (v.1, v.2.1)) = xs.map (fun x => (x.1, x.2.1))
  | [], [], _ => rfl
  | _ :: _, _ :: _, h => by simp only [List.map_cons, SameInts.keys h.2, h.1.1, h.1.2.1]
  | [], _ :: _, h => h.elim
  | _ :: _, [], h => h.elim
theorem ex_int {f : Str → Option Value} {x : Str} {a b : Int} {t : Tok} (h : f x = some (.int a t)) (e : b = a) : ∃ t, f x = some (.int b t) := ⟨t, e ▸ h⟩

section
variable {prog : Program} {w : World} {K : Type} [DecidableEq K] {knd : HeapKind prog w K}
theorem set_X {A : Around} {E : Value → Shared → Prop} {s : Shared} {h₀ : Heap} {L I D a : Addr} {m : Str → Option Value} {oI o : Obj} {es : Array DictEntry} {ep : Nat} {vs : List (K × Addr × Value)} {k : K} {v : Value} {Q : Unit → Shared → Prop}
    (F : Fr h₀ L s.heap m) (N : News h₀ L s.heap [(I, oI), (D, o)]) (hne : D ≠ I) (hu : knd.room A.in1) (hkey : knd.is s.heap k a) (DO : DObj knd o es ep vs) (hk : ∀ x ∈ vs, knd.is s.heap x.1 x.2.1) (hsz : vs.length ≤ sizeLine)
    (ret : ∀ h' o' es' ep', Fr h₀ L h' m → News h₀ L h' [(I, oI), (D, o')] → DObj knd o' es' ep' (storedH vs k a v) → Q () { s with heap := h', toks := s.toks + knd.draws k }) :
    Hold (wpAny (model prog w) A (setItem (.ref D) (.ref a) v) Q E s) := by
  have nD := N (D, o) (.tail _ (.head _))
  have nI := N (I, oI) (.head _)
  refine wpAny_setItem_heap hu hkey (DO.at nD.1 hk) (fun h' hd hs => ?_) hsz
  obtain ⟨o', es', ep', ho', DO'⟩ := dobj_of hd
  refine ret h' o' es' ep' (F.change hs nD.2.1 nD.2.2) (fun p hp => ?_) DO'
  rcases List.mem_cons.mp hp with rfl | hp
  · exact ⟨hs.extBut _ _ (Ne.symm hne) nI.1, nI.2⟩
  · rw [List.mem_singleton.mp hp]
    exact ⟨ho', nD.2⟩
theorem atKey_take {vs : List (K × Addr × Value)} (hn : (vs.map (·.1)).Nodup) {i : Nat} {x : K × Addr × Value} (hx : vs[i]? = some x) : atKey (vs.take i) x.1 = none := by
  refine atKey_none_of_get fun j p hj => ?_
  have hji : j < i := by
    rcases Nat.lt_or_ge j i with h | h
    · exact h
    · rw [List.getElem?_eq_none (by rw [List.length_take]; omega)] at hj
      cases hj
  rw [List.getElem?_take_of_lt hji] at hj
  have := idxH_unique hn (k := x.1) (p := p) (q := x.2) hj hx
  omega
end

theorem putAt_key {K : Type} [DecidableEq K] {ws : List (K × Addr × Value)} {k : K} {v : Value} {P : K → Addr → Prop} (h : ∀ x ∈ ws, P x.1 x.2.1) : ∀ x ∈ ws.map (putAt k v), P x.1 x.2.1 := by
  intro x hx
  obtain ⟨z, hz, rfl⟩ := List.mem_map.mp hx
  unfold putAt
  split <;> exact h z hz
def putI {K : Type} [DecidableEq K] (acc : List (K × Addr × Int)) (y : K × Addr × Int) : List (K × Addr × Int) :=
  if acc.any (fun x => decide (x.1 = y.1)) then acc.map (fun x => if x.1 = y.1 then (x.1, x.2.1, x.2.2 + y.2.2) else x) else acc ++ [y]
def addI {K : Type} [DecidableEq K] (xs ys : List (K × Addr × Int)) : List (K × Addr × Int) := ys.foldl putI xs

theorem atKey_any {K : Type} [DecidableEq K] : ∀ {vs : List (K × Addr × Value)} {xs : List (K × Addr × Int)}, SameInts vs xs → ∀ k, (atKey vs k).isSome = xs.any (fun x => decide (x.1 = k))
  | [], [], _, k => by simp [atKey]
  | v :: vs, x :: xs, h, k => by
    have ih := atKey_any h.2 k
    obtain ⟨h1, _, _⟩ := h.1
    by_cases e : x.1 = k
    · simp [atKey, h1, e]
    · rw [List.any_cons, ← ih]
      simp [atKey, h1, e]
  | [], _ :: _, h, _ => h.elim
  | _ :: _, [], h, _ => h.elim
theorem atKey_some {K : Type} [DecidableEq K] {vs : List (K × Addr × Value)} {k : K} {p : Addr × Value} (h : atKey vs k = some p) : ∃ i : Nat, vs[i]? = some (k, p) := by
  unfold atKey at h
  obtain ⟨x, hx, rfl⟩ := Option.map_eq_some_iff.mp h
  have h1 := List.find?_some hx
  have h2 := List.mem_of_find?_eq_some hx
  obtain ⟨i, hi⟩ := List.mem_iff_getElem?.mp h2
  refine ⟨i, ?_⟩
  rw [hi, ← of_decide_eq_true h1]
theorem same_putAt {K : Type} [DecidableEq K] : ∀ {vs : List (K × Addr × Value)} {xs : List (K × Addr × Int)}, SameInts vs xs → (vs.map (·.1)).Nodup → ∀ {i : Nat} {x y : K × Addr × Int} {t : Tok}, xs[i]? = some x → x.1 = y.1 →
    SameInts (vs.map (putAt y.1 (.int (x.2.2 + y.2.2) t))) (xs.map (fun x => if x.1 = y.1 then (x.1, x.2.1, x.2.2 + y.2.2) else x))
  | [], [], _, _, _, _, _, _, e, _ => by simp at e
  | v :: vs, x₀ :: xs, h, hn, i, x, y, t, e, exy => by
    obtain ⟨h1, h2, t', h3⟩ := h.1
    rw [List.map_cons, List.nodup_cons] at hn
    have key : vs.map (·.1) = xs.map (·.1) := by
      have := congrArg (List.map Prod.fst) (SameInts.keys h.2)
      simpa [List.map_map, Function.comp_def] using this
    cases i with
    | zero =>
      simp at e
      subst e
      have hnot : y.1 ∉ vs.map (·.1) := by rw [← exy, ← h1]; exact hn.1
      have hnot' : ∀ z ∈ xs, ¬ z.1 = y.1 := fun z hz q => hnot (by rw [key, ← q]; exact List.mem_map_of_mem hz)
      refine ⟨?_, ?_⟩
      · simp only [putAt, h1, exy, if_true]
        exact ⟨trivial, h2, t, rfl⟩
      · rw [map_putAt_of_not_mem _ _ _ hnot]
        have : xs.map (fun x => if x.1 = y.1 then (x.1, x.2.1, x.2.2 + y.2.2) else x) = xs := by
          conv => rhs; rw [← List.map_id xs]
          exact List.map_congr_left fun z hz => by simp [hnot' z hz]
        rw [this]
        exact h.2
    | succ i =>
      have hx : xs[i]? = some x := by simpa using e
      have hmem : y.1 ∈ vs.map (·.1) := by rw [key, ← exy]; exact List.mem_map_of_mem (List.mem_of_getElem? hx)
      have hne : ¬ v.1 = y.1 := fun q => hn.1 (q ▸ hmem)
      have hne' : ¬ x₀.1 = y.1 := h1 ▸ hne
      refine ⟨?_, same_putAt h.2 hn.2 hx exy⟩
      simp only [putAt, hne, hne', if_false]
      exact ⟨h1, h2, t', h3⟩
  | [], _ :: _, h, _, _, _, _, _, _, _ => h.elim
  | _ :: _, [], h, _, _, _, _, _, _, _ => h.elim
end Mine
end
section
open PySem PySem.W PySem.Calls PyProof.Rows
set_option maxRecDepth 100000
namespace Mine
section
variable {prog : Program} {w : World} {K : Type} [DecidableEq K] {knd : HeapKind prog w K} {A : Around} {E : Value → Shared → Prop} {s : Shared}
theorem nodup_at {α β : Type} {xs : List (α × β)} (hn : (xs.map (·.1)).Nodup) {i j : Nat} {a : α} {p q : β} (hi : xs[i]? = some (a, p)) (hj : xs[j]? = some (a, q)) : p = q := by
  have h1 : (xs.map (·.1))[i]? = some a := by simp [hi]
  have h2 : (xs.map (·.1))[j]? = some a := by simp [hj]
  obtain ⟨l1, e1⟩ := List.getElem?_eq_some_iff.mp h1
  obtain ⟨l2, e2⟩ := List.getElem?_eq_some_iff.mp h2
  have : i = j := by
    rcases Nat.lt_trichotomy i j with h | h | h
    · exact absurd (e1.trans e2.symm) (List.pairwise_iff_getElem.mp hn i j l1 l2 h)
    · exact h
    · exact absurd (e2.trans e1.symm) (List.pairwise_iff_getElem.mp hn j i l2 l1 h)
  subst this
  rw [hi] at hj
  cases hj
  rfl
theorem same_X {nm : String} {a b : Addr} {oa ob : Obj} {es es' : Array DictEntry} {ep ep' : Nat} {vs us : List (K × Addr × Value)} {xs ys : List (K × Addr × Int)} {Q : Bool → Shared → Prop}
    (hu : knd.room A) (ha : (a == sysModules) = false) (hb : (b == sysModules) = false) (hoa : s.heap.get? a = some oa) (hob : s.heap.get? b = some ob) (DA : DObj knd oa es ep vs) (DB : DObj knd ob es' ep' us)
    (SA : SameInts vs xs) (SB : SameInts us ys) (ka : ∀ x ∈ vs, knd.is s.heap x.1 x.2.1) (kb : ∀ x ∈ us, knd.is s.heap x.1 x.2.1)
    (hlen : xs.length = ys.length) (heq : ∀ x ∈ xs, ∃ y ∈ ys, y.1 = x.1 ∧ y.2.2 = x.2.2) (h : Q true s) :
    wpAny (model prog w) A (Builtin.Dict.samePairs nm a b) Q E s := by
  have la := DA.size
  have lb := DB.size
  have l1 := SA.length
  have l2 := SB.length
  have hda := DA.data
  have hdb := DB.data
  have hsz : es.size = es'.size := by omega
  unfold Builtin.Dict.samePairs Builtin.Dict.showsAll
  rw [if_neg (show ¬ (a == sysModules) = true by rw [ha]; exact Bool.false_ne_true), if_neg (show ¬ (b == sysModules) = true by rw [hb]; exact Bool.false_ne_true)]
  refine wpAny_bind (wpAny_pure (wpAny_bind (wpAny_pure ?_)))
  refine wpAny_bind (wpAny_dictEntries hoa hda ?_)
  dsimp only
  refine wpAny_bind (wpAny_dictEntries hob hdb ?_)
  rw [if_neg (by rw [hsz]; simp)]
  refine wpAny_bind (wpAny_dictEpoch hoa hda ?_)
  refine wpAny_bind ?_
  rw [Std.Legacy.Range.forIn_eq_forIn_range']
  simp only [Std.Legacy.Range.size, Nat.sub_zero, Nat.add_sub_cancel, Nat.div_one]
  refine wpAny_forIn_list _
    (fun rest q s' => s' = s ∧ q = (none, ()) ∧ ∃ i, rest = List.range' i (es.size - i) ∧ i ≤ es.size)
    _ ?_ ?_ _ _ ⟨rfl, rfl, 0, by simp, Nat.zero_le _⟩
  · rintro x rest q s' ⟨rfl, rfl, i, hr, hi⟩
    have hlt : i < es.size := by
      rcases Nat.lt_or_ge i es.size with h | h
      · exact h
      · rw [Nat.sub_eq_zero_of_le h] at hr; simp at hr
    obtain ⟨rfl, hrest⟩ : x = i ∧ rest = List.range' (i + 1) (es.size - (i + 1)) := by
      have e : es.size - i = (es.size - (i + 1)) + 1 := by omega
      rw [e, List.range'_succ] at hr
      injection hr with h1 h2
      exact ⟨h1, h2⟩
    refine wpAny_bind (wpAny_dictEntries hoa hda ?_)
    obtain ⟨v, hv⟩ : ∃ v, vs[x]? = some v := ⟨vs[x]'(by omega), List.getElem?_eq_getElem (by omega)⟩
    obtain ⟨z, t, hz, rfl⟩ := SA.get hv
    rw [DA.get, hv]
    show wpAny _ _ (holding [Value.ref z.2.1, Value.int z.2.2 t] _ >>= _) _ _ _
    refine wpAny_bind (wpAny_holding (wpAny_bind ?_))
    obtain ⟨y, hy, e1, e2⟩ := heq z (List.mem_of_getElem? hz)
    obtain ⟨jy, hjy⟩ := List.getElem?_of_mem hy
    obtain ⟨u, hu'⟩ : ∃ u, us[jy]? = some u := by
      have := (List.getElem?_eq_some_iff.mp hjy).1
      exact ⟨us[jy]'(by omega), List.getElem?_eq_getElem (by omega)⟩
    obtain ⟨y', t', hy', rfl⟩ := SB.get hu'
    rw [hjy] at hy'
    cases hy'
    refine wpAny_dictFind_heap hu (ka _ (List.mem_of_getElem? hv)) hob hdb DB.rows kb DB.nodup (fun hno => ?_) fun j p hj => ?_
    · exact absurd (e1 ▸ hu') (hno jy _)
    · refine wpAny_bind (wpAny_dictEntries hob hdb ?_)
      rw [DB.get, hj]
      have hp : p = (y.2.1, .int y.2.2 t') := nodup_at DB.nodup hj (by rw [e1] at hu'; exact hu')
      subst hp
      show wpAny _ _ (holding [Value.int y.2.2 t'] (eqBool (Value.int z.2.2 t) (Value.int y.2.2 t'))) _ _ _
      refine wpAny_holding (wpAny_eqBool_int ?_)
      rw [e2, beq_self_eq_true]
      show wpAny _ _ (if (!true) = true then _ else _) _ _ _
      rw [if_neg (by decide)]
      refine wpAny_bind (wpAny_dictEpoch hoa hda ?_)
      rw [if_neg (by simp)]
      exact wpAny_pure ⟨rfl, rfl, x + 1, hrest, hlt⟩
  · rintro q s' ⟨rfl, rfl, i, hr, hi⟩
    exact wpAny_pure h
theorem ne_X {a b : Addr} {oa ob : Obj} {es es' : Array DictEntry} {ep ep' : Nat} {vs us : List (K × Addr × Value)} {xs ys : List (K × Addr × Int)} {Q : Value → Shared → Prop}
    (hu : knd.room A.in1) (hc : A.units < cLine) (ha : (a == sysModules) = false) (hb : (b == sysModules) = false) (hoa : s.heap.get? a = some oa) (hob : s.heap.get? b = some ob) (DA : DObj knd oa es ep vs) (DB : DObj knd ob es' ep' us)
    (SA : SameInts vs xs) (SB : SameInts us ys) (ka : ∀ x ∈ vs, knd.is s.heap x.1 x.2.1) (kb : ∀ x ∈ us, knd.is s.heap x.1 x.2.1)
    (hlen : xs.length = ys.length) (heq : ∀ x ∈ xs, ∃ y ∈ ys, y.1 = x.1 ∧ y.2.2 = x.2.2) (h : Q (.bool false) s) :
    Hold (wpAny (model prog w) A (compareOp .NotEq (.ref a) (.ref b)) Q E s) := by
  have hTa : s.TypeIs (.ref a) "dict" := (DA.at hoa ka).typeIs
  have hTb : s.TypeIs (.ref b) "dict" := (DB.at hob kb).typeIs
  refine wpAny_richCompare_same_room (op := .NotEq) hTa hTb PySem.F.slot_dict_ne (wpAny_call_entry PySem.F.slot_dict_ne hTa PySem.F.entry_dict_ne ?_ (PySem.F.args_dict_ne_2 _ _)) hc
  show wpAny _ _ (Builtin.Dict.dictSlotArgs "__ne__" ⟨[.ref a, .ref b], []⟩ >>= _) _ _ s
  refine wpAny_bind ?_
  unfold Builtin.Dict.dictSlotArgs
  refine wpAny_bind (wpAny_notOrdered_dict hTa ?_)
  show wpAny _ _ (pure (Value.ref a, Value.ref b)) _ _ s
  refine wpAny_pure ?_
  refine wpAny_bind (wpAny_isInstance (T := "dict") hTb PySem.F.sub_dict_dict ?_)
  simp only [Bool.not_true, Bool.false_eq_true, if_false]
  refine wpAny_bind (wpAny_pure (wpAny_bind (wpAny_pure ?_)))
  refine wpAny_bind (same_X hu ha hb hoa hob DA DB SA SB ka kb hlen heq ?_)
  exact wpAny_pure ⟨_, rfl, (fun x => nomatch x), h⟩
end
end Mine
end
section
open PySem PySem.W PySem.Calls PyProof.Rows
set_option maxRecDepth 100000
namespace Mine
section
variable {prog : Program} {w : World} {A : Around} {E : Value → Shared → Prop} {s : Shared} {env : Env} {h₀ : Heap} {L : Addr} {m : Str → Option Value} {news : List (Addr × Obj)}
/-- a display of one pair: before the pair is put in -/
theorem Dict_one {ke ve : Expr} {pos : Pos} {Q : Value → Shared → Prop} (F : Fr h₀ L s.heap m) (N : News h₀ L s.heap news) (hbig : h₀.NoLimit)
    (h : ∀ (d : Addr) h' o, Fr h₀ L h' m → News h₀ L h' ((d, o) :: news) → (∀ p ∈ news, p.1 < d) → (d == sysModules) = false → o.IsDictOf (intKind prog w) [] →
      wpAny (model prog w) A (eval ke env) (fun kv s₁ => wpAny (model prog w) A (eval ve env) (fun vv s₂ => Hold (wpAny (model prog w) A (dictSet d kv vv) (fun _ s₃ => Q (.ref d) s₃) E s₂)) E s₁) E { s with heap := h' }) :
    wpAny (model prog w) A (eval (.Dict [some ke] [ve] pos) env) Q E s := by
  rw [arm_eval_Dict]
  have e : (evalEachOpt [some ke] env).zip ((evalEach [ve] env).map fun v => do let x ← v; standAt pos; pure x) = [((eval ke env, do let x ← eval ve env; standAt pos; pure x) : Sem Value × Sem Value)].map fun p => (some p.1, p.2) := rfl
  rw [e, dictDisplay_pairs _ (by simp) (by simp)]
  refine wpAny_bind (wpAny_standAt (wpAny_bind ?_))
  unfold subDict
  refine wpAny_bind (wpAny_alloc ?_)
  refine wpAny_bind (wpAny_holding ?_)
  rw [if_pos (by simp)]
  obtain ⟨o, ho, hd⟩ := Heap.dictOf_iff.mp (Heap.DictOf.new (knd := intKind prog w) s.heap)
  refine wpAny_bind (evalPairs_cons (wpAny_mono (h _ _ o (F.push _) (news_pushed F N (fun b x e => Heap.get?_push_of_some _ e) ho rfl) (fun p hp => Heap.lt_size (N p hp).1) (F.notModules (modules_low hbig)) hd) (fun kv s₁ h₁ => ?_) fun _ _ e => e))
  refine wpAny_bind (wpAny_mono h₁ (fun vv s₂ h₂ => wpAny_bind (wpAny_standAt (wpAny_pure ?_))) fun _ _ e => e)
  refine evalPairs_nil ?_
  refine wpAny_holding ?_
  rw [List.forIn_cons]
  have h₂ : wpAny (model prog w) A (dictSet s.heap.objs.size kv vv) (fun _ s₃ => Q (.ref s.heap.objs.size) s₃) E s₂ := h₂
  refine wpAny_bind (wpAny_bind (wpAny_bind (wpAny_mono h₂ (fun _ s₃ h₃ => wpAny_pure ?_) fun _ _ e => e)))
  dsimp only
  rw [List.forIn_nil]
  exact wpAny_pure (wpAny_pure (wpAny_pure (wpAny_pure h₃)))
variable {K : Type} [DecidableEq K] {knd : HeapKind prog w K}
theorem put_U {d a : Addr} {o : Obj} {g : Obj → List (Addr × Obj)} {es : Array DictEntry} {ep : Nat} {vs : List (K × Addr × Value)} {k : K} {v : Value} {Q : Unit → Shared → Prop}
    (F : Fr h₀ L s.heap m) (N : News h₀ L s.heap news) (U : UpdF d o news g) (hu : knd.room A) (hkey : knd.is s.heap k a) (DO : DObj knd o es ep vs) (hk : ∀ x ∈ vs, knd.is s.heap x.1 x.2.1) (hsz : vs.length ≤ sizeLine)
    (ret : ∀ h' o' es' ep', Fr h₀ L h' m → News h₀ L h' (g o') → DObj knd o' es' ep' (storedH vs k a v) → Q () { s with heap := h', toks := s.toks + knd.draws k }) :
    Hold (wpAny (model prog w) A (dictSet d (.ref a) v) Q E s) := by
  obtain ⟨pre, post, rfl, hg, ha, hb⟩ := U.split
  have hm := N (d, o) (List.mem_append_right _ (.head _))
  refine wpAny_dictSet_heap hu hkey (DO.at hm.1 hk) (fun h' hd hs => ?_) hsz
  obtain ⟨o', es', ep', ho', DO'⟩ := dobj_of hd
  exact ret h' o' es' ep' (F.change hs hm.2.1 hm.2.2) (hg o' ▸ N.setIn ha hb hs ho') DO'
end
end Mine
end
section
open PySem PySem.W PySem.Calls PyProof.Rows
set_option maxRecDepth 100000
namespace Mine
/-- the counts by key -/
def addKV {K : Type} [DecidableEq K] (kv : List (K × Int)) (k : K) : List (K × Int) :=
  if kv.any (fun x => decide (x.1 = k)) then kv.map (fun x => if x.1 = k then (x.1, x.2 + 1) else x) else kv ++ [(k, 1)]
def KV {K : Type} (xs : List (K × Addr × Int)) : List (K × Int) := xs.map fun x => (x.1, x.2.2)
theorem kv_add {K : Type} [DecidableEq K] (xs : List (K × Addr × Int)) (k : K) (a : Addr) : KV (addI xs [(k, a, 1)]) = addKV (KV xs) k := by
  show KV (putI xs (k, a, 1)) = _
  unfold putI addKV KV
  rw [List.any_map]
  by_cases h : (xs.any fun x => decide (x.1 = k)) = true
  · rw [if_pos h, if_pos (by simpa [Function.comp_def] using h), List.map_map, List.map_map]
    refine List.map_congr_left fun x _ => ?_
    by_cases e : x.1 = k <;> simp [e]
  · rw [if_neg h, if_neg (by simpa [Function.comp_def] using h)]
    simp
theorem addKV_len {K : Type} [DecidableEq K] (kv : List (K × Int)) (k : K) : (addKV kv k).length ≤ kv.length + 1 := by
  unfold addKV
  split <;> simp
theorem foldKV_len {K α : Type} [DecidableEq K] (f : α → K) : ∀ (os : List α) (kv : List (K × Int)), (os.foldl (fun kv o => addKV kv (f o)) kv).length ≤ kv.length + os.length
  | [], kv => by simp
  | o :: os, kv => by
    have h1 := foldKV_len f os (addKV kv (f o))
    have h2 := addKV_len kv (f o)
    simp only [List.foldl_cons, List.length_cons]
    omega
section
variable {prog : Program} {w : World} {K : Type} [DecidableEq K]
/-- a key stands wherever these objects stand -/
def KeyIn (knd : HeapKind prog w K) (tail : List (Addr × Obj)) (k : K) (a : Addr) : Prop := ∀ h : Heap, (∀ p ∈ tail, h.get? p.1 = some p.2) → knd.is h k a
theorem KeyIn.mono {knd : HeapKind prog w K} {t t' : List (Addr × Obj)} {k : K} {a : Addr} (x : KeyIn knd t k a) (h : ∀ p ∈ t, p ∈ t') : KeyIn knd t' k a := fun h' q => x h' fun p hp => q p (h p hp)
theorem KeyIn.here {knd : HeapKind prog w K} {t news : List (Addr × Obj)} {k : K} {a : Addr} {h₀ h : Heap} {L : Addr} (x : KeyIn knd t k a) (N : News h₀ L h news) (hs : ∀ p ∈ t, p ∈ news) : knd.is h k a := x h fun p hp => (N p (hs p hp)).1
/-- a dict of counts -/
def CntD (knd : HeapKind prog w K) (tail : List (Addr × Obj)) (D : Addr) (o : Obj) (kv : List (K × Int)) : Prop :=
  (D == sysModules) = false ∧ ∃ es ep vs xs, DObj knd o es ep vs ∧ SameInts vs xs ∧ KV xs = kv ∧ ∀ x ∈ vs, KeyIn knd tail x.1 x.2.1
theorem CntD.mono {knd : HeapKind prog w K} {t t' : List (Addr × Obj)} {D : Addr} {o : Obj} {kv : List (K × Int)} (x : CntD knd t D o kv) (h : ∀ p ∈ t, p ∈ t') : CntD knd t' D o kv :=
  let ⟨a, es, ep, vs, xs, b, c, d, e⟩ := x; ⟨a, es, ep, vs, xs, b, c, d, fun y hy => (e y hy).mono h⟩
theorem CntD.nil {knd : HeapKind prog w K} {tail : List (Addr × Obj)} {D : Addr} {o : Obj} (h1 : (D == sysModules) = false) (h2 : Obj.IsDictOf (intKind prog w) o []) : CntD knd tail D o [] :=
  let ⟨es, ep, d⟩ := dobj_new (knd := knd) h2; ⟨h1, es, ep, [], [], d, trivial, rfl, fun _ h => nomatch h⟩
/-- objects at the tail hold a row of values -/
def TupTail (tail : List (Addr × Obj)) : Prop := ∀ p ∈ tail, ∃ xs k, p.2.data = .seq xs k
theorem tail_ne {h₀ h : Heap} {L c : Addr} {o : Obj} {news tail : List (Addr × Obj)} (N : News h₀ L h news) (T : TupTail tail) (hs : ∀ p ∈ tail, p ∈ news) (hc : (c, o) ∈ news) (ho : ∀ xs k, o.data ≠ .seq xs k) : ∀ p ∈ tail, @Ne Nat p.1 c := by
  intro p hp e
  have h1 := (N p (hs p hp)).1
  have h2 := (N _ hc).1
  dsimp only at h2
  rw [show p.1 = c from e, h2] at h1
  obtain ⟨xs, k, q⟩ := T p hp
  exact ho xs k ((congrArg Obj.data (Option.some.inj h1)).trans q)
theorem tail_cell {h₀ h : Heap} {L c : Addr} {o : Obj} {news tail : List (Addr × Obj)} (N : News h₀ L h news) (T : TupTail tail) (hs : ∀ p ∈ tail, p ∈ news) (hc : (c, o) ∈ news) {v : Option Value} (ho : o.data = .cell v) : ∀ p ∈ tail, @Ne Nat p.1 c :=
  tail_ne N T hs hc fun xs k e => by rw [ho] at e; cases e
theorem cnt_ne {knd : HeapKind prog w K} {t news : List (Addr × Obj)} {D c : Addr} {o oc : Obj} {kv : List (K × Int)} {h₀ h : Heap} {L : Addr} {v : Option Value} (x : CntD knd t D o kv) (N : News h₀ L h news) (hm : (D, o) ∈ news) (hc : (c, oc) ∈ news) (ho : oc.data = .cell v) : @Ne Nat D c := by
  intro e
  obtain ⟨_, es, ep, _, _, d, _⟩ := x
  have h1 := (N _ hm).1
  have h2 := (N _ hc).1
  dsimp only at h1 h2
  rw [show D = c from e, h2] at h1
  have := (congrArg Obj.data (Option.some.inj h1))
  rw [ho, d.data] at this
  cases this
theorem sand_key {M : Mid prog w K} {a b : Str} {tail : List (Addr × Obj)} {T : Addr} {o : Obj} {k : K} {ta tb : Tok} {v : Value} {n : Nat} (hm : (T, o) ∈ tail) (hc : o.cls = .type "tuple") (hd : o.data = .seq #[.str a ta, v, .str b tb] n)
    (hk : ∀ h : Heap, (∀ p ∈ tail, h.get? p.1 = some p.2) → M.is h k v) : KeyIn (sandKind M a b) tail k T := fun h q => ⟨o, n, ta, v, tb, q _ hm, hc, hd, hk h q⟩

theorem cnt_put {A : Around} {E : Value → Shared → Prop} {s : Shared} {h₀ : Heap} {L : Addr} {m : Str → Option Value} {news tl : List (Addr × Obj)} {g : Obj → List (Addr × Obj)} {knd : HeapKind prog w K} {d T : Addr} {o : Obj} {k : K} {t : Tok} {Q : Shared → Prop}
    (F : Fr h₀ L s.heap m) (N : News h₀ L s.heap news) (U : UpdF d o news g) (hu : knd.room A) (hkey : KeyIn knd tl k T) (hs : ∀ p ∈ tl, p ∈ news) (hd : Obj.IsDictOf (intKind prog w) o []) (hlo : (d == sysModules) = false)
    (ret : ∀ h' o', Fr h₀ L h' m → News h₀ L h' (g o') → CntD knd tl d o' [(k, 1)] → Q { s with heap := h', toks := s.toks + knd.draws k }) :
    Hold (wpAny (model prog w) A (dictSet d (.ref T) (.int 1 t)) (fun _ s₃ => Q s₃) E s) := by
  obtain ⟨es, ep, DO⟩ := dobj_new (knd := knd) hd
  refine put_U F N U hu (hkey.here N hs) DO (fun _ h => nomatch h) (Nat.zero_le _) fun h' o' es' ep' F' N' DO' => ret h' o' F' N' ⟨hlo, es', ep', _, [(k, T, 1)], DO', ?_, rfl, ?_⟩
  · exact ⟨⟨rfl, rfl, t, rfl⟩, trivial⟩
  · intro x hx
    rw [storedH_new (by rfl)] at hx
    rw [List.mem_singleton.mp hx]
    exact hkey
theorem addI_pair {xs ys : List (K × Addr × Int)} {P : K → Addr → Prop} (h1 : ∀ x ∈ xs, P x.1 x.2.1) (h2 : ∀ y ∈ ys, P y.1 y.2.1) : ∀ x ∈ addI xs ys, P x.1 x.2.1 := by
  unfold addI
  induction ys generalizing xs with
  | nil => exact h1
  | cons y ys ih =>
    rw [List.foldl_cons]
    refine ih (fun x hx => ?_) fun z hz => h2 z (.tail _ hz)
    unfold putI at hx
    split at hx
    · obtain ⟨z, hz, rfl⟩ := List.mem_map.mp hx
      split
      · exact h1 z hz
      · exact h1 z hz
    · rcases List.mem_append.mp hx with hx | hx
      · exact h1 x hx
      · rw [List.mem_singleton.mp hx]
        exact h2 y (.head _)
theorem same_pair {vs : List (K × Addr × Value)} {xs : List (K × Addr × Int)} {P : K → Addr → Prop} (S : SameInts vs xs) (h : ∀ x ∈ vs, P x.1 x.2.1) : ∀ x ∈ xs, P x.1 x.2.1 := by
  intro x hx
  obtain ⟨i, hi⟩ := List.getElem?_of_mem hx
  have hl := (List.getElem?_eq_some_iff.mp hi).1
  have hv : vs[i]? = some (vs[i]'(by rw [S.length]; exact hl)) := List.getElem?_eq_getElem _
  obtain ⟨y, t, hy, e⟩ := S.get hv
  rw [hi] at hy
  cases hy
  have := h _ (List.mem_of_getElem? hv)
  rw [e] at this
  exact this
theorem same_pair' {vs : List (K × Addr × Value)} {xs : List (K × Addr × Int)} {P : K → Addr → Prop} (S : SameInts vs xs) (h : ∀ x ∈ xs, P x.1 x.2.1) : ∀ x ∈ vs, P x.1 x.2.1 := by
  intro x hx
  obtain ⟨i, hi⟩ := List.getElem?_of_mem hx
  obtain ⟨y, t, hy, rfl⟩ := S.get hi
  exact h y (List.mem_of_getElem? hy)
theorem sand_ext {M : Mid prog w K} {a b : Str} (hM : ∀ {h h' : Heap} {k : K} {v : Value}, M.is h k v → Ext h h' → M.is h' k v) {h h' : Heap} {k : K} {d : Addr} (x : (sandKind M a b).is h k d) (e : Ext h h') : (sandKind M a b).is h' k d := by
  obtain ⟨o, n, ta, v, tb, ho, hc, hd, hm⟩ := x
  exact ⟨o, n, ta, v, tb, e _ _ ho, hc, hd, hM hm e⟩
end
end Mine
end
section
open PySem PySem.W PyProof.Rows
set_option maxRecDepth 100000
set_option maxHeartbeats 8000000
namespace Mine
open_top hd02 for PySem.Challenge.rw_ia0001_02
end Mine
end
section
open PySem PySem.W PySem.Calls PyProof.Rows
namespace Mine
abbrev Con2 (D U : Nat) (w : World) (f : Addr) (vs : List Value) (Pre : Heap → Prop) (Post : Heap → Heap → Value → Prop) : Prop :=
  Con D U PySem.Challenge.rw_ia0001_02.row.prog w (hd02.heap_39 w.params) hd02.view_39 (looseW hd02.view_39 []) f vs Pre Post
abbrev Con2N (D U : Nat) (w : World) (f : Addr) (vs : List Value) (Pre : Heap → Prop) (Post : Heap → Heap → Value → Prop) : Prop :=
  ConN D U PySem.Challenge.rw_ia0001_02.row.prog w (hd02.heap_39 w.params) hd02.view_39 (looseW hd02.view_39 []) f vs Pre Post
end Mine
end
section
open PySem PySem.W PySem.Calls PyProof.Rows
namespace Mine
structure Kept (P : Prop) : Prop where
  out : P
theorem off1_all {I : Addr} : ∀ {l : List (Addr × Obj)}, LCg.Off1 I l → ∀ p ∈ l, @Ne Nat p.1 I
  | [], _, _, h => nomatch h
  | _ :: _, x, p, h => by
    rcases List.mem_cons.mp h with rfl | h
    · exact x.1
    · exact off1_all x.2 p h
theorem ints_one {v w : Int} {t : Tok} (h : w = v) : IntsAre [.int v t] [w] := h ▸ IntsAre.cons _ _ IntsAre.nil
theorem sub_cons {tail news : List (Addr × Obj)} {q : Addr × Obj} (h1 : q ∈ news) (h2 : ∀ p ∈ tail, p ∈ news) : ∀ p ∈ q :: tail, p ∈ news := by
  intro p hp
  rcases List.mem_cons.mp hp with e | hp
  · rw [e]; exact h1
  · exact h2 p hp
theorem sub_tail {tail news : List (Addr × Obj)} {q : Addr × Obj} (h2 : ∀ p ∈ tail, p ∈ news) : ∀ p ∈ tail, p ∈ q :: news := fun p hp => .tail _ (h2 p hp)
theorem news_drop {h₀ h : Heap} {L : Addr} {a : Addr × Obj} {r : List (Addr × Obj)} (N : News h₀ L h (a :: r)) : News h₀ L h r := fun p hp => N p (.tail _ hp)
theorem news_swap {h₀ h : Heap} {L : Addr} {a b : Addr × Obj} {r : List (Addr × Obj)} (N : News h₀ L h (a :: b :: r)) : News h₀ L h (b :: a :: r) := fun p hp => N p (by
  simp only [List.mem_cons] at hp ⊢
  rcases hp with h | h | h <;> simp [h])
theorem fin4 {n : Nat} (h1 : 1 ≤ n) (h4 : n ≤ 4) : n = 1 ∨ n = 2 ∨ n = 3 ∨ n = 4 := by omega
end Mine
end
section
open PySem PySem.W PySem.Calls PyProof.Rows
set_option maxRecDepth 100000
namespace Mine

def ordersF : Nat → List Int → List (List Int)
  | 0, ks => [ks]
  | n + 1, ks => if ks.length < 2 then [ks] else (List.range ks.length).flatMap fun k => (ordersF n (ks.take k ++ ks.drop (k + 1))).map fun rest => (ks.drop k).take 1 ++ rest
def upTo (n : Nat) (ks : List Int) (i : Nat) : List (List Int) := (List.range i).flatMap fun k => (ordersF n (ks.take k ++ ks.drop (k + 1))).map fun rest => (ks.drop k).take 1 ++ rest
theorem ordersF_len : ∀ (n : Nat) (ks r : List Int), r ∈ ordersF n ks → r.length = ks.length
  | 0, ks, r, h => by rw [ordersF, List.mem_singleton] at h; rw [h]
  | n + 1, ks, r, h => by
    unfold ordersF at h
    split at h
    · rw [List.mem_singleton.mp h]
    · obtain ⟨k, hk, hr⟩ := List.mem_flatMap.mp h
      obtain ⟨q, hq, rfl⟩ := List.mem_map.mp hr
      have := ordersF_len n _ _ hq
      have := List.mem_range.mp hk
      simp at *
      omega
theorem upTo_count (n m : Nat) (ks : List Int) (IH : ∀ l : List Int, l.length ≤ m → (ordersF n l).length ≤ (m + 1) ^ n) (h : ks.length ≤ m + 1) : ∀ i, i ≤ ks.length → (upTo n ks i).length ≤ i * (m + 1) ^ n
  | 0, _ => by simp [upTo]
  | i + 1, hi => by
    have h1 := upTo_count n m ks IH h i (by omega)
    have h2 := IH (ks.take i ++ ks.drop (i + 1)) (by simp; omega)
    unfold upTo at *
    rw [List.range_succ, List.flatMap_append, List.length_append, Nat.add_mul, Nat.one_mul]
    simp only [List.flatMap_cons, List.flatMap_nil, List.append_nil, List.length_map]
    omega
theorem ordersF_count (m : Nat) : ∀ (n : Nat) (ks : List Int), ks.length ≤ m → (ordersF n ks).length ≤ (m + 1) ^ n
  | 0, ks, _ => by simp [ordersF]
  | n + 1, ks, h => by
    unfold ordersF
    split
    · exact Nat.one_le_pow _ _ (Nat.succ_pos _)
    · have := upTo_count n m ks (fun l hl => ordersF_count m n l hl) (by omega) ks.length (Nat.le_refl _)
      unfold upTo at this
      refine Nat.le_trans this ?_
      rw [Nat.pow_succ, Nat.mul_comm]
      exact Nat.mul_le_mul_left _ (by omega)
abbrev OrdPost (n : Nat) (ks : List Int) (h h' : Heap) (v : Value) : Prop := ∃ r vs k, v = .ref r ∧ Fresh h h' r (listOf vs.toArray k) ∧ BytesAre vs (ordersF n ks)

local macro_rules | `(tactic| walk_at "call ref") => `(tactic| ((with_reducible show wpAny _ _ (call (Value.ref _) _) _ _ _); refine hold_of ?_))
local macro_rules | `(tactic| walk_at "eval ListComp") => `(tactic| (k_here; k_dflt (refine ListComp_X (F₀ := by k_asm) (by with_unfolding_all rfl) (by decide) (by rfl) (by decide) (by rfl) ?_)))
set_option maxHeartbeats 4000000 in
theorem orders_step (w : World) (n D U : Nat) (hD : D < 900) (hU : U < 900) (IH : ∀ (b : Array UInt8) (t : Tok) (ks : List Int), KBw.bInts b = ks → ks.length ≤ n → 0 < n → Con2 (D + 1) (U + 50) w 45 [.bytes b t] (fun _ => True) (OrdPost n ks))
    (b : Array UInt8) (t : Tok) (ks : List Int) (hks : KBw.bInts b = ks) (hlen : ks.length ≤ n + 1) (hn : n ≤ 4) : Con2 D U w 45 [.bytes b t] (fun _ => True) (OrdPost (n + 1) ks) := by
  unfold Con2 at *
  w_top off
  k_fill
  refine' con_cells (by show D < 1000; omega) ?ho ?hcd ?hb ?hk ?hn ?_ ?c1 ?c2 ?c3
  case ho => k_is
  case hcd => k_is
  case hb => exact fun s => BindsTo.of_eq rfl
  case hk => exact rfl
  case hn => decide +kernel
  case c1 => exact rfl
  case c2 => exact rfl
  case c3 => exact rfl
  intro env outer gd A base L' h' tk' cells' mean mg mb s hA F' N' Y' B' X' T' hPre
  subst hA
  k_cells Y'
  try dsimp only
  k_unmd
  try k_fold
  k_steps
  · show Ends _ _ _ _
    rename_i F1 N1 _
    refine ⟨_, _, rfl, F1.keep, _, _, _, rfl, Fresh.of N1 (.head _), ?_⟩
    have : ks.length < 2 := by omega
    rw [ordersF, if_pos this]
    exact BytesAre.one hks
  · refine' For_X s.heap ?_ ?fs
    case fs => intro _; rfl
    k_steps
    rename_i F1 N1 _
    refine range_X (n := ks.length) (fun i m news => ∃ D vs ok k, news = [(D, listOf (List.toArray vs) k), (L' + 1 + 1, ok), (L' + 1, _)] ∧ (∃ kv, ok.data = .cell kv) ∧ (m = fun y => if y = Str.ofString "found" then some (Value.ref D) else bindL _ _ _ y) ∧ BytesAre vs (upTo n ks i))
      rfl (by assumption) (small_one (by omega) (by omega) (by omega) (by omega)) (by rw [rangeSize_nat]; omega) F1 N1 ⟨_, [], _, _, rfl, ⟨_, by assumption⟩, rfl, trivial⟩ ?turn ?done (fun _ _ => rfl) PassesOwn.never
    case turn =>
      rintro i t' m₁ news₁ h₁ tk₁ I oI hi ⟨D', vs', ok', k', rfl, ⟨kv, hkv⟩, rfl, hvs⟩ hn₁ F₂ N₂
      replace hn₁ := off1_of hn₁
      simp only [LCg.Off1, and_true] at hn₁
      have ne1 := cell_ne N₂ (.tail _ (.head _)) rfl (.tail _ (.tail _ (.head _))) hkv
      have ne2 := cell_ne N₂ (.tail _ (.head _)) rfl (.tail _ (.tail _ (.tail _ (.head _)))) (by assumption)
      k_steps
      rename_i hb
      have hln : (List.take (clipAt ks.length (0 + (i : Int))) ks ++ List.take (ks.length - clipAt ks.length (0 + (i : Int) + 1)) (List.drop (clipAt ks.length (0 + (i : Int) + 1)) ks)) = ks.take i ++ ks.drop (i + 1) := by
        have c1 : clipAt ks.length (0 + (i : Int)) = i := by unfold clipAt; omega
        have c2 : clipAt ks.length (0 + (i : Int) + 1) = i + 1 := by unfold clipAt; omega
        rw [c1, c2]
        congr 1
        exact List.take_of_length_le (by simp)
      rw [hln] at hb
      refine con_call (IH _ _ _ hb (by simp; omega) (by omega)) (by assumption) (by assumption) rfl rfl rfl rfl (Nat.le_refl _) (Nat.le_of_lt (by show U + 3 < U + 50; omega)) (by assumption) (by assumption) (by assumption) trivial ?_
      rintro r h₂ tk₂ x ⟨r, us, k₂, rfl, fr, hus⟩ F₃ N₃ grow
      obtain ⟨N₄, off₄⟩ := grow _ _ fr
      simp only [LCg.Off1, and_true] at off₄
      show LCg.CompSrc _ _ _ _ _ _ _ _ _ _ _ _ _ _
      refine LCg.CompSrc.ledger rfl F₃ N₄ (.head _) ?size fun g => comp_ind (fun j ys news => news = [_, _, _, _, _] ∧ BytesAre ys (((ordersF n (ks.take i ++ ks.drop (i + 1))).take j).map fun rest => (ks.drop i).take 1 ++ rest)) us.length ?step ?fin _ _ _ _ (by simp) ⟨rfl, trivial⟩
      case size =>
        have h1 := hus.length
        have h2 : _ ≤ 6 ^ n := ordersF_count 5 n (ks.take i ++ ks.drop (i + 1)) (by simp; omega)
        have h3 : 6 ^ n ≤ 6 ^ 4 := Nat.pow_le_pow_right (by omega) hn
        rw [sizeLine_eq, List.size_toArray]
        omega
      case step =>
        rintro j ys news hj ⟨rfl, hys⟩ v I' oI' C' oC' D₂ m₂ h₃ tk₃ E₃ hv hns hm F₅ N₅ off₅ ne₅
        obtain ⟨bv, tv, kv', hkv', rfl, hbv⟩ := hus.get (by simpa using hv)
        have hl1 : kv'.length = (ks.take i ++ ks.drop (i + 1)).length := ordersF_len n _ _ (List.mem_of_getElem? hkv')
        have hl2 : kv'.length ≤ 5 := by rw [hl1]; simp; omega
        k_steps
        rename_i F₆ N₆ _ _ _ hb₆
        refine LCg.CompEnd.intro F₆ N₆ _ (fun _ hp => hp) off₅ (.inr ⟨_, .head _, rfl, _, rfl⟩) ⟨rfl, ?_⟩
        rw [List.take_add_one (l := ordersF n _), hkv', Option.toList_some, List.map_append]
        refine hys.append (BytesAre.one (hb₆.trans ?_))
        have c1 : clipAt ks.length (0 + (i : Int)) = i := by unfold clipAt; omega
        have c2 : clipAt ks.length (0 + (i : Int) + 1) = i + 1 := by unfold clipAt; omega
        rw [c1, c2]
        simp
      case fin =>
        rintro ys news ⟨rfl, hys⟩ D₂ h₃ tk₃ F₅ N₅ off₅
        have hlt := Heap.lt_size (N₅ (I, oI) (.tail _ (.tail _ (.head _)))).1
        refine add_arrays F₅ N₅ ⟨_, (N₅ _ (.tail _ (.tail _ (.tail _ (.head _))))).1, rfl, _, rfl⟩ ⟨_, (N₅ _ (.head _)).1, rfl, _, rfl⟩ (fun h₄ F₆ N₆ => ?_) ?_
        case refine_1 =>
          k_steps
          rename_i F₇ N₇
          have hfin : upTo n ks (i + 1) = upTo n ks i ++ List.map (fun rest => (ks.drop i).take 1 ++ rest) (List.take us.length (ordersF n (ks.take i ++ ks.drop (i + 1)))) := by
            unfold upTo
            rw [List.range_succ, List.flatMap_append, hus.length, List.take_of_length_le (Nat.le_refl _)]
            simp
          refine ⟨_, _, _, [(h₃.objs.size, listOf (List.toArray (vs' ++ ys)) 0), _, _], rfl, F₇, fun p hp => N₇ p ?_, ?_, _, _, _, _, rfl, ⟨_, by assumption⟩, ?_, hfin ▸ hvs.append hys⟩
          · simp only [List.mem_cons] at hp ⊢
            rcases hp with h | h | h | h | h <;> first | (cases h; done) | simp [h]
          · intro p hp
            simp only [List.mem_cons, List.not_mem_nil, or_false] at hp
            rcases hp with rfl | rfl | rfl
            · exact Nat.ne_of_gt hlt
            · exact hn₁.2.1
            · exact hn₁.2.2
          · funext y
            by_cases e : y = Str.ofString "found" <;> simp [e]
        case refine_2 =>
          have h1 := hus.length
          have h2 : _ ≤ 6 ^ n := ordersF_count 5 n (ks.take i ++ ks.drop (i + 1)) (by simp; omega)
          have h3 : 6 ^ n ≤ 6 ^ 4 := Nat.pow_le_pow_right (by omega) hn
          have h4 : _ ≤ _ * 6 ^ n := upTo_count n 5 ks (fun l hl => ordersF_count 5 n l hl) (by omega) i (by omega)
          have h5 := hys.length
          have h6 := hvs.length
          have h7 : i * 6 ^ n ≤ 5 * 6 ^ n := Nat.mul_le_mul_right _ (by omega)
          simp only [List.length_map, List.length_take] at h5
          rw [sizeLine_eq, List.size_toArray, List.size_toArray]
          omega
    case done =>
      rintro m₁ news₁ h₁ tk₁ ⟨D', vs', ok', k', rfl, ⟨kv, hkv⟩, rfl, hvs⟩ F₂ N₂
      k_steps
      show Ends _ _ _ _
      refine ⟨_, _, rfl, Fr.keep (by assumption), _, _, _, rfl, Fresh.of (by assumption) (.head _), ?_⟩
      have : ¬ ks.length < 2 := by omega
      rw [ordersF, if_neg this]
      exact hvs
theorem orders_con (w : World) : ∀ (n D U : Nat), n ≤ 4 → D + n < 900 → U + 50 * n < 900 → ∀ (b : Array UInt8) (t : Tok) (ks : List Int), KBw.bInts b = ks → ks.length ≤ n + 1 → Con2 D U w 45 [.bytes b t] (fun _ => True) (OrdPost (n + 1) ks)
  | 0, D, U, _, hD, hU, b, t, ks, hks, hl => orders_step w 0 D U (by omega) (by omega) (fun _ _ _ _ _ h0 => absurd h0 (Nat.lt_irrefl _)) b t ks hks hl (by omega)
  | n + 1, D, U, hn, hD, hU, b, t, ks, hks, hl => orders_step w (n + 1) D U (by omega) (by omega) (fun b t ks h1 h2 _ => orders_con w n (D + 1) (U + 50) (by omega) (by omega) (by omega) b t ks h1 h2) b t ks hks hl (by omega)
end Mine
end
section
open PySem PySem.W PySem.Calls PyProof.Rows
set_option maxRecDepth 100000
namespace Mine

local macro_rules | `(tactic| walk_at "call ref") => `(tactic| ((with_reducible show wpAny _ _ (call (Value.ref _) _) _ _ _); refine hold_of ?_))
local macro_rules | `(tactic| walk_at "exec For Name Call cons nil") => `(tactic| ((with_reducible show wpAny _ _ (exec (Stmt.For _ _ _ _ _) _) _ _ _); refine hold_of ?_))
local macro_rules | `(tactic| walk_at "exec For Tuple Call cons nil") => `(tactic| ((with_reducible show wpAny _ _ (exec (Stmt.For _ _ _ _ _) _) _ _ _); refine hold_of ?_))

set_option maxHeartbeats 4000000 in
theorem count_con (w : World) {K : Type} [DecidableEq K] {prog : Program} {knd : HeapKind prog w K} (d : Addr) (od : Obj) (es : Array DictEntry) (ep : Nat) (vs : List (K × Addr × Value)) (xs : List (K × Addr × Int)) (hS : (d == sysModules) = false) (DO : DObj knd od es ep vs) (SI : SameInts vs xs) :
    Con2 400 1000 w 28 [.ref d] (fun h => h.get? d = some od) (fun _ _ v => ∃ t, v = .int (xs.map (·.2.2)).sum t) := by
  unfold Con2
  w_top off
  k_fill
  refine' con_plain (by decide) ?ho ?hcd ?hb ?hk ?hn ?_ ?c1 ?c2 ?c3
  case ho => k_is
  case hcd => k_is
  case hb => exact fun s => BindsTo.of_eq rfl
  case hk => exact locs rfl
  case hn => decide
  case c1 => exact rfl
  case c2 => exact rfl
  case c3 => exact rfl
  intro env outer gd A base L' h' mean mg mb s hA F' B' X' T' hPre
  subst hA
  have N' : News s.heap L' h' [] := News.nil
  try dsimp only
  k_unmd
  try k_fold
  k_steps
  rename_i F1 N1
  show wpAny _ _ (exec (Stmt.For _ _ _ _ _) _) _ _ _
  refine' For_X s.heap ?_ ?fs
  case fs => intro _; rfl
  have hd1 := F1.keep _ _ hPre
  refine Call_values_X hS (DO.raw hd1) (by rfl) (by rfl) (fun Q' hq => ld F1 (by rfl) hq) ?_
  refine vals_X (fun i m news => news = [] ∧ (∃ t, m (Str.ofString "nc") = some (.int ((xs.take i).map (·.2.2)).sum t))) (by rfl) ⟨_, Heap.get?_push_size _ rfl, rfl, rfl⟩ (Heap.get?_push_of_some _ hd1) DO.exact DO.data (F1.push _) News.nil ?hold ⟨rfl, ⟨_, rfl⟩⟩ ?turn ?done PassesOwn.never
  case hold =>
    intro i m news h _ F N
    exact F.keep _ _ hPre
  case turn =>
    rintro i en m₁ news₁ h₁ tk₁ I oI hen ⟨rfl, ⟨t, hm⟩⟩ _ F₂ N₂
    rw [DO.get] at hen
    obtain ⟨v, hv, rfl⟩ := Option.map_eq_some_iff.mp hen
    obtain ⟨x, tx, hx, rfl⟩ := SI.get hv
    rw [m_put hm] at F₂
    dsimp only [entryOfKey]
    k_steps
    rename_i F3 N3
    have e : ((xs.take (i + 1)).map (·.2.2)).sum = ((xs.take i).map (·.2.2)).sum + x.2.2 := by simp [List.take_add_one, hx]
    refine ⟨_, _, _, [], rfl, F3, N3, (fun _ h => nomatch h), rfl, ?_⟩
    rw [e]
    exact ⟨_, rfl⟩
  case done =>
    rintro m₁ news₁ h₁ tk₁ ⟨rfl, ⟨t, hm⟩⟩ F₂ N₂
    rw [m_put hm] at F₂
    k_steps
    show Ends _ _ _ _
    refine ⟨_, _, rfl, Fr.keep (by assumption), t, ?_⟩
    rw [DO.size, SI.length, List.take_length]
end Mine
end
section
open PySem PySem.W PySem.Calls PyProof.Rows
set_option maxRecDepth 100000
namespace Mine

local macro_rules | `(tactic| walk_at "call ref") => `(tactic| ((with_reducible show wpAny _ _ (call (Value.ref _) _) _ _ _); refine hold_of ?_))
local macro_rules | `(tactic| walk_at "exec For Name Call cons nil") => `(tactic| ((with_reducible show wpAny _ _ (exec (Stmt.For _ _ _ _ _) _) _ _ _); refine hold_of ?_))
local macro_rules | `(tactic| walk_at "exec For Tuple Call cons nil") => `(tactic| ((with_reducible show wpAny _ _ (exec (Stmt.For _ _ _ _ _) _) _ _ _); refine hold_of ?_))
local macro_rules | `(tactic| walk_at "setItem ref") => `(tactic| ((with_reducible show wpAny _ _ (setItem (Value.ref _) (Value.ref _) _) _ _ _); refine hold_of ?_))
local macro_rules | `(tactic| walk_at "getItem ref") => `(tactic| ((with_reducible show wpAny _ _ (getItem (Value.ref _) (Value.ref _)) _ _ _); refine hold_of ?_))
local macro_rules | `(tactic| walk_at "compareOp In ref ref") => `(tactic| ((with_reducible show wpAny _ _ (compareOp CmpOp.In (Value.ref _) (Value.ref _)) _ _ _); refine hold_of ?_))
local macro_rules | `(tactic| walk_at "exec AugAssign Subscript") => `(tactic| (refine wpAny_AugAssign_Subscript ?_))

set_option maxHeartbeats 4000000 in
theorem add_con (w : World) {K : Type} [DecidableEq K] {knd : HeapKind PySem.Challenge.rw_ia0001_02.row.prog w K} (hroom : ∀ A : Around, A.units ≤ 1050 → knd.room A) (hext : ∀ {h h' : Heap} {k : K} {a : Addr}, knd.is h k a → Ext h h' → knd.is h' k a)
    (d e : Addr) (od oe : Obj) (es ee : Array DictEntry) (ep eq : Nat) (vs us : List (K × Addr × Value)) (xs ys : List (K × Addr × Int)) (hSd : (d == sysModules) = false) (hSe : (e == sysModules) = false)
    (DO : DObj knd od es ep vs) (EO : DObj knd oe ee eq us) (SI : SameInts vs xs) (SJ : SameInts us ys) (hsz : xs.length + ys.length ≤ 1000) :
    Con2 400 1000 w 21 [.ref d, .ref e] (fun h => h.get? d = some od ∧ h.get? e = some oe ∧ (∀ x ∈ vs, knd.is h x.1 x.2.1) ∧ (∀ x ∈ us, knd.is h x.1 x.2.1))
      (fun h h' v => ∃ r o fs fp ws, v = .ref r ∧ (r == sysModules) = false ∧ Fresh h h' r o ∧ DObj knd o fs fp ws ∧ SameInts ws (addI xs ys)) := by
  unfold Con2
  w_top off
  k_fill
  refine' con_plain (by decide) ?ho ?hcd ?hb ?hk ?hn ?_ ?c1 ?c2 ?c3
  case ho => k_is
  case hcd => k_is
  case hb => exact fun s => BindsTo.of_eq rfl
  case hk => exact locs rfl
  case hn => decide
  case c1 => exact rfl
  case c2 => exact rfl
  case c3 => exact rfl
  intro env outer gd A base L' h' mean mg mb s hA F' B' X' T' hPre
  subst hA
  have N' : News s.heap L' h' [] := News.nil
  try dsimp only
  k_unmd
  try k_fold
  obtain ⟨hP1, hP2, hP3, hP4⟩ := hPre
  k_steps
  rename_i F1 N1
  rename Obj.IsDictOf (intKind _ _) _ _ => hiD
  obtain ⟨es₀, ep₀, D0⟩ := dobj_new (knd := knd) hiD
  show wpAny _ _ (exec (Stmt.For _ _ _ _ _) _) _ _ _
  refine' For_X s.heap ?_ ?fs
  case fs => intro _; rfl
  have hd1 := F1.keep _ _ hP1
  refine Call_items_X hSd (DO.raw hd1) (by rfl) (by rfl) (fun Q' hq => ld F1 (by rfl) hq) ?_
  refine items_X (fun i m news => ∃ D o fs fp, news = [(D, o)] ∧ (D == sysModules) = false ∧ m (Str.ofString "new_callers") = some (.ref D) ∧ m (Str.ofString "target") = some (.ref d) ∧ m (Str.ofString "source") = some (.ref e) ∧ DObj knd o fs fp (vs.take i))
    (by rfl) ⟨_, Heap.get?_push_size _ rfl, rfl, rfl⟩ (Heap.get?_push_of_some _ hd1) DO.exact DO.data (F1.push _) (fun p hp => ⟨Heap.get?_push_of_some _ (N1 p hp).1, (N1 p hp).2⟩) (by rfl) (by rfl) (by rfl) ?hold ⟨_, _, _, _, rfl, by assumption, rfl, rfl, rfl, D0⟩ ?turn ?done PassesOwn.never
  case hold =>
    intro i m news h _ F N
    exact F.keep _ _ hP1
  case turn =>
    rintro i en m₁ news₁ h₁ tk₁ I oI hen ⟨D, o, fs, fp, rfl, hD, h1, h2, h3, DO'⟩ hn F₂ N₂
    have hne : D ≠ I := hn _ (.head _)
    rw [DO.get] at hen
    obtain ⟨v, hv, rfl⟩ := Option.map_eq_some_iff.mp hen
    rw [m_put h1, m_put h2, m_put h3] at F₂
    dsimp only [entryOfKey] at F₂
    have hk : ∀ x ∈ vs, knd.is h₁ x.1 x.2.1 := fun x hx => hext (hP3 x hx) F₂.keep
    have hlt : i < vs.length := (List.getElem?_eq_some_iff.mp hv).1
    k_steps
    refine set_X (by assumption) (by assumption) hne (hroom _ (Nat.le_of_ble_eq_true rfl)) (hk v (List.mem_of_getElem? hv)) DO' (fun x hx => hk x (List.mem_of_mem_take hx)) (by have := SI.length; rw [sizeLine_eq, List.length_take]; omega) fun h' o' es' ep' F3 N3 DO3 => ?_
    k_steps
    rw [storedH_new (atKey_take DO.nodup hv)] at DO3
    have e3 : vs.take (i + 1) = vs.take i ++ [(v.1, v.2.1, v.2.2)] := by rw [List.take_add_one, hv]; rfl
    exact ⟨_, _, _, [(D, o')], rfl, by assumption, by assumption, (fun p hp => by rw [List.mem_singleton.mp hp]; exact hne), _, _, _, _, rfl, hD, rfl, rfl, rfl, e3 ▸ DO3⟩
  case done =>
    rintro m₁ news₁ h₁ tk₁ ⟨D, o, fs, fp, rfl, hD, h1, h2, h3, DO'⟩ F₂ N₂
    rw [m_put h1, m_put h2, m_put h3] at F₂
    rw [DO.size, List.take_length] at DO'
    k_steps
    show wpAny _ _ (exec (Stmt.For _ _ _ _ _) _) _ _ _
    refine' For_X s.heap ?_ ?fs
    case fs => intro _; rfl
    have hd2 := F₂.keep _ _ hP2
    refine Call_items_X hSe (EO.raw hd2) (by rfl) (by rfl) (fun Q' hq => ld F₂ (by rfl) hq) ?_
    refine items_X (fun i m news => ∃ D o fs fp ws, news = [(D, o)] ∧ (D == sysModules) = false ∧ m (Str.ofString "new_callers") = some (.ref D) ∧ DObj knd o fs fp ws ∧ SameInts ws (addI xs (ys.take i)) ∧ (∀ x ∈ ws, knd.is s.heap x.1 x.2.1) ∧ ws.length ≤ xs.length + i)
      (by rfl) ⟨_, Heap.get?_push_size _ rfl, rfl, rfl⟩ (Heap.get?_push_of_some _ hd2) EO.exact EO.data (F₂.push _) (fun p hp => ⟨Heap.get?_push_of_some _ (N₂ p hp).1, (N₂ p hp).2⟩) (by rfl) (by rfl) (by rfl) ?hold ⟨_, _, _, _, _, rfl, hD, rfl, DO', SI, hP3, by rw [SI.length]; exact Nat.le_refl _⟩ ?turn ?done PassesOwn.never
    case hold =>
      intro i m news h _ F N
      exact F.keep _ _ hP2
    case turn =>
      rintro i en m₁ news₁ h₁ tk₁ I oI hen ⟨D, o, fs, fp, ws, rfl, hD, h1, DO', SI', hks, hlen⟩ hn F₂ N₂
      have hne : D ≠ I := hn _ (.head _)
      rw [EO.get] at hen
      obtain ⟨v, hv, rfl⟩ := Option.map_eq_some_iff.mp hen
      obtain ⟨y, ty, hy, rfl⟩ := SJ.get hv
      rw [m_put h1] at F₂
      dsimp only [entryOfKey] at F₂
      have hk : ∀ x ∈ ws, knd.is h₁ x.1 x.2.1 := fun x hx => hext (hks x hx) F₂.keep
      have hky : knd.is h₁ y.1 y.2.1 := hext (hP4 _ (List.mem_of_getElem? hv)) F₂.keep
      have hDo := (N₂ (D, o) (.tail _ (.head _))).1
      have hlt : i < us.length := (List.getElem?_eq_some_iff.mp hv).1
      have hl1 := SI.length
      have hl2 := SJ.length
      have e4 : addI xs (ys.take (i + 1)) = putI (addI xs (ys.take i)) y := by unfold addI; rw [List.take_add_one, hy, List.foldl_append]; rfl
      have hany := atKey_any SI' y.1
      k_steps
      show wpAny _ _ (compareOp _ _ _) _ _ _
      refine wpAny_in_heap (hroom _ (Nat.le_of_ble_eq_true rfl)) hky hD (DO'.at hDo hk) ?_
      cases hat : atKey ws y.1 with
      | none =>
        rw [hat] at hany
        simp only [Option.isSome_none] at hany ⊢
        k_steps
        refine set_X (by assumption) (by assumption) hne (hroom _ (Nat.le_of_ble_eq_true rfl)) hky DO' hk (by rw [sizeLine_eq]; omega) fun h' o' es' ep' F3 N3 DO3 => ?_
        k_steps
        rw [storedH_new hat] at DO3
        have e5 : putI (addI xs (ys.take i)) y = addI xs (ys.take i) ++ [y] := by unfold putI; rw [← hany]; rfl
        refine ⟨_, _, _, [(D, o')], rfl, by assumption, by assumption, (fun p hp => by rw [List.mem_singleton.mp hp]; exact hne), _, _, _, _, _, rfl, hD, rfl, DO3, ?_, ?_, ?_⟩
        · rw [e4, e5]
          exact SI'.append ⟨⟨rfl, rfl, _, rfl⟩, trivial⟩
        · intro x hx
          rcases List.mem_append.mp hx with hx | hx
          · exact hks x hx
          · rw [List.mem_singleton.mp hx]
            exact hP4 _ (List.mem_of_getElem? hv)
        · rw [List.length_append, List.length_singleton]; omega
      | some p =>
        rw [hat] at hany
        simp only [Option.isSome_some] at hany ⊢
        obtain ⟨j, hj⟩ := atKey_some hat
        obtain ⟨x, t, hx, hjx⟩ := SI'.get hj
        obtain ⟨hxy, hp⟩ := Prod.mk.inj hjx
        subst hp
        k_steps
        show wpAny _ _ (getItem _ _) _ _ _
        refine wpAny_getItem_heap (hroom _ (Nat.le_of_ble_eq_true rfl)) hky (DO'.at hDo hk) hat ?_
        k_steps
        refine set_X (by assumption) (by assumption) hne (hroom _ (Nat.le_of_ble_eq_true rfl)) hky DO' hk (by rw [sizeLine_eq]; omega) fun h' o' es' ep' F3 N3 DO3 => ?_
        k_steps
        rw [storedH_old hat] at DO3
        have e5 : putI (addI xs (ys.take i)) y = (addI xs (ys.take i)).map (fun x => if x.1 = y.1 then (x.1, x.2.1, x.2.2 + y.2.2) else x) := by unfold putI; rw [← hany]; rfl
        refine ⟨_, _, _, [(D, o')], rfl, by assumption, by assumption, (fun p hp => by rw [List.mem_singleton.mp hp]; exact hne), _, _, _, _, _, rfl, hD, rfl, DO3, ?_, putAt_key hks, ?_⟩
        · rw [e4, e5]
          exact same_putAt SI' DO'.nodup hx hxy.symm
        · rw [List.length_map]; omega
    case done =>
      rintro m₁ news₁ h₁ tk₁ ⟨D, o, fs, fp, ws, rfl, hD, h1, DO', SI', hks, hlen⟩ F₂ N₂
      rw [m_put h1] at F₂
      k_steps
      show Ends _ _ _ _
      refine ⟨_, _, rfl, Fr.keep (by assumption), _, _, _, _, _, rfl, hD, Fresh.of (by assumption) (.head _), DO', ?_⟩
      rw [EO.size, SJ.length, List.take_length] at SI'
      exact SI'
end Mine
end
section
open PySem PySem.W PySem.Calls PyProof.Rows
set_option maxRecDepth 100000
namespace Mine

local macro_rules | `(tactic| walk_at "call ref") => `(tactic| ((with_reducible show wpAny _ _ (call (Value.ref _) _) _ _ _); refine hold_of ?_))
local macro_rules | `(tactic| walk_at "exec For Name Call cons nil") => `(tactic| ((with_reducible show wpAny _ _ (exec (Stmt.For _ _ _ _ _) _) _ _ _); refine hold_of ?_))
local macro_rules | `(tactic| walk_at "exec For Tuple Call cons nil") => `(tactic| ((with_reducible show wpAny _ _ (exec (Stmt.For _ _ _ _ _) _) _ _ _); refine hold_of ?_))

set_option maxHeartbeats 4000000 in
theorem swap_con (w : World) (b : Array UInt8) (t tn : Tok) (ks : List Int) (hks : KBw.bInts b = ks) (h0 : 0 < ks.length) (hlen : ks.length ≤ 7) : Con2N 400 1000 w 35 [.bytes b t, .int ks.length tn] (fun _ => True) (fun _ _ v => ∃ c t, v = .bytes c t ∧ KBw.bInts c = ks.reverse) := by
  unfold Con2N
  w_top off
  k_fill
  refine' con_plainN (by decide) ?ho ?hcd ?hb ?hk ?hn ?_ ?c1 ?c2 ?c3
  case ho => k_is
  case hcd => k_is
  case hb => exact fun s => BindsTo.of_eq rfl
  case hk => exact locs rfl
  case hn => decide
  case c1 => exact rfl
  case c2 => exact rfl
  case c3 => exact rfl
  intro env outer gd A base L' h' mean mg mb s hA F' B' X' T' hPre
  subst hA
  have N' : News s.heap L' h' [] := News.nil
  try dsimp only
  k_unmd
  try k_fold
  refine wpN_execs_cons (wpN_Assign_Name ?_ ?_)
  case refine_2 => rfl
  refine wpN_Call_ofName ?_
  k_steps
  refine callWithN_type1 ?_
  k_steps
  rename Fr _ _ _ _ => F1
  rename News _ _ _ _ => N1
  refine call_bytearray_N h0 (by omega) fun h₂ e1 e2 => ?_
  have F2 := F1.keeps e2
  have N2 := Fresh.news F1 N1 e2 ⟨fresh_none _, e1⟩
  clear F1 N1
  k_steps
  refine wpN_any ?_
  k_steps
  show wpAny _ _ (exec (Stmt.For _ _ _ _ _) _) _ _ _
  refine' For_X s.heap ?_ ?fs
  case fs => intro _; rfl
  k_steps
  rename_i G1 F3 N3 _
  generalize h'.objs.size = R at *
  have hsm : Builtin.Range.small 0 (ks.length : Int) (ks.length : Int) = true ∧ Builtin.Range.rangeSize 0 (ks.length : Int) (ks.length : Int) = ((1 : Nat) : Int) := by
    have : ks.length = 1 ∨ ks.length = 2 ∨ ks.length = 3 ∨ ks.length = 4 ∨ ks.length = 5 ∨ ks.length = 6 ∨ ks.length = 7 := by omega
    rcases this with e | e | e | e | e | e | e <;> rw [e] <;> decide
  refine range_Xc (n := 1) (fun i m news => ∃ c, news = [(R, baObj c)] ∧ m (Str.ofString "swapped_data") = some (.ref R) ∧ m (Str.ofString "data") = some (.bytes b t) ∧ m (Str.ofString "width") = some (.int ks.length tn) ∧
      KBw.bInts c = if i = 0 then List.replicate ks.length 0 else ks.reverse)
    rfl (by assumption) hsm.1 hsm.2 F3 N3 ⟨_, rfl, rfl, rfl, rfl, bInts_zero _⟩ ?turn ?done (fun _ _ => rfl) PassesOwn.never
  case turn =>
    rintro i t' m₁ news₁ h₁ tk₁ I oI hi ⟨c, rfl, hm1, hm2, hm3, hc⟩ hn₁ F₂ N₂
    obtain rfl : i = 0 := by omega
    rw [if_pos rfl] at hc
    rw [m_put hm1, m_put hm2, m_put hm3] at F₂
    k_steps
    show wpAny _ _ (exec (Stmt.For _ _ _ _ _) _) _ _ _
    refine' For_X s.heap ?_ ?fs
    case fs => intro _; rfl
    k_steps
    rename_i G4 F4 N4 _
    refine range_X (n := ks.length) (fun j m news => ∃ c, news = [(I, oI), (R, baObj c)] ∧ m (Str.ofString "swapped_data") = some (.ref R) ∧ m (Str.ofString "data") = some (.bytes b t) ∧ m (Str.ofString "width") = some (.int ks.length tn) ∧ m (Str.ofString "i") = some (.int 0 t') ∧
      KBw.bInts c = List.replicate (ks.length - j) 0 ++ (ks.take j).reverse)
      rfl (by assumption) (small_one (by omega) (by omega) (by omega) (by omega)) (by rw [rangeSize_nat]; omega) F4 N4 ⟨_, rfl, rfl, rfl, rfl, by simp, by simpa using hc⟩ ?turn2 ?done2 (fun _ _ => rfl) PassesOwn.never
    case turn2 =>
      rintro j t₂ m₂ news₂ h₂ tk₂ I₂ oI₂ hj ⟨c₂, rfl, hm1', hm2', hm3', hm4', hc₂⟩ hn₂ F₅ N₅
      rw [m_put hm1', m_put hm2', m_put hm3', m_put hm4'] at F₅
      k_steps
      rename _ < (256 : Int) => kHi
      rename (0 : Int) ≤ _ => kLo
      rename Fr _ _ _ _ => F₆
      rename News _ _ _ _ => N₆
      have hR6 : (R, baObj c₂) ∈ [(I₂, oI₂), (I, oI), (R, baObj c₂)] := .tail _ (.tail _ (.head _))
      have hsz : c₂.size = ks.length := by rw [← KBw.ints_length, hc₂]; simp; omega
      refine wpAny_setItem_ba (N₆ _ hR6).1 (by omega) (by rw [hsz]; omega) (by omega) kLo kHi fun h₇ g1 g2 => ?_
      have F₇ := fr_put F₆ N₆ hR6 g2
      have N₇ := news_put N₆ hR6 g1 g2 (news' := [(I₂, oI₂), (I, oI), (R, baObj (c₂.setIfInBounds _ _))]) (by
        intro p hp
        rcases List.mem_cons.mp hp with rfl | hp
        · exact .inr ⟨.head _, fun e => hn₂ (R, baObj c₂) (.tail _ (.head _)) e.symm⟩
        rcases List.mem_cons.mp hp with rfl | hp
        · exact .inr ⟨.tail _ (.head _), fun e => hn₁ (R, baObj c) (.head _) e.symm⟩
        exact .inl (List.mem_singleton.mp hp))
      have hb7 := bInts_set (c := c₂) (k := (0 + (ks.length : Int) - 1 - (0 + (j : Int))).toNat) kLo kHi
      rw [hc₂, show (0 + (ks.length : Int) - 1 - (0 + (j : Int))).toNat = ks.length - 1 - j by omega, show (0 + (0 + (j : Int))).toNat = j by omega, rev_set hj] at hb7
      rw [show (0 + (ks.length : Int) - 1 - (0 + (j : Int))).toNat = ks.length - 1 - j by omega, show (0 + (0 + (j : Int))).toNat = j by omega] at N₇
      clear F₆ N₆ g1
      k_steps
      rename Fr _ _ _ _ => F₈
      rename News _ _ _ _ => N₈
      refine ⟨_, _, _, [(I, oI), _], rfl, F₈, N₈, ?_, _, rfl, rfl, rfl, rfl, rfl, hb7⟩
      intro p hp
      rcases List.mem_cons.mp hp with rfl | hp
      · exact hn₂ (I, oI) (.head _)
      · rw [List.mem_singleton.mp hp]
        exact hn₂ (R, baObj c₂) (.tail _ (.head _))
    case done2 =>
      rintro m₂ news₂ h₂ tk₂ ⟨c₂, rfl, hm1', hm2', hm3', hm4', hc₂⟩ F₅ N₅
      rw [m_put hm1', m_put hm2', m_put hm3', m_put hm4'] at F₅
      k_steps
      rename Fr _ _ _ _ => F₈
      rename News _ _ _ _ => N₈
      refine ⟨_, _, _, [(R, _)], rfl, F₈, N₈, (fun p hp => by rw [List.mem_singleton.mp hp]; exact hn₁ (R, baObj c) (.head _)), _, rfl, rfl, rfl, rfl, ?_⟩
      rw [hc₂]
      simp
  case done =>
    rintro m₁ news₁ h₁ tk₁ ⟨c, rfl, hm1, hm2, hm3, hc⟩ F₂ N₂
    rw [m_put hm1, m_put hm2, m_put hm3] at F₂
    k_steps
    rename Fr _ _ _ _ => F₈
    rename News _ _ _ _ => N₈
    rw [if_neg (by decide)] at hc
    refine call_bytes_ba (N₈ (R, baObj c) (.head _)).1 (by rw [← KBw.ints_length, hc]; simp; omega) fun t k => ?_
    exact ⟨_, _, rfl, F₈.keep, _, _, rfl, hc⟩
end Mine
end
section
open PySem PySem.W PySem.Calls PyProof.Rows
set_option maxRecDepth 100000
namespace Mine

theorem add_cnt {w : World} {K : Type} [DecidableEq K] {knd : HeapKind PySem.Challenge.rw_ia0001_02.row.prog w K} (hroom : ∀ A : Around, A.units ≤ 1050 → knd.room A) (hext : ∀ {h h' : Heap} {k : K} {a : Addr}, knd.is h k a → Ext h h' → knd.is h' k a)
    {A : Around} {env : Env} {outer : List Env} {A₀ : Around} {base h₀ : Heap} {L : Addr} {m : Str → Option Value} {mean : ExcName → Option Value} {mg mb : Str → Option Value} {s : Shared} {Q E : Value → Shared → Prop} {news tl t1 t2 : List (Addr × Obj)}
    {d e : Addr} {od oe : Obj} {kv : List (K × Int)} {k : K}
    (C : CntD knd t1 d od kv) (D : CntD knd t2 e oe [(k, 1)]) (hkv : kv.length ≤ 900) (hd : (d, od) ∈ news) (he : (e, oe) ∈ news) (h1 : ∀ p ∈ t1, p ∈ tl) (h2 : ∀ p ∈ t2, p ∈ tl) (h3 : ∀ p ∈ tl, p ∈ news)
    (F : Fr h₀ L s.heap m) (N : News h₀ L s.heap news) (e1 : A.frames = some (env :: outer)) (e2 : env.frame = some L) (e3 : env.scope.kind = .function) (e4 : A.handled = none) (e5 : A.depth ≤ 400) (e6 : A.units ≤ 1000)
    (B : Below A₀ base outer h₀) (X : (hd02.heap_39 w.params).In h₀) (T : Top hd02.view_39 (looseW hd02.view_39 []) mean mg mb h₀)
    (ret : ∀ r h' tk' o, Fr h₀ L h' m → News h₀ L h' ((r, o) :: news) → LCg.Off1 r news → CntD knd tl r o (addKV kv k) → Q (.ref r) { s with heap := h', toks := tk' }) :
    Hold (wpAny (model PySem.Challenge.rw_ia0001_02.row.prog w) A (call (.ref 21) [.ref d, .ref e]) Q E s) := by
  obtain ⟨a1, es, ep, vs, xs, DO, SI, rfl, ka⟩ := C.mono h1
  obtain ⟨a2, es', ep', us, ys, EO, SJ, hy, kb⟩ := D.mono h2
  obtain ⟨a, rfl⟩ : ∃ a, ys = [(k, a, 1)] := by
    match ys, hy with
    | [y], hy =>
      obtain ⟨y1, y2, y3⟩ := y
      simp only [KV, List.map_cons, List.map_nil, List.cons.injEq, Prod.mk.injEq, and_true] at hy
      exact ⟨y2, by rw [hy.1, hy.2]⟩
    | [], hy => simp [KV] at hy
    | _ :: _ :: _, hy => simp [KV] at hy
  refine con_call (add_con w hroom hext d e od oe es es' ep ep' vs us xs [(k, a, 1)] a1 a2 DO EO SI SJ ?_) F N e1 e2 e3 e4 e5 e6 B X T ⟨(N _ hd).1, (N _ he).1, fun x hx => (ka x hx).here N h3, fun x hx => (kb x hx).here N h3⟩ ?_
  · simp only [KV, List.length_map] at hkv
    simp only [List.length_singleton]
    omega
  · rintro v h' tk' x ⟨r, o, fs, fp, ws, rfl, hr, fr, WO, SW⟩ F' N' grow
    obtain ⟨N₂, off⟩ := grow _ _ fr
    refine ret r h' tk' o F' N₂ off ⟨hr, fs, fp, ws, _, WO, SW, kv_add _ _ _, ?_⟩
    exact same_pair' SW (addI_pair (same_pair SI ka) (same_pair SJ kb))
end Mine
end
section
open PySem PySem.W PySem.Calls PyProof.Rows
set_option maxRecDepth 100000
namespace Mine
def lookKV {K : Type} [DecidableEq K] (kv : List (K × Int)) (k : K) : Int := ((kv.find? fun x => decide (x.1 = k)).map (·.2)).getD 0
theorem look_same {K : Type} [DecidableEq K] {k : K} {t₀ : Tok} : ∀ {vs : List (K × Addr × Value)} {xs : List (K × Addr × Int)}, SameInts vs xs → ∃ t, ((atKey vs k).map (·.2)).getD (.int 0 t₀) = .int (lookKV (KV xs) k) t
  | [], [], _ => ⟨t₀, rfl⟩
  | v :: vs, x :: xs, h => by
    obtain ⟨t, ih⟩ := look_same (k := k) (t₀ := t₀) h.2
    obtain ⟨h1, _, t', h3⟩ := h.1
    by_cases e : x.1 = k
    · exact ⟨t', by simp [atKey, lookKV, KV, h1, e, h3]⟩
    · refine ⟨t, ?_⟩
      simpa [atKey, lookKV, KV, h1, e] using ih
  | [], _ :: _, h => h.elim
  | _ :: _, [], h => h.elim
section
variable {prog : Program} {w : World} {K : Type} [DecidableEq K] {knd : HeapKind prog w K} {A : Around} {E : Value → Shared → Prop} {s : Shared} {env : Env}
def GetFin (knd : HeapKind prog w K) (d : Addr) (Q : Value → Shared → Prop) (key dflt : Value) (s : Shared) : Prop :=
  ∃ a k xs, key = .ref a ∧ knd.is s.heap k a ∧ s.heap.DictOfH knd d xs ∧ Q (((atKey xs k).map (·.2)).getD dflt) { s with toks := s.toks + knd.draws k }
theorem Call_get2_X {o e f : Expr} {apos pos : Pos} {d : Addr} {Q : Value → Shared → Prop} (hu : knd.room A.in1) (hdS : (d == sysModules) = false)
    (h : wpAny (model prog w) A (eval o env) (fun ov s₁ => Hold (ov = .ref d ∧ (∃ es ep, Raw s₁.heap d es ep) ∧ wpAny (model prog w) A (eval e env) (fun key s₂ => wpAny (model prog w) A (eval f env) (fun dflt s₃ => Hold (GetFin knd d Q key dflt s₃)) E s₂) E s₁)) E s)
    (hbase : attributeBase o "get" env (eval o env) = eval o env) (hline : (apos.endLine == pos.line) = true) (htrees : backTo pos (starEach [e, f] env) = [(false, eval e env), (false, eval f env)]) :
    wpAny (model prog w) A (eval (.Call (.Attribute o "get" apos) [e, f] [] pos) env) Q E s := by
  refine wpAny_Call_method (T := "dict") (id := "dict.get") hbase (by rw [htrees]; rfl) hline F.plainAttrs_dict F.slot_dict_get F.type_dict_get (wpAny_mono h (fun ov s₁ h₁ => ?_) fun _ _ e => e)
  obtain ⟨rfl, ⟨es, ep, hm⟩, h₁⟩ := h₁
  refine ⟨hm.typeIs, hm.noDict, ?_⟩
  rw [htrees]
  exact wpAny_dict_get2_heap hu hdS h₁
/-- the count at a key -/
theorem cnt_getfin {h₀ : Heap} {L : Addr} {news tl t1 : List (Addr × Obj)} {d T : Addr} {o : Obj} {kv : List (K × Int)} {k : K} {t₀ : Tok} {Q : Value → Shared → Prop}
    (C : CntD knd t1 d o kv) (N : News h₀ L s.heap news) (hd : (d, o) ∈ news) (h1 : ∀ p ∈ t1, p ∈ news) (hkey : KeyIn knd tl k T) (h2 : ∀ p ∈ tl, p ∈ news)
    (h : ∀ t, Q (.int (lookKV kv k) t) { s with toks := s.toks + knd.draws k }) : GetFin knd d Q (.ref T) (.int 0 t₀) s := by
  obtain ⟨a1, es, ep, vs, xs, DO, SI, rfl, ka⟩ := C
  refine ⟨T, k, vs, rfl, hkey.here N h2, DO.at (N _ hd).1 fun x hx => (ka x hx).here N h1, ?_⟩
  obtain ⟨t, e⟩ := look_same (k := k) (t₀ := t₀) SI
  rw [e]
  exact h t
theorem cnt_raw {h₀ : Heap} {L : Addr} {news t1 : List (Addr × Obj)} {d : Addr} {o : Obj} {kv : List (K × Int)} (C : CntD knd t1 d o kv) (N : News h₀ L s.heap news) (hd : (d, o) ∈ news) : ∃ es ep, Raw s.heap d es ep := by
  obtain ⟨a1, es, ep, vs, xs, DO, SI, rfl, ka⟩ := C
  exact ⟨es, ep, DO.raw (N _ hd).1⟩
theorem cnt_sys {t1 : List (Addr × Obj)} {d : Addr} {o : Obj} {kv : List (K × Int)} (C : CntD knd t1 d o kv) : (d == sysModules) = false := C.1
end
end Mine
end
section
open PySem PySem.W PySem.Calls PyProof.Rows
set_option maxRecDepth 100000
namespace Mine
theorem cut_at : ∀ (us : List Value) (k : Nat) (y : Value), us[k]? = some y → kl_cut us k = some (us.take k, y, us.drop (k + 1))
  | [], _, _, h => by simp at h
  | x :: r, 0, y, h => by simp at h; subst h; rfl
  | x :: r, k + 1, y, h => by
    have := cut_at r k y (by simpa using h)
    simp [kl_cut, this]
theorem ints_erase {us : List Value} {l : List Int} (h : IntsAre us l) (k : Nat) : IntsAre (us.eraseIdx k) (l.eraseIdx k) := by
  rw [List.eraseIdx_eq_take_drop_succ, List.eraseIdx_eq_take_drop_succ]
  exact (h.take k).append (h.drop (k + 1))
section
variable {prog : Program} {w : World} {A : Around} {E : Value → Shared → Prop} {s : Shared} {h₀ : Heap} {L D : Addr} {m : Str → Option Value} {news news' : List (Addr × Obj)} {n : Nat}
theorem popAt_ints {us : List Value} {l : List Int} {i : Int} {u : Tok} {Q : Value → Shared → Prop} (F : Fr h₀ L s.heap m) (N : News h₀ L s.heap news) (hi : IntsAre us l) (h0 : 0 ≤ i) (h1 : i < us.length) (hz : us.length ≤ 1000)
    (U : Upd D (listOf us.toArray n) (listOf (us.eraseIdx i.toNat).toArray (n + 1)) news news')
    (h : ∀ h' t, Fr h₀ L h' m → News h₀ L h' news' → IntsAre (us.eraseIdx i.toNat) (l.eraseIdx i.toNat) → Q (.int (l.getD i.toNat 0) t) { s with heap := h' }) :
    wpAny (model prog w) A (call (.builtin "list.pop") [.ref D, .int i u]) Q E s := by
  have hlt : i.toNat < us.length := by omega
  have hg : us[i.toNat]? = some us[i.toNat] := List.getElem?_eq_getElem hlt
  obtain ⟨k, t, e1, e2⟩ := hi.at _ _ hg
  have e3 : l.getD i.toNat 0 = k := by rw [List.getD_eq_getElem?_getD, e2]; rfl
  have e4 : us.eraseIdx i.toNat = us.take i.toNat ++ us.drop (i.toNat + 1) := List.eraseIdx_eq_take_drop_succ _ _
  rw [e4] at U
  refine kl_popAt F N ?_ ?_ (cut_at us i.toNat _ hg) U (by show us.length ≤ sizeLine; rw [sizeLine_eq]; omega) fun h' F' N' => ?_
  · unfold Builtin.List.listFitsIndex
    simp
    omega
  · unfold seqIndex?
    have : ¬ i < 0 := by omega
    simp [this]
    omega
  · rw [e1, ← e3]
    exact h h' t F' N' (ints_erase hi _)
end
end Mine
end
section
open PySem PySem.W PySem.Calls PyProof.Rows
set_option maxRecDepth 100000
namespace Mine
/-- a comprehension's source that is bytes -/
def SrcB (prog : Program) (w : World) (A : Around) (h₀ : Heap) (L : Addr) (m : Str → Option Value) (env : Env) (elt : Expr) (x : Str) (scope : Scope) (cl : List (Str × Addr)) (Fin : Shared → List Value → List (Addr × Obj) → Prop) (xv : Value) (s₁ : Shared) : Prop :=
  ∃ b t news, xv = .bytes b t ∧ A.handled = none ∧ Fr h₀ L s₁.heap m ∧ News h₀ L s₁.heap news ∧ b.size ≤ sizeLine ∧
    ∀ s₂ : Shared, (∃ h, s₂ = { s₁ with heap := h }) → LCg.CompRest prog w A h₀ L m env elt x scope cl s₂ (fun _ => True) (fun i v => ∃ k u, (KBw.bInts b)[i]? = some k ∧ v = .int k u) (Fin s₂) b.size 0 [] news
theorem SrcB.intro {prog : Program} {w : World} {A : Around} {h₀ : Heap} {L : Addr} {m : Str → Option Value} {env : Env} {elt : Expr} {x : Str} {scope : Scope} {cl : List (Str × Addr)} {Fin : Shared → List Value → List (Addr × Obj) → Prop} {b : Array UInt8} {t : Tok} {ks : List Int} {news : List (Addr × Obj)} {s₁ : Shared}
    (hh : A.handled = none) (F : Fr h₀ L s₁.heap m) (N : News h₀ L s₁.heap news) (hk : KBw.bInts b = ks) (hsz : ks.length ≤ 1000)
    (h : ∀ g, LCg.CompRest prog w A h₀ L m env elt x scope cl { s₁ with heap := g } (fun _ => True) (fun i v => ∃ k u, ks[i]? = some k ∧ v = .int k u) (Fin { s₁ with heap := g }) ks.length 0 [] news) :
    SrcB prog w A h₀ L m env elt x scope cl Fin (.bytes b t) s₁ := by
  subst hk
  refine ⟨b, t, news, rfl, hh, F, N, ?_, ?_⟩
  · rw [sizeLine_eq, ← KBw.ints_length]; omega
  · rintro s₂ ⟨g, rfl⟩
    rw [← KBw.ints_length]
    exact h g
section
variable {prog : Program} {w : World} {A : Around} {E : Value → Shared → Prop} {s : Shared} {h₀ : Heap} {L : Addr} {m : Str → Option Value} {env : Env}
theorem srcB_run {elt iter : Expr} {x : Str} {px : Pos} {scope : Scope} {cl : List (Str × Addr)} {pos : Pos} {Q : Value → Shared → Prop} {xv : Value} {E' : Value → Shared → Prop}
    (hcell : ∀ y ∈ scope.names, y.2 ≠ .cell) (hkind : scope.kind = .function) (hx : scope.names.lookup x = some .local)
    (h : SrcB prog w A h₀ L m env elt x scope cl (fun s₂ => LCg.FinE h₀ L m s₂ Q) xv s) :
    wpAny (model prog w) A (pyIter xv) (fun it s₂ => wpAny (model prog w) A (newList []) (fun acc s₃ =>
      wpAny (model prog w) A (newFunctionEnv scope env.globals cl [] env.qual none .none (some env)) (fun cenv s₄ =>
        codeAny (model prog w) A (.compStart (.ListComp elt [⟨.Name x px, iter, [], 0⟩] scope pos) 0 it acc { cenv with scope := relabel scope env }) (compPost (model prog w) A E none Q acc cenv.locals) s₄) E' s₃) E' s₂) E' s := by
  obtain ⟨b, t, news, rfl, hh, F, N, hsz, R⟩ := h
  refine KBw.pyIter_bytes ?_
  have W0 := KBw.walks (prog := prog) (w := w) hh s.heap.objs.size b t
  have W : Walks prog w A s.heap.objs.size [s.heap.objs.size] [s.heap.objs.size] b.size (fun i v => ∃ k u, (KBw.bInts b)[i]? = some k ∧ v = .int k u) (fun i h => KBw.IsBytesIter h s.heap.objs.size b t i) :=
    { sub := W0.sub, frame := W0.frame, done := W0.done, self := W0.self,
      item := fun i s Q E hi st hQ => W0.item i s Q E hi st fun v h' tk hP => hQ v h' tk (by obtain ⟨c, u, hc, rfl⟩ := hP; exact ⟨_, u, KBw.ints_get hc, rfl⟩) }
  refine LCg.block_U W hsz (fun i h st => ⟨_, st.choose_spec.1⟩) (fun i h h' o nw st e e' _ _ _ => ?_) hcell hkind hx ⟨_, Heap.get?_push_size _ rfl, rfl, rfl⟩ (fun b' hb => ?_)
    (F.keeps fun _ _ e => Heap.get?_push_of_some _ e) (N.grown fun _ _ e => Heap.get?_push_of_some _ e) (Nat.ne_of_lt F.ns.lt) (next_is_new F) (fun p hp => Nat.ne_of_lt (Heap.lt_size (N p hp).1)) trivial (R _ ⟨_, rfl⟩) ?_
  · obtain ⟨o', q, r⟩ := st
    rw [e] at q
    cases q
    exact ⟨o, e', r⟩
  · rw [List.mem_singleton.mp hb]
    show s.heap.objs.size < (s.heap.push _).objs.size
    rw [Heap.size_push]; exact Nat.lt_succ_self _
  · intro D C h tk m' ys news' F' N' o1 hn hC₀ hD₀ hCL hDL hCD offC fin
    refine ⟨m', hn, fun h'' hs'' => fin D h'' tk (F'.change hs'' hCL hC₀) (fun p hp => ?_) o1⟩
    refine ⟨hs''.extBut _ _ ?_ (N' p hp).1, (N' p hp).2⟩
    rcases List.mem_cons.mp hp with rfl | hp
    · exact Ne.symm hCD
    · exact offC p hp
theorem ListComp_B {elt iter : Expr} {x : Str} {px : Pos} {scope : Scope} {cl : List (Str × Addr)} {pos : Pos} {Q : Value → Shared → Prop} (_F₀ : Fr h₀ L s.heap m)
    (hclos : closureFor scope env = pure cl) (hcell : ∀ y ∈ scope.names, y.2 ≠ .cell) (hkind : scope.kind = .function)
    (hnames : ∀ y ∈ scope.names, y.2 = .local → scope.names.lookup y.1 = some .local) (hx : scope.names.lookup x = some .local)
    (h : wpAny (model prog w) A (eval iter env) (fun xv s₁ => Hold (SrcB prog w A h₀ L m env elt x scope cl (fun s₂ => LCg.FinE h₀ L m s₂ Q) xv s₁)) E s)
    (hs : ∀ x, foldedSetIterable iter env x = pure x := by intro _; rfl) :
    wpAny (model prog w) A (eval (.ListComp elt [⟨.Name x px, iter, [], 0⟩] scope pos) env) Q E s := by
  rw [eval_ListComp]
  exact wpAny_comprehension_free (use := none) rfl hs hclos hkind hnames (wpAny_mono h (fun xv s₁ h₁ => srcB_run hcell hkind hx h₁) fun _ _ e => e)
theorem comprehension_first {e : Expr} {scope : Scope} {pos : Pos} {newAcc first : Sem Value} {use : Option (Value → Sem Unit)} :
    comprehension e scope env pos newAcc false first use = (first >>= fun x => comprehension e scope env pos newAcc false (pure x) use) := by
  unfold comprehension
  simp only [pure_bind]
theorem ListComp_BN {elt iter : Expr} {x : Str} {px : Pos} {scope : Scope} {cl : List (Str × Addr)} {pos : Pos} {Q : Value → Shared → Prop} (_F₀ : Fr h₀ L s.heap m)
    (hclos : closureFor scope env = pure cl) (hcell : ∀ y ∈ scope.names, y.2 ≠ .cell) (hkind : scope.kind = .function)
    (hnames : ∀ y ∈ scope.names, y.2 = .local → scope.names.lookup y.1 = some .local) (hx : scope.names.lookup x = some .local)
    (h : wpN (model prog w) A (eval iter env) (fun xv s₁ => Hold (SrcB prog w A h₀ L m env elt x scope cl (fun s₂ => LCg.FinE h₀ L m s₂ Q) xv s₁)) E s)
    (hs : ∀ x, foldedSetIterable iter env x = pure x := by intro _; rfl) :
    wpN (model prog w) A (eval (.ListComp elt [⟨.Name x px, iter, [], 0⟩] scope pos) env) Q E s := by
  rw [eval_ListComp]
  show wpN _ _ (comprehension (.ListComp elt [⟨.Name x px, iter, [], 0⟩] scope pos) scope env (firstIterPos [⟨.Name x px, iter, [], 0⟩] pos) (newList []) false (eval iter env)) _ _ _
  rw [comprehension_first]
  refine wpN_bindE (wpN_mono h (fun xv s₁ h₁ => ?_) fun _ _ e => e)
  exact wpAny_comprehension_free (use := none) rfl hs hclos hkind hnames (wpAny_pure (srcB_run hcell hkind hx h₁))
end
end Mine
end
section
open PySem PySem.W PySem.Calls PyProof.Rows
set_option maxRecDepth 100000
namespace Mine
/-- drawn of what was left, all below c -/
def DrawnC (c i : Nat) (ds ls : List Int) : Prop := ds.length = i ∧ i + ls.length = c ∧ (ds ++ ls).Nodup ∧ ∀ x ∈ ds ++ ls, 0 ≤ x ∧ x < (c : Int)
theorem drawnC_start {c : Nat} (h : c ≤ 4) : DrawnC c 0 [] (rangeKs 0 c) := by
  have : c = 0 ∨ c = 1 ∨ c = 2 ∨ c = 3 ∨ c = 4 := by omega
  unfold DrawnC
  rcases this with rfl | rfl | rfl | rfl | rfl <;> decide +kernel
theorem drawnC_next {c i q : Nat} {ds ls : List Int} (h : DrawnC c i ds ls) (hq : q < ls.length) : DrawnC c (i + 1) (ds ++ [ls.getD q 0]) (ls.eraseIdx q) := by
  obtain ⟨h1, h2, h3, h4⟩ := h
  have e : ls.getD q 0 = ls[q] := by rw [List.getD_eq_getElem?_getD, List.getElem?_eq_getElem hq]; rfl
  have e5 : ls = ls.take q ++ ls[q] :: ls.drop (q + 1) := by rw [List.getElem_cons_drop, List.take_append_drop]
  have hp : (ds ++ [ls.getD q 0] ++ ls.eraseIdx q).Perm (ds ++ ls) := by
    rw [List.append_assoc, e, List.eraseIdx_eq_take_drop_succ]
    conv => rhs; rw [e5]
    exact (List.perm_middle.symm : (ls[q] :: (ls.take q ++ ls.drop (q + 1))).Perm _).append_left ds
  refine ⟨by simp [h1], ?_, hp.nodup_iff.mpr h3, fun x hx => h4 x (hp.mem_iff.mp hx)⟩
  rw [List.length_eraseIdx, if_pos hq]
  omega
def JC (S : Addr) (oS : Obj) (Dd Dl : Addr) (c : Nat) (i : Nat) (m : Str → Option Value) (news : List (Addr × Obj)) : Prop :=
  m (Str.ofString "left") = some (.ref Dl) ∧ m (Str.ofString "found") = some (.ref Dd) ∧ ∃ (dvs lvs : List Value) (k1 k2 : Nat) (ds ls : List Int),
    news = [(S, oS), (Dd, listOf dvs.toArray k1), (Dl, listOf lvs.toArray k2)] ∧ IntsAre dvs ds ∧ IntsAre lvs ls ∧ DrawnC c i ds ls
/-- orders in full -/
def Full (c : Nat) (ds : List Int) : Prop := ds.length = c ∧ ds.Nodup ∧ ∀ x ∈ ds, 0 ≤ x ∧ x < (c : Int)
theorem DrawnC.full {c : Nat} {ds ls : List Int} (h : DrawnC c c ds ls) : Full c ds := by
  obtain ⟨h1, h2, h3, h4⟩ := h
  have : ls = [] := List.eq_nil_of_length_eq_zero (by omega)
  subst this
  rw [List.append_nil] at h3 h4
  exact ⟨h1, h3, h4⟩
end Mine
end
section
open PySem PySem.W PySem.Calls PyProof.Rows
set_option maxRecDepth 100000
namespace Mine
def whileF (ks : List Int) : Nat → List Int → Int → Int → List Int × Int × Int
  | 0, seen, here, long => (seen, here, long)
  | f + 1, seen, here, long => if seen.any (· == here) = true then (seen, here, long) else whileF ks f (seen ++ [here]) (ks.getD here.toNat 0) (long + 1)
def turnK (ks seen : List Int) (i : Nat) : List Int × Int × Int := whileF ks 5 seen i 0
def stepK (ks : List Int) (σ : List Int × List Int) (i : Nat) : List Int × List Int :=
  ((turnK ks σ.1 i).1, σ.2 ++ (if 0 < (turnK ks σ.1 i).2.2 then [(turnK ks σ.1 i).2.2] else []))
def runK (ks : List Int) (i : Nat) : List Int × List Int := (List.range i).foldl (stepK ks) ([], [])
/-- every ring is gone round -/
def ringsOk (ks : List Int) : Prop := (∀ k ∈ ks, 0 ≤ k ∧ k < (ks.length : Int)) ∧ ∀ i < ks.length, (turnK ks (runK ks i).1 i).1.any (· == (turnK ks (runK ks i).1 i).2.1) = true
theorem runK_succ (ks : List Int) (i : Nat) : runK ks (i + 1) = stepK ks (runK ks i) i := by
  unfold runK
  rw [List.range_succ, List.foldl_append]
  rfl
theorem whileF_done {ks seen : List Int} {here long : Int} (h : seen.any (· == here) = true) : ∀ f, whileF ks f seen here long = (seen, here, long)
  | 0 => rfl
  | f + 1 => by rw [whileF, if_pos h]
def insK (x : Int) : List Int → List Int
  | [] => [x]
  | y :: r => if x ≤ y then x :: y :: r else y :: insK x r
def sortK : List Int → List Int
  | [] => []
  | x :: r => insK x (sortK r)
theorem insK_perm (x : Int) : ∀ l, (insK x l).Perm (x :: l)
  | [] => .refl _
  | y :: r => by
    unfold insK
    split
    · exact .refl _
    · exact ((insK_perm x r).cons y).trans (.swap x y r)
theorem sortK_perm : ∀ l, (sortK l).Perm l
  | [] => .refl _
  | x :: r => (insK_perm x (sortK r)).trans ((sortK_perm r).cons x)
theorem insK_sorted (x : Int) : ∀ {l : List Int}, l.Pairwise (· ≤ ·) → (insK x l).Pairwise (· ≤ ·)
  | [], _ => by simp [insK]
  | y :: r, h => by
    unfold insK
    rw [List.pairwise_cons] at h
    split
    · refine List.pairwise_cons.mpr ⟨fun z hz => ?_, List.pairwise_cons.mpr h⟩
      rcases List.mem_cons.mp hz with rfl | hz
      · assumption
      · have := h.1 z hz; omega
    · refine List.pairwise_cons.mpr ⟨fun z hz => ?_, insK_sorted x h.2⟩
      rcases List.mem_cons.mp ((insK_perm x r).mem_iff.mp hz) with rfl | hz
      · omega
      · exact h.1 z hz
theorem sortK_sorted : ∀ l, (sortK l).Pairwise (· ≤ ·)
  | [] => .nil
  | x :: r => insK_sorted x (sortK_sorted r)
def kindF (ks : List Int) : List Int := sortK (runK ks ks.length).2
theorem kindF_eq {ks n : List Int} (hp : n.Perm (runK ks ks.length).2) (hs : n.Pairwise (· ≤ ·)) : n = kindF ks :=
  List.Perm.eq_of_pairwise (fun a b _ _ h1 h2 => Int.le_antisymm h1 h2) hs (sortK_sorted _) (hp.trans (sortK_perm _).symm)
abbrev tupO (vs : List Value) : Obj := { cls := .type "tuple", data := .seq vs.toArray }
abbrev KindPost (ks : List Int) (h h' : Heap) (v : Value) : Prop := ∃ r vs, v = .ref r ∧ Fresh h h' r (tupO vs) ∧ IntsAre vs (kindF ks)
end Mine
end
section
open PySem PySem.W PySem.Calls PyProof.Rows PySem.SeqAt
set_option maxRecDepth 100000
namespace Mine
theorem bInts_inj' {a b : Array UInt8} (h : KBw.bInts a = KBw.bInts b) : a = b := by
  unfold KBw.bInts at h
  apply Array.toList_inj.mp
  refine List.map_inj_right (f := fun (u : UInt8) => ((u.toNat : Nat) : Int)) ?_ |>.mp h
  intro x y e
  exact UInt8.toNat_inj.mp (Int.ofNat.inj e)
theorem bytes_eq {b c : Array UInt8} {ks ls : List Int} (h1 : KBw.bInts b = ks) (h2 : KBw.bInts c = ls) : decide (b.toList = c.toList) = decide (ks = ls) := by
  refine decide_eq_decide.mpr ⟨fun e => ?_, fun e => ?_⟩
  · rw [← h1, ← h2, Array.toList_inj.mp e]
  · rw [bInts_inj' (h1.trans (e.trans h2.symm))]
theorem bytes_beq {b c : Array UInt8} {ks ls : List Int} (h1 : KBw.bInts b = ks) (h2 : KBw.bInts c = ls) : (b.toList == c.toList) = decide (ks = ls) := by
  rw [← bytes_eq h1 h2]
  cases h : decide (b.toList = c.toList) with
  | true => exact beq_iff_eq.mpr (of_decide_eq_true h)
  | false => exact beq_eq_false_iff_ne.mpr (of_decide_eq_false h)
def isBytesOf (ks : List Int) : Value → Bool
  | .bytes b _ => decide (KBw.bInts b = ks)
  | _ => false
theorem any_bytes (k : List Int) : ∀ {vs : List Value} {ls : List (List Int)}, BytesAre vs ls → vs.any (isBytesOf k) = ls.any (fun x => decide (x = k))
  | [], [], _ => rfl
  | v :: vs, l :: ls, h => by
    obtain ⟨b, t, rfl, hb⟩ := h.1
    rw [List.any_cons, List.any_cons, any_bytes k h.2]
    simp [isBytesOf, hb]
  | [], _ :: _, h => h.elim
  | _ :: _, [], h => h.elim
theorem eq_bytesOf {b : Array UInt8} {t : Tok} {k : List Int} (hb : KBw.bInts b = k) : ∀ {vs : List Value} {ls : List (List Int)}, BytesAre vs ls → ∀ y, y ∈ vs → MeetsSeq.EqGives y (.bytes b t) (isBytesOf k y)
  | v :: vs, l :: ls, h, y, hy => by
    rcases List.mem_cons.mp hy with rfl | hy
    · obtain ⟨c, u, rfl, hc⟩ := h.1
      intro prog w A E s Q hq
      refine eqBool_bytes ?_
      rw [bytes_eq rfl hb]
      exact hq
    · exact eq_bytesOf hb h.2 y hy
  | [], [], _, _, hy => nomatch hy
  | [], _ :: _, h, _, _ => h.elim
  | _ :: _, [], h, _, _ => h.elim
section
variable {prog : Program} {w : World} {A : Around} {E : Value → Shared → Prop} {s : Shared}
theorem notin_bytes {l : Addr} {vs : List Value} {ls : List (List Int)} {b : Array UInt8} {t : Tok} {k : List Int} {Q : Value → Shared → Prop} (hl : s.heap.IsList l vs.toArray) (hi : BytesAre vs ls) (hb : KBw.bInts b = k)
    (h : Q (.bool (!(ls.any fun x => decide (x = k)))) s) : wpAny (model prog w) A (compareOp .NotIn (.bytes b t) (.ref l)) Q E s :=
  SeqInW.notIn_listW (isBytesOf k) (fun y hy => eq_bytesOf hb hi y (by simpa using hy)) hl (by rw [← Array.any_toList, show vs.toArray.toList = vs from rfl, any_bytes k hi]; exact h)
theorem ne_nil {l b : Addr} {vs : List Value} {Q : Value → Shared → Prop} (hl : s.heap.IsList l vs.toArray) (hb : s.heap.IsList b #[]) (hu : A.units < cLine) (h : Q (.bool (!vs.isEmpty)) s) : wpAny (model prog w) A (compareOp .NotEq (.ref l) (.ref b)) Q E s := by
  cases vs with
  | nil => exact RcNeAt.lists (e := fun _ => true) hl hb rfl hu (fun j h1 => absurd h1 (Nat.not_lt_zero _)) prog w E Q h
  | cons v vs => exact RcNeAt.lists_lengths hl hb (by simp) hu prog w E Q h
theorem eq_nil {l b : Addr} {vs : List Value} {Q : Value → Shared → Prop} (hl : s.heap.IsList l vs.toArray) (hb : s.heap.IsList b #[]) (hu : A.units < cLine) (h : Q (.bool vs.isEmpty) s) : wpAny (model prog w) A (compareOp .Eq (.ref l) (.ref b)) Q E s := by
  cases vs with
  | nil => exact RcAt.lists (e := fun _ => true) hl hb rfl hu (fun j h1 => absurd h1 (Nat.not_lt_zero _)) prog w E Q h
  | cons v vs => exact RcAt.lists_lengths hl hb (by simp) hu prog w E Q h
theorem all_ints {ks ls : List Int} : ((List.range (min ks.length ls.length)).all (fun j => decide (ks.getD j 0 = ls.getD j 0)) && ks.length == ls.length) = decide (ks = ls) := by
  by_cases e : ks = ls
  · subst e; simp
  · rw [decide_eq_false e]
    rw [Bool.and_eq_false_iff]
    by_cases hl : ks.length = ls.length
    · refine .inl ?_
      rw [Bool.eq_false_iff]
      intro ha
      refine e (List.ext_getElem hl fun j h1 h2 => ?_)
      have := of_decide_eq_true (List.all_eq_true.mp ha j (List.mem_range.mpr (by omega)))
      rw [List.getD_eq_getElem?_getD, List.getD_eq_getElem?_getD, List.getElem?_eq_getElem h1, List.getElem?_eq_getElem h2] at this
      exact this
    · exact .inr (beq_eq_false_iff_ne.mpr hl)
theorem ints_at {A : Around} {s : Shared} {vs us : List Value} {ks ls : List Int} (hv : IntsAre vs ks) (hu : IntsAre us ls) : ∀ j (h1 : j < vs.toArray.size) (h2 : j < us.toArray.size), EqAt A s vs.toArray[j] us.toArray[j] (decide (ks.getD j 0 = ls.getD j 0)) := by
  intro j h1 h2 prog w E Q h
  obtain ⟨t, e1⟩ := hv.int_at j _ (List.getElem?_eq_getElem (by simpa using h1))
  obtain ⟨u, e2⟩ := hu.int_at j _ (List.getElem?_eq_getElem (by simpa using h2))
  rw [List.getElem_toArray, List.getElem_toArray, e1, e2]
  exact wpAny_eqBool_int h
theorem eq_tup {a b : Addr} {vs us : List Value} {ks ls : List Int} {Q : Value → Shared → Prop} (ha : s.heap.IsTuple a vs.toArray) (hb : s.heap.IsTuple b us.toArray) (hv : IntsAre vs ks) (hu : IntsAre us ls) (hc : A.units < cLine)
    (h : Q (.bool (decide (ks = ls))) s) : wpAny (model prog w) A (compareOp .Eq (.ref a) (.ref b)) Q E s := by
  refine RcAt.tuples ha hb hc (ints_at hv hu) prog w E Q ?_
  rw [List.size_toArray, List.size_toArray, hv.length, hu.length, all_ints]
  exact h
theorem ne_tup {a b : Addr} {vs us : List Value} {ks ls : List Int} {Q : Value → Shared → Prop} (ha : s.heap.IsTuple a vs.toArray) (hb : s.heap.IsTuple b us.toArray) (hv : IntsAre vs ks) (hu : IntsAre us ls) (hc : A.units < cLine)
    (h : Q (.bool (!decide (ks = ls))) s) : wpAny (model prog w) A (compareOp .NotEq (.ref a) (.ref b)) Q E s := by
  refine RcNeAt.tuples ha hb hc (ints_at hv hu) prog w E Q ?_
  rw [List.size_toArray, List.size_toArray, hv.length, hu.length, all_ints]
  exact h
theorem len_vals {l : Addr} {vs : List Value} {n : Nat} {Q : Value → Shared → Prop} (hl : s.heap.IsList l vs.toArray) (hn : vs.length = n) (hfit : n ≤ 1000)
    (h : Q (.int n (s.toks + 1)) { s with toks := s.toks + 1 + 1 }) : wpAny (model prog w) A (call (.builtin "len") [.ref l]) Q E s := by
  subst hn
  refine call_len_list hl (by rw [List.size_toArray]; omega) ?_
  rw [List.size_toArray]
  exact h
theorem tup_of {h : Heap} {r : Addr} {vs : List Value} (e : h.get? r = some (tupO vs)) : h.IsTuple r vs.toArray := ⟨_, e, rfl, _, rfl⟩
theorem len_raw {d : Addr} {es : Array DictEntry} {ep : Nat} {Q : Value → Shared → Prop} (hd : (d == sysModules) = false) (hm : Raw s.heap d es ep) (hfit : (es.size : Int) < 2 ^ 63)
    (h : ∀ t, Q (.int es.size t) { s with toks := s.toks + 1 + 1 }) : wpAny (model prog w) A (call (.builtin "len") [.ref d]) Q E s := by
  have meets : MeetsIn prog w (Builtin.«dict.__len__» ⟨[.ref d], []⟩) (fun _ R s => (∃ es ep, Raw s.heap d es ep ∧ R (.ok (.ret (.int es.size s.toks))) { s with toks := s.toks + 1 })) := .of_wp fun A R s ⟨es, ep, hm, h⟩ => by
    obtain ⟨o, ho, hc, hdat⟩ := hm
    show wpAny _ _ (dictSize d >>= _) _ _ s
    unfold dictSize
    refine wpAny_bind (wpAny_bind (wpAny_dictEntries ho hdat (wpAny_pure ?_)))
    show wpAny _ _ (Builtin.Dict.pendingCount d >>= _) _ _ s
    refine wpAny_bind (wpAny_pendingCount_other hd ?_)
    refine wpAny_ret_mkInt ?_
    rw [Nat.add_zero]; exact h
  refine Calls.call_function_entry kind_len plain_len entry_len (args_len1 _) ?_
  unfold Builtin.«len»
  refine wpAny_bind (m := oneArg "len" _) (wpAny_pure ?_)
  refine wpAny_bind (m := callSpecial? (.ref d) (Str.ofString "__len__")) (wpAny_callSpecial?_slot (name := Str.ofString "__len__") hm.typeIs F.slot_dict_len
    (call_meetsIn F.slot_dict_len hm.typeIs F.entry_dict_len (F.args_dict_len_1 _) meets ⟨es, ep, hm, ?_⟩))
  show wpAny _ _ _ _ _ { s with toks := s.toks + 1 }
  refine wpAny_bind (wpAny_holding (wpAny_pure ?_))
  refine wpAny_bind (wpAny_letGo ?_)
  show wpAny _ _ (if ((es.size : Nat) : Int) < 0 then _ else _) _ _ _
  rw [if_neg (by omega)]
  show wpAny _ _ (if ((es.size : Nat) : Int) ≥ 2 ^ 63 then _ else _) _ _ _
  rw [if_neg (by omega)]
  exact wpAny_bind (wpAny_mkInt (wpAny_pure ⟨_, rfl, h _⟩))
end
section
variable {prog : Program} {w : World} {K : Type} [DecidableEq K] {knd : HeapKind prog w K} {A : Around} {E : Value → Shared → Prop} {s : Shared} {env : Env}
theorem cnt_len {h₀ : Heap} {L : Addr} {news t1 : List (Addr × Obj)} {d : Addr} {o : Obj} {kv : List (K × Int)} {Q : Value → Shared → Prop} (C : CntD knd t1 d o kv) (N : News h₀ L s.heap news) (hd : (d, o) ∈ news) (hsz : kv.length ≤ 1000)
    (h : ∀ t, Q (.int kv.length t) { s with toks := s.toks + 1 + 1 }) : wpAny (model prog w) A (call (.builtin "len") [.ref d]) Q E s := by
  obtain ⟨a1, es, ep, vs, xs, DO, SI, rfl, ka⟩ := C
  have e : es.size = (KV xs).length := by rw [DO.size, SI.length]; simp [KV]
  refine len_raw a1 (DO.raw (N _ hd).1) (by omega) fun t => ?_
  rw [e]
  exact h t
theorem wpAny_dictSetDefault_heap {d a : Addr} {xs : List (K × Addr × Value)} {k : K} {v : Value} {Q : Value → Shared → Prop} (hu : knd.room A) (hkey : knd.is s.heap k a) (hm : s.heap.DictOfH knd d xs)
    (hthere : ∀ p, atKey xs k = some p → Q p.2 { s with toks := s.toks + knd.draws k })
    (hnew : atKey xs k = none → ∀ h', h'.DictOfH knd d (xs ++ [(k, a, v)]) → Heap.SameBut d s.heap h' → Q v { s with heap := h', toks := s.toks + knd.draws k })
    (hsz : xs.length ≤ sizeLine) :
    wpAny (model prog w) A (dictSetDefault d (.ref a) v) Q E s := by
  obtain ⟨o, es, ep, ho, hc, hd, he, his, hn⟩ := hm
  unfold dictSetDefault
  try with_reducible refine wpAny_holding ?_
  refine wpAny_bind (knd.pyHash hu hkey ?_)
  refine wpAny_bind (wpAny_dictFind_heap (s := { s with toks := s.toks + knd.draws k }) hu hkey ho hd he his hn ?_ ?_)
  · intro hno
    have hnot : k ∉ xs.map (·.1) := not_mem_keys_of_get hno
    refine wpAny_bind (wpAny_rule (wpAny_bind (wpAny_updateDictKeys (hz := by have e := size_of_entries he; omega) (s := { s with toks := s.toks + knd.draws k }) ho hd (wpAny_pure (hnew (atKey_none_of_get hno) _ ⟨_, _, ep + 1, Heap.get?_update_self _ ho (Obj.isFreed_of_dict (Obj.data_mapDictKeys hd _)),
      hc.mapDictKeys _, Obj.data_mapDictKeys hd _, ?_, ?_, ?_⟩ (Heap.SameBut.update ..))))))
    · simp [he, entryOfKey]
    · intro x hx
      rcases List.mem_append.mp hx with hx | hx
      · exact knd.keeps (his x hx) ho hd (Heap.SameBut.update ..)
      · simp only [List.mem_singleton] at hx
        subst hx
        exact knd.keeps hkey ho hd (Heap.SameBut.update ..)
    · rw [List.map_append, List.nodup_append]
      refine ⟨hn, by simp, ?_⟩
      intro x hx y hy
      simp only [List.map_cons, List.map_nil, List.mem_singleton] at hy
      subst hy
      exact fun e => hnot (e ▸ hx)
  · intro j p hj
    refine wpAny_bind (wpAny_dictEntries (s := { s with toks := s.toks + knd.draws k }) ho hd ?_)
    rw [entry_at he j, hj]
    exact wpAny_bind (wpAny_rule (wpAny_pure (hthere p (atKey_of_get hn hj))))
def SetFin (knd : HeapKind prog w K) (d : Addr) (Q : Value → Shared → Prop) (key dflt : Value) (s : Shared) : Prop :=
  ∃ a k xs, key = .ref a ∧ knd.is s.heap k a ∧ s.heap.DictOfH knd d xs ∧ xs.length ≤ sizeLine ∧ (∀ p, atKey xs k = some p → Q p.2 { s with toks := s.toks + knd.draws k }) ∧
    (atKey xs k = none → ∀ h', h'.DictOfH knd d (xs ++ [(k, a, dflt)]) → Heap.SameBut d s.heap h' → Q dflt { s with heap := h', toks := s.toks + knd.draws k })
theorem meetsH_setdefault (d a : Addr) (hd : (d == sysModules) = false) (dflt : Value) :
    MeetsIn prog w (Builtin.«dict.setdefault» ⟨[.ref d, .ref a, dflt], []⟩) (fun A R s => knd.room A.in1 ∧ SetFin knd d (fun v s => R (.ok (.ret v)) s) (.ref a) dflt s) :=
  .of_wp fun A R s ⟨hu, a', k, xs, e, hkey, hm, hsz, h1, h2⟩ => by
    cases e
    unfold Builtin.«dict.setdefault»
    refine wpAny_bind ?_
    unfold Builtin.Dict.keyAndDefault
    refine wpAny_bind (wpAny_notOrdered_dict hm.typeIs ?_)
    show wpAny _ _ (pure (d, Value.ref a, some dflt)) _ _ s
    refine wpAny_pure ?_
    show wpAny _ _ (if (d == sysModules) = true then _ else (dictSetDefault d (.ref a) dflt >>= _)) _ _ s
    rw [if_neg (by rw [hd]; exact Bool.false_ne_true)]
    exact wpAny_bind (wpAny_dictSetDefault_heap hu hkey hm (fun p hp => wpAny_pure ⟨p.2, rfl, h1 p hp⟩) (fun hn h' hm' hs' => wpAny_pure ⟨dflt, rfl, h2 hn h' hm' hs'⟩) hsz)
theorem Call_setdefault_X {o e f : Expr} {apos pos : Pos} {d : Addr} {Q : Value → Shared → Prop} (hu : knd.room A.in1) (hdS : (d == sysModules) = false)
    (h : wpAny (model prog w) A (eval o env) (fun ov s₁ => Hold (ov = .ref d ∧ (∃ es ep, Raw s₁.heap d es ep) ∧ wpAny (model prog w) A (eval e env) (fun key s₂ => wpAny (model prog w) A (eval f env) (fun dflt s₃ => Hold ((∃ es ep, Raw s₃.heap d es ep) ∧ SetFin knd d Q key dflt s₃)) E s₂) E s₁)) E s)
    (hbase : attributeBase o "setdefault" env (eval o env) = eval o env) (hline : (apos.endLine == pos.line) = true) (htrees : backTo pos (starEach [e, f] env) = [(false, eval e env), (false, eval f env)]) :
    wpAny (model prog w) A (eval (.Call (.Attribute o "setdefault" apos) [e, f] [] pos) env) Q E s := by
  refine wpAny_Call_method (T := "dict") (id := "dict.setdefault") hbase (by rw [htrees]; rfl) hline F.plainAttrs_dict F.slot_dict_setdefault F.type_dict_setdefault (wpAny_mono h (fun ov s₁ h₁ => ?_) fun _ _ e => e)
  obtain ⟨rfl, ⟨es, ep, hm⟩, h₁⟩ := h₁
  refine ⟨hm.typeIs, hm.noDict, ?_⟩
  rw [htrees]
  refine method2_meetsIn F.slot_dict_setdefault F.entry_dict_setdefault (wpAny_mono h₁ (fun key _ h₁ => wpAny_mono h₁ (fun dflt _ h₂ => ?_) fun _ _ e => e) fun _ _ e => e)
  obtain ⟨⟨es, ep, hm⟩, h₂⟩ := h₂
  obtain ⟨a, k, xs, rfl, hq⟩ := h₂
  exact ⟨hm.typeIs, F.args_dict_setdefault_3 _ _ _, _, meetsH_setdefault (knd := knd) d a hdS dflt, hu, a, k, xs, rfl, hq⟩
end
end Mine
end
section
open PySem PySem.W PySem.Calls PyProof.Rows
set_option maxRecDepth 100000
namespace Mine
section
variable {prog : Program} {w : World} {A : Around} {E : Value → Shared → Prop} {s : Shared}
variable {env : Env} {h₀ : Heap} {body : List Stmt} {Q : Flow → Shared → Prop}
/-- for a, b in d.items() -/
theorem items_Xc {v d : Addr} {od : Obj} {es : Array DictEntry} {ep : Nat} {xk xv : Str} {pk pv pt : Pos} {x1} {m₀ : Str → Option Value} {news : List (Addr × Obj)} (J : Nat → (Str → Option Value) → List (Addr × Obj) → Prop)
    (hh : A.handled = none) (hv : s.heap.IsItemsView v d) (hl : s.heap.get? d = some od) (hc : od.ExactDict) (hd : od.data = .dict es ep) (F : Fr h₀ env.locals s.heap m₀) (N : News h₀ env.locals s.heap news)
    (hold : ∀ i m news h, J i m news → Fr h₀ env.locals h m → News h₀ env.locals h news → h.get? d = some od) (hj : J 0 m₀ news)
    (turn : ∀ i en m₁ news₁ h tk I oI, es[i]? = some en → J i m₁ news₁ → (∀ p ∈ news₁, p.1 ≠ I) → Fr h₀ env.locals h m₁ → News h₀ env.locals h ((I, oI) :: news₁) →
      wpAny (model prog w) A (assign (.Name xk pk) env en.key) (fun _ s₁ => wpAny (model prog w) A (assign (.Name xv pv) env en.val) (fun _ s₂ => wpAny (model prog w) A (execs body env) (TurnEnd h₀ env.locals (I, oI) (J (i + 1)) Q { s with heap := h, toks := tk }) E s₂) E s₁) E { s with heap := h, toks := tk })
    (done : ∀ m₁ news₁ h tk, J es.size m₁ news₁ → Fr h₀ env.locals h m₁ → News h₀ env.locals h news₁ → Q .next { s with heap := h, toks := tk })
    (hE : PassesOwn (model prog w) A env E) : LoopX prog w A h₀ env (.Tuple [.Name xk pk, .Name xv pv] x1 pt) body Q E (.ref v) s := by
  have hls : Raw s.heap d es ep := ⟨od, hl, hc, hd⟩
  unfold LoopX
  refine pyIter_items hv hls ?_
  have hI : h₀.get? s.heap.objs.size = none := next_is_new F
  have hLI : env.locals ≠ s.heap.objs.size := Nat.ne_of_lt F.ns.lt
  have hn : ∀ p ∈ news, p.1 ≠ s.heap.objs.size := fun p hp e => absurd (Heap.lt_size (N p hp).1) (by rw [e]; exact Nat.lt_irrefl _)
  have hdI : d ≠ s.heap.objs.size := Nat.ne_of_lt (Heap.lt_size hl)
  generalize hIdef : s.heap.objs.size = I at hI hLI hn hdI ⊢
  refine codeAny_forLoop_any
    (fun k s' => ∃ h' tk m' news' i ok ov, s' = { s with heap := h', toks := tk } ∧ IsItemIter h' I d i es.size ep ok ov ∧ Fr h₀ env.locals h' m' ∧ News h₀ env.locals h' news' ∧ (∀ p ∈ news', p.1 ≠ I) ∧ J i m' news' ∧ i ≤ es.size ∧ k = es.size + 1 - i) ?_ (es.size + 1)
    ⟨_, s.toks, m₀, news, 0, .none, .none, rfl, hIdef ▸ Heap.get?_push_size _ rfl, F.push _, fun p hp => ⟨Heap.get?_push_of_some _ (N p hp).1, (N p hp).2⟩, hn, hj, Nat.zero_le _, rfl⟩
  rintro k s' ⟨h', tk, m', news', i, ok, ov, rfl, hit, F', N', hn', hJ, hi, rfl⟩
  have hdh : Raw h' d es ep := ⟨od, hold _ _ _ _ hJ F' N', hc, hd⟩
  cases hx : es[i]? with
  | none =>
    have hsz : i = es.size := Nat.le_antisymm hi (by simpa using hx)
    refine pyNext_items_end hh hit hdh hx fun h₁ he₁ => wpAny_execs_nil ?_
    have he₁ : Heap.ExtBut I h' h₁ := he₁
    refine done m' news' h₁ tk (hsz ▸ hJ) ⟨F'.ns.extBut he₁ hLI, fun b o e => he₁ b o (fun q => by rw [q, hI] at e; cases e) (F'.keep b o e), F'.above⟩ fun p hp => ⟨he₁ _ _ (hn' p hp) (N' p hp).1, (N' p hp).2⟩
  | some en =>
    have hlt : i < es.size := (Array.getElem?_eq_some_iff.mp hx).1
    refine pyNext_items hit hdh hx fun h₁ heo ht₁ hz₁ hk₁ => ?_
    refine wpAny_letOwnedTupleGo_items heo fun h₂ he₂ hs₂ => ?_
    replace hs₂ : Heap.SameBut I h₁ h₂ := hs₂
    have hTI : h'.objs.size ≠ I := Nat.ne_of_gt (Heap.lt_size hit)
    have ht₂ : h₂.IsTuple h'.objs.size #[en.key, en.val] := ⟨_, (hs₂.2 _ hTI).trans ht₁, rfl, _, rfl⟩
    have hz₂ : h₂.objs.size = h'.objs.size + 1 := hs₂.1.trans hz₁
    refine wpAny_assign_Tuple hh ht₂ rfl rfl fun h₃ hx₃ => ?_
    replace hx₃ : Heap.ExtBut h₂.objs.size h₂ h₃ := hx₃
    have old₃ : ∀ b o, b ≠ I → h'.get? b = some o → h₃.get? b = some o := fun b o hb e =>
      hx₃ b o (by rw [hz₂]; exact Nat.ne_of_lt (Nat.lt_succ_of_lt (Heap.lt_size e))) (hs₂.extBut b o hb (hk₁ b o hb e))
    have F₃ : Fr h₀ env.locals h₃ m' := ⟨F'.ns.at' fun o e => old₃ _ o hLI e, fun b o e => old₃ b o (fun q => by rw [q, hI] at e; cases e) (F'.keep b o e), F'.above⟩
    have hI₃ : IsItemIter h₃ I d (i + 1) es.size ep en.key en.val := hx₃ _ _ (by rw [hz₂]; exact Nat.ne_of_lt (Nat.lt_succ_of_lt (Heap.lt_size hit))) he₂
    have N₃ : News h₀ env.locals h₃ ((I, { cls := .type "dict_itemiterator", dict := none, data := .fields #[.none, .bool false, .ref d, .int ((i + 1 : Nat) : Int) 0, .int es.size 0, .int ep 0, en.key, en.val], slots := #[] }) :: news') := fun p hp => by
      rcases List.mem_cons.mp hp with rfl | hp
      · exact ⟨hI₃, Ne.symm hLI, hI⟩
      · exact ⟨old₃ _ _ (hn' p hp) (N' p hp).1, (N' p hp).2⟩
    show wpAny _ _ (do holding [en.val] (assign (.Name xk pk) env en.key); do holding [] (assign (.Name xv pv) env en.val); pure ()) _ _ _
    refine wpAny_bind (wpAny_holding (wpAny_passesOwn hE (wpAny_mono (turn i en m' news' h₃ _ I _ hx hJ hn' F₃ N₃) (fun _ s₂ h₂ => ?_) fun _ _ e => e)))
    refine wpAny_bind (wpAny_holding (wpAny_passesOwn hE (wpAny_mono h₂ (fun _ s₄ h₄ => wpAny_pure ?_) fun _ _ e => e)))
    refine wpAny_passesOwn hE (wpAny_mono h₄ (fun f s₃ h₃' => ?_) fun _ _ e => e)
    have fin : TurnEnd h₀ env.locals (I, { cls := .type "dict_itemiterator", dict := none, data := .fields #[.none, .bool false, .ref d, .int ((i + 1 : Nat) : Int) 0, .int es.size 0, .int ep 0, en.key, en.val], slots := #[] }) (J (i + 1)) Q { s with heap := h₃, toks := tk } .next s₃ →
        ∃ m, m < es.size + 1 - i ∧ ∃ h' tk m' news' i ok ov, s₃ = { s with heap := h', toks := tk } ∧ IsItemIter h' I d i es.size ep ok ov ∧ Fr h₀ env.locals h' m' ∧ News h₀ env.locals h' news' ∧ (∀ p ∈ news', p.1 ≠ I) ∧ J i m' news' ∧ i ≤ es.size ∧ m = es.size + 1 - i := by
      rintro ⟨h₆, tk₆, m₆, news₆, rfl, F₆, N₆, hn₆, hJ₆⟩
      exact ⟨es.size + 1 - (i + 1), by omega, h₆, tk₆, m₆, news₆, i + 1, en.key, en.val, rfl, (N₆ _ (.head _)).1, F₆, fun p hp => N₆ p (.tail _ hp), hn₆, hJ₆, hlt, rfl⟩
    cases f with
    | ret v => exact h₃'
    | brk => exact h₃'
    | next => exact fin h₃'
    | cont => exact fin h₃'

end
theorem ints_items {prog : Program} {w : World} : ∀ {vs : List Value} {ks : List Int}, IntsAre vs ks → ItemsAre (intKind prog w) ks vs
  | _, _, .nil => .nil
  | _, _, .cons k t r => .cons (by exact decide_eq_true rfl) (ints_items r)
theorem tup_key {prog : Program} {w : World} {h : Heap} {r : Addr} {vs : List Value} {ks : List Int} (e : h.get? r = some (tupO vs)) (hi : IntsAre vs ks) : IsTupleKey (intKind prog w) h ks r :=
  ⟨_, _, _, e, rfl, rfl, by simpa using ints_items hi⟩
theorem tupkey_ext {prog : Program} {w : World} {h h' : Heap} {r : Addr} {ks : List Int} (x : IsTupleKey (intKind prog w) h ks r) (e : Ext h h') : IsTupleKey (intKind prog w) h' ks r :=
  let ⟨o, i, n, a, b, c, d⟩ := x; ⟨o, i, n, e _ _ a, b, c, d⟩
theorem tupMid_ext {prog : Program} {w : World} {h h' : Heap} {k : List Int} {v : Value} (x : (tupMid prog w).is h k v) (e : Ext h h') : (tupMid prog w).is h' k v :=
  let ⟨a, e1, y⟩ := x; ⟨a, e1, tupkey_ext y e⟩
end Mine
end
section
open PySem PySem.W PySem.Calls PyProof.Rows
set_option maxRecDepth 100000
namespace Mine

local macro_rules | `(tactic| walk_at "eval ListComp") => `(tactic| (k_here; k_dflt (refine ListComp_B (by k_asm) (by with_unfolding_all rfl) (by decide) (by rfl) (by decide) (by rfl) ?_)))
def thenF (ks ls : List Int) : List Int := ks.map fun k => ls.getD k.toNat 0

set_option maxHeartbeats 4000000 in
theorem then_con (w : World) (b c : Array UInt8) (tb tc : Tok) (ks ls : List Int) (hks : KBw.bInts b = ks) (hls : KBw.bInts c = ls) (hin : ∀ k ∈ ks, k < ls.length) (h1 : ks.length ≤ 7) (h2 : ls.length ≤ 7) : Con2 400 1000 w 40 [.bytes b tb, .bytes c tc] (fun h => True) (fun h h' v => ∃ d t, v = .bytes d t ∧ KBw.bInts d = thenF ks ls) := by
  unfold Con2
  w_top off
  k_fill
  refine' con_cells (by decide) ?ho ?hcd ?hb ?hk ?hn ?_ ?c1 ?c2 ?c3
  case ho => k_is
  case hcd => k_is
  case hb => exact fun s => BindsTo.of_eq rfl
  case hk => exact rfl
  case hn => decide +kernel
  case c1 => exact rfl
  case c2 => exact rfl
  case c3 => exact rfl
  intro env outer gd A base L' h' tk' cells' mean mg mb s hA F' N' Y' B' X' T' hPre
  subst hA
  k_cells Y'
  try dsimp only
  k_unmd
  try k_fold
  k_steps
  rename Fr _ _ _ _ => F₁
  rename News _ _ _ _ => N₁
  show SrcB _ _ _ _ _ _ _ _ _ _ _ _ _ _
  refine SrcB.intro rfl F₁ N₁ hks (by omega) fun g => comp_ind (fun j ys news => news = _ ∧ IntsAre ys ((ks.take j).map fun k => ls.getD k.toNat 0)) ks.length ?step ?fin _ _ _ _ (by omega) ⟨rfl, IntsAre.nil⟩
  case step =>
    rintro j ys news hj ⟨rfl, hys⟩ v I oI C oC D m₂ h₂ tk₂ E₂ ⟨k, u, hk, rfl⟩ hns hm F₂ N₂ off₂ ne₂
    have hk0 := hin k (List.mem_of_getElem? hk)
    have hk1 : 0 ≤ k := (KBw.ints_in (b := b) (by rw [hks]; exact List.mem_of_getElem? hk)).1
    k_steps
    rename Fr _ _ _ _ => F₃
    rename News _ _ _ _ => N₃
    show LCg.CompEnd _ _ _ _ _ _ _ _ _ _ _ _ _ _
    refine LCg.CompEnd.intro F₃ N₃ _ (fun _ hp => hp) off₂ trivial ⟨rfl, ?_⟩
    rw [List.take_add_one, hk, Option.toList_some, List.map_append]
    exact hys.append (ints_one rfl)
  case fin =>
    rintro ys news ⟨rfl, hys⟩ D h₂ tk₂ F₂ N₂ off₂
    rw [List.take_length] at hys
    change IntsAre ys (thenF ks ls) at hys
    have hdin : ∀ x ∈ thenF ks ls, 0 ≤ x ∧ x < 256 := fun x hx => by
      obtain ⟨k, _, rfl⟩ := List.mem_map.mp hx
      exact KBw.getD_in (fun y hy => KBw.ints_in (b := c) (by rw [hls]; exact hy))
    have hbb : KBw.bInts (byteArr (thenF ks ls)) = thenF ks ls := byteArr_ints hdin
    have hll : (thenF ks ls).length = ks.length := by simp [thenF]
    k_steps
    show Ends _ _ _ _
    exact ⟨_, _, rfl, Fr.keep (by assumption), _, _, rfl, hbb⟩
end Mine
end
section
open PySem PySem.W PySem.Calls PyProof.Rows
set_option maxRecDepth 100000
namespace Mine
local macro_rules | `(tactic| walk_at "exec For Name Call cons nil") => `(tactic| ((with_reducible show wpAny _ _ (exec (Stmt.For _ _ _ _ _) _) _ _ _); refine hold_of ?_))
local macro_rules | `(tactic| walk_at "exec While Compare cons nil") => `(tactic| ((with_reducible show wpAny _ _ (exec (Stmt.While _ _ _ _) _) _ _ _); refine hold_of ?_))
def JK (L : Addr) (Ds : Addr) (b : Array UInt8) (t : Tok) (ks : List Int) (i : Nat) (m : Str → Option Value) (news : List (Addr × Obj)) : Prop :=
  m (Str.ofString "seen") = some (.ref Ds) ∧ m (Str.ofString "order") = some (.bytes b t) ∧ (∃ Df, m (Str.ofString "found") = some (.ref Df) ∧ ∃ (svs fvs : List Value) (k1 k2 : Nat),
    news = [(Df, listOf fvs.toArray k2), (Ds, listOf svs.toArray k1)] ∧ IntsAre svs (runK ks i).1 ∧ IntsAre fvs (runK ks i).2 ∧ @Ne Nat Df Ds ∧ (runK ks i).1.length ≤ 5 * i ∧ (runK ks i).2.length ≤ i)
theorem newsK {h₀ h : Heap} {L : Addr} {a x c y e : Addr × Obj} (N : News h₀ L h [a, x, c, y, e]) : News h₀ L h [c, a, e] := fun p hp => N p (by
  simp only [List.mem_cons, List.not_mem_nil, or_false] at hp ⊢
  rcases hp with h | h | h <;> simp [h])
def JW (I : Addr) (oI : Obj) (Df : Addr) (oF : Obj) (Ds : Addr) (b : Array UInt8) (t : Tok) (ks : List Int) (i : Nat) (R : List Int × Int × Int) (f : Nat) (m : Str → Option Value) (news : List (Addr × Obj)) : Prop :=
  m (Str.ofString "seen") = some (.ref Ds) ∧ m (Str.ofString "order") = some (.bytes b t) ∧ m (Str.ofString "found") = some (.ref Df) ∧ ∃ (seen : List Int) (here long : Int) (th tl : Tok) (svs : List Value) (k1 : Nat),
    m (Str.ofString "here") = some (.int here th) ∧ m (Str.ofString "long") = some (.int long tl) ∧ news = [(I, oI), (Df, oF), (Ds, listOf svs.toArray k1)] ∧ IntsAre svs seen ∧ whileF ks f seen here long = R ∧
    0 ≤ here ∧ here < (ks.length : Int) ∧ 0 ≤ long ∧ long + (f : Int) ≤ 5 ∧ seen.length + f ≤ 5 * i + 5

set_option maxHeartbeats 4000000 in
theorem kind_con (w : World) (b : Array UInt8) (t : Tok) (ks : List Int) (hks : KBw.bInts b = ks) (hlen : ks.length ≤ 4) (hok : ringsOk ks) : Con2 400 1000 w 52 [.bytes b t] (fun h => True) (fun h h' v => KindPost ks h h' v) := by
  unfold Con2
  w_top off
  k_fill
  refine' con_plain (by decide) ?ho ?hcd ?hb ?hk ?hn ?_ ?c1 ?c2 ?c3
  case ho => k_is
  case hcd => k_is
  case hb => exact fun s => BindsTo.of_eq rfl
  case hk => exact locs rfl
  case hn => decide
  case c1 => exact rfl
  case c2 => exact rfl
  case c3 => exact rfl
  intro env outer gd A base L' h' mean mg mb s hA F' B' X' T' hPre
  subst hA
  have N' : News s.heap L' h' [] := News.nil
  try dsimp only
  k_unmd
  try k_fold
  k_steps
  rename_i Ds _ _ Df _ lF _ _ _ _ _ _ F₁ N₁
  have g3 : @Ne Nat Df Ds := Nat.ne_of_gt lF
  replace N₁ : News s.heap L' _ [(Df, listOf (List.toArray []) 0), (Ds, listOf (List.toArray []) 0)] := fun p hp => N₁ p (.tail _ hp)
  show wpAny _ _ (exec (Stmt.For _ _ _ _ _) _) _ _ _
  refine' For_X s.heap ?_ ?fs
  case fs => intro _; rfl
  k_steps
  rename Fr _ _ _ _ => F₂
  rename News _ _ _ _ => N₂
  refine range_X (n := ks.length) (JK L' Ds b t ks) rfl (by assumption) (small_one (by omega) (by omega) (by omega) (by omega)) (by rw [rangeSize_nat]; omega) F₂ N₂ ⟨rfl, rfl, Df, rfl, [], [], _, _, rfl, IntsAre.nil, IntsAre.nil, g3, Nat.zero_le _, Nat.zero_le _⟩ ?turn ?done (fun _ _ => rfl) PassesOwn.never
  case turn =>
    rintro i t' m₁ news₁ h₁ tk₁ I oI hi ⟨hm1, hm2, Df', hm3, svs, fvs, k1, k2, rfl, hs, hf, g3, hsl, hfl⟩ hn₁ F₃ N₃
    rw [m_put hm1, m_put hm2, m_put hm3] at F₃
    replace hn₁ := off1_of hn₁
    have hnK := Kept.mk hn₁
    simp only [LCg.Off1, and_true] at hn₁
    have hend := hok.2 i hi
    k_steps
    rename Fr _ _ _ _ => F₄
    rename News _ _ _ _ => N₄
    replace N₄ : News s.heap L' _ [(I, oI), (Df', listOf fvs.toArray k2), (Ds, listOf svs.toArray k1)] := fun p hp => N₄ p (.tail _ hp)
    show wpAny _ _ (exec (Stmt.While _ _ _ _) _) _ _ _
    refine While_inv (JW I oI Df' (listOf fvs.toArray k2) Ds b t ks i (turnK ks (runK ks i).1 i)) (n₀ := 5) F₄ N₄ ⟨rfl, rfl, rfl, _, 0 + (i : Int), 0, _, _, svs, _, rfl, rfl, rfl, hs, by rw [Int.zero_add]; rfl, by omega, by omega, by omega, by omega, by omega⟩ ?wturn PassesOwn.never
    case wturn =>
      rintro f m₂ news₂ h₂ tk₂ F₅ N₅ ⟨hq1, hq2, hq3, seen, here, long, th, tl, svs', k1', hq4, hq5, rfl, hs', hR, hh0, hh1, hl0, hl1, hsl'⟩
      rw [m_put hq1, m_put hq2, m_put hq3, m_put hq4, m_put hq5] at F₅
      k_steps
      · rename_i _ _ hany hlong _ _ _ D us _ hU lD _ F₆ N₆
        have hR2 := (whileF_done (ks := ks) (long := long) hany f).symm.trans hR
        have e : runK ks (i + 1) = (seen, (runK ks i).2 ++ [long]) := by
          rw [runK_succ]
          unfold stepK
          rw [← hR2, if_pos hlong]
        refine ⟨_, _, _, [(D, listOf us.toArray 0), (Ds, listOf svs'.toArray k1')], rfl, F₆, newsK N₆, ?_, rfl, rfl, D, rfl, svs', us, _, _, rfl, ?_, ?_, Nat.ne_of_gt lD.2.2.2, ?_, ?_⟩
        · intro p hp
          simp only [List.mem_cons, List.not_mem_nil, or_false] at hp
          rcases hp with rfl | rfl
          · exact Nat.ne_of_gt lD.2.1
          · exact hn₁.2
        · rw [e]; exact hs'
        · rw [e]; exact hU
        · rw [e]; show seen.length ≤ _; omega
        · rw [e, List.length_append, List.length_singleton]; omega
      · rename_i _ _ hany hlong _ _ _ D us _ hU lD _ F₆ N₆
        have hR2 := (whileF_done (ks := ks) (long := long) hany f).symm.trans hR
        have e : runK ks (i + 1) = (seen, (runK ks i).2 ++ []) := by
          rw [runK_succ]
          unfold stepK
          rw [← hR2, if_neg hlong]
        refine ⟨_, _, _, [(D, listOf us.toArray 0), (Ds, listOf svs'.toArray k1')], rfl, F₆, newsK N₆, ?_, rfl, rfl, D, rfl, svs', us, _, _, rfl, ?_, ?_, Nat.ne_of_gt lD.2.2.2, ?_, ?_⟩
        · intro p hp
          simp only [List.mem_cons, List.not_mem_nil, or_false] at hp
          rcases hp with rfl | rfl
          · exact Nat.ne_of_gt lD.2.1
          · exact hn₁.2
        · rw [e]; exact hs'
        · rw [e]; exact hU
        · rw [e]; show seen.length ≤ _; omega
        · rw [e, List.length_append, List.length_nil]; omega
      · have hany : seen.any (fun x => x == here) = false := by assumption
        rename Fr _ _ _ _ => F₆
        rename News _ _ _ _ => N₆
        cases f with
        | zero =>
          rw [whileF] at hR
          rw [← hR] at hend
          exact absurd (hany.symm.trans hend) (by decide)
        | succ f =>
          rw [whileF, if_neg (by rw [hany]; decide)] at hR
          have hm : ks.getD here.toNat 0 ∈ ks := by
            rw [List.getD_eq_getElem?_getD, List.getElem?_eq_getElem (by omega)]
            exact List.getElem_mem _
          have hm2 := hok.1 _ hm
          simp only [List.push_toArray] at N₆
          refine WhileStep.intro (n' := f) F₆ (news₂ := [(I, oI), (Df', listOf fvs.toArray k2), (Ds, listOf (svs' ++ [Value.int here th]).toArray (k1' + 1))]) (fun p hp => N₆ p (.tail _ hp)) (Nat.lt_succ_self _) ⟨rfl, rfl, rfl, _, _, _, _, _, svs' ++ [Value.int here th], k1' + 1, rfl, rfl, rfl, hs'.append (ints_one rfl), hR, hm2.1, hm2.2, by omega, by omega, ?_⟩
          rw [List.length_append, List.length_singleton]; omega
  case done =>
    rintro m₁ news₁ h₁ tk₁ ⟨hm1, hm2, Df', hm3, svs, fvs, k1, k2, rfl, hs, hf, g3, hsl, hfl⟩ F₃ N₃
    rw [m_put hm1, m_put hm2, m_put hm3] at F₃
    have hfl2 := hf.length
    k_steps
    rename List.Pairwise _ _ => hso
    rename List.Perm _ _ => hpe
    have hke := kindF_eq hpe hso
    subst hke
    show Ends _ _ _ _
    exact ⟨_, _, rfl, Fr.keep (by assumption), _, _, rfl, Fresh.of (by assumption) (.head _), by assumption⟩
end Mine
end
section
open PySem PySem.W PySem.Calls PyProof.Rows
set_option maxRecDepth 100000
namespace Mine
local macro_rules | `(tactic| walk_at "exec For") => `(tactic| ((with_reducible show wpAny _ _ (exec (Stmt.For _ _ _ _ _) _) _ _ _); refine hold_of ?_))

set_option maxHeartbeats 4000000 in
theorem drawn_con (w : World) (d : Addr) (vs : List Value) (ns : List Int) (n : Nat) (tn : Tok) (hvs : IntsAre vs ns) (hns : ns.length ≤ 4) (hn1 : 1 ≤ n) (hn4 : n ≤ 4) : Con2 400 1000 w 59 [.ref d, .int n tn] (fun h => h.IsList d vs.toArray) (fun h h' v => ∃ b t ds, v = .bytes b t ∧ KBw.bInts b = ds ∧ Full n ds) := by
  unfold Con2
  w_top off
  k_fill
  refine' con_plain (by decide) ?ho ?hcd ?hb ?hk ?hn ?_ ?c1 ?c2 ?c3
  case ho => k_is
  case hcd => k_is
  case hb => exact fun s => BindsTo.of_eq rfl
  case hk => exact locs rfl
  case hn => decide
  case c1 => exact rfl
  case c2 => exact rfl
  case c3 => exact rfl
  intro env outer gd A base L' h' mean mg mb s hA F' B' X' T' hPre
  subst hA
  have N' : News s.heap L' h' [] := News.nil
  try dsimp only
  k_unmd
  try k_fold
  k_steps
  rename_i Dl lv kl _ _ hI _ Dd _ lD _ _ _ _ _ _ F₁ N₁
  have hIl := hI.length
  rw [rangeKs_length] at hIl
  rw [show ((n : Int) - 0).toNat = n by omega] at hI hIl
  have g3 : @Ne Nat Dd Dl := Nat.ne_of_gt lD
  replace N₁ : News s.heap L' _ [(Dd, listOf (List.toArray []) 0), (Dl, listOf lv.toArray kl)] := fun p hp => N₁ p (.tail _ hp)
  show wpAny _ _ (exec (Stmt.For _ _ _ _ _) _) _ _ _
  refine' For_X s.heap ?_ ?fs
  case fs => intro _; rfl
  k_steps
  rename_i S wsS _ F₈ N₈ hIS _ _ lS
  have hSl : wsS.length = n := by
    rw [hIS.length, List.length_take, List.length_append, Int.toNat_natCast, show (List.replicate 4 [(0 : Int)]).flatten.length = 4 from rfl]
    omega
  have g1 : @Ne Nat S Dd := by k_ne
  have g2 : @Ne Nat S Dl := by k_ne
  replace N₈ : News s.heap L' _ [(S, listOf wsS.toArray 0), (Dd, listOf (List.toArray []) 0), (Dl, listOf lv.toArray kl)] := fun p hp => N₈ p (by
    simp only [List.mem_cons, List.not_mem_nil, or_false] at hp ⊢
    rcases hp with h | h | h <;> simp [h])
  refine list_X (JC S (listOf wsS.toArray 0) Dd Dl n)
    (by rfl) (N₈ _ (.head _)).1 (by rfl) (by rfl) F₈ N₈ ?hold5 ⟨rfl, rfl, [], lv, _, _, [], _, rfl, IntsAre.nil, hI, drawnC_start hn4⟩ ?turn5 ?done5 (fun _ _ => rfl) PassesOwn.never
  case hold5 =>
    rintro i m news h ⟨-, -, dvs, lvs, k1, k2, ds, ls, rfl, -⟩ F N
    exact (N _ (.head _)).1
  case turn5 =>
    rintro i v m₁ news₁ h₁ tk₁ I oI hv ⟨hm1, hm2, dvs, lvs, k1, k2, ds, ls, rfl, hds, hls, hDr⟩ hn F₉ N₉
    obtain ⟨num, tn, rfl, -⟩ := hIS.at _ _ hv
    rw [m_put hm1, m_put hm2] at F₉
    replace hn := off1_of hn
    have hnK := Kept.mk hn
    simp only [LCg.Off1, and_true] at hn
    have hd1 := hDr.1
    have hd2 := hDr.2.1
    have hic : i < n := hSl ▸ (List.getElem?_eq_some_iff.mp hv).1
    have hl1 := hls.length
    k_steps
    rename Fr _ _ _ _ => F₁₀
    rename News _ _ _ _ => N₁₀
    have hq0 : 0 ≤ num.fmod (ls.length : Int) := Int.fmod_nonneg_of_pos _ (by omega)
    have hq1 : num.fmod (ls.length : Int) < (ls.length : Int) := Int.fmod_lt_of_pos _ (by omega)
    refine popAt_ints F₁₀ N₁₀ hls hq0 (by omega) (by omega) (by k_upd) fun h₁₁ t₁₁ F₁₁ N₁₁ hls' => ?_
    obtain ⟨q, hq⟩ : ∃ q : Nat, (num.fmod (ls.length : Int)).toNat = q := ⟨_, rfl⟩
    rw [hq] at N₁₁ hls' ⊢
    have hql : q < ls.length := by omega
    clear hq hq0 hq1 F₁₀ N₁₀
    (try dsimp only at N₁₁)
    k_steps
    rename Fr _ _ _ _ => F₁₂
    rename News _ _ _ _ => N₁₂
    simp only [List.push_toArray] at N₁₂
    exact ⟨_, _, _, _, rfl, F₁₂, N₁₂, off1_all hnK.out, rfl, rfl, dvs ++ [_], _, _, _, _, _, rfl, hds.append (ints_one rfl), hls', drawnC_next hDr hql⟩
  case done5 =>
    rintro m₁ news₁ h₁ tk₁ ⟨hm1, hm2, dvs, lvs, k1, k2, ds, ls, rfl, hds, hls, hDr⟩ F₉ N₉
    rw [m_put hm1, m_put hm2] at F₉
    rw [hSl] at hDr
    have hd1 := hDr.1
    have hl1 := hds.length
    have hf := hDr.full
    have hdin : ∀ x ∈ ds, 0 ≤ x ∧ x < 256 := fun x hx => by
      have := hf.2.2 x hx
      omega
    have hbb : KBw.bInts (byteArr ds) = ds := byteArr_ints hdin
    k_steps
    show Ends _ _ _ _
    exact ⟨_, _, rfl, Fr.keep (by assumption), _, _, _, rfl, hbb, hf⟩
end Mine
end
section
open PySem PySem.W PySem.Calls PyProof.Rows
set_option maxRecDepth 100000
namespace Mine
def ringsB (ks : List Int) : Bool := (ks.all fun k => decide (0 ≤ k) && decide (k < (ks.length : Int))) && (List.range ks.length).all fun i => (turnK ks (runK ks i).1 i).1.any (· == (turnK ks (runK ks i).1 i).2.1)
theorem rings_of {ks : List Int} (h : ringsB ks = true) : ringsOk ks := by
  unfold ringsB at h
  rw [Bool.and_eq_true, List.all_eq_true, List.all_eq_true] at h
  refine ⟨fun k hk => ?_, fun i hi => h.2 i (List.mem_range.mpr hi)⟩
  have := h.1 k hk
  rw [Bool.and_eq_true] at this
  exact ⟨of_decide_eq_true this.1, of_decide_eq_true this.2⟩
/-- all orders of the first n octets -/
def allO (n : Nat) : List (List Int) := ordersF 5 (rangeKs 0 n)
theorem allO_small {n : Nat} (h1 : 1 ≤ n) (h4 : n ≤ 4) : (allO n).length ≤ 24 := by
  rcases fin4 h1 h4 with rfl | rfl | rfl | rfl <;> decide +kernel
theorem allO_rings {n : Nat} (h1 : 1 ≤ n) (h4 : n ≤ 4) : ∀ o ∈ allO n, ringsOk o := by
  have : ((allO n).all ringsB) = true := by rcases fin4 h1 h4 with rfl | rfl | rfl | rfl <;> decide +kernel
  exact fun o ho => rings_of (List.all_eq_true.mp this o ho)
theorem allO_len {n : Nat} : ∀ o ∈ allO n, o.length = n := fun o ho => by
  have := ordersF_len 5 _ _ ho
  rw [this, rangeKs_length]
def kvK (n i : Nat) : List (List Int × Int) := ((allO n).take i).foldl (fun kv o => addKV kv (kindF o)) []
theorem kvK_next {n i : Nat} {kb : List Int} (h : (allO n)[i]? = some kb) : kvK n (i + 1) = addKV (kvK n i) (kindF kb) := by
  unfold kvK
  rw [List.take_add_one, h, List.foldl_append]
  rfl
theorem kvK_small {n i : Nat} (h1 : 1 ≤ n) (h4 : n ≤ 4) : (kvK n i).length ≤ 900 := by
  have h := foldKV_len kindF ((allO n).take i) []
  have h2 := allO_small h1 h4
  rw [List.length_take] at h
  simp only [List.length_nil] at h
  unfold kvK
  omega
abbrev kd2 (w : World) : HeapKind PySem.Challenge.rw_ia0001_02.row.prog w (List Int) := sandKind (tupMid _ w) (Str.ofString "kind") (Str.ofString "order")
theorem kd2_room {w : World} (A : Around) (h : A.units ≤ 1050) : (kd2 w).room A := by
  have : cLine = 9900 := rfl
  show A.units + 1 < cLine
  omega
/-- between the turns of the first loop over the orders -/
def J2 (w : World) (L : Nat) (n : Nat) (o4 o3 om : Obj) (rl : Addr × Obj) (tp : Tok) (sv : Value) (i : Nat) (m : Str → Option Value) (news : List (Addr × Obj)) : Prop :=
  ∃ (tail : List (Addr × Obj)) (oc : Obj) (D1 : Addr) (o1 : Obj),
      news = rl :: (D1, o1) :: (L + 1 + 1 + 1 + 1, o4) :: (L + 1 + 1 + 1, o3) :: (L + 1 + 1, oc) :: (L + 1, om) :: tail ∧
      TupTail tail ∧ (∃ v, oc.data = .cell v) ∧ m (Str.ofString "kinds") = some (.ref D1) ∧ m (Str.ofString "orders") = some (.ref rl.1) ∧ m (Str.ofString "pairs") = some (.int 0 tp) ∧ m (Str.ofString "script") = some sv ∧
      CntD (kd2 w) tail D1 o1 (kvK n i)
theorem start2 {w : World} {h₀ h : Heap} {L : Nat} {n : Nat} {m : Str → Option Value} {rl tp' : Addr × Obj} {D1 : Addr} {o1 o4 o3 oc om : Obj} {tp : Tok} {sv : Value} (_F : Fr h₀ L h m)
    (N : News h₀ L h [tp', (D1, o1), rl, (L + 1 + 1 + 1 + 1, o4), (L + 1 + 1 + 1, o3), (L + 1 + 1, oc), (L + 1, om)])
    (hoc : ∃ v, oc.data = .cell v) (h1 : m (Str.ofString "kinds") = some (.ref D1)) (h2 : m (Str.ofString "orders") = some (.ref rl.1)) (h3 : m (Str.ofString "pairs") = some (.int 0 tp)) (h4 : m (Str.ofString "script") = some sv)
    (a1 : (D1 == sysModules) = false) (b1 : Obj.IsDictOf (intKind PySem.Challenge.rw_ia0001_02.row.prog w) o1 []) :
    ∃ news, News h₀ L h news ∧ rl ∈ news ∧ J2 w L n o4 o3 om rl tp sv 0 m news := by
  refine ⟨_, fun p hp => N p ?_, ?_, [], oc, D1, o1, rfl, (fun _ h => nomatch h), hoc, h1, h2, h3, h4, CntD.nil a1 b1⟩
  · simp only [List.mem_cons, List.not_mem_nil, or_false] at hp ⊢
    rcases hp with h | h | h | h | h | h <;> simp [h]
  · exact .head _
theorem facts2 {w : World} {h₀ h : Heap} {L : Nat} {I : Addr} {oI : Obj} {r : Addr} {lx : Array Value} {lk : Nat} {D1 : Addr} {o1 o4 o3 oc om : Obj} {tail : List (Addr × Obj)} {ov : Option Value} {k1 : List (List Int × Int)}
    (N : News h₀ L h ((I, oI) :: (r, W.listOf lx lk) :: (D1, o1) :: (L + 1 + 1 + 1 + 1, o4) :: (L + 1 + 1 + 1, o3) :: (L + 1 + 1, oc) :: (L + 1, om) :: tail))
    (hT : TupTail tail) (hoc : oc.data = .cell ov) (hC1 : CntD (kd2 w) tail D1 o1 k1) :
    (∀ p ∈ tail, @Ne Nat p.1 (L + 1 + 1)) ∧ @Ne Nat r (L + 1 + 1) ∧ @Ne Nat D1 (L + 1 + 1) := by
  have hs : ∀ p ∈ tail, p ∈ ((I, oI) :: (r, W.listOf lx lk) :: (D1, o1) :: (L + 1 + 1 + 1 + 1, o4) :: (L + 1 + 1 + 1, o3) :: (L + 1 + 1, oc) :: (L + 1, om) :: tail) := fun p hp => by simp [hp]
  have mo : (L + 1 + 1, oc) ∈ ((I, oI) :: (r, W.listOf lx lk) :: (D1, o1) :: (L + 1 + 1 + 1 + 1, o4) :: (L + 1 + 1 + 1, o3) :: (L + 1 + 1, oc) :: (L + 1, om) :: tail) := by simp
  exact ⟨tail_cell N hT hs mo hoc, cell_ne N (.tail _ (.head _)) rfl mo hoc, cnt_ne hC1 N (by simp) mo hoc⟩
theorem end2 {w : World} {h₀ h : Heap} {L : Nat} {n i : Nat} {m : Str → Option Value} {I : Addr} {oI : Obj} {rl T R d : Addr × Obj} {r7 D1 : Addr} {o7 o1 o4 o3 oc om : Obj} {tail : List (Addr × Obj)} {kb : List Int} {tp : Tok} {sv : Value} (_F : Fr h₀ L h m) (hkb : (allO n)[i]? = some kb)
    (N : News h₀ L h ((r7, o7) :: T :: R :: d :: (I, oI) :: rl :: (D1, o1) :: (L + 1 + 1 + 1 + 1, o4) :: (L + 1 + 1 + 1, o3) :: (L + 1 + 1, oc) :: (L + 1, om) :: tail))
    (hT : TupTail tail) (t1 : ∃ xs k, T.2.data = .seq xs k) (t2 : ∃ xs k, R.2.data = .seq xs k) (hoc : ∃ v, oc.data = .cell v)
    (h1 : m (Str.ofString "kinds") = some (.ref r7)) (h2 : m (Str.ofString "orders") = some (.ref rl.1)) (h3 : m (Str.ofString "pairs") = some (.int 0 tp)) (h4 : m (Str.ofString "script") = some sv)
    (C1 : CntD (kd2 w) (T :: R :: tail) r7 o7 (addKV (kvK n i) (kindF kb)))
    (off : LCg.Off1 I (rl :: (D1, o1) :: (L + 1 + 1 + 1 + 1, o4) :: (L + 1 + 1 + 1, o3) :: (L + 1 + 1, oc) :: (L + 1, om) :: tail)) (n1 : @Ne Nat T.1 I) (n2 : @Ne Nat R.1 I) (n7 : @Ne Nat r7 I) :
    ∃ news, News h₀ L h ((I, oI) :: news) ∧ (∀ p ∈ news, p.1 ≠ I) ∧ J2 w L n o4 o3 om rl tp sv (i + 1) m news := by
  refine ⟨rl :: (r7, o7) :: (L + 1 + 1 + 1 + 1, o4) :: (L + 1 + 1 + 1, o3) :: (L + 1 + 1, oc) :: (L + 1, om) :: T :: R :: tail, fun p hp => N p ?_, ?_, T :: R :: tail, oc, r7, o7, rfl, ?_, hoc, h1, h2, h3, h4, ?_⟩
  · simp only [List.mem_cons] at hp ⊢
    rcases hp with h | h | h | h | h | h | h | h | h | h <;> simp [h]
  · intro p hp
    obtain ⟨e1, e2, e3, e4, e5, e6, e0⟩ := off
    simp only [List.mem_cons] at hp
    rcases hp with rfl | rfl | rfl | rfl | rfl | rfl | rfl | rfl | hp <;> first | assumption | exact off1_all e0 p hp
  · intro p hp
    simp only [List.mem_cons] at hp
    rcases hp with rfl | rfl | hp
    · exact t1
    · exact t2
    · exact hT p hp
  · rw [kvK_next hkb]
    exact C1
end Mine
end
section
open PySem PySem.W PySem.Calls PyProof.Rows
set_option maxRecDepth 100000
namespace Mine
def addF (fs : List (List Int × List Int)) (k o : List Int) : List (List Int × List Int) := if fs.any (fun x => decide (x.1 = k)) then fs else fs ++ [(k, o)]
/-- the values are these bytes -/
def SameB : List (List Int × Addr × Value) → List (List Int × List Int) → Prop
  | [], [] => True
  | v :: vs, x :: xs => (v.1 = x.1 ∧ ∃ b t, v.2.2 = .bytes b t ∧ KBw.bInts b = x.2) ∧ SameB vs xs
  | _, _ => False
theorem SameB.length : ∀ {vs : List (List Int × Addr × Value)} {xs : List (List Int × List Int)}, SameB vs xs → vs.length = xs.length
  | [], [], _ => rfl
  | _ :: _, _ :: _, h => congrArg (· + 1) (SameB.length h.2)
  | [], _ :: _, h => h.elim
  | _ :: _, [], h => h.elim
theorem SameB.get : ∀ {vs : List (List Int × Addr × Value)} {xs : List (List Int × List Int)}, SameB vs xs → ∀ {i : Nat} {v : List Int × Addr × Value}, vs[i]? = some v → ∃ x b t, xs[i]? = some x ∧ v.1 = x.1 ∧ v.2.2 = .bytes b t ∧ KBw.bInts b = x.2
  | [], [], _, _, _, e => by simp at e
  | _ :: _, x :: _, h, 0, v, e => by
    obtain ⟨h1, b, t, h2, h3⟩ := h.1
    simp at e
    subst e
    exact ⟨x, b, t, rfl, h1, h2, h3⟩
  | _ :: _, _ :: _, h, i + 1, v, e => by
    obtain ⟨x, b, t, h0, r⟩ := SameB.get h.2 (i := i) (v := v) (by simpa using e)
    exact ⟨x, b, t, by simpa using h0, r⟩
  | [], _ :: _, h, _, _, _ => h.elim
  | _ :: _, [], h, _, _, _ => h.elim
theorem SameB.append : ∀ {vs us : List (List Int × Addr × Value)} {xs ys : List (List Int × List Int)}, SameB vs xs → SameB us ys → SameB (vs ++ us) (xs ++ ys)
  | [], _, [], _, _, h => h
  | _ :: _, _, _ :: _, _, h, h' => ⟨h.1, SameB.append h.2 h'⟩
  | [], _, _ :: _, _, h, _ => h.elim
  | _ :: _, _, [], _, h, _ => h.elim
theorem sameB_any : ∀ {vs : List (List Int × Addr × Value)} {xs : List (List Int × List Int)}, SameB vs xs → ∀ k, (atKey vs k).isSome = xs.any (fun x => decide (x.1 = k))
  | [], [], _, k => by simp [atKey]
  | v :: vs, x :: xs, h, k => by
    have ih := sameB_any h.2 k
    obtain ⟨h1, _⟩ := h.1
    by_cases e : x.1 = k
    · simp [atKey, h1, e]
    · rw [List.any_cons, ← ih]
      simp [atKey, h1, e]
  | [], _ :: _, h, _ => h.elim
  | _ :: _, [], h, _ => h.elim
section
variable {prog : Program} {w : World}
abbrev knF (prog : Program) (w : World) : HeapKind prog w (List Int) := tupleKind (intKind prog w)
/-- a dict of first orders -/
def FirD (prog : Program) (w : World) (tail : List (Addr × Obj)) (D : Addr) (o : Obj) (fs : List (List Int × List Int)) : Prop :=
  (D == sysModules) = false ∧ ∃ es ep vs, DObj (knF prog w) o es ep vs ∧ SameB vs fs ∧ ∀ x ∈ vs, KeyIn (knF prog w) tail x.1 x.2.1
theorem FirD.mono {t t' : List (Addr × Obj)} {D : Addr} {o : Obj} {fs : List (List Int × List Int)} (x : FirD prog w t D o fs) (h : ∀ p ∈ t, p ∈ t') : FirD prog w t' D o fs :=
  let ⟨a, es, ep, vs, b, c, e⟩ := x; ⟨a, es, ep, vs, b, c, fun y hy => (e y hy).mono h⟩
theorem FirD.nil {tail : List (Addr × Obj)} {D : Addr} {o : Obj} (h1 : (D == sysModules) = false) (h2 : Obj.IsDictOf (intKind prog w) o []) : FirD prog w tail D o [] :=
  let ⟨es, ep, d⟩ := dobj_new (knd := knF prog w) h2; ⟨h1, es, ep, [], d, trivial, fun _ h => nomatch h⟩
theorem FirD.notSeq {tail : List (Addr × Obj)} {D : Addr} {o : Obj} {fs : List (List Int × List Int)} (x : FirD prog w tail D o fs) : ∀ xs k, o.data ≠ .seq xs k := by
  obtain ⟨_, es, ep, _, d, _⟩ := x
  intro xs k e
  rw [d.data] at e
  cases e
theorem FirD.notCell {tail : List (Addr × Obj)} {D : Addr} {o : Obj} {fs : List (List Int × List Int)} (x : FirD prog w tail D o fs) : ∀ v, o.data ≠ .cell v := by
  obtain ⟨_, es, ep, _, d, _⟩ := x
  intro v e
  rw [d.data] at e
  cases e
theorem fir_raw {s : Shared} {h₀ : Heap} {L : Addr} {news t1 : List (Addr × Obj)} {d : Addr} {o : Obj} {fs : List (List Int × List Int)} (C : FirD prog w t1 d o fs) (N : News h₀ L s.heap news) (hd : (d, o) ∈ news) : ∃ es ep, Raw s.heap d es ep := by
  obtain ⟨a1, es, ep, vs, DO, SI, ka⟩ := C
  exact ⟨es, ep, DO.raw (N _ hd).1⟩
theorem fir_set {s : Shared} {h₀ : Heap} {L : Addr} {m : Str → Option Value} {news tl t1 : List (Addr × Obj)} {g : Obj → List (Addr × Obj)} {d R : Addr} {o : Obj} {fs : List (List Int × List Int)} {k ks : List Int} {b : Array UInt8} {t : Tok} {Q : Value → Shared → Prop}
    (C : FirD prog w t1 d o fs) (F : Fr h₀ L s.heap m) (N : News h₀ L s.heap news) (U : UpdF d o news g) (hkey : KeyIn (knF prog w) tl k R) (h1 : ∀ p ∈ t1, p ∈ tl) (h2 : ∀ p ∈ tl, p ∈ news) (hb : KBw.bInts b = ks) (hsz : fs.length ≤ 900)
    (ret : ∀ h' o' tk' v, Fr h₀ L h' m → News h₀ L h' (g o') → FirD prog w tl d o' (addF fs k ks) → Q v { s with heap := h', toks := tk' }) :
    (∃ es ep, Raw s.heap d es ep) ∧ SetFin (knF prog w) d Q (.ref R) (.bytes b t) s := by
  obtain ⟨pre, post, rfl, hg, ha, hbb⟩ := U.split
  have hm := N (d, o) (List.mem_append_right _ (.head _))
  have C0 := C
  obtain ⟨a1, es, ep, vs, DO, SI, ka⟩ := C
  have hany := sameB_any SI k
  have hlen := SI.length
  refine ⟨⟨es, ep, DO.raw hm.1⟩, R, k, vs, rfl, hkey.here N h2, DO.at hm.1 fun x hx => (ka x hx).here N fun p hp => h2 p (h1 p hp), by rw [sizeLine_eq]; omega, fun p hp => ?_, fun hn h' hd hs => ?_⟩
  · have e : addF fs k ks = fs := by
      unfold addF
      rw [hp] at hany
      rw [if_pos (by rw [← hany]; rfl)]
    have hgo : g o = pre ++ (d, o) :: post := hg o
    refine ret s.heap o _ _ F (by rw [hgo]; exact N) ?_
    rw [e]
    exact C0.mono h1
  · have e : addF fs k ks = fs ++ [(k, ks)] := by
      unfold addF
      rw [hn] at hany
      rw [if_neg (by rw [← hany]; decide)]
    obtain ⟨o', es', ep', ho', DO'⟩ := dobj_of hd
    refine ret h' o' _ _ (F.change hs hm.2.1 hm.2.2) (hg o' ▸ N.setIn ha hbb hs ho') ?_
    rw [e]
    refine ⟨a1, es', ep', _, DO', SI.append ⟨⟨rfl, b, t, rfl, hb⟩, trivial⟩, fun x hx => ?_⟩
    rcases List.mem_append.mp hx with hx | hx
    · exact (ka x hx).mono h1
    · rw [List.mem_singleton.mp hx]
      exact hkey
end
def fsF (n i : Nat) : List (List Int × List Int) := ((allO n).take i).foldl (fun fs o => addF fs (kindF o) o) []
theorem fsF_next {n i : Nat} {kb : List Int} (h : (allO n)[i]? = some kb) : fsF n (i + 1) = addF (fsF n i) (kindF kb) kb := by
  unfold fsF
  rw [List.take_add_one, h, List.foldl_append]
  rfl
theorem addF_len (fs : List (List Int × List Int)) (k o : List Int) : (addF fs k o).length ≤ fs.length + 1 := by
  unfold addF
  split <;> simp
theorem fsF_small {n i : Nat} (h1 : 1 ≤ n) (h4 : n ≤ 4) : (fsF n i).length ≤ 900 := by
  have g : ∀ (os : List (List Int)) fs, (os.foldl (fun fs o => addF fs (kindF o) o) fs).length ≤ fs.length + os.length := by
    intro os
    induction os with
    | nil => intro fs; simp
    | cons o os ih =>
      intro fs
      have a := ih (addF fs (kindF o) o)
      have b := addF_len fs (kindF o) o
      simp only [List.foldl_cons, List.length_cons]
      omega
  have h := g ((allO n).take i) []
  have h2 := allO_small h1 h4
  rw [List.length_take] at h
  simp only [List.length_nil] at h
  unfold fsF
  omega
/-- between the turns of the second loop over the orders -/
def J3 (w : World) (L : Nat) (n : Nat) (o4 o3 om : Obj) (rl D1 : Addr × Obj) (D2 : Addr) (tp : Tok) (sv : Value) (t1 : List (Addr × Obj)) (i : Nat) (m : Str → Option Value) (news : List (Addr × Obj)) : Prop :=
  ∃ (tail : List (Addr × Obj)) (oc : Obj) (o2 : Obj),
      news = rl :: (D2, o2) :: D1 :: (L + 1 + 1 + 1 + 1, o4) :: (L + 1 + 1 + 1, o3) :: (L + 1 + 1, oc) :: (L + 1, om) :: tail ∧
      TupTail tail ∧ (∀ p ∈ t1, p ∈ tail) ∧ (∃ v, oc.data = .cell v) ∧ m (Str.ofString "firsts") = some (.ref D2) ∧ m (Str.ofString "kinds") = some (.ref D1.1) ∧ m (Str.ofString "orders") = some (.ref rl.1) ∧ m (Str.ofString "pairs") = some (.int 0 tp) ∧ m (Str.ofString "script") = some sv ∧
      FirD PySem.Challenge.rw_ia0001_02.row.prog w tail D2 o2 (fsF n i)
theorem facts3 {w : World} {h₀ h : Heap} {L : Nat} {I : Addr} {oI : Obj} {r : Addr} {lx : Array Value} {lk : Nat} {D1 : Addr × Obj} {D2 : Addr} {o2 o4 o3 oc om : Obj} {tail t1 : List (Addr × Obj)} {ov : Option Value} {k1 : List (List Int × Int)} {fs : List (List Int × List Int)}
    (N : News h₀ L h ((I, oI) :: (r, W.listOf lx lk) :: (D2, o2) :: D1 :: (L + 1 + 1 + 1 + 1, o4) :: (L + 1 + 1 + 1, o3) :: (L + 1 + 1, oc) :: (L + 1, om) :: tail))
    (hT : TupTail tail) (hoc : oc.data = .cell ov) (hC1 : CntD (kd2 w) t1 D1.1 D1.2 k1) (hC2 : FirD PySem.Challenge.rw_ia0001_02.row.prog w tail D2 o2 fs) :
    (∀ p ∈ tail, @Ne Nat p.1 (L + 1 + 1)) ∧ (∀ p ∈ tail, @Ne Nat p.1 D2) ∧ @Ne Nat r (L + 1 + 1) ∧ @Ne Nat D1.1 (L + 1 + 1) ∧ @Ne Nat D2 (L + 1 + 1) := by
  have hs : ∀ p ∈ tail, p ∈ ((I, oI) :: (r, W.listOf lx lk) :: (D2, o2) :: D1 :: (L + 1 + 1 + 1 + 1, o4) :: (L + 1 + 1 + 1, o3) :: (L + 1 + 1, oc) :: (L + 1, om) :: tail) := fun p hp => by simp [hp]
  have mo : (L + 1 + 1, oc) ∈ ((I, oI) :: (r, W.listOf lx lk) :: (D2, o2) :: D1 :: (L + 1 + 1 + 1 + 1, o4) :: (L + 1 + 1 + 1, o3) :: (L + 1 + 1, oc) :: (L + 1, om) :: tail) := by simp
  have md : (D2, o2) ∈ ((I, oI) :: (r, W.listOf lx lk) :: (D2, o2) :: D1 :: (L + 1 + 1 + 1 + 1, o4) :: (L + 1 + 1 + 1, o3) :: (L + 1 + 1, oc) :: (L + 1, om) :: tail) := by simp
  refine ⟨tail_cell N hT hs mo hoc, tail_ne N hT hs md hC2.notSeq, cell_ne N (.tail _ (.head _)) rfl mo hoc, cnt_ne hC1 N (by simp) mo hoc, fun e => ?_⟩
  have h1 := (N _ md).1
  have h2 := (N _ mo).1
  dsimp only at h1 h2
  rw [show D2 = L + 1 + 1 from e, h2] at h1
  cases h1
  exact hC2.notCell _ hoc
theorem end3 {w : World} {h₀ h : Heap} {L : Nat} {n i : Nat} {m : Str → Option Value} {I : Addr} {oI : Obj} {rl R D1 : Addr × Obj} {D2 : Addr} {o2 o2' o4 o3 oc om : Obj} {tail t1 : List (Addr × Obj)} {kb : List Int} {tp : Tok} {sv : Value} (_F : Fr h₀ L h m) (hkb : (allO n)[i]? = some kb)
    (N : News h₀ L h (R :: (I, oI) :: rl :: (D2, o2') :: D1 :: (L + 1 + 1 + 1 + 1, o4) :: (L + 1 + 1 + 1, o3) :: (L + 1 + 1, oc) :: (L + 1, om) :: tail))
    (hT : TupTail tail) (ht1 : ∀ p ∈ t1, p ∈ tail) (t2 : ∃ xs k, R.2.data = .seq xs k) (hoc : ∃ v, oc.data = .cell v)
    (h0 : m (Str.ofString "firsts") = some (.ref D2)) (h1 : m (Str.ofString "kinds") = some (.ref D1.1)) (h2 : m (Str.ofString "orders") = some (.ref rl.1)) (h3 : m (Str.ofString "pairs") = some (.int 0 tp)) (h4 : m (Str.ofString "script") = some sv)
    (C1 : FirD PySem.Challenge.rw_ia0001_02.row.prog w (R :: tail) D2 o2' (addF (fsF n i) (kindF kb) kb))
    (off : LCg.Off1 I (rl :: (D2, o2) :: D1 :: (L + 1 + 1 + 1 + 1, o4) :: (L + 1 + 1 + 1, o3) :: (L + 1 + 1, oc) :: (L + 1, om) :: tail)) (n2 : @Ne Nat R.1 I) :
    ∃ news, News h₀ L h ((I, oI) :: news) ∧ (∀ p ∈ news, p.1 ≠ I) ∧ J3 w L n o4 o3 om rl D1 D2 tp sv t1 (i + 1) m news := by
  refine ⟨rl :: (D2, o2') :: D1 :: (L + 1 + 1 + 1 + 1, o4) :: (L + 1 + 1 + 1, o3) :: (L + 1 + 1, oc) :: (L + 1, om) :: R :: tail, fun p hp => N p ?_, ?_, R :: tail, oc, o2', rfl, ?_, (fun p hp => .tail _ (ht1 p hp)), hoc, h0, h1, h2, h3, h4, ?_⟩
  · simp only [List.mem_cons] at hp ⊢
    rcases hp with h | h | h | h | h | h | h | h | h | h <;> simp [h]
  · intro p hp
    obtain ⟨e1, e2, e3, e4, e5, e6, e7, e0⟩ := off
    simp only [List.mem_cons] at hp
    rcases hp with rfl | rfl | rfl | rfl | rfl | rfl | rfl | rfl | hp <;> first | assumption | exact off1_all e0 p hp
  · intro p hp
    simp only [List.mem_cons] at hp
    rcases hp with rfl | hp
    · exact t2
    · exact hT p hp
  · rw [fsF_next hkb]
    exact C1
end Mine
end
section
open PySem PySem.W PySem.Calls PyProof.Rows
set_option maxRecDepth 100000
namespace Mine
def cK (n : Nat) : List (List Int × Int) := (allO n).foldl (fun kv o => addKV kv (kindF o)) []
def cS (n : Nat) : List (List Int × List Int) := (allO n).foldl (fun fs o => addF fs (kindF o) o) []
theorem kvK_all (n : Nat) : kvK n (allO n).length = cK n := by unfold kvK cK; rw [List.take_length]
theorem fsF_all (n : Nat) : fsF n (allO n).length = cS n := by unfold fsF cS; rw [List.take_length]
def alikeF (n : Nat) (ks : List Int) : List (List Int) := (allO n).filter fun o => decide (thenF o ks = thenF ks o)
theorem first_facts {n : Nat} (h1 : 1 ≤ n) (h4 : n ≤ 4) : ∀ x ∈ cS n, ((alikeF n x.2).length : Int) * lookKV (cK n) x.1 = ((allO n).length : Int) ∧ (alikeF n x.2).any (fun y => decide (y = x.2)) = true ∧ x.2 ∈ allO n ∧ 0 ≤ lookKV (cK n) x.1 ∧ lookKV (cK n) x.1 ≤ 24 ∧ (alikeF n x.2).length ≤ 24 := by
  rcases fin4 h1 h4 with rfl | rfl | rfl | rfl <;> decide +kernel
theorem kinds_facts {n : Nat} (h1 : 1 ≤ n) (h4 : n ≤ 4) : (cS n).length = (cK n).length ∧ ((cK n).length : Int) = [1, 2, 3, 5].getD (n - 1) 0 ∧ ((cK n).map (·.2)).sum = ((allO n).length : Int) ∧ (cK n).length ≤ 24 := by
  rcases fin4 h1 h4 with rfl | rfl | rfl | rfl <;> decide +kernel
theorem allO_in {n : Nat} (h1 : 1 ≤ n) (h4 : n ≤ 4) : ∀ o ∈ allO n, ∀ k ∈ o, 0 ≤ k ∧ k < (n : Int) := fun o ho k hk => by
  have := (allO_rings h1 h4 o ho).1 k hk
  rwa [allO_len o ho] at this
/-- between the turns of the loop over the first orders -/
def J4 (L : Nat) (n : Nat) (o4 o3 om : Obj) (rl D2 D1 : Addr × Obj) (sv : Value) (tail : List (Addr × Obj)) (i : Nat) (m : Str → Option Value) (news : List (Addr × Obj)) : Prop :=
  ∃ (oc : Obj) (tp : Tok), news = rl :: D2 :: D1 :: (L + 1 + 1 + 1 + 1, o4) :: (L + 1 + 1 + 1, o3) :: (L + 1 + 1, oc) :: (L + 1, om) :: tail ∧
    (∃ v, oc.data = .cell v) ∧ m (Str.ofString "firsts") = some (.ref D2.1) ∧ m (Str.ofString "kinds") = some (.ref D1.1) ∧ m (Str.ofString "orders") = some (.ref rl.1) ∧ m (Str.ofString "pairs") = some (.int ((i : Int) * ((allO n).length : Int)) tp) ∧ m (Str.ofString "script") = some sv
end Mine
end
section
open PySem PySem.W PySem.Calls PyProof.Rows
set_option maxRecDepth 100000
namespace Mine
def listsF (n : Nat) : Nat → List (List Int)
  | 0 => [[]]
  | k + 1 => (listsF n k).flatMap fun l => (rangeKs 0 n).map fun x => x :: l
theorem mem_listsF {n : Nat} : ∀ (l : List Int), (∀ x ∈ l, 0 ≤ x ∧ x < (n : Int)) → l ∈ listsF n l.length
  | [], _ => by simp [listsF]
  | x :: l, h => by
    refine List.mem_flatMap.mpr ⟨l, mem_listsF l fun y hy => h y (.tail _ hy), List.mem_map.mpr ⟨x, ?_, rfl⟩⟩
    have := h x (.head _)
    unfold rangeKs
    exact List.mem_map.mpr ⟨x.toNat, List.mem_range.mpr (by omega), by omega⟩
theorem full_mem' {n : Nat} (h1 : 1 ≤ n) (h4 : n ≤ 4) : ∀ l ∈ listsF n n, l.Nodup → l ∈ allO n := by
  rcases fin4 h1 h4 with rfl | rfl | rfl | rfl <;> decide +kernel
theorem full_mem {n : Nat} (h1 : 1 ≤ n) (h4 : n ≤ 4) {ds : List Int} (h : Full n ds) : ds ∈ allO n := by
  have := mem_listsF (n := n) ds h.2.2
  rw [h.1] at this
  exact full_mem' h1 h4 ds this h.2.1
def betweenF (n : Nat) (ds es : List Int) : List (List Int) := (allO n).filter fun o => decide (thenF o ds = thenF es o)
theorem between_ok {n : Nat} (h1 : 1 ≤ n) (h4 : n ≤ 4) : ∀ ds ∈ allO n, ∀ es ∈ allO n, (!(betweenF n ds es).isEmpty) = decide (kindF ds = kindF es) := by
  have : ((allO n).all fun ds => (allO n).all fun es => (!(betweenF n ds es).isEmpty) == decide (kindF ds = kindF es)) = true := by
    rcases fin4 h1 h4 with rfl | rfl | rfl | rfl <;> decide +kernel
  intro ds hd es he
  exact beq_iff_eq.mp (List.all_eq_true.mp (List.all_eq_true.mp this ds hd) es he)
end Mine
namespace Mine
def turnedF (n : Nat) (ds : List Int) : List Int := ds.reverse.map fun k => (n : Int) - 1 - k
theorem turned_ok {n : Nat} (h1 : 1 ≤ n) (h4 : n ≤ 4) : ∀ ds ∈ allO n, turnedF n ds ∈ allO n ∧ kindF (turnedF n ds) = kindF ds := by
  rcases fin4 h1 h4 with rfl | rfl | rfl | rfl <;> decide +kernel
def turnsF (ds : List Int) : Nat → List Int → List (List Int) → List Int × List (List Int)
  | 0, here, turns => (here, turns)
  | f + 1, here, turns => if turns.any (fun x => decide (x = here)) = true then (here, turns) else turnsF ds f (thenF here ds) (turns ++ [here])
theorem turnsF_done {ds here : List Int} {turns : List (List Int)} (h : turns.any (fun x => decide (x = here)) = true) : ∀ f, turnsF ds f here turns = (here, turns)
  | 0 => rfl
  | f + 1 => by rw [turnsF, if_pos h]
def turnsR (n : Nat) (ds : List Int) : List Int × List (List Int) := turnsF ds 5 (rangeKs 0 n) []
theorem turns_ok {n : Nat} (h1 : 1 ≤ n) (h4 : n ≤ 4) : ∀ ds ∈ allO n, (turnsR n ds).2.any (fun x => decide (x = (turnsR n ds).1)) = true ∧ (turnsR n ds).2.filter (fun o => !decide (thenF o ds = thenF ds o)) = [] ∧ (∀ o ∈ (turnsR n ds).2, o ∈ allO n) := by
  rcases fin4 h1 h4 with rfl | rfl | rfl | rfl <;> decide +kernel
theorem then_in {n : Nat} (h1 : 1 ≤ n) (h4 : n ≤ 4) : ∀ o ∈ allO n, ∀ ds ∈ allO n, thenF o ds ∈ allO n := by
  have : ((allO n).all fun o => (allO n).all fun ds => decide (thenF o ds ∈ allO n)) = true := by
    rcases fin4 h1 h4 with rfl | rfl | rfl | rfl <;> decide +kernel
  intro o ho ds hd
  exact of_decide_eq_true (List.all_eq_true.mp (List.all_eq_true.mp this o ho) ds hd)
theorem range_in {n : Nat} (h1 : 1 ≤ n) (h4 : n ≤ 4) : rangeKs 0 n ∈ allO n := by
  rcases fin4 h1 h4 with rfl | rfl | rfl | rfl <;> decide +kernel
end Mine
end
section
open PySem PySem.W PySem.Calls PyProof.Rows
set_option maxRecDepth 100000
namespace Mine
section
variable {M : Model} {A : Around} {E : Value → Shared → Prop} {s : Shared} {env : Env}
theorem wpN_isTrue_or {x : Expr} {rest : List Expr} {pos : Pos} {whole : Sem Value} {Q : Bool → Shared → Prop}
    (h : wpN M A (isTrue x env (eval x env)) (fun c s' => if c then Q true s' else wpAny M A (isTrue (.BoolOp .Or rest pos) env whole) Q E s') E s) :
    wpN M A (isTrue (.BoolOp .Or (x :: rest) pos) env whole) Q E s := by
  show wpN M A (do
    match BoolOp.Or, ← isTrue x env (eval x env) with
    | .And, false => pure false
    | .Or, true => pure true
    | _, _ => allTrue .Or rest env) Q E s
  refine wpN_bindE (wpN_mono h (fun c s' h' => ?_) fun _ _ x => x)
  cases c with
  | false => exact h'
  | true => exact wpAny_pure h'
theorem wpN_isTrue_Compare1 {l r : Expr} {op : CmpOp} {pos : Pos} {whole : Sem Value} {Q : Bool → Shared → Prop}
    (h : wpN M A (eval l env) (fun a s₁ => wpAny M A (eval r env) (fun b s₂ => wpAny M A (compareOp op a b)
      (fun c s₃ => wpAny M A (truthy c) Q E s₃) E s₂) E s₁) E s)
    (hm : behindInMarks op r = false := by with_unfolding_all rfl) : wpN M A (isTrue (.Compare l [op] [r] pos) env whole) Q E s := fun Γ p hΓ g1 g2 => by
  simp only [isTrue_Compare1, markedBehindIn_of_false hm, Sem.wp_bind', Sem.wp_holding, Sem.wp_cmd_standAt, Sem.wp_operate]
  exact Sem.wp_mono M Γ _ (fun a p₁ s₁ h₁ => Sem.wp_mono M Γ _ (fun b _ s₂ h₂ => Sem.wp_mono M Γ _ (fun c p₃ s₃ h₃ => h₃ Γ p₃ hΓ)
    (fun _ _ _ h' => h') _ _ (h₂ Γ _ hΓ)) (fun _ _ _ h' => h') _ _ (h₁ Γ p₁ hΓ)) (fun _ _ _ h' => h') _ _ (h Γ p hΓ g1 g2)
end
end Mine
end
section
open PySem PySem.W PySem.Calls PyProof.Rows
set_option maxRecDepth 100000
namespace Mine
theorem lb_len : typeLookup (.type "bytes") "__len__" = pure (some (.builtin "bytes.__len__")) := by rw [typeLookup_type, builtinLookup_eq_fast]; kernel_rfl
section
variable {prog : Program} {w : World} {A : Around} {E : Value → Shared → Prop} {s : Shared}
theorem lb_extend {R : Result → Shared → Prop} (hh : A.handled = none) (x : Array UInt8) (t : Tok) (S : Addr) (res : Value) (c₀ : Nat) (hS : s.heap.get? S = some { cls := .type "list", data := .seq #[] c₀ })
    (hR : ∀ h' tk acc' c', (∀ b o, b ≠ S → s.heap.get? b = some o → h'.get? b = some o) → h'.get? S = some { cls := .type "list", dict := none, data := .seq acc' c', slots := #[] } →
      ItemsOf (fun i v => ∃ c u, x[i]? = some c ∧ v = .int (c.toNat : Int) u) acc' x.size → R (.ok (.ret res)) { s with heap := h', toks := tk }) (hn : x.size ≤ sizeLine) :
    wpAny (model prog w) A.in1 (Builtin.List.listExtendWith (.ref S) (.bytes x t) res)
      (fun fin s' => match fin with | .done f => R (.ok f) s' | .again c' => c'.quiet = true ∧ codeAny (model prog w) A c' R s') (fun e s' => R (.error e) s') s := by
  have hSI : S ≠ s.heap.objs.size := Nat.ne_of_lt (Heap.lt_size hS)
  have hSf : S ∉ [s.heap.objs.size] := fun hm => hSI (List.mem_singleton.mp hm)
  unfold Builtin.List.listExtendWith
  refine wpAny_bind (wpAny_typeOf (T := "bytes") (v := .bytes x t) rfl ?_)
  have h1 : Builtin.List.listSameRef (.ref S) (.bytes x t) = false := rfl
  have h2 : (Value.type "bytes" == Value.type "list") = false := by decide
  have h3 : (Value.type "bytes" == Value.type "tuple") = false := by decide
  simp only [h1, h2, h3, Bool.or_false, Bool.false_eq_true, if_false]
  refine wpAny_bind (KBw.pyIter_bytes ?_)
  have W := KBw.walks (prog := prog) (w := w) (A := A.in1) hh s.heap.objs.size x t
  refine wpAny_bind (wpAny_holding ?_)
  unfold Builtin.List.listLengthHint
  refine wpAny_bind (wpAny_specialOf (T := "bytes") (v := .bytes x t) rfl lb_len ?_)
  wp_delta
  refine wpAny_bind (wpAny_isInstance (T := "bytes") (v := .bytes x t) (b := true) rfl (by rw [isSubtype_type]; kernel_rfl) ?_)
  show wpAny _ _ (typeOf (Value.bytes x t) >>= _) _ _ _
  refine wpAny_bind (wpAny_typeOf (T := "bytes") (v := .bytes x t) rfl ?_)
  refine wpAny_pure ?_
  rw [if_neg (by decide)]
  refine wpAny_pure ⟨plainId_quiet F.plain_extend_loop _, codeAny_extend_loopS W.toS hn _ hSf _ x.size 0 _ _ _ rfl (Nat.zero_le _) ⟨_, Heap.get?_push_size _ rfl, rfl, rfl⟩ (Heap.get?_push_of_some _ hS) (ItemsOf.nil _) fun s' acc' c' hm hS' hacc => ?_⟩
  rw [Moved.eq_with hm]
  refine hR s'.heap s'.toks acc' c' (fun b ob hb e => hm.heap b ob (fun hmem => ?_) (Heap.get?_push_of_some _ e)) hS' hacc
  rcases List.mem_cons.mp hmem with e' | hmem
  · exact hb e'
  · exact absurd (Heap.lt_size e) (by rw [List.mem_singleton.mp hmem]; exact Nat.lt_irrefl _)
theorem lb_init {R : Result → Shared → Prop} (hh : A.handled = none) (x : Array UInt8) (t : Tok) (S : Addr) (hS : s.heap.get? S = some { cls := .type "list", data := .seq #[] })
    (hR : ∀ h' tk acc' c', (∀ b o, b ≠ S → s.heap.get? b = some o → h'.get? b = some o) → h'.get? S = some { cls := .type "list", dict := none, data := .seq acc' c', slots := #[] } →
      ItemsOf (fun i v => ∃ c u, x[i]? = some c ∧ v = .int (c.toNat : Int) u) acc' x.size → R (.ok (.ret .none)) { s with heap := h', toks := tk }) (hn : x.size ≤ sizeLine) :
    wpAny (model prog w) A.in1 (Builtin.«list.__init__» ⟨[.ref S, .bytes x t], []⟩)
      (fun fin s' => match fin with | .done f => R (.ok f) s' | .again c' => c'.quiet = true ∧ codeAny (model prog w) A c' R s') (fun e s' => R (.error e) s') s := by
  show wpAny _ _ (do let old ← Builtin.List.listItems (.ref S); Builtin.List.listUpdate (.ref S) (fun _ => #[]); letGo old.toList.reverse; Builtin.List.listExtendWith (.ref S) (.bytes x t) .none) _ _ s
  refine wpAny_bind ?_
  unfold Builtin.List.listItems
  refine wpAny_bind (wpAny_seqItems hS rfl (wpAny_pure ?_))
  show wpAny _ _ (updateSeq S (fun _ => #[]) >>= fun _ => letGo (#[] : Array Value).toList.reverse >>= fun _ => Builtin.List.listExtendWith (.ref S) (.bytes x t) .none) _ _ s
  refine wpAny_bind (wpAny_updateSeq hS rfl ?_)
  have hS₂ := Heap.get?_update_self (Obj.mapSeq (fun _ => (#[] : Array Value))) hS rfl
  have oth : ∀ b o, b ≠ S → s.heap.get? b = some o → (s.heap.update S (Obj.mapSeq (fun _ => (#[] : Array Value)))).get? b = some o :=
    fun b o hb e => (Heap.get?_update_other _ _ (Ne.symm hb)).trans e
  refine wpAny_bind (wpAny_letGo ?_)
  refine lb_extend (hn := hn) hh x t S .none _ hS₂ fun h' tk acc' c' hk hS' hacc => ?_
  exact hR h' tk acc' c' (fun b o hb e => hk b o hb (oth b o hb e)) hS' hacc
/-- list(bytes) -/
theorem call_list_bytes {b : Array UInt8} {t : Tok} {ks : List Int} {h₀ : Heap} {L : Addr} {m : Str → Option Value} {news : List (Addr × Obj)} {Q : Value → Shared → Prop} (hh : A.handled = none) (F₀ : Fr h₀ L s.heap m) (N : News h₀ L s.heap news) (hk : KBw.bInts b = ks) (hn : ks.length ≤ 1000)
    (hQ : ∀ D h' tk vs c, Fr h₀ L h' m → News h₀ L h' ((D, listOf (List.toArray vs) c) :: news) → IntsAre vs ks → Q (.ref D) { s with heap := h', toks := tk }) :
    wpAny (model prog w) A (call (.type "list") [.bytes b t]) Q E s := by
  have hsz : b.size ≤ sizeLine := by rw [sizeLine_eq, ← KBw.ints_length, hk]; omega
  refine callType_codes (Q₁ := fun obj s₁ => obj = .ref s.heap.objs.size ∧ s₁ = { s with heap := s.heap.push { cls := .type "list", data := .seq #[] } }) F.called_list (F.typeCall_list_1 _) F.entry_list_init
    (code_list_new _ ⟨rfl, rfl⟩) fun obj s₁ h₁ => ?_
  obtain ⟨rfl, rfl⟩ := h₁
  have hS : (s.heap.push { cls := .type "list", data := .seq #[] }).get? s.heap.objs.size = some { cls := .type "list", data := .seq #[] } := Heap.get?_push_size _ rfl
  refine ⟨⟨_, hS, rfl⟩, F.args_list_init_2 _ _, lb_init (A := A.in1) (hn := hsz) hh b t _ hS fun h' tk acc' c' hk' hS' hacc => ?_⟩
  have keep : ∀ a o, s.heap.get? a = some o → h'.get? a = some o := fun a o e => hk' a o (Nat.ne_of_lt (Heap.lt_size e)) (Heap.get?_push_of_some _ e)
  refine ⟨rfl, hQ _ h' tk acc'.toList c' (F₀.keeps keep) (fun p hp => ?_) ?_⟩
  · rcases List.mem_cons.mp hp with rfl | hp
    · refine ⟨by simpa using hS', Nat.ne_of_gt F₀.ns.lt, next_is_new F₀⟩
    · exact ⟨keep _ _ (N p hp).1, (N p hp).2⟩
  · subst hk
    have hl : acc'.toList.length = (KBw.bInts b).length := by rw [Array.length_toList, hacc.1, KBw.ints_length]
    have g : ∀ (vs : List Value) (ks : List Int), vs.length = ks.length → (∀ (j : Nat) (v : Value), vs[j]? = some v → ∃ k u, ks[j]? = some k ∧ v = .int k u) → IntsAre vs ks := by
      intro vs
      induction vs with
      | nil => intro ks hl _; rw [List.eq_nil_of_length_eq_zero hl.symm]; exact .nil
      | cons v vs ih =>
        intro ks hl hg
        match ks, hl with
        | k :: ks, hl =>
          obtain ⟨k', u, e1, rfl⟩ := hg 0 v rfl
          simp at e1
          subst e1
          exact .cons _ _ (ih ks (by simpa using hl) fun j v' e => by simpa using hg (j + 1) v' (by simpa using e))
    refine g _ _ hl fun j v hv => ?_
    obtain ⟨c, u, hc, rfl⟩ := hacc.2 j v (by simpa using hv)
    exact ⟨_, u, KBw.ints_get hc, rfl⟩
end
end Mine
end
section
open PySem PySem.W PySem.Calls PyProof.Rows
set_option maxRecDepth 100000
set_option maxHeartbeats 8000000
namespace Mine
local macro_rules | `(tactic| walk_at "c_go0") => `(tactic| (
  k_fill
  intro w s₀ s₁ mg mb G Y fa o pm cd doc dV kV ho hd hcd hD hmg hg args vals as hpre hlay hrd hwl hlo
  have KX := kIn_of Y
  have X := (Ground.X G).1
  have V := (Ground.X G).2
  try w_nolog (first | (have GL := glob_more (Ground.glob G (by first | k_qdec | decide +kernel) (by first | k_qdec | decide +kernel)) V) | (have GL := glob_more (Ground.glob G (by decide +kernel)) V))
  refine Ground.open G ?_
  intro T B D TE TW
  try (refine guard_noD D (by decide +kernel) ?_; clear D)
  obtain ⟨_, _, M⟩ := bmod_of_top T
  have TA := at_of_top T
  try (obtain ⟨_, _, he, B0⟩ := based_of_top T rfl hmg ho hd; have he' : cd = _ := he; subst he'; clear he)
  clear hmg
  wrow_args hpre hlay hrd hwl hlo
  refine enter_callC ?_
  w_top on
  refine codeN_mono ?_ (fun _ _ g => GoodW.toG g)
  have K0 := below_caller (Top.heap T)
  have he := Dflts.none hD rfl; subst he; have he := Dflts.noKw hD; subst he
  refine call_cellsC (by decide) ho (fd_plain hd) (Top.nolimit T) hcd rfl (kinds_of (by kinds_ok)) (by decide) fun h₁ tk₁ cells F N0 X0 => ?_
  cells_open X0
  clear hd TA
  k_drop
  skip))

local macro_rules | `(tactic| walk_at "call ref") => `(tactic| ((with_reducible show wpAny _ _ (call (Value.ref _) _) _ _ _); refine hold_of ?_))
local macro_rules | `(tactic| walk_at "exec For Name Call cons nil") => `(tactic| ((with_reducible show wpAny _ _ (exec (Stmt.For _ _ _ _ _) _) _ _ _); refine hold_of ?_))
local macro_rules | `(tactic| walk_at "exec For Tuple Call cons nil") => `(tactic| ((with_reducible show wpAny _ _ (exec (Stmt.For _ _ _ _ _) _) _ _ _); refine hold_of ?_))
local macro_rules | `(tactic| walk_at "setItem ref") => `(tactic| ((with_reducible show wpAny _ _ (setItem (Value.ref _) (Value.ref _) _) _ _ _); refine hold_of ?_))
local macro_rules | `(tactic| walk_at "getItem ref") => `(tactic| ((with_reducible show wpAny _ _ (getItem (Value.ref _) (Value.ref _)) _ _ _); refine hold_of ?_))
local macro_rules | `(tactic| walk_at "compareOp In ref ref") => `(tactic| ((with_reducible show wpAny _ _ (compareOp CmpOp.In (Value.ref _) (Value.ref _)) _ _ _); refine hold_of ?_))
local macro_rules | `(tactic| walk_at "exec AugAssign Subscript") => `(tactic| (refine wpAny_AugAssign_Subscript ?_))
local macro_rules | `(tactic| k_all) => `(tactic| assumption)
local macro_rules | `(tactic| walk_at "eval Dict") => `(tactic| (k_here; (refine Dict_one (by k_asm) (by k_asm) (Top.nolimit (by k_asm)) ?_); intro $(Lean.mkIdent `dN):ident h' o' F' N' $(Lean.mkIdent `ltN):ident $(Lean.mkIdent `loN):ident $(Lean.mkIdent `isN):ident))
local macro_rules | `(tactic| walk_at "mem_it") => `(tactic| repeat (first | exact List.Mem.head _ | refine List.Mem.tail _ ?_))
local macro_rules | `(tactic| walk_at "drop_lt") => `(tactic| repeat ((rename (@LT.lt Nat _ _ _ ∧ _) => hx); clear hx))
local macro_rules | `(tactic| walk_at "drop_ne") => `(tactic| (walk_at "drop_lt"; (repeat ((rename (@Ne Nat _ _ ∧ _) => hx); clear hx)); (repeat ((rename ((@Ne Nat _ _ ∧ _) ∧ _) => hx); clear hx))))
local macro_rules | `(tactic| walk_at "sub_it") => `(tactic| repeat (first | exact fun _ h => h | refine sub_tail ?_))
local macro_rules | `(tactic| walk_at "k_one") => `(tactic| (first | (k_unfold; (try dsimp only)) | walk1 | (dsimp only; walk1)))
local macro_rules | `(tactic| walk_at "eval Call Attribute") => `(tactic| (k_here; (with_reducible show wpAny _ _ (eval (Expr.Call (Expr.Attribute _ _ _) [_, _] [] _) _) _ _ _); refine hold_of ?_))
local macro_rules | `(tactic| walk_at "exec For Name Name cons nil") => `(tactic| ((with_reducible show wpAny _ _ (exec (Stmt.For _ _ _ _ _) _) _ _ _); refine hold_of ?_))
local macro_rules | `(tactic| walk_at "exec While Compare cons nil") => `(tactic| ((with_reducible show wpAny _ _ (exec (Stmt.While _ _ _ _) _) _ _ _); refine hold_of ?_))
/-- a mark: list comprehensions are held -/
def MarkC : Prop := True
local macro_rules | `(tactic| walk_at "eval ListComp") => `(tactic| ((with_reducible rename MarkC => mkC); k_here; k_dflt (refine ListComp_XT (F₀ := by k_asm) (by with_unfolding_all rfl) (by decide) (by rfl) (by decide) (by rfl) ?_)))
theorem Assign_XT {prog : Program} {w : World} {A : Around} {E : Value → Shared → Prop} {s : Shared} {h₀ : Heap} {L : Addr} {m : Str → Option Value} {env : Env} {ct elt iter : Expr} {x y : Str} {px py : Pos} {scope : Scope} {cl : List (Str × Addr)} {pos spos : Pos} {Q : Flow → Shared → Prop} (F₀ : Fr h₀ L s.heap m) (hLe : env.locals = L)
    (hsw : swapsWith (.ListComp elt [⟨.Name x px, iter, [ct], 0⟩] scope pos) (some (.Name y py)) spos.line env = pure true)
    (hclos : closureFor scope env = pure cl) (hcell : ∀ z ∈ scope.names, z.2 ≠ .cell) (hkind : scope.kind = .function)
    (hnames : ∀ z ∈ scope.names, z.2 = .local → scope.names.lookup z.1 = some .local) (hx : scope.names.lookup x = some .local)
    (hy : env.kindOf y = some .local) (hp : (env.scope.kind == .class || (env.scope.kind == .module && env.locals != env.globals)) = false)
    (h : wpAny (model prog w) A (eval iter env) (fun xv s₁ => Hold (LCt.CompSrcT prog w A h₀ L m env ct elt x scope cl (fun s₂ => LCg.FinA h₀ L m s₂ y Q) xv s₁)) E s)
    (hs : ∀ x, foldedSetIterable iter env x = pure x := by intro _; rfl) :
    wpAny (model prog w) A (exec (.Assign [.Name y py] (.ListComp elt [⟨.Name x px, iter, [ct], 0⟩] scope pos) spos) env) Q E s := LCt.Assign_ListComp_T F₀ hLe hsw hclos hcell hkind hnames hx hy hp h hs
local macro_rules | `(tactic| walk_at "exec Assign cons ListComp") => `(tactic| ((with_reducible rename MarkC => mkC); k_here; k_dflt (refine Assign_XT (F₀ := by k_asm) (by rfl) (by with_unfolding_all rfl) (by with_unfolding_all rfl) (by decide) (by rfl) (by decide) (by rfl) (by rfl) (by rfl) ?_)))
local macro_rules | `(tactic| walk_at "call builtin:len") => `(tactic| ((with_reducible rename MarkC => mkC); (with_reducible show wpAny _ _ (call (Value.builtin "len") [Value.ref _]) _ _ _); refine hold_of ?_))
local macro_rules | `(tactic| walk_at "compareOp NotIn bytes ref") => `(tactic| ((with_reducible show wpAny _ _ (compareOp CmpOp.NotIn (Value.bytes _ _) (Value.ref _)) _ _ _); refine hold_of ?_))
theorem cnt_count {K : Type} [DecidableEq K] {prog : Program} {w : World} {knd : HeapKind prog w K} {A : Around} {env : Env} {outer : List Env} {A₀ : Around} {base h₀ : Heap} {L : Addr} {m : Str → Option Value} {mean : ExcName → Option Value} {mg mb : Str → Option Value} {s : Shared} {Q E : Value → Shared → Prop} {news t1 : List (Addr × Obj)} {d : Addr} {od : Obj} {kv : List (K × Int)}
    (C : CntD knd t1 d od kv) (hd : (d, od) ∈ news) (F : Fr h₀ L s.heap m) (N : News h₀ L s.heap news) (e1 : A.frames = some (env :: outer)) (e2 : env.frame = some L) (e3 : env.scope.kind = .function) (e4 : A.handled = none) (e5 : A.depth ≤ 400) (e6 : A.units ≤ 1000)
    (B : Below A₀ base outer h₀) (X : (hd02.heap_39 w.params).In h₀) (T : Top hd02.view_39 (looseW hd02.view_39 []) mean mg mb h₀)
    (ret : ∀ h' tk' t, Fr h₀ L h' m → News h₀ L h' news → Q (.int (kv.map (·.2)).sum t) { s with heap := h', toks := tk' }) :
    Hold (wpAny (model PySem.Challenge.rw_ia0001_02.row.prog w) A (call (.ref 28) [.ref d]) Q E s) := by
  obtain ⟨a1, es, ep, vs, xs, DO, SI, rfl, ka⟩ := C
  refine con_call (count_con w d od es ep vs xs a1 DO SI) F N e1 e2 e3 e4 e5 e6 B X T (N _ hd).1 ?_
  rintro v h' tk' x ⟨t, rfl⟩ F' N' -
  have e : (xs.map (·.2.2)).sum = ((KV xs).map (·.2)).sum := by unfold KV; rw [List.map_map]; rfl
  rw [e]
  exact ret h' tk' t F' N'
theorem shrink5 {h₀ h : Heap} {L : Addr} {r a b c4 c3 c2 c1 : Addr × Obj} {tail : List (Addr × Obj)} (N : News h₀ L h (r :: a :: b :: c4 :: c3 :: c2 :: c1 :: tail)) : News h₀ L h [r, c4, c3, c2, c1] := fun p hp => N p (by
  simp only [List.mem_cons, List.not_mem_nil, or_false] at hp ⊢
  rcases hp with h | h | h | h | h <;> simp [h])
local macro_rules | `(tactic| walk_at "compareOp NotEq ref ref") => `(tactic| ((with_reducible rename MarkC => mkC); (with_reducible show wpAny _ _ (compareOp _ (Value.ref _) (Value.ref _)) _ _ _); refine hold_of ?_))
local macro_rules | `(tactic| walk_at "compareOp Eq ref ref") => `(tactic| ((with_reducible rename MarkC => mkC); (with_reducible show wpAny _ _ (compareOp _ (Value.ref _) (Value.ref _)) _ _ _); refine hold_of ?_))
theorem shrink6 {h₀ h : Heap} {L : Addr} {a b c d r c4 c3 c2 c1 : Addr × Obj} (N : News h₀ L h [a, b, c, d, r, c4, c3, c2, c1]) : News h₀ L h [c4, c3, c2, c1] := fun p hp => N p (by
  simp only [List.mem_cons, List.not_mem_nil, or_false] at hp ⊢
  rcases hp with h | h | h | h <;> simp [h])
def JT (n : Nat) (ds : List Int) (T : Addr) (cs : List (Addr × Obj)) (f : Nat) (m : Str → Option Value) (news : List (Addr × Obj)) : Prop :=
  m (Str.ofString "turns") = some (.ref T) ∧ ∃ (hb : Array UInt8) (ht : Tok) (here : List Int) (turns : List (List Int)) (tvs : List Value) (k : Nat),
    m (Str.ofString "here") = some (.bytes hb ht) ∧ KBw.bInts hb = here ∧ news = (T, listOf tvs.toArray k) :: cs ∧ BytesAre tvs turns ∧ turnsF ds f here turns = turnsR n ds ∧ here ∈ allO n ∧ turns.length + f ≤ 5
theorem List.isEmpty_eq_length_eq_zero' {α : Type} (l : List α) : l.isEmpty = decide (l.length = 0) := by cases l <;> rfl
theorem law2 : PySem.Challenge.rw_ia0001_02.Holds := hd02 (by
  walk_at "c_go0"
  try k_fold
  rename Shared => s₁
  rename World => w
  refine wpN_execs_split 10 ?_
  dsimp only [List.take, List.drop]
  k_steps
  rename List Int => xs
  have hz : ∃ n : Nat, 1 + xs.sum.fmod 4 = (n : Int) ∧ 1 ≤ n ∧ n ≤ 4 := by
    have h0 : 0 ≤ xs.sum.fmod 4 := Int.fmod_nonneg_of_pos _ (by decide)
    have h1 : xs.sum.fmod 4 < 4 := Int.fmod_lt_of_pos _ (by decide)
    exact ⟨(1 + xs.sum.fmod 4).toNat, by omega, by omega, by omega⟩
  generalize 1 + xs.sum.fmod 4 = z at *
  obtain ⟨n, rfl, hn1, hn4⟩ := hz
  rename Fr _ _ _ _ => F₁
  rename News _ _ _ _ => N₁
  refine call_bytes_range (a := 0) (b := (n : Int)) (ns := rangeKs 0 n) rfl (by assumption) (small_one (by omega) (by omega) (by omega) (by omega)) (by rw [rangeSize_nat, rangeKs_length]; omega) (rangeKs_at n) (rangeKs_byte n hn4) (by rw [rangeKs_length]; omega) fun h₂ t₂ tk₂ x₂ => ?_
  have F₂ := F₁.keeps x₂
  have N₂ := N₁.grown x₂
  have hb₂ : KBw.bInts (byteArr (rangeKs 0 n)) = rangeKs 0 n := byteArr_ints (rangeKs_byte n hn4)
  clear F₁ N₁
  k_steps
  refine con_call (orders_con w 4 400 200 (by omega) (by omega) (by omega) _ _ _ hb₂ (by rw [rangeKs_length]; omega)) F₂ N₂ rfl rfl rfl rfl (Nat.le_of_ble_eq_true rfl) (Nat.le_of_ble_eq_true rfl) (by assumption) (by assumption) (by assumption) trivial ?_
  rintro r h₃ tk₃ x₃ ⟨r, us, k₃, rfl, fr, hus⟩ F₃ N₃ grow
  obtain ⟨N₄, off₄⟩ := grow _ _ fr
  simp only [LCg.Off1, and_true] at off₄
  clear N₃ grow F₂ N₂ x₂ x₃ fr
  k_steps
  rename Fr _ _ _ _ => F₅
  rename News _ _ _ _ => N₅
  obtain ⟨news₅, N₅, hr₅, J₅⟩ := start2 (w := w) (n := n) F₅ N₅ ⟨_, by assumption⟩ rfl rfl rfl rfl (by assumption) (by assumption)
  show wpAny _ _ (exec (Stmt.For _ _ _ _ _) _) _ _ _
  refine' For_X s₁.heap ?_ ?fs
  case fs => intro _; rfl
  k_steps
  refine list_X (J2 w s₁.heap.objs.size n _ _ _ _ _ _)
    (by rfl) (N₅ _ hr₅).1 (by rfl) (by rfl) F₅ N₅ ?hold J₅ ?turn ?done (fun _ _ => rfl) PassesOwn.never
  case hold =>
    rintro i m news h ⟨tail, oc, D1, o1, rfl, -⟩ F N
    exact (N _ (.head _)).1
  case turn =>
    --<T1
    rintro i v m₁ news₁ h₁ tk₁ I oI hv ⟨tail, oc, D1, o1, rfl, hT, ⟨ov, hoc⟩, hm1, hm2, hm3, hm4, hC1⟩ hn₁ F₂ N₂
    clear J₅ N₅ hr₅ F₅ hb₂
    walk_at "drop_lt"
    obtain ⟨bv, tv, kb, hkb, rfl, hbv⟩ := hus.get hv
    obtain ⟨q1, q2, q3⟩ := facts2 (L := s₁.heap.objs.size) N₂ hT hoc hC1
    replace hn₁ := off1_of hn₁
    have hI := Kept.mk hn₁
    simp only [LCg.Off1, and_true] at hn₁
    rw [m_put hm1, m_put hm2, m_put hm3, m_put hm4] at F₂
    k_steps
    rename Fr _ _ _ _ => F₃
    rename News _ _ _ _ => N₃
    have hmem := List.mem_of_getElem? hkb
    have hkl : kb.length = n := allO_len kb hmem
    refine con_call (kind_con w bv tv kb hbv (by omega) (allO_rings hn1 hn4 kb hmem)) F₃ N₃ rfl rfl rfl rfl (Nat.le_of_ble_eq_true rfl) (Nat.le_of_ble_eq_true rfl) (by assumption) (by assumption) (by assumption) trivial ?_
    rintro vv h₄ tk₄ x₄ ⟨R, uv, rfl, fr, huv⟩ F₄ N₄ grow
    obtain ⟨N₅, off₅⟩ := grow _ _ fr
    have hO := Kept.mk off₅
    clear F₃ N₃ N₄ x₄ fr grow off₅
    k_steps
    rename Fr _ _ _ _ => F₆
    rename News _ _ _ _ => N₆
    refine cnt_put (knd := kd2 w) (k := kindF kb) (tl := [_, _]) F₆ N₆ (UpdF.tail ?ne (UpdF.tail ?ne2 (UpdF.head fun p hp => Nat.ne_of_lt (ltN p hp)))) (kd2_room _ (Nat.le_of_ble_eq_true rfl)) (sand_key (.head [_]) rfl rfl ?hk) (sub_cons (.head _) (sub_cons (.tail _ (.head _)) fun _ h => nomatch h)) isN loN fun h₇ o₇ F₇ N₇ C₇ => ?_
    case ne => k_ne
    case ne2 => exact Ne.symm hO.out.1
    case hk => exact fun h hp => ⟨R, rfl, tup_key (hp _ (.tail _ (.head _))) huv⟩
    rename (@LT.lt Nat _ _ _ ∧ _) => l1
    have hL1 := Kept.mk l1
    try dsimp only at N₇
    clear F₆ N₆
    k_steps
    refine add_cnt (knd := kd2 w) (tl := _ :: _ :: tail) kd2_room (sand_ext tupMid_ext) hC1 C₇ ?len ?md ?me (fun p hp => .tail _ (.tail _ hp)) (sub_cons (.head _) (sub_cons (.tail _ (.head _)) fun _ h => nomatch h)) ?sub F₇ N₇ rfl rfl rfl rfl (Nat.le_of_ble_eq_true rfl) (Nat.le_of_ble_eq_true rfl) (by assumption) (by assumption) (by assumption) ?_
    case md => walk_at "mem_it"
    case me => walk_at "mem_it"
    case len => exact kvK_small hn1 hn4
    case sub => exact sub_cons (by walk_at "mem_it") (sub_cons (by walk_at "mem_it") (by walk_at "sub_it"))
    intro r₈ h₈ tk₈ o₈ F₈ N₈ off₈ C₈
    have hO8 := Kept.mk off₈
    clear F₇ N₇ C₇
    walk_at "drop_ne"
    k_steps
    rename Fr _ _ _ _ => F₉
    rename News _ _ _ _ => N₉
    obtain ⟨news', N₁₉, hn', J'⟩ := end2 (I := I) (oI := oI) F₉ hkb N₉ hT ⟨_, _, rfl⟩ ⟨_, _, rfl⟩ ⟨_, by assumption⟩ rfl rfl rfl rfl C₈ hI.out (Nat.ne_of_gt hL1.out.2.2.1) (Ne.symm hO.out.2.1) (Ne.symm hO8.out.2.2.2.1)
    exact ⟨_, _, _, news', rfl, F₉, N₁₉, hn', J'⟩
    -->T1
  case done =>
    rintro m₁ news₁ h₁ tk₁ ⟨tail, oc, D1, o1, rfl, hT, ⟨ov, hoc⟩, hm1, hm2, hm3, hm4, hC1⟩ F₂ N₂
    clear J₅ N₅ hr₅ F₅ hb₂
    rw [m_put hm1, m_put hm2, m_put hm3, m_put hm4] at F₂
    rw [hus.length] at hC1
    k_steps
    rename_i D2 _ o2 _ _ lo2 _ _ hi2 _ l2 _ F₃ N₃
    (try clear F₂); (try clear N₂)
    have N₃' : News s₁.heap s₁.heap.objs.size _ ((r, listOf us.toArray k₃) :: (D2, o2) :: _) := news_swap N₃
    have hL2 := Kept.mk l2
    show wpAny _ _ (exec (Stmt.For _ _ _ _ _) _) _ _ _
    refine' For_X s₁.heap ?_ ?fs
    case fs => intro _; rfl
    k_steps
    refine list_X (J3 w s₁.heap.objs.size n _ _ _ (r, listOf us.toArray k₃) (D1, o1) D2 _ _ tail)
      (by rfl) (N₃' _ (.head _)).1 (by rfl) (by rfl) F₃ N₃' ?hold ⟨tail, _, _, rfl, hT, (fun _ h => h), ⟨_, by assumption⟩, rfl, rfl, rfl, rfl, rfl, FirD.nil lo2 hi2⟩ ?turn2 ?done2 (fun _ _ => rfl) PassesOwn.never
    case hold =>
      rintro i m news h ⟨tail', oc', o2', rfl, -⟩ F N
      exact (N _ (.head _)).1
    case turn2 =>
      --<T2
      rintro i v m₁ news₁ h₁ tk₁ I oI hv ⟨tail', oc', o2', rfl, hT', ht1, ⟨ov', hoc'⟩, hm0, hm1, hm2, hm3, hm4, hC2⟩ hn₁ F₄ N₄
      clear N₃' F₃
      walk_at "drop_lt"
      replace hL2 := hL2.out
      obtain ⟨bv, tv, kb, hkb, rfl, hbv⟩ := hus.get hv
      obtain ⟨q1, q2, q3, q4, q5⟩ := facts3 (L := s₁.heap.objs.size) N₄ hT' hoc' hC1 hC2
      replace hn₁ := off1_of hn₁
      have hI := Kept.mk hn₁
      simp only [LCg.Off1, and_true] at hn₁
      rw [m_put hm0, m_put hm1, m_put hm2, m_put hm3, m_put hm4] at F₄
      k_steps
      rename Fr _ _ _ _ => F₅
      rename News _ _ _ _ => N₅
      refine Call_setdefault_X (knd := knF _ w) (show _ < cLine from Nat.le_of_ble_eq_true rfl) hC2.1 ?_ rfl rfl rfl
      k_steps
      refine ⟨rfl, fir_raw hC2 N₅ (by walk_at "mem_it"), ?_⟩
      k_steps
      have hmem := List.mem_of_getElem? hkb
      have hkl : kb.length = n := allO_len kb hmem
      refine con_call (kind_con w bv tv kb hbv (by omega) (allO_rings hn1 hn4 kb hmem)) F₅ N₅ rfl rfl rfl rfl (Nat.le_of_ble_eq_true rfl) (Nat.le_of_ble_eq_true rfl) (by assumption) (by assumption) (by assumption) trivial ?_
      rintro vv h₆ tk₆ x₆ ⟨R, uv, rfl, fr, huv⟩ F₆ N₆ grow
      obtain ⟨N₇, off₇⟩ := grow _ _ fr
      simp only [LCg.Off1, and_true] at off₇
      clear F₅ N₅ N₆ x₆ fr grow
      k_steps
      have hoR := Kept.mk off₇
      refine fir_set (tl := _ :: tail') hC2 F₆ N₇ (UpdF.tail (Ne.symm hoR.out.2.2.1) (UpdF.tail (Ne.symm hn₁.2.1) (UpdF.tail (Nat.ne_of_lt hL2.1) (UpdF.head ?all)))) (fun h hp => tup_key (hp _ (.head _)) huv) (fun p hp => .tail _ hp) (sub_cons (.head _) (by walk_at "sub_it")) hbv (fsF_small hn1 hn4) ?_
      case all => k_all
      intro h₈ o₈ tk₈ v₈ F₈ N₈ C₈
      (try dsimp only at N₈)
      clear F₆ N₇
      k_steps
      rename Fr _ _ _ _ => F₉
      rename News _ _ _ _ => N₉
      obtain ⟨news', N₁₉, hn', J'⟩ := end3 (I := I) (oI := oI) (o2 := o2') F₉ hkb N₉ hT' ht1 ⟨_, _, rfl⟩ ⟨_, by assumption⟩ rfl rfl rfl rfl rfl C₈ hI.out (Ne.symm hoR.out.1)
      exact ⟨_, _, _, news', rfl, F₉, N₁₉, hn', J'⟩
      -->T2
    case done2 =>
      rintro m₁ news₁ h₁ tk₁ ⟨tail', oc', o2', rfl, hT', ht1, ⟨ov', hoc'⟩, hm0, hm1, hm2, hm3, hm4, hC2⟩ F₄ N₄
      clear N₃' F₃
      walk_at "drop_lt"
      rw [m_put hm0, m_put hm1, m_put hm2, m_put hm3, m_put hm4] at F₄
      rw [hus.length] at hC2
      replace hC1 := hC1.mono ht1
      change CntD (kd2 w) tail' D1 o1 (kvK n (allO n).length) at hC1
      change FirD _ _ tail' D2 o2' (fsF n (allO n).length) at hC2
      rw [kvK_all] at hC1
      rw [fsF_all] at hC2
      k_steps
      show wpAny _ _ (exec (Stmt.For _ _ _ _ _) _) _ _ _
      refine' For_X s₁.heap ?_ ?fs
      case fs => intro _; rfl
      have C2 := hC2
      obtain ⟨hS2, es2, ep2, vs2, DO2, SB2, ka2⟩ := C2
      have hd2 := (N₄ (D2, o2') (by walk_at "mem_it")).1
      refine Call_items_X hS2 (DO2.raw hd2) (by rfl) (by rfl) (fun Q' hq => wpAny_Name (wpAny_loadName_local (by rfl) (by rfl) F₄.ns (by rfl) hq) (by decide)) ?_
      refine items_Xc (J4 s₁.heap.objs.size n _ _ _ (r, listOf us.toArray k₃) (D2, o2') (D1, o1) _ tail')
        (by rfl) ⟨_, Heap.get?_push_size _ rfl, rfl, rfl⟩ (Heap.get?_push_of_some _ hd2) DO2.exact DO2.data (F₄.push _) (fun p hp => ⟨Heap.get?_push_of_some _ (N₄ p hp).1, (N₄ p hp).2⟩) ?hold ⟨_, _, rfl, ⟨_, hoc'⟩, rfl, rfl, rfl, (by rw [Int.natCast_zero, Int.zero_mul]; rfl), rfl⟩ ?turn3 ?done3 PassesOwn.never
      case hold =>
        rintro i m news h ⟨oc, tp, rfl, -⟩ F N
        exact (N _ (.tail _ (.head _))).1
      case turn3 =>
        --<T3
        rintro i en m₁ news₁ h₁ tk₁ I oI hen ⟨oc, tp, rfl, ⟨ov, hoc⟩, hm0, hm1, hm2, hm3, hm4⟩ hn₁ F₅ N₅
        clear F₄ N₄
        obtain ⟨q1, q2, q3, q4, q5⟩ := facts3 (L := s₁.heap.objs.size) N₅ hT' hoc hC1 hC2
        rw [DO2.get] at hen
        obtain ⟨⟨kk, a, va⟩, hv, rfl⟩ := Option.map_eq_some_iff.mp hen
        obtain ⟨x, bo, to, hx, hxk, hxv, hbo⟩ := SB2.get hv
        dsimp only at hxk hxv
        subst hxk
        subst hxv
        dsimp only [entryOfKey]
        replace hn₁ := off1_of hn₁
        have hI := Kept.mk hn₁
        simp only [LCg.Off1, and_true] at hn₁
        rw [m_put hm0, m_put hm1, m_put hm2, m_put hm3, m_put hm4] at F₅
        have husl := hus.length
        have hsm := allO_small hn1 hn4
        change us.length = (allO n).length at husl
        have mk : MarkC := trivial
        have hxm := List.mem_of_getElem? hx
        obtain ⟨ff1, ff2, ff3, ff4, ff5, ff6⟩ := first_facts hn1 hn4 x hxm
        have hxl : x.2.length = n := allO_len _ ff3
        have hxi := allO_in hn1 hn4 _ ff3
        k_steps
        rename Fr _ _ _ _ => F₆
        rename News _ _ _ _ => N₆
        show LCt.CompSrcT _ _ _ _ _ _ _ _ _ _ _ _ _ _ _
        have husl := hus.length
        have hsm := allO_small hn1 hn4
        change us.length = (allO n).length at husl
        refine LCt.CompSrcT.ledger rfl F₆ N₆ (.tail _ (.head _)) (by rw [sizeLine_eq, List.size_toArray]; omega) fun g => compT_ind (fun j ys news => news = _ ∧ BytesAre ys (((allO n).take j).filter fun o => decide (thenF o x.2 = thenF x.2 o))) us.length ?step ?fin _ _ _ _ (by simp) ⟨rfl, trivial⟩
        case step =>
          --<S3
          rintro j ys news hj ⟨rfl, hys⟩ v I' oI' C' oC' D' m' h₄ tk₄ E₄ hvj hns hm F₈ N₈ off₈ ne₈
          obtain ⟨bv, tv, kb, hkb, rfl, hbv⟩ := hus.get (by simpa using hvj)
          change (allO n)[j]? = some kb at hkb
          have hkm := List.mem_of_getElem? hkb
          have hkl : kb.length = n := allO_len _ hkm
          have hki := allO_in hn1 hn4 _ hkm
          k_steps
          refine con_call (then_con w bv bo tv to kb x.2 hbv hbo (fun k hk => by rw [hxl]; exact (hki k hk).2) (by omega) (by omega)) F₈ N₈ rfl rfl rfl rfl (Nat.le_of_ble_eq_true rfl) (Nat.le_of_ble_eq_true rfl) (by assumption) (by assumption) (by assumption) trivial ?_
          rintro vv h₅ tk₅ x₅ ⟨d1, t1', rfl, hd1⟩ F₉ N₉ -
          clear F₈ N₈ x₅
          k_steps
          refine con_call (then_con w bo bv to tv x.2 kb hbo hbv (fun k hk => by rw [hkl]; exact (hxi k hk).2) (by omega) (by omega)) F₉ N₉ rfl rfl rfl rfl (Nat.le_of_ble_eq_true rfl) (Nat.le_of_ble_eq_true rfl) (by assumption) (by assumption) (by assumption) trivial ?_
          rintro vv h₆ tk₆ x₆ ⟨d2, t2', rfl, hd2'⟩ F₁₀ N₁₀ -
          clear F₉ N₉ x₆
          k_steps
          · rename Fr _ _ _ _ => F₁₁
            rename News _ _ _ _ => N₁₁
            rename _ = _ => hbe
            rw [bytes_beq hd1 hd2'] at hbe
            have he := of_decide_eq_true hbe
            show LCg.CompEnd _ _ _ _ _ _ _ _ _ _ _ _ _ _
            refine LCg.CompEnd.intro F₁₁ N₁₁ _ (fun _ hp => hp) off₈ (.inr ⟨_, .tail _ (.head _), rfl, _, rfl⟩) ⟨rfl, ?_⟩
            rw [List.take_add_one, hkb, Option.toList_some, List.filter_append, show [kb].filter (fun o => decide (thenF o x.2 = thenF x.2 o)) = [kb] by simp [he]]
            exact hys.append (BytesAre.one hbv)
          · rename Fr _ _ _ _ => F₁₁
            rename News _ _ _ _ => N₁₁
            rename _ = false => hbe
            rw [bytes_beq hd1 hd2'] at hbe
            have he := of_decide_eq_false hbe
            show LCg.CompEnd _ _ _ _ _ _ _ _ _ _ _ _ _ _
            refine LCg.CompEnd.intro F₁₁ N₁₁ _ (fun _ hp => hp) off₈ (.inr ⟨_, .tail _ (.head _), rfl, _, rfl⟩) ⟨rfl, ?_⟩
            rw [List.take_add_one, hkb, Option.toList_some, List.filter_append, show [kb].filter (fun o => decide (thenF o x.2 = thenF x.2 o)) = [] by simp [he], List.append_nil]
            exact hys
          -->S3
        case fin =>
          rintro ys news ⟨rfl, hys⟩ D₂ h₄ tk₄ F₈ N₈ off₈
          rw [husl, List.take_length] at hys
          change BytesAre ys (alikeF n x.2) at hys
          have hyl := hys.length
          have hta : KeyIn (knF _ w) tail' x.1 a := ka2 _ (List.mem_of_getElem? hv)
          simp only [LCg.Off1, and_true] at off₈
          k_steps
          refine len_vals (vs := ys) ⟨_, (N₈ _ (.head _)).1, rfl, _, rfl⟩ hyl (by omega) ?_
          k_steps
          refine Call_get2_X (knd := kd2 w) (kd2_room _ (Nat.le_of_ble_eq_true rfl)) (cnt_sys hC1) ?_ rfl rfl rfl
          k_steps
          refine ⟨rfl, cnt_raw hC1 N₈ (by walk_at "mem_it"), ?_⟩
          k_steps
          rename Fr _ _ _ _ => F₉
          rename News _ _ _ _ => N₉
          refine cnt_getfin (tl := _ :: tail') (k := x.1) hC1 N₉ (by walk_at "mem_it") (by walk_at "sub_it") (sand_key (.head _) rfl rfl (fun h hp => ⟨a, rfl, hta h fun p hp' => hp p (.tail _ hp')⟩)) (sub_cons (.head _) (by walk_at "sub_it")) fun tg => ?_
          replace N₉ := news_drop N₉
          (try clear F₈); (try clear N₈)
          k_steps
          rw [ff1]
          refine len_vals (vs := us) ⟨_, (N₉ _ (.tail _ (.tail _ (.head _)))).1, rfl, _, rfl⟩ husl (by omega) ?_
          k_steps
          · exact absurd rfl (by assumption : ((allO n).length : Int) ≠ ((allO n).length : Int))
          have hlst : Heap.IsList _ D₂ ys.toArray := ⟨_, (N₉ (D₂, LCg.lst ys) (.head _)).1, rfl, _, rfl⟩
          refine notin_bytes (vs := ys) (k := x.2) hlst hys hbo ?_
          rw [ff2]
          k_steps
          refine len_vals (vs := ys) ⟨_, (N₉ _ (.head _)).1, rfl, _, rfl⟩ hyl (by omega) ?_
          k_steps
          refine Call_get2_X (knd := kd2 w) (kd2_room _ (Nat.le_of_ble_eq_true rfl)) (cnt_sys hC1) ?_ rfl rfl rfl
          k_steps
          refine ⟨rfl, cnt_raw hC1 N₉ (by walk_at "mem_it"), ?_⟩
          k_steps
          rename Fr _ _ _ _ => F₁₀
          rename News _ _ _ _ => N₁₀
          refine cnt_getfin (tl := _ :: tail') (k := x.1) hC1 N₁₀ (by walk_at "mem_it") (by walk_at "sub_it") (sand_key (.head _) rfl rfl (fun h hp => ⟨a, rfl, hta h fun p hp' => hp p (.tail _ hp')⟩)) (sub_cons (.head _) (by walk_at "sub_it")) fun tg' => ?_
          replace N₁₀ := news_drop N₁₀
          (try clear F₉); (try clear N₉)
          k_steps
          rename Fr _ _ _ _ => F₁₁
          rename News _ _ _ _ => N₁₁
          have hpair : (i : Int) * ((allO n).length : Int) + ((alikeF n x.2).length : Int) * lookKV (cK n) x.1 = ((i + 1 : Nat) : Int) * ((allO n).length : Int) := by
            rw [ff1, Int.natCast_add, Int.add_mul]; simp
          exact ⟨_, _, _, _, rfl, F₁₁, news_drop N₁₁, off1_all hI.out, _, _, rfl, ⟨_, by assumption⟩, rfl, rfl, rfl, congrArg (fun z => some (Value.int z _)) hpair, rfl⟩
        -->T3
      case done3 =>
        rintro m₁ news₁ h₁ tk₁ ⟨oc, tp, rfl, ⟨ov, hoc⟩, hm0, hm1, hm2, hm3, hm4⟩ F₅ N₅
        clear F₄ N₄
        obtain ⟨kf1, kf2, kf3, kf4⟩ := kinds_facts hn1 hn4
        rw [DO2.size, SB2.length, kf1, Int.mul_comm] at hm3
        rw [m_put hm0, m_put hm1, m_put hm2, m_put hm3, m_put hm4] at F₅
        have husl := hus.length
        have hsm := allO_small hn1 hn4
        change us.length = (allO n).length at husl
        have mk : MarkC := trivial
        k_steps
        refine len_vals (vs := us) ⟨_, (N₅ _ (.head _)).1, rfl, _, rfl⟩ husl (by omega) ?_
        k_steps
        refine cnt_len hC1 N₅ (by walk_at "mem_it") (by omega) fun t => ?_
        k_steps
        refine cnt_len hC1 N₅ (by walk_at "mem_it") (by omega) fun t => ?_
        have kf2' : ((cK n).length : Int) = [1, 2, 3, 5].getD ((n : Int) - 1).toNat 0 := by
          rw [show ((n : Int) - 1).toNat = n - 1 by omega]; exact kf2
        iterate 20 (walk_at "k_one")
        · exact absurd kf2' (by assumption)
        k_steps
        rename Fr _ _ _ _ => F₆
        rename News _ _ _ _ => N₆
        refine cnt_count hC1 ?ma F₆ N₆ rfl rfl rfl rfl (Nat.le_of_ble_eq_true rfl) (Nat.le_of_ble_eq_true rfl) (by assumption) (by assumption) (by assumption) ?_
        case ma => walk_at "mem_it"
        intro h₂ tk₂ t₂ F₇ N₇
        clear F₆ N₆
        k_steps
        refine len_vals (vs := us) ⟨_, (N₇ (r, listOf us.toArray k₃) (by walk_at "mem_it")).1, rfl, _, rfl⟩ husl (by omega) ?_
        iterate 2 (walk_at "k_one")
        rw [kf3, show ((((allO n).length : Nat) : Int) != (((allO n).length : Nat) : Int)) = false by simp]
        replace N₇ : News s₁.heap s₁.heap.objs.size _ [_, _, _, _, _] := shrink5 (news_drop N₇)
        repeat ((rename (_ : Int) = _ => hx); clear hx)
        walk_at "drop_lt"
        (try clear kf1); (try clear kf4)
        (try clear N₅); (try clear F₅); (try clear hd2); (try clear ka2); (try clear SB2); (try clear DO2); (try clear hS2); (try clear hC1); (try clear hC2); (try clear hL2); (try clear ht1); (try clear hT'); (try clear mk); (try clear N₃); (try clear hT)
        have r3 := cell_ne (a := r) (o := listOf us.toArray k₃) (b := s₁.heap.objs.size + 1 + 1 + 1) N₇ (.head _) rfl (.tail _ (.tail _ (.head _))) (by assumption)
        have r4 := cell_ne (a := r) (o := listOf us.toArray k₃) (b := s₁.heap.objs.size + 1 + 1 + 1 + 1) N₇ (.head _) rfl (.tail _ (.head _)) (by assumption)
        k_steps
        rename_i S1 w1 _ F₈ N₈ hI1 hC1' _ l1
        have hS1 := Kept.mk l1
        refine con_call (drawn_con w S1 w1 (xs.take 4) n _ hI1 (by rw [hC1']; omega) hn1 hn4) F₈ N₈ rfl rfl rfl rfl (Nat.le_of_ble_eq_true rfl) (Nat.le_of_ble_eq_true rfl) (by assumption) (by assumption) (by assumption) ⟨_, (N₈ (S1, listOf w1.toArray 0) (.head _)).1, rfl, _, rfl⟩ ?_
        rintro vv h₉ tk₉ x₉ ⟨b1, t1, ds, rfl, hb1, hf1⟩ F₉ N₉ -
        replace N₉ := news_drop N₉
        clear F₈ N₈ x₉
        walk_at "drop_lt"
        k_steps
        rename_i S2 w2 _ F₁₀ N₁₀ hI2 hC2' _ l2
        refine con_call (drawn_con w S2 w2 _ n _ hI2 (by rw [hC2']; omega) hn1 hn4) F₁₀ N₁₀ rfl rfl rfl rfl (Nat.le_of_ble_eq_true rfl) (Nat.le_of_ble_eq_true rfl) (by assumption) (by assumption) (by assumption) ⟨_, (N₁₀ (S2, listOf w2.toArray 0) (.head _)).1, rfl, _, rfl⟩ ?_
        rintro vv h₁₁ tk₁₁ x₁₁ ⟨b2, t2, es, rfl, hb2, hf2⟩ F₁₁ N₁₁ -
        replace N₁₁ := news_drop N₁₁
        clear F₁₀ N₁₀ x₁₁
        walk_at "drop_lt"
        have mk : MarkC := trivial
        have hdm := full_mem hn1 hn4 hf1
        have hem := full_mem hn1 hn4 hf2
        have hdl : ds.length = n := hf1.1
        have hel : es.length = n := hf2.1
        have hbo := between_ok hn1 hn4 ds hdm es hem
        k_steps
        rename Fr _ _ _ _ => F₁₂
        rename News _ _ _ _ => N₁₂
        simp only [List.cons_append, List.nil_append] at N₁₂
        replace N₁₂ := news_drop N₁₂
        show LCt.CompSrcT _ _ _ _ _ _ _ _ _ _ _ _ _ _ _
        refine LCt.CompSrcT.ledger rfl F₁₂ N₁₂ (.head _) (by rw [sizeLine_eq, List.size_toArray]; omega) fun g => compT_ind (fun j ys news => news = _ ∧ BytesAre ys (((allO n).take j).filter fun o => decide (thenF o ds = thenF es o))) us.length ?step6 ?fin6 _ _ _ _ (by simp) ⟨rfl, trivial⟩
        case step6 =>
          --<S6
          rintro j ys news hj ⟨rfl, hys⟩ v I' oI' C' oC' D' m' h₄ tk₄ E₄ hvj hns hm F₈ N₈ off₈ ne₈
          obtain ⟨bv, tv, kb, hkb, rfl, hbv⟩ := hus.get (by simpa using hvj)
          change (allO n)[j]? = some kb at hkb
          have hkm := List.mem_of_getElem? hkb
          have hkl : kb.length = n := allO_len _ hkm
          have hki := allO_in hn1 hn4 _ hkm
          k_steps
          refine con_call (then_con w bv b1 tv t1 kb ds hbv hb1 (fun k hk => by rw [hdl]; exact (hki k hk).2) (by omega) (by omega)) F₈ N₈ rfl rfl rfl rfl (Nat.le_of_ble_eq_true rfl) (Nat.le_of_ble_eq_true rfl) (by assumption) (by assumption) (by assumption) trivial ?_
          rintro vv h₅ tk₅ x₅ ⟨d1, t1', rfl, hd1⟩ F₉ N₉ -
          clear F₈ N₈ x₅
          k_steps
          refine con_call (then_con w b2 bv t2 tv es kb hb2 hbv (fun k hk => by rw [hkl]; exact (hf2.2.2 k hk).2) (by omega) (by omega)) F₉ N₉ rfl rfl rfl rfl (Nat.le_of_ble_eq_true rfl) (Nat.le_of_ble_eq_true rfl) (by assumption) (by assumption) (by assumption) trivial ?_
          rintro vv h₆ tk₆ x₆ ⟨d2, t2', rfl, hd2'⟩ F₁₀ N₁₀ -
          clear F₉ N₉ x₆
          k_steps
          · rename Fr _ _ _ _ => F₁₁
            rename News _ _ _ _ => N₁₁
            rename _ = true => hbe
            rw [bytes_beq hd1 hd2'] at hbe
            have he := of_decide_eq_true hbe
            show LCg.CompEnd _ _ _ _ _ _ _ _ _ _ _ _ _ _
            refine LCg.CompEnd.intro F₁₁ N₁₁ _ (fun _ hp => hp) off₈ (.inr ⟨_, .head _, rfl, _, rfl⟩) ⟨rfl, ?_⟩
            rw [List.take_add_one, hkb, Option.toList_some, List.filter_append, show [kb].filter (fun o => decide (thenF o ds = thenF es o)) = [kb] by simp [he]]
            exact hys.append (BytesAre.one hbv)
          · rename Fr _ _ _ _ => F₁₁
            rename News _ _ _ _ => N₁₁
            rename _ = false => hbe
            rw [bytes_beq hd1 hd2'] at hbe
            have he := of_decide_eq_false hbe
            show LCg.CompEnd _ _ _ _ _ _ _ _ _ _ _ _ _ _
            refine LCg.CompEnd.intro F₁₁ N₁₁ _ (fun _ hp => hp) off₈ (.inr ⟨_, .head _, rfl, _, rfl⟩) ⟨rfl, ?_⟩
            rw [List.take_add_one, hkb, Option.toList_some, List.filter_append, show [kb].filter (fun o => decide (thenF o ds = thenF es o)) = [] by simp [he], List.append_nil]
            exact hys
          -->S6
        case fin6 =>
          rintro ys news ⟨rfl, hys⟩ D₂ h₄ tk₄ F₈ N₈ off₈
          rw [husl, List.take_length] at hys
          change BytesAre ys (betweenF n ds es) at hys
          have hyl := hys.length
          simp only [LCg.Off1, and_true] at off₈
          have hye : (!ys.isEmpty) = decide (kindF ds = kindF es) := by
            rw [← hbo, List.isEmpty_eq_length_eq_zero', List.isEmpty_eq_length_eq_zero', hyl]
          k_steps
          rename_i l₉ _ F₉ N₉ _
          have hl9 : Heap.IsList _ l₉ #[] := ⟨_, (N₉ (l₉, listOf #[] 0) (.head _)).1, rfl, _, rfl⟩
          have hl8 : Heap.IsList _ D₂ ys.toArray := ⟨_, (N₉ (D₂, LCg.lst ys) (.tail _ (.head _))).1, rfl, _, rfl⟩
          refine ne_nil (vs := ys) hl8 hl9 (Nat.le_of_ble_eq_true rfl) ?_
          rw [hye]
          k_steps
          refine con_call (kind_con w b1 t1 ds hb1 (by omega) (allO_rings hn1 hn4 ds hdm)) F₉ N₉ rfl rfl rfl rfl (Nat.le_of_ble_eq_true rfl) (Nat.le_of_ble_eq_true rfl) (by assumption) (by assumption) (by assumption) trivial ?_
          rintro vv h₅ tk₅ x₅ ⟨R1, u1, rfl, fr, hu1⟩ F₁₀ N₁₀ grow
          obtain ⟨N₁₁, off₁₁⟩ := grow _ _ fr
          clear F₉ N₉ N₁₀ x₅ fr grow hl8 hl9
          k_steps
          refine con_call (kind_con w b2 t2 es hb2 (by omega) (allO_rings hn1 hn4 es hem)) F₁₀ N₁₁ rfl rfl rfl rfl (Nat.le_of_ble_eq_true rfl) (Nat.le_of_ble_eq_true rfl) (by assumption) (by assumption) (by assumption) trivial ?_
          rintro vv h₆ tk₆ x₆ ⟨R2, u2, rfl, fr, hu2⟩ F₁₂ N₁₂ grow
          obtain ⟨N₁₃, off₁₃⟩ := grow _ _ fr
          clear F₁₀ N₁₁ N₁₂ x₆ fr grow
          k_steps
          have hT1 : Heap.IsTuple _ R1 u1.toArray := tup_of (N₁₃ (R1, tupO u1) (.tail _ (.head _))).1
          have hT2 : Heap.IsTuple _ R2 u2.toArray := tup_of (N₁₃ (R2, tupO u2) (.head _)).1
          refine eq_tup hT1 hT2 hu1 hu2 (Nat.le_of_ble_eq_true rfl) ?_
          iterate 2 (walk_at "k_one")
          rw [show (decide (kindF ds = kindF es) != decide (kindF ds = kindF es)) = false by simp]
          k_steps
          replace N₁₃ := shrink6 N₁₃
          (try clear mk); (try clear hT1); (try clear hT2); (try clear off₁₁); (try clear off₁₃); (try clear off₈); (try clear hys); (try clear hyl); (try clear hye); (try clear hu1); (try clear hu2); (try clear hbo)
          walk_at "drop_ne"
          show wpN _ _ (execs _ _) _ _ _
          refine wpN_execs_cons (wpN_Assign_Name ?_ ?_)
          case refine_2 => rfl
          refine wpN_Call_ofName ?_
          k_steps
          refine callWithN_typeArg ?_
          refine ListComp_BN F₁₂ (by with_unfolding_all rfl) (by decide) (by rfl) (by decide) (by rfl) ?_
          refine wpN_Call_ofName ?_
          k_steps
          refine callWithN_K (K := hd02.heap_39 w.params) (by k_in) (by k_is) ?_
          k_steps
          have hds0 : 0 < ds.length := by omega
          have sw : ∀ tn, _ := fun tn => swap_con w b1 t1 tn ds hb1 hds0 (by omega)
          rw [hdl] at sw
          refine con_callN (sw _) F₁₂ N₁₃ rfl rfl rfl rfl (Nat.le_of_ble_eq_true rfl) (Nat.le_of_ble_eq_true rfl) (by assumption) (by assumption) (by assumption) trivial ?_
          rintro vv h₁₄ tk₁₄ x₁₄ ⟨c1, u1, rfl, hc1⟩ F₁₄ N₁₄ -
          clear F₁₂ N₁₃ x₁₄
          show SrcB _ _ _ _ _ _ _ _ _ _ _ _ _ _
          refine SrcB.intro rfl F₁₄ N₁₄ hc1 (by rw [List.length_reverse]; omega) fun g => comp_ind (fun j ys news => news = _ ∧ IntsAre ys ((ds.reverse.take j).map fun k => (n : Int) - 1 - k)) ds.reverse.length ?step7 ?fin7 _ _ _ _ (by omega) ⟨rfl, IntsAre.nil⟩
          case step7 =>
            rintro j ys news hj ⟨rfl, hys⟩ v I' oI' C' oC' D' m' h₄ tk₄ E₄ ⟨k, u, hk, rfl⟩ hns hm F₈ N₈ off₈ ne₈
            k_steps
            rename Fr _ _ _ _ => F₉
            rename News _ _ _ _ => N₉
            show LCg.CompEnd _ _ _ _ _ _ _ _ _ _ _ _ _ _
            refine LCg.CompEnd.intro F₉ N₉ _ (fun _ hp => hp) off₈ trivial ⟨rfl, ?_⟩
            rw [List.take_add_one, hk, Option.toList_some, List.map_append]
            exact hys.append (ints_one rfl)
          case fin7 =>
            rintro ys news ⟨rfl, hys⟩ D₃ h₄ tk₄ F₈ N₈ off₈
            rw [List.take_length] at hys
            change IntsAre ys (turnedF n ds) at hys
            obtain ⟨ht1, ht2⟩ := turned_ok hn1 hn4 ds hdm
            have htin := allO_in hn1 hn4 _ ht1
            have htl := allO_len _ ht1
            have hdin : ∀ x ∈ turnedF n ds, 0 ≤ x ∧ x < 256 := fun x hx => by
              have := htin x hx
              omega
            have hbb : KBw.bInts (byteArr (turnedF n ds)) = turnedF n ds := byteArr_ints hdin
            k_steps
            rename Fr _ _ _ _ => F₉
            rename News _ _ _ _ => N₉
            replace N₉ := news_drop N₉
            show wpN _ _ (execs _ _) _ _ _
            refine wpN_execs_cons (wpN_If (wpN_isTrue_or (wpN_isTrue_Compare1 (wpN_Call_ofName ?_))))
            k_steps
            refine callWithN_K (K := hd02.heap_39 w.params) (by k_in) (by k_is) ?_
            k_steps
            refine con_callN (sw _) F₉ N₉ rfl rfl rfl rfl (Nat.le_of_ble_eq_true rfl) (Nat.le_of_ble_eq_true rfl) (by assumption) (by assumption) (by assumption) trivial ?_
            rintro vv h₁₆ tk₁₆ x₁₆ ⟨c2, u2, rfl, hc2⟩ F₁₆ N₁₆ -
            clear F₉ N₉ x₁₆
            have hdin1 : ∀ x ∈ ds.reverse, 0 ≤ x ∧ x < 256 := fun x hx => by
              have := hf1.2.2 x (List.mem_reverse.mp hx)
              omega
            have hbr : KBw.bInts (byteArr ds.reverse) = ds.reverse := byteArr_ints hdin1
            k_steps
            refine call_list_bytes rfl F₁₆ N₁₆ hb1 (by omega) fun D₄ h₁₇ tk₁₇ vs4 c4' F₁₇ N₁₇ hi4 => ?_
            have hvl := hi4.length
            clear F₁₆ N₁₆
            iterate 7 (walk_at "k_one")
            have hl4 : Heap.IsList _ D₄ vs4.toArray := ⟨_, (N₁₇ (D₄, listOf vs4.toArray c4') (.head _)).1, rfl, _, rfl⟩
            refine kba_turn (value' := PySem.Expr.Name (PySem.Str.ofString "_") ⟨0, 0, 0, 0⟩) (fun _ => rfl) ?_
            refine' krv_ints ?zF ?zN ?zl ?zk ?zi ?_ ?zs ?zt ?zz
            case zF => exact F₁₇
            case zN => exact N₁₇
            case zl => exact hl4
            case zk => exact IsPart.int _ _
            case zi => exact hi4
            case zs => with_unfolding_all rfl
            case zt => kmk_pure
            case zz => kmk_size
            intro D₅ ws5 h₁₈ F₁₈ N₁₈ l5 hI5 hC5
            clear F₁₇ N₁₇ hl4 l5
            iterate 2 (walk_at "k_one")
            obtain rfl : c2 = byteArr ds.reverse := bInts_inj' (hc2.trans hbr.symm)
            iterate 1 (walk_at "k_one")
            rw [bne_self_eq_false]
            k_steps
            rename Fr _ _ _ _ => F₁₉
            rename News _ _ _ _ => N₁₉
            refine con_call (kind_con w (byteArr (turnedF n ds)) _ (turnedF n ds) hbb (by omega) (allO_rings hn1 hn4 _ ht1)) F₁₉ N₁₉ rfl rfl rfl rfl (Nat.le_of_ble_eq_true rfl) (Nat.le_of_ble_eq_true rfl) (by assumption) (by assumption) (by assumption) trivial ?_
            rintro vv h₂₀ tk₂₀ x₂₀ ⟨R1, y1, rfl, fr, hy1⟩ F₂₀ N₂₀ grow
            obtain ⟨N₂₁, off₂₁⟩ := grow _ _ fr
            clear F₁₉ N₁₉ N₂₀ x₂₀ fr grow
            k_steps
            refine con_call (kind_con w b1 t1 ds hb1 (by omega) (allO_rings hn1 hn4 ds hdm)) F₂₀ N₂₁ rfl rfl rfl rfl (Nat.le_of_ble_eq_true rfl) (Nat.le_of_ble_eq_true rfl) (by assumption) (by assumption) (by assumption) trivial ?_
            rintro vv h₂₂ tk₂₂ x₂₂ ⟨R2, y2, rfl, fr, hy2⟩ F₂₂ N₂₂ grow
            obtain ⟨N₂₃, off₂₃⟩ := grow _ _ fr
            clear F₂₀ N₂₁ N₂₂ x₂₂ fr grow
            k_steps
            have hT1 : Heap.IsTuple _ R1 y1.toArray := tup_of (N₂₃ (R1, tupO y1) (.tail _ (.head _))).1
            have hT2 : Heap.IsTuple _ R2 y2.toArray := tup_of (N₂₃ (R2, tupO y2) (.head _)).1
            refine ne_tup hT1 hT2 hy1 hy2 (Nat.le_of_ble_eq_true rfl) ?_
            rw [decide_eq_true ht2]
            k_steps
            have N₂₄ := news_drop (news_drop (news_drop (news_drop N₂₃)))
            clear N₂₃ hT1 hT2 off₂₁ off₂₃ hy1 hy2
            show wpN _ _ (execs _ _) _ _ _
            refine wpN_any ?_
            k_steps
            rename Fr _ _ _ _ => F₂₅
            rename News _ _ _ _ => N₂₅
            refine call_bytes_range (a := 0) (b := (n : Int)) (ns := rangeKs 0 n) rfl (by assumption) (small_one (by omega) (by omega) (by omega) (by omega)) (by rw [rangeSize_nat, rangeKs_length]; omega) (rangeKs_at n) (rangeKs_byte n hn4) (by rw [rangeKs_length]; omega) fun h₂₆ t₂₆ tk₂₆ x₂₆ => ?_
            have F₂₆ := F₂₅.keeps x₂₆
            have N₂₆ := N₂₅.grown x₂₆
            clear F₂₅ N₂₅
            k_steps
            rename_i T _ lT _ _ _ _ _ _ _ F₂₇ N₂₇
            replace N₂₇ := news_drop N₂₇
            have hb₂ : KBw.bInts (byteArr (rangeKs 0 n)) = rangeKs 0 n := byteArr_ints (rangeKs_byte n hn4)
            obtain ⟨tu1, tu2, tu3⟩ := turns_ok hn1 hn4 ds hdm
            (try clear F₂₆); (try clear N₂₆); (try clear x₂₆)
            show wpAny _ _ (exec (Stmt.While _ _ _ _) _) _ _ _
            refine While_inv (JT n ds T _) (n₀ := 5) F₂₇ N₂₇ ⟨rfl, _, _, _, [], [], 0, rfl, hb₂, rfl, trivial, rfl, range_in hn1 hn4, by simp⟩ ?wturn PassesOwn.never
            case wturn =>
              rintro f m₂ news₂ h₃₀ tk₃₀ F₃₀ N₃₀ ⟨hq1, hb, ht, here, turns, tvs, k, hq2, hhb, rfl, htv, hR, hhm, hlen⟩
              (try clear F₂₇); (try clear N₂₇)
              rw [m_put hq1, m_put hq2] at F₃₀
              have hhl := allO_len _ hhm
              have hhi := allO_in hn1 hn4 _ hhm
              have htl := htv.length
              k_steps
              have hlt : Heap.IsList _ T tvs.toArray := ⟨_, (N₃₀ (T, listOf tvs.toArray k) (.head _)).1, rfl, _, rfl⟩
              refine notin_bytes (vs := tvs) (k := here) hlt htv hhb ?_
              clear hlt
              cases hany : turns.any (fun x => decide (x = here)) with
              | true =>
                have hR2 := (turnsF_done (ds := ds) hany f).symm.trans hR
                have hte : turns = (turnsR n ds).2 := by rw [← hR2]
                clear hR hR2
                have htm : ∀ o ∈ turns, o ∈ allO n := by rw [hte]; exact tu3
                k_steps
                rename Fr _ _ _ _ => F₃₁
                rename News _ _ _ _ => N₃₁
                show LCt.CompSrcT _ _ _ _ _ _ _ _ _ _ _ _ _ _ _
                refine LCt.CompSrcT.ledger rfl F₃₁ N₃₁ (.head _) (by rw [sizeLine_eq, List.size_toArray]; omega) fun g => compT_ind (fun j ys news => news = _ ∧ BytesAre ys ((turns.take j).filter fun o => !decide (thenF o ds = thenF ds o))) tvs.length ?step8 ?fin8 _ _ _ _ (by simp) ⟨rfl, trivial⟩
                case step8 =>
                  --<S8
                  rintro j ys news hj ⟨rfl, hys⟩ v I' oI' C' oC' D' m' h₄ tk₄ E₄ hvj hns hm F₈ N₈ off₈ ne₈
                  obtain ⟨bv, tv, kb, hkb, rfl, hbv⟩ := htv.get (by simpa using hvj)
                  have hkm := htm _ (List.mem_of_getElem? hkb)
                  have hkl : kb.length = n := allO_len _ hkm
                  have hki := allO_in hn1 hn4 _ hkm
                  k_steps
                  refine con_call (then_con w bv b1 tv t1 kb ds hbv hb1 (fun k hk => by rw [hdl]; exact (hki k hk).2) (by omega) (by omega)) F₈ N₈ rfl rfl rfl rfl (Nat.le_of_ble_eq_true rfl) (Nat.le_of_ble_eq_true rfl) (by assumption) (by assumption) (by assumption) trivial ?_
                  rintro vv h₅ tk₅ x₅ ⟨d1, t1', rfl, hd1⟩ F₉ N₉ -
                  clear F₈ N₈ x₅
                  k_steps
                  refine con_call (then_con w b1 bv t1 tv ds kb hb1 hbv (fun k hk => by rw [hkl]; exact (hf1.2.2 k hk).2) (by omega) (by omega)) F₉ N₉ rfl rfl rfl rfl (Nat.le_of_ble_eq_true rfl) (Nat.le_of_ble_eq_true rfl) (by assumption) (by assumption) (by assumption) trivial ?_
                  rintro vv h₆ tk₆ x₆ ⟨d2, t2', rfl, hd2'⟩ F₁₀ N₁₀ -
                  clear F₉ N₉ x₆
                  k_steps
                  · rename Fr _ _ _ _ => F₁₁
                    rename News _ _ _ _ => N₁₁
                    rename _ = true => hbe
                    rw [bne, bytes_beq hd1 hd2'] at hbe
                    have he : ¬ thenF kb ds = thenF ds kb := by simpa using hbe
                    show LCg.CompEnd _ _ _ _ _ _ _ _ _ _ _ _ _ _
                    refine LCg.CompEnd.intro F₁₁ N₁₁ _ (fun _ hp => hp) off₈ (.inr ⟨_, .head _, rfl, _, rfl⟩) ⟨rfl, ?_⟩
                    rw [List.take_add_one, hkb, Option.toList_some, List.filter_append, show [kb].filter (fun o => !decide (thenF o ds = thenF ds o)) = [kb] by simp [he]]
                    exact hys.append (BytesAre.one hbv)
                  · rename Fr _ _ _ _ => F₁₁
                    rename News _ _ _ _ => N₁₁
                    rename _ = false => hbe
                    rw [bne, bytes_beq hd1 hd2'] at hbe
                    have he : thenF kb ds = thenF ds kb := by simpa using hbe
                    show LCg.CompEnd _ _ _ _ _ _ _ _ _ _ _ _ _ _
                    refine LCg.CompEnd.intro F₁₁ N₁₁ _ (fun _ hp => hp) off₈ (.inr ⟨_, .head _, rfl, _, rfl⟩) ⟨rfl, ?_⟩
                    rw [List.take_add_one, hkb, Option.toList_some, List.filter_append, show [kb].filter (fun o => !decide (thenF o ds = thenF ds o)) = [] by simp [he], List.append_nil]
                    exact hys
                  -->S8
                case fin8 =>
                  rintro ys news ⟨rfl, hys⟩ D₃ h₄ tk₄ F₈ N₈ off₈
                  rw [htl, List.take_length, hte, tu2] at hys
                  obtain rfl : ys = [] := by
                    cases ys with
                    | nil => rfl
                    | cons v vs => exact hys.elim
                  k_steps
                  rename_i l₉ _ F₉ N₉ _
                  have hl9 : Heap.IsList _ l₉ #[] := ⟨_, (N₉ (l₉, listOf #[] 0) (.head _)).1, rfl, _, rfl⟩
                  have hl8 : Heap.IsList _ D₃ ([] : List Value).toArray := ⟨_, (N₉ (D₃, LCg.lst []) (.tail _ (.head _))).1, rfl, _, rfl⟩
                  refine eq_nil (vs := []) hl8 hl9 (Nat.le_of_ble_eq_true rfl) ?_
                  k_steps
              | false =>
                k_steps
                rename Fr _ _ _ _ => F₃₁
                rename News _ _ _ _ => N₃₁
                refine con_call (then_con w hb b1 ht t1 here ds hhb hb1 (fun k hk => by rw [hdl]; exact (hhi k hk).2) (by omega) (by omega)) F₃₁ N₃₁ rfl rfl rfl rfl (Nat.le_of_ble_eq_true rfl) (Nat.le_of_ble_eq_true rfl) (by assumption) (by assumption) (by assumption) trivial ?_
                rintro vv h₃₂ tk₃₂ x₃₂ ⟨dn, tn', rfl, hdn⟩ F₃₂ N₃₂ -
                clear F₃₁ N₃₁ x₃₂
                k_steps
                rename Fr _ _ _ _ => F₃₃
                rename News _ _ _ _ => N₃₃
                cases f with
                | zero =>
                  rw [turnsF] at hR
                  rw [← hR] at tu1
                  exact absurd (hany.symm.trans tu1) (by decide)
                | succ f =>
                  rw [turnsF, if_neg (by rw [hany]; decide)] at hR
                  simp only [List.push_toArray] at N₃₃
                  refine WhileStep.intro (n' := f) F₃₃ N₃₃ (Nat.lt_succ_self _) ⟨rfl, _, _, _, _, tvs ++ [.bytes hb ht], k + 1, rfl, hdn, rfl, htv.append (BytesAre.one hhb), hR, then_in hn1 hn4 here hhm ds hdm, ?_⟩
                  rw [List.length_append, List.length_singleton]; omega
  )
end Mine
end
set_option maxRecDepth 100000 in
set_option maxHeartbeats 8000000 in
theorem PySem.Challenge.cw_ia0001_02_holds : PySem.Challenge.rw_ia0001_02.Holds := by
  exact Mine.law2
