import PyProof.Rows.All
import Wide.All
import OpenK.AllK
import Wide.FinOn
import PySem.Challenge.RW_ia0001_01
set_option Elab.async false
section
open PySem PySem.W PySem.Calls PyProof.Rows
namespace Mine

/-- all that stands in h stands in h' -/
abbrev Ext (h h' : Heap) : Prop := ∀ b o, h.get? b = some o → h'.get? b = some o

theorem around_le {α : Type} {M : Model} {A A' : Around} {t : Sem α} {Q : α → Shared → Prop} {E : Value → Shared → Prop} {s : Shared}
    (h : wpAny M A' t Q E s) (e1 : A.handled = A'.handled) (e2 : A.depth ≤ A'.depth) (e3 : A.frames = A'.frames) (e4 : A.guards = A'.guards) (e5 : A.units ≤ A'.units) : wpAny M A t Q E s := by
  intro Γ p hΓ
  refine h Γ p ⟨?_, ?_, ?_, ?_, ?_⟩
  · rw [← e1]; exact hΓ.1
  · exact Nat.le_trans hΓ.2.1 e2
  · rw [← e3]; exact hΓ.2.2.1
  · rw [← e4]; exact hΓ.2.2.2.1
  · exact Nat.le_trans hΓ.2.2.2.2 e5

/-- an object that a call has made -/
def Fresh (h h' : Heap) (r : Addr) (o : Obj) : Prop := h.get? r = none ∧ h'.get? r = some o
theorem Fresh.of {h₀ h : Heap} {L : Addr} {news : List (Addr × Obj)} {p : Addr × Obj} (N : News h₀ L h news) (hp : p ∈ news) : Fresh h₀ h p.1 p.2 := ⟨(N p hp).2.2, (N p hp).1⟩
theorem Fresh.news {h₀ h h' : Heap} {L : Addr} {m : Str → Option Value} {news : List (Addr × Obj)} {r : Addr} {o : Obj} (F : Fr h₀ L h m) (N : News h₀ L h news) (x : Ext h h') (f : Fresh h h' r o) : News h₀ L h' ((r, o) :: news) := by
  intro p hp
  rcases List.mem_cons.mp hp with rfl | hp
  · refine ⟨f.2, fun e => ?_, ?_⟩
    · obtain ⟨oL, _, _, hL, _⟩ := F.ns
      have := f.1
      rw [show r = L from e, hL] at this
      cases this
    · cases q : h₀.get? r with
      | none => rfl
      | some o' => have := F.keep _ _ q; rw [f.1] at this; cases this
  · exact ⟨x _ _ (N p hp).1, (N p hp).2⟩
theorem Fresh.off {h₀ h h' : Heap} {L : Addr} {news : List (Addr × Obj)} {r : Addr} {o : Obj} (N : News h₀ L h news) (f : Fresh h h' r o) : ∀ p ∈ news, p.1 ≠ r := by
  intro p hp e
  have := (N p hp).1
  rw [e, f.1] at this
  cases this
theorem Fresh.ext {h₀ h h' : Heap} {r : Addr} {o : Obj} (x : Ext h₀ h) (f : Fresh h h' r o) : Fresh h₀ h' r o := by
  refine ⟨?_, f.2⟩
  cases q : h₀.get? r with
  | none => rfl
  | some o' => have := x _ _ q; rw [f.1] at this; cases this

/-- what a call hands back -/
def Ends (s : Shared) (Post : Heap → Heap → Value → Prop) (v : Value) (s' : Shared) : Prop :=
  ∃ h' tk', s' = { s with heap := h', toks := tk' } ∧ Ext s.heap h' ∧ Post s.heap h' v

/-- the contract of a def -/
def Con (D U : Nat) (prog : Program) (w : World) (K : Frag) (p : Program) (loose : List Str) (f : Addr) (vs : List Value) (Pre : Heap → Prop) (Post : Heap → Heap → Value → Prop) : Prop :=
  ∀ (A : Around) (env : Env) (outer : List Env) (A₀ : Around) (base h₀ : Heap) (L : Addr) (m : Str → Option Value) (mean : ExcName → Option Value) (mg mb : Str → Option Value) (s : Shared) (Q E : Value → Shared → Prop),
    A.frames = some (env :: outer) → env.frame = some L → env.scope.kind = .function → A.handled = none → A.depth ≤ D → A.units ≤ U →
    Below A₀ base outer h₀ → Fr h₀ L s.heap m → K.In h₀ → Top p loose mean mg mb h₀ → Pre s.heap →
    (∀ r h' tk', Ext s.heap h' → Post s.heap h' r → Q r { s with heap := h', toks := tk' }) →
    wpAny (model prog w) A (call (.ref f) vs) Q E s

/-- the body's contract -/
abbrev BodyA (D U : Nat) (gd : Option (List Code)) (env : Env) (outer : List Env) : Around := { handled := none, depth := D, frames := some (env :: outer), guards := gd, units := U }

section
variable {D U : Nat} {prog : Program} {w : World} {K : Frag} {p : Program} {loose : List Str} {f : Addr} {vs : List Value} {Pre : Heap → Prop} {Post : Heap → Heap → Value → Prop}
  {name qual : Str} {params : Arguments} {body : List Stmt} {scope : Scope} {dV kV doc pm cdv ct oc : Value} {an od : Option Addr} {osl : Array (Option Value)} {binds : List (Str × Value)}

theorem con_plain (hD : D < recursionLimit)
    (ho : K.lookup f = some ⟨oc, od, .func (fnOf name qual params body scope dV kV doc pm an cdv ct), osl⟩) (hcd : codeIn K cdv qual = true)
    (hbind : ∀ s, BindsTo s (fnOf name qual params body scope dV kV doc pm an cdv ct) ⟨vs, []⟩ binds) (hloc : ∀ y ∈ binds, scope.names.lookup y.1 = some .local)
    (hcell : ∀ x ∈ scope.names, x.2 ≠ .cell)
    (h : ∀ (env : Env) (outer : List Env) (gd : Option (List Code)) (A : Around) (base : Heap) (L' : Addr) (h₁ : Heap) (mean : ExcName → Option Value) (mg mb : Str → Option Value) (s : Shared),
      A = BodyA D U gd env outer → Fr s.heap L' h₁ (fun y => binds.reverse.lookup y) → Below A base (env :: outer) s.heap → K.In s.heap → Top p loose mean mg mb s.heap → Pre s.heap →
      wpAny (model prog w) (A.deeper (envOf qual scope L' f cdv)) (execs body (envOf qual scope L' f cdv))
        (fun fl s' => Ends s Post (match fl with | .ret v => v | _ => .none) s') (fun _ _ => False) { s with heap := h₁, toks := s.toks + binds.length })
    (hco : scope.isCoroutine = false := by rfl) (hgen : scope.isGenerator = false := by rfl) (hk : scope.kind = .function := by rfl) :
    Con D U prog w K p loose f vs Pre Post := by
  intro A env outer A₀ base h₀ L m mean mg mb s Q E e1 e2 e3 e4 e5 e6 B F X T pre ret
  refine around_le (A' := BodyA D U A.guards env outer) ?_ e4 e5 e1 rfl e6
  refine wpAny_call ?_
  have N : News h₀ L s.heap [] := News.nil
  obtain ⟨FG, BG, st, -⟩ := groundX (A := BodyA D U A.guards env outer) (R := fun _ _ => True) B F N rfl e2 e3
  have st : Ext h₀ s.heap := st
  refine codeAny_call_def (fd := fnX name qual params body scope [] dV kV doc pm an cdv ct) (body := body) (binds := binds) hD ((X.keeps F.keep) _ _ ho) rfl (T.nolimit.keeps F.keep) (codeRec_of (X.keeps F.keep) hcd) rfl (hbind _) hcell hloc (fun h₁ hns hk₁ => ?_) hco hgen hk
  refine wpAny_mono (wpAny_noRaise (h env outer A.guards _ base s.heap.objs.size h₁ mean mg mb s rfl ⟨hns, hk₁, Nat.le_refl _⟩ BG (X.keeps F.keep) (T.keeps F.keep) pre)) (fun fl s' hl => ?_) fun _ _ y => y
  obtain ⟨h', tk', rfl, x, post⟩ := hl
  exact ret _ _ _ x post

theorem con_cells (hD : D < recursionLimit)
    (ho : K.lookup f = some ⟨oc, od, .func (fnOf name qual params body scope dV kV doc pm an cdv ct), osl⟩) (hcd : codeIn K cdv qual = true)
    (hbind : ∀ s, BindsTo s (fnOf name qual params body scope dV kV doc pm an cdv ct) ⟨vs, []⟩ binds)
    (hkind : (binds.all fun y => scope.names.lookup y.1 == some .local || scope.names.lookup y.1 == some .cell) = true)
    (hnd : ((cellsFrom 0 scope.names []).map (·.1)).Nodup)
    (h : ∀ (env : Env) (outer : List Env) (gd : Option (List Code)) (A : Around) (base : Heap) (L' : Addr) (h₁ : Heap) (tk : Nat) (cells : List (Addr × Obj)) (mean : ExcName → Option Value) (mg mb : Str → Option Value) (s : Shared),
      A = BodyA D U gd env outer → Fr s.heap L' h₁ (bindL (envOfC qual scope L' f cdv).kindOf binds fun _ => none) → News s.heap L' h₁ cells →
      CellsAre (bindC (envOfC qual scope L' f cdv).kindOf binds fun _ => none) (cellsFrom (L' + 1) scope.names []) cells → Below A base (env :: outer) s.heap → K.In s.heap → Top p loose mean mg mb s.heap → Pre s.heap →
      wpAny (model prog w) (A.deeper (envOfC qual scope L' f cdv)) (execs body (envOfC qual scope L' f cdv))
        (fun fl s' => Ends s Post (match fl with | .ret v => v | _ => .none) s') (fun _ _ => False) { s with heap := h₁, toks := tk })
    (hco : scope.isCoroutine = false := by rfl) (hgen : scope.isGenerator = false := by rfl) (hk : scope.kind = .function := by rfl) :
    Con D U prog w K p loose f vs Pre Post := by
  intro A env outer A₀ base h₀ L m mean mg mb s Q E e1 e2 e3 e4 e5 e6 B F X T pre ret
  refine around_le (A' := BodyA D U A.guards env outer) ?_ e4 e5 e1 rfl e6
  refine wpAny_call ?_
  have N : News h₀ L s.heap [] := News.nil
  obtain ⟨FG, BG, st, -⟩ := groundX (A := BodyA D U A.guards env outer) (R := fun _ _ => True) B F N rfl e2 e3
  refine codeAny_call_function hD ((X.keeps F.keep) _ _ ho) rfl hco hgen rfl (codeRec_of (X.keeps F.keep) hcd) (hbind _ _ _ _ _ ?_)
  refine wpAny_newFunctionEnv_cells hk (kindsX hkind _) fun env' he s' x => ?_
  subst he
  refine ⟨(T.nolimit.keeps F.keep).keeps x.toInCall.keep, codeAny_func ?_⟩
  obtain ⟨h₁, tk, rfl, _⟩ := x.done
  have hk₁ := x.toInCall.keep
  obtain ⟨cells, NC, Y⟩ := Cl.news (h₀ := s.heap) (Nat.le_refl _) fun n c hm => ⟨x.cell n c (lookup_of_mem_nodup (cellsFrom_names scope.names 0 (s.heap.objs.size + 1) [] [] rfl ▸ hnd) hm), x.above n c hm⟩
  refine wpAny_mono (wpAny_noRaise (h env outer A.guards _ base s.heap.objs.size h₁ tk cells mean mg mb s rfl ⟨x.toInCall.ns, hk₁, Nat.le_refl _⟩ NC Y BG (X.keeps F.keep) (T.keeps F.keep) pre)) (fun fl s' hl => ?_) fun _ _ y => y
  obtain ⟨h', tk', rfl, x, post⟩ := hl
  exact ret _ _ _ x post
end

section
variable {prog : Program} {w : World} {A : Around} {E : Value → Shared → Prop} {s : Shared} {env : Env} {h₀ : Heap} {target : Expr} {body : List Stmt} {Q : Flow → Shared → Prop}

/-- a for that stands before its source -/
def LoopX (prog : Program) (w : World) (A : Around) (_h₀ : Heap) (env : Env) (target : Expr) (body : List Stmt) (Q : Flow → Shared → Prop) (E : Value → Shared → Prop) (xv : Value) (s : Shared) : Prop :=
  wpAny (model prog w) A (pyIter xv) (fun it s₂ => codeAny (model prog w) A (.forLoop target it body [] env) (fun r s' => match r with | .ok f => Q f s' | .error e => cameBackBy (model prog w) A env E e s') s₂) E s

theorem For_X (h₀ : Heap) {iter : Expr} {pos : Pos} (h : wpAny (model prog w) A (eval iter env) (fun xv s₁ => LoopX prog w A h₀ env target body Q E xv s₁) E s)
    (hs : ∀ x, foldedSetIterable iter env x = pure x) : wpAny (model prog w) A (exec (.For target iter body [] pos) env) Q E s := wpAny_For h hs

/-- a turn's end -/
def TurnEnd (h₀ : Heap) (L : Addr) (it : Addr × Obj) (J : (Str → Option Value) → List (Addr × Obj) → Prop) (Q : Flow → Shared → Prop) (s₁ : Shared) (f : Flow) (s₂ : Shared) : Prop :=
  match f with
  | .ret v => Q (.ret v) s₂
  | .brk => Q .next s₂
  | _ => ∃ h' tk m' news', s₂ = { s₁ with heap := h', toks := tk } ∧ Fr h₀ L h' m' ∧ News h₀ L h' (it :: news') ∧ (∀ p ∈ news', p.1 ≠ it.1) ∧ J m' news'

theorem loop_X {I : Addr} {fp : List Addr} {n : Nat} {P : Nat → Value → Prop} {St : Nat → Heap → Prop} {m₀ : Str → Option Value} {news : List (Addr × Obj)} (J : Nat → (Str → Option Value) → List (Addr × Obj) → Prop)
    (W : Walks prog w A I fp [I] n P St) (hlive : ∀ i h, St i h → ∃ o, h.get? I = some o)
    (hfp : ∀ i m news h o, J i m news → Fr h₀ env.locals h m → News h₀ env.locals h news → ∀ b ∈ fp, b ≠ I → ∀ h' m' news' i', Fr h₀ env.locals h' m' → News h₀ env.locals h' news' → J i' m' news' → h.get? b = some o → h'.get? b = some o)
    (hI : h₀.get? I = none) (hLI : env.locals ≠ I) (hst : St 0 s.heap) (F : Fr h₀ env.locals s.heap m₀) (N : News h₀ env.locals s.heap news) (hn : ∀ p ∈ news, p.1 ≠ I) (hj : J 0 m₀ news)
    (turn : ∀ i v m₁ news₁ h tk oI, i < n → P i v → J i m₁ news₁ → (∀ p ∈ news₁, p.1 ≠ I) → Fr h₀ env.locals h m₁ → News h₀ env.locals h ((I, oI) :: news₁) →
      wpAny (model prog w) A (assign target env v) (fun _ s₂ => wpAny (model prog w) A (execs body env) (TurnEnd h₀ env.locals (I, oI) (J (i + 1)) Q { s with heap := h, toks := tk }) E s₂) E { s with heap := h, toks := tk })
    (done : ∀ m₁ news₁ h tk, J n m₁ news₁ → Fr h₀ env.locals h m₁ → News h₀ env.locals h news₁ → Q .next { s with heap := h, toks := tk })
    (ht : ∀ v, letOwnedTupleGo target (.ref I) v = pure ()) (hE : PassesOwn (model prog w) A env E) :
    codeAny (model prog w) A (.forLoop target (.ref I) body [] env) (fun r s' => match r with | .ok f => Q f s' | .error e => cameBackBy (model prog w) A env E e s') s := by
  refine codeAny_forLoop
    (fun k s' => ∃ h' tk m' news' i, s' = { s with heap := h', toks := tk } ∧ St i h' ∧ Fr h₀ env.locals h' m' ∧ News h₀ env.locals h' news' ∧ (∀ p ∈ news', p.1 ≠ I) ∧ J i m' news' ∧ i ≤ n ∧ k = n + 1 - i) ?_ (n + 1)
    ⟨s.heap, s.toks, m₀, news, 0, rfl, hst, F, N, hn, hj, Nat.zero_le _, rfl⟩ ht
  rintro k s' ⟨h', tk, m', news', i, rfl, hst', F', N', hn', hJ, hi, rfl⟩
  have next : ∀ h₁ : Heap, (∀ b o, b ∉ [I] → h'.get? b = some o → h₁.get? b = some o) → Fr h₀ env.locals h₁ m' ∧ News h₀ env.locals h₁ news' := fun h₁ hk₁ =>
    ⟨⟨F'.ns.at' fun o e => hk₁ _ o (fun q => hLI (List.mem_singleton.mp q)) e, fun b o e => hk₁ b o (fun q => by rw [List.mem_singleton.mp q, hI] at e; cases e) (F'.keep b o e), F'.above⟩,
      fun p hp => ⟨hk₁ _ _ (fun q => hn' p hp (List.mem_singleton.mp q)) (N' p hp).1, (N' p hp).2⟩⟩
  by_cases hlt : i < n
  · refine W.item i _ _ _ hlt hst' fun v h₁ tk₁ hP hst₁ hk₁ => ?_
    obtain ⟨F₁, N₁⟩ := next h₁ hk₁
    obtain ⟨oI, hoI⟩ := hlive _ _ hst₁
    have NI : News h₀ env.locals h₁ ((I, oI) :: news') := fun p hp => by
      rcases List.mem_cons.mp hp with rfl | hp
      · exact ⟨hoI, fun e => hLI e.symm, hI⟩
      · exact N₁ p hp
    refine wpAny_passesOwn hE (wpAny_mono (turn i v m' news' h₁ tk₁ oI hlt hP hJ hn' F₁ NI) (fun _ s₂ h₂ => ?_) fun _ _ e => e)
    refine wpAny_passesOwn hE (wpAny_mono h₂ (fun f s₃ h₃ => ?_) fun _ _ e => e)
    have fin : TurnEnd h₀ env.locals (I, oI) (J (i + 1)) Q { s with heap := h₁, toks := tk₁ } .next s₃ →
        ∃ m, m < n + 1 - i ∧ ∃ h' tk m' news' i, s₃ = { s with heap := h', toks := tk } ∧ St i h' ∧ Fr h₀ env.locals h' m' ∧ News h₀ env.locals h' news' ∧ (∀ p ∈ news', p.1 ≠ I) ∧ J i m' news' ∧ i ≤ n ∧ m = n + 1 - i := by
      rintro ⟨h₄, tk₄, m₄, news₄, rfl, F₄, N₄, hn₄, hJ₄⟩
      refine ⟨n + 1 - (i + 1), by omega, h₄, tk₄, m₄, news₄, i + 1, rfl, ?_, F₄, fun p hp => N₄ p (.tail _ hp), hn₄, hJ₄, hlt, rfl⟩
      refine W.frame _ _ _ hst₁ fun b hb o e => ?_
      by_cases hbI : b = I
      · subst hbI
        rw [hoI] at e
        cases e
        exact (N₄ _ (.head _)).1
      · exact hfp i m' news' h₁ o hJ F₁ N₁ b hb hbI h₄ m₄ news₄ (i + 1) F₄ (fun p hp => N₄ p (.tail _ hp)) hJ₄ e
    cases f with
    | ret v => exact h₃
    | brk => exact h₃
    | next => exact fin h₃
    | cont => exact fin h₃
  · have hin : i = n := by omega
    subst hin
    refine W.done _ _ _ hst' fun h₁ tk₁ hk₁ => wpAny_execs_nil ?_
    obtain ⟨F₁, N₁⟩ := next h₁ hk₁
    exact done m' news' h₁ tk₁ hJ F₁ N₁

theorem range_X {r : Addr} {a₀ b₀ : Int} {t₀ u₀ v₀ : Tok} {n : Nat} {m₀ : Str → Option Value} {news : List (Addr × Obj)} (J : Nat → (Str → Option Value) → List (Addr × Obj) → Prop)
    (hh : A.handled = none) (hr : IsRange s.heap r a₀ b₀ 1 t₀ u₀ v₀) (hsmall : Builtin.Range.small a₀ b₀ 1 = true) (hn : Builtin.Range.rangeSize a₀ b₀ 1 = (n : Int)) (F : Fr h₀ env.locals s.heap m₀) (N : News h₀ env.locals s.heap news) (hj : J 0 m₀ news)
    (turn : ∀ i t m₁ news₁ h tk I oI, i < n → J i m₁ news₁ → (∀ p ∈ news₁, p.1 ≠ I) → Fr h₀ env.locals h m₁ → News h₀ env.locals h ((I, oI) :: news₁) →
      wpAny (model prog w) A (assign target env (.int (a₀ + (i : Int)) t)) (fun _ s₂ => wpAny (model prog w) A (execs body env) (TurnEnd h₀ env.locals (I, oI) (J (i + 1)) Q { s with heap := h, toks := tk }) E s₂) E { s with heap := h, toks := tk })
    (done : ∀ m₁ news₁ h tk, J n m₁ news₁ → Fr h₀ env.locals h m₁ → News h₀ env.locals h news₁ → Q .next { s with heap := h, toks := tk })
    (ht : ∀ I v, letOwnedTupleGo target (.ref I) v = pure ()) (hE : PassesOwn (model prog w) A env E) : LoopX prog w A h₀ env target body Q E (.ref r) s := by
  unfold LoopX
  refine wpAny_pyIter_range hr hsmall ?_
  have W := Walks.range (prog := prog) (w := w) hh s.heap.objs.size a₀ 1 n
  refine loop_X (s := ⟨_, _, _, _, _⟩) J W (fun i h st => ⟨_, st⟩) (fun i m news h o _ _ _ b hb hne => absurd (List.mem_singleton.mp hb) hne) (next_is_new F) ?_ ?_ (F.push _) (fun p hp => ⟨Heap.get?_push_of_some _ (N p hp).1, (N p hp).2⟩) ?_ hj ?_ done (ht _) hE
  · exact Nat.ne_of_lt F.ns.lt
  · show IsRangeIter _ _ _ _ _
    rw [hn]
    simpa using Heap.get?_push_size _ rfl
  · intro p hp e
    exact absurd (Heap.lt_size (N p hp).1) (by rw [e]; exact Nat.lt_irrefl _)
  · rintro i v m₁ news₁ h tk oI hi ⟨t, rfl⟩ hJ hn' F' N'
    have := turn i t m₁ news₁ h tk _ oI hi hJ hn' F' N'
    simpa using this

theorem list_X {l : Addr} {ol : Obj} {vs : List Value} {k : Nat} {m₀ : Str → Option Value} {news : List (Addr × Obj)} (J : Nat → (Str → Option Value) → List (Addr × Obj) → Prop)
    (hh : A.handled = none) (hl : s.heap.get? l = some ol) (hc : ol.cls = .type "list") (hd : ol.data = .seq vs.toArray k) (F : Fr h₀ env.locals s.heap m₀) (N : News h₀ env.locals s.heap news)
    (hold : ∀ i m news h, J i m news → Fr h₀ env.locals h m → News h₀ env.locals h news → h.get? l = some ol) (hj : J 0 m₀ news)
    (turn : ∀ i v m₁ news₁ h tk I oI, vs[i]? = some v → J i m₁ news₁ → (∀ p ∈ news₁, p.1 ≠ I) → Fr h₀ env.locals h m₁ → News h₀ env.locals h ((I, oI) :: news₁) →
      wpAny (model prog w) A (assign target env v) (fun _ s₂ => wpAny (model prog w) A (execs body env) (TurnEnd h₀ env.locals (I, oI) (J (i + 1)) Q { s with heap := h, toks := tk }) E s₂) E { s with heap := h, toks := tk })
    (done : ∀ m₁ news₁ h tk, J vs.length m₁ news₁ → Fr h₀ env.locals h m₁ → News h₀ env.locals h news₁ → Q .next { s with heap := h, toks := tk })
    (ht : ∀ I v, letOwnedTupleGo target (.ref I) v = pure ()) (hE : PassesOwn (model prog w) A env E) : LoopX prog w A h₀ env target body Q E (.ref l) s := by
  have hls : s.heap.IsList l vs.toArray := ⟨ol, hl, hc, k, hd⟩
  have hne : l ≠ s.heap.objs.size := Nat.ne_of_lt (Heap.lt_size hl)
  unfold LoopX
  refine wpAny_pyIter_list hls ?_
  have W := Walks.list (prog := prog) (w := w) hh s.heap.objs.size l hne vs.toArray
  rw [List.size_toArray] at W
  refine loop_X (s := ⟨_, _, _, _, _⟩) J W (fun i h st => let ⟨o, e, _⟩ := st.1; ⟨o, e⟩) ?_ (next_is_new F) (Nat.ne_of_lt F.ns.lt) ?_ (F.push _) (fun p hp => ⟨Heap.get?_push_of_some _ (N p hp).1, (N p hp).2⟩) ?_ hj ?_ done (ht _) hE
  · intro i m news h o hJ F N b hb hbI h' m' news' i' F' N' hJ' e
    have hbl : b = l := by simpa [hbI] using hb
    subst hbl
    rw [hold _ _ _ _ hJ F N] at e
    cases e
    exact hold _ _ _ _ hJ' F' N'
  · exact ⟨⟨_, Heap.get?_push_size _ rfl, rfl, rfl⟩, hls.at fun o e => Heap.get?_push_of_some _ e⟩
  · intro p hp e
    exact absurd (Heap.lt_size (N p hp).1) (by rw [e]; exact Nat.lt_irrefl _)
  · intro i v m₁ news₁ h tk oI hi hP hJ hn' F' N'
    exact turn i v m₁ news₁ h tk _ oI (by simpa using hP) hJ hn' F' N'
end

theorem off1_of {I : Addr} : ∀ {news : List (Addr × Obj)}, (∀ p ∈ news, p.1 ≠ I) → LCg.Off1 I news
  | [], _ => trivial
  | p :: _, h => ⟨h p (.head _), off1_of fun q hq => h q (.tail _ hq)⟩

/-- a place where the walk is to stop -/
def Hold (P : Prop) : Prop := P
theorem hold_of {P : Prop} (h : Hold P) : P := h

theorem con_call {D U : Nat} {prog : Program} {w : World} {K : Frag} {p : Program} {loose : List Str} {f : Addr} {vs : List Value} {Pre : Heap → Prop} {Post : Heap → Heap → Value → Prop}
    {A : Around} {env : Env} {outer : List Env} {A₀ : Around} {base h₀ : Heap} {L : Addr} {m : Str → Option Value} {mean : ExcName → Option Value} {mg mb : Str → Option Value} {s : Shared} {Q E : Value → Shared → Prop} {news : List (Addr × Obj)}
    (C : Con D U prog w K p loose f vs Pre Post) (F : Fr h₀ L s.heap m) (N : News h₀ L s.heap news) (e1 : A.frames = some (env :: outer)) (e2 : env.frame = some L) (e3 : env.scope.kind = .function) (e4 : A.handled = none) (e5 : A.depth ≤ D) (e6 : A.units ≤ U)
    (B : Below A₀ base outer h₀) (X : K.In h₀) (T : Top p loose mean mg mb h₀) (pre : Pre s.heap)
    (ret : ∀ r h' tk', Ext s.heap h' → Post s.heap h' r → Fr h₀ L h' m → News h₀ L h' news → (∀ r o, Fresh s.heap h' r o → News h₀ L h' ((r, o) :: news) ∧ LCg.Off1 r news) → Q r { s with heap := h', toks := tk' }) :
    Hold (wpAny (model prog w) A (call (.ref f) vs) Q E s) :=
  C A env outer A₀ base h₀ L m mean mg mb s Q E e1 e2 e3 e4 e5 e6 B F X T pre fun r h' tk' x q => ret r h' tk' x q (F.keeps x) (N.grown x) fun _ _ f => ⟨f.news F N x, off1_of (f.off N)⟩

theorem ListComp_X {prog : Program} {w : World} {A : Around} {E : Value → Shared → Prop} {s : Shared} {h₀ : Heap} {L : Addr} {m : Str → Option Value} {env : Env} {elt iter : Expr} {x : Str} {px : Pos} {scope : Scope} {cl : List (Str × Addr)} {pos : Pos} {Q : Value → Shared → Prop} (F₀ : Fr h₀ L s.heap m)
    (hclos : closureFor scope env = pure cl) (hcell : ∀ y ∈ scope.names, y.2 ≠ .cell) (hkind : scope.kind = .function)
    (hnames : ∀ y ∈ scope.names, y.2 = .local → scope.names.lookup y.1 = some .local) (hx : scope.names.lookup x = some .local)
    (h : wpAny (model prog w) A (eval iter env) (fun xv s₁ => Hold (LCg.CompSrc prog w A h₀ L m env elt x scope cl (fun s₂ => LCg.FinE h₀ L m s₂ Q) xv s₁)) E s)
    (hs : ∀ x, foldedSetIterable iter env x = pure x := by intro _; rfl) :
    wpAny (model prog w) A (eval (.ListComp elt [⟨.Name x px, iter, [], 0⟩] scope pos) env) Q E s := LCg.ListComp_U F₀ hclos hcell hkind hnames hx h hs
theorem ListComp_XT {prog : Program} {w : World} {A : Around} {E : Value → Shared → Prop} {s : Shared} {h₀ : Heap} {L : Addr} {m : Str → Option Value} {env : Env} {ct elt iter : Expr} {x : Str} {px : Pos} {scope : Scope} {cl : List (Str × Addr)} {pos : Pos} {Q : Value → Shared → Prop} (F₀ : Fr h₀ L s.heap m)
    (hclos : closureFor scope env = pure cl) (hcell : ∀ y ∈ scope.names, y.2 ≠ .cell) (hkind : scope.kind = .function)
    (hnames : ∀ y ∈ scope.names, y.2 = .local → scope.names.lookup y.1 = some .local) (hx : scope.names.lookup x = some .local)
    (h : wpAny (model prog w) A (eval iter env) (fun xv s₁ => Hold (LCt.CompSrcT prog w A h₀ L m env ct elt x scope cl (fun s₂ => LCg.FinE h₀ L m s₂ Q) xv s₁)) E s)
    (hs : ∀ x, foldedSetIterable iter env x = pure x := by intro _; rfl) :
    wpAny (model prog w) A (eval (.ListComp elt [⟨.Name x px, iter, [ct], 0⟩] scope pos) env) Q E s := LCt.ListComp_T F₀ hclos hcell hkind hnames hx h hs

theorem m_put {m : Str → Option Value} {x : Str} {v : Value} (h : m x = some v) : m = fun y => if y = x then some v else m y := by
  funext y
  by_cases e : y = x
  · subst e; simp [h]
  · simp [e]

theorem cell_ne {h₀ h : Heap} {L a b : Addr} {news : List (Addr × Obj)} {o o' : Obj} {v : Option Value} {xs : Array Value} {k : Nat} (N : News h₀ L h news) (h1 : (a, o) ∈ news) (hs : o.data = .seq xs k) (h2 : (b, o') ∈ news) (hd : o'.data = .cell v) : @Ne Nat a b := by
  intro e
  have e1 := (N _ h1).1
  have e2 := (N _ h2).1
  dsimp only at e1 e2
  rw [show a = b from e, e2] at e1
  cases e1
  rw [hs] at hd
  cases hd

/-- bytes values, byte by byte -/
def BytesAre : List Value → List (List Int) → Prop
  | [], [] => True
  | v :: vs, k :: ks => (∃ b t, v = .bytes b t ∧ KBw.bInts b = k) ∧ BytesAre vs ks
  | _, _ => False
theorem BytesAre.length : ∀ {vs : List Value} {ks : List (List Int)}, BytesAre vs ks → vs.length = ks.length
  | [], [], _ => rfl
  | _ :: _, _ :: _, h => congrArg (· + 1) (BytesAre.length h.2)
  | [], _ :: _, h => h.elim
  | _ :: _, [], h => h.elim
theorem BytesAre.get : ∀ {vs : List Value} {ks : List (List Int)}, BytesAre vs ks → ∀ {i : Nat} {v : Value}, vs[i]? = some v → ∃ b t k, ks[i]? = some k ∧ v = .bytes b t ∧ KBw.bInts b = k
  | [], [], _, _, _, e => by simp at e
  | _ :: _, k :: _, h, 0, v, e => by
    obtain ⟨b, t, rfl, hb⟩ := h.1
    simp at e
    exact ⟨b, t, k, rfl, e.symm, hb⟩
  | _ :: _, _ :: _, h, i + 1, v, e => by
    obtain ⟨b, t, k, hk, r⟩ := BytesAre.get h.2 (i := i) (v := v) (by simpa using e)
    exact ⟨b, t, k, by simpa using hk, r⟩
  | [], _ :: _, h, _, _, _ => h.elim
  | _ :: _, [], h, _, _, _ => h.elim
theorem BytesAre.append : ∀ {vs us : List Value} {ks ls : List (List Int)}, BytesAre vs ks → BytesAre us ls → BytesAre (vs ++ us) (ks ++ ls)
  | [], _, [], _, _, h => h
  | _ :: _, _, _ :: _, _, h, h' => ⟨h.1, BytesAre.append h.2 h'⟩
  | [], _, _ :: _, _, h, _ => h.elim
  | _ :: _, _, [], _, h, _ => h.elim
theorem BytesAre.one {b : Array UInt8} {t : Tok} {k : List Int} (h : KBw.bInts b = k) : BytesAre [.bytes b t] [k] := ⟨⟨b, t, rfl, h⟩, trivial⟩

/-- a comprehension with a test by an invariant -/
theorem compT_ind {prog : Program} {w : World} {A : Around} {h₀ : Heap} {L : Addr} {m : Str → Option Value} {env : Env} {ct elt : Expr} {x : Str} {scope : Scope} {cl : List (Str × Addr)} {s : Shared} {S : List (Addr × Obj) → Prop} {P : Nat → Value → Prop}
    {Fin : List Value → List (Addr × Obj) → Prop} (Inv : Nat → List Value → List (Addr × Obj) → Prop) (n : Nat)
    (step : ∀ i ys news, i < n → Inv i ys news → ∀ v I oI C oC D m₂ h tk (E' : Value → Shared → Prop), P i v → LCg.NsObj oC m₂ → m₂ x = some v → Fr h₀ L h m → News h₀ L h ((I, oI) :: (C, oC) :: (D, LCg.lst ys) :: news) → LCg.Off3 I C D news → ((@Ne Nat I C) ∧ (@Ne Nat I D) ∧ (@Ne Nat C D)) →
      wpAny (model prog w) A (isTrue ct (compEnvC scope cl C env) (eval ct (compEnvC scope cl C env))) (fun ok s' => if ok = true then
        wpAny (model prog w) A (eval elt (compEnvC scope cl C env)) (fun y s' => Hold (LCg.CompEnd h₀ L m { s with heap := h, toks := tk } I oI C oC D (LCg.lst ys) S (fun y news' => Inv (i + 1) (ys ++ [y]) news') y s')) E' s'
        else Hold (LCg.CompEnd h₀ L m { s with heap := h, toks := tk } I oI C oC D (LCg.lst ys) S (fun _ news' => Inv (i + 1) ys news') Value.none s')) E' { s with heap := h, toks := tk })
    (fin : ∀ ys news, Inv n ys news → Fin ys news) : ∀ k i ys news, i + k = n → Inv i ys news → LCt.CompRestT prog w A h₀ L m env ct elt x scope cl s S P Fin k i ys news
  | 0, i, ys, news, e, h => fin ys news (by have : i = n := by omega
                                            exact this ▸ h)
  | k + 1, i, ys, news, e, h => fun v I oI C oC D m₂ hh tk E' p1 p2 p3 p4 p5 p6 p7 =>
    wpAny_mono (step i ys news (by omega) h v I oI C oC D m₂ hh tk E' p1 p2 p3 p4 p5 p6 p7) (fun ok s' hok => by
      cases ok with
      | true =>
        simp only [if_true] at hok ⊢
        exact wpAny_mono hok (fun y s' ⟨h', tk', news', e1, e2, e3, e4, e5, e6⟩ => ⟨h', tk', news', e1, e2, e3, e4, e5, compT_ind Inv n step fin k (i + 1) _ _ (by omega) e6⟩) fun _ _ z => z
      | false =>
        simp only [Bool.false_eq_true, if_false] at hok ⊢
        obtain ⟨h', tk', news', e1, e2, e3, e4, e5, e6⟩ := hok
        exact ⟨h', tk', news', e1, e2, e3, e4, e5, compT_ind Inv n step fin k (i + 1) _ _ (by omega) e6⟩) fun _ _ z => z

/-- a comprehension by an invariant -/
theorem comp_ind {prog : Program} {w : World} {A : Around} {h₀ : Heap} {L : Addr} {m : Str → Option Value} {env : Env} {elt : Expr} {x : Str} {scope : Scope} {cl : List (Str × Addr)} {s : Shared} {S : List (Addr × Obj) → Prop} {P : Nat → Value → Prop}
    {Fin : List Value → List (Addr × Obj) → Prop} (Inv : Nat → List Value → List (Addr × Obj) → Prop) (n : Nat)
    (step : ∀ i ys news, i < n → Inv i ys news → ∀ v I oI C oC D m₂ h tk (E' : Value → Shared → Prop), P i v → LCg.NsObj oC m₂ → m₂ x = some v → Fr h₀ L h m → News h₀ L h ((I, oI) :: (C, oC) :: (D, LCg.lst ys) :: news) → LCg.Off3 I C D news → ((@Ne Nat I C) ∧ (@Ne Nat I D) ∧ (@Ne Nat C D)) →
      wpAny (model prog w) A (eval elt (compEnvC scope cl C env)) (fun y s' => Hold (LCg.CompEnd h₀ L m { s with heap := h, toks := tk } I oI C oC D (LCg.lst ys) S (fun y news' => Inv (i + 1) (ys ++ [y]) news') y s')) E' { s with heap := h, toks := tk })
    (fin : ∀ ys news, Inv n ys news → Fin ys news) : ∀ k i ys news, i + k = n → Inv i ys news → LCg.CompRest prog w A h₀ L m env elt x scope cl s S P Fin k i ys news
  | 0, i, ys, news, e, h => fin ys news (by have : i = n := by omega
                                            exact this ▸ h)
  | k + 1, i, ys, news, e, h => fun v I oI C oC D m₂ hh tk E' p1 p2 p3 p4 p5 p6 p7 =>
    wpAny_mono (step i ys news (by omega) h v I oI C oC D m₂ hh tk E' p1 p2 p3 p4 p5 p6 p7) (fun y s' ⟨h', tk', news', e1, e2, e3, e4, e5, e6⟩ => ⟨h', tk', news', e1, e2, e3, e4, e5, comp_ind Inv n step fin k (i + 1) _ _ (by omega) e6⟩) fun _ _ z => z
end Mine
end
section
open PySem PySem.W PySem.Calls PyProof.Rows
namespace Mine
/-- a code that holds no bytearray's buffer -/
def okCode : Code → Bool
  | .builtin id _ => !(Builtin.Bytes.decodersThatHold.contains id) && !((["bytearray.__contains__", "bytearray.__mod__", "bytearray.__rmod__", "_struct.pack_into.held", "bytearray.find.held"] : List String).contains id)
  | _ => true
def Clean (Γ : Ctx) : Prop := ∀ x ∈ Γ.below, okCode x.1 = true

def wpN {α : Type} (M : Model) (A : Around) (t : Sem α) (Q : α → Shared → Prop) (E : Value → Shared → Prop) (s : Shared) : Prop :=
  ∀ Γ p, Γ.In A → Clean Γ → okCode Γ.code = true → Sem.wp M Γ t (fun a _ s' => Q a s') (fun e _ s' => E e s') p s
def codeN (M : Model) (A : Around) (c : Code) (R : Result → Shared → Prop) (s : Shared) : Prop :=
  ∀ Γ p, Γ.code = c → Γ.Below A → Clean Γ → wpCode M Γ R p s

section
variable {α β : Type} {M : Model} {A : Around} {E : Value → Shared → Prop} {s : Shared}
theorem wpN_any {t : Sem α} {Q : α → Shared → Prop} (h : wpAny M A t Q E s) : wpN M A t Q E s := fun Γ p hΓ _ _ => h Γ p hΓ
theorem codeN_any {c : Code} {R : Result → Shared → Prop} (h : codeAny M A c R s) : codeN M A c R s := fun Γ p hc hΓ _ => h Γ p hc hΓ
theorem wpN_mono {t : Sem α} {Q Q' : α → Shared → Prop} {E' : Value → Shared → Prop} (h : wpN M A t Q E s) (hQ : ∀ a s, Q a s → Q' a s) (hE : ∀ e s, E e s → E' e s) : wpN M A t Q' E' s :=
  fun Γ p hΓ h1 h2 => Sem.wp_mono M Γ t (fun a _ s => hQ a s) (fun e _ s => hE e s) p s (h Γ p hΓ h1 h2)
theorem wpN_bind {m : Sem α} {f : α → Sem β} {Q : β → Shared → Prop} (h : wpN M A m (fun a s' => wpN M A (f a) Q E s') E s) : wpN M A (m >>= f) Q E s := fun Γ p hΓ h1 h2 => by
  rw [Sem.wp_bind']
  exact Sem.wp_mono M Γ m (fun a p' s' h' => h' Γ p' hΓ h1 h2) (fun _ _ _ h' => h') p s (h Γ p hΓ h1 h2)
theorem wpN_bindA {m : Sem α} {f : α → Sem β} {Q : β → Shared → Prop} (h : wpAny M A m (fun a s' => wpN M A (f a) Q E s') E s) : wpN M A (m >>= f) Q E s := wpN_bind (wpN_any h)
theorem wpN_bindE {m : Sem α} {f : α → Sem β} {Q : β → Shared → Prop} (h : wpN M A m (fun a s' => wpAny M A (f a) Q E s') E s) : wpN M A (m >>= f) Q E s := wpN_bind (wpN_mono h (fun _ _ x => wpN_any x) fun _ _ x => x)
theorem wpN_holding {vs : List Value} {m : Sem α} {Q : α → Shared → Prop} (h : wpN M A m Q E s) : wpN M A (holding vs m) Q E s :=
  fun Γ p hΓ h1 h2 => by rw [Sem.wp_holding]; exact h Γ p hΓ h1 h2
theorem wpN_onRaise {m : Sem α} {k : Value → Sem Unit} {Q : α → Shared → Prop} (h : wpN M A m Q (fun _ _ => False) s) : wpN M A (m.onRaise k) Q E s := fun Γ p hΓ h1 h2 => by
  rw [Sem.wp_onRaise]
  exact Sem.wp_mono M Γ m (fun _ _ _ h' => h') (fun _ _ _ h' => h'.elim) p s (h Γ p hΓ h1 h2)
theorem wpN_noRaise {t : Sem α} {Q : α → Shared → Prop} (h : wpN M A t Q (fun _ _ => False) s) : wpN M A t Q E s := wpN_mono h (fun _ _ x => x) fun _ _ x => x.elim
theorem codeN_mono {c : Code} {R R' : Result → Shared → Prop} (h : codeN M A c R s) (hR : ∀ r s, R r s → R' r s) : codeN M A c R' s := fun Γ p hc hΓ h1 => wpCode_mono hR (h Γ p hc hΓ h1)
theorem clean_enter {Γ : Ctx} {c : Code} {hd : Option Value} {p : Pos} (h1 : Clean Γ) (h2 : okCode Γ.code = true) : Clean (Γ.enter c hd p) := by
  intro x hx
  rcases List.mem_cons.mp hx with rfl | hx
  · exact h2
  · exact h1 x hx
theorem wpN_run {c : Code} {h : Option Value} {Q : Flow → Shared → Prop} (hc : codeN M (A.mark h) c (fun r s' => match r with | .ok f => Q f s' | .error e => E e s') s) (hnb : h ≠ some byPass := by intro x; cases x) : wpN M A (run c h) Q E s :=
  fun Γ p hΓ h1 h2 => by rw [Sem.wp_run]; exact hc _ p rfl (hΓ.enter c h p hnb) (clean_enter h1 h2)
theorem wpN_runValue {c : Code} {Q : Value → Shared → Prop} (hc : codeN M A c (fun r s' => match r with | .ok (.ret v) => Q v s' | .ok _ => False | .error e => E e s') s) : wpN M A (runValue c) Q E s :=
  fun Γ p hΓ h1 h2 => by rw [Sem.wp_runValue]; exact hc _ p rfl (hΓ.enter c none p (by intro x; cases x)) (clean_enter h1 h2)
theorem wpN_call {f : Value} {pos : List Value} {kw : List (Str × Value)} {Q : Value → Shared → Prop}
    (hc : codeN M A (.call f ⟨pos, kw⟩) (fun r s' => match r with | .ok (.ret v) => Q v s' | .ok _ => False | .error e => E e s') s) : wpN M A (call f pos kw) Q E s := wpN_runValue hc
theorem codeN_of_tree {c : Code} {R : Result → Shared → Prop} (hok : okCode c = true)
    (h : wpN M (A.under c) (M.den c) (fun fin s' => match fin with | .done f => R (.ok f) s' | .again c' => c'.quiet = true ∧ codeN M A c' R s') (fun e s' => R (.error e) s') s) : codeN M A c R s := fun Γ p hc hΓ h1 => by
  rw [wpCode_iff_wp, hc]
  refine Sem.wp_mono M Γ _ (fun fin p' s' h' => ?_) (fun _ _ _ h' => h') p s (h Γ p (hc ▸ hΓ.in) h1 (hc ▸ hok))
  cases fin with
  | done f => exact h'
  | again c' => exact ⟨h'.1, h'.2 (Γ.goto c') p' rfl (hΓ.goto c') h1⟩
end

def okId (id : String) : Bool := !(Builtin.Bytes.decodersThatHold.contains id) && !((["bytearray.__contains__", "bytearray.__mod__", "bytearray.__rmod__", "_struct.pack_into.held", "bytearray.find.held"] : List String).contains id)
theorem okCode_builtin (id : String) (args : Args) : okCode (.builtin id args) = okId id := rfl
theorem no_hold {P : Prop} {id : String} (h : okId id = true) (e : okId id = false) : P := by rw [h] at e; cases e
theorem held_false (c : Code) (p : Pos) {a : Addr} (h : okCode c = true) : (match (c, p) with
    | (.builtin "bytearray.__contains__" ⟨v :: _, _⟩, _) | (.builtin "bytearray.__mod__" ⟨v :: _, _⟩, _)
    | (.builtin "bytearray.__rmod__" ⟨_ :: v :: _, _⟩, _) | (.builtin "_struct.pack_into.held" ⟨v :: _, _⟩, _) => Builtin.Bytes.sameRef v (.ref a)
    | (.builtin "bytearray.find.held" ⟨_ :: _ :: held, _⟩, _) => held.any (Builtin.Bytes.sameRef (.ref a))
    | (.builtin id ⟨v :: _, _⟩, _) => Builtin.Bytes.sameRef v (.ref a) && Builtin.Bytes.decodersThatHold.contains id
    | _ => false) = false := by
  cases c with
  | builtin id args =>
    rw [okCode_builtin] at h
    split
    · rename_i e
      cases e
      exact no_hold h (by decide +kernel)
    · rename_i e
      cases e
      exact no_hold h (by decide +kernel)
    · rename_i e
      cases e
      exact no_hold h (by decide +kernel)
    · rename_i e
      cases e
      exact no_hold h (by decide +kernel)
    · rename_i e
      cases e
      exact no_hold h (by decide +kernel)
    · rename_i e
      cases e
      unfold okId at h
      rw [Bool.and_eq_true, Bool.not_eq_true'] at h
      rw [h.1, Bool.and_false]
    · rfl
  | _ => rfl
theorem wpN_exported {M : Model} {A : Around} {E : Value → Shared → Prop} {s : Shared} {a : Addr} {Q : Bool → Shared → Prop} (h : Q false s) : wpN M A (Builtin.Bytes.exported (.ref a)) Q E s := by
  intro Γ p hΓ h1 h2
  have e : ((Γ.code, p) :: Γ.below).any (fun y : Code × Pos => match y with
    | (.builtin "bytearray.__contains__" ⟨v :: _, _⟩, _) | (.builtin "bytearray.__mod__" ⟨v :: _, _⟩, _)
    | (.builtin "bytearray.__rmod__" ⟨_ :: v :: _, _⟩, _) | (.builtin "_struct.pack_into.held" ⟨v :: _, _⟩, _) => Builtin.Bytes.sameRef v (.ref a)
    | (.builtin "bytearray.find.held" ⟨_ :: _ :: held, _⟩, _) => held.any (Builtin.Bytes.sameRef (.ref a))
    | (.builtin id ⟨v :: _, _⟩, _) => Builtin.Bytes.sameRef v (.ref a) && Builtin.Bytes.decodersThatHold.contains id
    | _ => false) = false := by
    rw [List.any_eq_false]
    rintro ⟨c, q⟩ hx
    rcases List.mem_cons.mp hx with e | hx
    · cases e
      exact Bool.eq_false_iff.mp (held_false _ _ h2)
    · exact Bool.eq_false_iff.mp (held_false _ _ (h1 _ hx))
  have k : ∀ b : Bool, b = false → Q b s := fun b hb => hb ▸ h
  exact k _ e
end Mine
end
section
open PySem PySem.W PySem.Calls PyProof.Rows
set_option maxRecDepth 100000
namespace Mine
theorem ba_mro : mroOf (.type "bytearray") = pure [.type "bytearray", .type "object"] := by rw [mroOf_type]; kernel_rfl
theorem ba_lookup_new : typeLookup (.type "bytearray") "__new__" = pure (some (.builtin "bytearray.__new__")) := by rw [typeLookup_type, builtinLookup_eq_fast]; kernel_rfl
theorem ba_slot_init : Slot "bytearray" "__init__" "bytearray.__init__" :=
  .of (owner := "bytearray") (n := "__init__") (by rw [typeLookup_type, builtinLookup_eq_fast]; kernel_rfl) (by decide +kernel) (by decide +kernel) (by decide +kernel)
    (by first | exact .inl (by decide +kernel) | exact .inr (by decide +kernel)) (by rw [isSubtype_type]; kernel_rfl)
theorem ba_called : TypeCalled "bytearray" "bytearray.__new__" "bytearray.__init__" :=
  ⟨by decide +kernel, by decide +kernel, ⟨_, _, ba_mro⟩, madeBy_type ba_mro ba_lookup_new (by decide +kernel), by decide +kernel, by rw [isSubtype_type]; kernel_rfl, ba_slot_init⟩
theorem ba_typeCall (a : Value) : checkTypeCall "bytearray" ⟨[a], []⟩ = pure () := by kernel_rfl
theorem ba_newCall (a : Value) : checkBuiltinCall "bytearray.__new__" ⟨[.type "bytearray", a], []⟩ = pure () := by kernel_rfl
theorem ba_entry_new : entryFor table "bytearray.__new__" = some Builtin.«list.__new__» :=
  entryFor_alias (id' := "list.__new__") (by kernel_rfl) (by decide +kernel) (by decide +kernel) (by kernel_rfl)
theorem ba_plain_new : plainId "bytearray.__new__" = true := by decide +kernel
theorem ba_entry_init : entryFor table "bytearray.__init__" = some Builtin.«bytearray.__init__» := by first | exact entryFor_of_fast (by kernel_rfl) | exact entryFor_of_tree (by kernel_rfl)
theorem ba_sub_self : isSubtype (.type "bytearray") (.type "bytearray") = pure true := by rw [isSubtype_type]; kernel_rfl
set_option maxRecDepth 1000000 in
set_option maxHeartbeats 4000000 in
theorem ba_owner : ("bytearray.__new__".splitOn ".__new__").headD "" = "bytearray" := by simp +decide [String.splitOn, String.splitOnAux]
section
variable {prog : Program} {w : World} {A : Around} {E : Value → Shared → Prop} {s : Shared}
theorem ba_new (a : Value) {Q₁ : Value → Shared → Prop}
    (h : Q₁ (.ref s.heap.objs.size) { s with heap := s.heap.push { cls := .type "bytearray", data := .bytearray #[] } }) :
    codeAny (model prog w) A (.call (.builtin "bytearray.__new__") ⟨[.type "bytearray", a], []⟩) (wants Q₁ E) s := by
  refine codeAny_of_tree ?_
  show wpAny _ A.in1 (do checkBuiltinCall "bytearray.__new__" ⟨[.type "bytearray", a], []⟩; again (.builtin "bytearray.__new__" ⟨[.type "bytearray", a], []⟩)) _ _ s
  refine wpAny_bind (wpAny_of_eq (ba_newCall a) (wpAny_pure ⟨plainId_quiet ba_plain_new _, codeAny_builtin_stack ba_entry_new rfl fun p st => ?_⟩))
  rw [Around.under_plainId ba_plain_new _]
  have hsub := ba_sub_self
  have hown := ba_owner
  obtain ⟨hp, g, d, tk, os⟩ := s
  simp only [hown]
  wp_walk
  exact h
end
end Mine
end
section
open PySem PySem.W PySem.Calls PyProof.Rows
set_option maxRecDepth 100000
namespace Mine
section
variable {prog : Program} {w : World} {A : Around} {E : Value → Shared → Prop} {s : Shared} {R : Result → Shared → Prop}
theorem codeN_builtin {id : String} {args : Args} {b : Builtin} (hok : okId id = true) (hb : entryFor table id = some b)
    (h : wpN (model prog w) (A.under (.builtin id args)) (b args)
      (fun fin s' => match fin with | .done f => R (.ok f) s' | .again c' => c'.quiet = true ∧ codeN (model prog w) A c' R s') (fun e s' => R (.error e) s') s) :
    codeN (model prog w) A (.builtin id args) R s := by
  refine codeN_of_tree (by rw [okCode_builtin]; exact hok) ?_
  show wpN _ _ (match entryFor table id with | some b => b args | none => unsupported ((withoutEnding? id "#data").getD id)) _ _ s
  rw [hb]; exact h
theorem codeN_call_builtin {id : String} {args : Args} {b : Builtin} (hok : okId id = true) (hq : plainId id = true) (hb : entryFor table id = some b)
    (h : wpAny (model prog w) A.in1 (checkBuiltinCall id args) (fun _ s₁ => wpN (model prog w) A.in1 (b args)
      (fun fin s' => match fin with | .done f => R (.ok f) s' | .again c' => c'.quiet = true ∧ codeN (model prog w) A c' R s') (fun e s' => R (.error e) s') s₁)
      (fun e s' => R (.error e) s') s) : codeN (model prog w) A (.call (.builtin id) args) R s := by
  refine codeN_of_tree rfl ?_
  show wpN _ A.in1 (do checkBuiltinCall id args; again (.builtin id args)) _ _ s
  refine wpN_bindA (wpAny_mono h (fun _ s₁ h₁ => wpN_any (wpAny_pure (And.intro (plainId_quiet hq args) (codeN_builtin hok hb ?_)))) fun _ _ h' => h')
  rw [Around.under_plainId hq args]; exact h₁
theorem callType_N {T newId initId : String} {Bi : Builtin} {args : List Value} {Q Q₁ : Value → Shared → Prop} (ft : TypeCalled T newId initId)
    (hct : checkTypeCall T ⟨args, []⟩ = pure ()) (entryI : entryFor table initId = some Bi) (hok : okId initId = true)
    (hnew : codeAny (model prog w) A.in1 (.call (.builtin newId) ⟨.type T :: args, []⟩) (wants Q₁ E) s)
    (hnext : ∀ obj s₁, Q₁ obj s₁ → s₁.TypeIs obj T ∧ argsOk initId ⟨obj :: args, []⟩ ∧
      wpN (model prog w) A.in1.in1 (Bi ⟨obj :: args, []⟩)
        (fun fin s' => match fin with | .done f => wants (fun r s₂ => r = .none ∧ Q obj s₂) E (.ok f) s' | .again c' => c'.quiet = true ∧ codeN (model prog w) A.in1 c' (wants (fun r s₂ => r = .none ∧ Q obj s₂) E) s')
        (fun e s' => wants (fun r s₂ => r = .none ∧ Q obj s₂) E (.error e) s') s₁) :
    wpN (model prog w) A (call (.type T) args) Q E s := by
  obtain ⟨c, tl, hmro⟩ := ft.mro
  have hmade := ft.made
  have hsub := ft.sub
  refine wpN_call (codeN_of_tree rfl ?_)
  show wpN _ _ (callAny (.type T) _) _ _ _
  refine wpN_any (wpAny_pure ⟨Code.quiet_builtin _ (by decide +kernel), codeN_builtin (by decide +kernel) F.entry_type_call ?_⟩)
  rw [Around.under_plain (weight_type_call_type T args []) rfl]
  have h1 := ft.notType
  have h2 := ft.canCreate
  unfold Builtin.«type.__call__»
  simp only [h1, Bool.false_eq_true, if_false]
  rw [if_neg (by rw [h2]; decide)]
  refine wpN_bindA (wpAny_of_eq hct ?_)
  refine wpN_bindA (wpAny_of_eq hmro ?_)
  rw [if_neg (by simp)]
  refine wpN_bindA (wpAny_of_eq hmade ?_)
  show wpN _ _ (holding [Value.builtin newId] (call (Value.builtin newId) (Value.type T :: args)) >>= _) _ _ _
  refine wpN_bindA (wpAny_holding (wpAny_call (codeAny_mono hnew fun r s₁ hr => ?_)))
  cases r with
  | error e => exact hr
  | ok fl =>
    cases fl with
    | ret obj =>
      obtain ⟨hT, hokk, hsi⟩ := hnext _ _ hr
      refine wpN_bindA (wpAny_isInstance hT hsub ?_)
      rw [if_neg (by decide)]
      refine wpN_bind (wpN_holding ?_)
      have hli := ft.init.lookup
      have hbi := ft.init.bind obj
      refine wpN_mono (Q := fun r s₂ => r = some Value.none ∧ Q obj s₂) ?_ (fun r s₂ hr₂ => ?_) (fun _ _ x => x)
      · unfold callSpecial?
        refine wpN_bindA (wpAny_specialOf hT hli ?_)
        refine wpN_holding ?_
        refine wpN_bindA (wpAny_of_eq hbi ?_)
        refine wpN_bind (wpN_call (codeN_mono (codeN_call_builtin (args := ⟨obj :: args, []⟩) hok ft.init.plain entryI (ft.init.check _ _ _ _ _ _ _ _ hT hokk hsi)) fun r₂ s₂ hr₂ => ?_))
        cases r₂ with
        | error e => exact hr₂
        | ok fl₂ =>
          cases fl₂ with
          | ret r =>
            obtain ⟨rfl, hq⟩ := hr₂
            exact wpN_any (wpAny_pure ⟨rfl, hq⟩)
          | _ => exact hr₂.elim
      · obtain ⟨rfl, hq⟩ := hr₂
        exact wpN_any (wpAny_pure hq)
    | _ => exact hr.elim

theorem ba_bind (v : Value) : Builtin.Bytes.bindOptional "bytearray.__init__" "bytearray" ["source", "encoding", "errors"] [v] [] = pure [some v, none, none] := by kernel_rfl
theorem ba_release : typeLookup (.type "bytearray") "__release_buffer__" = pure (some (.builtin "bytearray.__release_buffer__")) := by rw [typeLookup_type, builtinLookup_eq_fast]; kernel_rfl
theorem ba_rel_end : ("bytearray.__release_buffer__".endsWith ("." ++ "__release_buffer__")) = true := by decide +kernel
theorem ba_rel_drop : ("bytearray.__release_buffer__".dropRight ("__release_buffer__".length + 1)) = "bytearray" := by decide +kernel
theorem wpN_if_false {α : Type} {M : Model} {c : Bool} {a b : Sem α} {Q : α → Shared → Prop} (hc : c = false) (h : wpN M A b Q E s) : wpN M A (if c = true then a else b) Q E s := by
  subst hc
  exact h
theorem wpN_if_true {α : Type} {M : Model} {c : Bool} {a b : Sem α} {Q : α → Shared → Prop} (hc : c = true) (h : wpN M A a Q E s) : wpN M A (if c = true then a else b) Q E s := by
  subst hc
  exact h
abbrev baObj (b : Array UInt8) : Obj := { cls := .type "bytearray", data := .bytearray b }
theorem ba_typeIs {S : Addr} {b : Array UInt8} (hS : s.heap.get? S = some (baObj b)) : s.TypeIs (.ref S) "bytearray" := by
  first | exact ⟨_, hS, rfl⟩ | exact .inr ⟨_, _, rfl, hS, rfl⟩
theorem wpAny_ba_write {M : Model} {S : Addr} {b : Array UInt8} {f : Array UInt8 → Array UInt8} {Q : Unit → Shared → Prop} (hS : s.heap.get? S = some (baObj b)) (hz : (f b).size ≤ sizeLine)
    (h : ∀ h', h'.get? S = some (baObj (f b)) → (∀ c o, c ≠ S → s.heap.get? c = some o → h'.get? c = some o) → Q () { s with heap := h' }) : wpAny M A (Builtin.Bytes.write (.ref S) f) Q E s := by
  show wpAny _ _ (updateBytearray S f) _ _ _
  unfold updateBytearray
  refine wpAny_bind (wpAny_load hS ?_)
  show wpAny _ _ (update S (Obj.mapBytearray f) >>= fun _ => lookBehind S) _ _ _
  refine wpAny_bind (wpAny_update hS ?_)
  have hS₂ : (s.heap.update S (Obj.mapBytearray f)).get? S = some (baObj (f b)) := Heap.get?_update_self (Obj.mapBytearray f) hS rfl
  refine wpAny_lookBehind hS₂ ?_ ?_
  · show (if (f b).size > sizeLine then some "bytearray:memory" else none) = none
    rw [if_neg (by omega)]
  · exact h _ hS₂ fun c o hc e => (Heap.get?_update_other _ _ (Ne.symm hc)).trans e
theorem ba_init {S : Addr} {n : Nat} {t : Tok} {R : Result → Shared → Prop} (hS : s.heap.get? S = some (baObj #[])) (hn : 0 < n) (hz : n ≤ 1000)
    (hR : ∀ h', h'.get? S = some (baObj (Array.replicate n 0)) → (∀ b o, b ≠ S → s.heap.get? b = some o → h'.get? b = some o) → R (.ok (.ret .none)) { s with heap := h' }) :
    wpN (model prog w) A (Builtin.«bytearray.__init__» ⟨[.ref S, .int (n : Int) t], []⟩)
        (fun fin s' => match fin with | .done f => R (.ok f) s' | .again c' => c'.quiet = true ∧ codeN (model prog w) A' c' R s')
        (fun e s' => R (.error e) s') s := by
  have hT := ba_typeIs hS
  unfold Builtin.«bytearray.__init__»
  refine wpN_bindA ?_
  unfold Builtin.Bytes.ownRelease Builtin.Bytes.slotIsOwn
  refine wpAny_bind (wpAny_bind (wpAny_specialOf hT ba_release ?_))
  show wpAny _ _ (if (!("bytearray.__release_buffer__".endsWith ("." ++ "__release_buffer__"))) = true then pure false else isInstance (Value.ref S) (Value.type ("bytearray.__release_buffer__".dropRight ("__release_buffer__".length + 1)))) _ _ _
  rw [ba_rel_end, ba_rel_drop]
  refine bm_if_false rfl ?_
  refine wpAny_isInstance hT ba_sub_self ?_
  refine wpAny_pure ?_
  refine wpN_if_false rfl ?_
  refine wpN_bindA (wpAny_of_eq (ba_bind _) ?_)
  refine wpN_bindA (wpAny_of_eq (a := ()) rfl ?_)
  refine wpN_bindA (wpAny_of_eq (a := ()) rfl ?_)
  refine wpN_bind ?_
  show wpN _ _ (Builtin.Bytes.exported (.ref S) >>= _) _ _ _
  refine wpN_bind (wpN_exported ?_)
  refine wpN_any ?_
  show wpAny _ _ (Builtin.Bytes.exportsOf (.ref S) >>= _) _ _ _
  refine wpAny_bind ?_
  unfold Builtin.Bytes.exportsOf
  refine wpAny_bind (wpAny_load hS ?_)
  refine wpAny_pure (wpAny_pure ?_)
  refine wpN_if_false (by decide) (wpN_any ?_)
  dsimp only
  refine wpAny_bind ?_
  refine wpAny_ba_write (f := fun _ => #[]) hS (by simp) fun h₁ hS₁ hk₁ => ?_
  have e : asStr? (.int (n : Int) t) = pure none := rfl
  generalize hsm : (({ s with heap := h₁ }) : Shared) = s₁
  refine wpAny_bind ?_
  rw [e]
  have i1 : typeOf (.int (n : Int) t) = pure (.type "int") := rfl
  have i2 : ∃ f, typeLookup (.type "int") (Str.ofString "__index__") = pure (some f) := ⟨_, F.slot_int_index.lookup⟩
  obtain ⟨fi, i2⟩ := i2
  have i3 : asIndex (.int (n : Int) t) = pure (n : Int) := rfl
  with_reducible refine wpAny_pure ?_
  simp only [Option.isSome_none, Bool.false_eq_true, if_false]
  with_reducible refine wpAny_bind ?_
  with_reducible refine wpAny_pure ?_
  refine wpAny_bind ?_
  with_reducible refine wpAny_specialOf_val i1 i2 ?_
  simp only [Option.isSome_some, if_true]
  refine wpAny_bind ?_
  rw [i3]
  with_reducible refine wpAny_attempt ?_
  with_reducible refine wpAny_pure ?_
  have j1 : Builtin.Bytes.fitsIndex (n : Int) = true := by
    unfold Builtin.Bytes.fitsIndex
    simp only [Bool.and_eq_true, decide_eq_true_eq]
    omega
  have j2 : ¬ (n : Int) < 0 := by omega
  have j3 : ((n : Int) == 2 ^ 63 - 1) = false := by
    rw [beq_eq_false_iff_ne]
    omega
  have j4 : Builtin.Bytes.tooLong (n : Int).toNat = false := by
    unfold Builtin.Bytes.tooLong
    rw [Int.toNat_natCast, decide_eq_false_iff_not]
    unfold sizeLine
    omega
  have j5 : (n : Int) > 0 := by omega
  simp only [j1, j2, j3, j4, j5, Bool.not_true, Bool.false_eq_true, if_false, if_true]
  refine wpAny_bind ?_
  refine wpAny_rule ?_
  refine wpAny_bind ?_
  subst hsm
  refine wpAny_ba_write (f := fun _ => Array.replicate (n : Int).toNat 0) hS₁ (by rw [Int.toNat_natCast, Array.size_replicate]; unfold sizeLine; omega) fun h₂ hS₂ hk₂ => ?_
  refine wpAny_pure ?_
  rw [Int.toNat_natCast] at hS₂
  exact hR _ hS₂ fun b o hb e => hk₂ b o hb (hk₁ b o hb e)

theorem ba_owner_init : ("bytearray" : String) = String.ofList ['b','y','t','e','a','r','r','a','y'] := by rfl
theorem ba_args (a b : Value) : argsOk "bytearray.__init__" ⟨[a, b], []⟩ := by
  unfold argsOk; rw [signature?_of (id := "bytearray.__init__") (n := ['_', '_', 't', 'i', 'n', 'i', '_', '_']) (o := ['y', 'a', 'r', 'r', 'a', 'e', 't', 'y', 'b']) (by kernel_rfl) (by rfl)]; kernel_rfl
theorem call_bytearray_N {n : Nat} {t : Tok} {Q : Value → Shared → Prop} (hn : 0 < n) (hz : n ≤ 1000)
    (hQ : ∀ h', h'.get? s.heap.objs.size = some (baObj (Array.replicate n 0)) → (∀ b o, s.heap.get? b = some o → h'.get? b = some o) → Q (.ref s.heap.objs.size) { s with heap := h' }) :
    wpN (model prog w) A (call (.type "bytearray") [.int (n : Int) t]) Q E s := by
  refine callType_N (Q₁ := fun obj s₁ => obj = .ref s.heap.objs.size ∧ s₁ = { s with heap := s.heap.push (baObj #[]) }) ba_called (ba_typeCall _) ba_entry_init (by decide +kernel)
    (ba_new _ ⟨rfl, rfl⟩) ?_
  rintro obj s₁ ⟨rfl, rfl⟩
  have hS : ({ s with heap := s.heap.push (baObj #[]) } : Shared).heap.get? s.heap.objs.size = some (baObj #[]) := Heap.get?_push_size _ rfl
  refine ⟨ba_typeIs hS, ba_args _ _, ba_init hS hn hz fun h' e1 e2 => ⟨rfl, hQ h' e1 fun b o e => e2 b o (Nat.ne_of_lt (Heap.lt_size e)) (Heap.get?_push_of_some _ e)⟩⟩
end
end Mine
end
section
open PySem PySem.W PySem.Calls PyProof.Rows
set_option maxRecDepth 100000
namespace Mine
section
variable {prog : Program} {w : World} {A : Around} {E : Value → Shared → Prop} {s : Shared} {R : Result → Shared → Prop}
theorem ba_slot_setitem : Slot "bytearray" "__setitem__" "bytearray.__setitem__" :=
  .of (owner := "bytearray") (n := "__setitem__") (by rw [typeLookup_type, builtinLookup_eq_fast]; kernel_rfl) (by decide +kernel) (by decide +kernel) (by decide +kernel)
    (by first | exact .inl (by decide +kernel) | exact .inr (by decide +kernel)) (by rw [isSubtype_type]; kernel_rfl)
theorem ba_entry_setitem : entryFor table "bytearray.__setitem__" = some Builtin.«bytearray.__setitem__» := by first | exact entryFor_of_fast (by kernel_rfl) | exact entryFor_of_tree (by kernel_rfl)
theorem ba_args_setitem (a b c : Value) : argsOk "bytearray.__setitem__" ⟨[a, b, c], []⟩ := by
  unfold argsOk; rw [signature?_of (id := "bytearray.__setitem__") (n := ['_', '_', 'm', 'e', 't', 'i', 't', 'e', 's', '_', '_']) (o := ['y', 'a', 'r', 'r', 'a', 'e', 't', 'y', 'b']) (by kernel_rfl) (by rfl)]; kernel_rfl
theorem wpAny_subscript_int {M : Model} {k : Int} {t : Tok} {Q : Option Int → Shared → Prop} (h0 : 0 ≤ k) (h1 : k < 1000) (h : Q (some k) s) : wpAny M A (Builtin.Bytes.subscript? (.int k t)) Q E s := by
  have i1 : typeOf (.int k t) = pure (.type "int") := rfl
  have i3 : asIndex (.int k t) = pure k := rfl
  have j1 : Builtin.Bytes.fitsIndex k = true := by
    unfold Builtin.Bytes.fitsIndex
    simp only [Bool.and_eq_true, decide_eq_true_eq]
    omega
  unfold Builtin.Bytes.subscript?
  refine wpAny_bind ?_
  with_reducible refine wpAny_specialOf_val i1 F.slot_int_index.lookup ?_
  simp only [Option.isNone_some, Bool.false_eq_true, if_false]
  refine wpAny_bind ?_
  rw [i3]
  with_reducible refine wpAny_pure ?_
  simp only [j1, Bool.not_true, Bool.false_eq_true, if_false]
  exact wpAny_pure h
theorem wpAny_byteValue {M : Model} {k : Int} {t : Tok} {Q : UInt8 → Shared → Prop} (h0 : 0 ≤ k) (h1 : k < 256) (h : Q k.toNat.toUInt8 s) : wpAny M A (Builtin.Bytes.byteValue (.int k t)) Q E s := by
  have i3 : asIndex (.int k t) = pure k := rfl
  unfold Builtin.Bytes.byteValue
  refine wpAny_bind ?_
  rw [i3]
  with_reducible refine wpAny_pure ?_
  have j : (decide (k < 0) || decide (k ≥ 256)) = false := by
    simp only [Bool.or_eq_false_iff, decide_eq_false_iff_not]
    omega
  simp only [j, Bool.false_eq_true, if_false]
  exact wpAny_pure h
theorem wpAny_setItem_ba {S : Addr} {b : Array UInt8} {k v : Int} {t u : Tok} {Q : Unit → Shared → Prop} (hS : s.heap.get? S = some (baObj b)) (h0 : 0 ≤ k) (h1 : k < b.size) (hz : b.size ≤ 1000) (h2 : 0 ≤ v) (h3 : v < 256)
    (hQ : ∀ h', h'.get? S = some (baObj (b.setIfInBounds k.toNat v.toNat.toUInt8)) → (∀ c o, c ≠ S → s.heap.get? c = some o → h'.get? c = some o) → Q () { s with heap := h' }) :
    wpAny (model prog w) A (setItem (.ref S) (.int k t) (.int v u)) Q E s := by
  have hT := ba_typeIs hS
  unfold setItem
  try with_reducible refine wpAny_holding ?_
  refine wpAny_bind (wpAny_sequenceKey hT (by decide) ?_)
  refine wpAny_bind (wpAny_callSpecial?_slot (name := Str.ofString "__setitem__") hT ba_slot_setitem
    (wpAny_call_entry ba_slot_setitem hT ba_entry_setitem ?_ (ba_args_setitem _ _ _)))
  unfold Builtin.«bytearray.__setitem__»
  simp only [List.isEmpty_nil, Bool.not_true, Bool.false_eq_true, if_false]
  refine wpAny_bind (wpAny_subscript_int h0 (by omega) ?_)
  refine wpAny_bind (wpAny_byteValue h2 h3 ?_)
  refine wpAny_bind ?_
  unfold Builtin.Bytes.payload Builtin.Bytes.payload?
  refine wpAny_bind (wpAny_bind (wpAny_load hS ?_))
  refine wpAny_pure (wpAny_pure ?_)
  have e : seqIndex? k b.size = some k.toNat := by
    have : ¬ k < 0 := by omega
    simp only [seqIndex?, this, if_false]
    rw [if_pos (by simp only [Bool.and_eq_true, decide_eq_true_eq]; exact ⟨h0, h1⟩)]
  simp only [e]
  refine wpAny_bind ?_
  refine wpAny_ba_write (f := fun b => b.setIfInBounds k.toNat v.toNat.toUInt8) hS (by rw [Array.size_setIfInBounds]; unfold sizeLine; omega) fun h₂ hS₂ hk₂ => ?_
  exact wpAny_pure ⟨_, rfl, wpAny_pure (hQ _ hS₂ hk₂)⟩

theorem ba_no_bytes : typeLookup (.type "bytearray") "__bytes__" = pure none := by rw [typeLookup_type, builtinLookup_eq_fast]; kernel_rfl
theorem ba_no_index : typeLookup (.type "bytearray") "__index__" = pure none := by rw [typeLookup_type, builtinLookup_eq_fast]; kernel_rfl
theorem ba_buffer : typeLookup (.type "bytearray") "__buffer__" = pure (some (.builtin "bytearray.__buffer__")) := by rw [typeLookup_type, builtinLookup_eq_fast]; kernel_rfl
theorem ba_buf_end : ("bytearray.__buffer__".endsWith ("." ++ "__buffer__")) = true := by decide +kernel
theorem ba_buf_drop : ("bytearray.__buffer__".dropRight ("__buffer__".length + 1)) = "bytearray" := by decide +kernel
theorem wpAny_ownRelease_ba {S : Addr} {Q : Bool → Shared → Prop} (hT : s.TypeIs (.ref S) "bytearray") (h : Q false s) : wpAny (model prog w) A (Builtin.Bytes.ownRelease (.ref S)) Q E s := by
  unfold Builtin.Bytes.ownRelease Builtin.Bytes.slotIsOwn
  refine wpAny_bind (wpAny_bind (wpAny_specialOf hT ba_release ?_))
  show wpAny _ _ (if (!("bytearray.__release_buffer__".endsWith ("." ++ "__release_buffer__"))) = true then pure false else isInstance (Value.ref S) (Value.type ("bytearray.__release_buffer__".dropRight ("__release_buffer__".length + 1)))) _ _ _
  rw [ba_rel_end, ba_rel_drop]
  refine bm_if_false rfl ?_
  refine wpAny_isInstance hT ba_sub_self ?_
  exact wpAny_pure h
theorem wpAny_slotIsOwn_ba {S : Addr} {Q : Bool → Shared → Prop} (hT : s.TypeIs (.ref S) "bytearray") (h : Q true s) : wpAny (model prog w) A (Builtin.Bytes.slotIsOwn (.ref S) "__buffer__") Q E s := by
  unfold Builtin.Bytes.slotIsOwn
  refine wpAny_bind (wpAny_specialOf hT ba_buffer ?_)
  show wpAny _ _ (if (!("bytearray.__buffer__".endsWith ("." ++ "__buffer__"))) = true then pure false else isInstance (Value.ref S) (Value.type ("bytearray.__buffer__".dropRight ("__buffer__".length + 1)))) _ _ _
  rw [ba_buf_end, ba_buf_drop]
  refine bm_if_false rfl ?_
  exact wpAny_isInstance hT ba_sub_self h
theorem wpAny_buffer_ba {S : Addr} {b : Array UInt8} {id : String} {Q : Option (Array UInt8) → Shared → Prop} (hS : s.heap.get? S = some (baObj b)) (h : Q (some b) s) : wpAny (model prog w) A (Builtin.Bytes.buffer? id (.ref S) true) Q E s := by
  have hT := ba_typeIs hS
  unfold Builtin.Bytes.buffer?
  refine wpAny_bind (wpAny_specialOf hT ba_buffer ?_)
  refine wpAny_bind (wpAny_slotIsOwn_ba hT ?_)
  refine bm_if_false rfl ?_
  refine wpAny_bind (wpAny_specialOf hT ba_buffer ?_)
  refine wpAny_bind (wpAny_ownRelease_ba hT ?_)
  refine bm_if_false rfl ?_
  refine wpAny_bind ?_
  unfold Builtin.Bytes.payload Builtin.Bytes.payload?
  refine wpAny_bind (wpAny_bind (wpAny_load hS ?_))
  exact wpAny_pure (wpAny_pure (wpAny_pure h))
theorem bb_new {l : Addr} {b : Array UInt8} {Q : Value → Shared → Prop} (hS : s.heap.get? l = some (baObj b)) (hz : b.size ≤ 1000)
    (hQ : ∀ t k, Q (.bytes b t) { s with toks := k }) :
    codeAny (model prog w) A (.call (.builtin "bytes.__new__") ⟨[.type "bytes", .ref l], []⟩) (wants Q E) s := by
  refine codeAny_of_tree ?_
  show wpAny _ A.in1 (do checkBuiltinCall "bytes.__new__" ⟨[.type "bytes", .ref l], []⟩; again (.builtin "bytes.__new__" ⟨[.type "bytes", .ref l], []⟩)) _ _ s
  refine wpAny_bind (wpAny_of_eq (PySem.F.bm_newCall _) (wpAny_pure ⟨plainId_quiet PySem.F.bm_plain _, codeAny_builtin PySem.F.bm_entry ?_⟩))
  rw [Around.under_plainId PySem.F.bm_plain _]
  have hT : s.TypeIs (.ref l) "bytearray" := ba_typeIs hS
  unfold Builtin.«bytes.__new__»
  refine wpAny_bind (wpAny_of_eq (a := true) rfl ?_)
  refine bm_if_false rfl ?_
  refine wpAny_bind (wpAny_of_eq PySem.F.bm_sub ?_)
  refine bm_if_false rfl ?_
  refine wpAny_bind (wpAny_of_eq (PySem.F.bm_bind _) ?_)
  refine wpAny_bind (wpAny_of_eq (a := ()) rfl ?_)
  refine wpAny_bind (wpAny_of_eq (a := ()) rfl ?_)
  refine bm_if_false rfl ?_
  refine wpAny_bind (wpAny_specialOf hT ba_no_bytes ?_)
  refine wpAny_bind (wpAny_bind ?_)
  show wpAny _ _ (load l >>= _) _ _ _
  refine wpAny_bind (wpAny_load hS ?_)
  refine wpAny_pure (wpAny_pure ?_)
  refine bm_if_false rfl ?_
  refine wpAny_bind (wpAny_specialOf hT ba_no_index ?_)
  refine bm_if_true rfl ?_
  first
    | show wpAny _ _ (Builtin.Bytes.buffer? "bytes.__new__" (.ref l) true >>= _) _ _ _
    | (refine wpAny_bind ?_; show wpAny _ _ (Builtin.Bytes.buffer? "bytes.__new__" (.ref l) true >>= _) _ _ _)
  refine wpAny_bind (wpAny_buffer_ba hS ?_)
  refine wpAny_bind (wpAny_rule ?_)
  refine wpAny_bind (wpAny_mkBytes ?_ (by unfold sizeLine; omega))
  show wpAny _ _ (if (Value.type "bytes" == Value.type "bytes") = true then _ else _) _ _ _
  refine bm_if_true (by decide) ?_
  first
    | exact wpAny_pure (hQ _ _)
    | exact wpAny_bind (wpAny_pure (wpAny_pure (hQ _ _)))
theorem call_bytes_ba {l : Addr} {b : Array UInt8} {Q : Value → Shared → Prop} (hS : s.heap.get? l = some (baObj b)) (hz : b.size ≤ 1000)
    (hQ : ∀ t k, Q (.bytes b t) { s with toks := k }) : wpAny (model prog w) A (call (.type "bytes") [.ref l]) Q E s := by
  refine callType_codes (Q₁ := fun obj s₁ => s₁.TypeIs obj "bytes" ∧ Q obj s₁) PySem.F.bm_called (PySem.F.bm_typeCall _) PySem.F.entry_object_init
    (bb_new hS hz fun t k => ⟨PySem.W.typeIs_bytes _ _ _, hQ t k⟩) fun obj s₁ h₁ => ?_
  exact ⟨h₁.1, PySem.F.args_object_init_2 obj _, object_init_meets PySem.F.bm_called.init.lookup PySem.F.bm_called.made (by decide) prog w A.in1 _ s₁ ⟨h₁.1, rfl, h₁.2⟩⟩

/-- the loop of bytes(it) over any walked iterator -/
theorem bw_loop {I S : Addr} {ns : List Int} {P : Nat → Value → Prop} {St : Nat → Heap → Prop} (W : Walks prog w A.in1 I [I] [I] ns.length P St) (hP : ∀ i v, i < ns.length → P i v → ∃ n t, v = .int n t ∧ ns[i]? = some n)
    (hr : ∀ n ∈ ns, 0 ≤ n ∧ n < 256) (hz : ns.length ≤ sizeLine) (hIS : I ≠ S) (hlive : ∀ i h, St i h → ∃ o, h.get? I = some o) :
    ∀ (k i : Nat) (s : Shared), ns.length - i = k → i ≤ ns.length → St i s.heap → s.heap.get? S = some (baObj (byteArr (ns.take i))) →
      (∀ h' t k', (∀ b o, b ≠ I → b ≠ S → s.heap.get? b = some o → h'.get? b = some o) → R (.ok (.ret (.bytes (byteArr ns) t))) { s with heap := h', toks := k' }) →
      codeAny (model prog w) A (.builtin "bytes.__new__.loop" ⟨[.type "bytes", .ref I, .ref S], []⟩) R s := by
  intro k
  induction k with
  | zero =>
    intro i s hk hle hit hS hR
    have hin : i = ns.length := by omega
    subst hin
    refine codeAny_builtin PySem.F.bm_entry_loop ?_
    rw [Around.under_plainId PySem.F.bm_plain_loop _]
    show wpAny _ A.in1 (pyNext (.ref I) >>= _) _ _ s
    refine wpAny_bind (W.done _ _ _ hit fun h' tk he => ?_)
    have he' : ∀ b o, b ≠ I → s.heap.get? b = some o → h'.get? b = some o := fun b o hb e => he b o (by simpa using hb) e
    have hS' : h'.get? S = some (baObj (byteArr (ns.take ns.length))) := he' S _ (Ne.symm hIS) hS
    refine wpAny_bind ?_
    unfold Builtin.Bytes.payload Builtin.Bytes.payload?
    refine wpAny_bind (wpAny_bind (wpAny_load hS' ?_))
    refine wpAny_pure (wpAny_pure ?_)
    rw [List.take_length]
    refine wpAny_bind (wpAny_mkBytes ?_ (by rw [byteArr_size]; exact hz))
    show wpAny _ _ (if (Value.type "bytes" == Value.type "bytes") = true then _ else _) _ _ _
    refine bm_if_true (by decide) ?_
    first
      | exact wpAny_pure (hR h' _ _ fun b o hb _ e => he' b o hb e)
      | exact wpAny_bind (wpAny_pure (wpAny_pure (hR h' _ _ fun b o hb _ e => he' b o hb e)))
  | succ k ih =>
    intro i s hk hle hit hS hR
    have hlt : i < ns.length := by omega
    refine codeAny_builtin PySem.F.bm_entry_loop ?_
    rw [Around.under_plainId PySem.F.bm_plain_loop _]
    show wpAny _ A.in1 (pyNext (.ref I) >>= _) _ _ s
    refine wpAny_bind (W.item i _ _ _ hlt hit fun x h' tk hx hit' hs => ?_)
    obtain ⟨n, t, rfl, hn⟩ := hP i x hlt hx
    obtain ⟨h0, h1⟩ := hr n (List.mem_of_getElem? hn)
    have he' : ∀ b o, b ≠ I → s.heap.get? b = some o → h'.get? b = some o := fun b o hb e => hs b o (by simpa using hb) e
    have hS' : h'.get? S = some (baObj (byteArr (ns.take i))) := he' S _ (Ne.symm hIS) hS
    refine wpAny_bind (wpAny_holding (wpAny_of_eq (rfl : asIndex (.int n t) = pure n) ?_))
    refine wpAny_bind (wpAny_letGo ?_)
    refine bm_if_false (by simp only [Bool.or_eq_false_iff, decide_eq_false_iff_not]; omega) ?_
    refine wpAny_bind ?_
    refine wpAny_ba_write (f := fun b => b.push n.toNat.toUInt8) hS' (by
      rw [Array.size_push, byteArr_size, List.length_take]; omega) fun h₂ hS₂ hk₂ => ?_
    rw [← byteArr_take hn] at hS₂
    refine wpAny_pure ⟨plainId_quiet PySem.F.bm_plain_loop _, ih (i + 1) { s with heap := h₂, toks := tk } (by omega) hlt ?_ hS₂ fun h3 t' k' hk3 => ?_⟩
    · exact W.frame _ _ _ hit' fun b hb o e => hk₂ b o (by rw [List.mem_singleton.mp hb]; exact hIS) e
    · exact hR h3 t' k' fun b o hbI hbS e => hk3 b o hbI hbS (hk₂ b o hbS (he' b o hbI e))

theorem br_no_bytes : typeLookup (.type "range") "__bytes__" = pure none := by rw [typeLookup_type, builtinLookup_eq_fast]; kernel_rfl
theorem br_no_index : typeLookup (.type "range") "__index__" = pure none := by rw [typeLookup_type, builtinLookup_eq_fast]; kernel_rfl
theorem br_no_buffer : typeLookup (.type "range") "__buffer__" = pure none := by rw [typeLookup_type, builtinLookup_eq_fast]; kernel_rfl
theorem wpAny_hint_range_b {r : Addr} {a b c : Int} {t u v : Tok} {n : Nat} {Q : Unit → Shared → Prop} (hr : IsRange s.heap r a b c t u v) (hn : Builtin.Range.rangeSize a b c = n) (hlen : n ≤ 1000)
    (h : Q () { s with toks := s.toks + 1 + 1 }) : wpAny (model prog w) A (Builtin.Bytes.lengthHint "bytes.__new__" (.ref r)) Q E s := by
  unfold Builtin.Bytes.lengthHint
  refine wpAny_bind (wpAny_specialOf ⟨_, hr, rfl⟩ PySem.F.slot_range_len.lookup ?_)
  generalize hid : ("range.__len__" : String) = id0
  wp_delta
  rw [show splitId id0 = some ("range", "__len__") from by subst hid; decide +kernel]
  subst hid
  refine wpAny_bind (wpAny_isInstance (T := "range") (b := true) ⟨_, hr, rfl⟩ (by rw [isSubtype_type]; kernel_rfl) ?_)
  refine wpAny_ite_split (fun hab => absurd hab (by decide)) (fun _ => ?_)
  refine wpAny_ite_split (fun hab => absurd hab (by decide +kernel)) (fun _ => ?_)
  refine wpAny_ite_split (fun _ => ?_) (fun hab => absurd rfl hab)
  refine wpAny_bind (wpAny_rule ?_)
  refine wpAny_bind (wpAny_attempt (call_len_range hr hn (by omega) ?_))
  have htl : Builtin.Bytes.tooLong ((n : Int).toNat) = false := by simp [Builtin.Bytes.tooLong, sizeLine]; omega
  refine wpAny_bind (m := asInt? _) (wpAny_pure ?_)
  exact wpAny_ite_split (fun hab => absurd hab (by rw [htl]; decide)) (fun _ => wpAny_pure h)

theorem br_new {r : Addr} {a b : Int} {t u v : Tok} {ns : List Int} {Q : Value → Shared → Prop} (hh : A.handled = none) (hS : IsRange s.heap r a b 1 t u v) (hsmall : Builtin.Range.small a b 1 = true)
    (hns : Builtin.Range.rangeSize a b 1 = (ns.length : Int)) (hat : ∀ i : Nat, i < ns.length → ns[i]? = some (a + (i : Int))) (hr : ∀ n ∈ ns, 0 ≤ n ∧ n < 256) (hz : ns.length ≤ 1000)
    (hQ : ∀ h' t k, (∀ b o, s.heap.get? b = some o → h'.get? b = some o) → Q (.bytes (byteArr ns) t) { s with heap := h', toks := k }) :
    codeAny (model prog w) A (.call (.builtin "bytes.__new__") ⟨[.type "bytes", .ref r], []⟩) (wants Q E) s := by
  refine codeAny_of_tree ?_
  show wpAny _ A.in1 (do checkBuiltinCall "bytes.__new__" ⟨[.type "bytes", .ref r], []⟩; again (.builtin "bytes.__new__" ⟨[.type "bytes", .ref r], []⟩)) _ _ s
  refine wpAny_bind (wpAny_of_eq (PySem.F.bm_newCall _) (wpAny_pure ⟨plainId_quiet PySem.F.bm_plain _, codeAny_builtin PySem.F.bm_entry ?_⟩))
  rw [Around.under_plainId PySem.F.bm_plain _]
  have hT : s.TypeIs (.ref r) "range" := ⟨_, hS, rfl⟩
  unfold Builtin.«bytes.__new__»
  refine wpAny_bind (wpAny_of_eq (a := true) rfl ?_)
  refine bm_if_false rfl ?_
  refine wpAny_bind (wpAny_of_eq PySem.F.bm_sub ?_)
  refine bm_if_false rfl ?_
  refine wpAny_bind (wpAny_of_eq (PySem.F.bm_bind _) ?_)
  refine wpAny_bind (wpAny_of_eq (a := ()) rfl ?_)
  refine wpAny_bind (wpAny_of_eq (a := ()) rfl ?_)
  refine bm_if_false rfl ?_
  refine wpAny_bind (wpAny_specialOf hT br_no_bytes ?_)
  refine wpAny_bind (wpAny_bind ?_)
  show wpAny _ _ (load r >>= _) _ _ _
  refine wpAny_bind (wpAny_load hS ?_)
  refine wpAny_pure (wpAny_pure ?_)
  refine bm_if_false rfl ?_
  refine wpAny_bind (wpAny_specialOf hT br_no_index ?_)
  refine bm_if_true rfl ?_
  first
    | show wpAny _ _ (Builtin.Bytes.buffer? "bytes.__new__" (.ref r) true >>= _) _ _ _
    | (refine wpAny_bind ?_; show wpAny _ _ (Builtin.Bytes.buffer? "bytes.__new__" (.ref r) true >>= _) _ _ _)
  refine wpAny_bind ?_
  unfold Builtin.Bytes.buffer?
  refine wpAny_bind (wpAny_specialOf hT br_no_buffer ?_)
  refine wpAny_bind (wpAny_specialOf hT br_no_buffer ?_)
  refine wpAny_pure ?_
  refine wpAny_bind (wpAny_tryCatch (wpAny_pyIter_range hS hsmall ?_))
  refine wpAny_bind (wpAny_holding ?_)
  refine wpAny_hint_range_b (s := { s with heap := s.heap.push _ }) (Heap.get?_push_of_some _ hS) hns hz ?_
  refine wpAny_bind ?_
  unfold Builtin.Bytes.newBytearray
  refine wpAny_newObj_type ?_ (Nat.zero_le _)
  have hI : IsRangeIter ((s.heap.push { cls := .type "range_iterator", data := .fields #[rawInt a, rawInt (Builtin.Range.rangeSize a b 1), rawInt 1] }).push { cls := .type "bytearray", data := .bytearray #[] }) s.heap.objs.size a (ns.length : Int) 1 := by
    rw [hns]
    exact Heap.get?_push_of_some _ (Heap.get?_push_size _ rfl)
  have hsz : (s.heap.push { cls := .type "range_iterator", data := .fields #[rawInt a, rawInt (Builtin.Range.rangeSize a b 1), rawInt 1] }).objs.size = s.heap.objs.size + 1 := Heap.size_push _ _
  have main := bw_loop (prog := prog) (w := w) (A := A) (R := wants Q E) (I := s.heap.objs.size) (S := (s.heap.push { cls := .type "range_iterator", data := .fields #[rawInt a, rawInt (Builtin.Range.rangeSize a b 1), rawInt 1] }).objs.size) (ns := ns)
    (Walks.range (prog := prog) (w := w) (A := A.in1) hh s.heap.objs.size a 1 ns.length) (fun i v hi ⟨t, e⟩ => ⟨_, t, e, by
      rw [Int.mul_one]; exact hat i hi⟩) hr (by unfold sizeLine; omega) (by rw [hsz]; exact Nat.ne_of_lt (Nat.lt_succ_self _)) (fun i h st => ⟨_, st⟩)
    ns.length 0 { s with heap := (s.heap.push { cls := .type "range_iterator", data := .fields #[rawInt a, rawInt (Builtin.Range.rangeSize a b 1), rawInt 1] }).push { cls := .type "bytearray", data := .bytearray #[] }, toks := s.toks + 1 + 1 } rfl (Nat.zero_le _) (by simpa using hI) (Heap.get?_push_size _ rfl)
    fun h' t k hk => hQ h' t k fun b o e => hk b o (Nat.ne_of_lt (Heap.lt_size e)) (by rw [hsz]; exact Nat.ne_of_lt (Nat.lt_succ_of_lt (Heap.lt_size e))) (Heap.get?_push_of_some _ (Heap.get?_push_of_some _ e))
  first
    | exact wpAny_pure ⟨plainId_quiet PySem.F.bm_plain_loop _, main⟩
    | exact wpAny_pure (wpAny_pure ⟨plainId_quiet PySem.F.bm_plain_loop _, main⟩)
theorem call_bytes_range {r : Addr} {a b : Int} {t u v : Tok} {ns : List Int} {Q : Value → Shared → Prop} (hh : A.handled = none) (hS : IsRange s.heap r a b 1 t u v) (hsmall : Builtin.Range.small a b 1 = true)
    (hns : Builtin.Range.rangeSize a b 1 = (ns.length : Int)) (hat : ∀ i : Nat, i < ns.length → ns[i]? = some (a + (i : Int))) (hr : ∀ n ∈ ns, 0 ≤ n ∧ n < 256) (hz : ns.length ≤ 1000)
    (hQ : ∀ h' t k, (∀ b o, s.heap.get? b = some o → h'.get? b = some o) → Q (.bytes (byteArr ns) t) { s with heap := h', toks := k }) :
    wpAny (model prog w) A (call (.type "bytes") [.ref r]) Q E s := by
  refine callType_codes (Q₁ := fun obj s₁ => s₁.TypeIs obj "bytes" ∧ Q obj s₁) PySem.F.bm_called (PySem.F.bm_typeCall _) PySem.F.entry_object_init
    (br_new hh hS hsmall hns hat hr hz fun h' t k hk => ⟨PySem.W.typeIs_bytes _ _ _, hQ h' t k hk⟩) fun obj s₁ h₁ => ?_
  exact ⟨h₁.1, PySem.F.args_object_init_2 obj _, object_init_meets PySem.F.bm_called.init.lookup PySem.F.bm_called.made (by decide) prog w A.in1 _ s₁ ⟨h₁.1, rfl, h₁.2⟩⟩
end
end Mine
end
section
open PySem PySem.W PySem.Calls PyProof.Rows
set_option maxRecDepth 100000
namespace Mine
section
variable {M : Model} {A : Around} {E : Value → Shared → Prop} {s : Shared} {env : Env}
theorem wpN_execs_nil {Q : Flow → Shared → Prop} (h : Q .next s) : wpN M A (execs [] env) Q E s := fun _ _ _ _ _ => h
theorem wpN_execs_cons {st rest} {Q : Flow → Shared → Prop}
    (h : wpN M A (exec st env) (fun f s' => match f with | .next => wpN M A (execs rest env) Q E s' | f => Q f s') E s) :
    wpN M A (execs (st :: rest) env) Q E s := fun Γ p hΓ h1 h2 => by
  rw [execs_cons, Sem.wp_bind']
  refine Sem.wp_mono M Γ _ (fun f p' s' h' => ?_) (fun _ _ _ h' => h') _ _ (h Γ p hΓ h1 h2)
  cases f <;> first | exact h' Γ p' hΓ h1 h2 | exact h'
theorem execs_append (pre post : List Stmt) : execs (pre ++ post) env = (execs pre env >>= fun f => match f with | .next => execs post env | f => pure f) := by
  induction pre with
  | nil => rfl
  | cons st pre ih =>
    rw [List.cons_append, execs_cons, execs_cons, bind_assoc]
    congr 1
    funext f
    cases f with
    | next => exact ih
    | _ => rfl
/-- the first statements by the walk, the rest over clean stacks -/
theorem wpN_execs_append {pre post : List Stmt} {Q : Flow → Shared → Prop}
    (h : wpAny M A (execs pre env) (fun f s' => match f with | .next => wpN M A (execs post env) Q E s' | f => Q f s') E s) :
    wpN M A (execs (pre ++ post) env) Q E s := by
  rw [execs_append]
  refine wpN_bindA (wpAny_mono h (fun f s' h' => ?_) fun _ _ x => x)
  cases f with
  | next => exact h'
  | _ => exact wpN_any (wpAny_pure h')
theorem wpN_execs_split (n : Nat) {body : List Stmt} {Q : Flow → Shared → Prop}
    (h : wpAny M A (execs (body.take n) env) (fun f s' => match f with | .next => wpN M A (execs (body.drop n) env) Q E s' | f => Q f s') E s) :
    wpN M A (execs body env) Q E s := by
  rw [← List.take_append_drop n body]
  exact wpN_execs_append h
/-- one statement, cut off from the rest by what holds behind it -/
theorem cut_stmt {st rest} {Q : Flow → Shared → Prop} (J : Shared → Prop) (h1 : wpAny M A (exec st env) (fun f s' => f = .next ∧ J s') (fun _ _ => False) s) (h2 : ∀ s', J s' → wpAny M A (execs rest env) Q E s') :
    wpAny M A (execs (st :: rest) env) Q E s :=
  wpAny_execs_cons (wpAny_mono (wpAny_noRaise h1) (fun f s' ⟨e, j⟩ => by subst e; exact h2 s' j) fun _ _ x => x)
theorem wpN_Assign_Name {x pos' value pos} {Q : Flow → Shared → Prop}
    (h : wpN M A (eval value env) (fun v s₁ => wpAny M A (storeName env x v) (fun _ => Q .next) E s₁) E s)
    (hs : swapsWith value (some (.Name x pos')) pos.line env = pure false := by rfl) :
    wpN M A (exec (.Assign [.Name x pos'] value pos) env) Q E s := fun Γ p hΓ h1 h2 => by
  simp only [exec_Assign_Name env x pos' value pos hs, Sem.wp_bind', Sem.wp_cmd_standAt, Sem.wp_bindName, Sem.wp_pure']
  exact Sem.wp_mono M Γ _ (fun v _ s₁ h₁ => h₁ Γ _ hΓ) (fun _ _ _ h' => h') _ _ (h Γ _ hΓ h1 h2)
theorem wpN_If {test body orelse pos} {Q : Flow → Shared → Prop}
    (h : wpN M A (isTrue test env (eval test env))
      (fun b s₂ => if b then wpAny M A (execs body env) Q E s₂ else wpAny M A (execs orelse env) Q E s₂) E s) :
    wpN M A (exec (.If test body orelse pos) env) Q E s := fun Γ p hΓ h1 h2 => by
  simp only [exec_If, Sem.wp_bind', Sem.wp_cmd_standAt]
  refine Sem.wp_mono M Γ _ (fun b p₂ s₂ h₂ => ?_) (fun _ _ _ h' => h') _ _ (h Γ _ hΓ h1 h2)
  cases b <;> exact h₂ Γ p₂ hΓ
theorem wpN_Call_ofName {x : Str} {np pos : Pos} {args : List Expr} {keywords : List Keyword} {Q : Value → Shared → Prop}
    (h : wpAny M A (eval (.Name x np) env) (fun f s₁ => wpN M A (callWith pos f [] (backTo pos (starEach args env)) (backToKw pos (keywordEach keywords env))) Q E s₁) E s) :
    wpN M A (eval (.Call (.Name x np) args keywords pos) env) Q E s := by
  show wpN M A (do callWith pos (← eval (.Name x np) env) [] (backTo pos (starEach args env)) (backToKw pos (keywordEach keywords env))) Q E s
  exact wpN_bindA h
theorem wpN_keep {α : Type} {vs : List Value} {m : Sem α} {Q : α → Shared → Prop} (h : wpN M A m Q E s) : wpN M A (m.keep vs) Q E s :=
  fun Γ p hΓ h1 h2 => by rw [Sem.wp_keep]; exact h Γ p hΓ h1 h2
/-- the call itself over clean stacks -/
theorem callWithN_of {pos : Pos} {f : Value} {first : List Value} {Q : Value → Shared → Prop} {P : Heap → Prop} {args : List (Bool × Sem Value)} {keywords : List (Option Str × Sem Value)} (hplain : (args.any (·.1) || keywords.any (·.1.isNone)) = false)
    (hk : ∀ h, P h → ∃ k, (k = Keeper.frame ∨ k = Keeper.machine ∨ k = Keeper.boundFrame) ∧ Looks M h (keeperOf f) k)
    (h : wpAny M A (evalArgs f true args keywords) (fun a s₁ => P s₁.heap ∧ wpN M A (call f (first ++ a.pos) a.kw) Q E s₁) E s) : wpN M A (callWith pos f first args keywords) Q E s := by
  unfold callWith
  refine wpN_bindA (wpAny_holding (wpAny_mono h (fun a s₁ h₁ => wpN_bindA (wpAny_standAt ?_)) fun _ _ x => x))
  obtain ⟨k, hk', L⟩ := hk _ h₁.1
  simp only [hplain]
  refine wpN_bindA (L.here ?_)
  have tail : ∀ {t : Sem Value}, wpN M A t Q E s₁ → wpN M A (t >>= fun r => holding [r] point >>= fun _ => pure r) Q E s₁ :=
    fun ht => wpN_bindE (wpN_mono ht (fun r s₂ hr => wpAny_bind (wpAny_holding (wpAny_point (wpAny_pure hr)))) fun _ _ x => x)
  have marked (mk : Value) : wpN M A (callMarked mk f (first ++ a.pos) a.kw) Q E s₁ := by unfold callMarked; exact wpN_keep h₁.2
  rcases hk' with rfl | rfl | rfl <;> dsimp only <;> first | exact tail h₁.2 | (split <;> first | exact tail h₁.2 | exact tail (marked _))
theorem callWithN_K {K : Frag} {pos : Pos} {f : Value} {first : List Value} {Q : Value → Shared → Prop} {h₀ : Heap} {e : Expr} {rest : List Expr} (_X : K.In h₀) (hk : keepIn K f = true) (h : wpAny M A (spliced (backTo pos (starEach (e :: rest) env))) (fun vs s₁ => K.In s₁.heap ∧ wpN M A (call f (first ++ vs)) Q E s₁) E s)
    (he : starEach (e :: rest) env = (false, eval e env) :: starEach rest env := by rfl) (hplain : (backTo pos (starEach rest env)).any (·.1) = false := by rfl) :
    wpN M A (callWith pos f first (backTo pos (starEach (e :: rest) env)) []) Q E s := by
  rw [he] at h ⊢
  exact callWithN_of (by show ((false || (backTo pos (starEach rest env)).any (·.1)) || false) = false; rw [hplain]; rfl) (keeps_K hk) (evalArgs_plain h)
theorem callWithN_type {pos : Pos} {T : String} {first : List Value} {args : List (Bool × Sem Value)} {Q : Value → Shared → Prop}
    (hplain : args.any (·.1) = false)
    (h : wpAny M A (evalArgs (.type T) true args []) (fun a s₁ => wpN M A (call (.type T) (first ++ a.pos) a.kw) Q E s₁) E s) :
    wpN M A (callWith pos (.type T) first args []) Q E s := by
  unfold callWith
  refine wpN_bindA (wpAny_holding (wpAny_mono h (fun a s₁ h₁ => wpN_bindA (wpAny_standAt ?_)) fun _ _ x => x))
  simp only [hplain, List.any_nil, Bool.or_false]
  refine wpN_bindA (wpAny_pure ?_)
  exact wpN_bindE (wpN_mono h₁ (fun r s₂ hr => wpAny_bind (wpAny_holding (wpAny_point (wpAny_pure hr)))) fun _ _ x => x)
theorem callWithN_type1 {pos : Pos} {T : String} {e : Expr} {Q : Value → Shared → Prop}
    (h : wpAny M A (eval e env) (fun v s₁ => wpN M A (call (.type T) [v]) Q E s₁) E s)
    (he : starEach [e] env = [(false, eval e env)] := by rfl) :
    wpN M A (callWith pos (.type T) [] (backTo pos (starEach [e] env)) []) Q E s := by
  rw [he]
  exact callWithN_type rfl (evalArgs_plain (spliced_cons (wpAny_mono h (fun v s₁ h₁ => spliced_nil h₁) fun _ _ x => x)))
theorem evalArgs_plainN {f : Value} {x : Sem Value} {rest : List (Bool × Sem Value)} {Q : Args → Shared → Prop}
    (h : wpN M A (spliced ((false, x) :: rest)) (fun vs s' => Q ⟨vs, []⟩ s') E s) : wpN M A (evalArgs f true ((false, x) :: rest) []) Q E s := by
  unfold evalArgs
  show wpN M A (spliced ((false, x) :: rest) >>= _) Q E s
  refine wpN_bindE (wpN_mono h (fun vs s' h' => ?_) fun _ _ x => x)
  refine wpAny_holding ?_
  exact wpAny_bind (wpAny_pure (wpAny_bind (wpAny_pure (wpAny_pure h'))))
theorem spliced_oneN {x : Sem Value} {Q : List Value → Shared → Prop} (h : wpN M A x (fun v s₁ => Q [v] s₁) E s) : wpN M A (spliced [(false, x)]) Q E s := by
  unfold spliced
  refine wpN_bindE (wpN_mono h (fun v s₁ h₁ => ?_) fun _ _ x => x)
  refine wpAny_bind (wpAny_pure ?_)
  refine wpAny_bind (wpAny_holding (wpAny_pure ?_))
  exact wpAny_pure h₁
/-- a type called with one argument that is made over clean stacks -/
theorem callWithN_typeArg {pos : Pos} {T : String} {e : Expr} {Q : Value → Shared → Prop}
    (h : wpN M A (eval e env) (fun v s₁ => wpAny M A (call (.type T) [v]) Q E s₁) E s)
    (he : starEach [e] env = [(false, eval e env)] := by rfl) :
    wpN M A (callWith pos (.type T) [] (backTo pos (starEach [e] env)) []) Q E s := by
  rw [he]
  unfold callWith
  refine wpN_bindE (wpN_holding ?_)
  refine evalArgs_plainN (spliced_oneN (wpN_mono h (fun v s₁ h₁ => ?_) fun _ _ x => x))
  refine wpAny_bind (wpAny_standAt ?_)
  have hplain : (backTo pos [(false, eval e env)]).any (·.1) = false := rfl
  simp only [hplain, List.any_nil, Bool.or_false]
  refine wpAny_bind (wpAny_pure ?_)
  exact wpAny_bind (wpAny_mono h₁ (fun r s₂ hr => wpAny_bind (wpAny_holding (wpAny_point (wpAny_pure hr)))) fun _ _ x => x)
end
section
variable {prog : Program} {w : World} {A : Around} {s : Shared} {R : Result → Shared → Prop}
theorem codeN_func {body env}
    (h : wpN (model prog w) (A.deeper env) (execs body env) (fun f s' => R (.ok (.ret (match f with | .ret v => v | _ => .none))) s')
      (fun _ _ => False) s) :
    codeN (model prog w) A (.func body env) R s := by
  refine codeN_of_tree rfl ?_
  show wpN _ (A.deeper env) (do point; match ← (execs body env).onRaise (leaving env) with | .ret v => ret v | _ => ret .none) _ _ s
  refine wpN_bindA (wpAny_point (wpN_bind (wpN_onRaise (wpN_mono h (fun f s' h' => ?_) fun _ _ h' => h'))))
  cases f <;> exact wpN_any (wpAny_pure h')
theorem codeN_call_function {a : Addr} {args : Args} {o : Obj} {fd : FuncData} {body : List Stmt} (hroom : A.depth < recursionLimit)
    (ho : s.heap.get? a = some o)
    (hd' : o.data = .func fd) (hco : fd.scope.isCoroutine = false) (hgen : fd.scope.isGenerator = false) (hbody : fd.body = .stmts body) (hcd : s.heap.CodeRec fd.code fd.qualname)
    (h : wpAny (model prog w) A.in1 (bindArgs fd args) (fun binds s₁ =>
      wpAny (model prog w) A.in1 (newFunctionEnv fd.scope fd.globals fd.closure binds (fd.qualname ++ ".<locals>.") (some a) fd.code none fd.builtins)
        (fun env s₂ => s₂.heap.NoLimit ∧ codeN (model prog w) A (.func body env) R s₂) (fun e s' => R (.error e) s') s₁) (fun e s' => R (.error e) s') s) :
    codeN (model prog w) A (.call (.ref a) args) R s := by
  refine codeN_of_tree rfl ?_
  show wpN _ A.in1 (callAny (.ref a) args) _ _ s
  simp only [callAny]
  refine wpN_bindA (wpAny_load ho ?_)
  obtain ⟨c, oc, vs, tq, hc, hoc, hdc, hq⟩ := hcd
  simp only [hd', callFunction, hco, hgen, hbody, hc]
  rw [hc] at h
  refine wpN_bindA (m := field (.ref c) 1) (wpAny_field hoc hdc hq (wpN_bindA (wpAny_pure ?_)))
  exact wpN_bindA (wpAny_mono h (fun binds s₁ h₁ => wpN_bindA (wpAny_mono h₁ (fun env s₂ h₂ => wpN_bindA (wpAny_enterFrame h₂.1 hroom
    (wpN_any (wpAny_pure (And.intro rfl h₂.2))))) fun _ _ h' => h')) fun _ _ h' => h')
theorem codeN_call_def {a : Addr} {o : Obj} {fd : FuncData} {body : List Stmt} {args : Args} {binds : List (Str × Value)}
    (hroom : A.depth < recursionLimit) (ho : s.heap.get? a = some o) (hdata : o.data = .func fd) (hlim : s.heap.NoLimit) (hcd : s.heap.CodeRec fd.code fd.qualname)
    (hbody : fd.body = .stmts body) (hbind : BindsTo s fd args binds)
    (hcell : ∀ x ∈ fd.scope.names, x.2 ≠ .cell) (hloc : ∀ x ∈ binds, fd.scope.names.lookup x.1 = some .local)
    (h : ∀ h₀, h₀.Ns s.heap.objs.size (fun x => binds.reverse.lookup x) → (∀ b o, s.heap.get? b = some o → h₀.get? b = some o) →
      wpN (model prog w) (A.deeper (callEnv fd s.heap.objs.size a)) (execs body (callEnv fd s.heap.objs.size a)) (fun f s' => R (.ok (.ret (match f with | .ret v => v | _ => .none))) s')
        (fun _ _ => False) { s with heap := h₀, toks := s.toks + binds.length })
    (hco : fd.scope.isCoroutine = false := by rfl) (hgen : fd.scope.isGenerator = false := by rfl) (hk : fd.scope.kind = .function := by rfl) :
    codeN (model prog w) A (.call (.ref a) args) R s := by
  refine codeN_call_function hroom ho hdata hco hgen hbody hcd (hbind _ _ _ _ ?_)
  refine wpAny_newFunctionEnv hcell hloc (fun h₀ hns₀ hsb₀ => ⟨hlim.fresh _ hsb₀, codeN_func (h h₀ hns₀ fun b o e => ?_)⟩) hk
  exact hsb₀.extBut b o (Nat.ne_of_lt (Heap.lt_size e)) (Heap.get?_push_of_some _ e)
end
end Mine
end
section
open PySem PySem.W PySem.Calls PyProof.Rows
set_option maxRecDepth 100000
namespace Mine
theorem around_leN {α : Type} {M : Model} {A A' : Around} {t : Sem α} {Q : α → Shared → Prop} {E : Value → Shared → Prop} {s : Shared}
    (h : wpN M A' t Q E s) (e1 : A.handled = A'.handled) (e2 : A.depth ≤ A'.depth) (e3 : A.frames = A'.frames) (e4 : A.guards = A'.guards) (e5 : A.units ≤ A'.units) : wpN M A t Q E s := by
  intro Γ p hΓ
  refine h Γ p ⟨?_, ?_, ?_, ?_, ?_⟩
  · rw [← e1]; exact hΓ.1
  · exact Nat.le_trans hΓ.2.1 e2
  · rw [← e3]; exact hΓ.2.2.1
  · rw [← e4]; exact hΓ.2.2.2.1
  · exact Nat.le_trans hΓ.2.2.2.2 e5

/-- a def's contract over clean stacks -/
def ConN (D U : Nat) (prog : Program) (w : World) (K : Frag) (p : Program) (loose : List Str) (f : Addr) (vs : List Value) (Pre : Heap → Prop) (Post : Heap → Heap → Value → Prop) : Prop :=
  ∀ (A : Around) (env : Env) (outer : List Env) (A₀ : Around) (base h₀ : Heap) (L : Addr) (m : Str → Option Value) (mean : ExcName → Option Value) (mg mb : Str → Option Value) (s : Shared) (Q E : Value → Shared → Prop),
    A.frames = some (env :: outer) → env.frame = some L → env.scope.kind = .function → A.handled = none → A.depth ≤ D → A.units ≤ U →
    Below A₀ base outer h₀ → Fr h₀ L s.heap m → K.In h₀ → Top p loose mean mg mb h₀ → Pre s.heap →
    (∀ r h' tk', Ext s.heap h' → Post s.heap h' r → Q r { s with heap := h', toks := tk' }) →
    wpN (model prog w) A (call (.ref f) vs) Q E s

section
variable {D U : Nat} {prog : Program} {w : World} {K : Frag} {p : Program} {loose : List Str} {f : Addr} {vs : List Value} {Pre : Heap → Prop} {Post : Heap → Heap → Value → Prop}
  {name qual : Str} {params : Arguments} {body : List Stmt} {scope : Scope} {dV kV doc pm cdv ct oc : Value} {an od : Option Addr} {osl : Array (Option Value)} {binds : List (Str × Value)}

theorem con_plainN (hD : D < recursionLimit)
    (ho : K.lookup f = some ⟨oc, od, .func (fnOf name qual params body scope dV kV doc pm an cdv ct), osl⟩) (hcd : codeIn K cdv qual = true)
    (hbind : ∀ s, BindsTo s (fnOf name qual params body scope dV kV doc pm an cdv ct) ⟨vs, []⟩ binds) (hloc : ∀ y ∈ binds, scope.names.lookup y.1 = some .local)
    (hcell : ∀ x ∈ scope.names, x.2 ≠ .cell)
    (h : ∀ (env : Env) (outer : List Env) (gd : Option (List Code)) (A : Around) (base : Heap) (L' : Addr) (h₁ : Heap) (mean : ExcName → Option Value) (mg mb : Str → Option Value) (s : Shared),
      A = BodyA D U gd env outer → Fr s.heap L' h₁ (fun y => binds.reverse.lookup y) → Below A base (env :: outer) s.heap → K.In s.heap → Top p loose mean mg mb s.heap → Pre s.heap →
      wpN (model prog w) (A.deeper (envOf qual scope L' f cdv)) (execs body (envOf qual scope L' f cdv))
        (fun fl s' => Ends s Post (match fl with | .ret v => v | _ => .none) s') (fun _ _ => False) { s with heap := h₁, toks := s.toks + binds.length })
    (hco : scope.isCoroutine = false := by rfl) (hgen : scope.isGenerator = false := by rfl) (hk : scope.kind = .function := by rfl) :
    ConN D U prog w K p loose f vs Pre Post := by
  intro A env outer A₀ base h₀ L m mean mg mb s Q E e1 e2 e3 e4 e5 e6 B F X T pre ret
  refine around_leN (A' := BodyA D U A.guards env outer) ?_ e4 e5 e1 rfl e6
  refine wpN_call ?_
  have N : News h₀ L s.heap [] := News.nil
  obtain ⟨FG, BG, st, -⟩ := groundX (A := BodyA D U A.guards env outer) (R := fun _ _ => True) B F N rfl e2 e3
  have st : Ext h₀ s.heap := st
  refine codeN_call_def (fd := fnX name qual params body scope [] dV kV doc pm an cdv ct) (body := body) (binds := binds) hD ((X.keeps F.keep) _ _ ho) rfl (T.nolimit.keeps F.keep) (codeRec_of (X.keeps F.keep) hcd) rfl (hbind _) hcell hloc (fun h₁ hns hk₁ => ?_) hco hgen hk
  refine wpN_mono (h env outer A.guards _ base s.heap.objs.size h₁ mean mg mb s rfl ⟨hns, hk₁, Nat.le_refl _⟩ BG (X.keeps F.keep) (T.keeps F.keep) pre) (fun fl s' hl => ?_) fun _ _ y => y
  obtain ⟨h', tk', rfl, x, post⟩ := hl
  exact ret _ _ _ x post
end
/-- a place where the walk is to stop, over clean stacks -/
theorem con_callN {D U : Nat} {prog : Program} {w : World} {K : Frag} {p : Program} {loose : List Str} {f : Addr} {vs : List Value} {Pre : Heap → Prop} {Post : Heap → Heap → Value → Prop}
    {A : Around} {env : Env} {outer : List Env} {A₀ : Around} {base h₀ : Heap} {L : Addr} {m : Str → Option Value} {mean : ExcName → Option Value} {mg mb : Str → Option Value} {s : Shared} {Q E : Value → Shared → Prop} {news : List (Addr × Obj)}
    (C : ConN D U prog w K p loose f vs Pre Post) (F : Fr h₀ L s.heap m) (N : News h₀ L s.heap news) (e1 : A.frames = some (env :: outer)) (e2 : env.frame = some L) (e3 : env.scope.kind = .function) (e4 : A.handled = none) (e5 : A.depth ≤ D) (e6 : A.units ≤ U)
    (B : Below A₀ base outer h₀) (X : K.In h₀) (T : Top p loose mean mg mb h₀) (pre : Pre s.heap)
    (ret : ∀ r h' tk', Ext s.heap h' → Post s.heap h' r → Fr h₀ L h' m → News h₀ L h' news → (∀ r o, Fresh s.heap h' r o → News h₀ L h' ((r, o) :: news) ∧ LCg.Off1 r news) → Q r { s with heap := h', toks := tk' }) :
    wpN (model prog w) A (call (.ref f) vs) Q E s :=
  C A env outer A₀ base h₀ L m mean mg mb s Q E e1 e2 e3 e4 e5 e6 B F X T pre fun r h' tk' x q => ret r h' tk' x q (F.keeps x) (N.grown x) fun _ _ f => ⟨f.news F N x, off1_of (f.off N)⟩

/-- one object of the ledger written over -/
theorem news_put {h₀ h h' : Heap} {L r : Addr} {o' : Obj} {news news' : List (Addr × Obj)} (N : News h₀ L h news) {o : Obj} (hr : (r, o) ∈ news) (h1 : h'.get? r = some o') (h2 : ∀ c o, c ≠ r → h.get? c = some o → h'.get? c = some o)
    (hn : ∀ p ∈ news', p = (r, o') ∨ (p ∈ news ∧ p.1 ≠ r)) : News h₀ L h' news' := by
  intro p hp
  rcases hn p hp with rfl | ⟨hp, hne⟩
  · exact ⟨h1, (N _ hr).2⟩
  · exact ⟨h2 _ _ hne (N p hp).1, (N p hp).2⟩
theorem fr_put {h₀ h h' : Heap} {L r : Addr} {m : Str → Option Value} {news : List (Addr × Obj)} (F : Fr h₀ L h m) (N : News h₀ L h news) {o : Obj} (hr : (r, o) ∈ news) (h2 : ∀ c o, c ≠ r → h.get? c = some o → h'.get? c = some o) : Fr h₀ L h' m := by
  refine ⟨F.ns.at' fun o e => h2 _ o (fun q => (N _ hr).2.1 q.symm) e, fun b o e => h2 b o (fun q => ?_) (F.keep b o e), F.above⟩
  have := (N _ hr).2.2
  rw [show b = r from q] at e
  rw [show h₀.get? r = none from this] at e
  cases e
section
variable {prog : Program} {w : World} {A : Around} {E : Value → Shared → Prop} {s : Shared} {env : Env} {h₀ : Heap} {target : Expr} {body : List Stmt} {Q : Flow → Shared → Prop}
theorem range_Xc {r : Addr} {a₀ b₀ c₀ : Int} {t₀ u₀ v₀ : Tok} {n : Nat} {m₀ : Str → Option Value} {news : List (Addr × Obj)} (J : Nat → (Str → Option Value) → List (Addr × Obj) → Prop)
    (hh : A.handled = none) (hr : IsRange s.heap r a₀ b₀ c₀ t₀ u₀ v₀) (hsmall : Builtin.Range.small a₀ b₀ c₀ = true) (hn : Builtin.Range.rangeSize a₀ b₀ c₀ = (n : Int)) (F : Fr h₀ env.locals s.heap m₀) (N : News h₀ env.locals s.heap news) (hj : J 0 m₀ news)
    (turn : ∀ i t m₁ news₁ h tk I oI, i < n → J i m₁ news₁ → (∀ p ∈ news₁, p.1 ≠ I) → Fr h₀ env.locals h m₁ → News h₀ env.locals h ((I, oI) :: news₁) →
      wpAny (model prog w) A (assign target env (.int (a₀ + (i : Int) * c₀) t)) (fun _ s₂ => wpAny (model prog w) A (execs body env) (TurnEnd h₀ env.locals (I, oI) (J (i + 1)) Q { s with heap := h, toks := tk }) E s₂) E { s with heap := h, toks := tk })
    (done : ∀ m₁ news₁ h tk, J n m₁ news₁ → Fr h₀ env.locals h m₁ → News h₀ env.locals h news₁ → Q .next { s with heap := h, toks := tk })
    (ht : ∀ I v, letOwnedTupleGo target (.ref I) v = pure ()) (hE : PassesOwn (model prog w) A env E) : LoopX prog w A h₀ env target body Q E (.ref r) s := by
  unfold LoopX
  refine wpAny_pyIter_range hr hsmall ?_
  have W := Walks.range (prog := prog) (w := w) hh s.heap.objs.size a₀ c₀ n
  refine loop_X (s := ⟨_, _, _, _, _⟩) J W (fun i h st => ⟨_, st⟩) (fun i m news h o _ _ _ b hb hne => absurd (List.mem_singleton.mp hb) hne) (next_is_new F) ?_ ?_ (F.push _) (fun p hp => ⟨Heap.get?_push_of_some _ (N p hp).1, (N p hp).2⟩) ?_ hj ?_ done (ht _) hE
  · exact Nat.ne_of_lt F.ns.lt
  · show IsRangeIter _ _ _ _ _
    rw [hn]
    simpa using Heap.get?_push_size _ rfl
  · intro p hp e
    exact absurd (Heap.lt_size (N p hp).1) (by rw [e]; exact Nat.lt_irrefl _)
  · rintro i v m₁ news₁ h tk oI hi ⟨t, rfl⟩ hJ hn' F' N'
    exact turn i t m₁ news₁ h tk _ oI hi hJ hn' F' N'
end
theorem fresh_none (h : Heap) : h.get? h.objs.size = none := by
  cases e : h.get? h.objs.size with
  | none => rfl
  | some o => exact absurd (Heap.lt_size e) (Nat.lt_irrefl _)
end Mine
end
section
open PySem PySem.W PySem.Calls PyProof.Rows
set_option maxRecDepth 100000
namespace Mine
theorem caller_clean : Clean (⟨.builtin "claim.caller" {}, none, none, [], none⟩ : Ctx) := fun _ h => nomatch h
theorem caller_ok : okCode (⟨.builtin "claim.caller" {}, none, none, [], none⟩ : Ctx).code = true := by decide +kernel
theorem wp_of_wpN_done {M : Model} {A : Around} {Γ : Ctx} {t : Sem Fin} {R : Result → Shared → Prop} {s : Shared} (hin : Γ.In A) (h1 : Clean Γ) (h2 : okCode Γ.code = true)
    (h : wpN M A t (fun fin s' => ∃ f, fin = .done f ∧ R (.ok f) s') (fun e s' => R (.error e) s') s) (p : Pos) :
    Sem.wp M Γ t (Sem.finPost M Γ R) (fun e _ s' => R (.error e) s') p s := by
  refine Sem.wp_mono M Γ t (fun fin p' s' h' => ?_) (fun _ _ _ h' => h') p s (h Γ p hin h1 h2)
  obtain ⟨f, rfl, hf⟩ := h'
  exact hf
theorem thread_ends_clean {prog : Program} {w : World} {t : Sem Fin} {s : Shared} {R : Result → Shared → Prop} (hreg : s.asleep)
    (h : wpN (model prog w) callerA t (fun fin s' => ∃ f, fin = .done f ∧ (R (.ok f) s' ∧ leftWithCleanup s'.gens = false)) (fun e s' => R (.error e) s' ∧ leftWithCleanup s'.gens = false) s) :
    ∃ n r s' s'', runN (denote table) prog w n s ⟨t, .builtin "claim.caller" {}, default, []⟩ = .halted (outcomeOf r) s' ∧
      schedN (denote table) prog w n (.single s ⟨t, .builtin "claim.caller" {}, default, []⟩) = .halted (outcomeOf r) s' ∧ s'.forget = s''.forget ∧ R r s'' := by
  obtain ⟨n, r, s₁, s₂, hs, hn, hfo, hR⟩ := wp_halts_full (M := model prog w) (R := R) hreg (wp_of_wpN_done (R := fun r s' => R r s' ∧ leftWithCleanup s'.gens = false) caller_in caller_clean caller_ok h default)
  exact ⟨n, r, s₂, s₁, hn, hs, hfo, hR⟩
theorem callFrom_clean {c : ClaimW} {tree : List Value → Sem Fin} {w : World} {s : Shared} {free : Addr → Prop} {gens : Prop} {kept : Heap → Prop} (hz : s.asleep) (hgens : s.gens = #[])
    (hspec : ∀ args, c.pre args = true → WData.layableAll args = true →
      ∀ ord : List DictEntry → List DictEntry, (∀ l, (ord l).Perm l) →
      ∃ vs s₁, layAllW c.records (classAt s.heap) w.params ord args s = some (vs, s₁) ∧
        wpN (model c.prog w) callerA (tree vs) (fun fin s' => ∃ f, fin = .done f ∧ (c.Ends s args vs s₁ (.ok f) s' ∧ s'.os = s.os ∧ AllBare s'.gens ∧ kept s'.heap))
          (fun e s' => c.Ends s args vs s₁ (.error e) s' ∧ s'.os = s.os ∧ AllBare s'.gens ∧ kept s'.heap) s₁) :
    c.CallFrom (fun vs => ⟨tree vs, .builtin "claim.caller" {}, default, []⟩) w free gens kept s := by
  intro args hpre hlay ord hord
  obtain ⟨vs, s₁, hlaid, hcode⟩ := hspec args hpre hlay ord hord
  have hal := layAllW_rest _ _ _ hlaid
  obtain ⟨k, r, s', s'', hrun, hsched, hfo, hcase, hos, hkp⟩ := thread_ends_clean (prog := c.prog) (w := w) (t := tree vs) (s := s₁)
    (R := fun r s' => c.Ends s args vs s₁ r s' ∧ s'.os = s.os ∧ kept s'.heap)
    (Shared.asleep_of_life hal.2.2.2 hz)
    (wpN_mono hcode (by
      rintro fin s' ⟨f, e, h1, h2, h3, h4⟩
      exact ⟨f, e, ⟨h1, h2, h4⟩, leftWithCleanup_false_of_bare h3⟩) (by
      rintro e s' ⟨h1, h2, h3, h4⟩
      exact ⟨⟨h1, h2, h4⟩, leftWithCleanup_false_of_bare h3⟩))
  obtain ⟨eh, _, _, eo, _⟩ := Shared.forget_eq hfo
  have hcase := hcase.congr eh
  have hkp : kept s'.heap := by first | exact eh ▸ hkp | (rw [eh] at hkp; exact hkp) | (rw [← eh] at hkp; exact hkp)
  rw [← eo] at hos
  have hlife : s'.heap.life = s.heap.life := (runN_life _ _ _ hrun).trans hal.2.2.2
  refine ⟨vs, s₁, hlaid, k, _, s', hsched, ?_, (fun _ i x hx => by rw [hgens] at hx; simp at hx), hkp, by rw [hlife], Shared.rest_eq hos⟩
  rcases hcase with ⟨v, rfl, d1, d2, d3, d4, d5⟩ | ⟨e, ob, cls, rfl, d1, d2, d3, d4, d5⟩
  · exact .inl ⟨v, rfl, d1, d2, d3, fun b o y _ => d4 b o y, d5⟩
  · exact .inr ⟨e, ob, cls, rfl, d1, d2, d3, d4, fun b o y _ => d5 b o y⟩
theorem open_clean {r : RowW} {run : Value → List Value → Sem Value} {tree : List Value → Sem Fin} {q : Program} {loose defs kps : List Str} {writes : Bool} {Xt : Shared → Bool} {XP : (Str → Option Value) → Heap → Prop} {α : Type} {Yf : Shared → α} {Ya : World → α} {YP : World → Heap → Prop} {N : Nat}
    (left : LeftO r.prog q loose Xt Yf Ya N) (hY : ∀ w s, Yf s = Ya w → YP w s.heap) (hYk : ∀ w h h', YP w h → (∀ b o, h.get? b = some o → h'.get? b = some o) → YP w h') (hX : ∀ s, Xt s = true → XP (s.heap.nsMap mainGlobals) s.heap) (hXk : ∀ mg h h', XP mg h → (∀ b o, h.get? b = some o → h'.get? b = some o) → XP mg h')
    (hRf : ∀ s, Xt s = true → RecFacts r.records s.heap) (hwr : (!writes || r.records.isEmpty) = true) (ok : (chainsOk q && opensWell r.prog && (frees r && r.within.isEmpty)) = true) (hb : r.prog.bare) (hw : r.promised)
    (ht : ∀ vs (w : World) (s : Shared) mg f (Q : Fin → Shared → Prop) (E : Value → Shared → Prop), s.heap.Ns mainGlobals mg → mg r.name = some f → wpN (model r.prog w) callerA (run f vs) (fun v s' => Q (.done (.ret v)) s') E s → wpN (model r.prog w) callerA (tree vs) Q E s)
    (pin : ∀ w s, s.heap.isNs mainGlobals = true → Ground q loose [] XP w s (s.heap.nsMap mainGlobals) (s.heap.nsMap builtinsNs) s.heap → ∀ n ∈ defs, isTheDefsW r.prog s.heap n)
    (call : ∀ (w : World) (s₀ s₁ : Shared) (mg mb : Str → Option Value), Ground q loose r.records XP w s₀ mg mb s₁.heap → YP w s₁.heap → ∀ (args : List WData) (vs : List Value) (as : List Addr),
      r.claim.pre args = true → WData.layableAll args = true → Laid r.records w s₀ s₁ args vs as → sysModules < s₀.heap.objs.size → ∃ f, mg r.name = some f ∧
        wpN (model r.prog w) callerA (run f vs) (fun v s' => GoodWG r.claim (classAt s₀.heap) (ExcName.means s₀.heap) args s₁ (.ok (.ret v)) s')
          (fun e s' => GoodWG r.claim (classAt s₀.heap) (ExcName.means s₀.heap) args s₁ (.error e) s') s₁) : r.claim.HoldsOpenBy (fun vs => ⟨tree vs, .builtin "claim.caller" {}, default, []⟩) defs kps writes := by
  obtain ⟨ok, k5⟩ := Bool.and_eq_true_iff.mp ok
  obtain ⟨hch, o1⟩ := Bool.and_eq_true_iff.mp ok
  obtain ⟨k5, k6⟩ := Bool.and_eq_true_iff.mp k5
  obtain ⟨hsame, hu, ha, hap, hm⟩ := frees_parts k5
  refine ⟨⟨hb, o1, by show r.makers.map _ = []; rw [hm]; rfl⟩, hw.witness, fun w => ⟨(left.behind hX hch w).1, fun s' hs' => ?_⟩⟩
  obtain ⟨s₀, hf, hg0, s, hT, hz, hgens, hg, G00, y⟩ := (left.behind (XP := fun mg h => XP mg h ∧ RecFacts r.records h) (fun s hs => ⟨hX s hs, hRf s hs⟩) hch w).2 s' hs'
  have G0 : Ground q loose [] XP w s (s.heap.nsMap mainGlobals) (s.heap.nsMap builtinsNs) s.heap := ⟨G00.T, G00.B, G00.D, G00.TE, G00.TD, G00.W, G00.X.1, G00.cls, G00.has, G00.apart, G00.once, G00.K⟩
  have RF := G00.X.2
  have hT' := hT
  refine ⟨s₀, hf, hg0, s, hT, pin w s hg G0, RF.1, RF.2.1, ?_⟩
  have hgens : s.gens = #[] := Array.eq_empty_of_size_eq_zero (beq_iff_eq.mp hgens)
  have G : Ground q loose r.records XP w s _ _ s.heap := RF.ground G0
  refine callFrom_clean (c := r.claim) hz hgens fun args hpre hlay ord hord => ?_
  obtain ⟨⟨vs, s₁⟩, hlaid⟩ := Option.isSome_iff_exists.mp (layAllW_isSome (P := w.params) (ord := ord) G.has args r.args s (pre_splitW hpre).1)
  have keeps := layAllW_keeps _ _ _ hlaid
  have hal := layAllW_rest _ _ _ hlaid
  obtain ⟨as, hrd, hin, hold⟩ := reads_layAllW hord _ _ _ hlaid hlay s₁.heap (fun _ _ e => e)
  have L : Laid r.records w s s₁ args vs as := ⟨⟨ord, hord, hlaid⟩, hrd, hin, hold, keeps, hal.1.trans hgens, hal.2.2.1⟩
  have G₁ := G.keeps hXk keeps
  obtain ⟨f, hf, h⟩ := call w s s₁ _ _ G₁ (hYk _ _ _ (hY w s y) keeps) args vs as hpre hlay L G.low
  have hi := ident_freeW hu ha hap
  have hwi : r.claim.within = [] := List.isEmpty_iff.mp k6
  exact ⟨vs, s₁, hlaid, ht vs w s₁ _ f _ _ G₁.T.g hf (wpN_mono h (fun v s' g => ⟨_, rfl, have z := g.laid (c := r.claim) hsame hwi hi L; ⟨z.1, z.2.1, z.2.2, fun q => ⟨namesKept_of hT' hg kps keeps g.2.1.old, noTable hwr q⟩⟩⟩) fun e s' g => have z := g.laid (c := r.claim) hsame hwi hi L; ⟨z.1, z.2.1, z.2.2, fun q => ⟨namesKept_of hT' hg kps keeps g.2.1.old, noTable hwr q⟩⟩)⟩

abbrev WalkC (q : Program) (loose : List Str) (XP : (Str → Option Value) → Heap → Prop) (YP : World → Heap → Prop) (r : RowW) (d : DefRec) (kwd : List (Str × Expr)) (run : Value → List Value → Sem Value) : Prop :=
  ∀ (w : World) (s₀ s₁ : Shared) (mg mb : Str → Option Value), Ground q loose r.records XP w s₀ mg mb s₁.heap → YP w s₁.heap → ∀ (a : Addr) (o : Obj) (pm cd doc dV kV : Value), s₁.heap.get? a = some o →
    o.data = .func { docDef d.name d.params d.body d.scope pm cd doc with defaults := dV, kwdefaults := kV } → s₁.heap.CodeRec cd d.name → Dflts mg s₁.heap d.params kwd dV kV → mg d.name = some (.ref a) → s₁.gens = #[] →
    ∀ (args : List WData) (vals : List Value) (as : List Addr), r.claim.pre args = true → WData.layableAll args = true → ReadsAllW r.records (classAt s₀.heap) s₁.heap vals args as → WellAll w.params s₁.heap vals args → (∀ a ∈ as, (a == sysModules) = false) →
      wpN (model r.prog w) callerA (run (.ref a) vals) (fun v s' => GoodWG r.claim (classAt s₀.heap) (ExcName.means s₀.heap) args s₁ (.ok (.ret v)) s')
        (fun e s' => GoodWG r.claim (classAt s₀.heap) (ExcName.means s₀.heap) args s₁ (.error e) s') s₁

/-- the kit's head, with a walk over clean stacks alone -/
theorem PySem.W.holds_open {r : OpenRow} {q : Program} {loose : List Str} {Xt : Shared → Bool} {XP : (Str → Option Value) → Heap → Prop} {α : Type} {Yf : Shared → α} {Ya : World → α} {YP : World → Heap → Prop} {d : DefRec} {kwd : List (Str × Expr)} {N : Nat}
    (left : LeftO r.prog q loose Xt Yf Ya N) (hY : ∀ w s, Yf s = Ya w → YP w s.heap) (hYk : ∀ w h h', YP w h → (∀ b o, h.get? b = some o → h'.get? b = some o) → YP w h')
    (hX : ∀ s, Xt s = true → XP (s.heap.nsMap mainGlobals) s.heap) (hXk : ∀ mg h h', XP mg h → (∀ b o, h.get? b = some o → h'.get? b = some o) → XP mg h')
    (hdef : defOf q r.name = some (d, kwd)) (hp : r.prog.theDef r.name = some (d.params, d.body, d.scope)) (hk : kwWritten? d.params.kwonlyargs d.params.kw_defaults = some kwd) (hRf : ∀ s, Xt s = true → RecFacts r.records s.heap) (hwr : (!r.writes || r.records.isEmpty) = true)
    (k1 : r.wellSaid = true) (ok : (chainsOk q && opensWell r.prog && (frees r.toRowW && r.within.isEmpty)) = true) (hb : r.prog.bare) (hw : r.toRowW.promised)
    (call : WalkC q loose XP YP r.toRowW d kwd fun f vs => _root_.PySem.call f vs) : r.Holds := by
  refine ⟨k1, hw, open_clean (r := r.toRowW) (run := fun f vs => _root_.PySem.call f vs) (tree := fun vs => do match ← nsGet mainNs r.name with
      | some f => do ret (← _root_.PySem.call f vs)
      | none => unsupported "claim.caller:no-such-global") left hY hYk hX hXk hRf hwr ok hb hw
    (fun vs w s mg f Q E hg hf h => wpN_bindA (wpAny_nsGet hg (by rw [hf]; exact wpN_bindE (wpN_mono h (fun _ _ x => wpAny_pure x) fun _ _ x => x))))
    (fun w s hg G n hn => ?_) fun w s₀ s₁ mg mb G Y args vs as hpre hlay L low => ?_⟩
  · obtain rfl : n = r.name := by split at hn <;> simp_all
    exact pinned_of_view hg G hdef hp hk
  · obtain ⟨a, o, pm, cd, doc, dV, kV, h1, h2, h3, h4, h5⟩ := G.fn hdef
    exact ⟨.ref a, h1, call w s₀ s₁ mg mb G Y a o pm cd doc dV kV h2 h3 h4 h5 (defOf_name hdef ▸ h1) L.gens args vs as hpre hlay L.reads L.well (L.low low)⟩

theorem enter_callC {M : Model} {A : Around} {s : Shared} {f : Value} {pos : List Value} {kw : List (Str × Value)} {c : ClaimW} {cl : Str → Option Addr} {mean : ExcName → Option Value} {args : List WData} {s₁ : Shared}
    (h : codeN M A (.call f ⟨pos, kw⟩) (GoodWG c cl mean args s₁) s) : wpN M A (_root_.PySem.call f pos kw) (fun v s' => GoodWG c cl mean args s₁ (.ok (.ret v)) s') (fun e s' => GoodWG c cl mean args s₁ (.error e) s') s :=
  wpN_call (codeN_mono h fun res s' g => by rcases g.1 with ⟨v, _, _, rfl, _⟩ | ⟨e, _, _, rfl, _⟩ <;> exact g)

theorem call_cellsC {prog : Program} {w : World} {A : Around} {R : Result → Shared → Prop} {s : Shared} {name : Str} {params : Arguments} {body : List Stmt} {scope : Scope}
    {pm cd doc : Value} {a : Addr} {o : Obj} {args : List Value} {binds : List (Str × Value)}
    (hroom : A.depth < recursionLimit) (ho : s.heap.get? a = some o) (hdata : o.data = .func (Calls.docDef name params body scope pm cd doc)) (hlim : s.heap.NoLimit) (hcd : s.heap.CodeRec cd name)
    (hbind : bindArgs (Calls.docDef name params body scope pm cd doc) ⟨args, []⟩ = pure binds)
    (hkind : ∀ x ∈ binds, scope.names.lookup x.1 = some .local ∨ (scope.names.lookup x.1 = some .cell ∧ ((cellsFrom (s.heap.objs.size + 1) scope.names []).lookup x.1).isSome = true))
    (hnd : ((cellsFrom 0 scope.names []).map (·.1)).Nodup)
    (h : ∀ h₀ tk cells, Fr s.heap s.heap.objs.size h₀ (bindL (envOfC name scope s.heap.objs.size a cd).kindOf binds fun _ => none) → News s.heap s.heap.objs.size h₀ cells →
      CellsAre (bindC (envOfC name scope s.heap.objs.size a cd).kindOf binds fun _ => none) (cellsFrom (s.heap.objs.size + 1) scope.names []) cells →
      wpN (model prog w) (A.deeper (envOfC name scope s.heap.objs.size a cd)) (execs body (envOfC name scope s.heap.objs.size a cd))
        (fun f s' => R (.ok (.ret (match f with | .ret v => v | _ => .none))) s')
        (fun _ _ => False)
        { s with heap := h₀, toks := tk })
    (hco : scope.isCoroutine = false := by rfl) (hgen : scope.isGenerator = false := by rfl) (hk : scope.kind = .function := by rfl) :
    codeN (model prog w) A (.call (.ref a) ⟨args, []⟩) R s := by
  refine codeN_call_function hroom ho hdata hco hgen rfl hcd ?_
  rw [hbind]
  refine wpAny_pure ?_
  refine wpAny_newFunctionEnv_cells hk hkind fun env' he s' x => ?_
  subst he
  obtain ⟨h₁, tk, rfl, _⟩ := x.done
  refine ⟨hlim.keeps x.toInCall.keep, codeN_func ?_⟩
  obtain ⟨cells, NC, Y⟩ := Cl.news (h₀ := s.heap) (Nat.le_refl _) fun n c hm => ⟨x.cell n c (lookup_of_mem_nodup (cellsFrom_names scope.names 0 (s.heap.objs.size + 1) [] [] rfl ▸ hnd) hm), x.above n c hm⟩
  exact h h₁ tk cells ⟨x.toInCall.ns, x.toInCall.keep, Nat.le_refl _⟩ NC Y

end Mine
end
section
open PySem PySem.W PySem.Calls PyProof.Rows
namespace Mine
theorem bInts_set {c : Array UInt8} {k : Nat} {v : Int} (h0 : 0 ≤ v) (h1 : v < 256) : KBw.bInts (c.setIfInBounds k v.toNat.toUInt8) = (KBw.bInts c).set k v := by
  unfold KBw.bInts
  rw [Array.toList_setIfInBounds, List.map_set]
  congr 1
  have : v.toNat < 256 := by omega
  simp [Nat.mod_eq_of_lt this]
  omega
theorem rev_set {ks : List Int} {j : Nat} (hj : j < ks.length) : (List.replicate (ks.length - j) 0 ++ (ks.take j).reverse).set (ks.length - 1 - j) (ks.getD j 0) = List.replicate (ks.length - (j + 1)) 0 ++ (ks.take (j + 1)).reverse := by
  have e : ks.length - j = (ks.length - (j + 1)) + 1 := by omega
  rw [e, List.replicate_succ', List.append_assoc, List.take_add_one, List.set_append_right _ _ (by simp; omega)]
  congr 1
  have e2 : ks.length - 1 - j - (List.replicate (ks.length - (j + 1)) (0 : Int)).length = 0 := by simp; omega
  rw [e2]
  rw [List.getElem?_eq_getElem hj, List.reverse_append]
  simp [List.getElem?_eq_getElem hj, List.getD_eq_getElem?_getD]
theorem bInts_zero (n : Nat) : KBw.bInts (Array.replicate n 0) = List.replicate n 0 := by
  simp [KBw.bInts]
theorem rangeKs_at (n : Nat) : ∀ i : Nat, i < (rangeKs 0 n).length → (rangeKs 0 n)[i]? = some (0 + (i : Int)) := by
  intro i hi
  rw [rangeKs_length] at hi
  simp [rangeKs, List.getElem?_range hi]
theorem rangeKs_byte (n : Nat) (hn : n ≤ 4) : ∀ k ∈ rangeKs 0 n, 0 ≤ k ∧ k < 256 := by
  intro k hk
  have := mem_rangeKs hk
  omega
theorem byteArr_ints {ns : List Int} (h : ∀ k ∈ ns, 0 ≤ k ∧ k < 256) : KBw.bInts (byteArr ns) = ns := KBa.ints_make h
end Mine
end
section
open PySem PySem.W PySem.Calls PyProof.Rows
namespace Mine

theorem wpAny_eqIsQuiet_tup {prog : Program} {w : World} {K : Type} [DecidableEq K] {knd : KeyKind prog w K} {A : Around} {E : Value → Shared → Prop} {s : Shared} (n : Nat) {ks : List K} {a : Addr} {Q : Bool → Shared → Prop}
    (hk : IsTupleKey knd s.heap ks a) (h : Q true s) : wpAny (model prog w) A (eqIsQuiet (n + 1) (.ref a)) Q E s := by
  have hT := hk.typeIs
  obtain ⟨o, items, m, ho, _, hd, hi⟩ := hk
  unfold eqIsQuiet
  refine wpAny_bind (wpAny_specialOf hT F.slot_tuple_eq.lookup ?_)
  show wpAny _ _ (isInstance (.ref a) (.type "tuple") >>= _) _ _ s
  refine wpAny_bind (wpAny_isInstance hT isSubtype_tuple_tuple ?_)
  simp only [Bool.not_true, Bool.false_eq_true, if_false]
  refine wpAny_bind (wpAny_seqItems ho hd ?_)
  refine wpAny_bind ?_
  show wpAny _ _ (forIn items _ _) _ _ s
  rw [← Array.forIn_toList]
  refine wpAny_forIn_list _ (fun rest r s' => r.1 = none ∧ s' = s ∧ ∀ v ∈ rest, carriedByValue v = true) _ ?_ ?_ _ _ ⟨rfl, rfl, hi.byValue⟩
  · rintro v rest r s' ⟨hr, rfl, hall⟩
    rw [eqIsQuiet_byValue _ (hall v List.mem_cons_self)]
    refine wpAny_bind (wpAny_pure ?_)
    simp only [Bool.not_true, Bool.false_eq_true, if_false]
    exact wpAny_pure ⟨rfl, rfl, fun u hu' => hall u (List.mem_cons_of_mem _ hu')⟩
  · rintro ⟨r1, r2⟩ s' ⟨hr, rfl, _⟩
    simp only at hr
    subst hr
    exact wpAny_pure h

/-- what stands between the two texts of a key -/
structure Mid (prog : Program) (w : World) (K : Type) [DecidableEq K] where
  is : Heap → K → Value → Prop
  hash : K → Int
  draws : K → Nat
  inj : ∀ {h : Heap} {v : Value} {x y : K}, is h x v → is h y v → x = y
  keeps : ∀ {h h' : Heap} {k : K} {v : Value} {d : Addr} {o : Obj} {es ep}, is h k v → h.get? d = some o → o.data = .dict es ep → Heap.SameBut d h h' → is h' k v
  pyHash : ∀ {A : Around} {E : Value → Shared → Prop} {s : Shared} {k : K} {v : Value} {Q : Int → Shared → Prop}, A.units < cLine → is s.heap k v → Q (hash k) { s with toks := s.toks + draws k } →
    wpAny (model prog w) A (PySem.pyHash v) Q E s
  eqBool : ∀ {A : Around} {E : Value → Shared → Prop} {s : Shared} {x y : K} {u v : Value} {Q : Bool → Shared → Prop}, A.units < cLine → is s.heap x u → is s.heap y v → Q (decide (x = y)) s →
    wpAny (model prog w) A (PySem.eqBool u v) Q E s
  quiet : ∀ {A : Around} {E : Value → Shared → Prop} {s : Shared} {k : K} {v : Value} {Q : Bool → Shared → Prop}, is s.heap k v → Q true s → wpAny (model prog w) A (eqIsQuiet 7 v) Q E s

def intMid (prog : Program) (w : World) : Mid prog w Int where
  is := fun _ k v => ∃ t, v = .int k t
  hash := hashInt
  draws := fun _ => 1
  inj := fun ⟨_, e1⟩ ⟨_, e2⟩ => by cases e1; cases e2; rfl
  keeps := fun h _ _ _ => h
  pyHash := fun _ ⟨_, e⟩ h => by cases e; exact wpAny_pyHash_int h
  eqBool := fun _ ⟨_, e1⟩ ⟨_, e2⟩ h => by cases e1; cases e2; exact wpAny_eqBool_int h
  quiet := fun ⟨_, e⟩ h => by cases e; rw [eqIsQuiet_byValue _ rfl]; exact wpAny_pure h

def tupMid (prog : Program) (w : World) : Mid prog w (List Int) where
  is := fun h k v => ∃ a, v = .ref a ∧ IsTupleKey (intKind prog w) h k a
  hash := tupleKeyHash (intKind prog w)
  draws := fun k => k.length + 1
  inj := fun ⟨_, e1, h1⟩ ⟨_, e2, h2⟩ => by cases e1; cases e2; exact h1.inj h2
  keeps := fun ⟨a, e, h1⟩ ho hd hs => ⟨a, e, h1.keeps ho hd hs⟩
  pyHash := fun hu ⟨_, e, h1⟩ h => by cases e; exact wpAny_pyHash_tuple hu h1 h
  eqBool := fun hu ⟨_, e1, h1⟩ ⟨_, e2, h2⟩ h => by cases e1; cases e2; exact wpAny_eqBool_tuple hu h1 h2 h
  quiet := fun ⟨_, e, h1⟩ h => by cases e; exact wpAny_eqIsQuiet_tup 6 h1 h

section
variable {prog : Program} {w : World} {K : Type} [DecidableEq K] (M : Mid prog w K) (a b : Str)

/-- a tuple: a text, what M tells, a text -/
def IsSand (h : Heap) (k : K) (d : Addr) : Prop := ∃ o n ta v tb, h.get? d = some o ∧ o.cls = .type "tuple" ∧ o.data = .seq #[.str a ta, v, .str b tb] n ∧ M.is h k v

variable {M a b}
theorem IsSand.typeIs {s : Shared} {k : K} {d : Addr} (x : IsSand M a b s.heap k d) : s.TypeIs (.ref d) "tuple" := let ⟨o, _, _, _, _, ho, hc, _⟩ := x; ⟨o, ho, hc⟩
theorem IsSand.inj {h : Heap} {x y : K} {d : Addr} (hx : IsSand M a b h x d) (hy : IsSand M a b h y d) : x = y := by
  obtain ⟨o, n, ta, v, tb, ho, hc, hd, hm⟩ := hx
  obtain ⟨o', n', ta', v', tb', ho', hc', hd', hm'⟩ := hy
  rw [ho] at ho'
  cases ho'
  rw [hd] at hd'
  injection hd' with h1 _
  injection h1 with h1
  injection h1 with _ h1
  injection h1 with h1 _
  subst h1
  exact M.inj hm hm'
theorem IsSand.keeps {h h' : Heap} {k : K} {d e : Addr} {o : Obj} {es ep} (x : IsSand M a b h k e) (ho : h.get? d = some o) (hd : o.data = .dict es ep) (hs : Heap.SameBut d h h') : IsSand M a b h' k e := by
  obtain ⟨o', n, ta, v, tb, ho', hc, hd', hm⟩ := x
  have hne : e ≠ d := by
    rintro rfl
    rw [ho] at ho'
    cases ho'
    rw [hd] at hd'
    cases hd'
  exact ⟨o', n, ta, v, tb, (hs.2 e hne).trans ho', hc, hd', M.keeps hm ho hd hs⟩

def sandHash (M : Mid prog w K) (a b : Str) (k : K) : Int := reduceHash (Builtin.Tuple.tupleHashOf [hashStr w a, M.hash k, hashStr w b])

variable {A : Around} {E : Value → Shared → Prop} {s : Shared}
theorem wpAny_pyHash_sand {k : K} {d : Addr} {Q : Int → Shared → Prop} (hu : A.units + 1 < cLine) (hk : IsSand M a b s.heap k d) (h : Q (sandHash M a b k) { s with toks := s.toks + (1 + M.draws k + 1 + 1) }) :
    wpAny (model prog w) A (pyHash (.ref d)) Q E s := by
  have hT := hk.typeIs
  obtain ⟨o, n, ta, v, tb, ho, _, hd, hm⟩ := hk
  unfold pyHash
  refine pyHash_slot hT F.slot_tuple_hash F.entry_tuple_hash (F.args_tuple_hash_1 _) (beq_builtin_none _) (.inr (by omega)) ?_
  show wpAny _ _ (Builtin.Tuple.tupleItemsOf (.ref d) >>= _) _ _ s
  refine wpAny_bind (wpAny_tupleItemsOf ho hd ?_)
  refine wpAny_bind ?_
  rw [← Array.forIn_toList]
  show wpAny _ _ (forIn [Value.str a ta, v, Value.str b tb] _ _) _ _ _
  rw [List.forIn_cons]
  refine wpAny_bind (wpAny_bind (wpAny_pyHash_str ?_))
  refine wpAny_bind (wpAny_pure (wpAny_pure ?_))
  show wpAny _ _ (forIn [v, Value.str b tb] _ _) _ _ _
  rw [List.forIn_cons]
  refine wpAny_bind (wpAny_bind (M.pyHash (by show A.units + 1 < cLine; exact hu) hm ?_))
  refine wpAny_bind (wpAny_pure (wpAny_pure ?_))
  show wpAny _ _ (forIn [Value.str b tb] _ _) _ _ _
  rw [List.forIn_cons]
  refine wpAny_bind (wpAny_bind (wpAny_pyHash_str ?_))
  refine wpAny_bind (wpAny_pure (wpAny_pure ?_))
  show wpAny _ _ (forIn [] _ _) _ _ _
  rw [List.forIn_nil]
  refine wpAny_pure ?_
  show wpAny _ _ (retInt (Builtin.Tuple.tupleHashOf [hashStr w a, M.hash k, hashStr w b])) _ _ _
  refine wpAny_bind (wpAny_mkInt (wpAny_pure ⟨_, _, rfl, ?_⟩))
  simpa [sandHash, Nat.add_assoc] using h

theorem sand_eq_tree {x y : K} {d e : Addr} {P : PySem.Fin → Shared → Prop} (hu : A.units < cLine) (hx : IsSand M a b s.heap x d) (hy : IsSand M a b s.heap y e) (h : P (.done (.ret (.bool (decide (x = y))))) s) :
    wpAny (model prog w) A (Builtin.«tuple.__eq__» ⟨[.ref d, .ref e], []⟩) P E s := by
  have hTb := hy.typeIs
  obtain ⟨o, n, ta, u, tb, ho, _, hd, hm⟩ := hx
  obtain ⟨o', n', ta', v, tb', ho', _, hd', hm'⟩ := hy
  show wpAny _ _ (isInstance (.ref e) (.type "tuple") >>= _) _ _ s
  refine wpAny_bind (wpAny_isInstance hTb isSubtype_tuple_tuple ?_)
  simp only [Bool.not_true, Bool.false_eq_true, if_false]
  refine wpAny_bind (wpAny_tupleItemsOf ho hd ?_)
  refine wpAny_bind (wpAny_tupleItemsOf ho' hd' ?_)
  refine wpAny_bind ?_
  show wpAny _ _ (forIn [(Value.str a ta, Value.str a ta'), (u, v), (Value.str b tb, Value.str b tb')] _ _) _ _ _
  rw [List.forIn_cons]
  refine wpAny_bind (wpAny_bind (wpAny_eqBool_str ?_))
  simp only [decide_true, Bool.not_true, Bool.false_eq_true, if_false]
  refine wpAny_pure ?_
  show wpAny _ _ (forIn [(u, v), (Value.str b tb, Value.str b tb')] _ _) _ _ _
  rw [List.forIn_cons]
  refine wpAny_bind (wpAny_bind (M.eqBool hu hm hm' ?_))
  by_cases hk : x = y
  · rw [decide_eq_true hk] at h ⊢
    simp only [Bool.not_true, Bool.false_eq_true, if_false]
    refine wpAny_pure ?_
    show wpAny _ _ (forIn [(Value.str b tb, Value.str b tb')] _ _) _ _ _
    rw [List.forIn_cons]
    refine wpAny_bind (wpAny_bind (wpAny_eqBool_str ?_))
    simp only [decide_true, Bool.not_true, Bool.false_eq_true, if_false]
    refine wpAny_pure ?_
    show wpAny _ _ (forIn [] _ _) _ _ _
    rw [List.forIn_nil]
    exact wpAny_pure (wpAny_pure h)
  · rw [decide_eq_false hk] at h ⊢
    simp only [Bool.not_false, if_true]
    exact wpAny_bind (wpAny_pure (wpAny_pure (wpAny_pure (wpAny_pure h))))

theorem wpAny_eqBool_sand {x y : K} {d e : Addr} {Q : Bool → Shared → Prop} (hu : A.units + 1 < cLine) (hx : IsSand M a b s.heap x d) (hy : IsSand M a b s.heap y e) (h : Q (decide (x = y)) s) :
    wpAny (model prog w) A (eqBool (.ref d) (.ref e)) Q E s := by
  unfold eqBool
  try with_reducible refine wpAny_holding ?_
  show wpAny _ _ (if (Value.ref d == Value.ref e) = true then _ else _) Q E s
  by_cases hab : (Value.ref d == Value.ref e) = true
  · rw [if_pos hab]
    have q : d = e := by have := eq_of_beq hab; injection this
    subst q
    obtain rfl := hx.inj hy
    exact wpAny_bind (wpAny_rule (wpAny_pure (by simpa using h)))
  · rw [if_neg hab]
    exact wpAny_bind (wpAny_richCompare_same_room (op := .Eq) hx.typeIs hy.typeIs F.slot_tuple_eq
      (wpAny_call_entry F.slot_tuple_eq hx.typeIs F.entry_tuple_eq (sand_eq_tree (by show A.units + 1 < cLine; exact hu) hx hy ⟨_, rfl, (fun e => nomatch e), wpAny_truthy_bool h⟩) (F.args_tuple_eq_2 _ _)) (by omega))

theorem wpAny_eqIsQuiet_sand {k : K} {d : Addr} {Q : Bool → Shared → Prop} (hk : IsSand M a b s.heap k d) (h : Q true s) : wpAny (model prog w) A (eqIsQuiet 8 (.ref d)) Q E s := by
  have hT := hk.typeIs
  obtain ⟨o, n, ta, v, tb, ho, _, hd, hm⟩ := hk
  unfold eqIsQuiet
  refine wpAny_bind (wpAny_specialOf hT F.slot_tuple_eq.lookup ?_)
  show wpAny _ _ (isInstance (.ref d) (.type "tuple") >>= _) _ _ s
  refine wpAny_bind (wpAny_isInstance hT isSubtype_tuple_tuple ?_)
  simp only [Bool.not_true, Bool.false_eq_true, if_false]
  refine wpAny_bind (wpAny_seqItems ho hd ?_)
  refine wpAny_bind ?_
  show wpAny _ _ (forIn (#[Value.str a ta, v, Value.str b tb] : Array Value) _ _) _ _ s
  rw [← Array.forIn_toList]
  show wpAny _ _ (forIn [Value.str a ta, v, Value.str b tb] _ _) _ _ _
  rw [List.forIn_cons, eqIsQuiet_byValue _ rfl]
  refine wpAny_bind (wpAny_bind (wpAny_pure ?_))
  simp only [Bool.not_true, Bool.false_eq_true, if_false]
  refine wpAny_pure ?_
  show wpAny _ _ (forIn [v, Value.str b tb] _ _) _ _ _
  rw [List.forIn_cons]
  refine wpAny_bind (wpAny_bind (M.quiet hm ?_))
  simp only [Bool.not_true, Bool.false_eq_true, if_false]
  refine wpAny_pure ?_
  show wpAny _ _ (forIn [Value.str b tb] _ _) _ _ _
  rw [List.forIn_cons, eqIsQuiet_byValue _ rfl]
  refine wpAny_bind (wpAny_bind (wpAny_pure ?_))
  simp only [Bool.not_true, Bool.false_eq_true, if_false]
  refine wpAny_pure ?_
  show wpAny _ _ (forIn [] _ _) _ _ _
  rw [List.forIn_nil]
  exact wpAny_pure (wpAny_pure h)
end

def sandKind {prog : Program} {w : World} {K : Type} [DecidableEq K] (M : Mid prog w K) (a b : Str) : HeapKind prog w K where
  is := IsSand M a b
  hash := sandHash M a b
  draws := fun k => 1 + M.draws k + 1 + 1
  room := fun A => A.units + 1 < cLine
  inj := fun hx hy => hx.inj hy
  keeps := fun x ho hd hs => x.keeps ho hd hs
  pyHash := fun hu hk h => wpAny_pyHash_sand hu hk h
  eqBool := fun hu hx hy h => wpAny_eqBool_sand hu hx hy h
  quiet := fun hk h => wpAny_eqIsQuiet_sand hk h
end Mine
end
section
open PySem PySem.W PySem.Calls PyProof.Rows
namespace Mine

/-- the dict at d, entry by entry -/
def Raw (h : Heap) (d : Addr) (es : Array DictEntry) (ep : Nat) : Prop := ∃ o, h.get? d = some o ∧ o.ExactDict ∧ o.data = .dict es ep
theorem Raw.typeIs {s : Shared} {d : Addr} {es ep} (x : Raw s.heap d es ep) : s.TypeIs (.ref d) "dict" := let ⟨o, ho, hc, _⟩ := x; ⟨o, ho, hc.1⟩
theorem Raw.at {h h' : Heap} {d : Addr} {es ep} (x : Raw h d es ep) (e : ∀ o, h.get? d = some o → h'.get? d = some o) : Raw h' d es ep := let ⟨o, ho, r⟩ := x; ⟨o, e _ ho, r⟩
theorem Raw.noDict {h : Heap} {d : Addr} {es ep} (x : Raw h d es ep) : ∀ b, Value.ref d = .ref b → ∃ ob, h.get? b = some ob ∧ ob.dict = none :=
  fun b e => by injection e with e; subst e; exact let ⟨o, ho, hc, _⟩ := x; ⟨o, ho, hc.2.1⟩

section
variable {prog : Program} {w : World} {A : Around} {E : Value → Shared → Prop} {s : Shared}

theorem meets_items (d : Addr) (hd : (d == sysModules) = false) :
    MeetsIn prog w (Builtin.«dict.items» ⟨[.ref d], []⟩) (fun _ R s => s.TypeIs (.ref d) "dict" ∧
      R (.ok (.ret (.ref s.heap.objs.size))) { s with heap := s.heap.push { cls := .type "dict_items", data := .fields #[.ref d] } }) :=
  .of_wp fun A R s ⟨hT, h⟩ => by
    unfold Builtin.«dict.items»
    refine wpAny_bind ?_
    unfold Builtin.Dict.noArgs
    refine wpAny_bind (wpAny_notOrdered_dict hT ?_)
    show wpAny _ _ (pure d) _ _ s
    refine wpAny_pure ?_
    show wpAny _ _ (Builtin.Dict.showsAll d >>= _) _ _ s
    unfold Builtin.Dict.showsAll
    rw [if_neg (by rw [hd]; exact Bool.false_ne_true)]
    refine wpAny_bind (wpAny_pure ?_)
    exact wpAny_bind (wpAny_newObj_type (wpAny_pure ⟨_, rfl, h⟩))
theorem meets_values (d : Addr) (hd : (d == sysModules) = false) :
    MeetsIn prog w (Builtin.«dict.values» ⟨[.ref d], []⟩) (fun _ R s => s.TypeIs (.ref d) "dict" ∧
      R (.ok (.ret (.ref s.heap.objs.size))) { s with heap := s.heap.push { cls := .type "dict_values", data := .fields #[.ref d] } }) :=
  .of_wp fun A R s ⟨hT, h⟩ => by
    refine wpAny_bind ?_
    unfold Builtin.Dict.noArgs
    refine wpAny_bind (wpAny_notOrdered_dict hT ?_)
    show wpAny _ _ (pure d) _ _ s
    refine wpAny_pure ?_
    show wpAny _ _ (Builtin.Dict.showsAll d >>= _) _ _ s
    unfold Builtin.Dict.showsAll
    rw [if_neg (by rw [hd]; exact Bool.false_ne_true)]
    refine wpAny_bind (wpAny_pure ?_)
    exact wpAny_bind (wpAny_newObj_type (wpAny_pure ⟨_, rfl, h⟩))

theorem pyIter_items {v d : Addr} {es : Array DictEntry} {ep : Nat} {Q : Value → Shared → Prop} (hv : s.heap.IsItemsView v d) (hm : Raw s.heap d es ep)
    (hQ : Q (.ref s.heap.objs.size) { s with heap := s.heap.push { cls := .type "dict_itemiterator", data := .fields #[.none, .bool false, .ref d, .int 0 0, .int es.size 0, .int ep 0, .none, .none] } }) :
    wpAny (model prog w) A (pyIter (.ref v)) Q E s := by
  obtain ⟨ov, hov, hcv, hdv⟩ := id hv
  obtain ⟨o, ho, hc, hdat⟩ := id hm
  refine wpAny_pyIter_slot hv.typeIs F.slot_dict_items_iter (wpAny_call_entry F.slot_dict_items_iter hv.typeIs F.entry_dict_items_iter ?_ (F.args_dict_items_iter_1 _))
  unfold Builtin.«dict_items.__iter__»
  refine wpAny_bind (wpAny_pure ?_)
  refine wpAny_bind ?_
  unfold Builtin.Dict_items.dictOf
  refine wpAny_bind (wpAny_field hov hdv (x := .ref d) rfl (wpAny_pure ?_))
  refine wpAny_bind ?_
  unfold Builtin.Dict_items.newIterator
  refine wpAny_bind (wpAny_dictEntries ho hdat ?_)
  refine wpAny_bind (wpAny_dictEpoch ho hdat ?_)
  have hown : Builtin.Dict_items.ownsTuple "dict_itemiterator" = true := by decide
  simp only [hown, if_true]
  refine wpAny_newObj_type (wpAny_pure ⟨_, rfl, "dict_itemiterator", _, ⟨_, Heap.get?_push_size _ rfl, rfl⟩, F.slot_dict_itemiterator_next.lookup, ?_⟩)
    (by simp only [sizeOk, Builtin.Dict_items.ownedTupleFields, List.size_toArray, List.length_append, List.length_cons, List.length_nil, sizeLine_eq]; omega)
  simpa [rawInt, Builtin.Dict_items.ownedTupleFields] using hQ

theorem pyNext_items {it d : Addr} {i ep : Nat} {es : Array DictEntry} {en : DictEntry} {ok ov : Value} {Q : Option Value → Shared → Prop} (hit : IsItemIter s.heap it d i es.size ep ok ov)
    (hm : Raw s.heap d es ep) (hx : es[i]? = some en)
    (hQ : ∀ h', IsItemIterOut h' it d (i + 1) es.size ep en.key en.val s.heap.objs.size →
      h'.get? s.heap.objs.size = some { cls := .type "tuple", data := .seq #[en.key, en.val] } → h'.objs.size = s.heap.objs.size + 1 →
      (∀ b o, b ≠ it → s.heap.get? b = some o → h'.get? b = some o) → Q (some (.ref s.heap.objs.size)) { s with heap := h' }) :
    wpAny (model prog w) A (pyNext (.ref it)) Q E s := by
  obtain ⟨hp, g, dr, tk, os⟩ := s
  obtain ⟨od, hod, hcd, hdd⟩ := id hm
  have hT : Shared.TypeIs ⟨hp, g, dr, tk, os⟩ (.ref it) "dict_itemiterator" := ⟨_, hit, rfl⟩
  have hlt' : i < es.size := by
    rcases Nat.lt_or_ge i es.size with h | h
    · exact h
    · simp [Array.getElem?_eq_none h] at hx
  have hen : es[i] = en := by rw [Array.getElem?_eq_getElem hlt'] at hx; exact Option.some.inj hx
  unfold pyNext
  refine wpAny_bind (wpAny_attempt (wpAny_callSpecial?_slot (name := Str.ofString "__next__") hT F.slot_dict_itemiterator_next
    (wpAny_call_entry F.slot_dict_itemiterator_next hT F.entry_dict_itemiterator_next ?_ (F.args_dict_itemiterator_next_1 _))))
  refine wpAny_bind (wpAny_pure ?_)
  refine wpAny_bind ?_
  refine wpAny_bind ?_
  first | refine wpAny_bind (wpAny_typeNameOfWhole_itemiter hT (wpAny_pure ?_)) | refine wpAny_bind (wpAny_typeNameOf_itemiter hT (wpAny_pure ?_))
  refine wpAny_bind (wpAny_fieldsOf hit rfl ?_)
  have hown : Builtin.Dict_items.ownsTuple "dict_itemiterator" = true := by decide
  simp only [hown, if_true]
  show wpAny _ _ (if (Value.ref d == Value.none) = true then _ else _) _ _ _
  rw [if_neg (show ¬ ((Value.ref d == Value.none) = true) from Bool.false_ne_true)]
  refine wpAny_bind (wpAny_pure ?_)
  refine wpAny_bind (wpAny_dictEntries hod hdd ?_)
  rw [if_neg (by simp)]
  refine wpAny_bind (wpAny_pure ?_)
  refine wpAny_bind (wpAny_dictEpoch hod hdd ?_)
  rw [if_neg (by simp)]
  refine wpAny_pure ?_
  simp only [show ¬ ((i : Int) < 0) from by omega, if_false, Int.toNat_natCast, hx]
  refine wpAny_bind ?_
  first | refine wpAny_bind (wpAny_typeNameOfWhole_itemiter hT (wpAny_pure ?_)) | refine wpAny_bind (wpAny_typeNameOf_itemiter hT (wpAny_pure ?_))
  refine wpAny_bind (wpAny_isOneOf_itemiter hT ?_)
  show wpAny _ _ (setField (.ref it) 3 (rawInt ((i : Int) + 1)) >>= _) _ _ ⟨hp, g, dr, tk, os⟩
  refine wpAny_bind (wpAny_setField_rec hit (by simp) fun h₁ he₁ hs₁ => ?_)
  replace hs₁ : Heap.SameBut it hp h₁ := hs₁
  replace he₁ : IsItemIter h₁ it d (i + 1) es.size ep ok ov := by
    have e : ((i + 1 : Nat) : Int) = (i : Int) + 1 := by omega
    unfold IsItemIter; rw [e]; simpa [rawInt] using he₁
  have hT₁ : Shared.TypeIs ⟨h₁, g, dr, tk, os⟩ (.ref it) "dict_itemiterator" := ⟨_, he₁, rfl⟩
  refine wpAny_bind (wpAny_holding ?_)
  refine wpAny_bind (wpAny_isOneOf_itemiter hT₁ ?_)
  refine wpAny_bind (wpAny_isOneOf_itemiter hT₁ ?_)
  show wpAny _ _ (Builtin.Dict_items.pairFromOwner (.ref it) 6 en.key en.val) _ _ ⟨h₁, g, dr, tk, os⟩
  unfold Builtin.Dict_items.pairFromOwner
  refine wpAny_bind (wpAny_newTuple ?_)
  have he₂ : IsItemIter (h₁.push { cls := .type "tuple", data := .seq #[en.key, en.val] }) it d (i + 1) es.size ep ok ov := Heap.get?_push_of_some _ he₁
  generalize hh₂ : h₁.push { cls := .type "tuple", data := .seq #[en.key, en.val] } = h₂ at he₂
  have hz₁ : h₁.objs.size = hp.objs.size := hs₁.1
  have hil : it < hp.objs.size := Heap.lt_size hit
  have ht₂ : h₂.get? hp.objs.size = some { cls := .type "tuple", data := .seq #[en.key, en.val] } := by rw [← hh₂, ← hz₁]; exact Heap.get?_push_size _ rfl
  have hz₂ : h₂.objs.size = hp.objs.size + 1 := by rw [← hh₂, Heap.size_push, hz₁]
  have hk₂ : ∀ b o, b ≠ it → hp.get? b = some o → h₂.get? b = some o := fun b o hb e => by rw [← hh₂]; exact Heap.get?_push_of_some _ (hs₁.extBut b o hb e)
  show wpAny _ _ (Builtin.Dict_items.ownedTupleIsFree (.ref it) >>= _) _ _ ⟨h₂, g, dr, tk, os⟩
  rw [hz₁]
  clear hh₂ he₁ hs₁ hT₁ hz₁ h₁
  refine wpAny_bind ?_
  unfold Builtin.Dict_items.ownedTupleIsFree
  refine wpAny_bind (wpAny_field he₂ rfl (x := .none) rfl (wpAny_pure ?_))
  simp only [if_true]
  refine wpAny_bind (wpAny_field he₂ rfl (x := ok) rfl ?_)
  refine wpAny_bind (wpAny_field he₂ rfl (x := ov) rfl ?_)
  refine wpAny_bind (wpAny_setField_rec he₂ (by simp) fun h₃ he₃ hs₃ => ?_)
  replace hs₃ : Heap.SameBut it h₂ h₃ := hs₃
  replace he₃ : IsItemIter h₃ it d (i + 1) es.size ep en.key ov := he₃
  refine wpAny_bind (wpAny_setField_rec he₃ (by simp) fun h₄ he₄ hs₄ => ?_)
  replace hs₄ : Heap.SameBut it h₃ h₄ := hs₄
  replace he₄ : IsItemIter h₄ it d (i + 1) es.size ep en.key en.val := he₄
  refine wpAny_bind (wpAny_setField_rec he₄ (by simp) fun h₅ he₅ hs₅ => ?_)
  replace hs₅ : Heap.SameBut it h₄ h₅ := hs₅
  replace he₅ : IsItemIterOut h₅ it d (i + 1) es.size ep en.key en.val hp.objs.size := he₅
  refine wpAny_bind (wpAny_setField_rec he₅ (by simp) fun h₆ he₆ hs₆ => ?_)
  replace hs₆ : Heap.SameBut it h₅ h₆ := hs₆
  replace he₆ : IsItemIterOut h₆ it d (i + 1) es.size ep en.key en.val hp.objs.size := he₆
  refine wpAny_bind (wpAny_letGo (wpAny_pure (wpAny_pure ⟨_, rfl, wpAny_pure (hQ h₆ he₆ ?_ ?_ ?_)⟩)))
  · exact hs₆.extBut _ _ (Nat.ne_of_gt hil) (hs₅.extBut _ _ (Nat.ne_of_gt hil) (hs₄.extBut _ _ (Nat.ne_of_gt hil) (hs₃.extBut _ _ (Nat.ne_of_gt hil) ht₂)))
  · show h₆.objs.size = hp.objs.size + 1
    rw [hs₆.1, hs₅.1, hs₄.1, hs₃.1, hz₂]
  · exact fun b o hb e => hs₆.extBut b o hb (hs₅.extBut b o hb (hs₄.extBut b o hb (hs₃.extBut b o hb (hk₂ b o hb e))))

theorem pyNext_items_end {it d : Addr} {i ep : Nat} {es : Array DictEntry} {ok ov : Value} {Q : Option Value → Shared → Prop} (hh : A.handled = none) (hit : IsItemIter s.heap it d i es.size ep ok ov)
    (hm : Raw s.heap d es ep) (hx : es[i]? = none)
    (hQ : ∀ h', Heap.ExtBut it s.heap h' → Q none { s with heap := h' }) : wpAny (model prog w) A (pyNext (.ref it)) Q E s := by
  obtain ⟨od, hod, hcd, hdd⟩ := id hm
  have hT : s.TypeIs (.ref it) "dict_itemiterator" := ⟨_, hit, rfl⟩
  unfold pyNext
  refine wpAny_bind (wpAny_attempt (wpAny_callSpecial?_slot (name := Str.ofString "__next__") hT F.slot_dict_itemiterator_next
    (wpAny_call_entry F.slot_dict_itemiterator_next hT F.entry_dict_itemiterator_next ?_ (F.args_dict_itemiterator_next_1 _))))
  refine wpAny_bind (wpAny_pure ?_)
  refine wpAny_bind ?_
  refine wpAny_bind ?_
  first | refine wpAny_bind (wpAny_typeNameOfWhole_itemiter hT (wpAny_pure ?_)) | refine wpAny_bind (wpAny_typeNameOf_itemiter hT (wpAny_pure ?_))
  refine wpAny_bind (wpAny_fieldsOf hit rfl ?_)
  have hown : Builtin.Dict_items.ownsTuple "dict_itemiterator" = true := by decide
  simp only [hown, if_true]
  show wpAny _ _ (if (Value.ref d == Value.none) = true then _ else _) _ _ s
  rw [if_neg (show ¬ ((Value.ref d == Value.none) = true) from Bool.false_ne_true)]
  refine wpAny_bind (wpAny_pure ?_)
  refine wpAny_bind (wpAny_dictEntries hod hdd ?_)
  rw [if_neg (by simp)]
  refine wpAny_bind (wpAny_pure ?_)
  refine wpAny_bind (wpAny_dictEpoch hod hdd ?_)
  rw [if_neg (by simp)]
  refine wpAny_pure ?_
  simp only [show ¬ ((i : Int) < 0) from by omega, if_false, Int.toNat_natCast, hx]
  refine wpAny_bind ?_
  first | refine wpAny_bind (wpAny_typeNameOfWhole_itemiter hT (wpAny_pure ?_)) | refine wpAny_bind (wpAny_typeNameOf_itemiter hT (wpAny_pure ?_))
  show wpAny _ _ (setField (.ref it) 2 .none >>= _) _ _ s
  refine wpAny_bind (wpAny_setField hit rfl (by simp) ?_)
  show wpAny _ _ (newExc (.type "StopIteration") [] >>= _) _ _ _
  refine wpAny_bind ?_
  simp only [newExc, newTuple]
  refine wpAny_bind (wpAny_newObj_type ?_ (by size_fits))
  refine wpAny_bind (m := firstArgMember _ _) (wpAny_of_eq (a := Value.none) (by first | rfl | (simp only [firstArgMember]; rfl)) ?_)
  refine wpAny_newObj_type ?_ (by size_fits)
  simp only [raiseNew]
  refine wpAny_bind (wpAny_handled ?_)
  rw [show A.in1.handled = none from hh]
  refine wpAny_bind (wpAny_pure (wpAny_throw ?_))
  refine wpAny_bind (wpAny_isInstance (T := "StopIteration") (b := true) ⟨_, Heap.get?_push_size _ rfl, rfl⟩ isSubtype_stop ?_)
  exact wpAny_pure (hQ _ (((Heap.SameBut.update ..).extBut.push _).push _))

theorem pyIter_vals {v d : Addr} {es : Array DictEntry} {ep : Nat} {Q : Value → Shared → Prop} (hv : s.heap.IsValuesView v d) (hm : Raw s.heap d es ep)
    (hQ : Q (.ref s.heap.objs.size) { s with heap := s.heap.push { cls := .type "dict_valueiterator", data := .fields #[.ref d, .int 0 0, .int es.size 0, .int ep 0] } }) :
    wpAny (model prog w) A (pyIter (.ref v)) Q E s := by
  obtain ⟨ov, hov, hcv, hdv⟩ := id hv
  obtain ⟨o, ho, hc, hdat⟩ := id hm
  refine wpAny_pyIter_slot hv.typeIs F.slot_dict_values_iter (wpAny_call_entry F.slot_dict_values_iter hv.typeIs F.entry_dict_values_iter ?_ (F.args_dict_values_iter_1 _))
  unfold Builtin.«dict_values.__iter__»
  refine wpAny_bind (wpAny_pure ?_)
  refine wpAny_bind ?_
  unfold Builtin.Dict_items.dictOf
  refine wpAny_bind (wpAny_field hov hdv (x := .ref d) rfl (wpAny_pure ?_))
  refine wpAny_bind ?_
  unfold Builtin.Dict_items.newIterator
  refine wpAny_bind (wpAny_dictEntries ho hdat ?_)
  refine wpAny_bind (wpAny_dictEpoch ho hdat ?_)
  have hown : Builtin.Dict_items.ownsTuple "dict_valueiterator" = false := by decide
  simp only [hown, Bool.false_eq_true, if_false]
  refine wpAny_newObj_type (wpAny_pure ⟨_, rfl, "dict_valueiterator", _, ⟨_, Heap.get?_push_size _ rfl, rfl⟩, F.slot_dict_valueiterator_next.lookup, ?_⟩)
  simpa [rawInt] using hQ

theorem pyNext_vals {it d : Addr} {i ep : Nat} {es : Array DictEntry} {en : DictEntry} {Q : Option Value → Shared → Prop} (hit : s.heap.IsValIter it d i es.size ep)
    (hm : Raw s.heap d es ep) (hx : es[i]? = some en)
    (hQ : ∀ h', h'.IsValIter it d (i + 1) es.size ep → Heap.SameBut it s.heap h' → Q (some en.val) { s with heap := h' }) :
    wpAny (model prog w) A (pyNext (.ref it)) Q E s := by
  obtain ⟨o, ho, hc, hd⟩ := id hit
  obtain ⟨od, hod, hcd, hdd⟩ := id hm
  unfold pyNext
  refine wpAny_bind (wpAny_attempt (wpAny_callSpecial?_slot (name := Str.ofString "__next__") hit.typeIs F.slot_dict_valueiterator_next
    (wpAny_call_entry F.slot_dict_valueiterator_next hit.typeIs F.entry_dict_valueiterator_next ?_ (F.args_dict_valueiterator_next_1 _))))
  refine wpAny_bind (wpAny_pure ?_)
  refine wpAny_bind ?_
  refine wpAny_bind ?_
  first | refine wpAny_bind (wpAny_typeNameOfWhole_valiter hit.typeIs (wpAny_pure ?_)) | refine wpAny_bind (wpAny_typeNameOf_valiter hit.typeIs (wpAny_pure ?_))
  refine wpAny_bind (wpAny_fieldsOf ho hd ?_)
  have hown : Builtin.Dict_items.ownsTuple "dict_valueiterator" = false := by decide
  simp only [hown, Bool.false_eq_true, if_false]
  show wpAny _ _ (if (Value.ref d == Value.none) = true then _ else _) _ _ s
  rw [if_neg (show ¬ ((Value.ref d == Value.none) = true) from Bool.false_ne_true)]
  refine wpAny_bind (wpAny_pure ?_)
  refine wpAny_bind (wpAny_dictEntries hod hdd ?_)
  rw [if_neg (by simp)]
  refine wpAny_bind (wpAny_pure ?_)
  refine wpAny_bind (wpAny_dictEpoch hod hdd ?_)
  rw [if_neg (by simp)]
  refine wpAny_pure ?_
  simp only [show ¬ ((i : Int) < 0) from by omega, if_false, Int.toNat_natCast, hx]
  refine wpAny_bind ?_
  first | refine wpAny_bind (wpAny_typeNameOfWhole_valiter hit.typeIs (wpAny_pure ?_)) | refine wpAny_bind (wpAny_typeNameOf_valiter hit.typeIs (wpAny_pure ?_))
  refine wpAny_bind (wpAny_isOneOf_valiter hit.typeIs ?_)
  show wpAny _ _ (setField (.ref it) 1 (rawInt ((i : Int) + 1)) >>= _) _ _ s
  refine wpAny_bind (wpAny_setField ho hd (by simp) ?_)
  have hit' : (s.heap.update it (Obj.mapFields (·.setIfInBounds 1 (rawInt ((i : Int) + 1))))).IsValIter it d (i + 1) es.size ep :=
    ⟨_, Heap.get?_update_self _ ho (Obj.isFreed_of_fields (Obj.data_mapFields hd _)), (Obj.cls_mapFields ..).trans hc, by rw [Obj.data_mapFields hd]; simp [rawInt]⟩
  refine wpAny_bind (wpAny_holding ?_)
  refine wpAny_bind (wpAny_isOneOf_valiter (s := { s with heap := s.heap.update it (Obj.mapFields (·.setIfInBounds 1 (rawInt ((i : Int) + 1)))) }) hit'.typeIs ?_)
  refine wpAny_bind (wpAny_isOneOf_valiter (s := { s with heap := s.heap.update it (Obj.mapFields (·.setIfInBounds 1 (rawInt ((i : Int) + 1)))) }) hit'.typeIs ?_)
  show wpAny _ _ (pure en.val) _ _ _
  exact wpAny_pure (wpAny_pure ⟨_, rfl, wpAny_pure (hQ _ hit' (Heap.SameBut.update ..))⟩)

theorem pyNext_vals_end {it d : Addr} {i ep : Nat} {es : Array DictEntry} {Q : Option Value → Shared → Prop} (hh : A.handled = none) (hit : s.heap.IsValIter it d i es.size ep)
    (hm : Raw s.heap d es ep) (hx : es[i]? = none)
    (hQ : ∀ h', Heap.ExtBut it s.heap h' → Q none { s with heap := h' }) : wpAny (model prog w) A (pyNext (.ref it)) Q E s := by
  obtain ⟨o, ho, hc, hd⟩ := id hit
  obtain ⟨od, hod, hcd, hdd⟩ := id hm
  unfold pyNext
  refine wpAny_bind (wpAny_attempt (wpAny_callSpecial?_slot (name := Str.ofString "__next__") hit.typeIs F.slot_dict_valueiterator_next
    (wpAny_call_entry F.slot_dict_valueiterator_next hit.typeIs F.entry_dict_valueiterator_next ?_ (F.args_dict_valueiterator_next_1 _))))
  refine wpAny_bind (wpAny_pure ?_)
  refine wpAny_bind ?_
  refine wpAny_bind ?_
  first | refine wpAny_bind (wpAny_typeNameOfWhole_valiter hit.typeIs (wpAny_pure ?_)) | refine wpAny_bind (wpAny_typeNameOf_valiter hit.typeIs (wpAny_pure ?_))
  refine wpAny_bind (wpAny_fieldsOf ho hd ?_)
  have hown : Builtin.Dict_items.ownsTuple "dict_valueiterator" = false := by decide
  simp only [hown, Bool.false_eq_true, if_false]
  show wpAny _ _ (if (Value.ref d == Value.none) = true then _ else _) _ _ s
  rw [if_neg (show ¬ ((Value.ref d == Value.none) = true) from Bool.false_ne_true)]
  refine wpAny_bind (wpAny_pure ?_)
  refine wpAny_bind (wpAny_dictEntries hod hdd ?_)
  rw [if_neg (by simp)]
  refine wpAny_bind (wpAny_pure ?_)
  refine wpAny_bind (wpAny_dictEpoch hod hdd ?_)
  rw [if_neg (by simp)]
  refine wpAny_pure ?_
  simp only [show ¬ ((i : Int) < 0) from by omega, if_false, Int.toNat_natCast, hx]
  refine wpAny_bind ?_
  first | refine wpAny_bind (wpAny_typeNameOfWhole_valiter hit.typeIs (wpAny_pure ?_)) | refine wpAny_bind (wpAny_typeNameOf_valiter hit.typeIs (wpAny_pure ?_))
  show wpAny _ _ (setField (.ref it) 0 .none >>= _) _ _ s
  refine wpAny_bind (wpAny_setField ho hd (by simp) ?_)
  show wpAny _ _ (newExc (.type "StopIteration") [] >>= _) _ _ _
  refine wpAny_bind ?_
  simp only [newExc, newTuple]
  refine wpAny_bind (wpAny_newObj_type ?_ (by size_fits))
  refine wpAny_bind (m := firstArgMember _ _) (wpAny_of_eq (a := Value.none) (by first | rfl | (simp only [firstArgMember]; rfl)) ?_)
  refine wpAny_newObj_type ?_ (by size_fits)
  simp only [raiseNew]
  refine wpAny_bind (wpAny_handled ?_)
  rw [show A.in1.handled = none from hh]
  refine wpAny_bind (wpAny_pure (wpAny_throw ?_))
  refine wpAny_bind (wpAny_isInstance (T := "StopIteration") (b := true) ⟨_, Heap.get?_push_size _ rfl, rfl⟩ isSubtype_stop ?_)
  exact wpAny_pure (hQ _ (((Heap.SameBut.update ..).extBut.push _).push _))

theorem vals_walks (hh : A.handled = none) (I d : Addr) (hne : d ≠ I) (es : Array DictEntry) (ep : Nat) :
    Walks prog w A I [I, d] [I] es.size (fun i v => ∃ en, es[i]? = some en ∧ v = en.val) (fun i h => h.IsValIter I d i es.size ep ∧ Raw h d es ep) where
  sub := fun b hb => by simp at hb; simp [hb]
  frame := fun _ _ _ st hk => ⟨st.1.at fun o e => hk I (by simp) o e, st.2.at fun o e => hk d (by simp) o e⟩
  item := fun i s Q E hi st hQ => by
    refine pyNext_vals (en := es[i]) st.1 st.2 (by simp [hi]) fun h' hit' hs' => ?_
    exact hQ _ h' s.toks ⟨_, by simp [hi], rfl⟩ ⟨hit', st.2.at fun o e => hs'.extBut d o hne e⟩ fun b o hb e => hs'.extBut b o (fun h => hb (by simp [h])) e
  done := fun s Q E st hQ => pyNext_vals_end hh st.1 st.2 (by simp) fun h' he' => hQ h' s.toks fun b o hb e => he' b o (fun h => hb (by simp [h])) e
  self := fun _ _ _ _ st hQ => wpAny_pyIter_valiter st.1 hQ

variable {env : Env} {h₀ : Heap} {body : List Stmt} {Q : Flow → Shared → Prop}

/-- for x in d.values() -/
theorem vals_X {v d : Addr} {od : Obj} {es : Array DictEntry} {ep : Nat} {x : Str} {px : Pos} {m₀ : Str → Option Value} {news : List (Addr × Obj)} (J : Nat → (Str → Option Value) → List (Addr × Obj) → Prop)
    (hh : A.handled = none) (hv : s.heap.IsValuesView v d) (hl : s.heap.get? d = some od) (hc : od.ExactDict) (hd : od.data = .dict es ep) (F : Fr h₀ env.locals s.heap m₀) (N : News h₀ env.locals s.heap news)
    (hold : ∀ i m news h, J i m news → Fr h₀ env.locals h m → News h₀ env.locals h news → h.get? d = some od) (hj : J 0 m₀ news)
    (turn : ∀ i en m₁ news₁ h tk I oI, es[i]? = some en → J i m₁ news₁ → (∀ p ∈ news₁, p.1 ≠ I) → Fr h₀ env.locals h m₁ → News h₀ env.locals h ((I, oI) :: news₁) →
      wpAny (model prog w) A (assign (.Name x px) env en.val) (fun _ s₂ => wpAny (model prog w) A (execs body env) (TurnEnd h₀ env.locals (I, oI) (J (i + 1)) Q { s with heap := h, toks := tk }) E s₂) E { s with heap := h, toks := tk })
    (done : ∀ m₁ news₁ h tk, J es.size m₁ news₁ → Fr h₀ env.locals h m₁ → News h₀ env.locals h news₁ → Q .next { s with heap := h, toks := tk })
    (hE : PassesOwn (model prog w) A env E) : LoopX prog w A h₀ env (.Name x px) body Q E (.ref v) s := by
  have hls : Raw s.heap d es ep := ⟨od, hl, hc, hd⟩
  have hne : d ≠ s.heap.objs.size := Nat.ne_of_lt (Heap.lt_size hl)
  unfold LoopX
  refine pyIter_vals hv hls ?_
  have W := vals_walks (prog := prog) (w := w) hh s.heap.objs.size d hne es ep
  refine loop_X (s := ⟨_, _, _, _, _⟩) J W (fun i h st => let ⟨o, e, _⟩ := st.1; ⟨o, e⟩) ?_ (next_is_new F) (Nat.ne_of_lt F.ns.lt) ?_ (F.push _) (fun p hp => ⟨Heap.get?_push_of_some _ (N p hp).1, (N p hp).2⟩) ?_ hj ?_ done (fun _ => rfl) hE
  · intro i m news h o hJ F N b hb hbI h' m' news' i' F' N' hJ' e
    have hbl : b = d := by simpa [hbI] using hb
    subst hbl
    rw [hold _ _ _ _ hJ F N] at e
    cases e
    exact hold _ _ _ _ hJ' F' N'
  · exact ⟨⟨_, Heap.get?_push_size _ rfl, rfl, rfl⟩, hls.at fun o e => Heap.get?_push_of_some _ e⟩
  · intro p hp e
    exact absurd (Heap.lt_size (N p hp).1) (by rw [e]; exact Nat.lt_irrefl _)
  · rintro i v m₁ news₁ h tk oI hi ⟨en, hen, rfl⟩ hJ hn' F' N'
    exact turn i en m₁ news₁ h tk _ oI hen hJ hn' F' N'

/-- for a, b in d.items() -/
theorem items_X {v d : Addr} {od : Obj} {es : Array DictEntry} {ep : Nat} {xk xv : Str} {pk pv pt : Pos} {x1} {m₀ : Str → Option Value} {news : List (Addr × Obj)} (J : Nat → (Str → Option Value) → List (Addr × Obj) → Prop)
    (hh : A.handled = none) (hv : s.heap.IsItemsView v d) (hl : s.heap.get? d = some od) (hc : od.ExactDict) (hd : od.data = .dict es ep) (F : Fr h₀ env.locals s.heap m₀) (N : News h₀ env.locals s.heap news)
    (hxk : env.kindOf xk = some .local) (hxv : env.kindOf xv = some .local) (hp : (env.scope.kind == .class || (env.scope.kind == .module && env.locals != env.globals)) = false)
    (hold : ∀ i m news h, J i m news → Fr h₀ env.locals h m → News h₀ env.locals h news → h.get? d = some od) (hj : J 0 m₀ news)
    (turn : ∀ i en m₁ news₁ h tk I oI, es[i]? = some en → J i m₁ news₁ → (∀ p ∈ news₁, p.1 ≠ I) → Fr h₀ env.locals h (fun y => if y = xv then some en.val else if y = xk then some en.key else m₁ y) → News h₀ env.locals h ((I, oI) :: news₁) →
      wpAny (model prog w) A (execs body env) (TurnEnd h₀ env.locals (I, oI) (J (i + 1)) Q { s with heap := h, toks := tk }) E { s with heap := h, toks := tk })
    (done : ∀ m₁ news₁ h tk, J es.size m₁ news₁ → Fr h₀ env.locals h m₁ → News h₀ env.locals h news₁ → Q .next { s with heap := h, toks := tk })
    (hE : PassesOwn (model prog w) A env E) : LoopX prog w A h₀ env (.Tuple [.Name xk pk, .Name xv pv] x1 pt) body Q E (.ref v) s := by
  have hls : Raw s.heap d es ep := ⟨od, hl, hc, hd⟩
  unfold LoopX
  refine pyIter_items hv hls ?_
  have hI : h₀.get? s.heap.objs.size = none := next_is_new F
  have hLI : env.locals ≠ s.heap.objs.size := Nat.ne_of_lt F.ns.lt
  have hn : ∀ p ∈ news, p.1 ≠ s.heap.objs.size := fun p hp e => absurd (Heap.lt_size (N p hp).1) (by rw [e]; exact Nat.lt_irrefl _)
  have hdI : d ≠ s.heap.objs.size := Nat.ne_of_lt (Heap.lt_size hl)
  generalize hIdef : s.heap.objs.size = I at hI hLI hn hdI ⊢
  refine codeAny_forLoop_any
    (fun k s' => ∃ h' tk m' news' i ok ov, s' = { s with heap := h', toks := tk } ∧ IsItemIter h' I d i es.size ep ok ov ∧ Fr h₀ env.locals h' m' ∧ News h₀ env.locals h' news' ∧ (∀ p ∈ news', p.1 ≠ I) ∧ J i m' news' ∧ i ≤ es.size ∧ k = es.size + 1 - i) ?_ (es.size + 1)
    ⟨_, s.toks, m₀, news, 0, .none, .none, rfl, hIdef ▸ Heap.get?_push_size _ rfl, F.push _, fun p hp => ⟨Heap.get?_push_of_some _ (N p hp).1, (N p hp).2⟩, hn, hj, Nat.zero_le _, rfl⟩
  rintro k s' ⟨h', tk, m', news', i, ok, ov, rfl, hit, F', N', hn', hJ, hi, rfl⟩
  have hdh : Raw h' d es ep := ⟨od, hold _ _ _ _ hJ F' N', hc, hd⟩
  cases hx : es[i]? with
  | none =>
    have hsz : i = es.size := Nat.le_antisymm hi (by simpa using hx)
    refine pyNext_items_end hh hit hdh hx fun h₁ he₁ => wpAny_execs_nil ?_
    have he₁ : Heap.ExtBut I h' h₁ := he₁
    refine done m' news' h₁ tk (hsz ▸ hJ) ⟨F'.ns.extBut he₁ hLI, fun b o e => he₁ b o (fun q => by rw [q, hI] at e; cases e) (F'.keep b o e), F'.above⟩ fun p hp => ⟨he₁ _ _ (hn' p hp) (N' p hp).1, (N' p hp).2⟩
  | some en =>
    have hlt : i < es.size := (Array.getElem?_eq_some_iff.mp hx).1
    refine pyNext_items hit hdh hx fun h₁ heo ht₁ hz₁ hk₁ => ?_
    refine wpAny_letOwnedTupleGo_items heo fun h₂ he₂ hs₂ => ?_
    replace hs₂ : Heap.SameBut I h₁ h₂ := hs₂
    have hTI : h'.objs.size ≠ I := Nat.ne_of_gt (Heap.lt_size hit)
    have ht₂ : h₂.IsTuple h'.objs.size #[en.key, en.val] := ⟨_, (hs₂.2 _ hTI).trans ht₁, rfl, _, rfl⟩
    have hz₂ : h₂.objs.size = h'.objs.size + 1 := hs₂.1.trans hz₁
    refine wpAny_assign_Tuple hh ht₂ rfl rfl fun h₃ hx₃ => ?_
    replace hx₃ : Heap.ExtBut h₂.objs.size h₂ h₃ := hx₃
    have old₃ : ∀ b o, b ≠ I → h'.get? b = some o → h₃.get? b = some o := fun b o hb e =>
      hx₃ b o (by rw [hz₂]; exact Nat.ne_of_lt (Nat.lt_succ_of_lt (Heap.lt_size e))) (hs₂.extBut b o hb (hk₁ b o hb e))
    have F₃ : Fr h₀ env.locals h₃ m' := ⟨F'.ns.at' fun o e => old₃ _ o hLI e, fun b o e => old₃ b o (fun q => by rw [q, hI] at e; cases e) (F'.keep b o e), F'.above⟩
    have hI₃ : IsItemIter h₃ I d (i + 1) es.size ep en.key en.val := hx₃ _ _ (by rw [hz₂]; exact Nat.ne_of_lt (Nat.lt_succ_of_lt (Heap.lt_size hit))) he₂
    have N₃ : News h₀ env.locals h₃ ((I, { cls := .type "dict_itemiterator", dict := none, data := .fields #[.none, .bool false, .ref d, .int ((i + 1 : Nat) : Int) 0, .int es.size 0, .int ep 0, en.key, en.val], slots := #[] }) :: news') := fun p hp => by
      rcases List.mem_cons.mp hp with rfl | hp
      · exact ⟨hI₃, Ne.symm hLI, hI⟩
      · exact ⟨old₃ _ _ (hn' p hp) (N' p hp).1, (N' p hp).2⟩
    show wpAny _ _ (do holding [en.val] (assign (.Name xk pk) env en.key); do holding [] (assign (.Name xv pv) env en.val); pure ()) _ _ _
    refine wpAny_bind (wpAny_holding (wpAny_assign_Name (wpAny_storeName_local hxk F₃.ns (fun h₄ hn₄ hs₄ => ?_) hp)))
    have F₄ := F₃.set hn₄ hs₄
    have N₄ := N₃.set hs₄
    refine wpAny_bind (wpAny_holding (wpAny_assign_Name (wpAny_storeName_local hxv F₄.ns (fun h₅ hn₅ hs₅ => wpAny_pure ?_) hp)))
    have F₅ := F₄.set hn₅ hs₅
    have N₅ := N₄.set hs₅
    refine wpAny_passesOwn hE (wpAny_mono (turn i en m' news' h₅ _ I _ hx hJ hn' F₅ N₅) (fun f s₃ h₃ => ?_) fun _ _ e => e)
    have fin : TurnEnd h₀ env.locals (I, { cls := .type "dict_itemiterator", dict := none, data := .fields #[.none, .bool false, .ref d, .int ((i + 1 : Nat) : Int) 0, .int es.size 0, .int ep 0, en.key, en.val], slots := #[] }) (J (i + 1)) Q { s with heap := h₅, toks := tk + 1 + 1 } .next s₃ →
        ∃ m, m < es.size + 1 - i ∧ ∃ h' tk m' news' i ok ov, s₃ = { s with heap := h', toks := tk } ∧ IsItemIter h' I d i es.size ep ok ov ∧ Fr h₀ env.locals h' m' ∧ News h₀ env.locals h' news' ∧ (∀ p ∈ news', p.1 ≠ I) ∧ J i m' news' ∧ i ≤ es.size ∧ m = es.size + 1 - i := by
      rintro ⟨h₆, tk₆, m₆, news₆, rfl, F₆, N₆, hn₆, hJ₆⟩
      exact ⟨es.size + 1 - (i + 1), by omega, h₆, tk₆, m₆, news₆, i + 1, en.key, en.val, rfl, (N₆ _ (.head _)).1, F₆, fun p hp => N₆ p (.tail _ hp), hn₆, hJ₆, hlt, rfl⟩
    cases f with
    | ret v => exact h₃
    | brk => exact h₃
    | next => exact fin h₃
    | cont => exact fin h₃

theorem Call_items_X {o : Expr} {apos pos : Pos} {d : Addr} {Q : Value → Shared → Prop} {es : Array DictEntry} {ep : Nat} (hdS : (d == sysModules) = false) (hm : Raw s.heap d es ep)
    (hbase : attributeBase o "items" env (eval o env) = eval o env) (hline : (apos.endLine == pos.line) = true)
    (ho : ∀ Q', Q' (.ref d) s → wpAny (model prog w) A (eval o env) Q' E s)
    (hQ : Q (.ref s.heap.objs.size) { s with heap := s.heap.push { cls := .type "dict_items", data := .fields #[.ref d] } }) :
    wpAny (model prog w) A (eval (.Call (.Attribute o "items" apos) [] [] pos) env) Q E s := by
  refine wpAny_Call_method (T := "dict") (id := "dict.items") hbase rfl hline F.plainAttrs_dict F.slot_dict_items F.type_dict_items (ho _ ⟨hm.typeIs, hm.noDict, ?_⟩)
  show wpAny _ _ (callWith pos (.builtin "dict.items") [.ref d] [] []) Q E s
  exact method_meetsIn F.slot_dict_items F.entry_dict_items rfl (PySem.evalArgs_none ⟨rfl, hm.typeIs, F.args_dict_items_1 _, _, meets_items d hdS, hm.typeIs, hQ⟩)
theorem Call_values_X {o : Expr} {apos pos : Pos} {d : Addr} {Q : Value → Shared → Prop} {es : Array DictEntry} {ep : Nat} (hdS : (d == sysModules) = false) (hm : Raw s.heap d es ep)
    (hbase : attributeBase o "values" env (eval o env) = eval o env) (hline : (apos.endLine == pos.line) = true)
    (ho : ∀ Q', Q' (.ref d) s → wpAny (model prog w) A (eval o env) Q' E s)
    (hQ : Q (.ref s.heap.objs.size) { s with heap := s.heap.push { cls := .type "dict_values", data := .fields #[.ref d] } }) :
    wpAny (model prog w) A (eval (.Call (.Attribute o "values" apos) [] [] pos) env) Q E s := by
  refine wpAny_Call_method (T := "dict") (id := "dict.values") hbase rfl hline F.plainAttrs_dict F.slot_dict_values F.type_dict_values (ho _ ⟨hm.typeIs, hm.noDict, ?_⟩)
  show wpAny _ _ (callWith pos (.builtin "dict.values") [.ref d] [] []) Q E s
  exact method_meetsIn F.slot_dict_values F.entry_dict_values rfl (PySem.evalArgs_none ⟨rfl, hm.typeIs, F.args_dict_values_1 _, _, meets_values d hdS, hm.typeIs, hQ⟩)
end
end Mine
end
section
open PySem PySem.W PySem.Calls PyProof.Rows
namespace Mine
section
variable {prog : Program} {w : World} {K : Type} [DecidableEq K] (knd : HeapKind prog w K)
/-- a dict, as an object alone -/
structure DObj (o : Obj) (es : Array DictEntry) (ep : Nat) (xs : List (K × Addr × Value)) : Prop where
  exact : o.ExactDict
  data : o.data = .dict es ep
  rows : es.toList = xs.map (entryOfKey knd)
  nodup : (xs.map (·.1)).Nodup
variable {knd}
theorem DObj.at {o : Obj} {es ep} {xs : List (K × Addr × Value)} (D : DObj knd o es ep xs) {h : Heap} {d : Addr} (hd : h.get? d = some o) (hk : ∀ x ∈ xs, knd.is h x.1 x.2.1) : h.DictOfH knd d xs :=
  ⟨o, es, ep, hd, D.exact, D.data, D.rows, hk, D.nodup⟩
theorem dobj_of {h : Heap} {d : Addr} {xs : List (K × Addr × Value)} (H : h.DictOfH knd d xs) : ∃ o es ep, h.get? d = some o ∧ DObj knd o es ep xs :=
  let ⟨o, es, ep, ho, hc, hd, he, _, hn⟩ := H; ⟨o, es, ep, ho, hc, hd, he, hn⟩
theorem dobj_new {o : Obj} (h : Obj.IsDictOf (intKind prog w) o []) : ∃ es ep, DObj knd o es ep [] := by
  obtain ⟨es₀, ep₀, h1, h2, _, h3, _⟩ := h
  have h4 := h3.length
  exact ⟨es₀, ep₀, h1, h2, List.eq_nil_of_length_eq_zero (by simpa using h4), List.nodup_nil⟩
theorem DObj.raw {o : Obj} {es ep} {xs : List (K × Addr × Value)} (D : DObj knd o es ep xs) {h : Heap} {d : Addr} (hd : h.get? d = some o) : Raw h d es ep := ⟨o, hd, D.exact, D.data⟩
theorem DObj.get {o : Obj} {es ep} {xs : List (K × Addr × Value)} (D : DObj knd o es ep xs) (i : Nat) : es[i]? = (xs[i]?).map (entryOfKey knd) := entry_at D.rows i
theorem DObj.size {o : Obj} {es ep} {xs : List (K × Addr × Value)} (D : DObj knd o es ep xs) : es.size = xs.length := size_of_entries D.rows
end

/-- the values are these ints -/
def SameInts {K : Type} : List (K × Addr × Value) → List (K × Addr × Int) → Prop
  | [], [] => True
  | v :: vs, x :: xs => (v.1 = x.1 ∧ v.2.1 = x.2.1 ∧ ∃ t, v.2.2 = .int x.2.2 t) ∧ SameInts vs xs
  | _, _ => False
theorem SameInts.length {K : Type} : ∀ {vs : List (K × Addr × Value)} {xs : List (K × Addr × Int)}, SameInts vs xs → vs.length = xs.length
  | [], [], _ => rfl
  | _ :: _, _ :: _, h => congrArg (· + 1) (SameInts.length h.2)
  | [], _ :: _, h => h.elim
  | _ :: _, [], h => h.elim
theorem SameInts.get {K : Type} : ∀ {vs : List (K × Addr × Value)} {xs : List (K × Addr × Int)}, SameInts vs xs → ∀ {i : Nat} {v : K × Addr × Value}, vs[i]? = some v → ∃ x t, xs[i]? = some x ∧ v = (x.1, x.2.1, .int x.2.2 t)
  | [], _, _, _, _, e => by simp at e
  | v₀ :: _, x :: _, h, 0, v, e => by
    obtain ⟨h1, h2, t, h3⟩ := h.1
    simp at e
    subst e
    exact ⟨x, t, rfl, by rw [← h1, ← h2, ← h3]⟩
  | _ :: _, _ :: _, h, i + 1, v, e => by
    obtain ⟨x, t, hx, r⟩ := SameInts.get h.2 (i := i) (v := v) (by simpa using e)
    exact ⟨x, t, by simpa using hx, r⟩
  | _ :: _, [], h, _, _, _ => h.elim
theorem SameInts.append {K : Type} : ∀ {vs us : List (K × Addr × Value)} {xs ys : List (K × Addr × Int)}, SameInts vs xs → SameInts us ys → SameInts (vs ++ us) (xs ++ ys)
  | [], _, [], _, _, h => h
  | _ :: _, _, _ :: _, _, h, h' => ⟨h.1, SameInts.append h.2 h'⟩
  | [], _, _ :: _, _, h, _ => h.elim
  | _ :: _, _, [], _, h, _ => h.elim
theorem SameInts.take {K : Type} : ∀ {vs : List (K × Addr × Value)} {xs : List (K × Addr × Int)}, SameInts vs xs → ∀ i, SameInts (vs.take i) (xs.take i)
  | [], [], _, i => by simp [SameInts]
  | _ :: _, _ :: _, h, 0 => by simp [SameInts]
  | _ :: _, _ :: _, h, i + 1 => ⟨h.1, SameInts.take h.2 i⟩
  | [], _ :: _, h, _ => h.elim
  | _ :: _, [], h, _ => h.elim
theorem SameInts.keys {K : Type} : ∀ {vs : List (K × Addr × Value)} {xs : List (K × Addr × Int)}, SameInts vs xs → vs.map (fun v => (v.1, v.2.1)) = xs.map (fun x => (x.1, x.2.1))
  | [], [], _ => rfl
  | _ :: _, _ :: _, h => by simp only [List.map_cons, SameInts.keys h.2, h.1.1, h.1.2.1]
  | [], _ :: _, h => h.elim
  | _ :: _, [], h => h.elim
theorem ex_int {f : Str → Option Value} {x : Str} {a b : Int} {t : Tok} (h : f x = some (.int a t)) (e : b = a) : ∃ t, f x = some (.int b t) := ⟨t, e ▸ h⟩

section
variable {prog : Program} {w : World} {K : Type} [DecidableEq K] {knd : HeapKind prog w K}
theorem set_X {A : Around} {E : Value → Shared → Prop} {s : Shared} {h₀ : Heap} {L I D a : Addr} {m : Str → Option Value} {oI o : Obj} {es : Array DictEntry} {ep : Nat} {vs : List (K × Addr × Value)} {k : K} {v : Value} {Q : Unit → Shared → Prop}
    (F : Fr h₀ L s.heap m) (N : News h₀ L s.heap [(I, oI), (D, o)]) (hne : D ≠ I) (hu : knd.room A.in1) (hkey : knd.is s.heap k a) (DO : DObj knd o es ep vs) (hk : ∀ x ∈ vs, knd.is s.heap x.1 x.2.1) (hsz : vs.length ≤ sizeLine)
    (ret : ∀ h' o' es' ep', Fr h₀ L h' m → News h₀ L h' [(I, oI), (D, o')] → DObj knd o' es' ep' (storedH vs k a v) → Q () { s with heap := h', toks := s.toks + knd.draws k }) :
    Hold (wpAny (model prog w) A (setItem (.ref D) (.ref a) v) Q E s) := by
  have nD := N (D, o) (.tail _ (.head _))
  have nI := N (I, oI) (.head _)
  refine wpAny_setItem_heap hu hkey (DO.at nD.1 hk) (fun h' hd hs => ?_) hsz
  obtain ⟨o', es', ep', ho', DO'⟩ := dobj_of hd
  refine ret h' o' es' ep' (F.change hs nD.2.1 nD.2.2) (fun p hp => ?_) DO'
  rcases List.mem_cons.mp hp with rfl | hp
  · exact ⟨hs.extBut _ _ (Ne.symm hne) nI.1, nI.2⟩
  · rw [List.mem_singleton.mp hp]
    exact ⟨ho', nD.2⟩
theorem atKey_take {vs : List (K × Addr × Value)} (hn : (vs.map (·.1)).Nodup) {i : Nat} {x : K × Addr × Value} (hx : vs[i]? = some x) : atKey (vs.take i) x.1 = none := by
  refine atKey_none_of_get fun j p hj => ?_
  have hji : j < i := by
    rcases Nat.lt_or_ge j i with h | h
    · exact h
    · rw [List.getElem?_eq_none (by rw [List.length_take]; omega)] at hj
      cases hj
  rw [List.getElem?_take_of_lt hji] at hj
  have := idxH_unique hn (k := x.1) (p := p) (q := x.2) hj hx
  omega
end

theorem putAt_key {K : Type} [DecidableEq K] {ws : List (K × Addr × Value)} {k : K} {v : Value} {P : K → Addr → Prop} (h : ∀ x ∈ ws, P x.1 x.2.1) : ∀ x ∈ ws.map (putAt k v), P x.1 x.2.1 := by
  intro x hx
  obtain ⟨z, hz, rfl⟩ := List.mem_map.mp hx
  unfold putAt
  split <;> exact h z hz
def putI {K : Type} [DecidableEq K] (acc : List (K × Addr × Int)) (y : K × Addr × Int) : List (K × Addr × Int) :=
  if acc.any (fun x => decide (x.1 = y.1)) then acc.map (fun x => if x.1 = y.1 then (x.1, x.2.1, x.2.2 + y.2.2) else x) else acc ++ [y]
def addI {K : Type} [DecidableEq K] (xs ys : List (K × Addr × Int)) : List (K × Addr × Int) := ys.foldl putI xs

theorem atKey_any {K : Type} [DecidableEq K] : ∀ {vs : List (K × Addr × Value)} {xs : List (K × Addr × Int)}, SameInts vs xs → ∀ k, (atKey vs k).isSome = xs.any (fun x => decide (x.1 = k))
  | [], [], _, k => by simp [atKey]
  | v :: vs, x :: xs, h, k => by
    have ih := atKey_any h.2 k
    obtain ⟨h1, _, _⟩ := h.1
    by_cases e : x.1 = k
    · simp [atKey, h1, e]
    · rw [List.any_cons, ← ih]
      simp [atKey, h1, e]
  | [], _ :: _, h, _ => h.elim
  | _ :: _, [], h, _ => h.elim
theorem atKey_some {K : Type} [DecidableEq K] {vs : List (K × Addr × Value)} {k : K} {p : Addr × Value} (h : atKey vs k = some p) : ∃ i : Nat, vs[i]? = some (k, p) := by
  unfold atKey at h
  obtain ⟨x, hx, rfl⟩ := Option.map_eq_some_iff.mp h
  have h1 := List.find?_some hx
  have h2 := List.mem_of_find?_eq_some hx
  obtain ⟨i, hi⟩ := List.mem_iff_getElem?.mp h2
  refine ⟨i, ?_⟩
  rw [hi, ← of_decide_eq_true h1]
theorem same_putAt {K : Type} [DecidableEq K] : ∀ {vs : List (K × Addr × Value)} {xs : List (K × Addr × Int)}, SameInts vs xs → (vs.map (·.1)).Nodup → ∀ {i : Nat} {x y : K × Addr × Int} {t : Tok}, xs[i]? = some x → x.1 = y.1 →
    SameInts (vs.map (putAt y.1 (.int (x.2.2 + y.2.2) t))) (xs.map (fun x => if x.1 = y.1 then (x.1, x.2.1, x.2.2 + y.2.2) else x))
  | [], [], _, _, _, _, _, _, e, _ => by simp at e
  | v :: vs, x₀ :: xs, h, hn, i, x, y, t, e, exy => by
    obtain ⟨h1, h2, t', h3⟩ := h.1
    rw [List.map_cons, List.nodup_cons] at hn
    have key : vs.map (·.1) = xs.map (·.1) := by
      have := congrArg (List.map Prod.fst) (SameInts.keys h.2)
      simpa [List.map_map, Function.comp_def] using this
    cases i with
    | zero =>
      simp at e
      subst e
      have hnot : y.1 ∉ vs.map (·.1) := by rw [← exy, ← h1]; exact hn.1
      have hnot' : ∀ z ∈ xs, ¬ z.1 = y.1 := fun z hz q => hnot (by rw [key, ← q]; exact List.mem_map_of_mem hz)
      refine ⟨?_, ?_⟩
      · simp only [putAt, h1, exy, if_true]
        exact ⟨trivial, h2, t, rfl⟩
      · rw [map_putAt_of_not_mem _ _ _ hnot]
        have : xs.map (fun x => if x.1 = y.1 then (x.1, x.2.1, x.2.2 + y.2.2) else x) = xs := by
          conv => rhs; rw [← List.map_id xs]
          exact List.map_congr_left fun z hz => by simp [hnot' z hz]
        rw [this]
        exact h.2
    | succ i =>
      have hx : xs[i]? = some x := by simpa using e
      have hmem : y.1 ∈ vs.map (·.1) := by rw [key, ← exy]; exact List.mem_map_of_mem (List.mem_of_getElem? hx)
      have hne : ¬ v.1 = y.1 := fun q => hn.1 (q ▸ hmem)
      have hne' : ¬ x₀.1 = y.1 := h1 ▸ hne
      refine ⟨?_, same_putAt h.2 hn.2 hx exy⟩
      simp only [putAt, hne, hne', if_false]
      exact ⟨h1, h2, t', h3⟩
  | [], _ :: _, h, _, _, _, _, _, _, _ => h.elim
  | _ :: _, [], h, _, _, _, _, _, _, _ => h.elim
end Mine
end
section
open PySem PySem.W PySem.Calls PyProof.Rows
set_option maxRecDepth 100000
namespace Mine
section
variable {prog : Program} {w : World} {K : Type} [DecidableEq K] {knd : HeapKind prog w K} {A : Around} {E : Value → Shared → Prop} {s : Shared}
theorem nodup_at {α β : Type} {xs : List (α × β)} (hn : (xs.map (·.1)).Nodup) {i j : Nat} {a : α} {p q : β} (hi : xs[i]? = some (a, p)) (hj : xs[j]? = some (a, q)) : p = q := by
  have h1 : (xs.map (·.1))[i]? = some a := by simp [hi]
  have h2 : (xs.map (·.1))[j]? = some a := by simp [hj]
  obtain ⟨l1, e1⟩ := List.getElem?_eq_some_iff.mp h1
  obtain ⟨l2, e2⟩ := List.getElem?_eq_some_iff.mp h2
  have : i = j := by
    rcases Nat.lt_trichotomy i j with h | h | h
    · exact absurd (e1.trans e2.symm) (List.pairwise_iff_getElem.mp hn i j l1 l2 h)
    · exact h
    · exact absurd (e2.trans e1.symm) (List.pairwise_iff_getElem.mp hn j i l2 l1 h)
  subst this
  rw [hi] at hj
  cases hj
  rfl
theorem same_X {nm : String} {a b : Addr} {oa ob : Obj} {es es' : Array DictEntry} {ep ep' : Nat} {vs us : List (K × Addr × Value)} {xs ys : List (K × Addr × Int)} {Q : Bool → Shared → Prop}
    (hu : knd.room A) (ha : (a == sysModules) = false) (hb : (b == sysModules) = false) (hoa : s.heap.get? a = some oa) (hob : s.heap.get? b = some ob) (DA : DObj knd oa es ep vs) (DB : DObj knd ob es' ep' us)
    (SA : SameInts vs xs) (SB : SameInts us ys) (ka : ∀ x ∈ vs, knd.is s.heap x.1 x.2.1) (kb : ∀ x ∈ us, knd.is s.heap x.1 x.2.1)
    (hlen : xs.length = ys.length) (heq : ∀ x ∈ xs, ∃ y ∈ ys, y.1 = x.1 ∧ y.2.2 = x.2.2) (h : Q true s) :
    wpAny (model prog w) A (Builtin.Dict.samePairs nm a b) Q E s := by
  have la := DA.size
  have lb := DB.size
  have l1 := SA.length
  have l2 := SB.length
  have hda := DA.data
  have hdb := DB.data
  have hsz : es.size = es'.size := by omega
  unfold Builtin.Dict.samePairs Builtin.Dict.showsAll
  rw [if_neg (show ¬ (a == sysModules) = true by rw [ha]; exact Bool.false_ne_true), if_neg (show ¬ (b == sysModules) = true by rw [hb]; exact Bool.false_ne_true)]
  refine wpAny_bind (wpAny_pure (wpAny_bind (wpAny_pure ?_)))
  refine wpAny_bind (wpAny_dictEntries hoa hda ?_)
  dsimp only
  refine wpAny_bind (wpAny_dictEntries hob hdb ?_)
  rw [if_neg (by rw [hsz]; simp)]
  refine wpAny_bind (wpAny_dictEpoch hoa hda ?_)
  refine wpAny_bind ?_
  rw [Std.Legacy.Range.forIn_eq_forIn_range']
  simp only [Std.Legacy.Range.size, Nat.sub_zero, Nat.add_sub_cancel, Nat.div_one]
  refine wpAny_forIn_list _
    (fun rest q s' => s' = s ∧ q = (none, ()) ∧ ∃ i, rest = List.range' i (es.size - i) ∧ i ≤ es.size)
    _ ?_ ?_ _ _ ⟨rfl, rfl, 0, by simp, Nat.zero_le _⟩
  · rintro x rest q s' ⟨rfl, rfl, i, hr, hi⟩
    have hlt : i < es.size := by
      rcases Nat.lt_or_ge i es.size with h | h
      · exact h
      · rw [Nat.sub_eq_zero_of_le h] at hr; simp at hr
    obtain ⟨rfl, hrest⟩ : x = i ∧ rest = List.range' (i + 1) (es.size - (i + 1)) := by
      have e : es.size - i = (es.size - (i + 1)) + 1 := by omega
      rw [e, List.range'_succ] at hr
      injection hr with h1 h2
      exact ⟨h1, h2⟩
    refine wpAny_bind (wpAny_dictEntries hoa hda ?_)
    obtain ⟨v, hv⟩ : ∃ v, vs[x]? = some v := ⟨vs[x]'(by omega), List.getElem?_eq_getElem (by omega)⟩
    obtain ⟨z, t, hz, rfl⟩ := SA.get hv
    rw [DA.get, hv]
    show wpAny _ _ (holding [Value.ref z.2.1, Value.int z.2.2 t] _ >>= _) _ _ _
    refine wpAny_bind (wpAny_holding (wpAny_bind ?_))
    obtain ⟨y, hy, e1, e2⟩ := heq z (List.mem_of_getElem? hz)
    obtain ⟨jy, hjy⟩ := List.getElem?_of_mem hy
    obtain ⟨u, hu'⟩ : ∃ u, us[jy]? = some u := by
      have := (List.getElem?_eq_some_iff.mp hjy).1
      exact ⟨us[jy]'(by omega), List.getElem?_eq_getElem (by omega)⟩
    obtain ⟨y', t', hy', rfl⟩ := SB.get hu'
    rw [hjy] at hy'
    cases hy'
    refine wpAny_dictFind_heap hu (ka _ (List.mem_of_getElem? hv)) hob hdb DB.rows kb DB.nodup (fun hno => ?_) fun j p hj => ?_
    · exact absurd (e1 ▸ hu') (hno jy _)
    · refine wpAny_bind (wpAny_dictEntries hob hdb ?_)
      rw [DB.get, hj]
      have hp : p = (y.2.1, .int y.2.2 t') := nodup_at DB.nodup hj (by rw [e1] at hu'; exact hu')
      subst hp
      show wpAny _ _ (holding [Value.int y.2.2 t'] (eqBool (Value.int z.2.2 t) (Value.int y.2.2 t'))) _ _ _
      refine wpAny_holding (wpAny_eqBool_int ?_)
      rw [e2, beq_self_eq_true]
      show wpAny _ _ (if (!true) = true then _ else _) _ _ _
      rw [if_neg (by decide)]
      refine wpAny_bind (wpAny_dictEpoch hoa hda ?_)
      rw [if_neg (by simp)]
      exact wpAny_pure ⟨rfl, rfl, x + 1, hrest, hlt⟩
  · rintro q s' ⟨rfl, rfl, i, hr, hi⟩
    exact wpAny_pure h
theorem ne_X {a b : Addr} {oa ob : Obj} {es es' : Array DictEntry} {ep ep' : Nat} {vs us : List (K × Addr × Value)} {xs ys : List (K × Addr × Int)} {Q : Value → Shared → Prop}
    (hu : knd.room A.in1) (hc : A.units < cLine) (ha : (a == sysModules) = false) (hb : (b == sysModules) = false) (hoa : s.heap.get? a = some oa) (hob : s.heap.get? b = some ob) (DA : DObj knd oa es ep vs) (DB : DObj knd ob es' ep' us)
    (SA : SameInts vs xs) (SB : SameInts us ys) (ka : ∀ x ∈ vs, knd.is s.heap x.1 x.2.1) (kb : ∀ x ∈ us, knd.is s.heap x.1 x.2.1)
    (hlen : xs.length = ys.length) (heq : ∀ x ∈ xs, ∃ y ∈ ys, y.1 = x.1 ∧ y.2.2 = x.2.2) (h : Q (.bool false) s) :
    Hold (wpAny (model prog w) A (compareOp .NotEq (.ref a) (.ref b)) Q E s) := by
  have hTa : s.TypeIs (.ref a) "dict" := (DA.at hoa ka).typeIs
  have hTb : s.TypeIs (.ref b) "dict" := (DB.at hob kb).typeIs
  refine wpAny_richCompare_same_room (op := .NotEq) hTa hTb PySem.F.slot_dict_ne (wpAny_call_entry PySem.F.slot_dict_ne hTa PySem.F.entry_dict_ne ?_ (PySem.F.args_dict_ne_2 _ _)) hc
  show wpAny _ _ (Builtin.Dict.dictSlotArgs "__ne__" ⟨[.ref a, .ref b], []⟩ >>= _) _ _ s
  refine wpAny_bind ?_
  unfold Builtin.Dict.dictSlotArgs
  refine wpAny_bind (wpAny_notOrdered_dict hTa ?_)
  show wpAny _ _ (pure (Value.ref a, Value.ref b)) _ _ s
  refine wpAny_pure ?_
  refine wpAny_bind (wpAny_isInstance (T := "dict") hTb PySem.F.sub_dict_dict ?_)
  simp only [Bool.not_true, Bool.false_eq_true, if_false]
  refine wpAny_bind (wpAny_pure (wpAny_bind (wpAny_pure ?_)))
  refine wpAny_bind (same_X hu ha hb hoa hob DA DB SA SB ka kb hlen heq ?_)
  exact wpAny_pure ⟨_, rfl, (fun x => nomatch x), h⟩
end
end Mine
end
section
open PySem PySem.W PySem.Calls PyProof.Rows
set_option maxRecDepth 100000
namespace Mine
section
variable {prog : Program} {w : World} {A : Around} {E : Value → Shared → Prop} {s : Shared} {env : Env} {h₀ : Heap} {L : Addr} {m : Str → Option Value} {news : List (Addr × Obj)}
/-- a display of one pair: before the pair is put in -/
theorem Dict_one {ke ve : Expr} {pos : Pos} {Q : Value → Shared → Prop} (F : Fr h₀ L s.heap m) (N : News h₀ L s.heap news) (hbig : h₀.NoLimit)
    (h : ∀ (d : Addr) h' o, Fr h₀ L h' m → News h₀ L h' ((d, o) :: news) → (∀ p ∈ news, p.1 < d) → (d == sysModules) = false → o.IsDictOf (intKind prog w) [] →
      wpAny (model prog w) A (eval ke env) (fun kv s₁ => wpAny (model prog w) A (eval ve env) (fun vv s₂ => Hold (wpAny (model prog w) A (dictSet d kv vv) (fun _ s₃ => Q (.ref d) s₃) E s₂)) E s₁) E { s with heap := h' }) :
    wpAny (model prog w) A (eval (.Dict [some ke] [ve] pos) env) Q E s := by
  rw [arm_eval_Dict]
  have e : (evalEachOpt [some ke] env).zip ((evalEach [ve] env).map fun v => do let x ← v; standAt pos; pure x) = [((eval ke env, do let x ← eval ve env; standAt pos; pure x) : Sem Value × Sem Value)].map fun p => (some p.1, p.2) := rfl
  rw [e, dictDisplay_pairs _ (by simp) (by simp)]
  refine wpAny_bind (wpAny_standAt (wpAny_bind ?_))
  unfold subDict
  refine wpAny_bind (wpAny_alloc ?_)
  refine wpAny_bind (wpAny_holding ?_)
  rw [if_pos (by simp)]
  obtain ⟨o, ho, hd⟩ := Heap.dictOf_iff.mp (Heap.DictOf.new (knd := intKind prog w) s.heap)
  refine wpAny_bind (evalPairs_cons (wpAny_mono (h _ _ o (F.push _) (news_pushed F N (fun b x e => Heap.get?_push_of_some _ e) ho rfl) (fun p hp => Heap.lt_size (N p hp).1) (F.notModules (modules_low hbig)) hd) (fun kv s₁ h₁ => ?_) fun _ _ e => e))
  refine wpAny_bind (wpAny_mono h₁ (fun vv s₂ h₂ => wpAny_bind (wpAny_standAt (wpAny_pure ?_))) fun _ _ e => e)
  refine evalPairs_nil ?_
  refine wpAny_holding ?_
  rw [List.forIn_cons]
  have h₂ : wpAny (model prog w) A (dictSet s.heap.objs.size kv vv) (fun _ s₃ => Q (.ref s.heap.objs.size) s₃) E s₂ := h₂
  refine wpAny_bind (wpAny_bind (wpAny_bind (wpAny_mono h₂ (fun _ s₃ h₃ => wpAny_pure ?_) fun _ _ e => e)))
  dsimp only
  rw [List.forIn_nil]
  exact wpAny_pure (wpAny_pure (wpAny_pure (wpAny_pure h₃)))
variable {K : Type} [DecidableEq K] {knd : HeapKind prog w K}
theorem put_U {d a : Addr} {o : Obj} {g : Obj → List (Addr × Obj)} {es : Array DictEntry} {ep : Nat} {vs : List (K × Addr × Value)} {k : K} {v : Value} {Q : Unit → Shared → Prop}
    (F : Fr h₀ L s.heap m) (N : News h₀ L s.heap news) (U : UpdF d o news g) (hu : knd.room A) (hkey : knd.is s.heap k a) (DO : DObj knd o es ep vs) (hk : ∀ x ∈ vs, knd.is s.heap x.1 x.2.1) (hsz : vs.length ≤ sizeLine)
    (ret : ∀ h' o' es' ep', Fr h₀ L h' m → News h₀ L h' (g o') → DObj knd o' es' ep' (storedH vs k a v) → Q () { s with heap := h', toks := s.toks + knd.draws k }) :
    Hold (wpAny (model prog w) A (dictSet d (.ref a) v) Q E s) := by
  obtain ⟨pre, post, rfl, hg, ha, hb⟩ := U.split
  have hm := N (d, o) (List.mem_append_right _ (.head _))
  refine wpAny_dictSet_heap hu hkey (DO.at hm.1 hk) (fun h' hd hs => ?_) hsz
  obtain ⟨o', es', ep', ho', DO'⟩ := dobj_of hd
  exact ret h' o' es' ep' (F.change hs hm.2.1 hm.2.2) (hg o' ▸ N.setIn ha hb hs ho') DO'
end
end Mine
end
section
open PySem PySem.W PySem.Calls PyProof.Rows
set_option maxRecDepth 100000
namespace Mine
/-- the counts by key -/
def addKV {K : Type} [DecidableEq K] (kv : List (K × Int)) (k : K) : List (K × Int) :=
  if kv.any (fun x => decide (x.1 = k)) then kv.map (fun x => if x.1 = k then (x.1, x.2 + 1) else x) else kv ++ [(k, 1)]
def KV {K : Type} (xs : List (K × Addr × Int)) : List (K × Int) := xs.map fun x => (x.1, x.2.2)
theorem kv_add {K : Type} [DecidableEq K] (xs : List (K × Addr × Int)) (k : K) (a : Addr) : KV (addI xs [(k, a, 1)]) = addKV (KV xs) k := by
  show KV (putI xs (k, a, 1)) = _
  unfold putI addKV KV
  rw [List.any_map]
  by_cases h : (xs.any fun x => decide (x.1 = k)) = true
  · rw [if_pos h, if_pos (by simpa [Function.comp_def] using h), List.map_map, List.map_map]
    refine List.map_congr_left fun x _ => ?_
    by_cases e : x.1 = k <;> simp [e]
  · rw [if_neg h, if_neg (by simpa [Function.comp_def] using h)]
    simp
theorem addKV_len {K : Type} [DecidableEq K] (kv : List (K × Int)) (k : K) : (addKV kv k).length ≤ kv.length + 1 := by
  unfold addKV
  split <;> simp
theorem foldKV_len {K α : Type} [DecidableEq K] (f : α → K) : ∀ (os : List α) (kv : List (K × Int)), (os.foldl (fun kv o => addKV kv (f o)) kv).length ≤ kv.length + os.length
  | [], kv => by simp
  | o :: os, kv => by
    have h1 := foldKV_len f os (addKV kv (f o))
    have h2 := addKV_len kv (f o)
    simp only [List.foldl_cons, List.length_cons]
    omega
section
variable {prog : Program} {w : World} {K : Type} [DecidableEq K]
/-- a key stands wherever these objects stand -/
def KeyIn (knd : HeapKind prog w K) (tail : List (Addr × Obj)) (k : K) (a : Addr) : Prop := ∀ h : Heap, (∀ p ∈ tail, h.get? p.1 = some p.2) → knd.is h k a
theorem KeyIn.mono {knd : HeapKind prog w K} {t t' : List (Addr × Obj)} {k : K} {a : Addr} (x : KeyIn knd t k a) (h : ∀ p ∈ t, p ∈ t') : KeyIn knd t' k a := fun h' q => x h' fun p hp => q p (h p hp)
theorem KeyIn.here {knd : HeapKind prog w K} {t news : List (Addr × Obj)} {k : K} {a : Addr} {h₀ h : Heap} {L : Addr} (x : KeyIn knd t k a) (N : News h₀ L h news) (hs : ∀ p ∈ t, p ∈ news) : knd.is h k a := x h fun p hp => (N p (hs p hp)).1
/-- a dict of counts -/
def CntD (knd : HeapKind prog w K) (tail : List (Addr × Obj)) (D : Addr) (o : Obj) (kv : List (K × Int)) : Prop :=
  (D == sysModules) = false ∧ ∃ es ep vs xs, DObj knd o es ep vs ∧ SameInts vs xs ∧ KV xs = kv ∧ ∀ x ∈ vs, KeyIn knd tail x.1 x.2.1
theorem CntD.mono {knd : HeapKind prog w K} {t t' : List (Addr × Obj)} {D : Addr} {o : Obj} {kv : List (K × Int)} (x : CntD knd t D o kv) (h : ∀ p ∈ t, p ∈ t') : CntD knd t' D o kv :=
  let ⟨a, es, ep, vs, xs, b, c, d, e⟩ := x; ⟨a, es, ep, vs, xs, b, c, d, fun y hy => (e y hy).mono h⟩
theorem CntD.nil {knd : HeapKind prog w K} {tail : List (Addr × Obj)} {D : Addr} {o : Obj} (h1 : (D == sysModules) = false) (h2 : Obj.IsDictOf (intKind prog w) o []) : CntD knd tail D o [] :=
  let ⟨es, ep, d⟩ := dobj_new (knd := knd) h2; ⟨h1, es, ep, [], [], d, trivial, rfl, fun _ h => nomatch h⟩
/-- objects at the tail hold a row of values -/
def TupTail (tail : List (Addr × Obj)) : Prop := ∀ p ∈ tail, ∃ xs k, p.2.data = .seq xs k
theorem tail_ne {h₀ h : Heap} {L c : Addr} {o : Obj} {news tail : List (Addr × Obj)} (N : News h₀ L h news) (T : TupTail tail) (hs : ∀ p ∈ tail, p ∈ news) (hc : (c, o) ∈ news) (ho : ∀ xs k, o.data ≠ .seq xs k) : ∀ p ∈ tail, @Ne Nat p.1 c := by
  intro p hp e
  have h1 := (N p (hs p hp)).1
  have h2 := (N _ hc).1
  dsimp only at h2
  rw [show p.1 = c from e, h2] at h1
  obtain ⟨xs, k, q⟩ := T p hp
  exact ho xs k ((congrArg Obj.data (Option.some.inj h1)).trans q)
theorem tail_cell {h₀ h : Heap} {L c : Addr} {o : Obj} {news tail : List (Addr × Obj)} (N : News h₀ L h news) (T : TupTail tail) (hs : ∀ p ∈ tail, p ∈ news) (hc : (c, o) ∈ news) {v : Option Value} (ho : o.data = .cell v) : ∀ p ∈ tail, @Ne Nat p.1 c :=
  tail_ne N T hs hc fun xs k e => by rw [ho] at e; cases e
theorem cnt_ne {knd : HeapKind prog w K} {t news : List (Addr × Obj)} {D c : Addr} {o oc : Obj} {kv : List (K × Int)} {h₀ h : Heap} {L : Addr} {v : Option Value} (x : CntD knd t D o kv) (N : News h₀ L h news) (hm : (D, o) ∈ news) (hc : (c, oc) ∈ news) (ho : oc.data = .cell v) : @Ne Nat D c := by
  intro e
  obtain ⟨_, es, ep, _, _, d, _⟩ := x
  have h1 := (N _ hm).1
  have h2 := (N _ hc).1
  dsimp only at h1 h2
  rw [show D = c from e, h2] at h1
  have := (congrArg Obj.data (Option.some.inj h1))
  rw [ho, d.data] at this
  cases this
theorem sand_key {M : Mid prog w K} {a b : Str} {tail : List (Addr × Obj)} {T : Addr} {o : Obj} {k : K} {ta tb : Tok} {v : Value} {n : Nat} (hm : (T, o) ∈ tail) (hc : o.cls = .type "tuple") (hd : o.data = .seq #[.str a ta, v, .str b tb] n)
    (hk : ∀ h : Heap, (∀ p ∈ tail, h.get? p.1 = some p.2) → M.is h k v) : KeyIn (sandKind M a b) tail k T := fun h q => ⟨o, n, ta, v, tb, q _ hm, hc, hd, hk h q⟩

theorem cnt_put {A : Around} {E : Value → Shared → Prop} {s : Shared} {h₀ : Heap} {L : Addr} {m : Str → Option Value} {news tl : List (Addr × Obj)} {g : Obj → List (Addr × Obj)} {knd : HeapKind prog w K} {d T : Addr} {o : Obj} {k : K} {t : Tok} {Q : Shared → Prop}
    (F : Fr h₀ L s.heap m) (N : News h₀ L s.heap news) (U : UpdF d o news g) (hu : knd.room A) (hkey : KeyIn knd tl k T) (hs : ∀ p ∈ tl, p ∈ news) (hd : Obj.IsDictOf (intKind prog w) o []) (hlo : (d == sysModules) = false)
    (ret : ∀ h' o', Fr h₀ L h' m → News h₀ L h' (g o') → CntD knd tl d o' [(k, 1)] → Q { s with heap := h', toks := s.toks + knd.draws k }) :
    Hold (wpAny (model prog w) A (dictSet d (.ref T) (.int 1 t)) (fun _ s₃ => Q s₃) E s) := by
  obtain ⟨es, ep, DO⟩ := dobj_new (knd := knd) hd
  refine put_U F N U hu (hkey.here N hs) DO (fun _ h => nomatch h) (Nat.zero_le _) fun h' o' es' ep' F' N' DO' => ret h' o' F' N' ⟨hlo, es', ep', _, [(k, T, 1)], DO', ?_, rfl, ?_⟩
  · exact ⟨⟨rfl, rfl, t, rfl⟩, trivial⟩
  · intro x hx
    rw [storedH_new (by rfl)] at hx
    rw [List.mem_singleton.mp hx]
    exact hkey
theorem addI_pair {xs ys : List (K × Addr × Int)} {P : K → Addr → Prop} (h1 : ∀ x ∈ xs, P x.1 x.2.1) (h2 : ∀ y ∈ ys, P y.1 y.2.1) : ∀ x ∈ addI xs ys, P x.1 x.2.1 := by
  unfold addI
  induction ys generalizing xs with
  | nil => exact h1
  | cons y ys ih =>
    rw [List.foldl_cons]
    refine ih (fun x hx => ?_) fun z hz => h2 z (.tail _ hz)
    unfold putI at hx
    split at hx
    · obtain ⟨z, hz, rfl⟩ := List.mem_map.mp hx
      split
      · exact h1 z hz
      · exact h1 z hz
    · rcases List.mem_append.mp hx with hx | hx
      · exact h1 x hx
      · rw [List.mem_singleton.mp hx]
        exact h2 y (.head _)
theorem same_pair {vs : List (K × Addr × Value)} {xs : List (K × Addr × Int)} {P : K → Addr → Prop} (S : SameInts vs xs) (h : ∀ x ∈ vs, P x.1 x.2.1) : ∀ x ∈ xs, P x.1 x.2.1 := by
  intro x hx
  obtain ⟨i, hi⟩ := List.getElem?_of_mem hx
  have hl := (List.getElem?_eq_some_iff.mp hi).1
  have hv : vs[i]? = some (vs[i]'(by rw [S.length]; exact hl)) := List.getElem?_eq_getElem _
  obtain ⟨y, t, hy, e⟩ := S.get hv
  rw [hi] at hy
  cases hy
  have := h _ (List.mem_of_getElem? hv)
  rw [e] at this
  exact this
theorem same_pair' {vs : List (K × Addr × Value)} {xs : List (K × Addr × Int)} {P : K → Addr → Prop} (S : SameInts vs xs) (h : ∀ x ∈ xs, P x.1 x.2.1) : ∀ x ∈ vs, P x.1 x.2.1 := by
  intro x hx
  obtain ⟨i, hi⟩ := List.getElem?_of_mem hx
  obtain ⟨y, t, hy, rfl⟩ := S.get hi
  exact h y (List.mem_of_getElem? hy)
theorem sand_ext {M : Mid prog w K} {a b : Str} (hM : ∀ {h h' : Heap} {k : K} {v : Value}, M.is h k v → Ext h h' → M.is h' k v) {h h' : Heap} {k : K} {d : Addr} (x : (sandKind M a b).is h k d) (e : Ext h h') : (sandKind M a b).is h' k d := by
  obtain ⟨o, n, ta, v, tb, ho, hc, hd, hm⟩ := x
  exact ⟨o, n, ta, v, tb, e _ _ ho, hc, hd, hM hm e⟩
end
end Mine
end
section
open PySem PySem.W PyProof.Rows
set_option maxRecDepth 100000
set_option maxHeartbeats 8000000
namespace Mine
open_top hd01 for PySem.Challenge.rw_ia0001_01
end Mine
end
section
open PySem PySem.W PySem.Calls PyProof.Rows
namespace Mine
abbrev Con1 (D U : Nat) (w : World) (f : Addr) (vs : List Value) (Pre : Heap → Prop) (Post : Heap → Heap → Value → Prop) : Prop :=
  Con D U PySem.Challenge.rw_ia0001_01.row.prog w (hd01.heap_39 w.params) hd01.view_39 (looseW hd01.view_39 []) f vs Pre Post
abbrev Con1N (D U : Nat) (w : World) (f : Addr) (vs : List Value) (Pre : Heap → Prop) (Post : Heap → Heap → Value → Prop) : Prop :=
  ConN D U PySem.Challenge.rw_ia0001_01.row.prog w (hd01.heap_39 w.params) hd01.view_39 (looseW hd01.view_39 []) f vs Pre Post
end Mine
end
section
open PySem PySem.W PySem.Calls PyProof.Rows
set_option maxRecDepth 100000
namespace Mine

theorem foldl_filter {q : Int → Bool} {c c' : Int → Prop} [DecidablePred c] [DecidablePred c'] : ∀ (xs acc : List Int), (∀ k ∈ xs, (c k ↔ q k = true)) →
    xs.foldl (fun l k => if c k then l ++ [k] else if c' k then l else l) acc = acc ++ xs.filter q
  | [], acc, _ => by simp
  | x :: xs, acc, h => by
    rw [List.foldl_cons, foldl_filter xs _ fun k hk => h k (.tail _ hk)]
    have hx := h x (.head _)
    cases hq : q x with
    | true => rw [if_pos (hx.mpr hq), List.filter_cons, if_pos hq]; simp
    | false =>
      have : ¬ c x := fun e => by rw [hx.mp e] at hq; cases hq
      rw [if_neg this, ite_self, List.filter_cons, if_neg (by simp [hq])]
def fallsN (ks : List Int) : Nat := ((rangeKs 1 ((ks.length : Int) - 1).toNat).filter fun k => decide (ks.getD k.toNat 0 < ks.getD (k - 1).toNat 0)).length
theorem bInts_in {b : Array UInt8} {ks : List Int} (h : KBw.bInts b = ks) : ∀ k ∈ ks, 0 ≤ k ∧ k < 256 := fun k hk => KBw.ints_in (by rw [h]; exact hk)

set_option maxHeartbeats 4000000 in
theorem falls_con (w : World) (b : Array UInt8) (t : Tok) (ks : List Int) (hks : KBw.bInts b = ks) (hlen : ks.length ≤ 7) : Con1 400 1000 w 45 [.bytes b t] (fun h => True) (fun h h' v => ∃ t, v = .int (fallsN ks) t) := by
  unfold Con1
  k_fill
  refine' con_cells (by decide) ?ho ?hcd ?hb ?hk ?hn ?_ ?c1 ?c2 ?c3
  case ho => k_is
  case hcd => k_is
  case hb => exact fun s => BindsTo.of_eq rfl
  case hk => exact rfl
  case hn => decide +kernel
  case c1 => exact rfl
  case c2 => exact rfl
  case c3 => exact rfl
  intro env outer gd A base L' h' tk' cells' mean mg mb s hA F' N' Y' B' X' T' hPre
  subst hA
  k_cells Y'
  try dsimp only
  k_unmd
  try k_fold
  k_steps
  rename_i F1 N1 _
  refine ⟨_, _, rfl, F1.keep, _, congrArg (fun (n : Nat) => Value.int (n : Int) _) ?_⟩
  unfold fallsN
  have hin := bInts_in hks
  have hg : ∀ j : Nat, 0 ≤ ks.getD j 0 ∧ ks.getD j 0 < 256 := fun j => KBw.getD_in hin
  rw [foldl_filter (q := fun k => decide (ks.getD k.toNat 0 < ks.getD (k - 1).toNat 0)) _ _ fun k _ => ?_]
  · simp
  · have := hg k.toNat
    have := hg (k - 1).toNat
    simp only [decide_eq_true_eq]
    omega
end Mine
end
section
open PySem PySem.W PySem.Calls PyProof.Rows
set_option maxRecDepth 100000
namespace Mine
def waysN (a b : Int) : Int := ((rangeInts 0 1 (b - 0).toNat).foldl (fun (σ : Int × Unit) k => ((σ.1 * (a - k)).fdiv (k + 1), ())) (1, ())).1

set_option maxHeartbeats 4000000 in
theorem ways_con (w : World) (a b : Int) (ta tb : Tok) (ha : 0 ≤ a) (ha2 : a ≤ 8) (hb : 0 ≤ b) (hb2 : b ≤ 4) : Con1 400 1000 w 52 [.int a ta, .int b tb] (fun h => True) (fun h h' v => ∃ t, v = .int (waysN a b) t) := by
  unfold Con1
  k_fill
  refine' con_plain (by decide) ?ho ?hcd ?hb ?hk ?hn ?_ ?c1 ?c2 ?c3
  case ho => k_is
  case hcd => k_is
  case hb => exact fun s => BindsTo.of_eq rfl
  case hk => exact locs rfl
  case hn => decide
  case c1 => exact rfl
  case c2 => exact rfl
  case c3 => exact rfl
  intro env outer gd A base L' h' mean mg mb s hA F' B' X' T' hPre
  subst hA
  have N' : News s.heap L' h' [] := News.nil
  try dsimp only
  k_unmd
  try k_fold
  k_steps
  show Ends _ _ _ _
  exact ⟨_, _, rfl, Fr.keep (by assumption), _, rfl⟩
end Mine
end
section
open PySem PySem.W PySem.Calls PyProof.Rows
set_option maxRecDepth 100000
namespace Mine

def ordersF : Nat → List Int → List (List Int)
  | 0, ks => [ks]
  | n + 1, ks => if ks.length < 2 then [ks] else (List.range ks.length).flatMap fun k => (ordersF n (ks.take k ++ ks.drop (k + 1))).map fun rest => (ks.drop k).take 1 ++ rest
def upTo (n : Nat) (ks : List Int) (i : Nat) : List (List Int) := (List.range i).flatMap fun k => (ordersF n (ks.take k ++ ks.drop (k + 1))).map fun rest => (ks.drop k).take 1 ++ rest
theorem ordersF_len : ∀ (n : Nat) (ks r : List Int), r ∈ ordersF n ks → r.length = ks.length
  | 0, ks, r, h => by rw [ordersF, List.mem_singleton] at h; rw [h]
  | n + 1, ks, r, h => by
    unfold ordersF at h
    split at h
    · rw [List.mem_singleton.mp h]
    · obtain ⟨k, hk, hr⟩ := List.mem_flatMap.mp h
      obtain ⟨q, hq, rfl⟩ := List.mem_map.mp hr
      have := ordersF_len n _ _ hq
      have := List.mem_range.mp hk
      simp at *
      omega
theorem upTo_count (n m : Nat) (ks : List Int) (IH : ∀ l : List Int, l.length ≤ m → (ordersF n l).length ≤ (m + 1) ^ n) (h : ks.length ≤ m + 1) : ∀ i, i ≤ ks.length → (upTo n ks i).length ≤ i * (m + 1) ^ n
  | 0, _ => by simp [upTo]
  | i + 1, hi => by
    have h1 := upTo_count n m ks IH h i (by omega)
    have h2 := IH (ks.take i ++ ks.drop (i + 1)) (by simp; omega)
    unfold upTo at *
    rw [List.range_succ, List.flatMap_append, List.length_append, Nat.add_mul, Nat.one_mul]
    simp only [List.flatMap_cons, List.flatMap_nil, List.append_nil, List.length_map]
    omega
theorem ordersF_count (m : Nat) : ∀ (n : Nat) (ks : List Int), ks.length ≤ m → (ordersF n ks).length ≤ (m + 1) ^ n
  | 0, ks, _ => by simp [ordersF]
  | n + 1, ks, h => by
    unfold ordersF
    split
    · exact Nat.one_le_pow _ _ (Nat.succ_pos _)
    · have := upTo_count n m ks (fun l hl => ordersF_count m n l hl) (by omega) ks.length (Nat.le_refl _)
      unfold upTo at this
      refine Nat.le_trans this ?_
      rw [Nat.pow_succ, Nat.mul_comm]
      exact Nat.mul_le_mul_left _ (by omega)
abbrev OrdPost (n : Nat) (ks : List Int) (h h' : Heap) (v : Value) : Prop := ∃ r vs k, v = .ref r ∧ Fresh h h' r (listOf vs.toArray k) ∧ BytesAre vs (ordersF n ks)

local macro_rules | `(tactic| walk_at "call ref") => `(tactic| ((with_reducible show wpAny _ _ (call (Value.ref _) _) _ _ _); refine hold_of ?_))
local macro_rules | `(tactic| walk_at "eval ListComp") => `(tactic| (k_here; k_dflt (refine ListComp_X (F₀ := by k_asm) (by with_unfolding_all rfl) (by decide) (by rfl) (by decide) (by rfl) ?_)))
set_option maxHeartbeats 4000000 in
theorem orders_step (w : World) (n D U : Nat) (hD : D < 900) (hU : U < 900) (IH : ∀ (b : Array UInt8) (t : Tok) (ks : List Int), KBw.bInts b = ks → ks.length ≤ n → 0 < n → Con1 (D + 1) (U + 50) w 40 [.bytes b t] (fun _ => True) (OrdPost n ks))
    (b : Array UInt8) (t : Tok) (ks : List Int) (hks : KBw.bInts b = ks) (hlen : ks.length ≤ n + 1) (hn : n ≤ 4) : Con1 D U w 40 [.bytes b t] (fun _ => True) (OrdPost (n + 1) ks) := by
  unfold Con1 at *
  k_fill
  refine' con_cells (by show D < 1000; omega) ?ho ?hcd ?hb ?hk ?hn ?_ ?c1 ?c2 ?c3
  case ho => k_is
  case hcd => k_is
  case hb => exact fun s => BindsTo.of_eq rfl
  case hk => exact rfl
  case hn => decide +kernel
  case c1 => exact rfl
  case c2 => exact rfl
  case c3 => exact rfl
  intro env outer gd A base L' h' tk' cells' mean mg mb s hA F' N' Y' B' X' T' hPre
  subst hA
  k_cells Y'
  try dsimp only
  k_unmd
  try k_fold
  k_steps
  · show Ends _ _ _ _
    rename_i F1 N1 _
    refine ⟨_, _, rfl, F1.keep, _, _, _, rfl, Fresh.of N1 (.head _), ?_⟩
    have : ks.length < 2 := by omega
    rw [ordersF, if_pos this]
    exact BytesAre.one hks
  · refine' For_X s.heap ?_ ?fs
    case fs => intro _; rfl
    k_steps
    rename_i F1 N1 _
    refine range_X (n := ks.length) (fun i m news => ∃ D vs ok k, news = [(D, listOf (List.toArray vs) k), (L' + 1 + 1, ok), (L' + 1, _)] ∧ (∃ kv, ok.data = .cell kv) ∧ (m = fun y => if y = Str.ofString "found" then some (Value.ref D) else bindL _ _ _ y) ∧ BytesAre vs (upTo n ks i))
      rfl (by assumption) (small_one (by omega) (by omega) (by omega) (by omega)) (by rw [rangeSize_nat]; omega) F1 N1 ⟨_, [], _, _, rfl, ⟨_, by assumption⟩, rfl, trivial⟩ ?turn ?done (fun _ _ => rfl) PassesOwn.never
    case turn =>
      rintro i t' m₁ news₁ h₁ tk₁ I oI hi ⟨D', vs', ok', k', rfl, ⟨kv, hkv⟩, rfl, hvs⟩ hn₁ F₂ N₂
      replace hn₁ := off1_of hn₁
      simp only [LCg.Off1, and_true] at hn₁
      have ne1 := cell_ne N₂ (.tail _ (.head _)) rfl (.tail _ (.tail _ (.head _))) hkv
      have ne2 := cell_ne N₂ (.tail _ (.head _)) rfl (.tail _ (.tail _ (.tail _ (.head _)))) (by assumption)
      k_steps
      rename_i hb
      have hln : (List.take (clipAt ks.length (0 + (i : Int))) ks ++ List.take (ks.length - clipAt ks.length (0 + (i : Int) + 1)) (List.drop (clipAt ks.length (0 + (i : Int) + 1)) ks)) = ks.take i ++ ks.drop (i + 1) := by
        have c1 : clipAt ks.length (0 + (i : Int)) = i := by unfold clipAt; omega
        have c2 : clipAt ks.length (0 + (i : Int) + 1) = i + 1 := by unfold clipAt; omega
        rw [c1, c2]
        congr 1
        exact List.take_of_length_le (by simp)
      rw [hln] at hb
      refine con_call (IH _ _ _ hb (by simp; omega) (by omega)) (by assumption) (by assumption) rfl rfl rfl rfl (Nat.le_refl _) (Nat.le_of_lt (by show U + 3 < U + 50; omega)) (by assumption) (by assumption) (by assumption) trivial ?_
      rintro r h₂ tk₂ x ⟨r, us, k₂, rfl, fr, hus⟩ F₃ N₃ grow
      obtain ⟨N₄, off₄⟩ := grow _ _ fr
      simp only [LCg.Off1, and_true] at off₄
      show LCg.CompSrc _ _ _ _ _ _ _ _ _ _ _ _ _ _
      refine LCg.CompSrc.ledger rfl F₃ N₄ (.head _) ?size fun g => comp_ind (fun j ys news => news = [_, _, _, _, _] ∧ BytesAre ys (((ordersF n (ks.take i ++ ks.drop (i + 1))).take j).map fun rest => (ks.drop i).take 1 ++ rest)) us.length ?step ?fin _ _ _ _ (by simp) ⟨rfl, trivial⟩
      case size =>
        have h1 := hus.length
        have h2 : _ ≤ 6 ^ n := ordersF_count 5 n (ks.take i ++ ks.drop (i + 1)) (by simp; omega)
        have h3 : 6 ^ n ≤ 6 ^ 4 := Nat.pow_le_pow_right (by omega) hn
        rw [sizeLine_eq, List.size_toArray]
        omega
      case step =>
        rintro j ys news hj ⟨rfl, hys⟩ v I' oI' C' oC' D₂ m₂ h₃ tk₃ E₃ hv hns hm F₅ N₅ off₅ ne₅
        obtain ⟨bv, tv, kv', hkv', rfl, hbv⟩ := hus.get (by simpa using hv)
        have hl1 : kv'.length = (ks.take i ++ ks.drop (i + 1)).length := ordersF_len n _ _ (List.mem_of_getElem? hkv')
        have hl2 : kv'.length ≤ 5 := by rw [hl1]; simp; omega
        k_steps
        rename_i F₆ N₆ _ _ _ hb₆
        refine LCg.CompEnd.intro F₆ N₆ _ (fun _ hp => hp) off₅ (.inr ⟨_, .head _, rfl, _, rfl⟩) ⟨rfl, ?_⟩
        rw [List.take_add_one (l := ordersF n _), hkv', Option.toList_some, List.map_append]
        refine hys.append (BytesAre.one (hb₆.trans ?_))
        have c1 : clipAt ks.length (0 + (i : Int)) = i := by unfold clipAt; omega
        have c2 : clipAt ks.length (0 + (i : Int) + 1) = i + 1 := by unfold clipAt; omega
        rw [c1, c2]
        simp
      case fin =>
        rintro ys news ⟨rfl, hys⟩ D₂ h₃ tk₃ F₅ N₅ off₅
        have hlt := Heap.lt_size (N₅ (I, oI) (.tail _ (.tail _ (.head _)))).1
        refine add_arrays F₅ N₅ ⟨_, (N₅ _ (.tail _ (.tail _ (.tail _ (.head _))))).1, rfl, _, rfl⟩ ⟨_, (N₅ _ (.head _)).1, rfl, _, rfl⟩ (fun h₄ F₆ N₆ => ?_) ?_
        case refine_1 =>
          k_steps
          rename_i F₇ N₇
          have hfin : upTo n ks (i + 1) = upTo n ks i ++ List.map (fun rest => (ks.drop i).take 1 ++ rest) (List.take us.length (ordersF n (ks.take i ++ ks.drop (i + 1)))) := by
            unfold upTo
            rw [List.range_succ, List.flatMap_append, hus.length, List.take_of_length_le (Nat.le_refl _)]
            simp
          refine ⟨_, _, _, [(h₃.objs.size, listOf (List.toArray (vs' ++ ys)) 0), _, _], rfl, F₇, fun p hp => N₇ p ?_, ?_, _, _, _, _, rfl, ⟨_, by assumption⟩, ?_, hfin ▸ hvs.append hys⟩
          · simp only [List.mem_cons] at hp ⊢
            rcases hp with h | h | h | h | h <;> first | (cases h; done) | simp [h]
          · intro p hp
            simp only [List.mem_cons, List.not_mem_nil, or_false] at hp
            rcases hp with rfl | rfl | rfl
            · exact Nat.ne_of_gt hlt
            · exact hn₁.2.1
            · exact hn₁.2.2
          · funext y
            by_cases e : y = Str.ofString "found" <;> simp [e]
        case refine_2 =>
          have h1 := hus.length
          have h2 : _ ≤ 6 ^ n := ordersF_count 5 n (ks.take i ++ ks.drop (i + 1)) (by simp; omega)
          have h3 : 6 ^ n ≤ 6 ^ 4 := Nat.pow_le_pow_right (by omega) hn
          have h4 : _ ≤ _ * 6 ^ n := upTo_count n 5 ks (fun l hl => ordersF_count 5 n l hl) (by omega) i (by omega)
          have h5 := hys.length
          have h6 := hvs.length
          have h7 : i * 6 ^ n ≤ 5 * 6 ^ n := Nat.mul_le_mul_right _ (by omega)
          simp only [List.length_map, List.length_take] at h5
          rw [sizeLine_eq, List.size_toArray, List.size_toArray]
          omega
    case done =>
      rintro m₁ news₁ h₁ tk₁ ⟨D', vs', ok', k', rfl, ⟨kv, hkv⟩, rfl, hvs⟩ F₂ N₂
      k_steps
      show Ends _ _ _ _
      refine ⟨_, _, rfl, Fr.keep (by assumption), _, _, _, rfl, Fresh.of (by assumption) (.head _), ?_⟩
      have : ¬ ks.length < 2 := by omega
      rw [ordersF, if_neg this]
      exact hvs
theorem orders_con (w : World) : ∀ (n D U : Nat), n ≤ 4 → D + n < 900 → U + 50 * n < 900 → ∀ (b : Array UInt8) (t : Tok) (ks : List Int), KBw.bInts b = ks → ks.length ≤ n + 1 → Con1 D U w 40 [.bytes b t] (fun _ => True) (OrdPost (n + 1) ks)
  | 0, D, U, _, hD, hU, b, t, ks, hks, hl => orders_step w 0 D U (by omega) (by omega) (fun _ _ _ _ _ h0 => absurd h0 (Nat.lt_irrefl _)) b t ks hks hl (by omega)
  | n + 1, D, U, hn, hD, hU, b, t, ks, hks, hl => orders_step w (n + 1) D U (by omega) (by omega) (fun b t ks h1 h2 _ => orders_con w n (D + 1) (U + 50) (by omega) (by omega) (by omega) b t ks h1 h2) b t ks hks hl (by omega)
end Mine
end
section
open PySem PySem.W PySem.Calls PyProof.Rows
set_option maxRecDepth 100000
namespace Mine

local macro_rules | `(tactic| walk_at "call ref") => `(tactic| ((with_reducible show wpAny _ _ (call (Value.ref _) _) _ _ _); refine hold_of ?_))
local macro_rules | `(tactic| walk_at "exec For Name Call cons nil") => `(tactic| ((with_reducible show wpAny _ _ (exec (Stmt.For _ _ _ _ _) _) _ _ _); refine hold_of ?_))
local macro_rules | `(tactic| walk_at "exec For Tuple Call cons nil") => `(tactic| ((with_reducible show wpAny _ _ (exec (Stmt.For _ _ _ _ _) _) _ _ _); refine hold_of ?_))

set_option maxHeartbeats 4000000 in
theorem count_con (w : World) {K : Type} [DecidableEq K] {prog : Program} {knd : HeapKind prog w K} (d : Addr) (od : Obj) (es : Array DictEntry) (ep : Nat) (vs : List (K × Addr × Value)) (xs : List (K × Addr × Int)) (hS : (d == sysModules) = false) (DO : DObj knd od es ep vs) (SI : SameInts vs xs) :
    Con1 400 1000 w 28 [.ref d] (fun h => h.get? d = some od) (fun _ _ v => ∃ t, v = .int (xs.map (·.2.2)).sum t) := by
  unfold Con1
  k_fill
  refine' con_plain (by decide) ?ho ?hcd ?hb ?hk ?hn ?_ ?c1 ?c2 ?c3
  case ho => k_is
  case hcd => k_is
  case hb => exact fun s => BindsTo.of_eq rfl
  case hk => exact locs rfl
  case hn => decide
  case c1 => exact rfl
  case c2 => exact rfl
  case c3 => exact rfl
  intro env outer gd A base L' h' mean mg mb s hA F' B' X' T' hPre
  subst hA
  have N' : News s.heap L' h' [] := News.nil
  try dsimp only
  k_unmd
  try k_fold
  k_steps
  rename_i F1 N1
  show wpAny _ _ (exec (Stmt.For _ _ _ _ _) _) _ _ _
  refine' For_X s.heap ?_ ?fs
  case fs => intro _; rfl
  have hd1 := F1.keep _ _ hPre
  refine Call_values_X hS (DO.raw hd1) (by rfl) (by rfl) (fun Q' hq => ld F1 (by rfl) hq) ?_
  refine vals_X (fun i m news => news = [] ∧ (∃ t, m (Str.ofString "nc") = some (.int ((xs.take i).map (·.2.2)).sum t))) (by rfl) ⟨_, Heap.get?_push_size _ rfl, rfl, rfl⟩ (Heap.get?_push_of_some _ hd1) DO.exact DO.data (F1.push _) News.nil ?hold ⟨rfl, ⟨_, rfl⟩⟩ ?turn ?done PassesOwn.never
  case hold =>
    intro i m news h _ F N
    exact F.keep _ _ hPre
  case turn =>
    rintro i en m₁ news₁ h₁ tk₁ I oI hen ⟨rfl, ⟨t, hm⟩⟩ _ F₂ N₂
    rw [DO.get] at hen
    obtain ⟨v, hv, rfl⟩ := Option.map_eq_some_iff.mp hen
    obtain ⟨x, tx, hx, rfl⟩ := SI.get hv
    rw [m_put hm] at F₂
    dsimp only [entryOfKey]
    k_steps
    rename_i F3 N3
    have e : ((xs.take (i + 1)).map (·.2.2)).sum = ((xs.take i).map (·.2.2)).sum + x.2.2 := by simp [List.take_add_one, hx]
    refine ⟨_, _, _, [], rfl, F3, N3, (fun _ h => nomatch h), rfl, ?_⟩
    rw [e]
    exact ⟨_, rfl⟩
  case done =>
    rintro m₁ news₁ h₁ tk₁ ⟨rfl, ⟨t, hm⟩⟩ F₂ N₂
    rw [m_put hm] at F₂
    k_steps
    show Ends _ _ _ _
    refine ⟨_, _, rfl, Fr.keep (by assumption), t, ?_⟩
    rw [DO.size, SI.length, List.take_length]
end Mine
end
section
open PySem PySem.W PySem.Calls PyProof.Rows
set_option maxRecDepth 100000
namespace Mine

local macro_rules | `(tactic| walk_at "call ref") => `(tactic| ((with_reducible show wpAny _ _ (call (Value.ref _) _) _ _ _); refine hold_of ?_))
local macro_rules | `(tactic| walk_at "exec For Name Call cons nil") => `(tactic| ((with_reducible show wpAny _ _ (exec (Stmt.For _ _ _ _ _) _) _ _ _); refine hold_of ?_))
local macro_rules | `(tactic| walk_at "exec For Tuple Call cons nil") => `(tactic| ((with_reducible show wpAny _ _ (exec (Stmt.For _ _ _ _ _) _) _ _ _); refine hold_of ?_))
local macro_rules | `(tactic| walk_at "setItem ref") => `(tactic| ((with_reducible show wpAny _ _ (setItem (Value.ref _) (Value.ref _) _) _ _ _); refine hold_of ?_))
local macro_rules | `(tactic| walk_at "getItem ref") => `(tactic| ((with_reducible show wpAny _ _ (getItem (Value.ref _) (Value.ref _)) _ _ _); refine hold_of ?_))
local macro_rules | `(tactic| walk_at "compareOp In ref ref") => `(tactic| ((with_reducible show wpAny _ _ (compareOp CmpOp.In (Value.ref _) (Value.ref _)) _ _ _); refine hold_of ?_))
local macro_rules | `(tactic| walk_at "exec AugAssign Subscript") => `(tactic| (refine wpAny_AugAssign_Subscript ?_))

set_option maxHeartbeats 4000000 in
theorem add_con (w : World) {K : Type} [DecidableEq K] {knd : HeapKind PySem.Challenge.rw_ia0001_01.row.prog w K} (hroom : ∀ A : Around, A.units ≤ 1050 → knd.room A) (hext : ∀ {h h' : Heap} {k : K} {a : Addr}, knd.is h k a → Ext h h' → knd.is h' k a)
    (d e : Addr) (od oe : Obj) (es ee : Array DictEntry) (ep eq : Nat) (vs us : List (K × Addr × Value)) (xs ys : List (K × Addr × Int)) (hSd : (d == sysModules) = false) (hSe : (e == sysModules) = false)
    (DO : DObj knd od es ep vs) (EO : DObj knd oe ee eq us) (SI : SameInts vs xs) (SJ : SameInts us ys) (hsz : xs.length + ys.length ≤ 1000) :
    Con1 400 1000 w 21 [.ref d, .ref e] (fun h => h.get? d = some od ∧ h.get? e = some oe ∧ (∀ x ∈ vs, knd.is h x.1 x.2.1) ∧ (∀ x ∈ us, knd.is h x.1 x.2.1))
      (fun h h' v => ∃ r o fs fp ws, v = .ref r ∧ (r == sysModules) = false ∧ Fresh h h' r o ∧ DObj knd o fs fp ws ∧ SameInts ws (addI xs ys)) := by
  unfold Con1
  k_fill
  refine' con_plain (by decide) ?ho ?hcd ?hb ?hk ?hn ?_ ?c1 ?c2 ?c3
  case ho => k_is
  case hcd => k_is
  case hb => exact fun s => BindsTo.of_eq rfl
  case hk => exact locs rfl
  case hn => decide
  case c1 => exact rfl
  case c2 => exact rfl
  case c3 => exact rfl
  intro env outer gd A base L' h' mean mg mb s hA F' B' X' T' hPre
  subst hA
  have N' : News s.heap L' h' [] := News.nil
  try dsimp only
  k_unmd
  try k_fold
  obtain ⟨hP1, hP2, hP3, hP4⟩ := hPre
  k_steps
  rename_i F1 N1
  rename Obj.IsDictOf (intKind _ _) _ _ => hiD
  obtain ⟨es₀, ep₀, D0⟩ := dobj_new (knd := knd) hiD
  show wpAny _ _ (exec (Stmt.For _ _ _ _ _) _) _ _ _
  refine' For_X s.heap ?_ ?fs
  case fs => intro _; rfl
  have hd1 := F1.keep _ _ hP1
  refine Call_items_X hSd (DO.raw hd1) (by rfl) (by rfl) (fun Q' hq => ld F1 (by rfl) hq) ?_
  refine items_X (fun i m news => ∃ D o fs fp, news = [(D, o)] ∧ (D == sysModules) = false ∧ m (Str.ofString "new_callers") = some (.ref D) ∧ m (Str.ofString "target") = some (.ref d) ∧ m (Str.ofString "source") = some (.ref e) ∧ DObj knd o fs fp (vs.take i))
    (by rfl) ⟨_, Heap.get?_push_size _ rfl, rfl, rfl⟩ (Heap.get?_push_of_some _ hd1) DO.exact DO.data (F1.push _) (fun p hp => ⟨Heap.get?_push_of_some _ (N1 p hp).1, (N1 p hp).2⟩) (by rfl) (by rfl) (by rfl) ?hold ⟨_, _, _, _, rfl, by assumption, rfl, rfl, rfl, D0⟩ ?turn ?done PassesOwn.never
  case hold =>
    intro i m news h _ F N
    exact F.keep _ _ hP1
  case turn =>
    rintro i en m₁ news₁ h₁ tk₁ I oI hen ⟨D, o, fs, fp, rfl, hD, h1, h2, h3, DO'⟩ hn F₂ N₂
    have hne : D ≠ I := hn _ (.head _)
    rw [DO.get] at hen
    obtain ⟨v, hv, rfl⟩ := Option.map_eq_some_iff.mp hen
    rw [m_put h1, m_put h2, m_put h3] at F₂
    dsimp only [entryOfKey] at F₂
    have hk : ∀ x ∈ vs, knd.is h₁ x.1 x.2.1 := fun x hx => hext (hP3 x hx) F₂.keep
    have hlt : i < vs.length := (List.getElem?_eq_some_iff.mp hv).1
    k_steps
    refine set_X (by assumption) (by assumption) hne (hroom _ (Nat.le_of_ble_eq_true rfl)) (hk v (List.mem_of_getElem? hv)) DO' (fun x hx => hk x (List.mem_of_mem_take hx)) (by have := SI.length; rw [sizeLine_eq, List.length_take]; omega) fun h' o' es' ep' F3 N3 DO3 => ?_
    k_steps
    rw [storedH_new (atKey_take DO.nodup hv)] at DO3
    have e3 : vs.take (i + 1) = vs.take i ++ [(v.1, v.2.1, v.2.2)] := by rw [List.take_add_one, hv]; rfl
    exact ⟨_, _, _, [(D, o')], rfl, by assumption, by assumption, (fun p hp => by rw [List.mem_singleton.mp hp]; exact hne), _, _, _, _, rfl, hD, rfl, rfl, rfl, e3 ▸ DO3⟩
  case done =>
    rintro m₁ news₁ h₁ tk₁ ⟨D, o, fs, fp, rfl, hD, h1, h2, h3, DO'⟩ F₂ N₂
    rw [m_put h1, m_put h2, m_put h3] at F₂
    rw [DO.size, List.take_length] at DO'
    k_steps
    show wpAny _ _ (exec (Stmt.For _ _ _ _ _) _) _ _ _
    refine' For_X s.heap ?_ ?fs
    case fs => intro _; rfl
    have hd2 := F₂.keep _ _ hP2
    refine Call_items_X hSe (EO.raw hd2) (by rfl) (by rfl) (fun Q' hq => ld F₂ (by rfl) hq) ?_
    refine items_X (fun i m news => ∃ D o fs fp ws, news = [(D, o)] ∧ (D == sysModules) = false ∧ m (Str.ofString "new_callers") = some (.ref D) ∧ DObj knd o fs fp ws ∧ SameInts ws (addI xs (ys.take i)) ∧ (∀ x ∈ ws, knd.is s.heap x.1 x.2.1) ∧ ws.length ≤ xs.length + i)
      (by rfl) ⟨_, Heap.get?_push_size _ rfl, rfl, rfl⟩ (Heap.get?_push_of_some _ hd2) EO.exact EO.data (F₂.push _) (fun p hp => ⟨Heap.get?_push_of_some _ (N₂ p hp).1, (N₂ p hp).2⟩) (by rfl) (by rfl) (by rfl) ?hold ⟨_, _, _, _, _, rfl, hD, rfl, DO', SI, hP3, by rw [SI.length]; exact Nat.le_refl _⟩ ?turn ?done PassesOwn.never
    case hold =>
      intro i m news h _ F N
      exact F.keep _ _ hP2
    case turn =>
      rintro i en m₁ news₁ h₁ tk₁ I oI hen ⟨D, o, fs, fp, ws, rfl, hD, h1, DO', SI', hks, hlen⟩ hn F₂ N₂
      have hne : D ≠ I := hn _ (.head _)
      rw [EO.get] at hen
      obtain ⟨v, hv, rfl⟩ := Option.map_eq_some_iff.mp hen
      obtain ⟨y, ty, hy, rfl⟩ := SJ.get hv
      rw [m_put h1] at F₂
      dsimp only [entryOfKey] at F₂
      have hk : ∀ x ∈ ws, knd.is h₁ x.1 x.2.1 := fun x hx => hext (hks x hx) F₂.keep
      have hky : knd.is h₁ y.1 y.2.1 := hext (hP4 _ (List.mem_of_getElem? hv)) F₂.keep
      have hDo := (N₂ (D, o) (.tail _ (.head _))).1
      have hlt : i < us.length := (List.getElem?_eq_some_iff.mp hv).1
      have hl1 := SI.length
      have hl2 := SJ.length
      have e4 : addI xs (ys.take (i + 1)) = putI (addI xs (ys.take i)) y := by unfold addI; rw [List.take_add_one, hy, List.foldl_append]; rfl
      have hany := atKey_any SI' y.1
      k_steps
      show wpAny _ _ (compareOp _ _ _) _ _ _
      refine wpAny_in_heap (hroom _ (Nat.le_of_ble_eq_true rfl)) hky hD (DO'.at hDo hk) ?_
      cases hat : atKey ws y.1 with
      | none =>
        rw [hat] at hany
        simp only [Option.isSome_none] at hany ⊢
        k_steps
        refine set_X (by assumption) (by assumption) hne (hroom _ (Nat.le_of_ble_eq_true rfl)) hky DO' hk (by rw [sizeLine_eq]; omega) fun h' o' es' ep' F3 N3 DO3 => ?_
        k_steps
        rw [storedH_new hat] at DO3
        have e5 : putI (addI xs (ys.take i)) y = addI xs (ys.take i) ++ [y] := by unfold putI; rw [← hany]; rfl
        refine ⟨_, _, _, [(D, o')], rfl, by assumption, by assumption, (fun p hp => by rw [List.mem_singleton.mp hp]; exact hne), _, _, _, _, _, rfl, hD, rfl, DO3, ?_, ?_, ?_⟩
        · rw [e4, e5]
          exact SI'.append ⟨⟨rfl, rfl, _, rfl⟩, trivial⟩
        · intro x hx
          rcases List.mem_append.mp hx with hx | hx
          · exact hks x hx
          · rw [List.mem_singleton.mp hx]
            exact hP4 _ (List.mem_of_getElem? hv)
        · rw [List.length_append, List.length_singleton]; omega
      | some p =>
        rw [hat] at hany
        simp only [Option.isSome_some] at hany ⊢
        obtain ⟨j, hj⟩ := atKey_some hat
        obtain ⟨x, t, hx, hjx⟩ := SI'.get hj
        obtain ⟨hxy, hp⟩ := Prod.mk.inj hjx
        subst hp
        k_steps
        show wpAny _ _ (getItem _ _) _ _ _
        refine wpAny_getItem_heap (hroom _ (Nat.le_of_ble_eq_true rfl)) hky (DO'.at hDo hk) hat ?_
        k_steps
        refine set_X (by assumption) (by assumption) hne (hroom _ (Nat.le_of_ble_eq_true rfl)) hky DO' hk (by rw [sizeLine_eq]; omega) fun h' o' es' ep' F3 N3 DO3 => ?_
        k_steps
        rw [storedH_old hat] at DO3
        have e5 : putI (addI xs (ys.take i)) y = (addI xs (ys.take i)).map (fun x => if x.1 = y.1 then (x.1, x.2.1, x.2.2 + y.2.2) else x) := by unfold putI; rw [← hany]; rfl
        refine ⟨_, _, _, [(D, o')], rfl, by assumption, by assumption, (fun p hp => by rw [List.mem_singleton.mp hp]; exact hne), _, _, _, _, _, rfl, hD, rfl, DO3, ?_, putAt_key hks, ?_⟩
        · rw [e4, e5]
          exact same_putAt SI' DO'.nodup hx hxy.symm
        · rw [List.length_map]; omega
    case done =>
      rintro m₁ news₁ h₁ tk₁ ⟨D, o, fs, fp, ws, rfl, hD, h1, DO', SI', hks, hlen⟩ F₂ N₂
      rw [m_put h1] at F₂
      k_steps
      show Ends _ _ _ _
      refine ⟨_, _, rfl, Fr.keep (by assumption), _, _, _, _, _, rfl, hD, Fresh.of (by assumption) (.head _), DO', ?_⟩
      rw [EO.size, SJ.length, List.take_length] at SI'
      exact SI'
end Mine
end
section
open PySem PySem.W PySem.Calls PyProof.Rows
set_option maxRecDepth 100000
namespace Mine

local macro_rules | `(tactic| walk_at "call ref") => `(tactic| ((with_reducible show wpAny _ _ (call (Value.ref _) _) _ _ _); refine hold_of ?_))
local macro_rules | `(tactic| walk_at "exec For Name Call cons nil") => `(tactic| ((with_reducible show wpAny _ _ (exec (Stmt.For _ _ _ _ _) _) _ _ _); refine hold_of ?_))
local macro_rules | `(tactic| walk_at "exec For Tuple Call cons nil") => `(tactic| ((with_reducible show wpAny _ _ (exec (Stmt.For _ _ _ _ _) _) _ _ _); refine hold_of ?_))

set_option maxHeartbeats 4000000 in
theorem swap_con (w : World) (b : Array UInt8) (t tn : Tok) (ks : List Int) (hks : KBw.bInts b = ks) (h0 : 0 < ks.length) (hlen : ks.length ≤ 7) : Con1N 400 1000 w 35 [.bytes b t, .int ks.length tn] (fun _ => True) (fun _ _ v => ∃ c t, v = .bytes c t ∧ KBw.bInts c = ks.reverse) := by
  unfold Con1N
  k_fill
  refine' con_plainN (by decide) ?ho ?hcd ?hb ?hk ?hn ?_ ?c1 ?c2 ?c3
  case ho => k_is
  case hcd => k_is
  case hb => exact fun s => BindsTo.of_eq rfl
  case hk => exact locs rfl
  case hn => decide
  case c1 => exact rfl
  case c2 => exact rfl
  case c3 => exact rfl
  intro env outer gd A base L' h' mean mg mb s hA F' B' X' T' hPre
  subst hA
  have N' : News s.heap L' h' [] := News.nil
  try dsimp only
  k_unmd
  try k_fold
  refine wpN_execs_cons (wpN_Assign_Name ?_ ?_)
  case refine_2 => rfl
  refine wpN_Call_ofName ?_
  k_steps
  refine callWithN_type1 ?_
  k_steps
  rename Fr _ _ _ _ => F1
  rename News _ _ _ _ => N1
  refine call_bytearray_N h0 (by omega) fun h₂ e1 e2 => ?_
  have F2 := F1.keeps e2
  have N2 := Fresh.news F1 N1 e2 ⟨fresh_none _, e1⟩
  clear F1 N1
  k_steps
  refine wpN_any ?_
  k_steps
  show wpAny _ _ (exec (Stmt.For _ _ _ _ _) _) _ _ _
  refine' For_X s.heap ?_ ?fs
  case fs => intro _; rfl
  k_steps
  rename_i G1 F3 N3 _
  generalize h'.objs.size = R at *
  have hsm : Builtin.Range.small 0 (ks.length : Int) (ks.length : Int) = true ∧ Builtin.Range.rangeSize 0 (ks.length : Int) (ks.length : Int) = ((1 : Nat) : Int) := by
    have : ks.length = 1 ∨ ks.length = 2 ∨ ks.length = 3 ∨ ks.length = 4 ∨ ks.length = 5 ∨ ks.length = 6 ∨ ks.length = 7 := by omega
    rcases this with e | e | e | e | e | e | e <;> rw [e] <;> decide
  refine range_Xc (n := 1) (fun i m news => ∃ c, news = [(R, baObj c)] ∧ m (Str.ofString "swapped_data") = some (.ref R) ∧ m (Str.ofString "data") = some (.bytes b t) ∧ m (Str.ofString "width") = some (.int ks.length tn) ∧
      KBw.bInts c = if i = 0 then List.replicate ks.length 0 else ks.reverse)
    rfl (by assumption) hsm.1 hsm.2 F3 N3 ⟨_, rfl, rfl, rfl, rfl, bInts_zero _⟩ ?turn ?done (fun _ _ => rfl) PassesOwn.never
  case turn =>
    rintro i t' m₁ news₁ h₁ tk₁ I oI hi ⟨c, rfl, hm1, hm2, hm3, hc⟩ hn₁ F₂ N₂
    obtain rfl : i = 0 := by omega
    rw [if_pos rfl] at hc
    rw [m_put hm1, m_put hm2, m_put hm3] at F₂
    k_steps
    show wpAny _ _ (exec (Stmt.For _ _ _ _ _) _) _ _ _
    refine' For_X s.heap ?_ ?fs
    case fs => intro _; rfl
    k_steps
    rename_i G4 F4 N4 _
    refine range_X (n := ks.length) (fun j m news => ∃ c, news = [(I, oI), (R, baObj c)] ∧ m (Str.ofString "swapped_data") = some (.ref R) ∧ m (Str.ofString "data") = some (.bytes b t) ∧ m (Str.ofString "width") = some (.int ks.length tn) ∧ m (Str.ofString "i") = some (.int 0 t') ∧
      KBw.bInts c = List.replicate (ks.length - j) 0 ++ (ks.take j).reverse)
      rfl (by assumption) (small_one (by omega) (by omega) (by omega) (by omega)) (by rw [rangeSize_nat]; omega) F4 N4 ⟨_, rfl, rfl, rfl, rfl, by simp, by simpa using hc⟩ ?turn2 ?done2 (fun _ _ => rfl) PassesOwn.never
    case turn2 =>
      rintro j t₂ m₂ news₂ h₂ tk₂ I₂ oI₂ hj ⟨c₂, rfl, hm1', hm2', hm3', hm4', hc₂⟩ hn₂ F₅ N₅
      rw [m_put hm1', m_put hm2', m_put hm3', m_put hm4'] at F₅
      k_steps
      rename _ < (256 : Int) => kHi
      rename (0 : Int) ≤ _ => kLo
      rename Fr _ _ _ _ => F₆
      rename News _ _ _ _ => N₆
      have hR6 : (R, baObj c₂) ∈ [(I₂, oI₂), (I, oI), (R, baObj c₂)] := .tail _ (.tail _ (.head _))
      have hsz : c₂.size = ks.length := by rw [← KBw.ints_length, hc₂]; simp; omega
      refine wpAny_setItem_ba (N₆ _ hR6).1 (by omega) (by rw [hsz]; omega) (by omega) kLo kHi fun h₇ g1 g2 => ?_
      have F₇ := fr_put F₆ N₆ hR6 g2
      have N₇ := news_put N₆ hR6 g1 g2 (news' := [(I₂, oI₂), (I, oI), (R, baObj (c₂.setIfInBounds _ _))]) (by
        intro p hp
        rcases List.mem_cons.mp hp with rfl | hp
        · exact .inr ⟨.head _, fun e => hn₂ (R, baObj c₂) (.tail _ (.head _)) e.symm⟩
        rcases List.mem_cons.mp hp with rfl | hp
        · exact .inr ⟨.tail _ (.head _), fun e => hn₁ (R, baObj c) (.head _) e.symm⟩
        exact .inl (List.mem_singleton.mp hp))
      have hb7 := bInts_set (c := c₂) (k := (0 + (ks.length : Int) - 1 - (0 + (j : Int))).toNat) kLo kHi
      rw [hc₂, show (0 + (ks.length : Int) - 1 - (0 + (j : Int))).toNat = ks.length - 1 - j by omega, show (0 + (0 + (j : Int))).toNat = j by omega, rev_set hj] at hb7
      rw [show (0 + (ks.length : Int) - 1 - (0 + (j : Int))).toNat = ks.length - 1 - j by omega, show (0 + (0 + (j : Int))).toNat = j by omega] at N₇
      clear F₆ N₆ g1
      k_steps
      rename Fr _ _ _ _ => F₈
      rename News _ _ _ _ => N₈
      refine ⟨_, _, _, [(I, oI), _], rfl, F₈, N₈, ?_, _, rfl, rfl, rfl, rfl, rfl, hb7⟩
      intro p hp
      rcases List.mem_cons.mp hp with rfl | hp
      · exact hn₂ (I, oI) (.head _)
      · rw [List.mem_singleton.mp hp]
        exact hn₂ (R, baObj c₂) (.tail _ (.head _))
    case done2 =>
      rintro m₂ news₂ h₂ tk₂ ⟨c₂, rfl, hm1', hm2', hm3', hm4', hc₂⟩ F₅ N₅
      rw [m_put hm1', m_put hm2', m_put hm3', m_put hm4'] at F₅
      k_steps
      rename Fr _ _ _ _ => F₈
      rename News _ _ _ _ => N₈
      refine ⟨_, _, _, [(R, _)], rfl, F₈, N₈, (fun p hp => by rw [List.mem_singleton.mp hp]; exact hn₁ (R, baObj c) (.head _)), _, rfl, rfl, rfl, rfl, ?_⟩
      rw [hc₂]
      simp
  case done =>
    rintro m₁ news₁ h₁ tk₁ ⟨c, rfl, hm1, hm2, hm3, hc⟩ F₂ N₂
    rw [m_put hm1, m_put hm2, m_put hm3] at F₂
    k_steps
    rename Fr _ _ _ _ => F₈
    rename News _ _ _ _ => N₈
    rw [if_neg (by decide)] at hc
    refine call_bytes_ba (N₈ (R, baObj c) (.head _)).1 (by rw [← KBw.ints_length, hc]; simp; omega) fun t k => ?_
    exact ⟨_, _, rfl, F₈.keep, _, _, rfl, hc⟩
end Mine
end
section
open PySem PySem.W PySem.Calls PyProof.Rows
set_option maxRecDepth 100000
namespace Mine

theorem add_cnt {w : World} {K : Type} [DecidableEq K] {knd : HeapKind PySem.Challenge.rw_ia0001_01.row.prog w K} (hroom : ∀ A : Around, A.units ≤ 1050 → knd.room A) (hext : ∀ {h h' : Heap} {k : K} {a : Addr}, knd.is h k a → Ext h h' → knd.is h' k a)
    {A : Around} {env : Env} {outer : List Env} {A₀ : Around} {base h₀ : Heap} {L : Addr} {m : Str → Option Value} {mean : ExcName → Option Value} {mg mb : Str → Option Value} {s : Shared} {Q E : Value → Shared → Prop} {news tl t1 t2 : List (Addr × Obj)}
    {d e : Addr} {od oe : Obj} {kv : List (K × Int)} {k : K}
    (C : CntD knd t1 d od kv) (D : CntD knd t2 e oe [(k, 1)]) (hkv : kv.length ≤ 900) (hd : (d, od) ∈ news) (he : (e, oe) ∈ news) (h1 : ∀ p ∈ t1, p ∈ tl) (h2 : ∀ p ∈ t2, p ∈ tl) (h3 : ∀ p ∈ tl, p ∈ news)
    (F : Fr h₀ L s.heap m) (N : News h₀ L s.heap news) (e1 : A.frames = some (env :: outer)) (e2 : env.frame = some L) (e3 : env.scope.kind = .function) (e4 : A.handled = none) (e5 : A.depth ≤ 400) (e6 : A.units ≤ 1000)
    (B : Below A₀ base outer h₀) (X : (hd01.heap_39 w.params).In h₀) (T : Top hd01.view_39 (looseW hd01.view_39 []) mean mg mb h₀)
    (ret : ∀ r h' tk' o, Fr h₀ L h' m → News h₀ L h' ((r, o) :: news) → LCg.Off1 r news → CntD knd tl r o (addKV kv k) → Q (.ref r) { s with heap := h', toks := tk' }) :
    Hold (wpAny (model PySem.Challenge.rw_ia0001_01.row.prog w) A (call (.ref 21) [.ref d, .ref e]) Q E s) := by
  obtain ⟨a1, es, ep, vs, xs, DO, SI, rfl, ka⟩ := C.mono h1
  obtain ⟨a2, es', ep', us, ys, EO, SJ, hy, kb⟩ := D.mono h2
  obtain ⟨a, rfl⟩ : ∃ a, ys = [(k, a, 1)] := by
    match ys, hy with
    | [y], hy =>
      obtain ⟨y1, y2, y3⟩ := y
      simp only [KV, List.map_cons, List.map_nil, List.cons.injEq, Prod.mk.injEq, and_true] at hy
      exact ⟨y2, by rw [hy.1, hy.2]⟩
    | [], hy => simp [KV] at hy
    | _ :: _ :: _, hy => simp [KV] at hy
  refine con_call (add_con w hroom hext d e od oe es es' ep ep' vs us xs [(k, a, 1)] a1 a2 DO EO SI SJ ?_) F N e1 e2 e3 e4 e5 e6 B X T ⟨(N _ hd).1, (N _ he).1, fun x hx => (ka x hx).here N h3, fun x hx => (kb x hx).here N h3⟩ ?_
  · simp only [KV, List.length_map] at hkv
    simp only [List.length_singleton]
    omega
  · rintro v h' tk' x ⟨r, o, fs, fp, ws, rfl, hr, fr, WO, SW⟩ F' N' grow
    obtain ⟨N₂, off⟩ := grow _ _ fr
    refine ret r h' tk' o F' N₂ off ⟨hr, fs, fp, ws, _, WO, SW, kv_add _ _ _, ?_⟩
    exact same_pair' SW (addI_pair (same_pair SI ka) (same_pair SJ kb))
end Mine
end
section
open PySem PySem.W PySem.Calls PyProof.Rows
set_option maxRecDepth 100000
namespace Mine
def lookKV {K : Type} [DecidableEq K] (kv : List (K × Int)) (k : K) : Int := ((kv.find? fun x => decide (x.1 = k)).map (·.2)).getD 0
theorem look_same {K : Type} [DecidableEq K] {k : K} {t₀ : Tok} : ∀ {vs : List (K × Addr × Value)} {xs : List (K × Addr × Int)}, SameInts vs xs → ∃ t, ((atKey vs k).map (·.2)).getD (.int 0 t₀) = .int (lookKV (KV xs) k) t
  | [], [], _ => ⟨t₀, rfl⟩
  | v :: vs, x :: xs, h => by
    obtain ⟨t, ih⟩ := look_same (k := k) (t₀ := t₀) h.2
    obtain ⟨h1, _, t', h3⟩ := h.1
    by_cases e : x.1 = k
    · exact ⟨t', by simp [atKey, lookKV, KV, h1, e, h3]⟩
    · refine ⟨t, ?_⟩
      simpa [atKey, lookKV, KV, h1, e] using ih
  | [], _ :: _, h => h.elim
  | _ :: _, [], h => h.elim
section
variable {prog : Program} {w : World} {K : Type} [DecidableEq K] {knd : HeapKind prog w K} {A : Around} {E : Value → Shared → Prop} {s : Shared} {env : Env}
def GetFin (knd : HeapKind prog w K) (d : Addr) (Q : Value → Shared → Prop) (key dflt : Value) (s : Shared) : Prop :=
  ∃ a k xs, key = .ref a ∧ knd.is s.heap k a ∧ s.heap.DictOfH knd d xs ∧ Q (((atKey xs k).map (·.2)).getD dflt) { s with toks := s.toks + knd.draws k }
theorem Call_get2_X {o e f : Expr} {apos pos : Pos} {d : Addr} {Q : Value → Shared → Prop} (hu : knd.room A.in1) (hdS : (d == sysModules) = false)
    (h : wpAny (model prog w) A (eval o env) (fun ov s₁ => Hold (ov = .ref d ∧ (∃ es ep, Raw s₁.heap d es ep) ∧ wpAny (model prog w) A (eval e env) (fun key s₂ => wpAny (model prog w) A (eval f env) (fun dflt s₃ => Hold (GetFin knd d Q key dflt s₃)) E s₂) E s₁)) E s)
    (hbase : attributeBase o "get" env (eval o env) = eval o env) (hline : (apos.endLine == pos.line) = true) (htrees : backTo pos (starEach [e, f] env) = [(false, eval e env), (false, eval f env)]) :
    wpAny (model prog w) A (eval (.Call (.Attribute o "get" apos) [e, f] [] pos) env) Q E s := by
  refine wpAny_Call_method (T := "dict") (id := "dict.get") hbase (by rw [htrees]; rfl) hline F.plainAttrs_dict F.slot_dict_get F.type_dict_get (wpAny_mono h (fun ov s₁ h₁ => ?_) fun _ _ e => e)
  obtain ⟨rfl, ⟨es, ep, hm⟩, h₁⟩ := h₁
  refine ⟨hm.typeIs, hm.noDict, ?_⟩
  rw [htrees]
  exact wpAny_dict_get2_heap hu hdS h₁
/-- the count at a key -/
theorem cnt_getfin {h₀ : Heap} {L : Addr} {news tl t1 : List (Addr × Obj)} {d T : Addr} {o : Obj} {kv : List (K × Int)} {k : K} {t₀ : Tok} {Q : Value → Shared → Prop}
    (C : CntD knd t1 d o kv) (N : News h₀ L s.heap news) (hd : (d, o) ∈ news) (h1 : ∀ p ∈ t1, p ∈ news) (hkey : KeyIn knd tl k T) (h2 : ∀ p ∈ tl, p ∈ news)
    (h : ∀ t, Q (.int (lookKV kv k) t) { s with toks := s.toks + knd.draws k }) : GetFin knd d Q (.ref T) (.int 0 t₀) s := by
  obtain ⟨a1, es, ep, vs, xs, DO, SI, rfl, ka⟩ := C
  refine ⟨T, k, vs, rfl, hkey.here N h2, DO.at (N _ hd).1 fun x hx => (ka x hx).here N h1, ?_⟩
  obtain ⟨t, e⟩ := look_same (k := k) (t₀ := t₀) SI
  rw [e]
  exact h t
theorem cnt_raw {h₀ : Heap} {L : Addr} {news t1 : List (Addr × Obj)} {d : Addr} {o : Obj} {kv : List (K × Int)} (C : CntD knd t1 d o kv) (N : News h₀ L s.heap news) (hd : (d, o) ∈ news) : ∃ es ep, Raw s.heap d es ep := by
  obtain ⟨a1, es, ep, vs, xs, DO, SI, rfl, ka⟩ := C
  exact ⟨es, ep, DO.raw (N _ hd).1⟩
theorem cnt_sys {t1 : List (Addr × Obj)} {d : Addr} {o : Obj} {kv : List (K × Int)} (C : CntD knd t1 d o kv) : (d == sysModules) = false := C.1
end
end Mine
end
section
open PySem PySem.W PySem.Calls PyProof.Rows
set_option maxRecDepth 100000
namespace Mine
theorem cut_at : ∀ (us : List Value) (k : Nat) (y : Value), us[k]? = some y → kl_cut us k = some (us.take k, y, us.drop (k + 1))
  | [], _, _, h => by simp at h
  | x :: r, 0, y, h => by simp at h; subst h; rfl
  | x :: r, k + 1, y, h => by
    have := cut_at r k y (by simpa using h)
    simp [kl_cut, this]
theorem ints_erase {us : List Value} {l : List Int} (h : IntsAre us l) (k : Nat) : IntsAre (us.eraseIdx k) (l.eraseIdx k) := by
  rw [List.eraseIdx_eq_take_drop_succ, List.eraseIdx_eq_take_drop_succ]
  exact (h.take k).append (h.drop (k + 1))
section
variable {prog : Program} {w : World} {A : Around} {E : Value → Shared → Prop} {s : Shared} {h₀ : Heap} {L D : Addr} {m : Str → Option Value} {news news' : List (Addr × Obj)} {n : Nat}
theorem popAt_ints {us : List Value} {l : List Int} {i : Int} {u : Tok} {Q : Value → Shared → Prop} (F : Fr h₀ L s.heap m) (N : News h₀ L s.heap news) (hi : IntsAre us l) (h0 : 0 ≤ i) (h1 : i < us.length) (hz : us.length ≤ 1000)
    (U : Upd D (listOf us.toArray n) (listOf (us.eraseIdx i.toNat).toArray (n + 1)) news news')
    (h : ∀ h' t, Fr h₀ L h' m → News h₀ L h' news' → IntsAre (us.eraseIdx i.toNat) (l.eraseIdx i.toNat) → Q (.int (l.getD i.toNat 0) t) { s with heap := h' }) :
    wpAny (model prog w) A (call (.builtin "list.pop") [.ref D, .int i u]) Q E s := by
  have hlt : i.toNat < us.length := by omega
  have hg : us[i.toNat]? = some us[i.toNat] := List.getElem?_eq_getElem hlt
  obtain ⟨k, t, e1, e2⟩ := hi.at _ _ hg
  have e3 : l.getD i.toNat 0 = k := by rw [List.getD_eq_getElem?_getD, e2]; rfl
  have e4 : us.eraseIdx i.toNat = us.take i.toNat ++ us.drop (i.toNat + 1) := List.eraseIdx_eq_take_drop_succ _ _
  rw [e4] at U
  refine kl_popAt F N ?_ ?_ (cut_at us i.toNat _ hg) U (by show us.length ≤ sizeLine; rw [sizeLine_eq]; omega) fun h' F' N' => ?_
  · unfold Builtin.List.listFitsIndex
    simp
    omega
  · unfold seqIndex?
    have : ¬ i < 0 := by omega
    simp [this]
    omega
  · rw [e1, ← e3]
    exact h h' t F' N' (ints_erase hi _)
end
end Mine
end
section
open PySem PySem.W PySem.Calls PyProof.Rows
namespace Mine
theorem bInts_inj {a b : Array UInt8} (h : KBw.bInts a = KBw.bInts b) : a = b := by
  unfold KBw.bInts at h
  apply Array.toList_inj.mp
  refine List.map_inj_right (f := fun (u : UInt8) => ((u.toNat : Nat) : Int)) ?_ |>.mp h
  intro x y e
  exact UInt8.toNat_inj.mp (Int.ofNat.inj e)
theorem rangeKs_map (n : Nat) (a : Int) : rangeKs a n = (List.range n).map fun (j : Nat) => a + (j : Int) := rfl
theorem fallsN_count (ks : List Int) : fallsN ks = (List.range (ks.length - 1)).countP fun j => decide (ks.getD (j + 1) 0 < ks.getD j 0) := by
  unfold fallsN
  rw [rangeKs_map, List.filter_map, List.length_map, ← List.countP_eq_length_filter, show ((ks.length : Int) - 1).toNat = ks.length - 1 by omega]
  refine List.countP_congr fun j _ => ?_
  simp only [Function.comp_def]
  rw [show (1 + (j : Int)).toNat = j + 1 by omega, show (1 + (j : Int) - 1).toNat = j by omega]
theorem range_rev (m : Nat) : (List.range m).reverse = (List.range m).map fun j => m - 1 - j := by
  refine List.ext_getElem (by simp) fun i h1 h2 => ?_
  simp
theorem falls_turned {ds : List Int} (hn : ds.Nodup) (h0 : 0 < ds.length) : (fallsN ds.reverse : Int) = (ds.length : Int) - 1 - (fallsN ds : Int) := by
  rw [fallsN_count, fallsN_count, List.length_reverse]
  have e : (List.range (ds.length - 1)).countP (fun j => decide (ds.reverse.getD (j + 1) 0 < ds.reverse.getD j 0)) = (List.range (ds.length - 1)).countP (fun j => !decide (ds.getD (j + 1) 0 < ds.getD j 0)) := by
    have e1 : (List.range (ds.length - 1)).countP (fun j => !decide (ds.getD (j + 1) 0 < ds.getD j 0)) = (List.range (ds.length - 1)).reverse.countP (fun j => !decide (ds.getD (j + 1) 0 < ds.getD j 0)) := by rw [List.countP_reverse]
    rw [e1, range_rev, List.countP_map]
    refine List.countP_congr fun j hj => ?_
    have hj := List.mem_range.mp hj
    have q1 : ds.reverse.getD (j + 1) 0 = ds[ds.length - 1 - 1 - j] := by
      rw [List.getD_eq_getElem?_getD, List.getElem?_eq_getElem (by simp; omega), Option.getD_some, List.getElem_reverse]
      congr 1; omega
    have q2 : ds.reverse.getD j 0 = ds[ds.length - 1 - 1 - j + 1]'(by omega) := by
      rw [List.getD_eq_getElem?_getD, List.getElem?_eq_getElem (by simp; omega), Option.getD_some, List.getElem_reverse]
      congr 1; omega
    have q3 : ds.getD (ds.length - 1 - 1 - j + 1) 0 = ds[ds.length - 1 - 1 - j + 1]'(by omega) := by
      rw [List.getD_eq_getElem?_getD, List.getElem?_eq_getElem (by omega), Option.getD_some]
    have q4 : ds.getD (ds.length - 1 - 1 - j) 0 = ds[ds.length - 1 - 1 - j]'(by omega) := by
      rw [List.getD_eq_getElem?_getD, List.getElem?_eq_getElem (by omega), Option.getD_some]
    have ne : ds[ds.length - 1 - 1 - j]'(by omega) ≠ ds[ds.length - 1 - 1 - j + 1]'(by omega) := List.pairwise_iff_getElem.mp hn _ _ (by omega) (by omega) (by omega)
    simp only [Function.comp_def, q1, q2, q3, q4, decide_eq_true_eq, Bool.not_eq_true', decide_eq_false_iff_not]
    omega
  have t := List.length_eq_countP_add_countP (fun j => decide (ds.getD (j + 1) 0 < ds.getD j 0)) (l := List.range (ds.length - 1))
  rw [List.length_range] at t
  have e2 : (List.range (ds.length - 1)).countP (fun j => !decide (ds.getD (j + 1) 0 < ds.getD j 0)) = (List.range (ds.length - 1)).countP (fun a => decide ¬((decide (ds.getD (a + 1) 0 < ds.getD a 0)) = true)) := by
    refine List.countP_congr fun j _ => ?_
    simp
  rw [e, e2]
  omega
end Mine
end
section
open PySem PySem.W PySem.Calls PyProof.Rows
set_option maxRecDepth 100000
set_option maxHeartbeats 8000000
namespace Mine
local macro_rules | `(tactic| walk_at "c_go0") => `(tactic| (
  k_fill
  intro w s₀ s₁ mg mb G Y fa o pm cd doc dV kV ho hd hcd hD hmg hg args vals as hpre hlay hrd hwl hlo
  have KX := kIn_of Y
  have X := (Ground.X G).1
  have V := (Ground.X G).2
  try w_nolog (first | (have GL := glob_more (Ground.glob G (by first | k_qdec | decide +kernel) (by first | k_qdec | decide +kernel)) V) | (have GL := glob_more (Ground.glob G (by decide +kernel)) V))
  refine Ground.open G ?_
  intro T B D TE TW
  try (refine guard_noD D (by decide +kernel) ?_; clear D)
  obtain ⟨_, _, M⟩ := bmod_of_top T
  have TA := at_of_top T
  try (obtain ⟨_, _, he, B0⟩ := based_of_top T rfl hmg ho hd; have he' : cd = _ := he; subst he'; clear he)
  clear hmg
  wrow_args hpre hlay hrd hwl hlo
  refine enter_callC ?_
  w_top on
  refine codeN_mono ?_ (fun _ _ g => GoodW.toG g)
  have K0 := below_caller (Top.heap T)
  have he := Dflts.none hD rfl; subst he; have he := Dflts.noKw hD; subst he
  refine call_cellsC (by decide) ho (fd_plain hd) (Top.nolimit T) hcd rfl (kinds_of (by kinds_ok)) (by decide) fun h₁ tk₁ cells F N0 X0 => ?_
  cells_open X0
  clear hd TA
  k_drop
  skip))

local macro_rules | `(tactic| walk_at "call ref") => `(tactic| ((with_reducible show wpAny _ _ (call (Value.ref _) _) _ _ _); refine hold_of ?_))
local macro_rules | `(tactic| walk_at "exec For Name Call cons nil") => `(tactic| ((with_reducible show wpAny _ _ (exec (Stmt.For _ _ _ _ _) _) _ _ _); refine hold_of ?_))
local macro_rules | `(tactic| walk_at "exec For Tuple Call cons nil") => `(tactic| ((with_reducible show wpAny _ _ (exec (Stmt.For _ _ _ _ _) _) _ _ _); refine hold_of ?_))
local macro_rules | `(tactic| walk_at "setItem ref") => `(tactic| ((with_reducible show wpAny _ _ (setItem (Value.ref _) (Value.ref _) _) _ _ _); refine hold_of ?_))
local macro_rules | `(tactic| walk_at "getItem ref") => `(tactic| ((with_reducible show wpAny _ _ (getItem (Value.ref _) (Value.ref _)) _ _ _); refine hold_of ?_))
local macro_rules | `(tactic| walk_at "compareOp In ref ref") => `(tactic| ((with_reducible show wpAny _ _ (compareOp CmpOp.In (Value.ref _) (Value.ref _)) _ _ _); refine hold_of ?_))
local macro_rules | `(tactic| walk_at "exec AugAssign Subscript") => `(tactic| (refine wpAny_AugAssign_Subscript ?_))

local macro_rules | `(tactic| k_all) => `(tactic| assumption)
local macro_rules | `(tactic| walk_at "eval Dict") => `(tactic| (k_here; (refine Dict_one (by k_asm) (by k_asm) (Top.nolimit (by k_asm)) ?_); intro $(Lean.mkIdent `dN):ident h' o' F' N' $(Lean.mkIdent `ltN):ident $(Lean.mkIdent `loN):ident $(Lean.mkIdent `isN):ident))

/-- a mark: list comprehensions are held -/
def MarkC : Prop := True
local macro_rules | `(tactic| walk_at "eval ListComp") => `(tactic| ((with_reducible rename MarkC => mkC); k_here; k_dflt (refine ListComp_X (F₀ := by k_asm) (by with_unfolding_all rfl) (by decide) (by rfl) (by decide) (by rfl) ?_)))
local macro_rules | `(tactic| walk_at "eval Call Attribute") => `(tactic| (k_here; (with_reducible show wpAny _ _ (eval (Expr.Call (Expr.Attribute _ _ _) [_, _] [] _) _) _ _ _); refine hold_of ?_))
structure Kept (P : Prop) : Prop where
  out : P
def overN (n : Nat) (o : List Int) : Nat := ((rangeKs 0 n).filter fun k => decide (k < o.getD k.toNat 0)).length
abbrev kd (w : World) : HeapKind PySem.Challenge.rw_ia0001_01.row.prog w Int := sandKind (intMid _ w) (Str.ofString "so") (Str.ofString "many")
def kvF (n : Nat) (i : Nat) : List (Int × Int) := ((ordersF 5 (rangeKs 0 n)).take i).foldl (fun kv o => addKV kv (fallsN o : Int)) []
def kvP (n : Nat) (i : Nat) : List (Int × Int) := ((ordersF 5 (rangeKs 0 n)).take i).foldl (fun kv o => addKV kv (overN n o : Int)) []
def kvR (n : Nat) (i : Nat) : List (Int × Int) := ((ordersF 5 (rangeKs 0 n)).take i).foldl (fun kv o => addKV kv ((n : Int) - 1 - (fallsN o : Int))) []
/-- between the turns of the loop over the orders -/
def J01 (w : World) (L : Nat) (n : Nat) (o6 o5 o4 om : Obj) (rl : Addr × Obj) (sv : Value) (i : Nat) (m : Str → Option Value) (news : List (Addr × Obj)) : Prop :=
  ∃ (tail : List (Addr × Obj)) (oc fc : Obj) (D1 D2 D3 : Addr) (o1 o2 o3 : Obj),
      news = rl :: (D3, o3) :: (D2, o2) :: (D1, o1) :: (L + 1 + 1 + 1 + 1 + 1 + 1, o6) :: (L + 1 + 1 + 1 + 1 + 1, o5) :: (L + 1 + 1 + 1 + 1, o4) :: (L + 1 + 1 + 1, oc) :: (L + 1 + 1, fc) :: (L + 1, om) :: tail ∧
      TupTail tail ∧ (∃ v, oc.data = .cell v) ∧ fc.data = .cell (some (.ref D1)) ∧ m (Str.ofString "past") = some (.ref D2) ∧ m (Str.ofString "rises") = some (.ref D3) ∧ m (Str.ofString "script") = some sv ∧
      CntD (kd w) tail D1 o1 (kvF n i) ∧ CntD (kd w) tail D2 o2 (kvP n i) ∧ CntD (kd w) tail D3 o3 (kvR n i)
theorem kd_room {w : World} (A : Around) (h : A.units ≤ 1050) : (kd w).room A := by
  have : cLine = 9900 := rfl
  show A.units + 1 < cLine
  omega
local macro_rules | `(tactic| walk_at "mem_it") => `(tactic| repeat (first | exact List.Mem.head _ | refine List.Mem.tail _ ?_))
local macro_rules | `(tactic| walk_at "drop_lt") => `(tactic| repeat ((rename (@LT.lt Nat _ _ _ ∧ _) => hx); clear hx))
theorem sub_cons {tail news : List (Addr × Obj)} {q : Addr × Obj} (h1 : q ∈ news) (h2 : ∀ p ∈ tail, p ∈ news) : ∀ p ∈ q :: tail, p ∈ news := by
  intro p hp
  rcases List.mem_cons.mp hp with e | hp
  · rw [e]; exact h1
  · exact h2 p hp
theorem sub_tail {tail news : List (Addr × Obj)} {q : Addr × Obj} (h2 : ∀ p ∈ tail, p ∈ news) : ∀ p ∈ tail, p ∈ q :: news := fun p hp => .tail _ (h2 p hp)
local macro_rules | `(tactic| walk_at "drop_ne") => `(tactic| (walk_at "drop_lt"; (repeat ((rename (@Ne Nat _ _ ∧ _) => hx); clear hx)); (repeat ((rename ((@Ne Nat _ _ ∧ _) ∧ _) => hx); clear hx))))
local macro_rules | `(tactic| walk_at "subscriptTail") => `(tactic| (k_here; (with_reducible show wpAny _ _ (subscriptTail _ _ (Value.bytes _ _) (Value.int _ _)) _ _ _); (refine KBw.item_K (by assumption) (by (walk_at "drop_ne"; omega)) (by (walk_at "drop_ne"; omega)) (by (walk_at "drop_ne"; omega)) ?_); intro _ _ kbaLo kbaHi))
local macro_rules | `(tactic| walk_at "CompEnd") => `(tactic| ((rename Fr _ _ _ _ => F9); (rename News _ _ _ _ => N9); refine LCg.CompEnd.intro F9 N9 _ (fun _ h => h) ?koff trivial ?_; (case koff => assumption)))
local macro_rules | `(tactic| walk_at "sub_it") => `(tactic| repeat (first | exact fun _ h => h | refine sub_tail ?_))
theorem shrink1 {h₀ h : Heap} {L : Addr} {r7 T d I rl D3 D2 D1 c6 c5 c4 c3 c2 c1 : Addr × Obj} {tail : List (Addr × Obj)} (N : News h₀ L h (r7 :: T :: d :: I :: rl :: D3 :: D2 :: D1 :: c6 :: c5 :: c4 :: c3 :: c2 :: c1 :: tail)) :
    News h₀ L h (I :: rl :: D3 :: D2 :: r7 :: c6 :: c5 :: c4 :: c3 :: c2 :: c1 :: T :: tail) := by
  refine fun p hp => N p ?_
  revert p
  repeat (refine sub_cons (by walk_at "mem_it") ?_)
  walk_at "sub_it"
theorem shrink2 {h₀ h : Heap} {L : Addr} {r11 T dl d I rl D3 D2 r7 c6 c5 c4 c3 c2 c1 : Addr × Obj} {tail : List (Addr × Obj)} (N : News h₀ L h (r11 :: T :: dl :: d :: I :: rl :: D3 :: D2 :: r7 :: c6 :: c5 :: c4 :: c3 :: c2 :: c1 :: tail)) :
    News h₀ L h (I :: rl :: D3 :: r11 :: r7 :: c6 :: c5 :: c4 :: c3 :: c2 :: c1 :: T :: tail) := by
  refine fun p hp => N p ?_
  revert p
  repeat (refine sub_cons (by walk_at "mem_it") ?_)
  walk_at "sub_it"
theorem shrink3 {h₀ h : Heap} {L : Addr} {r17 T d I rl D3 r11 r7 c6 c5 c4 c3 c2 c1 : Addr × Obj} {tail : List (Addr × Obj)} (N : News h₀ L h (r17 :: T :: d :: I :: rl :: D3 :: r11 :: r7 :: c6 :: c5 :: c4 :: c3 :: c2 :: c1 :: tail)) :
    News h₀ L h (I :: rl :: r17 :: r11 :: r7 :: c6 :: c5 :: c4 :: c3 :: c2 :: c1 :: T :: tail) := by
  refine fun p hp => N p ?_
  revert p
  repeat (refine sub_cons (by walk_at "mem_it") ?_)
  walk_at "sub_it"
theorem kv_next {f : List Int → Int} {os : List (List Int)} {i : Nat} {kb : List Int} (h : os[i]? = some kb) :
    (os.take (i + 1)).foldl (fun kv o => addKV kv (f o)) [] = addKV ((os.take i).foldl (fun kv o => addKV kv (f o)) []) (f kb) := by
  rw [List.take_add_one, h, List.foldl_append]
  rfl
theorem orders_small {n : Nat} (hn : n ≤ 4) : (ordersF 5 (rangeKs 0 n)).length ≤ 24 := by
  have : n = 0 ∨ n = 1 ∨ n = 2 ∨ n = 3 ∨ n = 4 := by omega
  rcases this with rfl | rfl | rfl | rfl | rfl <;> decide +kernel
theorem kv_small {f : List Int → Int} {n i : Nat} (hn : n ≤ 4) : (((ordersF 5 (rangeKs 0 n)).take i).foldl (fun kv o => addKV kv (f o)) []).length ≤ 900 := by
  have h1 := foldKV_len f ((ordersF 5 (rangeKs 0 n)).take i) []
  have h2 := orders_small hn
  rw [List.length_take] at h1
  simp only [List.length_nil] at h1
  omega
theorem start01 {w : World} {h₀ h : Heap} {L : Nat} {n : Nat} {m : Str → Option Value} {rl tp : Addr × Obj} {D1 D2 D3 : Addr} {o1 o2 o3 o6 o5 o4 oc fc om : Obj} {sv : Value} (_F : Fr h₀ L h m)
    (N : News h₀ L h [rl, tp, (D3, o3), (D2, o2), (D1, o1), (L + 1 + 1 + 1 + 1 + 1 + 1, o6), (L + 1 + 1 + 1 + 1 + 1, o5), (L + 1 + 1 + 1 + 1, o4), (L + 1 + 1 + 1, oc), (L + 1 + 1, fc), (L + 1, om)])
    (hoc : ∃ v, oc.data = .cell v) (hfc : fc.data = .cell (some (.ref D1))) (h1 : m (Str.ofString "past") = some (.ref D2)) (h2 : m (Str.ofString "rises") = some (.ref D3)) (h3 : m (Str.ofString "script") = some sv)
    (a1 : (D1 == sysModules) = false) (a2 : (D2 == sysModules) = false) (a3 : (D3 == sysModules) = false)
    (b1 : Obj.IsDictOf (intKind PySem.Challenge.rw_ia0001_01.row.prog w) o1 []) (b2 : Obj.IsDictOf (intKind PySem.Challenge.rw_ia0001_01.row.prog w) o2 []) (b3 : Obj.IsDictOf (intKind PySem.Challenge.rw_ia0001_01.row.prog w) o3 []) :
    ∃ news, News h₀ L h news ∧ rl ∈ news ∧ J01 w L n o6 o5 o4 om rl sv 0 m news := by
  refine ⟨_, fun p hp => N p ?_, ?_, [], oc, fc, D1, D2, D3, o1, o2, o3, rfl, (fun _ h => nomatch h), hoc, hfc, h1, h2, h3, CntD.nil a1 b1, CntD.nil a2 b2, CntD.nil a3 b3⟩
  · rcases List.mem_cons.mp hp with rfl | hp
    · exact .head _
    · exact .tail _ (.tail _ hp)
  · exact .head _
local macro_rules | `(tactic| walk_at "k_one") => `(tactic| (first | (k_unfold; (try dsimp only)) | walk1 | (dsimp only; walk1)))
theorem over_fold {b : Array UInt8} {n : Nat} {kb : List Int} (hb : KBw.bInts b = kb) (_h : n ≤ 4) :
    (List.foldl (fun (l' : List Int) (k' : Int) => if 0 ≤ kb.getD k'.toNat 0 ∧ kb.getD k'.toNat 0 < 256 ∧ k' < kb.getD k'.toNat 0 then l' ++ [k'] else if 0 ≤ kb.getD k'.toNat 0 ∧ kb.getD k'.toNat 0 < 256 ∧ ¬ k' < kb.getD k'.toNat 0 then l' else l') [] (rangeKs 0 ((n : Int) - 0).toNat)).length = overN n kb := by
  have hin := bInts_in hb
  have hg : ∀ j : Nat, 0 ≤ kb.getD j 0 ∧ kb.getD j 0 < 256 := fun j => KBw.getD_in hin
  rw [foldl_filter (q := fun k => decide (k < kb.getD k.toNat 0)) _ _ fun k _ => ?_]
  · unfold overN
    simp
  · have := hg k.toNat
    simp only [decide_eq_true_eq]
    omega
theorem facts01 {w : World} {h₀ h : Heap} {L : Nat} {I : Addr} {oI : Obj} {r : Addr} {lx : Array Value} {lk : Nat} {D1 D2 D3 : Addr} {o1 o2 o3 o6 o5 o4 oc fc om : Obj} {tail : List (Addr × Obj)} {ov : Option Value} {k1 k2 k3 : List (Int × Int)}
    (N : News h₀ L h ((I, oI) :: (r, W.listOf lx lk) :: (D3, o3) :: (D2, o2) :: (D1, o1) :: (L + 1 + 1 + 1 + 1 + 1 + 1, o6) :: (L + 1 + 1 + 1 + 1 + 1, o5) :: (L + 1 + 1 + 1 + 1, o4) :: (L + 1 + 1 + 1, oc) :: (L + 1 + 1, fc) :: (L + 1, om) :: tail))
    (hT : TupTail tail) (hoc : oc.data = .cell ov) (hfc : fc.data = .cell (some (.ref D1))) (hC1 : CntD (kd w) tail D1 o1 k1) (hC2 : CntD (kd w) tail D2 o2 k2) (hC3 : CntD (kd w) tail D3 o3 k3) :
    (∀ p ∈ tail, @Ne Nat p.1 (L + 1 + 1 + 1)) ∧ (∀ p ∈ tail, @Ne Nat p.1 (L + 1 + 1)) ∧ @Ne Nat r (L + 1 + 1 + 1) ∧ @Ne Nat r (L + 1 + 1) ∧ @Ne Nat D1 (L + 1 + 1 + 1) ∧ @Ne Nat D1 (L + 1 + 1) ∧ @Ne Nat D2 (L + 1 + 1 + 1) ∧ @Ne Nat D2 (L + 1 + 1) ∧ @Ne Nat D3 (L + 1 + 1 + 1) ∧ @Ne Nat D3 (L + 1 + 1) := by
  have hs : ∀ p ∈ tail, p ∈ ((I, oI) :: (r, W.listOf lx lk) :: (D3, o3) :: (D2, o2) :: (D1, o1) :: (L + 1 + 1 + 1 + 1 + 1 + 1, o6) :: (L + 1 + 1 + 1 + 1 + 1, o5) :: (L + 1 + 1 + 1 + 1, o4) :: (L + 1 + 1 + 1, oc) :: (L + 1 + 1, fc) :: (L + 1, om) :: tail) := fun p hp => by simp [hp]
  have mo : (L + 1 + 1 + 1, oc) ∈ ((I, oI) :: (r, W.listOf lx lk) :: (D3, o3) :: (D2, o2) :: (D1, o1) :: (L + 1 + 1 + 1 + 1 + 1 + 1, o6) :: (L + 1 + 1 + 1 + 1 + 1, o5) :: (L + 1 + 1 + 1 + 1, o4) :: (L + 1 + 1 + 1, oc) :: (L + 1 + 1, fc) :: (L + 1, om) :: tail) := by simp
  have mf : (L + 1 + 1, fc) ∈ ((I, oI) :: (r, W.listOf lx lk) :: (D3, o3) :: (D2, o2) :: (D1, o1) :: (L + 1 + 1 + 1 + 1 + 1 + 1, o6) :: (L + 1 + 1 + 1 + 1 + 1, o5) :: (L + 1 + 1 + 1 + 1, o4) :: (L + 1 + 1 + 1, oc) :: (L + 1 + 1, fc) :: (L + 1, om) :: tail) := by simp
  exact ⟨tail_cell N hT hs mo hoc, tail_cell N hT hs mf hfc, cell_ne N (.tail _ (.head _)) rfl mo hoc, cell_ne N (.tail _ (.head _)) rfl mf hfc, cnt_ne hC1 N (by simp) mo hoc, cnt_ne hC1 N (by simp) mf hfc,
    cnt_ne hC2 N (by simp) mo hoc, cnt_ne hC2 N (by simp) mf hfc, cnt_ne hC3 N (by simp) mo hoc, cnt_ne hC3 N (by simp) mf hfc⟩
theorem off1_all {I : Addr} : ∀ {l : List (Addr × Obj)}, LCg.Off1 I l → ∀ p ∈ l, @Ne Nat p.1 I
  | [], _, _, h => nomatch h
  | _ :: _, x, p, h => by
    rcases List.mem_cons.mp h with rfl | h
    · exact x.1
    · exact off1_all x.2 p h
theorem end01 {w : World} {h₀ h : Heap} {L : Nat} {n i : Nat} {m : Str → Option Value} {I : Addr} {oI : Obj} {rl T1 T2 T3 : Addr × Obj} {r7 r11 r17 : Addr} {o7 o11 o17 o6 o5 o4 oc fc om : Obj} {tail : List (Addr × Obj)} {kb : List Int} {sv : Value} (_F : Fr h₀ L h m) (hkb : (ordersF 5 (rangeKs 0 n))[i]? = some kb)
    (N : News h₀ L h ((I, oI) :: rl :: (r17, o17) :: (r11, o11) :: (r7, o7) :: (L + 1 + 1 + 1 + 1 + 1 + 1, o6) :: (L + 1 + 1 + 1 + 1 + 1, o5) :: (L + 1 + 1 + 1 + 1, o4) :: (L + 1 + 1 + 1, oc) :: (L + 1 + 1, fc) :: (L + 1, om) :: T3 :: T2 :: T1 :: tail))
    (hT : TupTail tail) (t1 : ∃ xs k, T1.2.data = .seq xs k) (t2 : ∃ xs k, T2.2.data = .seq xs k) (t3 : ∃ xs k, T3.2.data = .seq xs k) (hoc : ∃ v, oc.data = .cell v) (hfc : fc.data = .cell (some (.ref r7)))
    (h1 : m (Str.ofString "past") = some (.ref r11)) (h2 : m (Str.ofString "rises") = some (.ref r17)) (h3 : m (Str.ofString "script") = some sv)
    (C1 : CntD (kd w) (T1 :: tail) r7 o7 (addKV (kvF n i) (fallsN kb))) (C2 : CntD (kd w) (T2 :: tail) r11 o11 (addKV (kvP n i) (overN n kb))) (C3 : CntD (kd w) (T3 :: tail) r17 o17 (addKV (kvR n i) ((n : Int) - 1 - (fallsN kb : Int))))
    (n0 : ∀ p ∈ tail, @Ne Nat p.1 I) (nr : @Ne Nat rl.1 I) (n1 : @Ne Nat T1.1 I) (n2 : @Ne Nat T2.1 I) (n3 : @Ne Nat T3.1 I) (n7 : @Ne Nat r7 I) (n11 : @Ne Nat r11 I) (n17 : @Ne Nat r17 I)
    (c1 : @Ne Nat (L + 1) I) (c2 : @Ne Nat (L + 1 + 1) I) (c3 : @Ne Nat (L + 1 + 1 + 1) I) (c4 : @Ne Nat (L + 1 + 1 + 1 + 1) I) (c5 : @Ne Nat (L + 1 + 1 + 1 + 1 + 1) I) (c6 : @Ne Nat (L + 1 + 1 + 1 + 1 + 1 + 1) I) :
    ∃ news, News h₀ L h ((I, oI) :: news) ∧ (∀ p ∈ news, p.1 ≠ I) ∧ J01 w L n o6 o5 o4 om rl sv (i + 1) m news := by
  refine ⟨_, N, ?_, T3 :: T2 :: T1 :: tail, oc, fc, r7, r11, r17, o7, o11, o17, rfl, ?_, hoc, hfc, h1, h2, h3, ?_, ?_, ?_⟩
  · intro p hp
    simp only [List.mem_cons] at hp
    rcases hp with rfl | rfl | rfl | rfl | rfl | rfl | rfl | rfl | rfl | rfl | rfl | rfl | rfl | hp <;> first | assumption | exact n0 p hp
  · intro p hp
    simp only [List.mem_cons] at hp
    rcases hp with rfl | rfl | rfl | hp
    · exact t3
    · exact t2
    · exact t1
    · exact hT p hp
  · rw [kvF, kv_next hkb]
    exact C1.mono fun p hp => by simp only [List.mem_cons] at hp ⊢; rcases hp with h | h <;> simp [h]
  · rw [kvP, kv_next hkb]
    exact C2.mono fun p hp => by simp only [List.mem_cons] at hp ⊢; rcases hp with h | h <;> simp [h]
  · rw [kvR, kv_next hkb]
    exact C3.mono fun p hp => by simp only [List.mem_cons] at hp ⊢; rcases hp with h | h <;> simp [h]
theorem cnt_cmp {K : Type} [DecidableEq K] {prog : Program} {w : World} {knd : HeapKind prog w K} {A : Around} {E : Value → Shared → Prop} {s : Shared} {h₀ : Heap} {L : Addr} {news t1 t2 : List (Addr × Obj)} {a b : Addr} {oa ob : Obj} {kv kv' : List (K × Int)} {Q : Value → Shared → Prop}
    (C : CntD knd t1 a oa kv) (D : CntD knd t2 b ob kv') (N : News h₀ L s.heap news) (hu : knd.room A.in1) (hc : A.units < cLine) (ha : (a, oa) ∈ news) (hb : (b, ob) ∈ news) (h1 : ∀ p ∈ t1, p ∈ news) (h2 : ∀ p ∈ t2, p ∈ news)
    (hlen : kv.length = kv'.length) (hsub : ∀ x ∈ kv, x ∈ kv') (h : Q (.bool false) s) : Hold (wpAny (model prog w) A (compareOp .NotEq (.ref a) (.ref b)) Q E s) := by
  obtain ⟨a1, es, ep, vs, xs, DO, SI, rfl, ka⟩ := C
  obtain ⟨a2, es', ep', us, ys, EO, SJ, rfl, kb⟩ := D
  refine ne_X hu hc a1 a2 (N _ ha).1 (N _ hb).1 DO EO SI SJ (fun x hx => (ka x hx).here N h1) (fun x hx => (kb x hx).here N h2) (by simpa [KV] using hlen) (fun x hx => ?_) h
  have := hsub (x.1, x.2.2) (List.mem_map.mpr ⟨x, hx, rfl⟩)
  obtain ⟨y, hy, e⟩ := List.mem_map.mp this
  exact ⟨y, hy, (Prod.mk.inj e).1, (Prod.mk.inj e).2⟩
theorem cnt_count {K : Type} [DecidableEq K] {prog : Program} {w : World} {knd : HeapKind prog w K} {A : Around} {env : Env} {outer : List Env} {A₀ : Around} {base h₀ : Heap} {L : Addr} {m : Str → Option Value} {mean : ExcName → Option Value} {mg mb : Str → Option Value} {s : Shared} {Q E : Value → Shared → Prop} {news t1 : List (Addr × Obj)} {d : Addr} {od : Obj} {kv : List (K × Int)}
    (C : CntD knd t1 d od kv) (hd : (d, od) ∈ news) (F : Fr h₀ L s.heap m) (N : News h₀ L s.heap news) (e1 : A.frames = some (env :: outer)) (e2 : env.frame = some L) (e3 : env.scope.kind = .function) (e4 : A.handled = none) (e5 : A.depth ≤ 400) (e6 : A.units ≤ 1000)
    (B : Below A₀ base outer h₀) (X : (hd01.heap_39 w.params).In h₀) (T : Top hd01.view_39 (looseW hd01.view_39 []) mean mg mb h₀)
    (ret : ∀ h' tk' t, Fr h₀ L h' m → News h₀ L h' news → Q (.int (kv.map (·.2)).sum t) { s with heap := h', toks := tk' }) :
    Hold (wpAny (model PySem.Challenge.rw_ia0001_01.row.prog w) A (call (.ref 28) [.ref d]) Q E s) := by
  obtain ⟨a1, es, ep, vs, xs, DO, SI, rfl, ka⟩ := C
  refine con_call (count_con w d od es ep vs xs a1 DO SI) F N e1 e2 e3 e4 e5 e6 B X T (N _ hd).1 ?_
  rintro v h' tk' x ⟨t, rfl⟩ F' N' -
  have e : (xs.map (·.2.2)).sum = ((KV xs).map (·.2)).sum := by unfold KV; rw [List.map_map]; rfl
  rw [e]
  exact ret h' tk' t F' N'
theorem fin4 {n : Nat} (h1 : 1 ≤ n) (h4 : n ≤ 4) : n = 1 ∨ n = 2 ∨ n = 3 ∨ n = 4 := by omega
theorem kv_all {f : List Int → Int} {n i : Nat} (h : i = (ordersF 5 (rangeKs 0 n)).length) : ((ordersF 5 (rangeKs 0 n)).take i).foldl (fun kv o => addKV kv (f o)) [] = (ordersF 5 (rangeKs 0 n)).foldl (fun kv o => addKV kv (f o)) [] := by
  rw [h, List.take_length]
def cF (n : Nat) : List (Int × Int) := (ordersF 5 (rangeKs 0 n)).foldl (fun kv o => addKV kv (fallsN o : Int)) []
def cP (n : Nat) : List (Int × Int) := (ordersF 5 (rangeKs 0 n)).foldl (fun kv o => addKV kv (overN n o : Int)) []
def cR (n : Nat) : List (Int × Int) := (ordersF 5 (rangeKs 0 n)).foldl (fun kv o => addKV kv ((n : Int) - 1 - (fallsN o : Int))) []
theorem c_facts {n : Nat} (h1 : 1 ≤ n) (h4 : n ≤ 4) : ((cF n).length = (cP n).length ∧ ∀ x ∈ cF n, x ∈ cP n) ∧ ((cF n).length = (cR n).length ∧ ∀ x ∈ cF n, x ∈ cR n) ∧ ((cF n).map (·.2)).sum = [1, 2, 6, 24].getD (n - 1) 0 := by
  rcases fin4 h1 h4 with rfl | rfl | rfl | rfl <;> decide +kernel
theorem shrink4 {h₀ h : Heap} {L : Addr} {r D1 D2 D3 c6 c5 c4 c3 c2 c1 : Addr × Obj} {tail : List (Addr × Obj)} (N : News h₀ L h (r :: D3 :: D2 :: D1 :: c6 :: c5 :: c4 :: c3 :: c2 :: c1 :: tail)) :
    News h₀ L h (D1 :: c6 :: c5 :: c4 :: c3 :: c2 :: c1 :: tail) := fun p hp => N p (.tail _ (.tail _ (.tail _ hp)))
/-- one cell of the frame's against the dict and the tail -/
def OffC (D1 c : Addr) (tail : List (Addr × Obj)) : Prop := (∀ p ∈ tail, @Ne Nat p.1 c) ∧ @Ne Nat D1 c
theorem facts02 {w : World} {h₀ h : Heap} {L : Nat} {r D1 D2 D3 : Addr × Obj} {o6 o5 o4 oc fc om : Obj} {tail : List (Addr × Obj)} {v6 v5 v4 v3 : Option Value} {k1 : List (Int × Int)}
    (N : News h₀ L h (r :: D3 :: D2 :: D1 :: (L + 1 + 1 + 1 + 1 + 1 + 1, o6) :: (L + 1 + 1 + 1 + 1 + 1, o5) :: (L + 1 + 1 + 1 + 1, o4) :: (L + 1 + 1 + 1, oc) :: (L + 1 + 1, fc) :: (L + 1, om) :: tail))
    (hT : TupTail tail) (h4 : o4.data = .cell v4) (h5 : o5.data = .cell v5) (h6 : o6.data = .cell v6) (h3 : oc.data = .cell v3) (hC1 : CntD (kd w) tail D1.1 D1.2 k1) :
    OffC D1.1 (L + 1 + 1 + 1 + 1) tail ∧ OffC D1.1 (L + 1 + 1 + 1 + 1 + 1) tail ∧ OffC D1.1 (L + 1 + 1 + 1 + 1 + 1 + 1) tail ∧ OffC D1.1 (L + 1 + 1 + 1) tail := by
  have hs : ∀ p ∈ tail, p ∈ (r :: D3 :: D2 :: D1 :: (L + 1 + 1 + 1 + 1 + 1 + 1, o6) :: (L + 1 + 1 + 1 + 1 + 1, o5) :: (L + 1 + 1 + 1 + 1, o4) :: (L + 1 + 1 + 1, oc) :: (L + 1 + 1, fc) :: (L + 1, om) :: tail) := fun p hp => by simp [hp]
  have g : ∀ (c : Addr) (o : Obj) (v : Option Value), o.data = .cell v → (c, o) ∈ (r :: D3 :: D2 :: D1 :: (L + 1 + 1 + 1 + 1 + 1 + 1, o6) :: (L + 1 + 1 + 1 + 1 + 1, o5) :: (L + 1 + 1 + 1 + 1, o4) :: (L + 1 + 1 + 1, oc) :: (L + 1 + 1, fc) :: (L + 1, om) :: tail) → OffC D1.1 c tail := fun c o v ho hm =>
    ⟨tail_cell N hT hs hm ho, cnt_ne hC1 N (by simp) hm ho⟩
  exact ⟨g _ _ _ h4 (by simp), g _ _ _ h5 (by simp), g _ _ _ h6 (by simp), g _ _ _ h3 (by simp)⟩
def elemF (row : List Int) (size : Nat) (k : Nat) : Int := ((k : Int) + 1) * (row ++ [0]).getD k 0 + ((size : Int) - k) * ([0] ++ row).getD k 0
def rowF : Nat → List Int
  | 0 => [1]
  | i + 1 => (List.range (i + 2)).map (elemF (rowF i) (i + 2))
theorem rowF_len (i : Nat) : (rowF i).length = i + 1 := by cases i <;> simp [rowF]
def JR (L : Nat) (D1 : Addr) (o1 o6 oc fc om : Obj) (tail : List (Addr × Obj)) (m₀ : Str → Option Value) (i : Nat) (m : Str → Option Value) (news : List (Addr × Obj)) : Prop :=
  m = m₀ ∧ ∃ (R : Addr) (vs : List Value) (k : Nat) (os orow : Obj) (sv : Option Value),
    news = [(R, listOf vs.toArray k), (D1, o1), (L + 1 + 1 + 1 + 1 + 1 + 1, o6), (L + 1 + 1 + 1 + 1 + 1, os), (L + 1 + 1 + 1 + 1, orow), (L + 1 + 1 + 1, oc), (L + 1 + 1, fc), (L + 1, om)] ++ tail ∧
    orow.data = .cell (some (.ref R)) ∧ os.data = .cell sv ∧ IntsAre vs (rowF i)
theorem news_drop2 {h₀ h : Heap} {L : Addr} {a b : Addr × Obj} {r : List (Addr × Obj)} (N : News h₀ L h (a :: b :: r)) : News h₀ L h (a :: r) := fun p hp => N p (by
  rcases List.mem_cons.mp hp with rfl | hp
  · exact .head _
  · exact .tail _ (.tail _ hp))
theorem ints_one {v w : Int} {t : Tok} (h : w = v) : IntsAre [.int v t] [w] := h ▸ IntsAre.cons _ _ IntsAre.nil
theorem endR {h₀ h : Heap} {L : Nat} {m : Str → Option Value} {i : Nat} {I D D1 : Addr} {oI o1 o6 os orow oc fc om : Obj} {R : Addr × Obj} {ys : List Value} {kk : Nat} {sv : Option Value} {tail : List (Addr × Obj)}
    (N : News h₀ L h ((D, listOf ys.toArray kk) :: (I, oI) :: R :: (D1, o1) :: (L + 1 + 1 + 1 + 1 + 1 + 1, o6) :: (L + 1 + 1 + 1 + 1 + 1, os) :: (L + 1 + 1 + 1 + 1, orow) :: (L + 1 + 1 + 1, oc) :: (L + 1 + 1, fc) :: (L + 1, om) :: tail))
    (hrow : orow.data = .cell (some (.ref D))) (hos : os.data = .cell sv) (hys : IntsAre ys (rowF (i + 1))) (dI : @Ne Nat I D)
    (off : LCg.Off1 I (R :: (D1, o1) :: (L + 1 + 1 + 1 + 1 + 1 + 1, o6) :: (L + 1 + 1 + 1 + 1 + 1, os) :: (L + 1 + 1 + 1 + 1, orow) :: (L + 1 + 1 + 1, oc) :: (L + 1 + 1, fc) :: (L + 1, om) :: tail)) :
    ∃ news', News h₀ L h ((I, oI) :: news') ∧ (∀ p ∈ news', p.1 ≠ I) ∧ JR L D1 o1 o6 oc fc om tail m (i + 1) m news' := by
  refine ⟨(D, listOf ys.toArray kk) :: (D1, o1) :: (L + 1 + 1 + 1 + 1 + 1 + 1, o6) :: (L + 1 + 1 + 1 + 1 + 1, os) :: (L + 1 + 1 + 1 + 1, orow) :: (L + 1 + 1 + 1, oc) :: (L + 1 + 1, fc) :: (L + 1, om) :: tail, fun p hp => N p ?_, fun p hp => ?_, rfl, D, ys, kk, os, orow, sv, rfl, hrow, hos, hys⟩
  · rcases List.mem_cons.mp hp with rfl | hp
    · exact .tail _ (.head _)
    rcases List.mem_cons.mp hp with rfl | hp
    · exact .head _
    exact .tail _ (.tail _ (.tail _ hp))
  · rcases List.mem_cons.mp hp with rfl | hp
    · exact Ne.symm dI
    exact off1_all off.2 p hp
theorem eul_ok {n : Nat} (h1 : 1 ≤ n) (h4 : n ≤ 4) : ((List.range n).map fun (k : Nat) => lookKV (cF n) (k : Int)) = rowF (n - 1) := by
  rcases fin4 h1 h4 with rfl | rfl | rfl | rfl <;> decide +kernel
theorem worp_ok {n : Nat} (h1 : 1 ≤ n) (h4 : n ≤ 4) {i : Nat} (hi : i < 6) : ((List.range n).map fun (k : Nat) => (rowF (n - 1)).getD k 0 * waysN ((i : Int) + n - 1 - k) n).sum = (i : Int) ^ n := by
  have : i = 0 ∨ i = 1 ∨ i = 2 ∨ i = 3 ∨ i = 4 ∨ i = 5 := by omega
  rcases fin4 h1 h4 with rfl | rfl | rfl | rfl <;> rcases this with rfl | rfl | rfl | rfl | rfl | rfl <;> decide +kernel
def JN (L : Nat) (R : Addr) (lR os orow oc fc om : Obj) (m₀ : Str → Option Value) (m : Str → Option Value) (news : List (Addr × Obj)) : Prop :=
  m = m₀ ∧ ∃ (onum : Obj) (nv : Option Value),
    news = [(R, lR), (L + 1 + 1 + 1 + 1 + 1 + 1, onum), (L + 1 + 1 + 1 + 1 + 1, os), (L + 1 + 1 + 1 + 1, orow), (L + 1 + 1 + 1, oc), (L + 1 + 1, fc), (L + 1, om)] ∧ onum.data = .cell nv
theorem shrinkN {h₀ h : Heap} {L : Addr} {D R D1 c6 c5 c4 c3 c2 c1 : Addr × Obj} {tail : List (Addr × Obj)} (N : News h₀ L h (D :: R :: D1 :: c6 :: c5 :: c4 :: c3 :: c2 :: c1 :: tail)) : News h₀ L h [R, c6, c5, c4, c3, c2, c1] := fun p hp => N p (by
  simp only [List.mem_cons, List.not_mem_nil, or_false] at hp ⊢
  rcases hp with h | h | h | h | h | h | h <;> simp [h])
theorem news_drop {h₀ h : Heap} {L : Addr} {a : Addr × Obj} {r : List (Addr × Obj)} (N : News h₀ L h (a :: r)) : News h₀ L h r := fun p hp => N p (.tail _ hp)
theorem ways_bound' : ∀ a : Nat, a < 9 → ∀ b : Nat, b < 5 → 0 ≤ waysN a b ∧ waysN a b ≤ 70 := by decide +kernel
theorem ways_bound {a b : Int} (h1 : 0 ≤ a) (h2 : a ≤ 8) (h3 : 0 ≤ b) (h4 : b ≤ 4) : 0 ≤ waysN a b ∧ waysN a b ≤ 70 := by
  have := ways_bound' a.toNat (by omega) b.toNat (by omega)
  rwa [Int.toNat_of_nonneg h1, Int.toNat_of_nonneg h3] at this
theorem len_c (x : Nat) : ∃ c : Nat, ((if (if (x : Int) < 7 then (x : Int) else 7) > 1 then (if (x : Int) < 7 then (x : Int) else 7) else 1) - 0).toNat = c ∧ 1 ≤ c ∧ c ≤ 7 ∧ c ≤ x + 1 := by
  refine ⟨_, rfl, ?_⟩
  split <;> split <;> omega
/-- drawn of what was left -/
def Drawn (c i : Nat) (ds ls : List Int) : Prop := ds.length = i ∧ i + ls.length = c ∧ (ds ++ ls).Nodup ∧ ∀ x ∈ ds ++ ls, 0 ≤ x ∧ x < 7
theorem drawn_start {c : Nat} (h : c ≤ 7) : Drawn c 0 [] (rangeKs 0 c) := by
  have : c = 0 ∨ c = 1 ∨ c = 2 ∨ c = 3 ∨ c = 4 ∨ c = 5 ∨ c = 6 ∨ c = 7 := by omega
  unfold Drawn
  rcases this with rfl | rfl | rfl | rfl | rfl | rfl | rfl | rfl <;> decide +kernel
def JD (S : Addr) (oS : Obj) (Dd Dl : Addr) (c : Nat) (cn : Addr) (cs : List (Addr × Obj)) (i : Nat) (m : Str → Option Value) (news : List (Addr × Obj)) : Prop :=
  m (Str.ofString "left") = some (.ref Dl) ∧ m (Str.ofString "drawn") = some (.ref Dd) ∧ ∃ (dvs lvs : List Value) (k1 k2 : Nat) (ds ls : List Int) (onum : Obj) (nv : Option Value),
    news = (S, oS) :: (Dd, listOf dvs.toArray k1) :: (Dl, listOf lvs.toArray k2) :: (cn, onum) :: cs ∧ onum.data = .cell nv ∧ IntsAre dvs ds ∧ IntsAre lvs ls ∧ Drawn c i ds ls
theorem shrinkD {h₀ h : Heap} {L : Addr} {T Dd Dl R : Addr × Obj} {cs : List (Addr × Obj)} (N : News h₀ L h (T :: Dd :: Dl :: R :: cs)) : News h₀ L h (Dd :: Dl :: cs) := fun p hp => N p (by
  simp only [List.mem_cons] at hp ⊢
  rcases hp with h | h | h <;> simp [h])
theorem shrinkS {h₀ h : Heap} {L : Addr} {S X Y : Addr × Obj} {cs : List (Addr × Obj)} (N : News h₀ L h (S :: X :: Y :: cs)) : News h₀ L h (S :: cs) := fun p hp => N p (by
  simp only [List.mem_cons] at hp ⊢
  rcases hp with h | h <;> simp [h])
theorem drawn_next {c i q : Nat} {ds ls : List Int} (h : Drawn c i ds ls) (hq : q < ls.length) : Drawn c (i + 1) (ds ++ [ls.getD q 0]) (ls.eraseIdx q) := by
  obtain ⟨h1, h2, h3, h4⟩ := h
  have e : ls.getD q 0 = ls[q] := by rw [List.getD_eq_getElem?_getD, List.getElem?_eq_getElem hq]; rfl
  have e5 : ls = ls.take q ++ ls[q] :: ls.drop (q + 1) := by rw [List.getElem_cons_drop, List.take_append_drop]
  have hp : (ds ++ [ls.getD q 0] ++ ls.eraseIdx q).Perm (ds ++ ls) := by
    rw [List.append_assoc, e, List.eraseIdx_eq_take_drop_succ]
    conv => rhs; rw [e5]
    exact (List.perm_middle.symm : (ls[q] :: (ls.take q ++ ls.drop (q + 1))).Perm _).append_left ds
  refine ⟨by simp [h1], ?_, hp.nodup_iff.mpr h3, fun x hx => h4 x (hp.mem_iff.mp hx)⟩
  rw [List.length_eraseIdx, if_pos hq]
  omega
theorem law1 : PySem.Challenge.rw_ia0001_01.Holds := hd01 (by
  walk_at "c_go0"
  try k_fold
  rename Shared => s₁
  rename World => w
  refine wpN_execs_split 11 ?_
  dsimp only [List.take, List.drop]
  k_steps
  rename List Int => xs
  have hz : ∃ n : Nat, 1 + xs.sum.fmod 4 = (n : Int) ∧ 1 ≤ n ∧ n ≤ 4 := by
    have h0 : 0 ≤ xs.sum.fmod 4 := Int.fmod_nonneg_of_pos _ (by decide)
    have h1 : xs.sum.fmod 4 < 4 := Int.fmod_lt_of_pos _ (by decide)
    exact ⟨(1 + xs.sum.fmod 4).toNat, by omega, by omega, by omega⟩
  generalize 1 + xs.sum.fmod 4 = z at *
  obtain ⟨n, rfl, hn1, hn4⟩ := hz
  show wpAny _ _ (exec (Stmt.For _ _ _ _ _) _) _ _ _
  refine' For_X s₁.heap ?_ ?fs
  case fs => intro _; rfl
  k_steps
  rename Fr _ _ _ _ => F₁
  rename News _ _ _ _ => N₁
  refine call_bytes_range (a := 0) (b := (n : Int)) (ns := rangeKs 0 n) rfl (by assumption) (small_one (by omega) (by omega) (by omega) (by omega)) (by rw [rangeSize_nat, rangeKs_length]; omega) (rangeKs_at n) (rangeKs_byte n hn4) (by rw [rangeKs_length]; omega) fun h₂ t₂ tk₂ x₂ => ?_
  have F₂ := F₁.keeps x₂
  have N₂ := N₁.grown x₂
  have hb₂ : KBw.bInts (byteArr (rangeKs 0 n)) = rangeKs 0 n := byteArr_ints (rangeKs_byte n hn4)
  clear F₁ N₁
  k_steps
  refine con_call (orders_con w 4 400 200 (by omega) (by omega) (by omega) _ _ _ hb₂ (by rw [rangeKs_length]; omega)) F₂ N₂ rfl rfl rfl rfl (Nat.le_of_ble_eq_true rfl) (Nat.le_of_ble_eq_true rfl) (by assumption) (by assumption) (by assumption) trivial ?_
  rintro r h₃ tk₃ x₃ ⟨r, us, k₃, rfl, fr, hus⟩ F₃ N₃ grow
  obtain ⟨N₄, off₄⟩ := grow _ _ fr
  simp only [LCg.Off1, and_true] at off₄
  clear N₃ grow F₂ N₂ x₂ x₃ fr
  obtain ⟨news₅, N₅, hr₅, J₅⟩ := start01 (w := w) (n := n) F₃ N₄ ⟨_, by assumption⟩ (by assumption) rfl rfl rfl (by assumption) (by assumption) (by assumption) (by assumption) (by assumption) (by assumption)
  clear N₄ off₄
  refine list_X (J01 w s₁.heap.objs.size n _ _ _ _ _ _)
    (by rfl) (N₅ _ hr₅).1 (by rfl) (by rfl) F₃ N₅ ?hold J₅ ?turn ?done (fun _ _ => rfl) PassesOwn.never
  case hold =>
    rintro i m news h ⟨tail, oc, fc, D1, D2, D3, o1, o2, o3, rfl, -⟩ F N
    exact (N _ (.head _)).1
  case turn =>
    rintro i v m₁ news₁ h₁ tk₁ I oI hv ⟨tail, oc, fc, D1, D2, D3, o1, o2, o3, rfl, hT, ⟨ov, hoc⟩, hfc, hm1, hm2, hm3, hC1, hC2, hC3⟩ hn₁ F₂ N₂
    clear J₅ N₅ hr₅ F₃ hb₂
    walk_at "drop_lt"
    obtain ⟨bv, tv, kb, hkb, rfl, hbv⟩ := hus.get hv
    obtain ⟨t3, t2, q1, q2, q3, q4, q5, q6, q7, q8⟩ := facts01 (L := s₁.heap.objs.size) N₂ hT hoc hfc hC1 hC2 hC3
    replace hn₁ := off1_of hn₁
    simp only [LCg.Off1, and_true] at hn₁
    rw [m_put hm1, m_put hm2, m_put hm3] at F₂
    k_steps
    rename Fr _ _ _ _ => F₃
    rename News _ _ _ _ => N₃
    have hkl : kb.length = n := by
      have := ordersF_len 5 _ _ (List.mem_of_getElem? hkb)
      rw [this, rangeKs_length]
    refine con_call (falls_con w bv tv kb hbv (by omega)) F₃ N₃ rfl rfl rfl rfl (Nat.le_of_ble_eq_true rfl) (Nat.le_of_ble_eq_true rfl) (by assumption) (by assumption) (by assumption) trivial ?_
    rintro vv h₄ tk₄ x₄ ⟨t₄, rfl⟩ F₄ N₄ -
    clear F₃ N₃ x₄
    k_steps
    rename Fr _ _ _ _ => F₅
    rename News _ _ _ _ => N₅
    refine cnt_put (knd := kd w) (k := (fallsN kb : Int)) F₅ N₅ (UpdF.tail ?ne (UpdF.head fun p hp => Nat.ne_of_lt (ltN p hp))) (kd_room _ (Nat.le_of_ble_eq_true rfl)) (sand_key (.head []) rfl rfl (fun _ _ => ⟨_, rfl⟩)) (fun p hp => by rw [List.mem_singleton.mp hp]; exact .head _) isN loN fun h₆ o₆ F₆ N₆ C₆ => ?_
    case ne => k_ne
    rename (@LT.lt Nat _ _ _ ∧ _) => l1
    have hL1 := Kept.mk l1
    try dsimp only at N₆
    clear F₅ N₅
    k_steps
    refine add_cnt (knd := kd w) (tl := _ :: tail) kd_room (sand_ext fun x _ => x) hC1 C₆ ?len ?md ?me (fun p hp => .tail _ hp) (fun p hp => by rw [List.mem_singleton.mp hp]; exact .head _) ?sub F₆ N₆ rfl rfl rfl rfl (Nat.le_of_ble_eq_true rfl) (Nat.le_of_ble_eq_true rfl) (by assumption) (by assumption) (by assumption) ?_
    case md => walk_at "mem_it"
    case me => walk_at "mem_it"
    case len => exact kv_small hn4
    case sub => exact sub_cons (by walk_at "mem_it") (by walk_at "sub_it")
    intro r₇ h₇ tk₇ o₇ F₇ N₇ off₇ C₇
    simp only [LCg.Off1, and_true] at off₇
    k_lt ltN
    clear F₆ N₆ C₆
    walk_at "k_one"
    rename Fr _ _ _ _ => F₈
    rename News _ _ _ _ => N₈
    replace N₈ := shrink1 N₈
    have hI := Kept.mk hn₁
    have hO := Kept.mk off₇
    clear hn₁ off₇ q1 q2 q3 q4 q5 q6 q7 q8 t2 t3 ltN
    walk_at "drop_lt"
    k_steps
    rename Fr _ _ _ _ => F₉
    rename News _ _ _ _ => N₉
    refine cnt_put (knd := kd w) (k := (overN n kb : Int)) (d := dN) F₉ N₉ (UpdF.tail ?ne (UpdF.tail ?ne2 (UpdF.head fun p hp => Nat.ne_of_lt (ltN p hp)))) (kd_room _ (Nat.le_of_ble_eq_true rfl)) (sand_key (.head []) rfl rfl ?hk) (fun p hp => by rw [List.mem_singleton.mp hp]; exact .head _) isN loN fun h₁₀ o₁₀ F₁₀ N₁₀ C₁₀ => ?_
    case ne => k_ne
    case ne2 => k_ne
    case hk => exact fun _ _ => ⟨_, by rw [over_fold hbv (by omega)]⟩
    rename (@LT.lt Nat _ _ _ ∧ _) => l1
    have hL2 := Kept.mk l1
    try dsimp only at N₁₀
    clear F₉ N₉
    k_steps
    refine add_cnt (knd := kd w) (tl := _ :: tail) kd_room (sand_ext fun x _ => x) hC2 C₁₀ ?len2 ?md2 ?me2 (fun p hp => .tail _ hp) (fun p hp => by rw [List.mem_singleton.mp hp]; exact .head _) ?sub2 F₁₀ N₁₀ rfl rfl rfl rfl (Nat.le_of_ble_eq_true rfl) (Nat.le_of_ble_eq_true rfl) (by assumption) (by assumption) (by assumption) ?_
    case md2 => walk_at "mem_it"
    case me2 => walk_at "mem_it"
    case len2 => exact kv_small hn4
    case sub2 => exact sub_cons (by walk_at "mem_it") (by walk_at "sub_it")
    intro r₁₁ h₁₁ tk₁₁ o₁₁ F₁₁ N₁₁ off₁₁ C₁₁
    simp only [LCg.Off1, and_true] at off₁₁
    have hO2 := Kept.mk off₁₁
    clear F₁₀ N₁₀ C₁₀ off₁₁ ltN
    walk_at "drop_ne"
    walk_at "k_one"
    rename Fr _ _ _ _ => F₁₂
    rename News _ _ _ _ => N₁₂
    replace N₁₂ := shrink2 N₁₂
    k_steps
    rename Fr _ _ _ _ => F₁₃
    rename News _ _ _ _ => N₁₃
    refine con_call (falls_con w bv tv kb hbv (by omega)) F₁₃ N₁₃ rfl rfl rfl rfl (Nat.le_of_ble_eq_true rfl) (Nat.le_of_ble_eq_true rfl) (by assumption) (by assumption) (by assumption) trivial ?_
    rintro vv h₁₄ tk₁₄ x₁₄ ⟨t₁₄, rfl⟩ F₁₄ N₁₄ -
    clear F₁₃ N₁₃ x₁₄
    k_steps
    rename Fr _ _ _ _ => F₁₅
    rename News _ _ _ _ => N₁₅
    refine cnt_put (knd := kd w) (k := (n : Int) - 1 - (fallsN kb : Int)) (d := dN) F₁₅ N₁₅ (UpdF.tail ?ne3 (UpdF.head fun p hp => Nat.ne_of_lt (ltN p hp))) (kd_room _ (Nat.le_of_ble_eq_true rfl)) (sand_key (.head []) rfl rfl ?hk3) (fun p hp => by rw [List.mem_singleton.mp hp]; exact .head _) isN loN fun h₁₆ o₁₆ F₁₆ N₁₆ C₁₆ => ?_
    case ne3 => k_ne
    case hk3 => exact fun _ _ => ⟨_, rfl⟩
    rename (@LT.lt Nat _ _ _ ∧ _) => l1
    have hL3 := Kept.mk l1
    try dsimp only at N₁₆
    clear F₁₅ N₁₅
    k_steps
    refine add_cnt (knd := kd w) (tl := _ :: tail) kd_room (sand_ext fun x _ => x) hC3 C₁₆ ?len3 ?md3 ?me3 (fun p hp => .tail _ hp) (fun p hp => by rw [List.mem_singleton.mp hp]; exact .head _) ?sub3 F₁₆ N₁₆ rfl rfl rfl rfl (Nat.le_of_ble_eq_true rfl) (Nat.le_of_ble_eq_true rfl) (by assumption) (by assumption) (by assumption) ?_
    case md3 => walk_at "mem_it"
    case me3 => walk_at "mem_it"
    case len3 => exact kv_small hn4
    case sub3 => exact sub_cons (by walk_at "mem_it") (by walk_at "sub_it")
    intro r₁₇ h₁₇ tk₁₇ o₁₇ F₁₇ N₁₇ off₁₇ C₁₇
    simp only [LCg.Off1, and_true] at off₁₇
    have hO3 := Kept.mk off₁₇
    clear F₁₆ N₁₆ C₁₆ off₁₇ ltN
    walk_at "drop_ne"
    k_steps
    rename Fr _ _ _ _ => F₁₈
    rename News _ _ _ _ => N₁₈
    replace N₁₈ := shrink3 N₁₈
    replace hI := hI.out
    replace hO := hO.out
    replace hO2 := hO2.out
    replace hO3 := hO3.out
    replace hL1 := hL1.out
    replace hL2 := hL2.out
    replace hL3 := hL3.out
    obtain ⟨i1, i2, i3, i4, c6, c5, c4, c3, c2, c1, i0⟩ := hI
    obtain ⟨news', N₁₉, hn', J'⟩ := end01 (I := I) (oI := oI) F₁₈ hkb N₁₈ hT ⟨_, _, rfl⟩ ⟨_, _, rfl⟩ ⟨_, _, rfl⟩ ⟨_, by assumption⟩ (by assumption) rfl rfl rfl C₇ C₁₁ C₁₇ (off1_all i0) i1 (Nat.ne_of_gt hL1.2.1) (Nat.ne_of_gt hL2.2.2.1) (Nat.ne_of_gt hL3.2.1) (Ne.symm hO.2.2.1) (Ne.symm hO2.2.2.2.1) (Ne.symm hO3.2.2.1) c1 c2 c3 c4 c5 c6
    exact ⟨_, _, _, news', rfl, F₁₈, N₁₉, hn', J'⟩
  case done =>
    rintro m₁ news₁ h₁ tk₁ ⟨tail, oc, fc, D1, D2, D3, o1, o2, o3, rfl, hT, ⟨ov, hoc⟩, hfc, hm1, hm2, hm3, hC1, hC2, hC3⟩ F₂ N₂
    clear J₅ N₅ hr₅ F₃ hb₂
    rw [m_put hm1, m_put hm2, m_put hm3] at F₂
    have hl := hus.length
    rw [kvF, kv_all hl] at hC1
    rw [kvP, kv_all hl] at hC2
    rw [kvR, kv_all hl] at hC3
    change CntD _ _ _ _ (cF n) at hC1
    change CntD _ _ _ _ (cP n) at hC2
    change CntD _ _ _ _ (cR n) at hC3
    obtain ⟨⟨p1, p2⟩, ⟨p3, p4⟩, p5⟩ := c_facts hn1 hn4
    k_steps
    refine cnt_cmp hC1 hC2 N₂ (kd_room _ (Nat.le_of_ble_eq_true rfl)) (Nat.le_of_ble_eq_true rfl) ?ma ?mb ?sa ?sa p1 p2 ?_
    case ma => walk_at "mem_it"
    case mb => walk_at "mem_it"
    case sa => walk_at "sub_it"
    k_steps
    refine cnt_cmp hC1 hC3 N₂ (kd_room _ (Nat.le_of_ble_eq_true rfl)) (Nat.le_of_ble_eq_true rfl) ?ma ?mb ?sa ?sa p3 p4 ?_
    case ma => walk_at "mem_it"
    case mb => walk_at "mem_it"
    case sa => walk_at "sub_it"
    k_steps
    refine cnt_count hC1 ?ma F₂ N₂ rfl rfl rfl rfl (Nat.le_of_ble_eq_true rfl) (Nat.le_of_ble_eq_true rfl) (by assumption) (by assumption) (by assumption) ?_
    case ma => walk_at "mem_it"
    intro h₂ tk₂ t₂ F₃ N₃
    clear F₂ N₂
    walk_at "drop_lt"
    obtain ⟨⟨a4, b4⟩, ⟨a5, b5⟩, ⟨a6, b6⟩, ⟨a3, b3⟩⟩ := facts02 (L := s₁.heap.objs.size) N₃ hT (by assumption) (by assumption) (by assumption) hoc hC1
    replace N₃ := shrink4 N₃
    k_steps
    rename Fr _ _ _ _ => F₄
    rename News _ _ _ _ => N₄
    have hsm : Builtin.Range.small 2 ((n : Int) + 1) 1 = true ∧ Builtin.Range.rangeSize 2 ((n : Int) + 1) 1 = ((n - 1 : Nat) : Int) := by
      rcases fin4 hn1 hn4 with e | e | e | e <;> rw [e] <;> decide
    walk_at "drop_lt"
    show wpAny _ _ (exec (Stmt.For _ _ _ _ _) _) _ _ _
    refine' For_X s₁.heap ?_ ?fs
    case fs => intro _; rfl
    k_steps
    rename Fr _ _ _ _ => F₅
    rename News _ _ _ _ => N₅
    replace N₅ := news_drop2 N₅
    have mk : MarkC := trivial
    refine range_X (n := n - 1) (JR s₁.heap.objs.size _ _ _ _ _ _ _ _) rfl (by assumption) hsm.1 hsm.2 F₅ N₅ ⟨rfl, _, _, _, _, _, _, rfl, by assumption, by assumption, IntsAre.cons _ _ IntsAre.nil⟩ ?turn2 ?done2 (fun _ _ => rfl) PassesOwn.never
    case turn2 =>
      rintro i t' m₂ news₂ h₃ tk₃ I oI hi ⟨rfl, R, vs, k, os, orow, sv, rfl, hrow, hos, hvs⟩ hn₃ F₆ N₆
      replace hn₃ := off1_of hn₃
      simp only [LCg.Off1, and_true, List.cons_append, List.nil_append] at hn₃ N₆
      obtain ⟨rw', hrw'⟩ : ∃ rw', rw' = rowF i := ⟨_, rfl⟩
      have hrl : rw'.length = i + 1 := by rw [hrw', rowF_len]
      rw [← hrw'] at hvs
      have r5 := cell_ne (a := R) (o := listOf vs.toArray k) (b := s₁.heap.objs.size + 1 + 1 + 1 + 1 + 1) (o' := os) N₆ (by walk_at "mem_it") rfl (by walk_at "mem_it") hos
      have r4 := cell_ne (a := R) (o := listOf vs.toArray k) (b := s₁.heap.objs.size + 1 + 1 + 1 + 1) (o' := orow) N₆ (by walk_at "mem_it") rfl (by walk_at "mem_it") hrow
      k_steps
      rename Fr _ _ _ _ => F₇
      rename News _ _ _ _ => N₇
      show LCg.CompSrc _ _ _ _ _ _ _ _ _ _ _ _ _ _
      refine LCg.CompSrc.range (n := i + 2) rfl F₇ N₇ (by assumption) (small_one (by omega) (by omega) (by omega) (by omega)) (by rw [rangeSize_nat]; omega) (by rw [sizeLine_eq]; omega) fun g => comp_ind (fun j ys news => news = _ ∧ IntsAre ys ((List.range j).map (elemF rw' (i + 2)))) (i + 2) ?step ?fin _ _ _ _ (by omega) ⟨rfl, IntsAre.nil⟩
      case step =>
        rintro j ys news hj ⟨rfl, hys⟩ v I' oI' C' oC' D' m' h₄ tk₄ E₄ ⟨tv, rfl⟩ hns hm F₈ N₈ off₈ ne₈
        k_steps
        rename Fr _ _ _ _ => F₉
        rename News _ _ _ _ => N₉
        refine LCg.CompEnd.intro F₉ N₉ _ (by walk_at "sub_it") off₈ trivial ⟨rfl, ?_⟩
        rw [List.range_succ, List.map_append]
        refine hys.append (ints_one ?_)
        unfold elemF
        rw [show (0 + (j : Int)).toNat = j by omega, show (0 + (j : Int) + 1) = (j : Int) + 1 by omega, show (2 + (i : Int) - (0 + (j : Int))) = ((i + 2 : Nat) : Int) - j by omega]
      case fin =>
        rintro ys news ⟨rfl, hys⟩ D₂ h₄ tk₄ F₈ N₈ off₈
        simp only [LCg.Off1, and_true] at off₈
        k_steps
        rename Fr _ _ _ _ => F₉
        rename News _ _ _ _ => N₉
        obtain ⟨news', N', hn', J'⟩ := endR N₉ (by assumption) (by assumption) (by rw [rowF, ← hrw']; exact hys) off₈.1 hn₃
        exact ⟨_, _, _, news', rfl, F₉, N', hn', J'⟩
    case done2 =>
      rintro m₂ news₂ h₃ tk₃ ⟨rfl, R, vs, k, os, orow, sv, rfl, hrow, hos, hvs⟩ F₆ N₆
      simp only [List.cons_append, List.nil_append] at N₆
      obtain ⟨rw', hrw'⟩ : ∃ rw', rw' = rowF (n - 1) := ⟨_, rfl⟩
      have hrl : rw'.length = n := by rw [hrw', rowF_len]; omega
      rw [← hrw'] at hvs
      k_steps
      rename Fr _ _ _ _ => F₇
      rename News _ _ _ _ => N₇
      show LCg.CompSrc _ _ _ _ _ _ _ _ _ _ _ _ _ _
      refine LCg.CompSrc.range (n := n) rfl F₇ N₇ (by assumption) (small_one (by omega) (by omega) (by omega) (by omega)) (by rw [rangeSize_nat]; omega) (by rw [sizeLine_eq]; omega) fun g => comp_ind (fun j ys news => news = _ ∧ IntsAre ys ((List.range j).map fun (k : Nat) => lookKV (cF n) (k : Int))) n ?step3 ?fin3 _ _ _ _ (by omega) ⟨rfl, IntsAre.nil⟩
      case step3 =>
        rintro j ys news hj ⟨rfl, hys⟩ v I' oI' C' oC' D' m' h₄ tk₄ E₄ ⟨tv, rfl⟩ hns hm F₈ N₈ off₈ ne₈
        k_steps
        refine Call_get2_X (knd := kd w) (kd_room _ (Nat.le_of_ble_eq_true rfl)) (cnt_sys hC1) ?_ rfl rfl rfl
        k_steps
        refine ⟨rfl, cnt_raw hC1 N₈ (by walk_at "mem_it"), ?_⟩
        k_steps
        rename Fr _ _ _ _ => F₉
        rename News _ _ _ _ => N₉
        refine cnt_getfin hC1 N₉ (by walk_at "mem_it") (by walk_at "sub_it") (sand_key (.head []) rfl rfl (fun _ _ => ⟨_, rfl⟩)) (fun p hp => by rw [List.mem_singleton.mp hp]; exact .head _) fun t => ?_
        refine LCg.CompEnd.intro F₉ N₉ _ (by walk_at "sub_it") off₈ trivial ⟨rfl, ?_⟩
        rw [List.range_succ, List.map_append]
        exact hys.append (ints_one (by rw [Int.zero_add]))
      case fin3 =>
        rintro ys news ⟨rfl, hys⟩ D₂ h₄ tk₄ F₈ N₈ off₈
        simp only [LCg.Off1, and_true] at off₈
        iterate 2 (walk_at "k_one")
        rw [hrw', eul_ok hn1 hn4, ← hrw', decide_eq_true rfl]
        k_steps
        have N₉ := shrinkN N₈
        have r6 := cell_ne (a := R) (o := listOf vs.toArray k) (b := s₁.heap.objs.size + 1 + 1 + 1 + 1 + 1 + 1) N₉ (by walk_at "mem_it") rfl (by walk_at "mem_it") (by assumption)
        (try clear N₈); (try clear N₇); (try clear N₆); (try clear N₅); (try clear N₄); (try clear N₃); (try clear a3); (try clear a4); (try clear a5); (try clear a6); (try clear b3); (try clear b4); (try clear b5); (try clear b6); (try clear off₈); (try clear hC1); (try clear hC2); (try clear hC3); (try clear p1); (try clear p2); (try clear p3); (try clear p4); (try clear p5); (try clear F₇); (try clear F₆); (try clear F₅); (try clear F₄); (try clear F₃)
        show wpAny _ _ (exec (Stmt.For _ _ _ _ _) _) _ _ _
        refine' For_X s₁.heap ?_ ?fs
        case fs => intro _; rfl
        k_steps
        rename Fr _ _ _ _ => F₁₀
        rename News _ _ _ _ => N₁₀
        refine range_X (n := 6) (fun _ => JN s₁.heap.objs.size R (listOf vs.toArray k) _ _ _ _ _ _) rfl (by assumption) (small_one (by omega) (by omega) (by omega) (by omega)) (by rw [rangeSize_nat]; rfl) F₁₀ N₁₀ ⟨rfl, _, _, rfl, by assumption⟩ ?turn4 ?done4 (fun _ _ => rfl) PassesOwn.never
        case turn4 =>
          rintro i t' m₂ news₂ h₃ tk₃ I oI hi ⟨rfl, onum, nv, rfl, hnum⟩ hn₃ F₆ N₆
          replace hn₃ := off1_of hn₃
          have hnK := Kept.mk hn₃
          simp only [LCg.Off1, and_true] at hn₃
          k_steps
          rename Fr _ _ _ _ => F₇
          rename News _ _ _ _ => N₇
          show LCg.CompSrc _ _ _ _ _ _ _ _ _ _ _ _ _ _
          refine LCg.CompSrc.range (n := n) rfl F₇ N₇ (by assumption) (small_one (by omega) (by omega) (by omega) (by omega)) (by rw [rangeSize_nat]; omega) (by rw [sizeLine_eq]; omega) fun g => comp_ind (fun j ys news => news = _ ∧ IntsAre ys ((List.range j).map fun (k : Nat) => rw'.getD k 0 * waysN ((i : Int) + n - 1 - k) n)) n ?step4 ?fin4 _ _ _ _ (by omega) ⟨rfl, IntsAre.nil⟩
          case step4 =>
            rintro j ys news hj ⟨rfl, hys⟩ v I' oI' C' oC' D' m' h₄ tk₄ E₄ ⟨tv, rfl⟩ hns hm F₈ N₈ off₈ ne₈
            k_steps
            rename Fr _ _ _ _ => F₉
            rename News _ _ _ _ => N₉
            refine con_call (ways_con w (0 + (i : Int) + n - 1 - (0 + (j : Int))) n _ _ (by omega) (by omega) (by omega) (by omega)) F₉ N₉ rfl rfl rfl rfl (Nat.le_of_ble_eq_true rfl) (Nat.le_of_ble_eq_true rfl) (by assumption) (by assumption) (by assumption) trivial ?_
            rintro vv h₅ tk₅ x₅ ⟨t₅, rfl⟩ F₁₁ N₁₁ -
            clear F₉ N₉ x₅
            have wb := ways_bound (a := 0 + (i : Int) + n - 1 - (0 + (j : Int))) (b := n) (by omega) (by omega) (by omega) (by omega)
            k_steps
            rename Fr _ _ _ _ => F₉
            rename News _ _ _ _ => N₉
            show LCg.CompEnd _ _ _ _ _ _ _ _ _ _ _ _ _ _
            refine LCg.CompEnd.intro F₉ N₉ _ (by walk_at "sub_it") off₈ trivial ⟨rfl, ?_⟩
            rw [List.range_succ, List.map_append]
            refine hys.append (ints_one ?_)
            rw [show (0 + (j : Int)).toNat = j by omega, Int.zero_add, Int.zero_add]
          case fin4 =>
            rintro ys news ⟨rfl, hys⟩ D₂ h₄ tk₄ F₈ N₈ off₈
            simp only [LCg.Off1, and_true] at off₈
            have hw : (List.map (fun (k : Nat) => rw'.getD k 0 * waysN ((i : Int) + n - 1 - k) n) (List.range n)).sum = (0 + (i : Int)) ^ ((n : Int)).toNat := by
              rw [hrw', Int.zero_add, Int.toNat_natCast]
              exact worp_ok hn1 hn4 hi
            k_steps
            · exact absurd hw (by assumption)
            · rename Fr _ _ _ _ => F₉
              rename News _ _ _ _ => N₉
              exact ⟨_, _, _, _, rfl, F₉, news_drop N₉, off1_all hnK.out, rfl, _, _, rfl, by assumption⟩
        case done4 =>
          rintro m₂ news₂ h₃ tk₃ ⟨rfl, onum, nv, rfl, hnum⟩ F₆ N₆
          k_steps
          rename_i Dl lv kl _ _ hI lL Dd _ lD _ _ _ _ _ FE NE _ _ F₇ N₇
          obtain ⟨c, hce, hc1, hc7, hcx⟩ := len_c xs.length
          rw [hce] at hI
          clear hce FE NE
          have hIl := hI.length
          rw [rangeKs_length] at hIl
          (try clear F₆); (try clear N₆); (try clear r6); (try clear hyl)
          replace N₇ := shrinkD N₇
          refine' For_X s₁.heap ?_ ?fs
          case fs => intro _; rfl
          k_steps
          rename_i S wsS _ F₈ N₈ hIS _ _ lS
          replace N₈ := shrinkS N₈
          have hSl : wsS.length = c := by
            rw [hIS.length, List.length_take, rangeKs_length, List.length_append, List.length_singleton, Int.toNat_natCast]
            omega
          have g1 : @Ne Nat S Dd := by k_ne
          have g2 : @Ne Nat S Dl := by k_ne
          have g3 : @Ne Nat Dd Dl := by k_ne
          refine list_X (JD S (listOf wsS.toArray 0) Dd Dl c (s₁.heap.objs.size + 1 + 1 + 1 + 1 + 1 + 1) [(s₁.heap.objs.size + 1 + 1 + 1 + 1 + 1, os), (s₁.heap.objs.size + 1 + 1 + 1 + 1, orow), (s₁.heap.objs.size + 1 + 1 + 1, _), (s₁.heap.objs.size + 1 + 1, _), (s₁.heap.objs.size + 1, _)])
            (by rfl) (N₈ _ (.head _)).1 (by rfl) (by rfl) F₈ N₈ ?hold5 ⟨rfl, rfl, [], lv, _, _, [], _, _, _, rfl, by assumption, IntsAre.nil, hI, drawn_start hc7⟩ ?turn5 ?done5 (fun _ _ => rfl) PassesOwn.never
          case hold5 =>
            rintro i m news h ⟨-, -, dvs, lvs, k1, k2, ds, ls, onum, nv, rfl, -⟩ F N
            exact (N _ (.head _)).1
          case turn5 =>
            rintro i v m₁ news₁ h₁ tk₁ I oI hv ⟨hm1, hm2, dvs, lvs, k1, k2, ds, ls, onum, nv, rfl, hnum, hds, hls, hDr⟩ hn F₉ N₉
            obtain ⟨num, tn, rfl, -⟩ := hIS.at _ _ hv
            rw [m_put hm1, m_put hm2] at F₉
            replace hn := off1_of hn
            have hnK := Kept.mk hn
            simp only [LCg.Off1, and_true] at hn
            have hd1 := hDr.1
            have hd2 := hDr.2.1
            have hic : i < c := hSl ▸ (List.getElem?_eq_some_iff.mp hv).1
            have hl1 := hls.length
            k_steps
            rename Fr _ _ _ _ => F₁₀
            rename News _ _ _ _ => N₁₀
            have hq0 : 0 ≤ num.fmod (ls.length : Int) := Int.fmod_nonneg_of_pos _ (by omega)
            have hq1 : num.fmod (ls.length : Int) < (ls.length : Int) := Int.fmod_lt_of_pos _ (by omega)
            refine popAt_ints F₁₀ N₁₀ hls hq0 (by omega) (by omega) (by k_upd) fun h₁₁ t₁₁ F₁₁ N₁₁ hls' => ?_
            obtain ⟨q, hq⟩ : ∃ q : Nat, (num.fmod (ls.length : Int)).toNat = q := ⟨_, rfl⟩
            rw [hq] at N₁₁ hls' ⊢
            have hql : q < ls.length := by omega
            clear hq hq0 hq1 F₁₀ N₁₀
            (try dsimp only at N₁₁)
            k_steps
            rename Fr _ _ _ _ => F₁₂
            rename News _ _ _ _ => N₁₂
            simp only [List.push_toArray] at N₁₂
            exact ⟨_, _, _, _, rfl, F₁₂, N₁₂, off1_all hnK.out, rfl, rfl, dvs ++ [_], _, _, _, _, _, _, _, rfl, by assumption, hds.append (ints_one rfl), hls', drawn_next hDr hql⟩
          case done5 =>
            rintro m₁ news₁ h₁ tk₁ ⟨hm1, hm2, dvs, lvs, k1, k2, ds, ls, onum, nv, rfl, hnum, hds, hls, hDr⟩ F₉ N₉
            rw [m_put hm1, m_put hm2] at F₉
            rw [hSl] at hDr
            have hd1 := hDr.1
            have hl1 := hds.length
            have hdin : ∀ x ∈ ds, 0 ≤ x ∧ x < 256 := fun x hx => by
              have := hDr.2.2.2 x (List.mem_append_left _ hx)
              omega
            have hbb : KBw.bInts (byteArr ds) = ds := byteArr_ints hdin
            k_steps
            rename Fr _ _ _ _ => F₁₀
            rename News _ _ _ _ => N₁₀
            show wpN _ _ (execs _ _) _ _ _
            refine wpN_execs_cons (wpN_Assign_Name ?_ ?_)
            case refine_2 => rfl
            refine wpN_Call_ofName ?_
            k_steps
            refine callWithN_K (K := hd01.heap_39 w.params) (by k_in) (by k_is) ?_
            k_steps
            rename Fr _ _ _ _ => F₁₁
            rename News _ _ _ _ => N₁₁
            (try clear F₁₀); (try clear N₁₀)
            refine con_callN (swap_con w (byteArr ds) _ _ ds hbb (by omega) (by omega)) F₁₁ N₁₁ rfl rfl rfl rfl (Nat.le_of_ble_eq_true rfl) (Nat.le_of_ble_eq_true rfl) (by assumption) (by assumption) (by assumption) trivial ?_
            rintro vv h₁₂ tk₁₂ x₁₂ ⟨bt, t₁₂, rfl, hbt⟩ F₁₂ N₁₂ -
            clear F₁₁ N₁₁ x₁₂
            k_steps
            show wpN _ _ (execs _ _) _ _ _
            refine wpN_any ?_
            have hdin' : ∀ x ∈ ds.reverse, 0 ≤ x ∧ x < 256 := fun x hx => hdin x (List.mem_reverse.mp hx)
            have hbb' : KBw.bInts (byteArr ds.reverse) = ds.reverse := byteArr_ints hdin'
            iterate 22 (walk_at "k_one")
            have heqb : (bt.toList == (byteArr ds.reverse).toList) = true := by rw [bInts_inj (hbt.trans hbb'.symm)]; simp
            rw [heqb]
            k_steps
            rename Fr _ _ _ _ => F₁₃
            rename News _ _ _ _ => N₁₃
            refine con_call (falls_con w bt _ ds.reverse hbt (by rw [List.length_reverse]; omega)) F₁₃ N₁₃ rfl rfl rfl rfl (Nat.le_of_ble_eq_true rfl) (Nat.le_of_ble_eq_true rfl) (by assumption) (by assumption) (by assumption) trivial ?_
            rintro vv h₁₄ tk₁₄ x₁₄ ⟨t₁₄, rfl⟩ F₁₄ N₁₄ -
            clear F₁₃ N₁₃ x₁₄
            k_steps
            rename Fr _ _ _ _ => F₁₅
            rename News _ _ _ _ => N₁₅
            refine con_call (falls_con w (byteArr ds) _ ds hbb (by omega)) F₁₅ N₁₅ rfl rfl rfl rfl (Nat.le_of_ble_eq_true rfl) (Nat.le_of_ble_eq_true rfl) (by assumption) (by assumption) (by assumption) trivial ?_
            rintro vv h₁₆ tk₁₆ x₁₆ ⟨t₁₆, rfl⟩ F₁₆ N₁₆ -
            clear F₁₅ N₁₅ x₁₆
            have hft := falls_turned (ds := ds) (List.Nodup.sublist (List.sublist_append_left ds ls) hDr.2.2.1) (by omega)
            k_steps
  )
end Mine
end
set_option maxRecDepth 100000 in
set_option maxHeartbeats 8000000 in
theorem PySem.Challenge.cw_ia0001_01_holds : PySem.Challenge.rw_ia0001_01.Holds := by
  exact Mine.law1
