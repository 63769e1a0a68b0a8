import PyProof.Rows.All
import Wide.All
import OpenK.AllK
import Wide.FinOn
import PySem.Challenge.RW_kn0092_01
set_option Elab.async false

section
open PySem PySem.W PyProof.Rows PySem.Calls PySem.Spec PyProof.V
set_option maxRecDepth 100000
namespace Mine

/-- the end of a turn: the iterator stands, the rest is J's -/
def JEnd (h₀ : Heap) (L : Addr) (s₁ : Shared) (I : Addr) (it : Obj) (J : (Str → Option Value) → List (Addr × Obj) → Prop) (s₂ : Shared) : Prop :=
  ∃ h' tk m' news', s₂ = { s₁ with heap := h', toks := tk } ∧ Fr h₀ L h' m' ∧ News h₀ L h' ((I, it) :: news') ∧ (∀ p ∈ news', p.1 ≠ I) ∧ J m' news'
def JPost (h₀ : Heap) (L : Addr) (s₁ : Shared) (I : Addr) (it : Obj) (J : (Str → Option Value) → List (Addr × Obj) → Prop) (Q : Flow → Shared → Prop) (f : Flow) (s₂ : Shared) : Prop :=
  match f with
  | .ret v => Q (.ret v) s₂
  | .brk => Q .next s₂
  | _ => JEnd h₀ L s₁ I it J s₂
theorem JEnd.intro {h₀ : Heap} {L I : Addr} {it : Obj} {J : (Str → Option Value) → List (Addr × Obj) → Prop} {s₁ : Shared} {h' : Heap} {tk : Nat} {m' : Str → Option Value} {all : List (Addr × Obj)}
    (F : Fr h₀ L h' m') (N : News h₀ L h' all) (news' : List (Addr × Obj)) (hI : (I, it) ∈ all) (sub : ∀ p ∈ news', p ∈ all) (off : ∀ p ∈ news', p.1 ≠ I) (r : J m' news') :
    JEnd h₀ L s₁ I it J { s₁ with heap := h', toks := tk } :=
  ⟨h', tk, m', news', rfl, F, fun p hp => N p (by rcases List.mem_cons.mp hp with rfl | hp; exact hI; exact sub p hp), off, r⟩

section
variable {prog : Program} {w : World} {A : Around} {E : Value → Shared → Prop} {s : Shared} {env : Env} {h₀ : Heap} {x : Str} {body : List Stmt} {Q : Flow → Shared → Prop}

/-- a loop over a range, by an invariant over the names and the ledger -/
theorem iter_rangeJ {r : Addr} {a₀ b₀ c : Int} {t₀ u₀ v₀ : Tok} {n : Nat} {m₀ : Str → Option Value} {news : List (Addr × Obj)} (J : Nat → (Str → Option Value) → List (Addr × Obj) → Prop)
    (hh : A.handled = none) (hr : IsRange s.heap r a₀ b₀ c t₀ u₀ v₀) (hsmall : Builtin.Range.small a₀ b₀ c = true) (hn : Builtin.Range.rangeSize a₀ b₀ c = (n : Int)) (F : Fr h₀ env.locals s.heap m₀) (N : News h₀ env.locals s.heap news) (hj : J 0 m₀ news)
    (turn : ∀ I : Addr, (∀ p ∈ news, p.1 < I) → ∀ i t h tk m₁ news₁, i < n → J i m₁ news₁ → (∀ p ∈ news₁, p.1 ≠ I) → Fr h₀ env.locals h (fun y => if y = x then some (.int (a₀ + (i : Int) * c) t) else m₁ y) →
      News h₀ env.locals h ((I, krsIt (a₀ + ((i + 1 : Nat) : Int) * c) ((n : Int) - ((i + 1 : Nat) : Int)) c) :: news₁) →
      wpAny (model prog w) A (execs body env) (JPost h₀ env.locals { s with heap := h, toks := tk } I (krsIt (a₀ + ((i + 1 : Nat) : Int) * c) ((n : Int) - ((i + 1 : Nat) : Int)) c) (J (i + 1)) Q) E { s with heap := h, toks := tk })
    (done : ∀ m₁ news₁ h tk, J n m₁ news₁ → Fr h₀ env.locals h m₁ → News h₀ env.locals h news₁ → Q .next { s with heap := h, toks := tk }) :
    wpAny (model prog w) A (pyIter (.ref r)) (fun it s₂ => LoopAtV prog w A h₀ env x body Q E it s₂) E s := by
  refine wpAny_pyIter_range hr hsmall ?_
  have rest := turn s.heap.objs.size fun p hp => Heap.lt_size (N p hp).1
  have W : Walks prog w A s.heap.objs.size [s.heap.objs.size] [s.heap.objs.size] n (fun i v => i < n ∧ ∃ t, v = .int (a₀ + i * c) t)
      (fun i h => IsRangeIter h s.heap.objs.size (a₀ + (i : Nat) * c) ((n : Int) - (i : Nat)) c) := (Walks.range hh _ a₀ c n).bound
  have hnew := next_is_new F
  refine ⟨_, _, _, n, _, _, m₀, news, J, rfl, W, ?_, ?_, ?_, (by show IsRangeIter _ _ _ _ _; rw [hn]; simpa using Heap.get?_push_size _ rfl), F.push _, (fun p hp => ⟨Heap.get?_push_of_some _ (N p hp).1, (N p hp).2⟩), hj, ?_, ?_⟩
  · intro hm
    exact absurd F.ns.lt ((List.mem_singleton.mp hm) ▸ Nat.lt_irrefl _)
  · intro b hb
    rw [List.mem_singleton.mp hb]
    exact hnew
  · intro p hp hI
    exact absurd (Heap.lt_size (N p hp).1) ((List.mem_singleton.mp hI) ▸ Nat.lt_irrefl _)
  · rintro i v m₁ news₁ s₁ own ⟨hh', tk', rfl⟩ hin ⟨_, t, rfl⟩ hJ hoff hown hget hall hst F₁ N₁
    have hst' : hh'.get? s.heap.objs.size = some (krsIt (a₀ + ((i + 1 : Nat) : Int) * c) ((n : Int) - ((i + 1 : Nat) : Int)) c) := hst
    have hmem := hall s.heap.objs.size (List.mem_singleton.mpr rfl) hnew _ hst'
    have N₂ : News h₀ env.locals hh' ((s.heap.objs.size, krsIt (a₀ + ((i + 1 : Nat) : Int) * c) ((n : Int) - ((i + 1 : Nat) : Int)) c) :: news₁) := fun p hp => by
      rcases List.mem_cons.mp hp with rfl | hp
      · exact N₁ _ (List.mem_append_left _ hmem)
      · exact N₁ _ (List.mem_append_right _ hp)
    refine wpAny_mono (rest i t hh' tk' m₁ news₁ hin hJ (fun p hp e => hoff p hp (List.mem_singleton.mpr e)) F₁ N₂) (fun f s₂ p => ?_) fun _ _ e => e
    have fin : JEnd h₀ env.locals { s with heap := hh', toks := tk' } s.heap.objs.size (krsIt (a₀ + ((i + 1 : Nat) : Int) * c) ((n : Int) - ((i + 1 : Nat) : Int)) c) (J (i + 1)) s₂ →
        LoopStepU h₀ env.locals [s.heap.objs.size] own (J (i + 1)) { s with heap := hh', toks := tk' } .next s₂ := by
      rintro ⟨h', tk, m', news', e, F', N', ho, r⟩
      refine ⟨rfl, h', tk, m', news', e, F', fun p hp => ?_, fun p hp hI => ho p hp (List.mem_singleton.mp hI), r⟩
      rcases List.mem_append.mp hp with hp | hp
      · have h1 : p.1 = s.heap.objs.size := List.mem_singleton.mp (hown p hp)
        have h2 : hh'.get? p.1 = some p.2 := hget p hp
        have h3 : p = (s.heap.objs.size, krsIt (a₀ + ((i + 1 : Nat) : Int) * c) ((n : Int) - ((i + 1 : Nat) : Int)) c) := by
          rw [h1, hst'] at h2
          exact Prod.ext h1 (Option.some.inj h2).symm
        rw [h3]; exact N' _ (List.mem_cons_self ..)
      · exact N' _ (List.mem_cons_of_mem _ hp)
    cases f with
    | ret v => exact .ret p
    | brk => exact .brk p
    | next => exact .next (fin p)
    | cont => exact .cont (fin p)
  · rintro h' tk m' news' F' N' _ hJ
    exact done m' news' h' tk hJ F' N'

/-- a loop over a list of the ledger that stays as it is, by an invariant over the names and the ledger -/
theorem iter_listJ {l : Addr} {vs : List Value} {nn : Nat} {m₀ : Str → Option Value} {news : List (Addr × Obj)} (J : Nat → (Str → Option Value) → List (Addr × Obj) → Prop)
    (hh : A.handled = none) (hl : (l, listOf vs.toArray nn) ∈ news) (F : Fr h₀ env.locals s.heap m₀) (N : News h₀ env.locals s.heap news) (hj : J 0 m₀ news)
    (hJl : ∀ i m₁ news₁, J i m₁ news₁ → (l, listOf vs.toArray nn) ∈ news₁)
    (turn : ∀ I : Addr, (∀ p ∈ news, p.1 < I) → ∀ it i v h tk m₁ news₁, vs[i]? = some v → J i m₁ news₁ → (∀ p ∈ news₁, p.1 ≠ I) → Fr h₀ env.locals h (fun y => if y = x then some v else m₁ y) →
      News h₀ env.locals h ((I, it) :: news₁) →
      wpAny (model prog w) A (execs body env) (JPost h₀ env.locals { s with heap := h, toks := tk } I it (J (i + 1)) Q) E { s with heap := h, toks := tk })
    (done : ∀ m₁ news₁ h tk, J vs.length m₁ news₁ → Fr h₀ env.locals h m₁ → News h₀ env.locals h news₁ → Q .next { s with heap := h, toks := tk }) :
    wpAny (model prog w) A (pyIter (.ref l)) (fun it s₂ => LoopAtV prog w A h₀ env x body Q E it s₂) E s := by
  have hol : s.heap.get? l = some (listOf vs.toArray nn) := (N _ hl).1
  have hls : s.heap.IsList l vs.toArray := ⟨_, hol, rfl, nn, rfl⟩
  have hne : l ≠ s.heap.objs.size := Nat.ne_of_lt (Heap.lt_size hol)
  refine wpAny_pyIter_list hls ?_
  have W := Walks.list (prog := prog) (w := w) hh s.heap.objs.size l hne vs.toArray
  have hlen : vs.toArray.size = vs.length := by simp
  rw [hlen] at W
  have hnew := next_is_new F
  have rest := turn s.heap.objs.size fun p hp => Heap.lt_size (N p hp).1
  refine ⟨_, _, _, vs.length, _, _, m₀, news, J, rfl, W, ?_, ?_, ?_, ⟨⟨_, Heap.get?_push_size _ rfl, rfl, rfl⟩, hls.at fun o e => Heap.get?_push_of_some _ e⟩, F.push _, (fun p hp => ⟨Heap.get?_push_of_some _ (N p hp).1, (N p hp).2⟩), hj, ?_, ?_⟩
  · intro hm
    rcases List.mem_cons.mp hm with e | hm
    · exact absurd F.ns.lt (e ▸ Nat.lt_irrefl _)
    · exact (N _ hl).2.1 ((List.mem_singleton.mp hm).symm)
  · intro b hb
    rw [List.mem_singleton.mp hb]
    exact hnew
  · intro p hp hI
    exact absurd (Heap.lt_size (N p hp).1) ((List.mem_singleton.mp hI) ▸ Nat.lt_irrefl _)
  · rintro i v m₁ news₁ s₁ own ⟨hh', tk', rfl⟩ hin hP hJ hoff hown hget hfp hst F₁ N₁
    have hx : vs[i]? = some v := by simpa using hP
    obtain ⟨it, hit, _, _⟩ := hst.1
    have hit' : hh'.get? s.heap.objs.size = some it := hit
    have hmem := hfp s.heap.objs.size (.head _) hnew _ hit'
    have hl₁ := hJl i m₁ news₁ hJ
    have hlo : hh'.get? l = some (listOf vs.toArray nn) := (N₁ _ (List.mem_append.mpr (.inr hl₁))).1
    have N₂ : News h₀ env.locals hh' ((s.heap.objs.size, it) :: news₁) := fun p hp => by
      rcases List.mem_cons.mp hp with rfl | hp
      · exact N₁ _ (List.mem_append_left _ hmem)
      · exact N₁ _ (List.mem_append_right _ hp)
    refine wpAny_mono (rest it i v hh' tk' m₁ news₁ hx hJ (fun p hp e => hoff p hp (List.mem_singleton.mpr e)) F₁ N₂) (fun f s₂ p => ?_) fun _ _ e => e
    have fin : JEnd h₀ env.locals { s with heap := hh', toks := tk' } s.heap.objs.size it (J (i + 1)) s₂ →
        LoopStepU h₀ env.locals [s.heap.objs.size] own (J (i + 1)) { s with heap := hh', toks := tk' } .next s₂ := by
      rintro ⟨h', tk, m', news', e, F', N', ho, r⟩
      refine ⟨rfl, h', tk, m', news', e, F', fun p hp => ?_, fun p hp hI => ho p hp (List.mem_singleton.mp hI), r⟩
      rcases List.mem_append.mp hp with hp | hp
      · have h2 : hh'.get? p.1 = some p.2 := hget p hp
        rcases List.mem_cons.mp (hown p hp) with h1 | h1
        · rw [h1, hit'] at h2
          have h3 : p = (s.heap.objs.size, it) := Prod.ext h1 (Option.some.inj h2).symm
          rw [h3]; exact N' _ (List.mem_cons_self ..)
        · have h1 := List.mem_singleton.mp h1
          rw [h1, hlo] at h2
          have h3 : p = (l, listOf vs.toArray nn) := Prod.ext h1 (Option.some.inj h2).symm
          rw [h3]; exact N' _ (List.mem_cons_of_mem _ (hJl (i + 1) m' news' r))
      · exact N' _ (List.mem_cons_of_mem _ hp)
    cases f with
    | ret v => exact .ret p
    | brk => exact .brk p
    | next => exact .next (fin p)
    | cont => exact .cont (fin p)
  · rintro h' tk m' news' F' N' _ hJ
    exact done m' news' h' tk hJ F' N'
end
theorem Fr.ext {h₀ h : Heap} {L : Addr} {m m' : Str → Option Value} (F : Fr h₀ L h m) (e : ∀ z, m z = m' z) : Fr h₀ L h m' := (funext e : m = m') ▸ F
end Mine
end

section
open PySem PySem.W PyProof.Rows PySem.Calls PySem.Spec
set_option maxRecDepth 100000
namespace Mine
section
variable {prog : Program} {w : World} {A₀ A : Around} {s : Shared} {base h₀ : Heap} {outer : List Env} {L : Addr} {m : Str → Option Value} {env : Env} {news : List (Addr × Obj)} {K : Frag} {p : Program} {loose : List Str} {mean : ExcName → Option Value} {mg mb : Str → Option Value}
    {R : Result → Shared → Prop} {name qual : Str} {params : Arguments} {body : List Stmt} {scope : Scope} {dV kV doc pm cdv ct oc : Value} {an od : Option Addr} {osl : Array (Option Value)} {f : Addr} {args : Args} {binds : List (Str × Value)}
theorem enterX (B : Below A₀ base outer h₀) (F : Fr h₀ L s.heap m) (N : News h₀ L s.heap news) (hA : A.frames = some (env :: outer)) (hf : env.frame = some L) (hke : env.scope.kind = .function) :
    ∃ oL es ep, (hideAll s.heap (news.map (·.1))).get? L = some oL ∧ oL.data = .dict es ep ∧ (∀ h', h'.get? L = some oL → Heap.Ns h' L m) ∧ (∀ (sl : Array (Option Value)) h', h'.get? L = some { oL with slots := sl } → Heap.Ns h' L m) ∧
      h₀.StaysIn (hideAll s.heap (news.map (·.1))) ∧ Below A base (env :: outer) (hideAll s.heap (news.map (·.1))) := by
  have nm : ∀ b o, h₀.get? b = some o → b ∉ news.map (·.1) := fun b o e q => by
    obtain ⟨p, hp, rfl⟩ := List.mem_map.mp q
    rw [(N p hp).2.2] at e; cases e
  have st : h₀.StaysIn (hideAll s.heap (news.map (·.1))) := fun b o e => hideAll_get _ (F.keep b o e) (nm b o e)
  obtain ⟨oL, es, ep, hL, hLd, hLk, hLf⟩ := F.ns
  have nL : L ∉ news.map (·.1) := fun q => by
    obtain ⟨p, hp, e⟩ := List.mem_map.mp q
    exact (N p hp).2.1 e
  have hLg := hideAll_get (news.map (·.1)) hL nL
  have B₁ := pushX B F hf hke
  exact ⟨oL, es, ep, hLg, hLd, fun h' e => ⟨oL, es, ep, e, hLd, hLk, hLf⟩, fun sl h' e => ⟨_, es, ep, e, hLd, hLk, hLf⟩, st, ⟨hA, fun b o e => st b o (B.stays b o e), funFrames_hideAll B₁.frames fun env' he b hb hf' => by
    cases he with
    | head => exact nL ((Option.some.inj (hf.symm.trans hf') : L = b) ▸ hb)
    | tail _ he =>
      obtain ⟨L₁, o₁, hf₁, ho₁⟩ := funFrames_in B.frames env' he
      rw [hf₁] at hf'
      exact nm L₁ o₁ ho₁ ((Option.some.inj hf' : L₁ = b) ▸ hb)⟩⟩
theorem one_frame (hf : env.frame = some L) {b : Addr} (h : b ∈ [env].filterMap (·.frame)) : b = L := by
  obtain ⟨env', he, hf'⟩ := List.mem_filterMap.mp h
  rw [List.mem_singleton.mp he, hf] at hf'
  exact (Option.some.inj hf').symm

theorem code_defSX0 (B : Below A₀ base [] h₀) (F : Fr h₀ L s.heap m) (X₀ : K.In h₀) (N : News h₀ L s.heap news) (T : Top p loose mean mg mb h₀) (hA : A.frames = some [env]) (hf : env.frame = some L) (hke : env.scope.kind = .function)
    (ho : K.lookup f = some ⟨oc, od, .func (fnOf name qual params body scope dV kV doc pm an cdv ct), osl⟩) (hcd : codeIn K cdv qual = true) (hroom : A.depth < recursionLimit)
    (hbind : BindsTo s (fnOf name qual params body scope dV kV doc pm an cdv ct) args binds) (hloc : ∀ y ∈ binds, scope.names.lookup y.1 = some .local)
    (h : ∀ g L' h₁, Fr h₀ L g m → Fr g L' h₁ (fun y => binds.reverse.lookup y) → News g L' h₁ news → Below A base [env] g → K.In g → Top p loose mean mg mb g → KtsDicts ([env].filterMap (·.frame)) g →
      wpAny (model prog w) (A.deeper (envOf qual scope L' f cdv)) (execs body (envOf qual scope L' f cdv))
        (fun fl s' => LeaveS0 ([env].filterMap (·.frame)) h₀ L m g R (match fl with | .ret v => v | _ => .none) s')
        (fun e s' => wpAny (model prog w) (A.deeper (envOf qual scope L' f cdv)) (leaving (envOf qual scope L' f cdv) e) (fun _ s'' => R (.error e) s'') (fun e' s'' => R (.error e') s'') s')
        { s with heap := h₁, toks := s.toks + binds.length })
    (hco : scope.isCoroutine = false) (hgen : scope.isGenerator = false) (hk : scope.kind = .function)
    (hcell : ∀ x ∈ scope.names, x.2 ≠ .cell) : codeAny (model prog w) A (.call (.ref f) args) R s := by
  have X := X₀.keeps F.keep
  refine codeAny_call_def (fd := fnOf name qual params body scope dV kV doc pm an cdv ct) (body := body) (binds := binds) hroom (X _ _ ho) rfl (T.nolimit.keeps F.keep) (codeRec_of X hcd) rfl hbind hcell hloc (fun h₁ hns hk₁ => ?_) hco hgen hk
  obtain ⟨oL, es, ep, hLg, hLd, hN, hNs, st, B₂⟩ := enterX B F N hA hf hke
  refine wpAny_mono (h _ s.heap.objs.size h₁ ⟨hN _ hLg, st, F.above⟩ ⟨hns, fun b o e => hk₁ b o (of_hideAll _ e), Nat.le_of_eq (hideAll_size _ _)⟩
    (fun p hp => ⟨hk₁ _ _ (N p hp).1, Nat.ne_of_lt (Heap.lt_size (N p hp).1), hideAll_none _ (List.mem_map_of_mem hp)⟩) B₂ (X₀.keeps st) (T.keeps st) (fun b hb => by
      rw [one_frame hf hb]
      exact ⟨oL, es, ep, hLg, hLd⟩)) (fun fl s' hl => ?_) fun _ _ y => y
  obtain ⟨g', L', m', news', T', F', N', k⟩ := hl
  have nL₀ : h₀.get? L = none := kts_self F
  obtain ⟨sl, hs⟩ := T'.up hLg
  refine k ⟨hNs sl _ (F'.keep _ _ hs), fun b o e => F'.keep b o (T'.other b o (st b o e) (fun q => by
    rw [one_frame hf q, nL₀] at e
    cases e)), F.above⟩ fun p hp => ⟨(N' p hp).1, fun q => ?_, ?_⟩
  · have := (N' p hp).2.2; rw [q, hs] at this; cases this
  · cases q : h₀.get? p.1 with
    | none => rfl
    | some o =>
      obtain ⟨sl', hs'⟩ := T'.up (st _ _ q)
      have := (N' p hp).2.2
      rw [hs'] at this
      cases this
end

section
variable {M : Model} {A : Around} {E : Value → Shared → Prop} {s' : Shared} {base g g₂ h : Heap} {outer : List Env} {L a e : Addr} {m : Str → Option Value} {env : Env} {Q : Unit → Shared → Prop} {news : List (Addr × Obj)}
theorem mem_frames (hf : env.frame = some L) {b : Addr} (hm : b ∈ (env :: outer).filterMap (·.frame)) : b = L ∨ b ∈ outer.filterMap (·.frame) := by
  obtain ⟨env', he, hf'⟩ := List.mem_filterMap.mp hm
  rcases List.mem_cons.mp he with rfl | he
  · exact .inl (Option.some.inj (hf'.symm.trans hf))
  · exact .inr (List.mem_filterMap.mpr ⟨env', he, hf'⟩)
theorem leave_newX {cls : String} (K : Below A base outer g) (hx : Heap.NewExcOf h s'.heap e cls) (F : Fr g L h m) (N : News g L h news) (hf : env.frame = some L) (hk : env.scope.kind = .function)
    (hQ : ∀ h', RaisedSN base g outer e (.type cls) news h' → g.UpToSlots h' → Q () { s' with heap := h' }) :
    wpAny M (A.deeper env) (leaving env (.ref e)) Q E s' := by
  have K' := pushX K F hf hk
  have hin : ∀ env' ∈ (env :: outer), ∀ b, env'.frame = some b → b ∈ (env :: outer).filterMap (·.frame) := fun env' he b hb => List.mem_filterMap.mpr ⟨env', he, hb⟩
  have st : base.StaysIn (hideAll h ((env :: outer).filterMap (·.frame))) := fun b o q => hideAll_get _ (K'.stays b o q) fun hm => by
    rw [(K'.frames.mem hm).1] at q; cases q
  have sg : ∀ b o, g.get? b = some o → b ∉ outer.filterMap (·.frame) → (hideAll h ((env :: outer).filterMap (·.frame))).get? b = some o := fun b o q nm => hideAll_get _ (F.keep b o q) fun hm => by
    rcases mem_frames hf hm with z | z
    · rw [z, kts_self F] at q
      cases q
    · exact nm z
  have hl : ∀ q ∈ news, (hideAll h ((env :: outer).filterMap (·.frame))).get? q.1 = some q.2 ∧ g.get? q.1 = none ∧ base.get? q.1 = none := fun q hq => by
    refine ⟨hideAll_get _ (N q hq).1 fun hm => ?_, (N q hq).2.2, fresh_of_stays K.stays (N q hq).2.2⟩
    rcases mem_frames hf hm with z | z
    · exact (N q hq).2.1 z
    · obtain ⟨o, ho, _⟩ := (K.frames.mem z).2
      rw [(N q hq).2.2] at ho; cases ho
  obtain ⟨ob, vs, he, hcls, hd, h1⟩ := hx.there
  have hen : (hideAll h ((env :: outer).filterMap (·.frame))).get? e = none := by
    cases q : (hideAll h ((env :: outer).filterMap (·.frame))).get? e with
    | none => rfl
    | some o => have := of_hideAll _ q; rw [hx.new] at this; cases this
  have hsz : 0 < vs.size := Nat.lt_of_le_of_lt (Nat.zero_le _) (Array.getElem?_eq_some_iff.mp h1).1
  obtain ⟨tp, h0⟩ : ∃ tp, vs[0]? = some tp := ⟨vs[0], Array.getElem?_eq_getElem hsz⟩
  refine wpAny_leaving_firstW (a0 := tp) K'.stack ((funFrames_hide K'.frames hin).of_keeps fun b o hb _ => ⟨o, hx.keeps b o hb, rfl⟩) hf he (fun b o hb => hx.keeps b o (of_hideAll _ hb)) hen hd h1 h0 fun h' hL => ?_
  obtain ⟨k1, ⟨_, _, k2⟩, k3, k4⟩ := hL
  have R : RaisedSN base g outer e (.type cls) news h' := ⟨_, tp, st, sg, hl, k1, hen, k2, by rw [← hcls]; exact k3⟩
  exact hQ h' R (((Heap.UpToSlots.of_keeps F.keep).trans (Heap.UpToSlots.of_keeps hx.keeps)).trans k4)
end
end Mine
end

section
open PySem PySem.W PyProof.Rows PySem.Calls PySem.Spec
set_option maxRecDepth 100000
namespace Mine
open Sem (wp)
theorem getAttr_miss_str0 {prog : Program} {w : World} {A : Around} {E : Value → Shared → Prop} {s : Shared} {x : Str} {t : Tok} {name : Str} {Q : Value → Shared → Prop} (hmiss : typeLookup (.type "str") name = pure none) (hA : A.handled = none)
    (h : ∀ h' tk e, Heap.NewExcOf s.heap h' e "AttributeError" → E (.ref e) { s with heap := h', toks := tk }) (hsz : name.length + 100 ≤ sizeLine := by size_fits) :
    wpAny (model prog w) A (getAttr (.str x t) name false) Q E s := by
  obtain ⟨hp, g, d, tk, os⟩ := s
  have hT : ∀ s' : Shared, s'.TypeIs (.str x t) "str" := fun _ => rfl
  have f1 := sub_AttributeError
  have f3 := F.slot_str_getattribute.lookup
  have f4 := F.slot_str_getattribute.bind (.str x t)
  have f5 := am_str_getattr_none
  unfold getAttr getAttrBy
  repeat (any_goals (first | assumption | ((with_reducible show wpAny _ _ (call (Value.builtin "object.__getattribute__") _ _) _ _ _); refine call_meets F.slot_str_getattribute (hT _) F.entry_object_getattribute (F.args_object_getattribute_2 _ _) (meets_getattribute_miss_str x t name _ hmiss hsz) ⟨hA, fun h' tk' e hx => ?_⟩) | wp_step))
  obtain ⟨t', u', he⟩ := hx.there
  show wpAny _ _ (getattributeRaised _ _ _ _ _ _ _) _ _ _
  unfold getattributeRaised
  repeat (any_goals (first | assumption | wp_step))
  exact h _ _ _ hx.of
theorem getMethod_miss_str {prog : Program} {w : World} {A : Around} {E : Value → Shared → Prop} {s : Shared} {x : Str} {t : Tok} {name : Str} {pl : Sem Bool} {Q : Value × List Value → Shared → Prop} (hmiss : typeLookup (.type "str") name = pure none) (hA : A.handled = none)
    (h : ∀ h' tk e, Heap.NewExcOf s.heap h' e "AttributeError" → E (.ref e) { s with heap := h', toks := tk }) (hsz : name.length + 100 ≤ sizeLine := by size_fits) :
    wpAny (model prog w) A (getMethod (.str x t) name pl) Q E s := by
  have hT : s.TypeIs (.str x t) "str" := rfl
  have f3 := F.slot_str_getattribute.lookup
  have f5 := am_str_getattr_none
  unfold getMethod
  refine wpAny_bind (wpAny_specialOf hT f3 ?_)
  dsimp only
  rw [if_neg (by decide +kernel)]
  refine wpAny_bind (wpAny_specialOf hT f5 ?_)
  simp only [Option.isSome_none, Bool.false_eq_true, if_false]
  refine wpAny_bind (wpAny_specialOf hT hmiss ?_)
  exact wpAny_bind (getAttr_miss_str0 hmiss hA h hsz)
theorem str_applies : typeLookup (.type "str") (Str.ofString "applies_to") = pure none := am_miss_of_fast (by decide +kernel)
end Mine
end

section
open PySem PySem.W PyProof.Rows PySem.Calls PySem.Spec
set_option maxRecDepth 100000
namespace Mine
section
variable {prog : Program} {w : World} {A A₀ : Around} {E : Value → Shared → Prop} {s : Shared} {K : Frag} {x C L f : Addr} {h₀ : Heap} {m : Str → Option Value} {ox : Obj} {od : Option Obj} {name : Str} {b tb : Value} {es : List DictEntry} {n : Nat}
/-- a method whose name stands in the instance's own dict -/
theorem method_shadow0 {pl : Sem Bool} {Q : Value × List Value → Shared → Prop} (X : K.In s.heap) (I : InstAt s.heap x ox C od) (hga : findIn K (.ref C) "__getattribute__" = some (some (.builtin "object.__getattribute__"))) (hk : findIn K (.ref C) "__getattr__" = some none)
    (hf : findIn K (.ref C) name = some (some (.ref f))) (ht : typeIn K (.ref f) = some (.type "function")) (hs : shadowIn od name = some true) (h : wpAny (model prog w) A (getAttr (.ref x) name) (fun v => Q (v, [])) E s) :
    wpAny (model prog w) A (getMethod (.ref x) name pl) Q E s := by
  have hcan := PySem.F.canon_object_ga
  unfold getMethod specialOf
  refine wpAny_bind (wpAny_bind (I.type.here ((looks_findIn X hga).here ?_)))
  dsimp only
  rw [hcan, if_neg (by decide)]
  refine wpAny_bind (wpAny_bind (I.type.here ((looks_findIn X hk).here ?_)))
  refine wpAny_bind (wpAny_bind (I.type.here ((looks_findIn X hf).here (wpAny_bind ((looks_typeIn X ht).here ?_)))))
  rw [if_neg (by decide +kernel)]
  refine wpAny_bind (wpAny_loadPart I.at_ ?_)
  have hd := I.dict
  cases e : ox.dict with
  | none =>
    rw [e] at hd
    cases od with
    | none => simp [shadowIn] at hs
    | some o => exact hd.elim
  | some dx =>
    cases od with
    | none => rw [e] at hd; exact hd.elim
    | some o =>
      rw [e] at hd
      obtain ⟨r, a, b⟩ := Option.map_eq_some_iff.mp hs
      refine wpAny_bind (wpAny_bind (wpAny_loadPart hd ?_))
      rw [nsLook_of a]
      refine wpAny_pure ?_
      rw [b]
      exact wpAny_bind (wpAny_mono h (fun v s' hv => wpAny_pure hv) fun _ _ x => x)
theorem method_shadow {pl : Sem Bool} {Q : Value × List Value → Shared → Prop} {v : Value} (F : Fr h₀ L s.heap m) (X₀ : K.In h₀) (I : InstAt s.heap x ox C (some (dictOf es n))) (hg : plainGet K C name = true)
    (hf : findIn K (.ref C) name = some (some (.ref f))) (ht : isFn K (.ref f) = true) (hl : getL name es = some (some v)) (h : wpAny (model prog w) A (getAttr (.ref x) name) (fun v => Q (v, [])) E s) : wpAny (model prog w) A (getMethod (.ref x) name pl) Q E s :=
  method_shadow0 (X₀.keeps F.keep) I (plainGet_of hg).1 (plainGet_of hg).2 hf (beq_iff_eq.mp ht) (by show (lookIn name (dictOf es n)).map _ = _; rw [lookIn_dict, hl]; rfl) h
theorem findObj_shadow {a g v : Value} {od : Obj} (hh : hasDictIn K C = true) (ha : findIn K (.ref C) name = some (some a)) (hg : specialIn K a "__get__" = some (some g)) (ht : takesIn K a = some false) (hl : lookIn name od = some (some v)) :
    findObj K C (some od) name = some (.value v) := by
  obtain ⟨cd, hc, hd⟩ := any_some hh
  unfold findObj
  have ho : PySem.W.ownOf cd (some od) name = some (some v) := by unfold PySem.W.ownOf; rw [if_pos hd]; exact hl
  rw [hc, Option.bind_some, ha, Option.bind_some]
  simp [hg, ht, ho]
theorem get_shadow {expr : Bool} {Q : Value → Shared → Prop} {a g v : Value} (F : Fr h₀ L s.heap m) (X₀ : K.In h₀) (I : InstAt s.heap x ox C (some (dictOf es n))) (hp : plainGet K C name = true) (hh : hasDictIn K C = true)
    (ha : findIn K (.ref C) name = some (some a)) (hg : specialIn K a "__get__" = some (some g)) (ht : takesIn K a = some false) (hl : getL name es = some (some v)) (hv : handedIn v = true) (h : Q v { s with toks := s.toks + 1 }) :
    wpAny (model prog w) A (getAttr (.ref x) name expr) Q E s :=
  get_value (X₀.keeps F.keep) I (plainGet_of hp).1 (findObj_shadow hh ha hg ht hl) hv h
end
end Mine
end

section
open PySem PySem.W PyProof.Rows PySem.Calls PySem.Spec
set_option maxRecDepth 100000
namespace Mine
section
variable {prog : Program} {w : World} {A : Around} {E : Value → Shared → Prop} {s : Shared}
theorem sub_int_str : isSubtype (.type "int") (.type "str") = pure false := by rw [isSubtype_type]; kernel_rfl
theorem slot_int_lt_of_gt : Slot "int" (cmpInfo .Gt).2.2 "int.__lt__" := slot_int_lt
theorem gt_str_int {i : Int} {t : Tok} {x : Str} {u : Tok} {Q : Value → Shared → Prop} (hh : A.handled = none)
    (h : ∀ h' tk e, Heap.NewExc s.heap h' e "TypeError" → E (.ref e) { s with heap := h', toks := tk }) :
    wpAny (model prog w) A (compareOp .Gt (.str x u) (.int i t)) Q E s := by
  show wpAny _ _ (richCompare .Gt (.str x u) (.int i t)) Q E s
  have h1 := PySem.F.slot_str_gt
  have h2 := slot_int_lt_of_gt
  have ha : ∀ s' : Shared, s'.TypeIs (.str x u) "str" := fun s' => typeIs_str s' x u
  have hb : ∀ s' : Shared, s'.TypeIs (.int i t) "int" := fun s' => typeIs_int s' i t
  simp only [richCompare, cmpInfo, (ha s).oneThing_none] at h1 h2 ⊢
  refine wpAny_holding ?_
  refine wpAny_bind (wpAny_cRoomFor_or (.inl rfl) ?_)
  refine wpAny_bind (wpAny_typeOf (ha s) (wpAny_bind (wpAny_typeOf (hb s) ?_)))
  simp only [show (Value.type "str" != Value.type "int") = true by decide, if_true]
  refine wpAny_bind (wpAny_of_eq sub_int_str ?_)
  simp only [Bool.false_eq_true, if_false, Bool.not_false, if_true]
  refine wpAny_bind (m := tryCompare (.str x u) _ (.int i t)) (wpAny_tryCompare_declines (ha s) h1 ?_)
  refine wpAny_call_entry PySem.slot_str_gt (ha s) PySem.entry_str_gt
    (show wpAny _ _ (do rule "str.__gt__.not-a-str"; ret .notImplemented) _ _ s from wpAny_bind (wpAny_rule (wpAny_pure ⟨_, rfl, rfl, ?_⟩))) (PySem.args_str_gt _ _)
  refine wpAny_bind (m := tryCompare (.int i t) _ (.str x u)) (wpAny_tryCompare_declines (hb s) h2 ?_)
  refine wpAny_call_entry slot_int_lt (hb s) entry_int_lt
    (show wpAny _ _ (do rule "int.binary.not-an-int"; ret .notImplemented) _ _ s from wpAny_bind (wpAny_rule (wpAny_pure ⟨_, rfl, rfl, ?_⟩))) (args_int_lt _ _)
  refine wpAny_bind (wpAny_rule (wpAny_bind (wpAny_typeNameOf' (ha s) (by decide) (wpAny_bind (wpAny_typeNameOf' (hb s) (by decide) (wpAny_raiseTypeError hh h ?_))))))
  show (Str.ofString _).length ≤ sizeLine
  rw [PySem.ofString_length, sizeLine_eq]
  simp only [String.length_append, toString]
  have e1 : "'".length ≤ 100 := by decide
  have e2 : ">".length ≤ 100 := by decide
  have e3 : "' not supported between instances of '".length ≤ 100 := by decide
  have e4 : "' and '".length ≤ 100 := by decide
  have e5 : (shownName "str").length ≤ 1000 := by decide
  have e6 : (shownName "int").length ≤ 1000 := by decide
  omega
end
end Mine
end

section
open PySem PySem.W PyProof.Rows PySem.Calls PySem.Spec
set_option maxRecDepth 100000
namespace Mine
theorem filter_gone (sel : Nat → Bool) : ∀ (l : List Value) (j : Nat), (∀ k, j ≤ k → k < j + l.length → sel k = true) → ((l.zipIdx j).filterMap fun (x, k) => if sel k then none else some x) = []
  | [], _, _ => rfl
  | x :: r, j, h => by
    rw [List.zipIdx_cons, List.filterMap_cons]
    have h0 := h j (Nat.le_refl _) (by simp)
    simp only [h0, if_true]
    exact filter_gone sel r (j + 1) fun k h1 h2 => h k (by omega) (by simp only [List.length_cons]; omega)
section
variable {prog : Program} {w : World} {A : Around} {E : Value → Shared → Prop} {s : Shared} {h₀ : Heap} {L D : Addr} {m : Str → Option Value} {news news' : List (Addr × Obj)}
theorem delItem_at {l : Addr} {items : Array Value} {n k : Nat} {i : Int} {u : Tok} {Q : Unit → Shared → Prop} (ho : s.heap.get? l = some (listOf items n)) (hfit : Builtin.List.listFitsIndex i = true) (hk : seqIndex? i items.size = some k)
    (h : Q () { s with heap := s.heap.update l (Obj.mapSeq fun xs => xs.eraseIdxIfInBounds k) }) (hs : items.size ≤ sizeLine := by size_fits) : wpAny (model prog w) A (delItem (.ref l) (.int i u)) Q E s := by
  have hT : s.TypeIs (.ref l) "list" := ⟨_, ho, rfl⟩
  unfold delItem
  refine wpAny_holding ?_
  refine wpAny_bind (wpAny_sequenceKey hT (by decide) ?_)
  refine wpAny_bind (wpAny_callSpecial?_slot (name := Str.ofString "__delitem__") hT PySem.F.slot_list_delitem ?_)
  exact call_meets PySem.F.slot_list_delitem hT PySem.F.entry_list_delitem (PySem.F.args_list_delitem_2 _ _) (PySem.MeetsSeq.list_delitem_at l items n i u k hfit hk hs) ⟨ho, wpAny_pure h⟩
theorem delAll_at {l sl : Addr} {items : Array Value} {n : Nat} {Q : Unit → Shared → Prop} (ho : s.heap.get? l = some (listOf items n)) (hsl : s.heap.IsSliceOf sl .none .none .none)
    (h : ∀ f, f items = #[] → Q () { s with heap := s.heap.update l (Obj.mapSeq f) }) (hs : items.size ≤ sizeLine := by size_fits) : wpAny (model prog w) A (delItem (.ref l) (.ref sl)) Q E s := by
  have hT : s.TypeIs (.ref l) "list" := ⟨_, ho, rfl⟩
  obtain ⟨os, hos, hcs, hds⟩ := id hsl
  have hTs : s.TypeIs (.ref sl) "slice" := ⟨os, hos, hcs⟩
  unfold delItem
  refine wpAny_holding ?_
  refine wpAny_bind (wpAny_sequenceKey hT (by decide) ?_)
  refine wpAny_bind (wpAny_callSpecial?_slot (name := Str.ofString "__delitem__") hT PySem.F.slot_list_delitem ?_)
  refine wpAny_call_entry PySem.F.slot_list_delitem hT PySem.F.entry_list_delitem ?_ (PySem.F.args_list_delitem_2 _ _)
  show wpAny _ _ (Builtin.List.listSubscript? (.ref sl) >>= _) _ _ s
  refine wpAny_bind ?_
  unfold Builtin.List.listSubscript?
  refine wpAny_bind (wpAny_specialOf hTs slice_no_index ?_)
  simp only [Option.isNone_none, if_true]
  refine wpAny_pure ?_
  show wpAny _ _ (typeOf (.ref sl) >>= _) _ _ s
  refine wpAny_bind (wpAny_typeOf hTs ?_)
  rw [if_neg (by decide)]
  rw [listSliceParts_eq]
  refine wpAny_bind (wpAny_bind (wpAny_field hos hds (x := .none) rfl (wpAny_bind (wpAny_listPart .none ?_))))
  rw [if_neg (by decide)]
  refine wpAny_bind (wpAny_field hos hds (x := .none) rfl (wpAny_bind (wpAny_listPart .none ?_)))
  refine wpAny_bind (wpAny_field hos hds (x := .none) rfl (wpAny_bind (wpAny_listPart .none (wpAny_pure ?_))))
  refine wpAny_bind (m := Builtin.List.listItems (.ref l)) ?_
  unfold Builtin.List.listItems
  refine wpAny_bind (wpAny_seqItems ho rfl (wpAny_pure ?_))
  refine wpAny_bind (wpAny_of_eq (sliceIndices_raw none none none items.size (by simp)) ?_)
  refine wpAny_bind (wpAny_rule ?_)
  have gone : ∀ sel : Nat → Bool, (∀ k, k < items.size → sel k = true) → ((items.toList.zipIdx).filterMap fun (x, k) => if sel k then none else some x).toArray = #[] := fun sel hsel => by
    rw [filter_gone sel items.toList 0 fun k _ hk => hsel k (by simpa using hk)]
  refine wpAny_bind (m := Builtin.List.listUpdate (.ref l) _) (wpAny_updateSeq ho rfl ?_ hs ?_)
  · refine wpAny_bind (wpAny_letGo ?_)
    refine wpAny_pure ⟨_, rfl, wpAny_pure (h _ (gone _ fun k hk => ?_))⟩
    show ((decide ((0 : Int) ≤ (k : Int)) && decide ((k : Int) < (items.size : Int))) && (((k : Int) - 0) % 1 == 0)) = true
    simp; omega
  · rw [gone _ fun k hk => ?_]
    · simp
    · show ((decide ((0 : Int) ≤ (k : Int)) && decide ((k : Int) < (items.size : Int))) && (((k : Int) - 0) % 1 == 0)) = true
      simp; omega
theorem del_K {its : Array Value} {n k : Nat} {i : Int} {u : Tok} {Q : Unit → Shared → Prop} (F : Fr h₀ L s.heap m) (N : News h₀ L s.heap news) (U : Upd D (listOf its n) (listOf (its.eraseIdxIfInBounds k) (n + 1)) news news')
    (hfit : Builtin.List.listFitsIndex i = true) (hk : seqIndex? i its.size = some k) (hlt : k < its.size)
    (h : ∀ h', Fr h₀ L h' m → News h₀ L h' news' → Q () { s with heap := h' }) (hsz : its.size ≤ sizeLine := by size_fits) : wpAny (model prog w) A (delItem (.ref D) (.int i u)) Q E s := by
  obtain ⟨pre, post, rfl, rfl, a, b⟩ := U.split
  have z := N (D, listOf its n) (List.mem_append.mpr (.inr (.head _)))
  refine delItem_at (hs := hsz) z.1 hfit hk ?_
  have e : Obj.mapSeq (fun xs => xs.eraseIdxIfInBounds k) (listOf its n) = listOf (its.eraseIdxIfInBounds k) (n + 1) := by
    have hne : ¬ ((its.eraseIdxIfInBounds k).size == its.size) = true := by
      unfold Array.eraseIdxIfInBounds
      rw [dif_pos hlt, Array.size_eraseIdx]
      simp; omega
    simp only [Obj.mapSeq, hne, Bool.false_eq_true, if_false]
  obtain ⟨F', N'⟩ := news_upd F N a b e rfl
  exact h _ F' N'
theorem delAll_K {its : Array Value} {n : Nat} {sl : Addr} {Q : Unit → Shared → Prop} (F : Fr h₀ L s.heap m) (N : News h₀ L s.heap news) (hsl : s.heap.IsSliceOf sl .none .none .none)
    (U : ∀ n', ∃ news', Upd D (listOf its n) (listOf #[] n') news news' ∧ ∀ h', Fr h₀ L h' m → News h₀ L h' news' → Q () { s with heap := h' }) (hsz : its.size ≤ sizeLine := by size_fits) : wpAny (model prog w) A (delItem (.ref D) (.ref sl)) Q E s := by
  obtain ⟨_, U0, _⟩ := U 0
  obtain ⟨pre, post, e0, _, _, _⟩ := U0.split
  have z := N (D, listOf its n) (by rw [e0]; exact List.mem_append.mpr (.inr (.head _)))
  refine delAll_at (hs := hsz) z.1 hsl fun f hf => ?_
  obtain ⟨news', U1, h⟩ := U (if (f its).size == its.size then n else n + 1)
  obtain ⟨pre, post, rfl, rfl, a, b⟩ := U1.split
  have e : Obj.mapSeq f (listOf its n) = listOf #[] (if (f its).size == its.size then n else n + 1) := by
    simp only [Obj.mapSeq, hf]
  obtain ⟨F', N'⟩ := news_upd F N a b e rfl
  exact h _ F' N'
end
end Mine
end

section
open PySem PySem.W PyProof.Rows PySem.Calls PySem.Spec
set_option maxRecDepth 100000
namespace Mine
section
variable {prog : Program} {w : World} {A : Around} {E : Value → Shared → Prop} {s : Shared}
theorem eqAt_same (A : Around) (s : Shared) (y : Value) : PySem.SeqAt.EqAt A s y y true := fun prog w E Q hq => by
  unfold eqBool
  refine wpAny_holding ?_
  rw [if_pos (by simp)]
  exact wpAny_bind (wpAny_rule (wpAny_pure hq))
theorem ne_same {l b : Addr} {items : Array Value} {n n2 : Nat} {Q : Value → Shared → Prop} (ho : s.heap.get? l = some (listOf items n)) (ho2 : s.heap.get? b = some (listOf items n2)) (hu : A.units < cLine) (h : Q (.bool false) s) :
    wpAny (model prog w) A (compareOp .NotEq (.ref l) (.ref b)) Q E s := by
  show wpAny (model prog w) A (richCompare .NotEq (.ref l) (.ref b)) Q E s
  refine richCompare_meets_room (op := .NotEq) ⟨_, ho, rfl⟩ ⟨_, ho2, rfl⟩ PySem.F.slot_list_ne PySem.F.entry_list_ne (PySem.F.args_list_ne_2 _ _) (PySem.SeqAt.list_neAt l b items items n n2 none none #[] #[] rfl (fun _ => true)) ⟨ho, ho2, fun j h1 h2 => eqAt_same _ _ _, ?_⟩ hu
  have e : (!(List.range items.size).all fun _ => true) = false := by simp
  rw [e]
  exact ⟨(by intro q; cases q), h⟩
end
end Mine
end

section
open PySem PySem.W PyProof.Rows
namespace Mine
set_option maxRecDepth 100000 in
set_option maxHeartbeats 8000000 in
open_top hd for PySem.Challenge.rw_kn0092_01
end Mine
end

section
open PySem PySem.W PyProof.Rows PySem.Calls
set_option maxRecDepth 100000
namespace Mine
abbrev PR : Program := PySem.Challenge.rw_kn0092_01.row.prog
/-- the inner def of _law_rule, out of the program -/
def reachStmt : Stmt := match PR.main.body.getD 3 (.Pass default) with
  | .FunctionDef _ _ b _ _ _ _ _ _ _ => b.getD 3 (.Pass default)
  | s => s
def reachObj (clos : List (Str × Addr)) (doc pm : Value) (c' : Addr) (ctv : Value) : Obj := match reachStmt with
  | .FunctionDef name params body _ _ _ scope _ _ _ => fnMade name (Str.ofString "_law_rule.<locals>._law_reach") params body scope clos doc pm c' ctv
  | _ => default
abbrev ent (w : World) (x : Str) (t : Tok) (v : Value) : DictEntry := ⟨PyData.keyHash w.params x, .str x t, v⟩
abbrev reachQ : Str := Str.ofString "_law_rule.<locals>._law_reach"
/-- a rule stands in the ledger -/
inductive RuleIn (w : World) (lg : Nat) (ns : List (Addr × Obj)) (place kind reach : Int) : Value → Prop
  | text {t : Tok} : kind = 4 → RuleIn w lg ns place kind reach (.str (Str.ofString "Disallow: /") t)
  | obj {x dx f c' c1 c2 c3 c4 ua rl : Nat} {t1 t2 t3 t4 t5 t6 t u1 u2 u3 : Tok} {doc pm ctv : Value} {oc o1 o2 o3 o4 : Obj} {vs : Array Value} :
      kind ≠ 4 → (x, instObj 52 dx) ∈ ns →
      (dx, dictOf [ent w (Str.ofString "useragents") t1 (.ref ua), ent w (Str.ofString "rulelines") t2 (.ref rl), ent w (Str.ofString "delay") t3 .none, ent w (Str.ofString "req_rate") t4 .none,
        ent w (Str.ofString "allowance") t5 (.bool (decide (kind = 0))), ent w (Str.ofString "applies_to") t6 (.ref f)] 6) ∈ ns →
      (f, reachObj [(Str.ofString "reach", c1), (Str.ofString "place", c2), (Str.ofString "log", c3), (Str.ofString "kind", c4)] doc pm c' ctv) ∈ ns →
      (c', oc) ∈ ns → oc.data = .fields vs → vs[1]? = some (.str reachQ t) →
      (c1, o1) ∈ ns → o1.data = .cell (some (.int reach u1)) → (c2, o2) ∈ ns → o2.data = .cell (some (.int place u2)) →
      (c3, o3) ∈ ns → o3.data = .cell (some (.ref lg)) → (c4, o4) ∈ ns → o4.data = .cell (some (.int kind u3)) → RuleIn w lg ns place kind reach (.ref x)
theorem RuleIn.mono {w : World} {lg : Nat} {ns ns' : List (Addr × Obj)} {place kind reach : Int} {v : Value} (h : RuleIn w lg ns place kind reach v) (hs : ∀ p ∈ ns, p ∈ ns') : RuleIn w lg ns' place kind reach v := by
  cases h with
  | text h => exact .text h
  | obj h a b c d e f g h1 h2 h3 h4 h5 h6 h7 => exact .obj h (hs _ a) (hs _ b) (hs _ c) (hs _ d) e f (hs _ g) h1 (hs _ h2) h3 (hs _ h4) h5 (hs _ h6) h7
/-- the table of _law_rule's code: nothing, or the inner def's code -/
def TabOk (ps : Array Value) (ns : List (Addr × Obj)) : Prop :=
  ps = #[] ∨ ∃ (c' : Nat) (oc : Obj) (vs : Array Value) (t : Tok), ps = #[rawInt 57, rawInt 4, .ref c'] ∧ (c', oc) ∈ ns ∧ oc.data = .fields vs ∧ vs[1]? = some (.str reachQ t)
theorem TabOk.mono {ps : Array Value} {ns ns' : List (Addr × Obj)} (h : TabOk ps ns) (hs : ∀ p ∈ ns, p ∈ ns') : TabOk ps ns' := by
  rcases h with h | ⟨c', oc, vs, t, a, b, c, d⟩
  · exact .inl h
  · exact .inr ⟨c', oc, vs, t, a, hs _ b, c, d⟩
theorem news_mid {h₀ h : Heap} {L : Addr} {added rest : List (Addr × Obj)} {a : Addr × Obj} (N : News h₀ L h (added ++ a :: rest)) : News h₀ L h (a :: (added ++ rest)) := fun p hp => N p (by
  rcases List.mem_cons.mp hp with rfl | hp
  · exact List.mem_append_right _ (.head _)
  · rcases List.mem_append.mp hp with hp | hp
    · exact List.mem_append_left _ hp
    · exact List.mem_append_right _ (.tail _ hp))
theorem news_drop {h₀ h : Heap} {L : Addr} {added rest : List (Addr × Obj)} (N : News h₀ L h (added ++ rest)) : News h₀ L h rest := fun p hp => N p (List.mem_append_right _ hp)
/-- every address of the one list lies behind every address of the other -/
def Behind (added old : List (Addr × Obj)) : Prop := ∀ p ∈ added, ∀ q ∈ old, (q.1 : Nat) < p.1
theorem allLt_at {d : Nat} {l : List (Addr × Obj)} (h : AllLt d l) (p : Addr × Obj) (hp : p ∈ l) : @LT.lt Nat _ p.1 d := by
  induction l with
  | nil => nomatch hp
  | cons q r ih =>
    rcases List.mem_cons.mp hp with rfl | hp
    · exact h.1
    · exact ih h.2 hp
theorem behind_nil {old : List (Addr × Obj)} : Behind [] old := fun _ h => nomatch h
theorem behind_cons {p : Addr × Obj} {added old : List (Addr × Obj)} (h : AllLt p.1 old) (r : Behind added old) : Behind (p :: added) old := fun q hq o ho => by
  rcases List.mem_cons.mp hq with rfl | hq
  · exact allLt_at h o ho
  · exact r q hq o ho
theorem allLt_up {d e : Nat} (hde : d ≤ e) : ∀ {l : List (Addr × Obj)}, AllLt d l → AllLt e l
  | [], _ => trivial
  | _ :: _, h => ⟨Nat.lt_of_lt_of_le h.1 hde, allLt_up hde h.2⟩
theorem neLt {a b : Nat} (h : a < b) : @LT.lt Nat _ a b := h
end Mine
end

section
open PySem PySem.W PyProof.Rows PySem.Calls
set_option maxRecDepth 100000
namespace Mine
/-- a rule as numbers -/
structure Ru where
  place : Int
  kind : Int
  reach : Int
/-- what allowance answers: a truth, or the kind of the refusal -/
inductive Out where
  | bool (b : Bool)
  | int (k : Int)
def outOf : Int → Bool → List Ru → Out
  | _, a, [] => .bool a
  | b, a, r :: t => if r.kind > 2 then .int r.kind else
      if r.kind < 2 then (if r.reach > b then outOf r.reach (decide (r.kind = 0)) t else if r.reach = b ∧ a = false then outOf b (decide (r.kind = 0)) t else outOf b a t) else outOf b a t
def askedOf : List Ru → List Int
  | [] => []
  | r :: t => if r.kind = 4 then [] else r.place :: (if r.kind > 2 then [] else askedOf t)
inductive IsOut : Value → Out → Prop
  | bool (b : Bool) : IsOut (.bool b) (.bool b)
  | int (k : Int) (t : Tok) : IsOut (.int k t) (.int k)
/-- what a rule's numbers are -/
def RuOk (r : Ru) : Prop := 0 ≤ r.kind ∧ r.kind < 6 ∧ 1 ≤ r.reach ∧ r.reach ≤ 3
def RulesIn (w : World) (lg : Nat) (ns : List (Addr × Obj)) (vs : List Value) (rs : List Ru) : Prop :=
  vs.length = rs.length ∧ ∀ (i : Nat) (v : Value) (r : Ru), vs[i]? = some v → rs[i]? = some r → RuOk r ∧ RuleIn w lg ns r.place r.kind r.reach v
theorem RulesIn.at {w : World} {lg : Nat} {ns : List (Addr × Obj)} {vs : List Value} {rs : List Ru} (h : RulesIn w lg ns vs rs) {i : Nat} {v : Value} (hi : vs[i]? = some v) : ∃ r, rs[i]? = some r ∧ RuOk r ∧ RuleIn w lg ns r.place r.kind r.reach v := by
  have hl : i < vs.length := (List.getElem?_eq_some_iff.mp hi).1
  have hr : i < rs.length := h.1 ▸ hl
  exact ⟨rs[i], List.getElem?_eq_getElem hr, h.2 i v _ hi (List.getElem?_eq_getElem hr)⟩
theorem RulesIn.mono {w : World} {lg : Nat} {ns ns' : List (Addr × Obj)} {vs : List Value} {rs : List Ru} (h : RulesIn w lg ns vs rs) (hs : ∀ p ∈ ns, p ∈ ns') : RulesIn w lg ns' vs rs :=
  ⟨h.1, fun i v r a b => ⟨(h.2 i v r a b).1, (h.2 i v r a b).2.mono hs⟩⟩
theorem drop_at {α : Type} {l : List α} {i : Nat} {r : α} (h : l[i]? = some r) : l.drop i = r :: l.drop (i + 1) := by
  obtain ⟨hl, he⟩ := List.getElem?_eq_some_iff.mp h
  rw [List.drop_eq_getElem_cons hl, he]
/-- the state of allowance's loop -/
def AlwJ (lg : Nat) (rest : List (Addr × Obj)) (rs : List Ru) (i : Nat) (m : Str → Option Value) (news : List (Addr × Obj)) : Prop :=
  ∃ best alw tb tf gs gi ng, m (Str.ofString "filename") = some (.str (Str.ofString "/x") tf) ∧ m (Str.ofString "best_match") = some (.int best tb) ∧ m (Str.ofString "allowance") = some (.bool alw) ∧
    news = (lg, listOf gs ng) :: rest ∧ IntsAre gs.toList gi ∧ gi ++ askedOf (rs.drop i) = askedOf rs ∧ outOf best alw (rs.drop i) = outOf (-1) true rs ∧ gs.size ≤ i ∧ -1 ≤ best ∧ best ≤ 3
theorem AlwJ.step {lg : Nat} {rest : List (Addr × Obj)} {rs : List Ru} {i : Nat} {r : Ru} {best best' : Int} {alw alw' : Bool} {gs : Array Value} {gi : List Int} {ng' : Nat} {tb tf u : Tok} {m' : Str → Option Value}
    (m1 : m' (Str.ofString "filename") = some (.str (Str.ofString "/x") tf)) (m2 : m' (Str.ofString "best_match") = some (.int best' tb)) (m3 : m' (Str.ofString "allowance") = some (.bool alw'))
    (hr : rs[i]? = some r) (hI1 : IntsAre gs.toList gi) (hI2 : gi ++ askedOf (rs.drop i) = askedOf rs) (hI3 : outOf best alw (rs.drop i) = outOf (-1) true rs) (hI4 : gs.size ≤ i) (hk : ¬ r.kind > 2)
    (hb1 : -1 ≤ best') (hb2 : best' ≤ 3) (hs : ∀ t, outOf best alw (r :: t) = outOf best' alw' t) : AlwJ lg rest rs (i + 1) m' ((lg, listOf (gs.push (.int r.place u)) ng') :: rest) := by
  have e := drop_at hr
  rw [e] at hI2 hI3
  rw [hs] at hI3
  have e2 : askedOf (r :: rs.drop (i + 1)) = r.place :: askedOf (rs.drop (i + 1)) := by
    simp only [askedOf]
    rw [if_neg (by omega), if_neg hk]
  rw [e2] at hI2
  refine ⟨best', alw', tb, tf, gs.push (.int r.place u), gi ++ [r.place], ng', m1, m2, m3, rfl, ?_, ?_, hI3, ?_, hb1, hb2⟩
  · rw [Array.toList_push]
    exact hI1.append (.cons _ _ .nil)
  · rw [List.append_assoc]; exact hI2
  · rw [Array.size_push]; omega
theorem jend {g : Heap} {L I : Addr} {it : Obj} {J : (Str → Option Value) → List (Addr × Obj) → Prop} {s₁ : Shared} {Q : Flow → Shared → Prop} {h' : Heap} {tk : Nat} {m' : Str → Option Value} {news' : List (Addr × Obj)}
    (F : Fr g L h' m') (N : News g L h' ((I, it) :: news')) (off : ∀ p ∈ news', p.1 ≠ I) (r : J m' news') : JPost g L s₁ I it J Q .next { s₁ with heap := h', toks := tk } :=
  ⟨h', tk, m', news', rfl, F, N, off, r⟩
theorem off_head {I lg : Addr} {o o' : Obj} {rest : List (Addr × Obj)} (h : ∀ p ∈ (lg, o) :: rest, p.1 ≠ I) : ∀ p ∈ (lg, o') :: rest, p.1 ≠ I := fun p hp => by
  rcases List.mem_cons.mp hp with rfl | hp
  · exact h (lg, o) (.head _)
  · exact h p (.tail _ hp)
end Mine
end

section
open PySem PySem.W PyProof.Rows PySem.Calls
set_option maxRecDepth 100000
namespace Mine
def forBody : Stmt → List Stmt
  | .For _ _ b _ _ => b
  | .While _ b _ _ => b
  | .FunctionDef _ _ b _ _ _ _ _ _ _ => b
  | .If _ b _ _ => b
  | _ => []
def scopeOf : Stmt → Scope
  | .FunctionDef _ _ _ _ _ _ sc _ _ _ => sc
  | _ => default
def nth (i : Nat) (l : List Stmt) : Stmt := l.getD i (.Pass default)
def lawStmt : Stmt := nth 5 PR.main.body
def lawScope : Scope := scopeOf lawStmt
def outerBody : List Stmt := forBody (nth 0 (forBody lawStmt))
def buildBody : List Stmt := forBody (nth 3 outerBody)
def whileStmt : Stmt := nth 5 outerBody
def whileBody : List Stmt := forBody whileStmt
def turnBody : List Stmt := forBody (nth 4 whileBody)
abbrev envLaw (L fa : Addr) (cd : Value) : Env := envOfC (Str.ofString "law") lawScope L fa cd
end Mine
end

section
open PySem PySem.W PyProof.Rows PySem.Calls PySem.Spec PyProof.Rows.LCg
set_option maxRecDepth 100000
namespace Mine
/-- the end of a test or an element: the ledger stands as it was -/
def TEnd (h₀ : Heap) (L : Addr) (m : Str → Option Value) (s₁ : Shared) (all : List (Addr × Obj)) (R : Value → Prop) (y : Value) (s₂ : Shared) : Prop :=
  ∃ h' tk, s₂ = { s₁ with heap := h', toks := tk } ∧ Fr h₀ L h' m ∧ News h₀ L h' all ∧ R y
theorem TEnd.intro {h₀ : Heap} {L : Addr} {m : Str → Option Value} {s₁ : Shared} {all : List (Addr × Obj)} {R : Value → Prop} {y : Value} {h' : Heap} {tk : Nat}
    (F : Fr h₀ L h' m) (N : News h₀ L h' all) (r : R y) : TEnd h₀ L m s₁ all R y { s₁ with heap := h', toks := tk } := ⟨h', tk, rfl, F, N, r⟩
/-- the turns of a comprehension over triples with one test -/
def Turn3 (prog : Program) (w : World) (A : Around) (h₀ : Heap) (L : Addr) (m : Str → Option Value) (env : Env) (ct elt : Expr) (x1 x2 x3 : Str) (scope : Scope) (cl : List (Str × Addr)) (s : Shared) (its : Array Value) (J : Nat → List Value → Prop) (news : List (Addr × Obj)) : Prop :=
  ∀ (i : Nat) v ys, its[i]? = some v → J i ys → ∃ (t : Nat) (ot : Obj) (v₁ v₂ v₃ : Value) (nt : Nat), v = .ref t ∧ (t, ot) ∈ news ∧ ot.cls = .type "tuple" ∧ ot.data = .seq #[v₁, v₂, v₃] nt ∧
    ∀ (I : Nat) oI (C : Nat) oC (D : Nat) m₂ h tk (E' : Value → Shared → Prop), NsObj oC m₂ → m₂ x1 = some v₁ → m₂ x2 = some v₂ → m₂ x3 = some v₃ → Fr h₀ L h m → News h₀ L h ((I, oI) :: (C, oC) :: (D, lst ys) :: news) →
      wpAny (model prog w) A (isTrue ct (compEnvC scope cl C env) (eval ct (compEnvC scope cl C env))) (fun ok s' => if ok = true then
        wpAny (model prog w) A (eval elt (compEnvC scope cl C env)) (TEnd h₀ L m { s with heap := h, toks := tk } ((I, oI) :: (C, oC) :: (D, lst ys) :: news) (fun y => J (i + 1) (ys ++ [y]))) E' s'
        else TEnd h₀ L m { s with heap := h, toks := tk } ((I, oI) :: (C, oC) :: (D, lst ys) :: news) (fun _ => J (i + 1) ys) Value.none s') E' { s with heap := h, toks := tk }
def Src3 (prog : Program) (w : World) (A : Around) (h₀ : Heap) (L : Addr) (m : Str → Option Value) (env : Env) (ct elt : Expr) (x1 x2 x3 y : Str) (scope : Scope) (cl : List (Str × Addr)) (Q : Flow → Shared → Prop) (xv : Value) (s₁ : Shared) : Prop :=
  ∃ (ax : Nat) (its : Array Value) (k : Nat) (news : List (Addr × Obj)) (J : Nat → List Value → Prop), xv = .ref ax ∧ A.handled = none ∧ Fr h₀ L s₁.heap m ∧ News h₀ L s₁.heap news ∧ (ax, listOf its k) ∈ news ∧ its.size ≤ sizeLine ∧ J 0 [] ∧
    (∀ i ys, J i ys → ys.length ≤ i) ∧
    Turn3 prog w A h₀ L m env ct elt x1 x2 x3 scope cl s₁ its J news ∧
    ∀ (D : Nat) h tk ys, Fr h₀ L h (fun z => if z = y then some (.ref D) else m z) → News h₀ L h ((D, lst ys) :: news) → AllLt D news → J its.size ys → Q .next { s₁ with heap := h, toks := tk }
section
variable {prog : Program} {w : World} {A : Around} {E : Value → Shared → Prop} {s : Shared} {h₀ : Heap} {L : Addr} {m : Str → Option Value} {env : Env}
theorem compLoop_tup {elt ct iter : Expr} {elts : List Expr} {x1} {tp : Pos} {scope : Scope} {pos : Pos} {it acc : Value} {env : Env} {R : Result → Shared → Prop} (I : Nat → Shared → Prop)
    (turn : ∀ n s, I n s → wpAny (model prog w) A (pyNext it) (fun r s₁ => match r with
      | none => R (.ok .next) s₁
      | some v => wpAny (model prog w) A (letOwnedTupleGo (.Tuple elts x1 tp) it v) (fun _ s₁' => wpAny (model prog w) A (assign (.Tuple elts x1 tp) env v) (fun _ s₂ =>
          wpAny (model prog w) A (isTrue ct env (eval ct env)) (fun ok s₃ => if ok = true then wpAny (model prog w) A (eval elt env) (fun x s₄ =>
              wpAny (model prog w) A (call (.builtin "list.append") [acc, x]) (fun _ s₅ => ∃ m, m < n ∧ I m s₅) (notedBy (model prog w) A env fun e s' => R (.error e) s') s₄) (notedBy (model prog w) A env fun e s' => R (.error e) s') s₃
            else ∃ m, m < n ∧ I m s₃) (notedBy (model prog w) A env fun e s' => R (.error e) s') s₂)
          (notedBy (model prog w) A env fun e s' => R (.error e) s') s₁') (notedBy (model prog w) A env fun e s' => R (.error e) s') s₁) (notedBy (model prog w) A env fun e s' => R (.error e) s') s)
    (n : Nat) (h : I n s) : codeAny (model prog w) A (.compLoop (.ListComp elt [⟨.Tuple elts x1 tp, iter, [ct], 0⟩] scope pos) 0 it acc env) R s := by
  refine codeAny_loop rfl I (fun n s hI => ?_) n h
  show wpAny _ A ((compTurn (.ListComp elt [⟨.Tuple elts x1 tp, iter, [ct], 0⟩] scope pos) 0 it acc env).onRaise (fun x => do noteFrame x env; theTreesLotGoes x)) _ _ s
  refine wpAny_noted ?_
  rw [compTurn_list]
  refine wpAny_bind (wpAny_standAt (wpAny_bind (wpAny_mono (turn n s hI) (fun r s₁ h₁ => ?_) fun _ _ h' => h')))
  cases r with
  | none => exact wpAny_pure h₁
  | some v =>
    refine wpAny_bind (wpAny_mono h₁ (fun _ s₁' h₁' => ?_) fun _ _ h' => h')
    refine wpAny_bind (wpAny_mono h₁' (fun _ s₂ h₂ => wpAny_bind (wpAny_mono (wpAny_tests_one h₂) (fun ok s₃ h₃ => ?_) fun _ _ h' => h')) fun _ _ h' => h')
    cases ok with
    | false => exact wpAny_pure ⟨rfl, h₃⟩
    | true => exact wpAny_bind (wpAny_bind (wpAny_mono h₃ (fun x s₄ h₄ => wpAny_bind (wpAny_mono h₄ (fun _ s₅ h₅ => wpAny_pure (wpAny_pure ⟨rfl, h₅⟩)) fun _ _ h' => h')) fun _ _ h' => h'))
theorem allLt_of {d : Nat} : ∀ {l : List (Addr × Obj)}, (∀ p ∈ l, @LT.lt Nat _ p.1 d) → AllLt d l
  | [], _ => trivial
  | _ :: _, h => ⟨h _ (.head _), allLt_of fun p hp => h p (.tail _ hp)⟩
theorem assign_comp3 {elt ct iter : Expr} {x1 x2 x3 y : Str} {p1 p2 p3 tp py : Pos} {xc} {scope : Scope} {cl : List (Str × Addr)} {pos spos : Pos} {Q : Flow → Shared → Prop} (hF₀ : Fr h₀ L s.heap m) (hLe : env.locals = L)
    (hsw : swapsWith (.ListComp elt [⟨.Tuple [.Name x1 p1, .Name x2 p2, .Name x3 p3] xc tp, iter, [ct], 0⟩] scope pos) (some (.Name y py)) spos.line env = pure true)
    (hclos : closureFor scope env = pure cl) (hcell : ∀ z ∈ scope.names, z.2 ≠ .cell) (hkind : scope.kind = .function)
    (hnames : ∀ z ∈ scope.names, z.2 = .local → scope.names.lookup z.1 = some .local) (hx1 : scope.names.lookup x1 = some .local) (hx2 : scope.names.lookup x2 = some .local) (hx3 : scope.names.lookup x3 = some .local)
    (h12 : x1 ≠ x2) (h13 : x1 ≠ x3) (h23 : x2 ≠ x3)
    (hy : env.kindOf y = some .local) (hp : (env.scope.kind == .class || (env.scope.kind == .module && env.locals != env.globals)) = false)
    (h : wpAny (model prog w) A (eval iter env) (Src3 prog w A h₀ L m env ct elt x1 x2 x3 y scope cl Q) E s)
    (hs : ∀ x, foldedSetIterable iter env x = pure x := by intro _; rfl) :
    wpAny (model prog w) A (exec (.Assign [.Name y py] (.ListComp elt [⟨.Tuple [.Name x1 p1, .Name x2 p2, .Name x3 p3] xc tp, iter, [ct], 0⟩] scope pos) spos) env) Q E s := by
  subst hLe
  rw [exec_Assign_Name_used _ _ _ _ hsw]
  refine wpAny_bind (wpAny_standAt (wpAny_bind ?_))
  show wpAny _ A (do let _ ← comprehension (.ListComp elt [⟨.Tuple [.Name x1 p1, .Name x2 p2, .Name x3 p3] xc tp, iter, [ct], 0⟩] scope pos) scope env _ (newList []) false (eval iter env) (some (assign (.Name y py) env))) _ _ s
  refine wpAny_bind (wpAny_mono (wpAny_comprehension_free (use := some (assign (.Name y py) env)) (Q := fun _ s' => Q .next s') rfl hs hclos hkind hnames
    (wpAny_mono h (fun xv s₁ h₁ => ?_) fun _ _ e => e)) (fun _ s' hq => wpAny_pure (wpAny_pure hq)) fun _ _ e => e)
  obtain ⟨ax, its, k, news, J, rfl, hh, F, N, hax, hsz, hJ0, hJl, T, fin⟩ := h₁
  have hl : s₁.heap.IsList ax its := ⟨_, (N _ hax).1, rfl, k, rfl⟩
  have hlt : ax < s₁.heap.objs.size := Heap.lt_size (N _ hax).1
  refine wpAny_pyIter_list hl ?_
  -- the iterator I
  obtain ⟨I, hI⟩ : ∃ I : Nat, I = s₁.heap.objs.size := ⟨_, rfl⟩
  obtain ⟨H1, hH1⟩ : ∃ H1 : Heap, H1 = s₁.heap.push { cls := .type "list_iterator", data := .fields #[.ref ax, .int 0 0] } := ⟨_, rfl⟩
  have up : ∀ b o, s₁.heap.get? b = some o → H1.get? b = some o := fun b o e => hH1 ▸ Heap.get?_push_of_some _ e
  have hI1 : H1.get? I = some { cls := .type "list_iterator", data := .fields #[.ref ax, .int 0 0] } := by rw [hH1, hI]; exact Heap.get?_push_size _ rfl
  have W := Walks.list (prog := prog) (w := w) hh I ax (by rw [hI]; exact Nat.ne_of_lt hlt) its
  have F1 : Fr h₀ env.locals H1 m := F.keeps up
  have N1 : News h₀ env.locals H1 news := N.grown up
  have sz1 : H1.objs.size = I + 1 := by rw [hH1, Heap.size_push, hI]
  have hIL : @Ne Nat env.locals I := by rw [hI]; exact Nat.ne_of_lt F.ns.lt
  have hI₀ : h₀.get? I = none := by rw [hI]; exact next_is_new F
  have hnI : ∀ p ∈ news, @LT.lt Nat _ p.1 I := fun p hp => by rw [hI]; exact Heap.lt_size (N p hp).1
  show wpAny _ A (newList []) _ _ { s₁ with heap := s₁.heap.push _ }
  rw [← hH1, ← hI]
  refine wpAny_newObj_type (wpAny_newFunctionEnv hcell (by intro y hy; simp at hy) (fun h₁ hns₁ hsb₁ => ?_) hkind)
  dsimp only at hns₁ hsb₁ ⊢
  generalize hH2 : H1.push { cls := .type "list", dict := none, data := .seq ([] : List Value).toArray } = H2 at hns₁ hsb₁ ⊢
  have hC : H2.objs.size = I + 2 := by rw [← hH2, Heap.size_push, sz1]
  rw [sz1]
  generalize hCC : H2.objs.size = C at hns₁ hsb₁ ⊢
  obtain ⟨D, hD⟩ : ∃ D : Nat, D = I + 1 := ⟨_, rfl⟩
  rw [← hD]
  have hCI : @Eq Nat C (I + 2) := by rw [← hCC, hC]
  have old : ∀ b o, @Ne Nat b C → @Ne Nat b D → H1.get? b = some o → h₁.get? b = some o := fun b o e1 e2 e => hsb₁.extBut b o e1 (Heap.get?_push_of_some _ (hH2 ▸ Heap.get?_push_of_some _ e))
  have hacc : h₁.get? D = some (lst []) := hsb₁.extBut D _ (by show @Ne Nat D C; omega) (Heap.get?_push_of_some _ (by rw [← hH2, hD, ← sz1]; exact Heap.get?_push_size _ rfl))
  have lt1 : ∀ b o, H1.get? b = some o → @LT.lt Nat _ b (I + 1) := fun b o e => by have := Heap.lt_size e; rw [sz1] at this; exact this
  have fresh₀ : ∀ a : Nat, I ≤ a → h₀.get? a = none := fun a ha => by
    cases e : h₀.get? a with
    | none => rfl
    | some o' => have := Heap.lt_size (F.keep a o' e); rw [← hI] at this; exact absurd this (Nat.not_lt.mpr ha)
  have hD₀ : h₀.get? D = none := fresh₀ _ (by omega)
  have hC₀ : h₀.get? C = none := fresh₀ _ (by omega)
  have hLlt : @LT.lt Nat _ env.locals I := by rw [hI]; exact F.ns.lt
  have hDL : @Ne Nat D env.locals := by omega
  have hCL : @Ne Nat C env.locals := by omega
  have hDC : @Ne Nat D C := by omega
  have hst₁ : h₁.IsListIter I ax 0 ∧ h₁.IsList ax its := ⟨⟨_, old I _ (by omega) (by omega) hI1, rfl, rfl⟩, ⟨_, old ax _ (by have := hnI _ hax; omega) (by have := hnI _ hax; omega) (up _ _ (N _ hax).1), rfl, k, rfl⟩⟩
  have loop : ∀ s₃ : Shared, s₃ = { s₁ with heap := h₁, toks := s₁.toks + ([] : List (Str × Value)).length } →
      codeAny (model prog w) A (.compLoop (.ListComp elt [⟨.Tuple [.Name x1 p1, .Name x2 p2, .Name x3 p3] xc tp, iter, [ct], 0⟩] scope pos) 0 (.ref I) (.ref D) (compEnvC scope cl C env)) (compPost (model prog w) A E (some (assign (Expr.Name y py) env)) (fun _ s' => Q Flow.next s') (.ref D) C) s₃ := by
    rintro s₃ rfl
    refine compLoop_tup
      (fun k' s' => ∃ h' tk i ys m', s' = { s₁ with heap := h', toks := tk } ∧ i ≤ its.size ∧ k' = its.size + 1 - i ∧ (h'.IsListIter I ax i ∧ h'.IsList ax its) ∧ Fr h₀ env.locals h' m ∧ h'.Ns C m' ∧ News h₀ env.locals h' ((D, lst ys) :: news) ∧ J i ys) ?_ (its.size + 1)
      ⟨h₁, _, 0, [], _, rfl, Nat.zero_le _, rfl, hst₁, F1.keeps (fun b o e => ?_), hns₁, fun p hp => ?_, hJ0⟩
    · rintro k' s' ⟨h', tk, i, ys, m', rfl, hi, rfl, hst', F', hn', N', hJ⟩
      by_cases hlt : i < its.size
      · refine W.item i _ _ _ hlt hst' fun v h₂ tk₂ hPv hst₂ hk₂ => ?_
        obtain ⟨t, ot, v₁, v₂, v₃, nt, rfl, hmt, hct, hdt, T'⟩ := T i v ys hPv hJ
        have N₂ : News h₀ env.locals h₂ ((D, lst ys) :: news) := news_but N' hk₂ fun p hp => by
          rcases List.mem_cons.mp hp with rfl | hp
          · show @Ne Nat D I; omega
          · exact Nat.ne_of_lt (hnI p hp)
        have ht : IsTup h₂ t #[v₁, v₂, v₃] := ⟨ot, (N₂ _ (List.mem_cons_of_mem _ hmt)).1, hct, nt, hdt⟩
        refine wpAny_letOwnedTupleGo_listiter hst₂.1 ?_
        refine assign_Tuple_tuple hh ht rfl rfl fun h₅ he => ?_
        have he' : ∀ b o, h₂.get? b = some o → h₅.get? b = some o := fun b o e => he b o (Nat.ne_of_lt (Heap.lt_size e)) e
        have hCI' : @Ne Nat C I := by omega
        refine assignInOrder_cons (wpAny_assign_Name (wpAny_storeName_local (lookup_relabel_local hx1) ((hn'.at' fun o e => hk₂ _ o (by simpa using hCI') e).at' fun o e => he' _ o e) (fun h₆ hn₆ hs₆ => ?_) (by simp [compEnvC, relabel, hkind])))
        refine assignInOrder_cons (wpAny_assign_Name (wpAny_storeName_local (lookup_relabel_local hx2) hn₆ (fun h₇ hn₇ hs₇ => ?_) (by simp [compEnvC, relabel, hkind])))
        refine assignInOrder_cons (wpAny_assign_Name (wpAny_storeName_local (lookup_relabel_local hx3) hn₇ (fun h₃ hn₃ hs₃ => ?_) (by simp [compEnvC, relabel, hkind])))
        refine assignInOrder_nil ?_
        have old3 : ∀ b o, @Ne Nat b C → h₂.get? b = some o → h₃.get? b = some o := fun b o hb e => hs₃.extBut b o hb (hs₇.extBut b o hb (hs₆.extBut b o hb (he' b o e)))
        obtain ⟨oI, heI, rI⟩ := hst₂.1
        have heI := old3 I oI (by omega) heI
        obtain ⟨oC, heC, hoC⟩ := ns_obj hn₃
        have F₃ : Fr h₀ env.locals h₃ m := ((((fr_but F' hk₂ hIL hI₀).keeps he').change hs₆ hCL hC₀).change hs₇ hCL hC₀).change hs₃ hCL hC₀
        have N₃ : News h₀ env.locals h₃ ((I, oI) :: (C, oC) :: (D, lst ys) :: news) := fun p hp => by
          rcases List.mem_cons.mp hp with rfl | hp
          · exact ⟨heI, Ne.symm hIL, hI₀⟩
          · rcases List.mem_cons.mp hp with rfl | hp
            · exact ⟨heC, hCL, hC₀⟩
            · have z := N₂ p hp
              refine ⟨old3 _ _ ?_ z.1, z.2⟩
              rcases List.mem_cons.mp hp with rfl | hp
              · exact hDC
              · have := hnI p hp; exact fun e => by rw [e] at this; omega
        refine wpAny_mono (T' I oI C oC D _ h₃ _ _ hoC (by simp [h12, h13]) (by simp [h23]) (by simp) F₃ N₃) (fun ok s₄ h₄ => ?_) fun _ _ e => e
        have next : ∀ h₄ tk₄ ys', Fr h₀ env.locals h₄ m → News h₀ env.locals h₄ ((I, oI) :: (C, oC) :: (D, lst ys') :: news) → J (i + 1) ys' →
            ∃ k, k < its.size + 1 - i ∧ ∃ h' tk i ys m', { s₁ with heap := h₄, toks := tk₄ } = { s₁ with heap := h', toks := tk } ∧ i ≤ its.size ∧ k = its.size + 1 - i ∧ (h'.IsListIter I ax i ∧ h'.IsList ax its) ∧ Fr h₀ env.locals h' m ∧ h'.Ns C m' ∧ News h₀ env.locals h' ((D, lst ys) :: news) ∧ J i ys := fun h₄ tk₄ ys' F₄ N₄ J₄ =>
          ⟨its.size + 1 - (i + 1), by omega, h₄, tk₄, i + 1, ys', _, rfl, hlt, rfl, ⟨⟨oI, (N₄ _ (.head _)).1, rI⟩, ⟨_, (N₄ _ (.tail _ (.tail _ (.tail _ hax)))).1, rfl, k, rfl⟩⟩, F₄, hoC.ns (N₄ _ (.tail _ (.head _))).1, fun p hp => N₄ p (.tail _ (.tail _ hp)), J₄⟩
        cases ok with
        | false =>
          obtain ⟨h₅, tk₅, rfl, F₅, N₅, J₅⟩ := h₄
          exact next _ _ _ F₅ N₅ J₅
        | true =>
          refine wpAny_mono h₄ (fun y s₅ h₅ => ?_) fun _ _ e => e
          obtain ⟨h₅, tk₅, rfl, F₅, N₅, J₅⟩ := h₅
          have zD := (N₅ (D, lst ys) (.tail _ (.tail _ (.head _)))).1
          refine append_at (hsz := by show ys.toArray.size ≤ sizeLine; rw [List.size_toArray]; have := hJl _ _ hJ; omega) zD fun h₆ hs₆ hD₆ => ?_
          refine next _ _ _ (F₅.change hs₆ hDL hD₀) (fun p hp => ?_) J₅
          have keep6 : ∀ b o, @Ne Nat b D → h₅.get? b = some o → h₆.get? b = some o := fun b o hb e => hs₆.extBut b o hb e
          rcases List.mem_cons.mp hp with rfl | hp
          · exact ⟨keep6 _ _ (by show @Ne Nat I D; omega) (N₅ _ (.head _)).1, (N₅ _ (.head _)).2⟩
          rcases List.mem_cons.mp hp with rfl | hp
          · exact ⟨keep6 _ _ (Ne.symm hDC) (N₅ _ (.tail _ (.head _))).1, (N₅ _ (.tail _ (.head _))).2⟩
          rcases List.mem_cons.mp hp with rfl | hp
          · exact ⟨hD₆.trans (congrArg some (lst_snoc ys y)), hDL, hD₀⟩
          · have z := N₅ p (.tail _ (.tail _ (.tail _ hp)))
            exact ⟨keep6 _ _ (by have := hnI p hp; exact fun e => by rw [e] at this; omega) z.1, z.2⟩
      · obtain rfl : i = its.size := Nat.le_antisymm hi (Nat.not_lt.mp hlt)
        refine W.done _ _ _ hst' fun h₂ tk₂ hk₂ => ?_
        have F₂ : Fr h₀ env.locals h₂ m := fr_but F' hk₂ hIL hI₀
        have N₂ : News h₀ env.locals h₂ ((D, lst ys) :: news) := news_but N' hk₂ fun p hp => by
          rcases List.mem_cons.mp hp with rfl | hp
          · show @Ne Nat D I; omega
          · exact Nat.ne_of_lt (hnI p hp)
        have hn₂ : h₂.Ns C m' := hn'.at' fun o e => hk₂ _ o (by simpa using (show @Ne Nat C I by omega)) e
        show wpAny _ A (assign (.Name y py) env (.ref D)) _ _ _
        refine wpAny_assign_Name (wpAny_storeName_local hy F₂.ns (fun h₃ hn₃ hs₃ => ?_) hp)
        have hL₀ : h₀.get? env.locals = none := Heap.get?_none_of_le F₂.above
        have F₃ : Fr h₀ env.locals h₃ (fun z => if z = y then some (.ref D) else m z) := ⟨hn₃, fun b o e => hs₃.extBut b o (fun q => by rw [q, hL₀] at e; cases e) (F₂.keep b o e), F₂.above⟩
        refine ⟨m', hn₂.sameBut hs₃ hCL, fun h'' hs'' => fin D h'' _ ys (F₃.change hs'' hCL hC₀) (fun p hp => ?_) (allLt_of fun p hp => by have := hnI p hp; omega) hJ⟩
        have z : h₃.get? p.1 = some p.2 := hs₃.extBut _ _ (N₂ p hp).2.1 (N₂ p hp).1
        refine ⟨hs''.extBut _ _ ?_ z, (N₂ p hp).2⟩
        rcases List.mem_cons.mp hp with rfl | hp
        · exact hDC
        · have := hnI p hp; exact fun e => by rw [e] at this; omega
    · have := lt1 b o e
      exact old b o (by omega) (by omega) e
    · rcases List.mem_cons.mp hp with rfl | hp
      · exact ⟨hacc, hDL, hD₀⟩
      · have := hnI p hp
        exact ⟨old _ _ (by omega) (by omega) (up _ _ (N p hp).1), (N p hp).2⟩
  exact codeAny_compStart_list (loop _ rfl) (W.self 0 _ _ _ hst₁ (loop _ rfl))
end
end Mine
end

section
open PySem PySem.W PyProof.Rows PySem.Calls
set_option maxRecDepth 100000
namespace Mine
abbrev tupOb (vs : Array Value) : Obj := { cls := .type "tuple", data := .seq vs }
/-- the triples of `left` stand in the ledger -/
def TupIn (ns : List (Addr × Obj)) (r : Ru) (v : Value) : Prop :=
  ∃ (t : Nat) (u1 u2 u3 : Tok), v = .ref t ∧ (t, tupOb #[.int r.place u1, .int r.kind u2, .int r.reach u3]) ∈ ns
def TupsIn (ns : List (Addr × Obj)) (ls : List Value) (rs : List Ru) : Prop :=
  ls.length = rs.length ∧ ∀ (i : Nat) (v : Value) (r : Ru), ls[i]? = some v → rs[i]? = some r → TupIn ns r v
theorem TupsIn.mono {ns ns' : List (Addr × Obj)} {ls : List Value} {rs : List Ru} (h : TupsIn ns ls rs) (hs : ∀ p ∈ ns, p ∈ ns') : TupsIn ns' ls rs :=
  ⟨h.1, fun i v r a b => by obtain ⟨t, u1, u2, u3, e, m⟩ := h.2 i v r a b; exact ⟨t, u1, u2, u3, e, hs _ m⟩⟩
theorem TupsIn.at {ns : List (Addr × Obj)} {ls : List Value} {rs : List Ru} (h : TupsIn ns ls rs) {i : Nat} {v : Value} (hi : ls[i]? = some v) : ∃ r, rs[i]? = some r ∧ TupIn ns r v := by
  have hl : i < ls.length := (List.getElem?_eq_some_iff.mp hi).1
  have hr : i < rs.length := h.1 ▸ hl
  exact ⟨rs[i], List.getElem?_eq_getElem hr, h.2 i v _ hi (List.getElem?_eq_getElem hr)⟩
theorem TupsIn.snoc {ns : List (Addr × Obj)} {ls : List Value} {rs : List Ru} {v : Value} {r : Ru} (h : TupsIn ns ls rs) (hv : TupIn ns r v) : TupsIn ns (ls ++ [v]) (rs ++ [r]) := by
  refine ⟨by simp [h.1], fun i v' r' a b => ?_⟩
  by_cases hi : i < ls.length
  · rw [List.getElem?_append_left hi] at a
    rw [List.getElem?_append_left (h.1 ▸ hi)] at b
    exact h.2 i v' r' a b
  · rw [List.getElem?_append_right (by omega)] at a
    rw [List.getElem?_append_right (by rw [← h.1]; omega), ← h.1] at b
    cases hj : i - ls.length with
    | zero => rw [hj] at a b; cases a; cases b; exact hv
    | succ j => rw [hj] at a; simp at a
theorem RulesIn.snoc {w : World} {lg : Nat} {ns : List (Addr × Obj)} {vs : List Value} {rs : List Ru} {v : Value} {r : Ru} (h : RulesIn w lg ns vs rs) (ho : RuOk r) (hv : RuleIn w lg ns r.place r.kind r.reach v) : RulesIn w lg ns (vs ++ [v]) (rs ++ [r]) := by
  refine ⟨by simp [h.1], fun i v' r' a b => ?_⟩
  by_cases hi : i < vs.length
  · rw [List.getElem?_append_left hi] at a
    rw [List.getElem?_append_left (h.1 ▸ hi)] at b
    exact h.2 i v' r' a b
  · rw [List.getElem?_append_right (by omega)] at a
    rw [List.getElem?_append_right (by rw [← h.1]; omega), ← h.1] at b
    cases hj : i - vs.length with
    | zero => rw [hj] at a b; cases a; cases b; exact ⟨ho, hv⟩
    | succ j => rw [hj] at a; simp at a
def Stop (P : Prop) : Prop := P
theorem Stop.mk {P : Prop} (h : Stop P) : P := h
end Mine
end

section
open PySem PySem.W PyProof.Rows PySem.Calls PySem.Spec PyProof.Rows.LCg
set_option maxRecDepth 100000
namespace Mine
/-- a comprehension's turns by an invariant over the list that grows -/
theorem rest_T {prog : Program} {w : World} {A : Around} {h₀ : Heap} {L : Addr} {m : Str → Option Value} {env : Env} {ct elt : Expr} {x : Str} {scope : Scope} {cl : List (Str × Addr)} {s : Shared} {S : List (Addr × Obj) → Prop} {P : Nat → Value → Prop}
    {Fin : List Value → List (Addr × Obj) → Prop} {news : List (Addr × Obj)} {n : Nat} (J : Nat → List Value → Prop) (hS : S news)
    (turn : ∀ (i : Nat) v (I : Nat) oI (C : Nat) oC (D : Nat) m₂ h tk (E' : Value → Shared → Prop) ys, i < n → P i v → J i ys → NsObj oC m₂ → m₂ x = some v → Fr h₀ L h m → News h₀ L h ((I, oI) :: (C, oC) :: (D, lst ys) :: news) →
      wpAny (model prog w) A (isTrue ct (compEnvC scope cl C env) (eval ct (compEnvC scope cl C env))) (fun ok s' => if ok = true then
        wpAny (model prog w) A (eval elt (compEnvC scope cl C env)) (TEnd h₀ L m { s with heap := h, toks := tk } ((I, oI) :: (C, oC) :: (D, lst ys) :: news) (fun y => J (i + 1) (ys ++ [y]))) E' s'
        else TEnd h₀ L m { s with heap := h, toks := tk } ((I, oI) :: (C, oC) :: (D, lst ys) :: news) (fun _ => J (i + 1) ys) Value.none s') E' { s with heap := h, toks := tk })
    (fin : ∀ ys, J n ys → Fin ys news) : ∀ k i ys, i + k = n → J i ys → LCt.CompRestT prog w A h₀ L m env ct elt x scope cl s S P Fin k i ys news
  | 0, i, ys, e, hj => by
    obtain rfl : i = n := e
    exact fin ys hj
  | k + 1, i, ys, e, hj => by
    refine LCt.CompRestT.succ fun v I oI C oC D m₂ h tk E' hv hC hx F N off ne => ?_
    refine wpAny_mono (turn i v I oI C oC D m₂ h tk E' ys (by omega) hv hj hC hx F N) (fun ok s' h' => ?_) fun _ _ e => e
    cases ok with
    | true =>
      simp only [if_true] at h' ⊢
      refine wpAny_mono h' (fun y s₂ h₂ => ?_) fun _ _ e => e
      obtain ⟨h₃, tk₃, rfl, F₃, N₃, J₃⟩ := h₂
      exact ⟨h₃, tk₃, news, rfl, F₃, N₃, off, hS, rest_T J hS turn fin k (i + 1) _ (by omega) J₃⟩
    | false =>
      simp only [Bool.false_eq_true, if_false] at h' ⊢
      obtain ⟨h₃, tk₃, rfl, F₃, N₃, J₃⟩ := h'
      exact ⟨h₃, tk₃, news, rfl, F₃, N₃, off, hS, rest_T J hS turn fin k (i + 1) _ (by omega) J₃⟩
/-- the list so far holds the numbers that the filter keeps so far -/
def JF {α : Type} (f : α → Option Int) (l : List α) (i : Nat) (ys : List Value) : Prop := ∃ ni, IntsAre ys ni ∧ ni ++ (l.drop i).filterMap f = l.filterMap f ∧ ys.length ≤ i
theorem JF.zero {α : Type} (f : α → Option Int) (l : List α) : JF f l 0 [] := ⟨[], .nil, rfl, Nat.le_refl _⟩
theorem JF.keep {α : Type} {f : α → Option Int} {l : List α} {i : Nat} {ys : List Value} {a : α} {b : Int} {u : Tok} (h : JF f l i ys) (ha : l[i]? = some a) (hb : f a = some b) : JF f l (i + 1) (ys ++ [.int b u]) := by
  obtain ⟨ni, h1, h2, h3⟩ := h
  rw [drop_at ha, List.filterMap_cons, hb] at h2
  exact ⟨ni ++ [b], h1.append (.cons _ _ .nil), by rw [List.append_assoc]; exact h2, by simp; omega⟩
theorem JF.skip {α : Type} {f : α → Option Int} {l : List α} {i : Nat} {ys : List Value} {a : α} (h : JF f l i ys) (ha : l[i]? = some a) (hb : f a = none) : JF f l (i + 1) ys := by
  obtain ⟨ni, h1, h2, h3⟩ := h
  rw [drop_at ha, List.filterMap_cons, hb] at h2
  exact ⟨ni, h1, h2, by omega⟩
theorem JF.len {α : Type} {f : α → Option Int} {l : List α} {i : Nat} {ys : List Value} (h : JF f l i ys) : ys.length ≤ i := by obtain ⟨_, _, _, h⟩ := h; exact h
theorem JF.done {α : Type} {f : α → Option Int} {l : List α} {i : Nat} {ys : List Value} (h : JF f l i ys) (hi : i = l.length) : IntsAre ys (l.filterMap f) := by
  subst hi
  obtain ⟨ni, h1, h2, h3⟩ := h
  rw [List.drop_length, List.filterMap_nil, List.append_nil] at h2
  rw [← h2]; exact h1
/-- the places of the faulty rules -/
def faultF (rs : List Ru) (k : Nat) : Option Int := match rs[k]? with
  | some r => if r.kind > 2 then some (k : Int) else none
  | none => none
def faultsOf (rs : List Ru) : List Int := (List.range rs.length).filterMap (faultF rs)
/-- the places of the rules that ask the log -/
def placeF (r : Ru) : Option Int := if r.kind = 4 then none else some r.place
/-- the scores of the rules without fault -/
def scoreF (r : Ru) : Option Int := if r.kind < 2 then some (2 * r.reach + 1 - r.kind) else none
end Mine
end

section
open PySem PySem.W PyProof.Rows PySem.Calls
namespace Mine
theorem sizeN (n : Nat) : Builtin.Range.rangeSize 0 (n : Int) 1 = (n : Int) := by
  unfold Builtin.Range.rangeSize
  simp only [show (1:Int) > 0 by decide, if_true]
  split <;> omega
theorem size1 (a b : Int) : Builtin.Range.rangeSize a b 1 = ((b - a).toNat : Int) := by
  unfold Builtin.Range.rangeSize
  simp only [show (1:Int) > 0 by decide, if_true]
  split <;> omega
theorem fits_of {x : Int} (h0 : -1000 ≤ x) (h1 : x ≤ 1000) : Builtin.Range.rangeFitsLong x = true := by
  unfold Builtin.Range.rangeFitsLong
  simp only [Bool.and_eq_true, decide_eq_true_eq]
  omega
theorem small1 {a b : Int} (h0 : 0 ≤ a) (h1 : a ≤ 100) (h2 : 0 ≤ b) (h3 : b ≤ 100) : Builtin.Range.small a b 1 = true := by
  unfold Builtin.Range.small
  rw [size1, fits_of (by omega) (by omega), fits_of (by omega) (by omega), fits_of (by omega) (by omega), fits_of (by omega) (by omega)]
  simp only [show (1:Int) > 0 by decide, if_true]
  rw [fits_of (by omega) (by omega)]
  simp
theorem size10 (M : Int) (h0 : 0 < M) : Builtin.Range.rangeSize 0 M 10 = (((M - 1) / 10 + 1).toNat : Int) := by
  unfold Builtin.Range.rangeSize
  simp only [h0, if_true, show (10:Int) > 0 by decide]
  omega
theorem small10 {M : Int} (h0 : 0 < M) (h1 : M ≤ 100) : Builtin.Range.small 0 M 10 = true := by
  unfold Builtin.Range.small
  rw [size10 _ h0, fits_of (by omega) (by omega), fits_of (by omega) (by omega), fits_of (by omega) (by omega), fits_of (by omega) (by omega)]
  simp only [show (10:Int) > 0 by decide, if_true]
  rw [fits_of (by omega) (by omega)]
  simp
theorem smallN {n : Nat} (h : n ≤ 10) : Builtin.Range.small 0 (n : Int) 1 = true := small1 (by omega) (by omega) (by omega) (by omega)
end Mine
end

section
open PySem PySem.W PyProof.Rows PySem.Calls Mine
namespace Mine
set_option maxRecDepth 100000 in
set_option maxHeartbeats 8000000 in
theorem rule_call {w : World} {base h₀ : Heap} {L lg : Nat} {m mg mb : Str → Option Value} {rest : List (Addr × Obj)} {s : Shared} {env : Env} {loose : List Str} {mean : ExcName → Option Value}
    {Q : Value → Shared → Prop} {E : Value → Shared → Prop} {ps : Array Value} {place kind reach : Int} {t1 t2 t3 : Tok}
    (B : Below callerA base [] h₀) (X : (hd.heap_39 w.params).In h₀) (T : Top topProg loose mean mg mb h₀) (F : Fr h₀ L s.heap m)
    (N : News h₀ L s.heap ((58, tabObj ps) :: rest)) {r0 : List (Addr × Obj)} (hps : TabOk ps r0) (hr0 : ∀ p ∈ r0, p ∈ rest) (hf : env.frame = some L) (hke : env.scope.kind = .function)
    (hoff : OwnOff rest [58]) (hh : CodeHd base 62 58)
    (hQ : ∀ h' tk v ps' added, Fr h₀ L h' m → News h₀ L h' ((58, tabObj ps') :: (added ++ rest)) → RuleIn w lg (added ++ r0) place kind reach v → TabOk ps' (added ++ r0) →
      Behind added ((58, tabObj ps) :: rest) → Q v { s with heap := h', toks := tk })  :
    wpAny (model PR w) (callerA.deeper env) (call (.ref 63) [.int place t1, .int kind t2, .int reach t3, .ref lg] []) Q E s := by
  have hF : (callerA.deeper env).frames = some (env :: []) := rfl
  w_on
  refine wpAny_call ?_
  rcases hps with rfl | ⟨c₀, oc, vs, tt, rfl, hm1, hm2, hm3⟩
  all_goals try have hm1' := hr0 _ hm1
  all_goals w_strict
    (refine' code_defC B F X N T hF hf hke ?k6 ?k7 ?k8 ?k9 ?kB ?kD ?_ ?c2 ?c3 ?c4
     case k6 => k_is
     case k7 => k_is
     case k8 => k_room
     case k9 => first | exact BindsTo.of_eq rfl | exact binds_K (by k_in) rfl (by k_is) rfl rfl rfl
     case kB => exact rfl
     case kD => decide +kernel
     case c2 => exact rfl
     case c3 => exact rfl
     case c4 => exact rfl
     k_whole
     intro g' L' h' tk' cells' FG' F' N' Y' B' X' T' l1
     k_lt l1
     have lB := l1.2
     k_cells Y'
     simp only [List.cons_append, List.nil_append] at N'
     dsimp only
     try k_lift B'
     try k_fold
     k_steps
     skip)
  · exact hQ _ _ _ _ [] (by assumption) (news_drop (added := [_, _, _, _]) (by assumption)) (.text (by assumption)) (.inl rfl) behind_nil
  · refine hQ _ _ _ _ [_, _, _, _, _, _, _, _, _, _] (by assumption) (news_mid (added := [_, _, _, _, _, _, _, _, _, _]) (by assumption)) ?_ ?_ ?_
    · refine' RuleIn.obj ?a ?b ?c ?d ?e ?f ?g ?h ?i ?j ?k ?l ?m ?n ?o
      case a => assumption
      case b => k_mem
      case c => k_mem
      case d => k_mem
      case e => k_mem
      case f => assumption
      case g => assumption
      case h => k_mem
      case i => assumption
      case j => k_mem
      case k => assumption
      case l => k_mem
      case m => assumption
      case n => k_mem
      case o => assumption
    · exact .inr ⟨_, _, _, _, rfl, List.Mem.tail _ (List.Mem.head _), by assumption, by assumption⟩
    · repeat' (first | exact behind_nil | refine behind_cons ⟨neLt (by omega), allLt_up (by omega) lB⟩ ?_)
  · exact hQ _ _ _ _ [] (by assumption) (news_drop (added := [_, _, _, _]) (by assumption)) (.text (by assumption)) (.inr ⟨c₀, oc, vs, tt, rfl, hm1, hm2, hm3⟩) behind_nil
  · refine hQ _ _ _ _ [_, _, _, _, _, _, _, _, _] (by assumption) (news_mid (added := [_, _, _, _, _, _, _, _, _]) (by assumption)) ?_ ?_ ?_
    · refine' RuleIn.obj ?a ?b ?c ?d ?e ?f ?g ?h ?i ?j ?k ?l ?m ?n ?o
      case a => assumption
      case b => k_mem
      case c => k_mem
      case d => k_mem
      case e => exact List.mem_append_right _ hm1
      case f => assumption
      case g => assumption
      case h => k_mem
      case i => assumption
      case j => k_mem
      case k => assumption
      case l => k_mem
      case m => assumption
      case n => k_mem
      case o => assumption
    · exact .inr ⟨c₀, oc, vs, tt, rfl, List.mem_append_right _ hm1, hm2, hm3⟩
    · repeat' (first | exact behind_nil | refine behind_cons ⟨neLt (by omega), allLt_up (by omega) lB⟩ ?_)
end Mine
end

section
open PySem PySem.W PyProof.Rows PySem.Calls Mine
namespace Mine
local macro_rules | `(tactic| k_mem) => `(tactic| first | assumption | exact List.Mem.head _ | (refine' List.Mem.tail _ ?_; k_mem))
local macro_rules | `(tactic| walk_at "getMethod str") => `(tactic| (refine getMethod_miss_str str_applies (by exact rfl) ?_; intro h' tk' e' x'))
local macro_rules | `(tactic| walk_at "getMethod ref") => `(tactic| (k_here; k_dflt (refine' method_shadow ?k1 ?k2 ?k3 ?k4 ?k5 ?k6 ?k7 ?_; (case k1 => k_asm); (case k2 => k_asm); (case k3 => k_inst); (case k4 => k_is); (case k5 => k_is); (case k6 => k_is); (case k7 => k_get); k_whole)))
local macro_rules | `(tactic| walk_at "getAttr ref") => `(tactic| (k_here; k_dflt (refine' get_shadow ?k1 ?k2 ?k3 ?k4 ?k5 ?k6 ?k7 ?k8 ?k9 ?k10 ?_; (case k1 => k_asm); (case k2 => k_asm); (case k3 => k_inst); (case k4 => k_is); (case k5 => k_is); (case k6 => k_is); (case k7 => k_is); (case k8 => k_is); (case k9 => k_get); (case k10 => k_handed); k_whole)))
local macro_rules | `(tactic| walk_at "call builtin:list.append") => `(tactic| (k_here; dsimp only [List.cons_append, List.nil_append]; k_dflt (refine' append_K ?k1 ?k2 ?k3 ?_ ?z; (case k1 => k_asm); (case k2 => k_asm); (case k3 => k_upd); (case z => size_fits); k_whole); intro h' F' N'; (try k_sweep)))
local macro_rules | `(tactic| walk_at "exec Raise some none") => `(tactic| (k_here; (with_unfolding_all refine Raise_madeB PySem.F.excCall_ValueError PySem.F.excRaise_ValueError rfl ?_)))
local macro_rules | `(tactic| walk_at "And") => `(tactic| ((with_reducible show (Value.type _ = Value.type _) ∧ _); refine ⟨rfl, ?_⟩))
local macro_rules | `(tactic| walk_at "And") => `(tactic| ((with_reducible show _ ≤ sizeLine ∧ _); refine ⟨by size_fits, ?_⟩; intro h' e' x'; (have x' := Heap.NewExc.of (Heap.MadeExc.newExc x'))))
local macro_rules | `(tactic| walk_at "compareOp Gt str int") => `(tactic| (refine gt_str_int (by exact rfl) ?_; intro h' tk' e' x'; (have x' := Heap.NewExc.of x')))
local macro_rules | `(tactic| walk_at "leaving ref") => `(tactic| (k_here; (refine' leave_newX ?K ?x ?F ?N ?f ?k ?_; (case x => assumption); (case K => assumption); (case F => assumption); (case N => k_asm); (case f => exact rfl); (case k => exact rfl); k_whole); intro h' R' U'; (try dsimp only at R' U' ⊢)))
set_option maxRecDepth 100000 in
set_option maxHeartbeats 1200000 in
theorem told_call {w : World} {base : Heap} {L lg one od ua rl : Nat} {m mg mb : Str → Option Value} {rest : List (Addr × Obj)} {s : Shared} {env : Env} {loose : List Str} {mean : ExcName → Option Value}
    {Q : Value → Shared → Prop} {E : Value → Shared → Prop} {ng nr : Nat} {vs : List Value} {t1 t2 t3 t4 : Tok}
    (B : Below callerA base [] base) (X : (hd.heap_39 w.params).In base) (T : Top topProg loose mean mg mb base) (F : Fr base L s.heap m)
    (N : News base L s.heap ((lg, listOf #[] ng) :: rest)) (hf : env.frame = some L) (hke : env.scope.kind = .function)
    (hoff : OwnOff rest [lg]) (hh : CodeHd base 62 58)
    (ho1 : (one, instObj 52 od) ∈ rest) (ho2 : (od, dictOf [ent w (Str.ofString "useragents") t1 (.ref ua), ent w (Str.ofString "rulelines") t2 (.ref rl), ent w (Str.ofString "delay") t3 .none, ent w (Str.ofString "req_rate") t4 .none] 4) ∈ rest)
    (ho3 : (rl, listOf vs.toArray nr) ∈ rest)
    {rs : List Ru} (hru : RulesIn w lg rest vs rs) (hlen : vs.length ≤ 10)
    (hQ : ∀ h' tk v gs gi ng', Fr base L h' m → News base L h' ((lg, listOf gs ng') :: rest) → IntsAre gs.toList gi → gi = askedOf rs → IsOut v (outOf (-1) true rs) → Q v { s with heap := h', toks := tk })  :
    wpAny (model PR w) (callerA.deeper env) (call (.ref 70) [.ref one] []) Q E s := by
  have hF : (callerA.deeper env).frames = some (env :: []) := rfl
  w_on
  refine wpAny_call ?_
  w_strict
    (refine' code_defSX0 B F X N T hF hf hke ?k6 ?k7 ?k8 ?k9 ?kB ?_ ?c2 ?c3 ?c4 ?c5
     case k6 => k_is
     case k7 => k_is
     case k8 => k_room
     case k9 => first | exact BindsTo.of_eq rfl | exact binds_K (by k_in) rfl (by k_is) rfl rfl rfl
     case c5 => decide
     case kB => exact locs rfl
     case c2 => exact rfl
     case c3 => exact rfl
     case c4 => exact rfl
     k_whole
     intro g' L' h' FG' F' N' B' X' T' D'
     dsimp only
     try k_lift B'
     try k_fold
     k_steps
     refine iter_listJ (AlwJ lg rest rs) rfl (l := rl) (vs := vs) (nn := nr) (news := (lg, listOf #[] ng) :: rest) (List.Mem.tail _ ho3) (by assumption) (by assumption) ?_ ?_ ?_ ?_
     · exact ⟨-1, true, _, _, _, [], _, rfl, rfl, rfl, rfl, .nil, by simp, by simp, by simp, by decide, by decide⟩
     · rintro i m₁ news₁ ⟨_, _, _, _, _, _, _, _, _, _, rfl, _⟩
       exact List.Mem.tail _ ho3
     · rintro I hI it i v h tk m₁ news₁ hv ⟨best, alw, tb, tf, gs, gi, ng₁, hf1, hf2, hf3, rfl, hI1, hI2, hI3, hI4, hI5, hI6⟩ hne FT NT
       have FT := Fr.ext FT (m' := fun z => if z = Str.ofString "line" then some v else if z = Str.ofString "filename" then some (.str (Str.ofString "/x") tf) else if z = Str.ofString "best_match" then some (.int best tb) else if z = Str.ofString "allowance" then some (.bool alw) else m₁ z) (by
         intro z
         by_cases h1 : z = Str.ofString "line"
         · simp only [h1, if_true]
         · simp only [if_neg h1]
           by_cases h2 : z = Str.ofString "filename"
           · simp only [h2, if_true, hf1]
           · simp only [if_neg h2]
             by_cases h3 : z = Str.ofString "best_match"
             · simp only [h3, if_true, hf2]
             · simp only [if_neg h3]
               by_cases h4 : z = Str.ofString "allowance"
               · simp only [h4, if_true, hf3]
               · simp only [if_neg h4])
       obtain ⟨r, hr, hok, hR⟩ := hru.at hv
       have hIl : @LT.lt Nat _ lg I := hI _ (List.Mem.head _)
       have hil : i < vs.length := (List.getElem?_eq_some_iff.mp hv).1
       have hgsz : gs.size ≤ sizeLine := by rw [sizeLine_eq]; omega
       obtain ⟨k0, k6, r1, r3⟩ := hok
       have ed := drop_at hr
       cases hR with
       | text hk =>
         k_steps
         all_goals
           (refine hQ _ _ _ gs gi ng₁ (by assumption) (news_drop (added := [_]) (by assumption)) hI1 ?_ ?_
            · rw [← hI2, ed]; simp [askedOf, hk]
            · rw [← hI3, ed]; simp only [outOf]; rw [if_pos (by omega), hk]; exact .int _ _)
       | obj hk a1 a2 a3 a4 a5 a6 a7 a8 a9 b1 b2 b3 b4 b5 =>
         k_steps
         any_goals
           (refine hQ _ _ _ _ (gi ++ [r.place]) _ (by assumption) (news_drop (added := [_]) (by assumption)) (by rw [Array.toList_push]; exact hI1.append (.cons _ _ .nil)) ?_ ?_
            · rw [← hI2, ed]; simp only [askedOf]; rw [if_neg (by omega), if_pos (by omega)]
            · rw [← hI3, ed]; simp only [outOf]; rw [if_pos (by omega)]; (rename r.kind = _ => hkk); rw [hkk]; exact .int _ _)
         any_goals (exfalso; omega)
         all_goals
           (refine jend (by assumption) (by assumption) (off_head hne) ?_
            refine AlwJ.step (best := best) (alw := alw) rfl rfl rfl hr hI1 hI2 hI3 hI4 (by omega) ?_ ?_ ?_
            · omega
            · omega
            · intro t
              have q1 : ¬ r.kind > 2 := by omega
              simp only [outOf]
              rw [if_neg q1]
              first
                | rw [if_neg (by omega)]
                | rw [if_pos (by omega), if_pos (by omega)]
                | rw [if_pos (by omega), if_neg (by omega), if_neg (by rintro ⟨h1, h2⟩; first | omega | exact Bool.noConfusion (h2.symm.trans (show alw = true by assumption)))]
                | rw [if_pos (by omega), if_neg (by omega), if_pos ⟨by omega, by assumption⟩])
     · rintro m₁ news₁ h tk ⟨best, alw, tb, tf, gs, gi, ng₁, hf1, hf2, hf3, rfl, hI1, hI2, hI3, hI4, hI5, hI6⟩ FT NT
       have FT := Fr.ext FT (m' := fun z => if z = Str.ofString "allowance" then some (.bool alw) else m₁ z) (by
         intro z
         by_cases h1 : z = Str.ofString "allowance"
         · simp only [h1, if_true, hf3]
         · simp only [if_neg h1])
       have hd : rs.drop vs.length = [] := by rw [hru.1]; exact List.drop_length
       rw [hd] at hI2 hI3
       dsimp only
       k_steps
       all_goals
         (refine hQ _ _ _ gs gi ng₁ (by assumption) (by assumption) hI1 ?_ ?_
          · rw [← hI2]; simp [askedOf]
          · rw [← hI3]; exact .bool _))
end Mine
end

section
open PySem PySem.W PyProof.Rows PySem.Calls Mine
namespace Mine
theorem news_swap {h₀ h : Heap} {L : Addr} {rest : List (Addr × Obj)} {a b : Addr × Obj} (N : News h₀ L h (a :: b :: rest)) : News h₀ L h (b :: a :: rest) := fun p hp => N p (by
  rcases List.mem_cons.mp hp with rfl | hp
  · exact .tail _ (.head _)
  · rcases List.mem_cons.mp hp with rfl | hp
    · exact .head _
    · exact .tail _ (.tail _ hp))
theorem news_re {h₀ h : Heap} {L : Addr} {added rest : List (Addr × Obj)} {a b c d : Addr × Obj} (N : News h₀ L h (a :: (added ++ d :: b :: c :: rest))) : News h₀ L h (a :: b :: c :: (added ++ d :: rest)) := fun p hp => N p (by
  rcases List.mem_cons.mp hp with rfl | hp
  · exact .head _
  refine .tail _ ?_
  rcases List.mem_cons.mp hp with rfl | hp
  · exact List.mem_append_right _ (.tail _ (.head _))
  rcases List.mem_cons.mp hp with rfl | hp
  · exact List.mem_append_right _ (.tail _ (.tail _ (.head _)))
  rcases List.mem_append.mp hp with hp | hp
  · exact List.mem_append_left _ hp
  refine List.mem_append_right _ ?_
  rcases List.mem_cons.mp hp with rfl | hp
  · exact .head _
  · exact .tail _ (.tail _ (.tail _ hp)))
theorem app_sub {added rest : List (Addr × Obj)} {d : Addr × Obj} : ∀ p ∈ added ++ rest, p ∈ added ++ d :: rest := fun p hp => by
  rcases List.mem_append.mp hp with hp | hp
  · exact List.mem_append_left _ hp
  · exact List.mem_append_right _ (.tail _ hp)
local macro_rules | `(tactic| k_mem) => `(tactic| first | assumption | exact List.Mem.head _ | (refine' List.Mem.tail _ ?_; k_mem))
local macro_rules | `(tactic| walk_at "call builtin:list.append") => `(tactic| (k_here; dsimp only [List.cons_append, List.nil_append]; k_dflt (refine' append_K ?k1 ?k2 ?k3 ?_ ?z; (case k1 => k_asm); (case k2 => k_asm); (case k3 => k_upd); (case z => size_fits); k_whole); intro h' F' N'; (try k_sweep)))
local macro_rules | `(tactic| walk_at "call ref") => `(tactic| (k_here; refine Stop.mk ?_))
set_option maxRecDepth 100000 in
set_option maxHeartbeats 1200000 in
theorem build_turn {w : World} {base : Heap} {L fa sc lf lg rl one od ua : Nat} {cd : Value} {m mg mb : Str → Option Value} {rest : List (Addr × Obj)} {s : Shared} {loose : List Str} {mean : ExcName → Option Value}
    {Q : Flow → Shared → Prop} {ps ls vs : Array Value} {nl nv : Nat} {items : Array Value} {ns : List Int} {q : Int} {t t1 t2 t3 t4 : Tok} {oc : Obj}
    (B : Below callerA base [] base) (X : (hd.heap_39 w.params).In base) (T : Top topProg loose mean mg mb base)
    (F : Fr base L s.heap (fun z => if z = Str.ofString "place" then some (.int q t) else if z = Str.ofString "one" then some (.ref one) else if z = Str.ofString "log" then some (.ref lg) else if z = Str.ofString "script" then some (.ref sc) else m z))
    (N : News base L s.heap ((58, tabObj ps) :: (lf, listOf ls nl) :: (rl, listOf vs nv) :: rest)) {r0 : List (Addr × Obj)} (hps : TabOk ps r0) (hr0 : ∀ p ∈ r0, p ∈ rest)
    (hc : (L + 1, oc) ∈ rest) (hoc : oc.data = .cell (some (.ref lf)))
    (ho1 : (one, instObj 52 od) ∈ rest) (ho2 : (od, dictOf [ent w (Str.ofString "useragents") t1 (.ref ua), ent w (Str.ofString "rulelines") t2 (.ref rl), ent w (Str.ofString "delay") t3 .none, ent w (Str.ofString "req_rate") t4 .none] 4) ∈ rest)
    (l1 : 58 < lf) (l2 : lf < rl) (hoff : OwnOff rest [58, lf, rl]) (hh : CodeHd base 62 58)
    (lifted : base.IsList sc items) (hI : IntsAre items.toList ns) (hq0 : 0 ≤ q) (hq1 : q < (ns.length : Int)) (hlen : ¬ 63 < ns.length) (hl1 : ls.size ≤ sizeLine) (hl2 : vs.size ≤ sizeLine)
    (hQ : ∀ h' tk m' ps' added v v' nl' nv' r, Fr base L h' m' → (∀ z, z ≠ Str.ofString "x" → m' z = if z = Str.ofString "place" then some (.int q t) else if z = Str.ofString "one" then some (.ref one) else if z = Str.ofString "log" then some (.ref lg) else if z = Str.ofString "script" then some (.ref sc) else m z) →
      News base L h' ((58, tabObj ps') :: (lf, listOf (ls.push v) nl') :: (rl, listOf (vs.push v') nv') :: (added ++ rest)) → TabOk ps' (added ++ r0) →
      Behind added ((58, tabObj ps) :: (lf, listOf ls nl) :: (rl, listOf vs nv) :: rest) → RuOk r → r.place = q → TupIn (added ++ r0) r v → RuleIn w lg (added ++ r0) r.place r.kind r.reach v' → Q .next { s with heap := h', toks := tk }) :
    wpAny (model PR w) (callerA.deeper (envLaw L fa cd)) (execs buildBody (envLaw L fa cd)) Q (fun _ _ => False) s := by
  have hF : (callerA.deeper (envLaw L fa cd)).frames = some (envLaw L fa cd :: []) := rfl
  w_on
  change wpAny (model PR w) (callerA.deeper (envOfC _ ⟨_, _, _, _, _⟩ _ _ _)) (execs (_ :: _) (envOfC _ ⟨_, _, _, _, _⟩ _ _ _)) _ _ s
  change Below callerA base [] base at B
  w_strict (k_steps)
  rename News _ _ _ _ => N'
  rename Fr _ _ _ _ => F'
  rename _ ∧ _ => lD
  have N' := news_swap N'
  change wpAny _ _ _ _ _ _
  refine rule_call (lg := lg) B X T F' N' hps (fun p hp => .tail _ (.tail _ (.tail _ (hr0 p hp)))) rfl rfl ?_ hh ?_
  · intro p hp b hb
    rw [List.mem_singleton.mp hb]
    revert p
    k_all
  · intro h' tk v ps' added F' N' hR hT hB
    have N' := news_re N'
    generalize hadd : added ++ (_, _) :: rest = rest2 at N'
    have hoff2 : OwnOff rest2 [58, lf, rl] := by
      subst hadd
      intro p hp b hb
      rcases List.mem_append.mp hp with hp | hp
      · have z1 := hB p hp _ (.head _)
        have z2 := hB p hp _ (.tail _ (.tail _ (.head _)))
        have z3 := hB p hp _ (.tail _ (.tail _ (.tail _ (.head _))))
        rcases List.mem_cons.mp hb with rfl | hb
        · exact (Nat.ne_of_lt z1).symm
        rcases List.mem_cons.mp hb with rfl | hb
        · exact (Nat.ne_of_lt z2).symm
        rw [List.mem_singleton.mp hb]
        exact (Nat.ne_of_lt z3).symm
      · rcases List.mem_cons.mp hp with rfl | hp
        · rcases List.mem_cons.mp hb with rfl | hb
          · exact (Nat.ne_of_lt lD.1).symm
          rcases List.mem_cons.mp hb with rfl | hb
          · exact (Nat.ne_of_lt lD.2.1).symm
          rw [List.mem_singleton.mp hb]
          exact (Nat.ne_of_lt lD.2.2.1).symm
        · exact hoff p hp b hb
    w_strict (k_steps)
    rename News _ _ _ _ => N'
    rename Fr _ _ _ _ => F'
    subst hadd
    have k1 := Int.fmod_nonneg_of_pos (ns.getD q.toNat 0) (show (0:Int) < 6 by decide)
    have k2 := Int.fmod_lt_of_pos (ns.getD q.toNat 0) (show (0:Int) < 6 by decide)
    have k3 := Int.fmod_nonneg_of_pos ((ns.getD q.toNat 0).fdiv 6) (show (0:Int) < 3 by decide)
    have k4 := Int.fmod_lt_of_pos ((ns.getD q.toNat 0).fdiv 6) (show (0:Int) < 3 by decide)
    refine hQ _ _ _ ps' (added ++ [_]) _ _ _ _ ⟨q, (ns.getD q.toNat 0).fmod 6, ((ns.getD q.toNat 0).fdiv 6).fmod 3 + 1⟩ F' ?_ (by rw [List.append_assoc]; exact N') (by rw [List.append_assoc]; exact hT.mono app_sub) ?_ ⟨k1, k2, by show (1:Int) ≤ ((ns.getD q.toNat 0).fdiv 6).fmod 3 + 1; omega, by show ((ns.getD q.toNat 0).fdiv 6).fmod 3 + 1 ≤ (3:Int); omega⟩ rfl ?_ (by rw [List.append_assoc]; exact hR.mono app_sub)
    · intro z hz
      simp only [if_neg hz]
    · intro p hp q' hq'
      rcases List.mem_append.mp hp with hp | hp
      · rcases List.mem_cons.mp hq' with rfl | hq'
        · exact hB p hp _ (.head _)
        · rcases List.mem_cons.mp hq' with rfl | hq'
          · have z := hB p hp _ (.tail _ (.tail _ (.head _)))
            exact z
          rcases List.mem_cons.mp hq' with rfl | hq'
          · have z := hB p hp _ (.tail _ (.tail _ (.tail _ (.head _))))
            exact z
          · exact hB p hp _ (.tail _ (.tail _ (.tail _ (.tail _ hq'))))
      · rw [List.mem_singleton.mp hp]
        rcases List.mem_cons.mp hq' with rfl | hq'
        · exact lD.1
        rcases List.mem_cons.mp hq' with rfl | hq'
        · exact lD.2.1
        rcases List.mem_cons.mp hq' with rfl | hq'
        · exact lD.2.2.1
        · exact allLt_at lD.2.2.2 _ hq'
    · exact ⟨_, _, _, _, rfl, List.mem_append_left _ (List.mem_append_right _ (.head _))⟩
end Mine
end

section
open PySem PySem.W PyProof.Rows PySem.Calls Mine
namespace Mine
local macro_rules | `(tactic| k_mem) => `(tactic| first | assumption | exact List.Mem.head _ | (refine' List.Mem.tail _ ?_; k_mem))
local macro_rules | `(tactic| walk_at "exec Assign cons ListComp") => `(tactic| (k_here; refine Stop.mk ?_))
local macro_rules | `(tactic| walk_at "CompSrcT") => `(tactic| (k_here; refine Stop.mk ?_))
local macro_rules | `(tactic| walk_at "subscriptTail Name Name ref int") => `(tactic| (k_here; k_dflt (refine' PyProof.Rows.item_list ?l ?p ?f ?x ?_; (case l => exact News.isList (by k_asm) (by k_mem)); (case p => omega); (case f => omega); (case x => assumption); k_whole)))
set_option maxRecDepth 100000 in
set_option maxHeartbeats 1200000 in
theorem stageA {w : World} {base : Heap} {L fa sc lf lg rl one : Nat} {cd : Value} {m mg mb : Str → Option Value} {rest : List (Addr × Obj)} {s : Shared} {loose : List Str} {mean : ExcName → Option Value}
    {Q : Flow → Shared → Prop} {ls vs gs : Array Value} {ng nl nv : Nat} {oc : Obj} {rs : List Ru} {tl : List Stmt}
    (B : Below callerA base [] base) (X : (hd.heap_39 w.params).In base) (T : Top topProg loose mean mg mb base)
    (F : Fr base L s.heap (fun z => if z = Str.ofString "log" then some (.ref lg) else if z = Str.ofString "one" then some (.ref one) else if z = Str.ofString "rules" then some (.ref rl) else if z = Str.ofString "script" then some (.ref sc) else m z))
    (N : News base L s.heap ((lg, listOf gs ng) :: (lf, listOf ls nl) :: (rl, listOf vs nv) :: rest))
    (hc : (L + 1, oc) ∈ rest) (hoc : oc.data = .cell (some (.ref lf)))
    (l1 : lg < lf) (l2 : lf < rl) (hoff : OwnOff rest [lg, lf, rl])
    (hlen : rs.length ≤ 10) (hn1 : ls.size = rs.length) (hn2 : vs.size = rs.length) (hl1 : ls.size ≤ sizeLine) (hl2 : vs.size ≤ sizeLine) (hl3 : gs.size ≤ sizeLine)
    (htup : TupsIn rest ls.toList rs)
    (hQ : ∀ h' tk (fl cp cc : Nat) ys m', Fr base L h' m' → (∀ z, m' z = if z = Str.ofString "faults" then some (.ref fl) else if z = Str.ofString "copy" then some (.ref cp) else if z = Str.ofString "log" then some (.ref lg) else if z = Str.ofString "one" then some (.ref one) else if z = Str.ofString "rules" then some (.ref rl) else if z = Str.ofString "script" then some (.ref sc) else m z) →
      News base L h' ((fl, LCg.lst ys) :: (cp, listOf vs cc) :: (lg, listOf gs ng) :: (lf, listOf ls nl) :: (rl, listOf vs nv) :: rest) → rl < cp → (@Ne Nat lg fl ∧ @Ne Nat lf fl ∧ @Ne Nat rl fl) → IntsAre ys (faultsOf rs) →
      wpAny (model PR w) (callerA.deeper (envLaw L fa cd)) (execs tl (envLaw L fa cd)) Q (fun _ _ => False) { s with heap := h', toks := tk }) :
    wpAny (model PR w) (callerA.deeper (envLaw L fa cd)) (execs (nth 0 whileBody :: nth 1 whileBody :: tl) (envLaw L fa cd)) Q (fun _ _ => False) s := by
  have hF : (callerA.deeper (envLaw L fa cd)).frames = some (envLaw L fa cd :: []) := rfl
  w_on
  change wpAny (model PR w) (callerA.deeper (envOfC _ ⟨_, _, _, _, _⟩ _ _ _)) (execs (Stmt.Assign _ (.Call _ _ _ _) _ :: Stmt.Assign [.Name _ _] (.ListComp _ _ _ _) _ :: _) (envOfC _ ⟨_, _, _, _, _⟩ _ _ _)) _ _ s
  change Below callerA base [] base at B
  w_strict (k_steps)
  rename News _ _ _ _ => N'
  rename Fr _ _ _ _ => F'
  rename _ ∧ _ => lD
  change wpAny _ _ _ _ _ _
  w_strict (refine LCt.Assign_ListComp_T (F₀ := F') (by rfl) (by with_unfolding_all rfl) (by with_unfolding_all rfl) (by decide) (by rfl) (by decide) (by rfl) (by rfl) (by rfl) ?_; k_steps)
  rename News _ _ _ _ => N'
  rename Fr _ _ _ _ => F'
  rename IsRange _ _ _ _ _ _ _ _ => hr
  change LCt.CompSrcT _ _ _ _ _ _ _ _ _ _ _ _ _ _ _
  refine LCt.CompSrcT.range (n := rs.length) rfl F' N' hr (smallN (by omega)) (sizeN _) (by rw [sizeLine_eq]; omega) ?_
  intro g
  refine rest_T (n := rs.length) (JF (faultF rs) (List.range rs.length)) trivial ?_ ?_ rs.length 0 [] (by omega) (JF.zero _ _)
  · rintro i v I oI C oC D m₂ h tk E' ys hi ⟨t, rfl⟩ hJ hC hx F N
    have hil : i < ls.toList.length := by simp; omega
    obtain ⟨r, hr, tt, u1, u2, u3, hv, hmem⟩ := htup.at (List.getElem?_eq_getElem hil)
    have hx2 : ls[(0 + (i : Int)).toNat]? = some (.ref tt) := by
      have e : (0 + (i : Int)).toNat = i := by omega
      rw [e, ← hv, ← Array.getElem?_toList, List.getElem?_eq_getElem hil]
    have hri : (List.range rs.length)[i]? = some i := by simp [hi]
    w_strict (k_steps)
    · refine TEnd.intro F N (hJ.keep hri ?_)
      unfold faultF
      rw [hr]
      simp only
      rw [if_pos (by omega)]
      congr 1
      omega
    · refine TEnd.intro F N (hJ.skip hri ?_)
      unfold faultF
      rw [hr]
      simp only
      rw [if_neg (by omega)]
  · intro ys hJ D h tk F N off
    refine hQ _ _ D _ _ ys _ F (fun z => rfl) N lD.2.2.1 ⟨off.2.1, off.2.2.1, off.2.2.2.1⟩ (hJ.done (by simp))
end Mine
end

section
open PySem PySem.W PyProof.Rows PySem.Calls Mine
namespace Mine
local macro_rules | `(tactic| k_mem) => `(tactic| first | assumption | exact List.Mem.head _ | (refine' List.Mem.tail _ ?_; k_mem))
local macro_rules | `(tactic| walk_at "exec Assign cons ListComp") => `(tactic| (k_here; refine Stop.mk ?_))
local macro_rules | `(tactic| walk_at "CompSrcT") => `(tactic| (k_here; refine Stop.mk ?_))
set_option maxRecDepth 100000 in
set_option maxHeartbeats 1200000 in
theorem stageB1 {w : World} {base : Heap} {L fa sc lf lg rl one fl cp : Nat} {cd : Value} {m mg mb : Str → Option Value} {rest : List (Addr × Obj)} {s : Shared} {loose : List Str} {mean : ExcName → Option Value}
    {Q : Flow → Shared → Prop} {ls vs gs : Array Value} {ng nl nv : Nat} {oc : Obj} {rs : List Ru} {tl : List Stmt} {ys : List Value} {FI : List Int}
    (B : Below callerA base [] base) (X : (hd.heap_39 w.params).In base) (T : Top topProg loose mean mg mb base)
    (F : Fr base L s.heap (fun z => if z = Str.ofString "faults" then some (.ref fl) else if z = Str.ofString "copy" then some (.ref cp) else if z = Str.ofString "log" then some (.ref lg) else if z = Str.ofString "one" then some (.ref one) else if z = Str.ofString "rules" then some (.ref rl) else if z = Str.ofString "script" then some (.ref sc) else m z))
    (N : News base L s.heap ((fl, LCg.lst ys) :: (lg, listOf gs ng) :: (lf, listOf ls nl) :: (rl, listOf vs nv) :: rest))
    (hc : (L + 1, oc) ∈ rest) (hoc : oc.data = .cell (some (.ref lf))) (hfl : @Ne Nat lg fl ∧ @Ne Nat lf fl ∧ @Ne Nat rl fl) (hys : IntsAre ys FI)
    (l1 : lg < lf) (l2 : lf < rl) (hoff : OwnOff rest [lg, lf, rl])
    (hlen : rs.length ≤ 10) (hn1 : ls.size = rs.length) (hn2 : vs.size = rs.length) (hl1 : ls.size ≤ sizeLine) (hl2 : vs.size ≤ sizeLine) (hl3 : gs.size ≤ sizeLine)
    (htup : TupsIn rest ls.toList rs)
    (hQ : ∀ h' tk (e : Int) te m', Fr base L h' m' → (∀ z, m' z = if z = Str.ofString "end" then some (.int e te) else if z = Str.ofString "faults" then some (.ref fl) else if z = Str.ofString "copy" then some (.ref cp) else if z = Str.ofString "log" then some (.ref lg) else if z = Str.ofString "one" then some (.ref one) else if z = Str.ofString "rules" then some (.ref rl) else if z = Str.ofString "script" then some (.ref sc) else m z) →
      News base L h' ((fl, LCg.lst ys) :: (lg, listOf gs ng) :: (lf, listOf ls nl) :: (rl, listOf vs nv) :: rest) → e = (match FI with | [] => (rs.length : Int) | f0 :: _ => f0 + 1) →
      wpAny (model PR w) (callerA.deeper (envLaw L fa cd)) (execs tl (envLaw L fa cd)) Q (fun _ _ => False) { s with heap := h', toks := tk }) :
    wpAny (model PR w) (callerA.deeper (envLaw L fa cd)) (execs (nth 2 whileBody :: tl) (envLaw L fa cd)) Q (fun _ _ => False) s := by
  have hF : (callerA.deeper (envLaw L fa cd)).frames = some (envLaw L fa cd :: []) := rfl
  w_on
  change wpAny (model PR w) (callerA.deeper (envOfC _ ⟨_, _, _, _, _⟩ _ _ _)) (execs (Stmt.Assign _ (.IfExp _ _ _ _) _ :: _) (envOfC _ ⟨_, _, _, _, _⟩ _ _ _)) _ _ s
  change Below callerA base [] base at B
  cases FI with
  | nil =>
    w_strict (k_steps)
    rename News _ _ _ _ => N'
    rename Fr _ _ _ _ => F'
    exact hQ _ _ _ _ _ F' (fun z => rfl) (news_drop (added := [_]) N') rfl
  | cons f0 FT =>
    w_strict (k_steps)
    · rename decide _ = true => hd
      simp at hd
    rename News _ _ _ _ => N'
    rename Fr _ _ _ _ => F'
    exact hQ _ _ _ _ _ F' (fun z => rfl) (news_drop (added := [_]) N') rfl

def SlK (Q : Value → Shared → Prop) (o vl vu : Value) (s₃ : Shared) : Prop := ∃ l items lo hi, o = .ref l ∧ s₃.heap.IsList l items ∧ items.size ≤ sizeLine ∧ IsPart vl lo ∧ IsPart vu hi ∧
        Q (.ref (s₃.heap.objs.size + 1)) { s₃ with heap := (s₃.heap.push { cls := .type "slice", data := .fields #[vl, vu, .none] }).push { cls := .type "list", data := .seq (slicePick items lo hi none) } }
theorem slice_K {prog : Program} {w : World} {A : Around} {E : Value → Shared → Prop} {s : Shared} {env : Env} {value : Expr} {lower upper : Option Expr} {p pos : Pos} {Q : Value → Shared → Prop}
    (h : wpAny (model prog w) A (eval value env) (fun o s₁ => wpAny (model prog w) A (evalPart lower env) (fun vl s₂ => wpAny (model prog w) A (evalPart upper env) (fun vu s₃ => SlK Q o vl vu s₃) E s₂) E s₁) E s)
    (ht : ∀ o r, letTemporaryGo value o r = pure () := by intro _ _; rfl) :
    wpAny (model prog w) A (eval (.Subscript value (.Slice lower upper none p) pos) env) Q E s := wpAny_Subscript_list_slice h ht
theorem push2 {base h : Heap} {L : Addr} {m : Str → Option Value} {news : List (Addr × Obj)} {a b : Obj} (F : Fr base L h m) (N : News base L h news) (hb : b.isFreed = false) :
    Fr base L ((h.push a).push b) m ∧ News base L ((h.push a).push b) ((h.objs.size + 1, b) :: news) := by
  have F1 := F.push a
  have e : (h.push a).objs.size = h.objs.size + 1 := Heap.size_push ..
  refine ⟨F1.push b, fun p hp => ?_⟩
  rcases List.mem_cons.mp hp with rfl | hp
  · refine ⟨by rw [← e]; exact Heap.get?_push_size _ hb, ?_, ?_⟩
    · have := F1.ns.lt
      rw [e] at this
      exact (Nat.ne_of_lt this).symm
    · rw [← e]; exact next_is_new F1
  · exact ⟨Heap.get?_push_of_some _ (Heap.get?_push_of_some _ (N p hp).1), (N p hp).2⟩
theorem pick_upto (items : Array Value) (e : Int) (h0 : 0 ≤ e) (h1 : e ≤ items.size) : slicePick items none (some e) none = (items.toList.take e.toNat).toArray := by
  obtain ⟨n, rfl⟩ : ∃ n : Nat, e = n := ⟨e.toNat, by omega⟩
  have e1 : slicePick items none (some (n : Int)) none = slicePick items (some ((0 : Nat) : Int)) (some (n : Int)) none := by
    unfold slicePick sliceBounds
    have e0 : max 0 (min 0 (items.size : Int)) = 0 := by omega
    simp [e0]
  rw [e1, slicePick_run items 0 n (by omega) (by omega)]
  simp
set_option maxRecDepth 100000 in
set_option maxHeartbeats 1200000 in
theorem stageB2 {w : World} {base : Heap} {L fa sc lf lg rl one fl cp : Nat} {cd : Value} {m mg mb : Str → Option Value} {rest : List (Addr × Obj)} {s : Shared} {loose : List Str} {mean : ExcName → Option Value}
    {Q : Flow → Shared → Prop} {ls vs gs : Array Value} {ng nl nv : Nat} {oc : Obj} {rs : List Ru} {tl : List Stmt} {ys : List Value} {e : Int} {te : Tok}
    (B : Below callerA base [] base) (X : (hd.heap_39 w.params).In base) (T : Top topProg loose mean mg mb base)
    (F : Fr base L s.heap (fun z => if z = Str.ofString "end" then some (.int e te) else if z = Str.ofString "faults" then some (.ref fl) else if z = Str.ofString "copy" then some (.ref cp) else if z = Str.ofString "log" then some (.ref lg) else if z = Str.ofString "one" then some (.ref one) else if z = Str.ofString "rules" then some (.ref rl) else if z = Str.ofString "script" then some (.ref sc) else m z))
    (N : News base L s.heap ((fl, LCg.lst ys) :: (lg, listOf gs ng) :: (lf, listOf ls nl) :: (rl, listOf vs nv) :: rest))
    (hc : (L + 1, oc) ∈ rest) (hoc : oc.data = .cell (some (.ref lf))) (hfl : @Ne Nat lg fl ∧ @Ne Nat lf fl ∧ @Ne Nat rl fl)
    (l1 : lg < lf) (l2 : lf < rl) (hoff : OwnOff rest [lg, lf, rl]) (he0 : 0 ≤ e) (he1 : e ≤ rs.length)
    (hlen : rs.length ≤ 10) (hn1 : ls.size = rs.length) (hn2 : vs.size = rs.length) (hl1 : ls.size ≤ sizeLine) (hl2 : vs.size ≤ sizeLine) (hl3 : gs.size ≤ sizeLine)
    (htup : TupsIn rest ls.toList rs)
    (hQ : ∀ h' tk (ak : Nat) as m', Fr base L h' m' → (∀ z, m' z = if z = Str.ofString "asked" then some (.ref ak) else if z = Str.ofString "end" then some (.int e te) else if z = Str.ofString "faults" then some (.ref fl) else if z = Str.ofString "copy" then some (.ref cp) else if z = Str.ofString "log" then some (.ref lg) else if z = Str.ofString "one" then some (.ref one) else if z = Str.ofString "rules" then some (.ref rl) else if z = Str.ofString "script" then some (.ref sc) else m z) →
      News base L h' ((ak, LCg.lst as) :: (fl, LCg.lst ys) :: (lg, listOf gs ng) :: (lf, listOf ls nl) :: (rl, listOf vs nv) :: rest) → (lg < ak ∧ lf < ak ∧ rl < ak) → IntsAre as ((rs.take e.toNat).filterMap placeF) →
      wpAny (model PR w) (callerA.deeper (envLaw L fa cd)) (execs tl (envLaw L fa cd)) Q (fun _ _ => False) { s with heap := h', toks := tk }) :
    wpAny (model PR w) (callerA.deeper (envLaw L fa cd)) (execs (nth 3 whileBody :: tl) (envLaw L fa cd)) Q (fun _ _ => False) s := by
  have hF : (callerA.deeper (envLaw L fa cd)).frames = some (envLaw L fa cd :: []) := rfl
  w_on
  change wpAny (model PR w) (callerA.deeper (envOfC _ ⟨_, _, _, _, _⟩ _ _ _)) (execs (Stmt.Assign [.Name _ _] (.ListComp _ _ _ _) _ :: _) (envOfC _ ⟨_, _, _, _, _⟩ _ _ _)) _ _ s
  change Below callerA base [] base at B
  w_strict (k_steps)
  change wpAny _ _ _ _ _ _
  refine assign_comp3 F (by rfl) (by with_unfolding_all rfl) (by with_unfolding_all rfl) (by decide) (by rfl) (by decide) (by rfl) (by rfl) (by rfl) (by decide) (by decide) (by decide) (by rfl) (by rfl) ?_
  refine slice_K ?_
  w_strict (k_steps)
  refine ⟨lf, ls, none, some e, rfl, News.isList N (.tail _ (.tail _ (.head _))), hl1, .none, .int _ _, ?_⟩
  rw [pick_upto ls e he0 (by omega)]
  obtain ⟨F1, N1⟩ := push2 (a := { cls := .type "slice", data := .fields #[.none, .int e te, .none] }) (b := { cls := .type "list", data := .seq (ls.toList.take e.toNat).toArray }) F N rfl
  refine ⟨_, (ls.toList.take e.toNat).toArray, 0, _, JF placeF (rs.take e.toNat), rfl, rfl, F1, N1, .head _, by rw [List.size_toArray, List.length_take, sizeLine_eq]; omega, JF.zero _ _, fun i ys h => h.len, ?_, ?_⟩
  · intro i v ys hv hJ
    have hv2 : (ls.toList.take e.toNat)[i]? = some v := by simpa using hv
    rw [List.getElem?_take] at hv2
    split at hv2
    case isFalse => cases hv2
    case isTrue hie =>
    obtain ⟨r, hr, tt, u1, u2, u3, rfl, hmem⟩ := htup.at hv2
    have hri : (rs.take e.toNat)[i]? = some r := by rw [List.getElem?_take, if_pos hie]; exact hr
    refine ⟨tt, _, _, _, _, _, rfl, .tail _ (.tail _ (.tail _ (.tail _ (.tail _ hmem)))), rfl, rfl, ?_⟩
    intro I oI C oC D m₂ h tk E' hC hx1 hx2 hx3 F N
    w_strict (k_steps)
    · exact TEnd.intro F N (hJ.keep hri (if_neg (by assumption)))
    · exact TEnd.intro F N (hJ.skip hri (if_pos (by assumption)))
  · intro D h tk as F2 N2 l2 hJ
    refine hQ _ _ D as _ F2 (fun z => rfl) (fun p hp => N2 p (by
      rcases List.mem_cons.mp hp with rfl | hp
      · exact .head _
      · exact .tail _ (.tail _ hp))) ⟨l2.2.2.1, l2.2.2.2.1, l2.2.2.2.2.1⟩ (hJ.done (by simp; omega))
end Mine
end

section
open PySem PySem.W PyProof.Rows PySem.Calls Mine
namespace Mine
local macro_rules | `(tactic| k_mem) => `(tactic| first | assumption | exact List.Mem.head _ | (refine' List.Mem.tail _ ?_; k_mem))
theorem askedOf_len : ∀ rs : List Ru, (askedOf rs).length ≤ rs.length
  | [] => Nat.le_refl _
  | r :: t => by
    have ih := askedOf_len t
    simp only [askedOf]
    split
    · simp
    · split <;> simp <;> omega
local macro_rules | `(tactic| walk_at "subscriptTail Name Subscript ref int") => `(tactic| (k_here; k_dflt (refine' PyProof.Rows.item_list ?l ?p ?f ?x ?_; (case l => exact News.isList (by k_asm) (by k_mem)); (case p => first | omega | assumption); (case f => first | omega | assumption); (case x => assumption); k_whole)))
local macro_rules | `(tactic| walk_at "compareOp NotEq ref ref") => `(tactic| (k_here; k_dflt (refine' ne_same ?a ?b ?u ?_; (case a => exact News.get (by k_asm) (by k_mem)); (case b => exact News.get (by k_asm) (by k_mem)); (case u => exact Nat.le_of_ble_eq_true rfl); k_whole)))
local macro_rules | `(tactic| walk_at "call ref") => `(tactic| (k_here; refine Stop.mk ?_))
set_option maxRecDepth 100000 in
set_option maxHeartbeats 1200000 in
theorem turnC {w : World} {base : Heap} {L fa sc lf lg rl one od ua fl cp cc ak : Nat} {cd : Value} {m mg mb : Str → Option Value} {rest : List (Addr × Obj)} {s : Shared} {loose : List Str} {mean : ExcName → Option Value}
    {Q : Flow → Shared → Prop} {ls vs gs : Array Value} {ng nl nv : Nat} {oc : Obj} {rs : List Ru} {ys as : List Value} {FI : List Int} {t1 t2 t3 t4 : Tok}
    (B : Below callerA base [] base) (X : (hd.heap_39 w.params).In base) (T : Top topProg loose mean mg mb base)
    (F : Fr base L s.heap (fun z => if z = Str.ofString "asked" then some (.ref ak) else if z = Str.ofString "faults" then some (.ref fl) else if z = Str.ofString "copy" then some (.ref cp) else if z = Str.ofString "log" then some (.ref lg) else if z = Str.ofString "one" then some (.ref one) else if z = Str.ofString "rules" then some (.ref rl) else if z = Str.ofString "script" then some (.ref sc) else m z))
    (N : News base L s.heap ((ak, LCg.lst as) :: (fl, LCg.lst ys) :: (lg, listOf gs ng) :: (lf, listOf ls nl) :: (rl, listOf vs nv) :: rest))
    (hc : (L + 1, oc) ∈ rest) (hoc : oc.data = .cell (some (.ref lf))) (hcp : (cp, listOf vs cc) ∈ rest)
    (ho1 : (one, instObj 52 od) ∈ rest) (ho2 : (od, dictOf [ent w (Str.ofString "useragents") t1 (.ref ua), ent w (Str.ofString "rulelines") t2 (.ref rl), ent w (Str.ofString "delay") t3 .none, ent w (Str.ofString "req_rate") t4 .none] 4) ∈ rest)
    (hfl : @Ne Nat lg fl ∧ @Ne Nat lf fl ∧ @Ne Nat rl fl) (hak : lg < ak ∧ lf < ak ∧ rl < ak)
    (l1 : lg < lf) (l2 : lf < rl) (hoff : OwnOff rest [lg, lf, rl]) (hh : CodeHd base 62 58)
    (hlen : rs.length ≤ 10) (hn1 : ls.size = rs.length) (hn2 : vs.size = rs.length) (hl1 : ls.size ≤ sizeLine) (hl2 : vs.size ≤ sizeLine) (hl3 : gs.size ≤ sizeLine)
    (htup : TupsIn rest ls.toList rs) (hrul : RulesIn w lg rest vs.toList rs) (hys : IntsAre ys FI) (has : IntsAre as (askedOf rs))
    (hfa : ∀ f0 FT, FI = f0 :: FT → 0 ≤ f0 ∧ f0 < rs.length ∧ ∃ r, rs[f0.toNat]? = some r ∧ outOf (-1) true rs = .int r.kind)
    (hQ : ∀ h' tk gs' ng' v m', Fr base L h' m' → (∀ z, m' z = if z = Str.ofString "told" then some v else if z = Str.ofString "asked" then some (.ref ak) else if z = Str.ofString "faults" then some (.ref fl) else if z = Str.ofString "copy" then some (.ref cp) else if z = Str.ofString "log" then some (.ref lg) else if z = Str.ofString "one" then some (.ref one) else if z = Str.ofString "rules" then some (.ref rl) else if z = Str.ofString "script" then some (.ref sc) else m z) →
      News base L h' ((ak, LCg.lst as) :: (fl, LCg.lst ys) :: (lg, listOf gs' ng') :: (lf, listOf ls nl) :: (rl, listOf vs nv) :: rest) → gs'.size ≤ sizeLine → IsOut v (outOf (-1) true rs) → Q .next { s with heap := h', toks := tk }) :
    wpAny (model PR w) (callerA.deeper (envLaw L fa cd)) (execs turnBody (envLaw L fa cd)) Q (fun _ _ => False) s := by
  have hF : (callerA.deeper (envLaw L fa cd)).frames = some (envLaw L fa cd :: []) := rfl
  w_on
  change wpAny (model PR w) (callerA.deeper (envOfC _ ⟨_, _, _, _, _⟩ _ _ _)) (execs (Stmt.Delete _ _ :: _) (envOfC _ ⟨_, _, _, _, _⟩ _ _ _)) _ _ s
  change Below callerA base [] base at B
  w_strict (k_steps)
  refine delAll_K (hsz := hl3) (F.push _) (N.grown fun _ _ e => Heap.get?_push_of_some _ e) (Heap.IsSliceOf.new ..) fun n' => ⟨_, by k_upd, fun h' F' N' => ?_⟩
  w_strict (k_steps)
  change wpAny _ _ _ _ _ _
  have N1 : News base L h' ((lg, listOf #[] n') :: (ak, LCg.lst as) :: (fl, LCg.lst ys) :: (lf, listOf ls nl) :: (rl, listOf vs nv) :: rest) := fun p hp => N' p (by
    rcases List.mem_cons.mp hp with rfl | hp
    · exact .tail _ (.tail _ (.head _))
    rcases List.mem_cons.mp hp with rfl | hp
    · exact .head _
    rcases List.mem_cons.mp hp with rfl | hp
    · exact .tail _ (.head _)
    exact .tail _ (.tail _ (.tail _ hp)))
  refine told_call (lg := lg) (rest := (ak, LCg.lst as) :: (fl, LCg.lst ys) :: (lf, listOf ls nl) :: (rl, listOf vs nv) :: rest) (rs := rs) (vs := vs.toList) (nr := nv) B X T F' N1 rfl rfl ?_ hh
    (.tail _ (.tail _ (.tail _ (.tail _ ho1)))) (.tail _ (.tail _ (.tail _ (.tail _ ho2)))) ?_ (hrul.mono fun p hp => .tail _ (.tail _ (.tail _ (.tail _ hp)))) (by simp; omega) ?_
  · intro p hp b hb
    rw [List.mem_singleton.mp hb]
    revert p
    k_all
  · rw [Array.toArray_toList]
    exact .tail _ (.tail _ (.tail _ (.head _)))
  intro h' tk v gs' gi ng' F' N2 hgi egi hout
  have N' : News base L h' ((ak, LCg.lst as) :: (fl, LCg.lst ys) :: (lg, listOf gs' ng') :: (lf, listOf ls nl) :: (rl, listOf vs nv) :: rest) := fun p hp => N2 p (by
    rcases List.mem_cons.mp hp with rfl | hp
    · exact .tail _ (.head _)
    rcases List.mem_cons.mp hp with rfl | hp
    · exact .tail _ (.tail _ (.head _))
    rcases List.mem_cons.mp hp with rfl | hp
    · exact .head _
    exact .tail _ (.tail _ (.tail _ hp)))
  clear N2
  subst egi
  have hgs : gs'.size ≤ sizeLine := by
    have h1 := hgi.length
    have h2 := askedOf_len rs
    rw [sizeLine_eq]
    simp at h1
    omega
  cases FI with
  | nil =>
    w_strict (k_steps)
    rename News _ _ _ _ => N'
    rename Fr _ _ _ _ => F'
    exact hQ _ _ gs' ng' v _ F' (fun z => rfl) (news_drop (added := [_]) N') hgs hout
  | cons f0 FT =>
    obtain ⟨hf0, hf1, r, hr, ho⟩ := hfa f0 FT rfl
    rw [ho] at hout
    obtain ⟨tt, u1, u2, u3, hlx, hmem⟩ : TupIn rest r (ls.toList[f0.toNat]'(by simp; omega)) := htup.2 f0.toNat _ r (List.getElem?_eq_getElem _) hr
    have hx2 : ls[f0.toNat]? = some (.ref tt) := by
      rw [← hlx, ← Array.getElem?_toList, List.getElem?_eq_getElem (by simp; omega)]
    have hf2 : f0 < 2 ^ 63 := by omega
    cases hout
    w_strict (k_steps)
    · rename decide _ = true => hd
      simp at hd
    · rename _ ≠ _ => hd
      exact absurd rfl hd
    · rename News _ _ _ _ => N'
      rename Fr _ _ _ _ => F'
      exact hQ _ _ gs' ng' _ _ F' (fun z => rfl) (news_drop (added := [_]) N') hgs (by rw [ho]; exact .int _ _)
end Mine
end

section
open PySem PySem.W PyProof.Rows PySem.Calls Mine
namespace Mine
theorem Fr.know {h₀ h : Heap} {L : Addr} {m : Str → Option Value} {x : Str} {v : Value} (F : Fr h₀ L h m) (e : m x = some v) : Fr h₀ L h (fun z => if z = x then some v else m z) := Fr.ext F fun z => by
  by_cases hz : z = x
  · simp only [hz, if_true, e]
  · simp only [if_neg hz]
theorem news_down5 {h₀ h : Heap} {L : Addr} {rest : List (Addr × Obj)} {i a b c d e : Addr × Obj} (N : News h₀ L h (i :: a :: b :: c :: d :: e :: rest)) : News h₀ L h (a :: b :: c :: d :: e :: i :: rest) := fun p hp => N p (by
  rcases List.mem_cons.mp hp with rfl | hp
  · exact .tail _ (.head _)
  rcases List.mem_cons.mp hp with rfl | hp
  · exact .tail _ (.tail _ (.head _))
  rcases List.mem_cons.mp hp with rfl | hp
  · exact .tail _ (.tail _ (.tail _ (.head _)))
  rcases List.mem_cons.mp hp with rfl | hp
  · exact .tail _ (.tail _ (.tail _ (.tail _ (.head _))))
  rcases List.mem_cons.mp hp with rfl | hp
  · exact .tail _ (.tail _ (.tail _ (.tail _ (.tail _ (.head _)))))
  rcases List.mem_cons.mp hp with rfl | hp
  · exact .head _
  · exact .tail _ (.tail _ (.tail _ (.tail _ (.tail _ (.tail _ hp))))))
theorem news_up5 {h₀ h : Heap} {L : Addr} {rest : List (Addr × Obj)} {i a b c d e : Addr × Obj} (N : News h₀ L h (a :: b :: c :: d :: e :: i :: rest)) : News h₀ L h (i :: a :: b :: c :: d :: e :: rest) := fun p hp => N p (by
  rcases List.mem_cons.mp hp with rfl | hp
  · exact .tail _ (.tail _ (.tail _ (.tail _ (.tail _ (.head _)))))
  rcases List.mem_cons.mp hp with rfl | hp
  · exact .head _
  rcases List.mem_cons.mp hp with rfl | hp
  · exact .tail _ (.head _)
  rcases List.mem_cons.mp hp with rfl | hp
  · exact .tail _ (.tail _ (.head _))
  rcases List.mem_cons.mp hp with rfl | hp
  · exact .tail _ (.tail _ (.tail _ (.head _)))
  rcases List.mem_cons.mp hp with rfl | hp
  · exact .tail _ (.tail _ (.tail _ (.tail _ (.head _))))
  · exact .tail _ (.tail _ (.tail _ (.tail _ (.tail _ (.tail _ hp))))))
/-- the names that the while body holds -/
def Nm (m : Str → Option Value) (fl cp lg one rl sc : Nat) : Prop :=
  m (Str.ofString "faults") = some (.ref fl) ∧ m (Str.ofString "copy") = some (.ref cp) ∧ m (Str.ofString "log") = some (.ref lg) ∧ m (Str.ofString "one") = some (.ref one) ∧ m (Str.ofString "rules") = some (.ref rl) ∧ m (Str.ofString "script") = some (.ref sc)
local macro_rules | `(tactic| walk_at "pyIter ref") => `(tactic| (k_here; refine Stop.mk ?_))
set_option maxRecDepth 100000 in
set_option maxHeartbeats 1200000 in
theorem stageC {w : World} {base : Heap} {L fa sc lf lg rl one od ua fl cp cc ak : Nat} {cd : Value} {m mg mb : Str → Option Value} {rest : List (Addr × Obj)} {s : Shared} {loose : List Str} {mean : ExcName → Option Value}
    {Q : Flow → Shared → Prop} {ls vs gs : Array Value} {ng nl nv : Nat} {oc : Obj} {rs : List Ru} {ys as : List Value} {FI : List Int} {t1 t2 t3 t4 : Tok} {tl : List Stmt}
    (B : Below callerA base [] base) (X : (hd.heap_39 w.params).In base) (T : Top topProg loose mean mg mb base)
    (F : Fr base L s.heap (fun z => if z = Str.ofString "asked" then some (.ref ak) else if z = Str.ofString "faults" then some (.ref fl) else if z = Str.ofString "copy" then some (.ref cp) else if z = Str.ofString "log" then some (.ref lg) else if z = Str.ofString "one" then some (.ref one) else if z = Str.ofString "rules" then some (.ref rl) else if z = Str.ofString "script" then some (.ref sc) else m z))
    (N : News base L s.heap ((ak, LCg.lst as) :: (fl, LCg.lst ys) :: (lg, listOf gs ng) :: (lf, listOf ls nl) :: (rl, listOf vs nv) :: rest))
    (hc : (L + 1, oc) ∈ rest) (hoc : oc.data = .cell (some (.ref lf))) (hcp : (cp, listOf vs cc) ∈ rest)
    (ho1 : (one, instObj 52 od) ∈ rest) (ho2 : (od, dictOf [ent w (Str.ofString "useragents") t1 (.ref ua), ent w (Str.ofString "rulelines") t2 (.ref rl), ent w (Str.ofString "delay") t3 .none, ent w (Str.ofString "req_rate") t4 .none] 4) ∈ rest)
    (hfl : @Ne Nat lg fl ∧ @Ne Nat lf fl ∧ @Ne Nat rl fl) (hak : lg < ak ∧ lf < ak ∧ rl < ak)
    (l1 : lg < lf) (l2 : lf < rl) (hoff : OwnOff rest [lg, lf, rl]) (hh : CodeHd base 62 58)
    (hlen : rs.length ≤ 10) (hn1 : ls.size = rs.length) (hn2 : vs.size = rs.length) (hl1 : ls.size ≤ sizeLine) (hl2 : vs.size ≤ sizeLine) (hl3 : gs.size ≤ sizeLine)
    (htup : TupsIn rest ls.toList rs) (hrul : RulesIn w lg rest vs.toList rs) (hys : IntsAre ys FI) (has : IntsAre as (askedOf rs))
    (hfa : ∀ f0 FT, FI = f0 :: FT → 0 ≤ f0 ∧ f0 < rs.length ∧ ∃ r, rs[f0.toNat]? = some r ∧ outOf (-1) true rs = .int r.kind)
    (hQ : ∀ h' tk gs' ng' v m', Fr base L h' m' → Nm m' fl cp lg one rl sc → m' (Str.ofString "told") = some v → IsOut v (outOf (-1) true rs) →
      News base L h' ((ak, LCg.lst as) :: (fl, LCg.lst ys) :: (lg, listOf gs' ng') :: (lf, listOf ls nl) :: (rl, listOf vs nv) :: rest) → gs'.size ≤ sizeLine →
      wpAny (model PR w) (callerA.deeper (envLaw L fa cd)) (execs tl (envLaw L fa cd)) Q (fun _ _ => False) { s with heap := h', toks := tk }) :
    wpAny (model PR w) (callerA.deeper (envLaw L fa cd)) (execs (nth 4 whileBody :: tl) (envLaw L fa cd)) Q (fun _ _ => False) s := by
  have hF : (callerA.deeper (envLaw L fa cd)).frames = some (envLaw L fa cd :: []) := rfl
  w_on
  change wpAny (model PR w) (callerA.deeper (envOfC _ ⟨_, _, _, _, _⟩ _ _ _)) (execs (Stmt.For _ _ (Stmt.Delete _ _ :: _) _ _ :: _) (envOfC _ ⟨_, _, _, _, _⟩ _ _ _)) _ _ s
  change Below callerA base [] base at B
  w_strict (k_steps)
  rename News _ _ _ _ => N'
  rename Fr _ _ _ _ => F'
  rename IsRange _ _ _ _ _ _ _ _ => hr
  change wpAny _ _ (pyIter _) (fun it s₂ => LoopAtV _ _ _ _ _ _ turnBody _ _ it s₂) _ _
  refine iter_rangeJ (n := 2) (fun i m news => Nm m fl cp lg one rl sc ∧ m (Str.ofString "asked") = some (.ref ak) ∧ (0 < i → ∃ v, m (Str.ofString "told") = some v ∧ IsOut v (outOf (-1) true rs)) ∧
    ∃ gs ng, gs.size ≤ sizeLine ∧ news = (ak, LCg.lst as) :: (fl, LCg.lst ys) :: (lg, listOf gs ng) :: (lf, listOf ls nl) :: (rl, listOf vs nv) :: rest) rfl hr rfl rfl F' N' ?_ ?_ ?_
  · exact ⟨⟨rfl, rfl, rfl, rfl, rfl, rfl⟩, rfl, fun h => absurd h (Nat.lt_irrefl _), gs, ng, hl3, rfl⟩
  · rintro I hI i t h tk m₁ news₁ hi ⟨⟨n1, n2, n3, n4, n5, n6⟩, n7, _, gs₁, ng₁, hgs₁, rfl⟩ hne FT NT
    have hIg : @LT.lt Nat _ lg I := hI _ (.tail _ (.tail _ (.head _)))
    have hIf : @LT.lt Nat _ lf I := hI _ (.tail _ (.tail _ (.tail _ (.head _))))
    have hIr : @LT.lt Nat _ rl I := hI _ (.tail _ (.tail _ (.tail _ (.tail _ (.head _)))))
    have FT := Fr.know (Fr.know (Fr.know (Fr.know (Fr.know (Fr.know (Fr.know FT (x := Str.ofString "script") n6) (x := Str.ofString "rules") n5) (x := Str.ofString "one") n4) (x := Str.ofString "log") n3) (x := Str.ofString "copy") n2) (x := Str.ofString "faults") n1) (x := Str.ofString "asked") n7
    refine turnC B X T FT (news_down5 NT) (.tail _ hc) hoc (.tail _ hcp) (.tail _ ho1) (.tail _ ho2) hfl hak l1 l2 ?_ hh hlen hn1 hn2 hl1 hl2 hgs₁ (htup.mono fun p hp => .tail _ hp) (hrul.mono fun p hp => .tail _ hp) hys has hfa ?_
    · intro p hp b hb
      rcases List.mem_cons.mp hp with rfl | hp
      · rcases List.mem_cons.mp hb with rfl | hb
        · exact (Nat.ne_of_lt hIg).symm
        rcases List.mem_cons.mp hb with rfl | hb
        · exact (Nat.ne_of_lt hIf).symm
        rw [List.mem_singleton.mp hb]
        exact (Nat.ne_of_lt hIr).symm
      · exact hoff p hp b hb
    · intro h' tk gs' ng' v m' F2 hm N2 hg ho
      refine jend F2 (news_up5 N2) ?_ ⟨⟨by rw [hm]; rfl, by rw [hm]; rfl, by rw [hm]; rfl, by rw [hm]; rfl, by rw [hm]; rfl, by rw [hm]; rfl⟩, by rw [hm]; rfl, fun _ => ⟨v, by rw [hm]; rfl, ho⟩, gs', ng', hg, rfl⟩
      · intro p hp
        rcases List.mem_cons.mp hp with rfl | hp
        · exact hne (ak, LCg.lst as) (.head _)
        rcases List.mem_cons.mp hp with rfl | hp
        · exact hne (fl, LCg.lst ys) (.tail _ (.head _))
        rcases List.mem_cons.mp hp with rfl | hp
        · exact Nat.ne_of_lt hIg
        · exact hne p (.tail _ (.tail _ (.tail _ hp)))
  · rintro m₁ news₁ h tk ⟨hN, _, ht, gs₁, ng₁, hgs₁, rfl⟩ FT NT
    obtain ⟨v, hv, ho⟩ := ht (by decide)
    exact hQ _ _ gs₁ ng₁ v m₁ FT hN hv ho NT hgs₁
end Mine
end

section
open PySem PySem.W PyProof.Rows PySem.Calls Mine
namespace Mine
local macro_rules | `(tactic| k_mem) => `(tactic| first | assumption | exact List.Mem.head _ | (refine' List.Mem.tail _ ?_; k_mem))
local macro_rules | `(tactic| walk_at "exec Assign cons ListComp") => `(tactic| (k_here; refine Stop.mk ?_))
set_option maxRecDepth 100000 in
set_option maxHeartbeats 1200000 in
theorem stageD1 {w : World} {base : Heap} {L fa sc lf lg rl one fl cp : Nat} {cd : Value} {m mg mb : Str → Option Value} {rest : List (Addr × Obj)} {s : Shared} {loose : List Str} {mean : ExcName → Option Value}
    {Q : Flow → Shared → Prop} {ls vs gs : Array Value} {ng nl nv : Nat} {oc : Obj} {rs : List Ru} {ys : List Value} {tl : List Stmt} {bb : Bool}
    (B : Below callerA base [] base) (X : (hd.heap_39 w.params).In base) (T : Top topProg loose mean mg mb base)
    (F : Fr base L s.heap (fun z => if z = Str.ofString "told" then some (.bool bb) else if z = Str.ofString "faults" then some (.ref fl) else if z = Str.ofString "copy" then some (.ref cp) else if z = Str.ofString "log" then some (.ref lg) else if z = Str.ofString "one" then some (.ref one) else if z = Str.ofString "rules" then some (.ref rl) else if z = Str.ofString "script" then some (.ref sc) else m z))
    (N : News base L s.heap ((fl, LCg.lst ys) :: (lg, listOf gs ng) :: (lf, listOf ls nl) :: (rl, listOf vs nv) :: rest))
    (hc : (L + 1, oc) ∈ rest) (hoc : oc.data = .cell (some (.ref lf)))
    (hfl : @Ne Nat lg fl ∧ @Ne Nat lf fl ∧ @Ne Nat rl fl)
    (l1 : lg < lf) (l2 : lf < rl) (hoff : OwnOff rest [lg, lf, rl])
    (hlen : rs.length ≤ 10) (hn1 : ls.size = rs.length) (hn2 : vs.size = rs.length) (hl1 : ls.size ≤ sizeLine) (hl2 : vs.size ≤ sizeLine) (hl3 : gs.size ≤ sizeLine)
    (htup : TupsIn rest ls.toList rs) (hys : IntsAre ys [])
    (hbb : ∀ M : Int, M ∈ rs.filterMap scoreF ++ [1] → (∀ a, a ∈ rs.filterMap scoreF ++ [1] → a ≤ M) → bb = (M.fmod 2 == 1))
    (hQ : ∀ h' tk m', Fr base L h' m' → m' (Str.ofString "script") = some (.ref sc) → News base L h' rest → Q .brk { s with heap := h', toks := tk }) :
    wpAny (model PR w) (callerA.deeper (envLaw L fa cd)) (execs (nth 5 whileBody :: tl) (envLaw L fa cd)) Q (fun _ _ => False) s := by
  have hF : (callerA.deeper (envLaw L fa cd)).frames = some (envLaw L fa cd :: []) := rfl
  w_on
  change wpAny (model PR w) (callerA.deeper (envOfC _ ⟨_, _, _, _, _⟩ _ _ _)) (execs (Stmt.If _ (_ :: _) _ _ :: _) (envOfC _ ⟨_, _, _, _, _⟩ _ _ _)) _ _ s
  change Below callerA base [] base at B
  w_strict (k_steps)
  rename News _ _ _ _ => N
  rename Fr _ _ _ _ => F
  change wpAny _ _ _ _ _ _
  refine assign_comp3 F (by rfl) (by with_unfolding_all rfl) (by with_unfolding_all rfl) (by decide) (by rfl) (by decide) (by rfl) (by rfl) (by rfl) (by decide) (by decide) (by decide) (by rfl) (by rfl) ?_
  w_strict (k_steps)
  refine ⟨lf, ls, nl, _, JF scoreF rs, rfl, rfl, F, N, .tail _ (.tail _ (.tail _ (.head _))), hl1, JF.zero _ _, fun i ys h => h.len, ?_, ?_⟩
  · intro i v ys hv hJ
    have hv2 : ls.toList[i]? = some v := by simpa using hv
    obtain ⟨r, hr, tt, u1, u2, u3, rfl, hmem⟩ := htup.at hv2
    refine ⟨tt, _, _, _, _, _, rfl, .tail _ (.tail _ (.tail _ (.tail _ (.tail _ hmem)))), rfl, rfl, ?_⟩
    intro I oI C oC D m₂ h tk E' hC hx1 hx2 hx3 F N
    w_strict (k_steps)
    · exact TEnd.intro F N (hJ.keep hr (if_pos (by assumption)))
    · exact TEnd.intro F N (hJ.skip hr (if_neg (by assumption)))
  · intro D h tk as F2 N2 l2 hJ
    have hsc := hJ.done hn1
    have hsl := List.length_filterMap_le scoreF rs
    generalize hSC : rs.filterMap scoreF = SC at hsc hsl hbb
    have hz : SC.length + ([1] : List Int).length ≤ sizeLine := by rw [sizeLine_eq]; simp; omega
    w_strict (k_steps)
    · rename _ ∈ SC ++ [1] => ha
      rename ∀ a, a ∈ SC ++ [1] → _ => hb
      rename _ = true => hd
      rw [hbb _ ha hb] at hd
      simp at hd
    · rename News _ _ _ _ => N'
      rename Fr _ _ _ _ => F'
      exact hQ _ _ _ F' rfl (news_drop (added := [_, _, _, _, _, _, _, _]) N')
end Mine
end

section
open PySem PySem.W PyProof.Rows PySem.Calls Mine
namespace Mine
local macro_rules | `(tactic| k_mem) => `(tactic| first | assumption | exact List.Mem.head _ | (refine' List.Mem.tail _ ?_; k_mem))
local macro_rules | `(tactic| walk_at "exec Assign cons ListComp") => `(tactic| (k_here; refine Stop.mk ?_))
theorem seqIdx {i : Int} {n : Nat} (h0 : 0 ≤ i) (h1 : i < n) : seqIndex? i n = some i.toNat := by
  unfold seqIndex?
  simp only [show ¬ i < 0 by omega, if_false]
  first
    | rw [if_pos (by omega)]
    | rw [if_pos (by simp; omega)]
    | (simp; omega)
set_option maxRecDepth 100000 in
set_option maxHeartbeats 1200000 in
theorem stageD2 {w : World} {base : Heap} {L fa sc lf lg rl one fl cp : Nat} {cd : Value} {m mg mb : Str → Option Value} {rest : List (Addr × Obj)} {s : Shared} {loose : List Str} {mean : ExcName → Option Value}
    {Q : Flow → Shared → Prop} {ls vs gs : Array Value} {ng nl nv : Nat} {oc : Obj} {rs : List Ru} {ys : List Value} {f0 : Int} {FT : List Int}
    (B : Below callerA base [] base) (X : (hd.heap_39 w.params).In base) (T : Top topProg loose mean mg mb base)
    (F : Fr base L s.heap (fun z => if z = Str.ofString "faults" then some (.ref fl) else if z = Str.ofString "copy" then some (.ref cp) else if z = Str.ofString "log" then some (.ref lg) else if z = Str.ofString "one" then some (.ref one) else if z = Str.ofString "rules" then some (.ref rl) else if z = Str.ofString "script" then some (.ref sc) else m z))
    (N : News base L s.heap ((fl, LCg.lst ys) :: (lg, listOf gs ng) :: (lf, listOf ls nl) :: (rl, listOf vs nv) :: rest))
    (hc : (L + 1, oc) ∈ rest) (hoc : oc.data = .cell (some (.ref lf)))
    (hfl : @Ne Nat lg fl ∧ @Ne Nat lf fl ∧ @Ne Nat rl fl)
    (l1 : lg < lf) (l2 : lf < rl) (hoff : OwnOff rest [lg, lf, rl])
    (hlen : rs.length ≤ 10) (hn1 : ls.size = rs.length) (hn2 : vs.size = rs.length) (hl1 : ls.size ≤ sizeLine) (hl2 : vs.size ≤ sizeLine) (hl3 : gs.size ≤ sizeLine)
    (hys : IntsAre ys (f0 :: FT)) (hf0 : 0 ≤ f0) (hf1 : f0 < rs.length)
    (hQ : ∀ h' tk m', Fr base L h' m' → Nm m' fl cp lg one rl sc → News base L h' ((lg, listOf gs ng) :: (lf, listOf (ls.eraseIdxIfInBounds f0.toNat) (nl + 1)) :: (rl, listOf (vs.eraseIdxIfInBounds f0.toNat) (nv + 1)) :: rest) → Q .next { s with heap := h', toks := tk }) :
    wpAny (model PR w) (callerA.deeper (envLaw L fa cd)) (execs [nth 5 whileBody, nth 6 whileBody, nth 7 whileBody] (envLaw L fa cd)) Q (fun _ _ => False) s := by
  have hF : (callerA.deeper (envLaw L fa cd)).frames = some (envLaw L fa cd :: []) := rfl
  w_on
  change wpAny (model PR w) (callerA.deeper (envOfC _ ⟨_, _, _, _, _⟩ _ _ _)) (execs (Stmt.If _ (_ :: _) _ _ :: Stmt.Delete _ _ :: Stmt.Delete _ _ :: []) (envOfC _ ⟨_, _, _, _, _⟩ _ _ _)) _ _ s
  change Below callerA base [] base at B
  have hfit : Builtin.List.listFitsIndex f0 = true := by
    unfold Builtin.List.listFitsIndex
    simp only [Bool.and_eq_true, decide_eq_true_eq]
    omega
  w_strict (k_steps)
  · rename decide _ = true => hd
    simp at hd
  rename News _ _ _ _ => N'
  rename Fr _ _ _ _ => F'
  refine del_K (hsz := hl1) (i := f0) (k := f0.toNat) F' N' (by k_upd) hfit (seqIdx hf0 (by omega)) (by omega) (fun h' F' N' => ?_)
  w_strict (k_steps)
  refine del_K (hsz := hl2) (i := f0) (k := f0.toNat) F' N' (by k_upd) hfit (seqIdx hf0 (by omega)) (by omega) (fun h' F' N' => ?_)
  w_strict (k_steps)
  exact hQ _ _ _ F' ⟨rfl, rfl, rfl, rfl, rfl, rfl⟩ (news_drop (added := [_, _]) N')
end Mine
end

section
open PySem PySem.W PyProof.Rows PySem.Calls
set_option maxRecDepth 100000
namespace Mine
theorem faults_nil {rs : List Ru} (h : faultsOf rs = []) : ∀ r ∈ rs, ¬ r.kind > 2 := fun r hr => by
  unfold faultsOf at h
  rw [List.filterMap_eq_nil_iff] at h
  obtain ⟨i, hi, rfl⟩ := List.getElem_of_mem hr
  have := h i (List.mem_range.mpr hi)
  unfold faultF at this
  rw [List.getElem?_eq_getElem hi] at this
  simp only at this
  split at this
  · cases this
  · assumption
theorem faults_cons {rs : List Ru} {f0 : Int} {FT : List Int} (h : faultsOf rs = f0 :: FT) : 0 ≤ f0 ∧ f0 < rs.length ∧ ∃ r, rs[f0.toNat]? = some r ∧ r.kind > 2 ∧ rs = rs.take f0.toNat ++ r :: rs.drop (f0.toNat + 1) ∧ ∀ q ∈ rs.take f0.toNat, ¬ q.kind > 2 := by
  unfold faultsOf at h
  rw [List.filterMap_eq_cons_iff] at h
  obtain ⟨l₁, a, l₂, e, h1, h2, _⟩ := h
  have ha : (List.range rs.length)[l₁.length]? = some a := by rw [e]; simp
  rw [List.getElem?_eq_some_iff] at ha
  obtain ⟨hl, ha⟩ := ha
  rw [List.getElem_range] at ha
  simp only [List.length_range] at hl
  have hmem : ∀ x, x < l₁.length → x ∈ l₁ := fun x hx => by
    have hx2 : (List.range rs.length)[x]? = some x := by rw [List.getElem?_range (by omega)]
    rw [e, List.getElem?_append_left hx] at hx2
    exact List.mem_of_getElem? hx2
  subst ha
  have hr : rs[l₁.length]? = some rs[l₁.length] := List.getElem?_eq_getElem hl
  have h2' := h2
  unfold faultF at h2'
  rw [hr] at h2'
  simp only at h2'
  split at h2'
  case isFalse => cases h2'
  case isTrue hk =>
  have ef : f0 = (l₁.length : Int) := (Option.some.inj h2').symm
  subst ef
  have et : ((l₁.length : Nat) : Int).toNat = l₁.length := by omega
  rw [et]
  refine ⟨by omega, by omega, _, hr, hk, ?_, fun q hq => ?_⟩
  · rw [← List.drop_eq_getElem_cons hl, List.take_append_drop]
  · obtain ⟨i, hi, rfl⟩ := List.getElem_of_mem hq
    rw [List.length_take] at hi
    have h3 := h1 i (hmem i (by omega))
    unfold faultF at h3
    rw [List.getElem?_eq_getElem (by omega)] at h3
    simp only at h3
    rw [List.getElem_take]
    split at h3
    · cases h3
    · assumption
theorem asked_clean : ∀ {rs : List Ru}, (∀ r ∈ rs, ¬ r.kind > 2) → rs.filterMap placeF = askedOf rs
  | [], _ => rfl
  | r :: t, h => by
    have h1 := h r (.head _)
    have ih := asked_clean (rs := t) fun q hq => h q (.tail _ hq)
    rw [List.filterMap_cons]
    have e : placeF r = some r.place := by unfold placeF; rw [if_neg (by omega)]
    rw [e]
    simp only [askedOf]
    rw [if_neg (by omega), if_neg h1, ih]
theorem asked_fault {r : Ru} {post : List Ru} (hr : r.kind > 2) : ∀ {pre : List Ru}, (∀ q ∈ pre, ¬ q.kind > 2) → (pre ++ [r]).filterMap placeF = askedOf (pre ++ r :: post)
  | [], _ => by
    simp only [List.nil_append, askedOf, List.filterMap_cons, List.filterMap_nil]
    unfold placeF
    by_cases h4 : r.kind = 4
    · simp [h4]
    · simp [h4, hr]
  | q :: t, h => by
    have h1 := h q (.head _)
    have ih := asked_fault hr (post := post) (pre := t) fun q hq => h q (.tail _ hq)
    simp only [List.cons_append, List.filterMap_cons, askedOf]
    have e : placeF q = some q.place := by unfold placeF; rw [if_neg (by omega)]
    rw [e, if_neg (by omega), if_neg h1]
    simp only
    rw [ih]
theorem out_fault {r : Ru} {post : List Ru} (hr : r.kind > 2) : ∀ {pre : List Ru} (b : Int) (a : Bool), (∀ q ∈ pre, ¬ q.kind > 2) → outOf b a (pre ++ r :: post) = .int r.kind
  | [], b, a, _ => by
    simp only [List.nil_append, outOf]
    rw [if_pos hr]
  | q :: t, b, a, h => by
    have h1 := h q (.head _)
    have ih := fun b a => out_fault hr (post := post) (pre := t) b a fun q hq => h q (.tail _ hq)
    simp only [List.cons_append, outOf]
    rw [if_neg h1]
    simp only [ih, ite_self]
/-- how allowance's state stands to the greatest score so far -/
def ScInv (b : Int) (a : Bool) (M : Int) : Prop := (b = -1 ∧ a = true ∧ M = 1) ∨ (1 ≤ b ∧ M = 2 * b + (if a = true then 1 else 0))
theorem out_clean : ∀ {rs : List Ru} (b : Int) (a : Bool) (M : Int), ScInv b a M → (∀ r ∈ rs, ¬ r.kind > 2 ∧ RuOk r) → outOf b a rs = .bool (((rs.filterMap scoreF).foldl max M).fmod 2 == 1)
  | [], b, a, M, hI, _ => by
    simp only [outOf, List.filterMap_nil, List.foldl_nil]
    rcases hI with ⟨_, rfl, rfl⟩ | ⟨_, rfl⟩
    · rfl
    · cases a
      · have e : (2 * b + (if false = true then 1 else 0)).fmod 2 = 0 := by rw [Int.fmod_eq_emod_of_nonneg _ (by decide)]; simp
        rw [e]; rfl
      · have e : (2 * b + (if true = true then 1 else 0)).fmod 2 = 1 := by rw [Int.fmod_eq_emod_of_nonneg _ (by decide)]; simp
        rw [e]; rfl
  | r :: t, b, a, M, hI, h => by
    obtain ⟨h1, k0, k6, r1, r3⟩ := h r (.head _)
    have ht : ∀ q ∈ t, ¬ q.kind > 2 ∧ RuOk q := fun q hq => h q (.tail _ hq)
    simp only [outOf, List.filterMap_cons]
    rw [if_neg h1]
    by_cases hk : r.kind < 2
    · have e : scoreF r = some (2 * r.reach + 1 - r.kind) := by unfold scoreF; rw [if_pos hk]
      rw [if_pos hk, e]
      simp only [List.foldl_cons]
      by_cases h2 : r.reach > b
      · rw [if_pos h2]
        refine out_clean _ _ _ (.inr ⟨r1, ?_⟩) ht
        rcases hI with ⟨rfl, rfl, rfl⟩ | ⟨hb, rfl⟩
        · by_cases hz : r.kind = 0
          · simp [hz]; omega
          · simp [hz]; omega
        · by_cases hz : r.kind = 0
          · simp [hz]; split <;> omega
          · simp [hz]; split <;> omega
      · rw [if_neg h2]
        rcases hI with ⟨rfl, rfl, rfl⟩ | ⟨hb, rfl⟩
        · omega
        by_cases h3 : r.reach = b ∧ a = false
        · rw [if_pos h3]
          obtain ⟨h3, rfl⟩ := h3
          refine out_clean _ _ _ (.inr ⟨hb, ?_⟩) ht
          by_cases hz : r.kind = 0
          · simp [hz]; omega
          · simp [hz]; omega
        · rw [if_neg h3]
          refine out_clean _ _ _ (.inr ⟨hb, ?_⟩) ht
          cases a with
          | true => simp; omega
          | false =>
            have : r.reach ≠ b := fun e => h3 ⟨e, rfl⟩
            simp; omega
    · have e : scoreF r = none := by unfold scoreF; rw [if_neg hk]
      rw [if_neg hk, e]
      exact out_clean _ _ _ hI ht
theorem fold_max : ∀ (l : List Int) (m : Int), l.foldl max m ∈ m :: l ∧ ∀ a ∈ m :: l, a ≤ l.foldl max m
  | [], m => ⟨.head _, fun a ha => by rw [List.mem_singleton.mp ha]; exact Int.le_refl _⟩
  | x :: t, m => by
    obtain ⟨h1, h2⟩ := fold_max t (max m x)
    simp only [List.foldl_cons]
    refine ⟨?_, fun a ha => ?_⟩
    · rcases List.mem_cons.mp h1 with e | h1
      · rw [e]
        by_cases h : m ≤ x
        · rw [show max m x = x by omega]; exact .tail _ (.head _)
        · rw [show max m x = m by omega]; exact .head _
      · exact .tail _ (.tail _ h1)
    · have h3 := h2 (max m x) (.head _)
      rcases List.mem_cons.mp ha with rfl | ha
      · omega
      rcases List.mem_cons.mp ha with rfl | ha
      · omega
      · exact h2 a (.tail _ ha)
theorem max_fold {l : List Int} {M : Int} (h1 : M ∈ l ++ [1]) (h2 : ∀ a, a ∈ l ++ [1] → a ≤ M) : M = l.foldl max 1 := by
  obtain ⟨h3, h4⟩ := fold_max l 1
  have a1 : l.foldl max 1 ≤ M := h2 _ (by
    rcases List.mem_cons.mp h3 with e | h
    · rw [e]; exact List.mem_append_right _ (.head _)
    · exact List.mem_append_left _ h)
  have a2 : M ≤ l.foldl max 1 := h4 _ (by
    rcases List.mem_append.mp h1 with h | h
    · exact .tail _ h
    · rw [List.mem_singleton.mp h]; exact .head _)
  omega
theorem out_score {rs : List Ru} (h : ∀ r ∈ rs, ¬ r.kind > 2 ∧ RuOk r) : ∃ bb, outOf (-1) true rs = .bool bb ∧ ∀ M : Int, M ∈ rs.filterMap scoreF ++ [1] → (∀ a, a ∈ rs.filterMap scoreF ++ [1] → a ≤ M) → bb = (M.fmod 2 == 1) :=
  ⟨_, out_clean (-1) true 1 (.inl ⟨rfl, rfl, rfl⟩) h, fun M h1 h2 => by rw [max_fold h1 h2]⟩
end Mine
end

section
open PySem PySem.W PyProof.Rows PySem.Calls Mine
namespace Mine
theorem TupsIn.erase {ns : List (Addr × Obj)} {ls : List Value} {rs : List Ru} (h : TupsIn ns ls rs) (k : Nat) : TupsIn ns (ls.eraseIdx k) (rs.eraseIdx k) := by
  refine ⟨by rw [List.length_eraseIdx, List.length_eraseIdx, h.1], fun i v r a b => ?_⟩
  rw [List.getElem?_eraseIdx] at a b
  split at a
  · rename_i hi
    rw [if_pos hi] at b
    exact h.2 _ v r a b
  · rename_i hi
    rw [if_neg hi] at b
    exact h.2 _ v r a b
theorem RulesIn.erase {w : World} {lg : Nat} {ns : List (Addr × Obj)} {ls : List Value} {rs : List Ru} (h : RulesIn w lg ns ls rs) (k : Nat) : RulesIn w lg ns (ls.eraseIdx k) (rs.eraseIdx k) := by
  refine ⟨by rw [List.length_eraseIdx, List.length_eraseIdx, h.1], fun i v r a b => ?_⟩
  rw [List.getElem?_eraseIdx] at a b
  split at a
  · rename_i hi
    rw [if_pos hi] at b
    exact h.2 _ v r a b
  · rename_i hi
    rw [if_neg hi] at b
    exact h.2 _ v r a b
theorem news_out {h₀ h : Heap} {L : Addr} {rest : List (Addr × Obj)} {f c a b d : Addr × Obj} (N : News h₀ L h (f :: c :: a :: b :: d :: rest)) : News h₀ L h (f :: a :: b :: d :: c :: rest) := fun p hp => N p (by
  rcases List.mem_cons.mp hp with rfl | hp
  · exact .head _
  rcases List.mem_cons.mp hp with rfl | hp
  · exact .tail _ (.tail _ (.head _))
  rcases List.mem_cons.mp hp with rfl | hp
  · exact .tail _ (.tail _ (.tail _ (.head _)))
  rcases List.mem_cons.mp hp with rfl | hp
  · exact .tail _ (.tail _ (.tail _ (.tail _ (.head _))))
  rcases List.mem_cons.mp hp with rfl | hp
  · exact .tail _ (.head _)
  · exact .tail _ (.tail _ (.tail _ (.tail _ (.tail _ hp)))))
theorem news_in {h₀ h : Heap} {L : Addr} {rest : List (Addr × Obj)} {c a b d : Addr × Obj} (N : News h₀ L h (a :: b :: d :: c :: rest)) : News h₀ L h (a :: b :: d :: rest) := fun p hp => N p (by
  rcases List.mem_cons.mp hp with rfl | hp
  · exact .head _
  rcases List.mem_cons.mp hp with rfl | hp
  · exact .tail _ (.head _)
  rcases List.mem_cons.mp hp with rfl | hp
  · exact .tail _ (.tail _ (.head _))
  · exact .tail _ (.tail _ (.tail _ (.tail _ hp))))
theorem body_eq : whileBody = [nth 0 whileBody, nth 1 whileBody, nth 2 whileBody, nth 3 whileBody, nth 4 whileBody, nth 5 whileBody, nth 6 whileBody, nth 7 whileBody] := by rfl
/-- the names ahead of a turn of the while loop -/
def Nm0 (m : Str → Option Value) (lg one rl sc : Nat) : Prop :=
  m (Str.ofString "log") = some (.ref lg) ∧ m (Str.ofString "one") = some (.ref one) ∧ m (Str.ofString "rules") = some (.ref rl) ∧ m (Str.ofString "script") = some (.ref sc)
set_option maxRecDepth 100000 in
set_option maxHeartbeats 1200000 in
theorem while_turn {w : World} {base : Heap} {L fa sc lf lg rl one od ua : Nat} {cd : Value} {m mg mb : Str → Option Value} {rest : List (Addr × Obj)} {s : Shared} {loose : List Str} {mean : ExcName → Option Value}
    {Q : Flow → Shared → Prop} {ls vs gs : Array Value} {ng nl nv : Nat} {oc : Obj} {rs : List Ru} {t1 t2 t3 t4 : Tok}
    (B : Below callerA base [] base) (X : (hd.heap_39 w.params).In base) (T : Top topProg loose mean mg mb base)
    (F : Fr base L s.heap m) (hm : Nm0 m lg one rl sc)
    (N : News base L s.heap ((lg, listOf gs ng) :: (lf, listOf ls nl) :: (rl, listOf vs nv) :: rest))
    (hc : (L + 1, oc) ∈ rest) (hoc : oc.data = .cell (some (.ref lf)))
    (ho1 : (one, instObj 52 od) ∈ rest) (ho2 : (od, dictOf [ent w (Str.ofString "useragents") t1 (.ref ua), ent w (Str.ofString "rulelines") t2 (.ref rl), ent w (Str.ofString "delay") t3 .none, ent w (Str.ofString "req_rate") t4 .none] 4) ∈ rest)
    (l1 : lg < lf) (l2 : lf < rl) (hoff : OwnOff rest [lg, lf, rl]) (hh : CodeHd base 62 58)
    (hlen : rs.length ≤ 10) (hl3 : gs.size ≤ sizeLine)
    (htup : TupsIn rest ls.toList rs) (hrul : RulesIn w lg rest vs.toList rs)
    (hBrk : ∀ h' tk m', Fr base L h' m' → m' (Str.ofString "script") = some (.ref sc) → News base L h' rest → Q .brk { s with heap := h', toks := tk })
    (hNext : ∀ h' tk m' gs' ng' ls' nl' vs' nv' rs', Fr base L h' m' → Nm0 m' lg one rl sc → News base L h' ((lg, listOf gs' ng') :: (lf, listOf ls' nl') :: (rl, listOf vs' nv') :: rest) →
      gs'.size ≤ sizeLine → TupsIn rest ls'.toList rs' → RulesIn w lg rest vs'.toList rs' → rs'.length < rs.length → Q .next { s with heap := h', toks := tk }) :
    wpAny (model PR w) (callerA.deeper (envLaw L fa cd)) (execs whileBody (envLaw L fa cd)) Q (fun _ _ => False) s := by
  have hn1 : ls.size = rs.length := by have := htup.1; simpa using this
  have hn2 : vs.size = rs.length := by have := hrul.1; simpa using this
  have hl1 : ls.size ≤ sizeLine := by rw [sizeLine_eq]; omega
  have hl2 : vs.size ≤ sizeLine := by rw [sizeLine_eq]; omega
  rw [body_eq]
  obtain ⟨m1, m2, m3, m4⟩ := hm
  refine stageA B X T (Fr.know (Fr.know (Fr.know (Fr.know F m4) m3) m2) m1) N hc hoc l1 l2 hoff hlen hn1 hn2 hl1 hl2 hl3 htup ?_
  intro hA tkA fl cp cc ys mA FA eA NA lA neA hys
  have NA := news_out NA
  have hoff2 : OwnOff ((cp, listOf vs cc) :: rest) [lg, lf, rl] := by
    intro p hp b hb
    rcases List.mem_cons.mp hp with rfl | hp
    · rcases List.mem_cons.mp hb with rfl | hb
      · show @Ne Nat cp b; omega
      rcases List.mem_cons.mp hb with rfl | hb
      · show @Ne Nat cp b; omega
      rw [List.mem_singleton.mp hb]
      show @Ne Nat cp rl; omega
    · exact hoff p hp b hb
  have tails : ∀ p ∈ rest, p ∈ (cp, listOf vs cc) :: rest := fun p hp => .tail _ hp
  generalize hFI : faultsOf rs = FI at hys
  refine stageB1 (FI := FI) B X T (Fr.ext FA eA) NA (.tail _ hc) hoc neA hys l1 l2 hoff2 hlen hn1 hn2 hl1 hl2 hl3 (htup.mono tails) ?_
  intro hB tkB e te mB FB eB NB he
  have hfa : ∀ f0 FT, FI = f0 :: FT → 0 ≤ f0 ∧ f0 < rs.length ∧ ∃ r, rs[f0.toNat]? = some r ∧ outOf (-1) true rs = .int r.kind := by
    intro f0 FT h
    obtain ⟨h1, h2, r, h3, h4, h5, h6⟩ := faults_cons (hFI.trans h)
    refine ⟨h1, h2, r, h3, ?_⟩
    rw [h5]
    exact out_fault h4 _ _ h6
  have hee : 0 ≤ e ∧ e ≤ rs.length ∧ (rs.take e.toNat).filterMap placeF = askedOf rs := by
    cases FI with
    | nil =>
      subst he
      refine ⟨by simp, by simp, ?_⟩
      have e2 : rs.take ((rs.length : Int)).toNat = rs := by simp
      show (rs.take ((rs.length : Int)).toNat).filterMap placeF = askedOf rs
      rw [e2]
      exact asked_clean (faults_nil hFI)
    | cons f0 FT =>
      obtain ⟨h1, h2, r, h3, h4, h5, h6⟩ := faults_cons hFI
      subst he
      refine ⟨by show 0 ≤ f0 + 1; omega, by show f0 + 1 ≤ rs.length; omega, ?_⟩
      show (rs.take (f0 + 1).toNat).filterMap placeF = askedOf rs
      have e1 : (f0 + 1).toNat = f0.toNat + 1 := by omega
      rw [e1, List.take_add_one, h3]
      conv => rhs; rw [h5]
      exact asked_fault h4 h6
  refine stageB2 B X T (Fr.ext FB eB) NB (.tail _ hc) hoc neA l1 l2 hoff2 hee.1 hee.2.1 hlen hn1 hn2 hl1 hl2 hl3 (htup.mono tails) ?_
  intro hD tkD ak as mD FD eD ND lD has
  rw [hee.2.2] at has
  have FC := Fr.know (Fr.know (Fr.know (Fr.know (Fr.know (Fr.know (Fr.know FD (x := Str.ofString "script") (by rw [eD]; rfl)) (x := Str.ofString "rules") (by rw [eD]; rfl)) (x := Str.ofString "one") (by rw [eD]; rfl)) (x := Str.ofString "log") (by rw [eD]; rfl)) (x := Str.ofString "copy") (by rw [eD]; rfl)) (x := Str.ofString "faults") (by rw [eD]; rfl)) (x := Str.ofString "asked") (by rw [eD]; rfl)
  refine stageC B X T FC ND (.tail _ hc) hoc (.head _) (.tail _ ho1) (.tail _ ho2) neA lD l1 l2 hoff2 hh hlen hn1 hn2 hl1 hl2 hl3 (htup.mono tails) (hrul.mono tails) hys has hfa ?_
  intro hE tkE gs' ng' v mE FE ⟨n1, n2, n3, n4, n5, n6⟩ htold hout NE hg'
  have NE := news_drop (added := [_]) NE
  have FE := Fr.know (Fr.know (Fr.know (Fr.know (Fr.know (Fr.know FE (x := Str.ofString "script") n6) (x := Str.ofString "rules") n5) (x := Str.ofString "one") n4) (x := Str.ofString "log") n3) (x := Str.ofString "copy") n2) (x := Str.ofString "faults") n1
  cases FI with
  | nil =>
    have hall : ∀ r ∈ rs, ¬ r.kind > 2 ∧ RuOk r := fun r hr => by
      refine ⟨faults_nil hFI r hr, ?_⟩
      obtain ⟨i, hi, rfl⟩ := List.getElem_of_mem hr
      have hi2 : i < vs.toList.length := by rw [hrul.1]; exact hi
      exact (hrul.2 i _ _ (List.getElem?_eq_getElem hi2) (List.getElem?_eq_getElem hi)).1
    obtain ⟨bb, hb1, hb2⟩ := out_score hall
    rw [hb1] at hout
    cases hout
    refine stageD1 B X T (Fr.know FE ?_) NE (.tail _ hc) hoc neA l1 l2 hoff2 hlen hn1 hn2 hl1 hl2 hg' (htup.mono tails) hys hb2 ?_
    · exact htold
    · intro h' tk m' F' hs' N'
      exact hBrk _ _ _ F' hs' (news_drop (added := [_]) N')
  | cons f0 FT =>
    obtain ⟨h1, h2, _⟩ := hfa f0 FT rfl
    refine stageD2 B X T FE NE (.tail _ hc) hoc neA l1 l2 hoff2 hlen hn1 hn2 hl1 hl2 hg' hys h1 h2 ?_
    intro h' tk m' F' ⟨q1, q2, q3, q4, q5, q6⟩ N'
    refine hNext _ _ _ _ _ _ _ _ _ (rs.eraseIdx f0.toNat) F' ⟨q3, q4, q5, q6⟩ (news_in N') hg' ?_ ?_ ?_
    · rw [Array.toList_eraseIdxIfInBounds]; exact htup.erase _
    · rw [Array.toList_eraseIdxIfInBounds]; exact hrul.erase _
    · rw [List.length_eraseIdx, if_pos (by omega)]; omega
end Mine
end

section
open PySem PySem.W PyProof.Rows PySem.Calls Mine
namespace Mine
def whTest : Expr := match whileStmt with
  | .While t _ _ _ => t
  | _ => default
theorem true_ok {w : World} {L fa : Nat} {cd : Value} {s : Shared} {Q : Bool → Shared → Prop} {E : Value → Shared → Prop} (h : ∀ tk, Q true { s with toks := tk }) :
    wpAny (model PR w) (callerA.deeper (envLaw L fa cd)) (isTrue whTest (envLaw L fa cd) (eval whTest (envLaw L fa cd))) Q E s := by
  w_on
  change wpAny (model PR w) (callerA.deeper (envOfC _ ⟨_, _, _, _, _⟩ _ _ _)) (isTrue (.Constant _ _ _) (envOfC _ ⟨_, _, _, _, _⟩ _ _ _) (eval (.Constant _ _ _) (envOfC _ ⟨_, _, _, _, _⟩ _ _ _))) _ _ s
  w_strict (k_steps)
  exact h _
theorem while_rest {w : World} {base : Heap} {L fa sc lf lg rl one od ua : Nat} {cd : Value} {mg mb : Str → Option Value} {rest : List (Addr × Obj)} {loose : List Str} {mean : ExcName → Option Value}
    {Q : Flow → Shared → Prop} {oc : Obj} {t1 t2 t3 t4 : Tok}
    (B : Below callerA base [] base) (X : (hd.heap_39 w.params).In base) (T : Top topProg loose mean mg mb base)
    (hc : (L + 1, oc) ∈ rest) (hoc : oc.data = .cell (some (.ref lf)))
    (ho1 : (one, instObj 52 od) ∈ rest) (ho2 : (od, dictOf [ent w (Str.ofString "useragents") t1 (.ref ua), ent w (Str.ofString "rulelines") t2 (.ref rl), ent w (Str.ofString "delay") t3 .none, ent w (Str.ofString "req_rate") t4 .none] 4) ∈ rest)
    (l1 : lg < lf) (l2 : lf < rl) (hoff : OwnOff rest [lg, lf, rl]) (hh : CodeHd base 62 58) :
    ∀ (n : Nat) {s : Shared} {m : Str → Option Value} {ls vs gs : Array Value} {ng nl nv : Nat} {rs : List Ru}, rs.length < n → rs.length ≤ 10 →
    Fr base L s.heap m → Nm0 m lg one rl sc → News base L s.heap ((lg, listOf gs ng) :: (lf, listOf ls nl) :: (rl, listOf vs nv) :: rest) → gs.size ≤ sizeLine →
    TupsIn rest ls.toList rs → RulesIn w lg rest vs.toList rs →
    (∀ h' tk m', Fr base L h' m' → m' (Str.ofString "script") = some (.ref sc) → News base L h' rest → Q .next { s with heap := h', toks := tk }) →
    WhlRest PR w (callerA.deeper (envLaw L fa cd)) (fun _ _ => False) (envLaw L fa cd) whTest whileBody [] Q n s := by
  intro n
  induction n with
  | zero =>
    intro s m ls vs gs ng nl nv rs hn
    exact absurd hn (Nat.not_lt_zero _)
  | succ n ih =>
    intro s m ls vs gs ng nl nv rs hn hlen F hm N hg htup hrul hQ
    refine whl_turn (fun e s h => h.elim) (true_ok fun tk => WhlIf.yes rfl ?_)
    refine while_turn (s := { s with toks := tk }) B X T F hm N hc hoc ho1 ho2 l1 l2 hoff hh hlen hg htup hrul ?_ ?_
    · intro h' tk m' F' hs' N'
      exact hQ h' tk m' F' hs' N'
    · intro h' tk m' gs' ng' ls' nl' vs' nv' rs' F' hm' N' hg' htup' hrul' hlt
      exact ih (by omega) (by omega) F' hm' N' hg' htup' hrul' fun h'' tk m'' F'' hs'' N'' => hQ h'' tk m'' F'' hs'' N''
theorem while_ok {w : World} {base : Heap} {L fa sc lf lg rl one od ua : Nat} {cd : Value} {m mg mb : Str → Option Value} {rest : List (Addr × Obj)} {s : Shared} {loose : List Str} {mean : ExcName → Option Value}
    {Q : Flow → Shared → Prop} {ls vs gs : Array Value} {ng nl nv : Nat} {oc : Obj} {rs : List Ru} {t1 t2 t3 t4 : Tok}
    (B : Below callerA base [] base) (X : (hd.heap_39 w.params).In base) (T : Top topProg loose mean mg mb base)
    (F : Fr base L s.heap m) (hm : Nm0 m lg one rl sc)
    (N : News base L s.heap ((lg, listOf gs ng) :: (lf, listOf ls nl) :: (rl, listOf vs nv) :: rest))
    (hc : (L + 1, oc) ∈ rest) (hoc : oc.data = .cell (some (.ref lf)))
    (ho1 : (one, instObj 52 od) ∈ rest) (ho2 : (od, dictOf [ent w (Str.ofString "useragents") t1 (.ref ua), ent w (Str.ofString "rulelines") t2 (.ref rl), ent w (Str.ofString "delay") t3 .none, ent w (Str.ofString "req_rate") t4 .none] 4) ∈ rest)
    (l1 : lg < lf) (l2 : lf < rl) (hoff : OwnOff rest [lg, lf, rl]) (hh : CodeHd base 62 58)
    (hlen : rs.length ≤ 10) (hl3 : gs.size ≤ sizeLine)
    (htup : TupsIn rest ls.toList rs) (hrul : RulesIn w lg rest vs.toList rs)
    (hQ : ∀ h' tk m', Fr base L h' m' → m' (Str.ofString "script") = some (.ref sc) → News base L h' rest → Q .next { s with heap := h', toks := tk }) :
    wpAny (model PR w) (callerA.deeper (envLaw L fa cd)) (exec whileStmt (envLaw L fa cd)) Q (fun _ _ => False) s := by
  change wpAny _ _ (exec (.While whTest whileBody [] _) _) _ _ _
  exact whl_start 11 (while_rest B X T hc hoc ho1 ho2 l1 l2 hoff hh 11 (by omega) hlen F hm N hl3 htup hrul hQ)
end Mine
end

section
open PySem PySem.W PyProof.Rows PySem.Calls Mine
namespace Mine
local macro_rules | `(tactic| k_mem) => `(tactic| first | assumption | exact List.Mem.head _ | (refine' List.Mem.tail _ ?_; k_mem))
set_option maxRecDepth 100000 in
set_option maxHeartbeats 1200000 in
theorem stageO1 {w : World} {base : Heap} {L fa I : Nat} {cd : Value} {m mg mb : Str → Option Value} {rest : List (Addr × Obj)} {s : Shared} {loose : List Str} {mean : ExcName → Option Value}
    {Q : Flow → Shared → Prop} {ps : Array Value} {it oc : Obj} {v0 : Option Value} {tl : List Stmt}
    (B : Below callerA base [] base) (X : (hd.heap_39 w.params).In base) (T : Top topProg loose mean mg mb base)
    (F : Fr base L s.heap m)
    (N : News base L s.heap ((I, it) :: (L + 1, oc) :: (58, tabObj ps) :: rest))
    (hoc : oc.data = .cell v0)
    (l1 : 58 < L) (l2 : L + 1 < I) (hoff : OwnOff rest [I, L + 1, 58])
    (hQ : ∀ h' tk (lg lf one od ua rl : Nat) (t1 t2 t3 t4 : Tok) oc' m', Fr base L h' m' → (∀ z, m' z = if z = Str.ofString "one" then some (.ref one) else if z = Str.ofString "log" then some (.ref lg) else m z) →
      News base L h' ((rl, listOf #[] 0) :: (ua, listOf #[] 0) :: (one, instObj 52 od) :: (od, dictOf [ent w (Str.ofString "useragents") t1 (.ref ua), ent w (Str.ofString "rulelines") t2 (.ref rl), ent w (Str.ofString "delay") t3 .none, ent w (Str.ofString "req_rate") t4 .none] 4) :: (lf, listOf #[] 0) :: (lg, listOf #[] 0) :: (I, it) :: (L + 1, oc') :: (58, tabObj ps) :: rest) →
      oc'.data = .cell (some (.ref lf)) → (I < lg ∧ lg < lf ∧ lf < od ∧ od < one ∧ one < ua ∧ ua < rl ∧ AllLt lg rest) →
      wpAny (model PR w) (callerA.deeper (envLaw L fa cd)) (execs tl (envLaw L fa cd)) Q (fun _ _ => False) { s with heap := h', toks := tk }) :
    wpAny (model PR w) (callerA.deeper (envLaw L fa cd)) (execs (nth 0 outerBody :: nth 1 outerBody :: nth 2 outerBody :: tl) (envLaw L fa cd)) Q (fun _ _ => False) s := by
  have hF : (callerA.deeper (envLaw L fa cd)).frames = some (envLaw L fa cd :: []) := rfl
  w_on
  change wpAny (model PR w) (callerA.deeper (envOfC _ ⟨_, _, _, _, _⟩ _ _ _)) (execs (Stmt.Assign _ _ _ :: Stmt.Assign _ _ _ :: Stmt.Assign _ _ _ :: _) (envOfC _ ⟨_, _, _, _, _⟩ _ _ _)) _ _ s
  change Below callerA base [] base at B
  w_strict (k_steps)
  rename News _ _ _ _ => N'
  rename Fr _ _ _ _ => F'
  rename _ ∧ _ ∧ _ ∧ AllLt _ rest => hx
  refine hQ _ _ _ _ _ _ _ _ _ _ _ _ _ _ F' (fun z => rfl) N' (by assumption) ⟨?_, ?_, ?_, ?_, ?_, ?_, hx.2.2.2⟩
  all_goals omega
end Mine
end

section
open PySem PySem.W PyProof.Rows PySem.Calls Mine
namespace Mine
local macro_rules | `(tactic| k_mem) => `(tactic| first | assumption | exact List.Mem.head _ | (refine' List.Mem.tail _ ?_; k_mem))
local macro_rules | `(tactic| walk_at "pyIter ref") => `(tactic| (k_here; refine Stop.mk ?_))
theorem news_up {h₀ h : Heap} {L : Addr} {acc rest : List (Addr × Obj)} {i a b c : Addr × Obj} (N : News h₀ L h (i :: a :: b :: c :: (acc ++ rest))) : News h₀ L h (a :: b :: c :: (acc ++ i :: rest)) := fun p hp => N p (by
  rcases List.mem_cons.mp hp with rfl | hp
  · exact .tail _ (.head _)
  rcases List.mem_cons.mp hp with rfl | hp
  · exact .tail _ (.tail _ (.head _))
  rcases List.mem_cons.mp hp with rfl | hp
  · exact .tail _ (.tail _ (.tail _ (.head _)))
  rcases List.mem_append.mp hp with hp | hp
  · exact .tail _ (.tail _ (.tail _ (.tail _ (List.mem_append_left _ hp))))
  rcases List.mem_cons.mp hp with rfl | hp
  · exact .head _
  · exact .tail _ (.tail _ (.tail _ (.tail _ (List.mem_append_right _ hp)))))
theorem news_back {h₀ h : Heap} {L : Addr} {added acc rest : List (Addr × Obj)} {i a b c : Addr × Obj} (N : News h₀ L h (a :: b :: c :: (added ++ (acc ++ i :: rest)))) : News h₀ L h (i :: a :: b :: c :: ((added ++ acc) ++ rest)) := fun p hp => N p (by
  rcases List.mem_cons.mp hp with rfl | hp
  · exact .tail _ (.tail _ (.tail _ (List.mem_append_right _ (List.mem_append_right _ (.head _)))))
  rcases List.mem_cons.mp hp with rfl | hp
  · exact .head _
  rcases List.mem_cons.mp hp with rfl | hp
  · exact .tail _ (.head _)
  rcases List.mem_cons.mp hp with rfl | hp
  · exact .tail _ (.tail _ (.head _))
  rcases List.mem_append.mp hp with hp | hp
  · rcases List.mem_append.mp hp with hp | hp
    · exact .tail _ (.tail _ (.tail _ (List.mem_append_left _ hp)))
    · exact .tail _ (.tail _ (.tail _ (List.mem_append_right _ (List.mem_append_left _ hp))))
  · exact .tail _ (.tail _ (.tail _ (List.mem_append_right _ (List.mem_append_right _ (.tail _ hp))))))
set_option maxRecDepth 100000 in
set_option maxHeartbeats 1200000 in
theorem stageO2 {w : World} {base : Heap} {L fa sc lf lg rl one od ua : Nat} {cd : Value} {m mg mb : Str → Option Value} {acc rest : List (Addr × Obj)} {s : Shared} {loose : List Str} {mean : ExcName → Option Value}
    {Q : Flow → Shared → Prop} {ps : Array Value} {items : Array Value} {ns : List Int} {st : Int} {t t1 t2 t3 t4 : Tok} {oc : Obj} {tl : List Stmt} {xs : List Nat}
    (B : Below callerA base [] base) (X : (hd.heap_39 w.params).In base) (T : Top topProg loose mean mg mb base)
    (F : Fr base L s.heap (fun z => if z = Str.ofString "one" then some (.ref one) else if z = Str.ofString "log" then some (.ref lg) else if z = Str.ofString "start" then some (.int st t) else if z = Str.ofString "script" then some (.ref sc) else m z))
    (N : News base L s.heap ((58, tabObj ps) :: (lf, listOf #[] 0) :: (rl, listOf #[] 0) :: (acc ++ rest))) (hps : TabOk ps acc)
    (hc : (L + 1, oc) ∈ rest) (hoc : oc.data = .cell (some (.ref lf)))
    (ho1 : (one, instObj 52 od) ∈ rest) (ho2 : (od, dictOf [ent w (Str.ofString "useragents") t1 (.ref ua), ent w (Str.ofString "rulelines") t2 (.ref rl), ent w (Str.ofString "delay") t3 .none, ent w (Str.ofString "req_rate") t4 .none] 4) ∈ rest)
    (l1 : 58 < lf) (l2 : lf < rl) (hoffR : OwnOff rest [58, lf, rl]) (hoffA : OwnOff acc xs) (hxs : ∀ x ∈ xs, x = 58 ∨ x = lf ∨ x = rl ∨ ∃ o, (x, o) ∈ rest) (hx0 : 58 ∈ xs ∧ lf ∈ xs ∧ rl ∈ xs) (hh : CodeHd base 62 58)
    (lifted : base.IsList sc items) (hI : IntsAre items.toList ns) (hlen : ¬ 63 < ns.length) (hst0 : 0 ≤ st) (hst1 : st ≤ 70)
    (hQ : ∀ h' tk m' ps' acc' ls vs nl nv rs, Fr base L h' m' → (m' (Str.ofString "one") = some (.ref one) ∧ m' (Str.ofString "log") = some (.ref lg) ∧ m' (Str.ofString "script") = some (.ref sc)) →
      News base L h' ((58, tabObj ps') :: (lf, listOf ls nl) :: (rl, listOf vs nv) :: (acc' ++ rest)) → TabOk ps' acc' → OwnOff acc' xs → TupsIn acc' ls.toList rs → RulesIn w lg acc' vs.toList rs → rs.length ≤ 10 →
      wpAny (model PR w) (callerA.deeper (envLaw L fa cd)) (execs tl (envLaw L fa cd)) Q (fun _ _ => False) { s with heap := h', toks := tk }) :
    wpAny (model PR w) (callerA.deeper (envLaw L fa cd)) (execs (nth 3 outerBody :: tl) (envLaw L fa cd)) Q (fun _ _ => False) s := by
  have hF : (callerA.deeper (envLaw L fa cd)).frames = some (envLaw L fa cd :: []) := rfl
  w_on
  change wpAny (model PR w) (callerA.deeper (envOfC _ ⟨_, _, _, _, _⟩ _ _ _)) (execs (Stmt.For _ _ (Stmt.Assign _ _ _ :: _) _ _ :: _) (envOfC _ ⟨_, _, _, _, _⟩ _ _ _)) _ _ s
  change Below callerA base [] base at B
  w_strict (k_steps)
  rename IsRange _ _ _ _ _ _ _ _ => hr
  rename News _ _ _ _ => N'
  rename Fr _ _ _ _ => F'
  rename IntsAre _ _ => hI
  change wpAny _ _ (pyIter _) (fun it s₂ => LoopAtV _ _ _ _ _ _ buildBody _ _ it s₂) _ _
  generalize hb : (if (ns.length : Int) < st + 10 then (ns.length : Int) else st + 10) = b at hr
  have hb1 : b ≤ ns.length := by split at hb <;> omega
  have hb2 : 0 ≤ b := by split at hb <;> omega
  have hb3 : b ≤ st + 10 := by split at hb <;> omega
  refine iter_rangeJ (n := (b - st).toNat) (fun i m news => (m (Str.ofString "one") = some (.ref one) ∧ m (Str.ofString "log") = some (.ref lg) ∧ m (Str.ofString "script") = some (.ref sc)) ∧
    ∃ ps' acc' ls vs nl nv rs, news = (58, tabObj ps') :: (lf, listOf ls nl) :: (rl, listOf vs nv) :: (acc' ++ rest) ∧ TabOk ps' acc' ∧ OwnOff acc' xs ∧ TupsIn acc' ls.toList rs ∧ RulesIn w lg acc' vs.toList rs ∧ rs.length = i)
    rfl hr (small1 hst0 (by omega) hb2 (by omega)) (size1 _ _) F' N' ?_ ?_ ?_
  · refine ⟨⟨rfl, rfl, rfl⟩, ps, acc, #[], #[], 0, 0, [], rfl, hps, hoffA, ⟨rfl, ?_⟩, ⟨rfl, ?_⟩, rfl⟩
    · intro i v r a; simp at a
    · intro i v r a; simp at a
  · rintro I hIn i tt h tk m₁ news₁ hi ⟨⟨n1, n2, n3⟩, ps', acc', ls, vs, nl, nv, rs, rfl, hT, hoA, htu, hru, hrl⟩ hne FT NT
    have hI1 : @LT.lt Nat _ 58 I := hIn _ (.head _)
    have hI2 : @LT.lt Nat _ lf I := hIn _ (.tail _ (.head _))
    have hI3 : @LT.lt Nat _ rl I := hIn _ (.tail _ (.tail _ (.head _)))
    have FT := Fr.know (Fr.know (Fr.know (Fr.know FT (x := Str.ofString "script") n3) (x := Str.ofString "log") n2) (x := Str.ofString "one") n1) (x := Str.ofString "place") (v := .int (st + (i : Int) * 1) tt) rfl
    have s1 : ls.size = rs.length := by have := htu.1; simpa using this
    have s2 : vs.size = rs.length := by have := hru.1; simpa using this
    have hii : i < 10 := by omega
    refine build_turn B X T FT (news_up NT) hT (fun p hp => List.mem_append_left _ hp) (List.mem_append_right _ (.tail _ hc)) hoc (List.mem_append_right _ (.tail _ ho1)) (List.mem_append_right _ (.tail _ ho2)) l1 l2 ?_ hh lifted hI (by omega) (by omega) hlen (by rw [sizeLine_eq]; omega) (by rw [sizeLine_eq]; omega) ?_
    · intro p hp q hq
      rcases List.mem_append.mp hp with hp | hp
      · refine hoA p hp q ?_
        rcases List.mem_cons.mp hq with rfl | hq
        · exact hx0.1
        rcases List.mem_cons.mp hq with rfl | hq
        · exact hx0.2.1
        rw [List.mem_singleton.mp hq]
        exact hx0.2.2
      rcases List.mem_cons.mp hp with rfl | hp
      · rcases List.mem_cons.mp hq with rfl | hq
        · exact (Nat.ne_of_lt hI1).symm
        rcases List.mem_cons.mp hq with rfl | hq
        · exact (Nat.ne_of_lt hI2).symm
        rw [List.mem_singleton.mp hq]
        exact (Nat.ne_of_lt hI3).symm
      · exact hoffR p hp q hq
    · intro h' tk m' ps2 added v v' nl' nv' r F2 hm N2 hT2 hB hok hpl htv hrv
      have hBI : ∀ p ∈ added, @LT.lt Nat _ I p.1 := fun p hp => hB p hp _ (.tail _ (.tail _ (.tail _ (List.mem_append_right _ (.head _)))))
      refine jend F2 (news_back N2) ?_ ⟨⟨by rw [hm _ (by decide)]; rfl, by rw [hm _ (by decide)]; rfl, by rw [hm _ (by decide)]; rfl⟩, ps2, added ++ acc', ls.push v, vs.push v', nl', nv', rs ++ [r], rfl, hT2, ?_, ?_, ?_, by simp [hrl]⟩
      · intro p hp
        rcases List.mem_cons.mp hp with rfl | hp
        · exact Nat.ne_of_lt hI1
        rcases List.mem_cons.mp hp with rfl | hp
        · exact Nat.ne_of_lt hI2
        rcases List.mem_cons.mp hp with rfl | hp
        · exact Nat.ne_of_lt hI3
        rcases List.mem_append.mp hp with hp | hp
        · rcases List.mem_append.mp hp with hp | hp
          · exact (Nat.ne_of_lt (hBI p hp)).symm
          · exact hne p (.tail _ (.tail _ (.tail _ (List.mem_append_left _ hp))))
        · exact hne p (.tail _ (.tail _ (.tail _ (List.mem_append_right _ hp))))
      · intro p hp x hx
        rcases List.mem_append.mp hp with hp | hp
        · rcases hxs x hx with rfl | rfl | rfl | ⟨o, ho⟩
          · exact (Nat.ne_of_lt (hB p hp (58, tabObj ps') (.head _))).symm
          · exact (Nat.ne_of_lt (hB p hp (x, listOf ls nl) (.tail _ (.head _)))).symm
          · exact (Nat.ne_of_lt (hB p hp (x, listOf vs nv) (.tail _ (.tail _ (.head _))))).symm
          · exact (Nat.ne_of_lt (hB p hp (x, o) (.tail _ (.tail _ (.tail _ (List.mem_append_right _ (.tail _ ho))))))).symm
        · exact hoA p hp x hx
      · rw [Array.toList_push]
        exact (htu.mono fun p hp => List.mem_append_right _ hp).snoc htv
      · rw [Array.toList_push]
        exact (hru.mono fun p hp => List.mem_append_right _ hp).snoc hok hrv
  · rintro m₁ news₁ h tk ⟨hN, ps', acc', ls, vs, nl, nv, rs, rfl, hT, hoA, htu, hru, hrl⟩ FT NT
    exact hQ _ _ m₁ ps' acc' ls vs nl nv rs FT hN NT hT hoA htu hru (by omega)
end Mine
end

section
open PySem PySem.W PyProof.Rows PySem.Calls Mine
namespace Mine
local macro_rules | `(tactic| k_mem) => `(tactic| first | assumption | exact List.Mem.head _ | (refine' List.Mem.tail _ ?_; k_mem))
set_option maxRecDepth 100000 in
set_option maxHeartbeats 1200000 in
theorem stageO3 {w : World} {base : Heap} {L fa rl one od ua : Nat} {cd : Value} {m mg mb : Str → Option Value} {rest : List (Addr × Obj)} {s : Shared} {loose : List Str} {mean : ExcName → Option Value}
    {Q : Flow → Shared → Prop} {t1 t2 t3 t4 : Tok} {tl : List Stmt}
    (B : Below callerA base [] base) (X : (hd.heap_39 w.params).In base) (T : Top topProg loose mean mg mb base)
    (F : Fr base L s.heap (fun z => if z = Str.ofString "one" then some (.ref one) else m z))
    (N : News base L s.heap rest)
    (ho1 : (one, instObj 52 od) ∈ rest) (ho2 : (od, dictOf [ent w (Str.ofString "useragents") t1 (.ref ua), ent w (Str.ofString "rulelines") t2 (.ref rl), ent w (Str.ofString "delay") t3 .none, ent w (Str.ofString "req_rate") t4 .none] 4) ∈ rest)
    (hQ : ∀ h' tk m', Fr base L h' m' → (∀ z, m' z = if z = Str.ofString "rules" then some (.ref rl) else if z = Str.ofString "one" then some (.ref one) else m z) → News base L h' rest →
      wpAny (model PR w) (callerA.deeper (envLaw L fa cd)) (execs tl (envLaw L fa cd)) Q (fun _ _ => False) { s with heap := h', toks := tk }) :
    wpAny (model PR w) (callerA.deeper (envLaw L fa cd)) (execs (nth 4 outerBody :: tl) (envLaw L fa cd)) Q (fun _ _ => False) s := by
  have hF : (callerA.deeper (envLaw L fa cd)).frames = some (envLaw L fa cd :: []) := rfl
  w_on
  change wpAny (model PR w) (callerA.deeper (envOfC _ ⟨_, _, _, _, _⟩ _ _ _)) (execs (Stmt.Assign _ _ _ :: _) (envOfC _ ⟨_, _, _, _, _⟩ _ _ _)) _ _ s
  change Below callerA base [] base at B
  w_strict (k_steps)
  rename News _ _ _ _ => N'
  rename Fr _ _ _ _ => F'
  exact hQ _ _ _ F' (fun z => rfl) N'
theorem outer_eq : outerBody = [nth 0 outerBody, nth 1 outerBody, nth 2 outerBody, nth 3 outerBody, nth 4 outerBody, whileStmt] := by rfl
theorem ownOff_cons {p : Addr × Obj} {l : List (Addr × Obj)} {xs : List Addr} (h : ∀ x ∈ xs, @Ne Nat p.1 x) (r : OwnOff l xs) : OwnOff (p :: l) xs := fun q hq x hx => by
  rcases List.mem_cons.mp hq with rfl | hq
  · exact h x hx
  · exact r q hq x hx
theorem ownOff_app {l r : List (Addr × Obj)} {xs : List Addr} (h : OwnOff l xs) (g : OwnOff r xs) : OwnOff (l ++ r) xs := fun q hq x hx => by
  rcases List.mem_append.mp hq with hq | hq
  · exact h q hq x hx
  · exact g q hq x hx
theorem ne3 {p a b c : Nat} (h1 : p ≠ a) (h2 : p ≠ b) (h3 : p ≠ c) : ∀ x ∈ [a, b, c], @Ne Nat p x := fun x hx => by
  rcases List.mem_cons.mp hx with rfl | hx
  · exact h1
  rcases List.mem_cons.mp hx with rfl | hx
  · exact h2
  rw [List.mem_singleton.mp hx]; exact h3
set_option maxRecDepth 100000 in
set_option maxHeartbeats 1200000 in
theorem outer_turn {w : World} {base : Heap} {L fa sc I : Nat} {cd : Value} {m mg mb : Str → Option Value} {rest : List (Addr × Obj)} {s : Shared} {loose : List Str} {mean : ExcName → Option Value}
    {Q : Flow → Shared → Prop} {ps : Array Value} {items : Array Value} {ns : List Int} {st : Int} {t : Tok} {it oc : Obj} {v0 : Option Value}
    (B : Below callerA base [] base) (X : (hd.heap_39 w.params).In base) (T : Top topProg loose mean mg mb base)
    (F : Fr base L s.heap m) (hm1 : m (Str.ofString "start") = some (.int st t)) (hm2 : m (Str.ofString "script") = some (.ref sc))
    (N : News base L s.heap ((I, it) :: (L + 1, oc) :: (58, tabObj ps) :: rest)) (hps : TabOk ps rest)
    (hoc : oc.data = .cell v0)
    (l1 : 58 < L) (l2 : L + 1 < I) (hoff : OwnOff rest [I, L + 1, 58]) (hh : CodeHd base 62 58)
    (lifted : base.IsList sc items) (hI : IntsAre items.toList ns) (hlen : ¬ 63 < ns.length) (hst0 : 0 ≤ st) (hst1 : st ≤ 70)
    (hQ : ∀ h' tk m' oc' v0' ps' rest', Fr base L h' m' → m' (Str.ofString "script") = some (.ref sc) → News base L h' ((I, it) :: (L + 1, oc') :: (58, tabObj ps') :: rest') → oc'.data = .cell v0' → TabOk ps' rest' → OwnOff rest' [I, L + 1, 58] →
      Q .next { s with heap := h', toks := tk }) :
    wpAny (model PR w) (callerA.deeper (envLaw L fa cd)) (execs outerBody (envLaw L fa cd)) Q (fun _ _ => False) s := by
  rw [outer_eq]
  refine stageO1 B X T F N hoc l1 l2 hoff ?_
  intro h1 tk1 lg lf one od ua rl t1 t2 t3 t4 oc1 m1 F1 e1 N1 hoc1 ⟨o1, o2, o3, o4, o5, o6, oL⟩
  have F1 := Fr.know (Fr.know (Fr.know (Fr.know F1 (x := Str.ofString "script") (by rw [e1]; exact hm2)) (x := Str.ofString "start") (by rw [e1]; exact hm1)) (x := Str.ofString "log") (by rw [e1]; rfl)) (x := Str.ofString "one") (by rw [e1]; rfl)
  have N1 : News base L h1 ((58, tabObj ps) :: (lf, listOf #[] 0) :: (rl, listOf #[] 0) :: (rest ++ [(lg, listOf #[] 0), (ua, listOf #[] 0), (one, instObj 52 od), (od, dictOf [ent w (Str.ofString "useragents") t1 (.ref ua), ent w (Str.ofString "rulelines") t2 (.ref rl), ent w (Str.ofString "delay") t3 .none, ent w (Str.ofString "req_rate") t4 .none] 4), (I, it), (L + 1, oc1)])) := fun p hp => N1 p (by
    simp only [List.mem_cons, List.mem_append, List.not_mem_nil, or_false] at hp ⊢
    rcases hp with h | h | h | h | h | h | h | h | h | h <;> simp only [h, true_or, or_true])
  have hrest : ∀ p ∈ rest, @LT.lt Nat _ p.1 lg := fun p hp => allLt_at oL p hp
  refine stageO2 (xs := [I, L + 1, 58, lg, lf, rl]) B X T F1 N1 hps (.tail _ (.tail _ (.tail _ (.tail _ (.tail _ (.head _)))))) hoc1 (.tail _ (.tail _ (.head _))) (.tail _ (.tail _ (.tail _ (.head _)))) (by omega) (by omega) ?_ ?_ ?_ (by simp) hh lifted hI hlen hst0 hst1 ?_
  · refine ownOff_cons (ne3 ?_ ?_ ?_) (ownOff_cons (ne3 ?_ ?_ ?_) (ownOff_cons (ne3 ?_ ?_ ?_) (ownOff_cons (ne3 ?_ ?_ ?_) (ownOff_cons (ne3 ?_ ?_ ?_) (ownOff_cons (ne3 ?_ ?_ ?_) (fun _ h => nomatch h))))))
    all_goals (dsimp only; omega)
  · intro p hp x hx
    have hl := hrest p hp
    have a1 := hoff p hp I (by simp)
    have a2 := hoff p hp (L + 1) (by simp)
    have a3 := hoff p hp 58 (by simp)
    simp only [List.mem_cons, List.not_mem_nil, or_false] at hx
    rcases hx with rfl | rfl | rfl | rfl | rfl | rfl
    · exact a1
    · exact a2
    · exact a3
    · exact Nat.ne_of_lt hl
    · exact Nat.ne_of_lt (by omega)
    · exact Nat.ne_of_lt (by omega)
  · intro x hx
    simp only [List.mem_cons, List.not_mem_nil, or_false] at hx
    rcases hx with rfl | rfl | rfl | rfl | rfl | rfl
    · exact .inr (.inr (.inr ⟨it, by simp⟩))
    · exact .inr (.inr (.inr ⟨oc1, by simp⟩))
    · exact .inl rfl
    · exact .inr (.inr (.inr ⟨_, .head _⟩))
    · exact .inr (.inl rfl)
    · exact .inr (.inr (.inl rfl))
  intro h2 tk2 m2 ps2 acc ls vs nl nv rs F2 ⟨q1, q2, q3⟩ N2 hT2 hoA htu hru hrl
  refine stageO3 (od := od) (ua := ua) (rl := rl) B X T (Fr.know F2 q1) N2 (.tail _ (.tail _ (.tail _ (List.mem_append_right _ (.tail _ (.tail _ (.head _))))))) (.tail _ (.tail _ (.tail _ (List.mem_append_right _ (.tail _ (.tail _ (.tail _ (.head _)))))))) ?_
  intro h3 tk3 m3 F3 e3 N3
  have N3 : News base L h3 ((lg, listOf #[] 0) :: (lf, listOf ls nl) :: (rl, listOf vs nv) :: (58, tabObj ps2) :: (acc ++ [(ua, listOf #[] 0), (one, instObj 52 od), (od, dictOf [ent w (Str.ofString "useragents") t1 (.ref ua), ent w (Str.ofString "rulelines") t2 (.ref rl), ent w (Str.ofString "delay") t3 .none, ent w (Str.ofString "req_rate") t4 .none] 4), (I, it), (L + 1, oc1)])) := fun p hp => N3 p (by
    simp only [List.mem_cons, List.mem_append, List.not_mem_nil, or_false] at hp ⊢
    rcases hp with h | h | h | h | h | h | h | h | h | h <;> simp only [h, true_or, or_true])
  refine wpAny_execs_cons (while_ok (od := od) (ua := ua) B X T F3 ⟨by rw [e3]; exact q2, by rw [e3]; rfl, by rw [e3]; rfl, by rw [e3]; exact q3⟩ N3 (.tail _ (List.mem_append_right _ (.tail _ (.tail _ (.tail _ (.tail _ (.head _))))))) hoc1
    (.tail _ (List.mem_append_right _ (.tail _ (.head _)))) (.tail _ (List.mem_append_right _ (.tail _ (.tail _ (.head _))))) o2 (by omega) ?_ hh hrl (by simp) (htu.mono fun p hp => .tail _ (List.mem_append_left _ hp)) (hru.mono fun p hp => .tail _ (List.mem_append_left _ hp)) ?_)
  · refine ownOff_cons (ne3 ?_ ?_ ?_) (ownOff_app (fun p hp x hx => hoA p hp x ?_) (ownOff_cons (ne3 ?_ ?_ ?_) (ownOff_cons (ne3 ?_ ?_ ?_) (ownOff_cons (ne3 ?_ ?_ ?_) (ownOff_cons (ne3 ?_ ?_ ?_) (ownOff_cons (ne3 ?_ ?_ ?_) (fun _ h => nomatch h)))))))
    case refine_4 => exact .tail _ (.tail _ (.tail _ hx))
    all_goals (dsimp only; omega)
  · intro h4 tk4 m4 F4 hs4 N4
    refine wpAny_execs_nil (hQ h4 tk4 m4 oc1 _ ps2 acc F4 hs4 (fun p hp => N4 p ?_) hoc1 hT2 fun p hp x hx => hoA p hp x ?_)
    · rcases List.mem_cons.mp hp with rfl | hp
      · exact .tail _ (List.mem_append_right _ (.tail _ (.tail _ (.tail _ (.head _)))))
      rcases List.mem_cons.mp hp with rfl | hp
      · exact .tail _ (List.mem_append_right _ (.tail _ (.tail _ (.tail _ (.tail _ (.head _))))))
      rcases List.mem_cons.mp hp with rfl | hp
      · exact .head _
      · exact .tail _ (List.mem_append_left _ hp)
    · rcases List.mem_cons.mp hx with rfl | hx
      · exact .head _
      rcases List.mem_cons.mp hx with rfl | hx
      · exact .tail _ (.head _)
      rw [List.mem_singleton.mp hx]
      exact .tail _ (.tail _ (.head _))
end Mine
end

section
open PySem PySem.W PyProof.Rows PySem.Calls Mine
namespace Mine
/-- what stands between the turns of the law's loop -/
def OutJ (L sc : Nat) (m : Str → Option Value) (news : List (Addr × Obj)) : Prop :=
  m (Str.ofString "script") = some (.ref sc) ∧ ∃ oc v0 ps rest, news = (L + 1, oc) :: (58, tabObj ps) :: rest ∧ oc.data = .cell v0 ∧ TabOk ps rest ∧ OwnOff rest [L + 1, 58]
set_option maxRecDepth 100000 in
theorem outer_loop {w : World} {base : Heap} {L fa sc r : Nat} {cd : Value} {m mg mb : Str → Option Value} {s : Shared} {loose : List Str} {mean : ExcName → Option Value}
    {Q : Flow → Shared → Prop} {E : Value → Shared → Prop} {items : Array Value} {ns : List Int} {M : Int} {t u v : Tok} {oc : Obj} {v0 : Option Value}
    (B : Below callerA base [] base) (X : (hd.heap_39 w.params).In base) (T : Top topProg loose mean mg mb base)
    (F : Fr base L s.heap m) (hm : m (Str.ofString "script") = some (.ref sc))
    (N : News base L s.heap [(L + 1, oc), (58, tabObj #[])]) (hoc : oc.data = .cell v0) (l1 : 58 < L) (hh : CodeHd base 62 58)
    (lifted : base.IsList sc items) (hI : IntsAre items.toList ns) (hlen : ¬ 63 < ns.length)
    (hr : IsRange s.heap r 0 M 10 t u v) (hM : (if (ns.length : Int) > 1 then (ns.length : Int) else 1) = M)
    (hQ : ∀ h' tk m' oc' ps', Fr base L h' m' → News base L h' [(L + 1, oc'), (58, tabObj ps')] → Q .next { s with heap := h', toks := tk }) :
    wpAny (model PR w) (callerA.deeper (envLaw L fa cd)) (pyIter (.ref r)) (fun it s₂ => LoopAtV PR w (callerA.deeper (envLaw L fa cd)) base (envLaw L fa cd) (Str.ofString "start") outerBody Q E it s₂) E s := by
  have hM0 : 0 < M := by split at hM <;> omega
  have hM1 : M ≤ 63 := by split at hM <;> omega
  refine iter_rangeJ (n := ((M - 1) / 10 + 1).toNat) (fun i m news => OutJ L sc m news) rfl hr (small10 hM0 (by omega)) (size10 M hM0) F N ?_ ?_ ?_
  · exact ⟨hm, oc, v0, #[], [], rfl, hoc, .inl rfl, fun _ h => nomatch h⟩
  · rintro I hIn i tt h tk m₁ news₁ hi ⟨hs, oc₁, v₁, ps, rest, rfl, hoc₁, hT, ho⟩ hne FT NT
    have hI1 : @LT.lt Nat _ (L + 1) I := hIn _ (.head _)
    have hoff : OwnOff rest [I, L + 1, 58] := fun p hp x hx => by
      rcases List.mem_cons.mp hx with rfl | hx
      · exact hne p (.tail _ (.tail _ hp))
      · exact ho p hp x hx
    refine wpAny_mono (outer_turn (st := 0 + (i : Int) * 10) (t := tt) B X T FT rfl hs NT hT hoc₁ l1 hI1 hoff hh lifted hI hlen (by omega) (by omega) ?_) (fun _ _ h => h) fun _ _ h => h.elim
    intro h' tk' m' oc' v0' ps' rest' F' hs' N' hoc' hT' ho'
    refine jend F' N' ?_ ⟨hs', oc', v0', ps', rest', rfl, hoc', hT', fun p hp x hx => ho' p hp x (.tail _ hx)⟩
    intro p hp
    rcases List.mem_cons.mp hp with rfl | hp
    · exact Nat.ne_of_lt hI1
    rcases List.mem_cons.mp hp with rfl | hp
    · exact Nat.ne_of_lt (Nat.lt_trans l1 (Nat.lt_trans (Nat.lt_succ_self _) hI1))
    · exact ho' p hp I (.head _)
  · rintro m₁ news₁ h tk ⟨hs, oc₁, v₁, ps, rest, rfl, hoc₁, hT, ho⟩ FT NT
    exact hQ h tk m₁ oc₁ ps FT fun p hp => NT p (by
      rcases List.mem_cons.mp hp with rfl | hp
      · exact .head _
      · rw [List.mem_singleton.mp hp]; exact .tail _ (.head _))
end Mine
local macro_rules | `(tactic| walk_at "pyIter ref") => `(tactic| (k_here; refine Stop.mk ?_))
set_option maxRecDepth 100000 in
set_option maxHeartbeats 8000000 in
theorem PySem.Challenge.cw_kn0092_01_holds : PySem.Challenge.rw_kn0092_01.Holds :=
  Mine.hd (by
  w_strict (k_go0; (all_goals try k_fold); k_steps)
  rename IsRange _ _ _ _ _ _ _ _ => hr
  rename News _ _ _ _ => N'
  rename Fr _ _ _ _ => F'
  rename Below _ _ _ _ => K'
  rename Top topProg _ _ _ _ _ => T'
  rename Frag.In _ _ => X'
  rename IntsAre _ _ => hI
  rename CodeHd _ _ _ => hh
  rename 58 < _ => l0
  rename ¬ _ < _ => hlen
  rename _ = Data.cell _ => hcell
  change wpAny (model PR _) (callerA.deeper (envLaw _ _ _)) (pyIter _) (fun it s₂ => LoopAtV PR _ _ _ (envLaw _ _ _) _ outerBody _ _ it s₂) _ _
  refine outer_loop K' X' T' F' rfl N' hcell l0 hh (by assumption) (by exact hI) (fun h => hlen (Int.ofNat_lt.mpr h)) hr rfl ?_
  intro h' tk m' oc' ps' F' N'
  w_strict (k_steps))
end
