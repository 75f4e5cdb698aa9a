import PyProof.Rows.All
import Wide.All
import OpenK.AllK
import Wide.FinOn
import PySem.Challenge.RW_dn0255_04
set_option Elab.async false
set_option maxRecDepth 100000
set_option maxHeartbeats 8000000
set_option linter.unusedVariables false
set_option compiler.extract_closed false
set_option linter.unusedSimpArgs false
namespace Mine
section
open PySem PySem.W PyProof.Rows
set_option synthInstance.maxSize 1 in
open_top hd for PySem.Challenge.rw_dn0255_04

end
noncomputable section
open PySem PySem.Calls PyProof.Rows PySem.W

/-- how one turn of a loop ends: the iterator as it was, the rest by J -/
def TurnEnd (h₀ : Heap) (L : Addr) (I : Addr) (oI : Obj) (J : (Str → Option Value) → List (Addr × Obj) → Prop) (s₁ : Shared) (Q : Flow → Shared → Prop) (f : Flow) (s₂ : Shared) : Prop :=
  match f with
  | .ret v => Q (.ret v) s₂
  | .brk => Q .next s₂
  | _ => ∃ h' tk m' nx, s₂ = { s₁ with heap := h', toks := tk } ∧ Fr h₀ L h' m' ∧ News h₀ L h' ((I, oI) :: nx) ∧ (∀ p ∈ nx, p.1 ≠ I) ∧ J m' nx

theorem turn_next {h₀ h' : Heap} {L I : Addr} {oI : Obj} {J : (Str → Option Value) → List (Addr × Obj) → Prop} {s₁ : Shared} {Q : Flow → Shared → Prop} {tk : Nat} {m' : Str → Option Value} {nx : List (Addr × Obj)}
    (F : Fr h₀ L h' m') (N : News h₀ L h' ((I, oI) :: nx)) (hI : ∀ p ∈ nx, p.1 ≠ I) (hJ : J m' nx) : TurnEnd h₀ L I oI J s₁ Q .next { s₁ with heap := h', toks := tk } := ⟨h', tk, m', nx, rfl, F, N, hI, hJ⟩
theorem turn_cont {h₀ h' : Heap} {L I : Addr} {oI : Obj} {J : (Str → Option Value) → List (Addr × Obj) → Prop} {s₁ : Shared} {Q : Flow → Shared → Prop} {tk : Nat} {m' : Str → Option Value} {nx : List (Addr × Obj)}
    (F : Fr h₀ L h' m') (N : News h₀ L h' ((I, oI) :: nx)) (hI : ∀ p ∈ nx, p.1 ≠ I) (hJ : J m' nx) : TurnEnd h₀ L I oI J s₁ Q .cont { s₁ with heap := h', toks := tk } := ⟨h', tk, m', nx, rfl, F, N, hI, hJ⟩
theorem news_tail {h₀ h : Heap} {L : Addr} {a : Addr × Obj} {l : List (Addr × Obj)} (N : News h₀ L h (a :: l)) : News h₀ L h l := fun q hq => N q (List.mem_cons_of_mem _ hq)

section
variable {prog : Program} {w : World} {A : Around} {E : Value → Shared → Prop} {s : Shared} {env : Env} {h₀ : Heap} {x : Str} {body : List Stmt} {Q : Flow → Shared → Prop}

theorem loop_gen {I : Addr} {fp : List Addr} {n : Nat} {P : Nat → Value → Prop} {St : Nat → Heap → Prop} {m₀ : Str → Option Value} {news : List (Addr × Obj)}
    (fixed : List (Addr × Obj)) (J : Nat → (Str → Option Value) → List (Addr × Obj) → Prop)
    (W : Walks prog w A I fp [I] n P St) (hlive : ∀ i h, St i h → ∃ o, h.get? I = some o) (hLf : env.locals ∉ fp) (hI : h₀.get? I = none) (hnI : ∀ p ∈ news, p.1 ≠ I)
    (hfp : ∀ b ∈ fp, b = I ∨ (∃ o, (b, o) ∈ fixed) ∨ ∃ o, h₀.get? b = some o) (hfix : ∀ i m nx, J i m nx → ∀ p ∈ fixed, p ∈ nx)
    (hst : St 0 s.heap) (F : Fr h₀ env.locals s.heap m₀) (N : News h₀ env.locals s.heap news) (hj : J 0 m₀ news)
    (turn : ∀ i v m₁ nx h tk oI, i < n → P i v → J i m₁ nx → (∀ p ∈ nx, p.1 ≠ I) → Fr h₀ env.locals h (fun y => if y = x then some v else m₁ y) → News h₀ env.locals h ((I, oI) :: nx) →
      wpAny (model prog w) A (execs body env) (TurnEnd h₀ env.locals I oI (J (i + 1)) { s with heap := h, toks := tk } Q) E { s with heap := h, toks := tk })
    (done : ∀ m₁ nx h tk, J n m₁ nx → Fr h₀ env.locals h m₁ → News h₀ env.locals h nx → Q .next { s with heap := h, toks := tk }) :
    LoopAtV prog w A h₀ env x body Q E (.ref I) s := by
  refine ⟨I, fp, [I], n, P, St, m₀, news, J, rfl, W, hLf, ?_, ?_, hst, F, N, hj, ?_, ?_⟩
  · intro b hb; rw [List.mem_singleton.mp hb]; exact hI
  · intro p hp hm; exact hnI p hp (List.mem_singleton.mp hm)
  · rintro i v m₁ nx s₁ own ⟨hh', tk', rfl⟩ hin hP hJ hoff hown hget hall hst₁ F₁ N₁
    obtain ⟨oI, hoI⟩ := hlive _ _ hst₁
    have hoff' : ∀ p ∈ nx, p.1 ≠ I := fun p hp e => hoff p hp (List.mem_singleton.mpr e)
    have hIown : (I, oI) ∈ own := hall I (W.sub I (List.mem_singleton.mpr rfl)) hI oI hoI
    have N₂ : News h₀ env.locals hh' ((I, oI) :: nx) := fun p hp => by
      rcases List.mem_cons.mp hp with rfl | hp
      · exact N₁ _ (List.mem_append_left _ hIown)
      · exact N₁ p (List.mem_append_right _ hp)
    have hownin : ∀ p ∈ own, p = (I, oI) ∨ p ∈ fixed := by
      intro p hp
      rcases hfp p.1 (hown p hp) with e | ⟨o, ho⟩ | ⟨o, ho⟩
      · left
        have := hget p hp
        rw [e] at this
        have e2 : p.2 = oI := by
          have h3 := hoI
          rw [this] at h3
          exact Option.some.inj h3
        rw [← e, ← e2]
      · right
        have h1 := (N₂ _ (List.mem_cons_of_mem _ (hfix i m₁ nx hJ _ ho))).1
        have h2 := hget p hp
        have h3 : o = p.2 := by
          have h4 : hh'.get? p.1 = some o := h1
          rw [h2] at h4
          exact (Option.some.inj h4).symm
        rw [h3] at ho
        exact ho
      · have := (N₁ p (List.mem_append_left _ hp)).2.2
        rw [ho] at this; cases this
    refine wpAny_mono (turn i v m₁ nx hh' tk' oI hin hP hJ hoff' F₁ N₂) (fun f s₂ p => ?_) fun _ _ e => e
    have fin : (∃ h' tk m' nx', s₂ = { ({ s with heap := hh', toks := tk' } : Shared) with heap := h', toks := tk } ∧ Fr h₀ env.locals h' m' ∧ News h₀ env.locals h' ((I, oI) :: nx') ∧ (∀ p ∈ nx', p.1 ≠ I) ∧ J (i + 1) m' nx') →
        LoopStepU h₀ env.locals [I] own (J (i + 1)) { s with heap := hh', toks := tk' } .next s₂ := by
      rintro ⟨h', tk, m', nx', e, F', N', hne, hJ'⟩
      refine ⟨rfl, h', tk, m', nx', e, F', fun p hp => ?_, fun p hp hm => hne p hp (List.mem_singleton.mp hm), hJ'⟩
      rcases List.mem_append.mp hp with hp | hp
      · rcases hownin p hp with rfl | hf
        · exact N' _ (List.mem_cons_self ..)
        · exact N' _ (List.mem_cons_of_mem _ (hfix _ _ _ hJ' p hf))
      · exact N' _ (List.mem_cons_of_mem _ hp)
    cases f with
    | ret v => exact .ret p
    | brk => exact .brk p
    | next => exact .next (fin p)
    | cont => exact .cont (fin p)
  · rintro h' tk m' news' F' N' _ hJ
    exact done m' news' h' tk hJ F' N'

/-- a loop over a list of the ledger that no turn changes -/
theorem loop_list {l : Addr} {vs : List Value} {nn : Nat} {m₀ : Str → Option Value} {news : List (Addr × Obj)} (J : Nat → (Str → Option Value) → List (Addr × Obj) → Prop)
    (hh : A.handled = none) (hl : (l, listOf vs.toArray nn) ∈ news) (hfix : ∀ i m nx, J i m nx → (l, listOf vs.toArray nn) ∈ nx)
    (F : Fr h₀ env.locals s.heap m₀) (N : News h₀ env.locals s.heap news) (hj : J 0 m₀ news)
    (turn : ∀ i v m₁ nx h tk I oI, vs[i]? = some v → J i m₁ nx → (∀ p ∈ nx, p.1 ≠ I) → Fr h₀ env.locals h (fun y => if y = x then some v else m₁ y) → News h₀ env.locals h ((I, oI) :: nx) →
      wpAny (model prog w) A (execs body env) (TurnEnd h₀ env.locals I oI (J (i + 1)) { s with heap := h, toks := tk } Q) E { s with heap := h, toks := tk })
    (done : ∀ m₁ nx h tk, J vs.length m₁ nx → Fr h₀ env.locals h m₁ → News h₀ env.locals h nx → Q .next { s with heap := h, toks := tk }) :
    wpAny (model prog w) A (pyIter (.ref l)) (fun it s₂ => LoopAtV prog w A h₀ env x body Q E it s₂) E s := by
  have hol : s.heap.get? l = some (listOf vs.toArray nn) := (N _ hl).1
  have hls : s.heap.IsList l vs.toArray := ⟨_, hol, rfl, nn, rfl⟩
  have hne : l ≠ s.heap.objs.size := Nat.ne_of_lt (Heap.lt_size hol)
  refine wpAny_pyIter_list hls ?_
  have W := Walks.list (prog := prog) (w := w) hh s.heap.objs.size l hne vs.toArray
  have hlen : vs.toArray.size = vs.length := by simp
  rw [hlen] at W
  refine loop_gen [(l, listOf vs.toArray nn)] J W ?_ ?_ ?_ ?_ ?_ ?_ ⟨⟨_, Heap.get?_push_size _ rfl, rfl, rfl⟩, hls.at fun o e => Heap.get?_push_of_some _ e⟩ (F.push _) (fun p hp => ⟨Heap.get?_push_of_some _ (N p hp).1, (N p hp).2⟩) hj ?_ ?_
  · rintro i h ⟨⟨o, ho, _⟩, _⟩; exact ⟨o, ho⟩
  · intro hm
    rcases List.mem_cons.mp hm with e | hm
    · exact absurd F.ns.lt (e ▸ Nat.lt_irrefl _)
    · exact (N _ hl).2.1 ((List.mem_singleton.mp hm).symm)
  · exact next_is_new F
  · intro p hp e
    exact absurd (Heap.lt_size (N p hp).1) (e ▸ Nat.lt_irrefl _)
  · intro b hb
    rcases List.mem_cons.mp hb with e | hb
    · exact .inl e
    · rw [List.mem_singleton.mp hb]; exact .inr (.inl ⟨_, List.mem_singleton.mpr rfl⟩)
  · intro i m nx hJ p hp
    rw [List.mem_singleton.mp hp]; exact hfix i m nx hJ
  · intro i v m₁ nx h tk oI hin hP hJ hn F₁ N₁
    exact turn i v m₁ nx h tk _ oI (by simpa using hP) hJ hn F₁ N₁
  · exact done
end

end
noncomputable section
open PySem PySem.Calls PyProof.Rows PySem.W

section
variable {M : Model} {A : Around} {E : Value → Shared → Prop} {s : Shared}
theorem newFunctionEnv_cc {scope : Scope} {globals : Addr} {closure : List (Str × Addr)} {binds : List (Str × Value)} {qual : Str}
    {func : Option Addr} {code : Value} {builtins : Addr} {Q : Env → Shared → Prop}
    (hl : ∀ x ∈ binds, scope.names.lookup x.1 = some .local)
    (hQ : ∀ h', h'.Ns s.heap.objs.size (fun x => binds.reverse.lookup x) →
      Heap.SameBut s.heap.objs.size (pushCells (s.heap.push { cls := .type "frame", data := .dict #[] }) scope.names) h' →
      Q (newEnv scope s.heap.objs.size globals (cellsFrom (s.heap.objs.size + 1) scope.names closure) qual func code none builtins) { s with heap := h', toks := s.toks + binds.length })
    (hk : scope.kind = .function) :
    wpAny M A (newFunctionEnv scope globals closure binds qual func code none builtins) Q E s := by
  simp only [newFunctionEnv, Option.isSome_none, Bool.false_eq_true, if_false]
  simp only [newEnv] at hQ
  refine wpAny_bind (wpAny_alloc ?_)
  refine wpAny_bind (wpAny_layCells _ (fun name kind cells => by cases hkc : kind == NameKind.cell <;> simp [hkc]) _ _ _ _ ?_)
  rw [show ({ s with heap := s.heap.push { cls := .type "frame", data := .dict #[] } } : Shared).heap.objs.size = s.heap.objs.size + 1 from Heap.size_push ..]
  refine wpAny_bind ?_
  refine wpAny_forIn_list _
    (fun rest _ s' => ∃ done h', binds = done ++ rest ∧ s' = { s with heap := h', toks := s.toks + done.length } ∧
      h'.Ns s.heap.objs.size (fun x => done.reverse.lookup x) ∧
      Heap.SameBut s.heap.objs.size (pushCells (s.heap.push { cls := .type "frame", data := .dict #[] }) scope.names) h') _ ?_ ?_ binds _
    ⟨[], _, rfl, rfl, (Heap.Ns.new s.heap (.type "frame")).keeps (pushCells_keeps _ _), Heap.SameBut.refl ..⟩
  · rintro ⟨name, v⟩ rest _ s' ⟨done, h', hb, rfl, hns, hsb⟩
    have hk' : Env.kindOf { scope, locals := s.heap.objs.size, globals, cells := cellsFrom (s.heap.objs.size + 1) scope.names closure, qual, func, code, frame := some s.heap.objs.size, builtins } name = some .local :=
      hl (name, v) (by rw [hb]; simp)
    have hp : (scope.kind == .class || (scope.kind == .module && (s.heap.objs.size != globals))) = false := by
      rw [hk]; rfl
    simp only [storeName_local hk' hp]
    refine wpAny_bind (wpAny_nsSet hns fun h'' hns' hsb' => wpAny_pure ⟨done ++ [(name, v)], h'', by simp [hb], ?_, ?_, hsb.trans hsb'⟩)
    · simp [Nat.add_assoc]
    · rw [lookup_reverse_snoc]; exact hns'
  · rintro _ s' ⟨done, h', hb, rfl, hns, hsb⟩
    rw [List.append_nil] at hb; subst hb
    exact wpAny_pure (hQ h' hns hsb)
end

section
variable {prog : Program} {w : World} {A₀ A : Around} {s : Shared} {base h₀ : Heap} {outer : List Env} {L : Addr} {m : Str → Option Value} {env : Env} {news : List (Addr × Obj)}
  {R : Result → Shared → Prop} {name qual : Str} {params : Arguments} {body : List Stmt} {scope : Scope} {cl : List (Str × Addr)} {dV kV doc pm cdv ct : Value} {an : Option Addr} {fo : Obj} {f : Addr} {args : Args} {binds : List (Str × Value)}

theorem callX_cc (B : Below A₀ base outer h₀) (F : Fr h₀ L s.heap m) (N : News h₀ L s.heap news) (hlim : h₀.NoLimit) (hA : A.frames = some (env :: outer)) (hf : env.frame = some L) (hke : env.scope.kind = .function)
    (ho : s.heap.get? f = some fo) (hd : fo.data = .func (fnX name qual params body scope cl dV kV doc pm an cdv ct)) (hcd : s.heap.CodeRec cdv qual) (hroom : A.depth < recursionLimit)
    (hbind : BindsTo s (fnX name qual params body scope cl dV kV doc pm an cdv ct) args binds) (hloc : ∀ y ∈ binds, scope.names.lookup y.1 = some .local)
    (h : ∀ g L' h₁ cells, Fr h₀ L g m → Fr g L' h₁ (fun y => binds.reverse.lookup y) → News g L' h₁ (cells ++ news) →
      CellsAre (fun _ => none) (cellsFrom (L' + 1) scope.names []) cells → Below A base (env :: outer) g → h₀.StaysIn g → (∀ p ∈ news, p.1 < L') →
      wpAny (model prog w) (A.deeper (envX qual scope L' f cdv (cellsFrom (L' + 1) scope.names cl))) (execs body (envX qual scope L' f cdv (cellsFrom (L' + 1) scope.names cl)))
        (fun fl s' => LeaveK h₀ L m g R (match fl with | .ret v => v | _ => .none) s')
        (fun e s' => wpAny (model prog w) (A.deeper (envX qual scope L' f cdv (cellsFrom (L' + 1) scope.names cl))) (leaving (envX qual scope L' f cdv (cellsFrom (L' + 1) scope.names cl)) e) (fun _ s'' => R (.error e) s'') (fun e' s'' => R (.error e') s'') s')
        { s with heap := h₁, toks := s.toks + binds.length })
    (hco : scope.isCoroutine = false) (hgen : scope.isGenerator = false) (hk : scope.kind = .function) : codeAny (model prog w) A (.call (.ref f) args) R s := by
  obtain ⟨FG, BG, st, lv⟩ := groundX (R := R) B F N hA hf hke
  refine codeAny_call_function hroom ho hd hco hgen rfl hcd (hbind _ _ _ _ ?_)
  refine newFunctionEnv_cc hloc (fun h₁ hns hsb => ?_) hk
  have hk₁ : ∀ b o, s.heap.get? b = some o → h₁.get? b = some o := fun b o e =>
    hsb.extBut b o (Nat.ne_of_lt (Heap.lt_size e)) (pushCells_keeps _ _ b o (Heap.get?_push_of_some _ e))
  refine ⟨(hlim.keeps F.keep).keeps hk₁, codeAny_func ?_⟩
  have ok := cellsFrom_ok scope.names (s.heap.push { cls := .type "frame", data := .dict #[] }) (s.heap.objs.size + 1) [] ⟨fun _ _ hm => (nomatch hm), List.Pairwise.nil⟩ (by rw [Heap.size_push]; exact Nat.le_refl _)
  rw [Heap.size_push] at ok
  obtain ⟨cells, NC, Y⟩ := Cl.news (h₀ := s.heap) (L := s.heap.objs.size) (h := h₁) (cm := fun _ => none) (cs := cellsFrom (s.heap.objs.size + 1) scope.names []) (Nat.le_refl _) fun n c hm => ⟨by
      obtain ⟨⟨o, ho', hd'⟩, hlo⟩ := ok.empty n c hm
      exact ⟨o, hsb.extBut c o (Nat.ne_of_gt hlo) ho', hd'⟩, (ok.empty n c hm).2⟩
  refine wpAny_mono (h _ s.heap.objs.size h₁ cells FG ⟨hns, fun b o e => hk₁ b o (of_hideAll _ e), Nat.le_of_eq (hideAll_size _ _)⟩ (fun p hp => ?_) Y BG st (fun p hp => Heap.lt_size (N p hp).1)) (fun fl s' hl => lv _ _ hl) fun _ _ y => y
  rcases List.mem_append.mp hp with hp | hp
  · refine ⟨(NC p hp).1, (NC p hp).2.1, ?_⟩
    cases q : (hideAll s.heap (news.map (·.1))).get? p.1 with
    | none => rfl
    | some o => have := of_hideAll _ q; rw [(NC p hp).2.2] at this; cases this
  · exact ⟨hk₁ _ _ (N p hp).1, Nat.ne_of_lt (Heap.lt_size (N p hp).1), hideAll_none _ (List.mem_map_of_mem hp)⟩

end

section
variable {prog : Program} {w : World} {A A₀ : Around} {s : Shared} {K : Frag} {L : Addr} {h₀ base : Heap} {m mg mb : Str → Option Value} {news : List (Addr × Obj)} {p : Program} {loose : List Str} {mean : ExcName → Option Value}
/-- a def of the ledger with a closure and cells of its own -/
theorem code_cc {env : Env} {outer : List Env} {R : Result → Shared → Prop} {name qual : Str} {params : Arguments} {body : List Stmt} {scope : Scope} {cl : List (Str × Addr)} {doc pm ctv : Value} {c' : Addr} {f : Addr} {args : Args} {binds : List (Str × Value)}
    (cs cs0 : Nat → List (Str × Addr)) (hcs : ∀ n, cellsFrom (n + 1) scope.names cl = cs n) (hcs0 : ∀ n, cellsFrom (n + 1) scope.names [] = cs0 n)
    (B : Below A₀ base outer h₀) (F : Fr h₀ L s.heap m) (X₀ : K.In h₀) (N : News h₀ L s.heap news) (T : Top p loose mean mg mb h₀) (hA : A.frames = some (env :: outer)) (hf : env.frame = some L) (hke : env.scope.kind = .function)
    (ho : (f, fnMade name qual params body scope cl doc pm c' ctv) ∈ news) (hcd : s.heap.CodeRec (.ref c') qual) (hroom : A.depth < recursionLimit)
    (hbind : BindsTo s (fnX name qual params body scope cl .none .none doc pm none (.ref c') ctv) args binds) (hloc : ∀ y ∈ binds, scope.names.lookup y.1 = some .local)
    (h : ∀ g L' h₁ cells, Fr h₀ L g m → Fr g L' h₁ (fun y => binds.reverse.lookup y) → News g L' h₁ (cells ++ news) → CellsAre (fun _ => none) (cs0 L') cells → Below A base (env :: outer) g → K.In g → Top p loose mean mg mb g → (∀ p ∈ news, p.1 < L') →
      wpAny (model prog w) (A.deeper (envX qual scope L' f (.ref c') (cs L'))) (execs body (envX qual scope L' f (.ref c') (cs L')))
        (fun fl s' => LeaveK h₀ L m g R (match fl with | .ret v => v | _ => .none) s')
        (fun e s' => wpAny (model prog w) (A.deeper (envX qual scope L' f (.ref c') (cs L'))) (leaving (envX qual scope L' f (.ref c') (cs L')) e) (fun _ s'' => R (.error e) s'') (fun e' s'' => R (.error e') s'') s')
        { s with heap := h₁, toks := s.toks + binds.length })
    (hco : scope.isCoroutine = false) (hgen : scope.isGenerator = false) (hk : scope.kind = .function) : codeAny (model prog w) A (.call (.ref f) args) R s :=
  callX_cc (cl := cl) B F N T.nolimit hA hf hke (N _ ho).1 rfl hcd hroom hbind hloc (fun g L' h₁ cells FG F' N' Y B' st l => by
    rw [hcs L']
    rw [hcs0 L'] at Y
    exact h g L' h₁ cells FG F' N' Y B' (X₀.keeps st) (T.keeps st) l) hco hgen hk
end
open LCg LCt
section
variable {prog : Program} {w : World} {A : Around} {s : Shared} {h₀ : Heap} {L : Addr} {m : Str → Option Value} {env : Env} {elt ct : Expr} {x : Str} {scope : Scope} {cl : List (Str × Addr)} {S : List (Addr × Obj) → Prop} {P : Nat → Value → Prop} {Fin : List Value → List (Addr × Obj) → Prop} {news : List (Addr × Obj)} {n : Nat}
/-- a comprehension without a test, by what holds between its turns -/
theorem compU_inv (J : Nat → List Value → List (Addr × Obj) → Prop) (hj : J 0 [] news)
    (turn : ∀ i ys nw v I oI C oC D m₂ h tk (E' : Value → Shared → Prop), i < n → J i ys nw → P i v → NsObj oC m₂ → m₂ x = some v → Fr h₀ L h m → News h₀ L h ((I, oI) :: (C, oC) :: (D, lst ys) :: nw) → Off3 I C D nw → ((@Ne Nat I C) ∧ (@Ne Nat I D) ∧ (@Ne Nat C D)) →
      wpAny (model prog w) A (eval elt (compEnvC scope cl C env)) (CompEnd h₀ L m { s with heap := h, toks := tk } I oI C oC D (lst ys) S (fun y news' => J (i + 1) (ys ++ [y]) news')) E' { s with heap := h, toks := tk })
    (fin : ∀ ys nw, J n ys nw → Fin ys nw) : CompRest prog w A h₀ L m env elt x scope cl s S P Fin n 0 [] news := by
  have key : ∀ (k i : Nat) (ys : List Value) (nw : List (Addr × Obj)), i + k = n → J i ys nw → CompRest prog w A h₀ L m env elt x scope cl s S P Fin k i ys nw := by
    intro k
    induction k with
    | zero => intro i ys nw hi hJ; exact CompRest.zero (fin ys nw (by rw [← show i = n by omega]; exact hJ))
    | succ k ih =>
      intro i ys nw hi hJ
      refine CompRest.succ ?_
      intro v I oI C oC D m₂ h tk E' hv hC hx F N off ne
      refine wpAny_mono (turn i ys nw v I oI C oC D m₂ h tk E' (by omega) hJ hv hC hx F N off ne) (fun y s'' hy => ?_) fun _ _ e => e
      obtain ⟨h', tk', nw', e, F', N', off', hS, hJ'⟩ := hy
      exact ⟨h', tk', nw', e, F', N', off', hS, ih (i + 1) _ _ (by omega) hJ'⟩
  exact key n 0 [] news (by omega) hj
end
open LCg LCt
section
variable {prog : Program} {w : World} {A : Around} {s : Shared} {h₀ : Heap} {L : Addr} {m : Str → Option Value} {env : Env} {elt ct : Expr} {x : Str} {scope : Scope} {cl : List (Str × Addr)} {S : List (Addr × Obj) → Prop} {P : Nat → Value → Prop} {Fin : List Value → List (Addr × Obj) → Prop} {news : List (Addr × Obj)} {n : Nat}
theorem compU_grow (R : Nat → List Value → List (Addr × Obj) → Prop) (hj : R 0 [] [])
    (turn : ∀ i ys tl v I oI C oC D m₂ h tk (E' : Value → Shared → Prop), i < n → R i ys tl → P i v → NsObj oC m₂ → m₂ x = some v → Fr h₀ L h m → News h₀ L h ((I, oI) :: (C, oC) :: (D, lst ys) :: (news ++ tl)) → Off3 I C D (news ++ tl) → ((@Ne Nat I C) ∧ (@Ne Nat I D) ∧ (@Ne Nat C D)) →
      wpAny (model prog w) A (eval elt (compEnvC scope cl C env)) (CompEnd h₀ L m { s with heap := h, toks := tk } I oI C oC D (lst ys) S (fun y news' => ∃ tl', news' = news ++ tl' ∧ R (i + 1) (ys ++ [y]) tl')) E' { s with heap := h, toks := tk })
    (fin : ∀ ys tl, R n ys tl → Fin ys (news ++ tl)) : CompRest prog w A h₀ L m env elt x scope cl s S P Fin n 0 [] news := by
  refine compU_inv (fun i ys nw => ∃ tl, nw = news ++ tl ∧ R i ys tl) ⟨[], by simp, hj⟩ ?_ ?_
  · rintro i ys nw v I oI C oC D m₂ h tk E' hi ⟨tl, rfl, hR⟩ hv hC hx F N off ne
    exact turn i ys tl v I oI C oC D m₂ h tk E' hi hR hv hC hx F N off ne
  · rintro ys nw ⟨tl, rfl, hR⟩
    exact fin ys tl hR
end
open LCg LCt
section
variable {h₀ : Heap} {L : Addr} {m : Str → Option Value} {s₁ : Shared} {I C D : Addr} {oI oC oD : Obj} {S : List (Addr × Obj) → Prop} {news tl : List (Addr × Obj)} {h' : Heap} {tk : Nat}
theorem comp_same {R : Value → List (Addr × Obj) → Prop} {y : Value} (F : Fr h₀ L h' m) (N : News h₀ L h' ((I, oI) :: (C, oC) :: (D, oD) :: (news ++ tl))) (off : Off3 I C D (news ++ tl)) (hS : S (news ++ tl)) (hr : R y tl) :
    CompEnd h₀ L m s₁ I oI C oC D oD S (fun y news' => ∃ tl', news' = news ++ tl' ∧ R y tl') y { s₁ with heap := h', toks := tk } :=
  ⟨h', tk, news ++ tl, rfl, F, N, off, hS, tl, rfl, hr⟩
end
end
noncomputable section
open PySem PySem.Calls PyProof.Rows PySem.W

/-- the text of a list of codes -/
def ofL (l : List Nat) : Str := ⟨l.toArray⟩
theorem ofL_inj {a b : List Nat} (h : ofL a = ofL b) : a = b := by
  have := congrArg (fun (s : Str) => s.cps.toList) h
  simpa [ofL] using this
theorem ofL_toList (x : Str) : ofL x.cps.toList = x := by
  cases x; simp [ofL]
theorem ofL_cps (l : List Nat) : (ofL l).cps.toList = l := by simp [ofL]
theorem ofL_app (a b : List Nat) : ofL a ++ ofL b = ofL (a ++ b) := by
  refine PySem.Str.ext' (Array.toList_inj.mp ?_)
  rw [PySem.Str.cps_append, Array.toList_append]
  simp [ofL]
theorem ofL_snoc (a : List Nat) (c : Nat) : ofL a ++ (⟨#[c]⟩ : Str) = ofL (a ++ [c]) := ofL_app a [c]
theorem ofL_length (l : List Nat) : (ofL l).length = l.length := by simp [ofL, PySem.Str.length]
theorem ofL_nil : ofL [] = Str.ofString "" := by decide

theorem kst_self {m : Str → Option Value} {ps : List (Str × Value)} (h : ∀ p ∈ ps, m p.1 = some p.2) : m = kstB m ps := by
  funext z
  exact (kstB_eq h fun _ => rfl).symm
theorem fr_self {h₀ h : Heap} {L : Addr} {m : Str → Option Value} (ps : List (Str × Value)) (hp : ∀ p ∈ ps, m p.1 = some p.2) (F : Fr h₀ L h m) : Fr h₀ L h (kstB m ps) := by
  rw [← kst_self hp]; exact F

section
variable {prog : Program} {w : World} {A : Around} {E : Value → Shared → Prop} {s : Shared} {env : Env} {h₀ : Heap} {x : Str} {body : List Stmt} {Q : Flow → Shared → Prop}
theorem pyIter_text {x : Str} {t : Tok} {Q : Value → Shared → Prop}
    (hQ : ∀ (o : Obj) (St : Nat → Heap → Prop), (∀ A' : Around, A'.handled = none → Walks prog w A' s.heap.objs.size [s.heap.objs.size] [s.heap.objs.size] x.cps.size (SignAt x) St) → (∀ i h, St i h → ∃ o, h.get? s.heap.objs.size = some o) → St 0 (s.heap.push o) →
      Q (.ref s.heap.objs.size) { s with heap := s.heap.push o }) : wpAny (model prog w) A (pyIter (.str x t)) Q E s := by
  cases ha : x.cps.all (· < 128)
  · exact wpAny_pyIter_wide ha (hQ _ _ (fun A' hA => Walks.strWide hA _ x t) (fun _ _ ⟨o, ho, _⟩ => ⟨o, ho⟩) ⟨_, Heap.get?_push_size _ rfl, rfl, rfl⟩)
  · exact wpAny_pyIter_ascii ha (hQ _ _ (fun A' hA => Walks.strAscii hA _ x t) (fun _ _ ⟨o, ho, _⟩ => ⟨o, ho⟩) ⟨_, Heap.get?_push_size _ rfl, rfl, rfl⟩)
/-- a loop over the signs of a text -/
theorem loop_text {l : List Nat} {tx : Tok} {m₀ : Str → Option Value} {news : List (Addr × Obj)} (J : Nat → (Str → Option Value) → List (Addr × Obj) → Prop)
    (hh : A.handled = none)
    (F : Fr h₀ env.locals s.heap m₀) (N : News h₀ env.locals s.heap news) (hj : J 0 m₀ news)
    (turn : ∀ i c t m₁ nx h tk I oI, l[i]? = some c → J i m₁ nx → (∀ p ∈ nx, p.1 ≠ I) → Fr h₀ env.locals h (fun y => if y = x then some (.str ⟨#[c]⟩ t) else m₁ y) → News h₀ env.locals h ((I, oI) :: nx) →
      wpAny (model prog w) A (execs body env) (TurnEnd h₀ env.locals I oI (J (i + 1)) { s with heap := h, toks := tk } Q) E { s with heap := h, toks := tk })
    (done : ∀ m₁ nx h tk, J l.length m₁ nx → Fr h₀ env.locals h m₁ → News h₀ env.locals h nx → Q .next { s with heap := h, toks := tk }) :
    wpAny (model prog w) A (pyIter (.str (ofL l) tx)) (fun it s₂ => LoopAtV prog w A h₀ env x body Q E it s₂) E s := by
  refine pyIter_text fun o St hW hlv hst => ?_
  have W := hW A hh
  have hlen : (ofL l).cps.size = l.length := by simp [ofL]
  rw [hlen] at W
  refine loop_gen [] (fun i m nx => J i m nx) (n := l.length) W ?_ ?_ ?_ ?_ ?_ ?_ hst (F.push _) (fun p hp => ⟨Heap.get?_push_of_some _ (N p hp).1, (N p hp).2⟩) hj ?_ ?_
  · exact hlv
  · intro hm
    exact absurd F.ns.lt ((List.mem_singleton.mp hm) ▸ Nat.lt_irrefl _)
  · exact next_is_new F
  · intro p hp e
    exact absurd (Heap.lt_size (N p hp).1) (e ▸ Nat.lt_irrefl _)
  · intro b hb
    exact .inl (List.mem_singleton.mp hb)
  · intro i m nx _ p hp
    exact nomatch hp
  · rintro i v m₁ nx h tk oI hin ⟨c, u, hc, rfl⟩ hJ hn F₁ N₁
    exact turn i c u m₁ nx h tk _ oI (by simpa [ofL] using hc) hJ hn F₁ N₁
  · exact done
end

end
noncomputable section
open PySem PySem.Calls PyProof.Rows PySem.W
/-- one sign of parse_http_list: the parts so far, the part at hand, behind a backslash, within quotes -/
def pstep (st : List (List Nat) × List Nat × Bool × Bool) (c : Nat) : List (List Nat) × List Nat × Bool × Bool :=
  match st with
  | (ws, part, true, q) => (ws, part ++ [c], false, q)
  | (ws, part, false, true) => if c = 92 then (ws, part, true, true) else if c = 34 then (ws, part ++ [c], false, false) else (ws, part ++ [c], false, true)
  | (ws, part, false, false) => if c = 44 then (ws ++ [part], [], false, false) else if c = 34 then (ws, part ++ [c], false, true) else (ws, part ++ [c], false, false)
def pfold (l : List Nat) : List (List Nat) × List Nat × Bool × Bool := l.foldl pstep ([], [], false, false)
theorem pfold_snoc (l : List Nat) (c : Nat) : pfold (l ++ [c]) = pstep (pfold l) c := by simp [pfold]
/-- the parts, not stripped yet -/
def pparts (l : List Nat) : List (List Nat) := if (pfold l).2.1 = [] then (pfold l).1 else (pfold l).1 ++ [(pfold l).2.1]
theorem pstep_len {st : List (List Nat) × List Nat × Bool × Bool} {c k : Nat} (h : st.1.length + st.2.1.length ≤ k ∧ ∀ w ∈ st.1, w.length ≤ k) : (pstep st c).1.length + (pstep st c).2.1.length ≤ k + 1 ∧ ∀ w ∈ (pstep st c).1, w.length ≤ k + 1 := by
  obtain ⟨ws, part, e, q⟩ := st
  obtain ⟨h1, h2⟩ := h
  simp only at h1 h2
  cases e <;> cases q <;> simp only [pstep]
  · split
    · simp only [List.length_append, List.length_cons, List.length_nil, List.mem_append, List.mem_singleton]
      refine ⟨by omega, ?_⟩
      rintro w (hw | rfl)
      · have := h2 w hw; omega
      · omega
    · split
      all_goals (simp only [List.length_append, List.length_cons, List.length_nil]; exact ⟨by omega, fun w hw => by have := h2 w hw; omega⟩)
  · split
    · simp only; exact ⟨by omega, fun w hw => by have := h2 w hw; omega⟩
    · split
      all_goals (simp only [List.length_append, List.length_cons, List.length_nil]; exact ⟨by omega, fun w hw => by have := h2 w hw; omega⟩)
  · simp only [List.length_append, List.length_cons, List.length_nil]; exact ⟨by omega, fun w hw => by have := h2 w hw; omega⟩
  · simp only [List.length_append, List.length_cons, List.length_nil]; exact ⟨by omega, fun w hw => by have := h2 w hw; omega⟩
theorem pfold_len (l : List Nat) : (pfold l).1.length + (pfold l).2.1.length ≤ l.length ∧ ∀ w ∈ (pfold l).1, w.length ≤ l.length := by
  have key : ∀ (r l : List Nat), l = r.reverse → (pfold l).1.length + (pfold l).2.1.length ≤ l.length ∧ ∀ w ∈ (pfold l).1, w.length ≤ l.length := by
    intro r
    induction r with
    | nil => rintro l rfl; simp [pfold]
    | cons c r ih =>
      rintro l rfl
      have := pstep_len (c := c) (ih _ rfl)
      rw [List.reverse_cons, pfold_snoc]
      simpa using this
  exact key l.reverse l (by simp)
theorem sg_of {c d : Nat} {y : Str} (hd : y = ⟨#[d]⟩) : ((⟨#[c]⟩ : Str) == y) = decide (c = d) := by
  subst hd
  by_cases h : c = d
  · subst h; simp
  · simp only [h, decide_false]
    refine Bool.eq_false_iff.mpr fun e => h ?_
    have := eq_of_beq e
    injection this with h1
    simpa using h1
theorem sg44 (c : Nat) : ((⟨#[c]⟩ : Str) == Str.ofString ",") = decide (c = 44) := sg_of (by decide)
theorem sg34 (c : Nat) : ((⟨#[c]⟩ : Str) == Str.ofString "\"") = decide (c = 34) := sg_of (by decide)
theorem sg92 (c : Nat) : ((⟨#[c]⟩ : Str) == Str.ofString "\\") = decide (c = 92) := sg_of (by decide)
theorem pfold_take {l : List Nat} {i c : Nat} (h : l[i]? = some c) : pfold (l.take (i + 1)) = pstep (pfold (l.take i)) c := by
  rw [← pfold_snoc]; congr 1; simp [List.take_add_one, h]
theorem strs_len {us : List Value} {ws : List Str} (h : StrsAre us ws) : us.length = ws.length := by
  induction h with
  | nil => rfl
  | cons _ _ _ ih => simp [ih]
theorem strs_add {us : List Value} {ws : List (List Nat)} {p : List Nat} {t : Tok} (h : StrsAre us (ws.map ofL)) : StrsAre (us ++ [.str (ofL p) t]) ((ws ++ [p]).map ofL) := by
  rw [List.map_append]; exact strsAre_append h (.cons _ _ .nil)
theorem pparts_yes {l : List Nat} {ws : List (List Nat)} {part : List Nat} {esc quo : Bool} (h : pfold l = (ws, part, esc, quo)) (hp : ((ofL part).length : Int) ≠ 0) : pparts l = ws ++ [part] := by
  simp only [pparts, h]
  rw [if_neg]
  rintro rfl
  exact hp rfl
theorem pparts_no {l : List Nat} {ws : List (List Nat)} {part : List Nat} {esc quo : Bool} (h : pfold l = (ws, part, esc, quo)) (hp : ((ofL part).length : Int) = 0) : pparts l = ws := by
  simp only [pparts, h]
  rw [ofL_length] at hp
  rw [if_pos (List.eq_nil_of_length_eq_zero (by omega))]
theorem pparts_len {l w : List Nat} (h : w ∈ pparts l) : w.length ≤ l.length := by
  have h2 := pfold_len l
  unfold pparts at h
  split at h
  · exact h2.2 w h
  · rcases List.mem_append.mp h with h | h
    · exact h2.2 w h
    · rw [List.mem_singleton.mp h]; omega
theorem pparts_count (l : List Nat) : (pparts l).length ≤ l.length := by
  have h2 := pfold_len l
  unfold pparts
  split
  · omega
  · rename_i h
    have : (pfold l).2.1.length ≠ 0 := fun e => h (List.eq_nil_of_length_eq_zero e)
    rw [List.length_append, List.length_singleton]; omega
/-- a list's texts, at one place -/
theorem strs_at {us : List Value} {ws : List Str} (h : StrsAre us ws) {i : Nat} {v : Value} (hv : us[i]? = some v) : ∃ y t, v = .str y t ∧ ws[i]? = some y := StrsAre.item h i v hv
theorem strs_next {α : Type} {f : α → Str} {us : List Value} {ws : List α} {i : Nat} {x : α} {t : Tok} {y : Str} (h : StrsAre us ((ws.take i).map f)) (hx : ws[i]? = some x) (hy : y = f x) : StrsAre (us ++ [.str y t]) ((ws.take (i + 1)).map f) := by
  have e : ws.take (i + 1) = ws.take i ++ [x] := by simp [List.take_add_one, hx]
  rw [e, List.map_append, hy]; exact strsAre_append h (.cons _ _ .nil)
theorem off1_ne {D : Nat} : ∀ {r : List (Addr × Obj)}, LCg.Off1 D r → ∀ q ∈ r, @Ne Nat q.1 D
  | [], _ => fun _ h => nomatch h
  | _ :: _, h => List.forall_mem_cons.mpr ⟨h.1, off1_ne h.2⟩
theorem news_sub1 {h₀ h : Heap} {L : Addr} {a b : Addr × Obj} {l : List (Addr × Obj)} (N : News h₀ L h (a :: b :: l)) : News h₀ L h (a :: l) := fun q hq => N q (by
  rcases List.mem_cons.mp hq with e | e
  · rw [e]; exact List.mem_cons_self ..
  · exact List.mem_cons_of_mem _ (List.mem_cons_of_mem _ e))
end
noncomputable section
open PySem PySem.Calls PyProof.Rows PySem.W
/-- the parts between the signs c -/
def splitL (c : Nat) : List Nat → List (List Nat)
  | [] => [[]]
  | a :: r => if a = c then [] :: splitL c r else match splitL c r with
    | [] => [[a]]
    | p :: ps => (a :: p) :: ps
def joinL (c : Nat) : List (List Nat) → List Nat
  | [] => []
  | [p] => p
  | p :: q :: r => p ++ c :: joinL c (q :: r)
theorem splitL_ne (c : Nat) (l : List Nat) : splitL c l ≠ [] := by
  cases l with
  | nil => simp [splitL]
  | cons a r =>
    simp only [splitL]
    split
    · simp
    · split <;> simp
theorem splitL_free {c : Nat} {p : List Nat} (h : c ∉ p) : splitL c p = [p] := by
  induction p with
  | nil => rfl
  | cons a r ih =>
    have h1 : a ≠ c := fun e => h (e ▸ List.mem_cons_self ..)
    have h2 : c ∉ r := fun e => h (List.mem_cons_of_mem _ e)
    simp only [splitL, if_neg h1, ih h2]
theorem splitL_app {c : Nat} {p r : List Nat} (h : c ∉ p) : splitL c (p ++ c :: r) = p :: splitL c r := by
  induction p with
  | nil => simp [splitL]
  | cons a p ih =>
    have h1 : a ≠ c := fun e => h (e ▸ List.mem_cons_self ..)
    have h2 : c ∉ p := fun e => h (List.mem_cons_of_mem _ e)
    simp only [List.cons_append, splitL, if_neg h1, ih h2]
theorem splitL_join {c : Nat} : ∀ {ps : List (List Nat)}, ps ≠ [] → (∀ p ∈ ps, c ∉ p) → splitL c (joinL c ps) = ps
  | [], h, _ => absurd rfl h
  | [p], _, h => splitL_free (h p (List.mem_cons_self ..))
  | p :: q :: r, _, h => by
    rw [joinL, splitL_app (h p (List.mem_cons_self ..)), splitL_join (by simp) fun x hx => h x (List.mem_cons_of_mem _ hx)]
theorem join_map (c : Nat) : ∀ (ps : List (List Nat)), Str.join ⟨#[c]⟩ (ps.map ofL) = ofL (joinL c ps)
  | [] => rfl
  | [p] => rfl
  | p :: q :: r => by
    have ih := join_map c (q :: r)
    simp only [List.map_cons] at ih ⊢
    rw [joinL, Str.join, ih, ofL_snoc, ofL_app]
    · simp
    · simp
theorem map_cps (ps : List Str) : (ps.map fun p => p.cps.toList).map ofL = ps := by
  rw [List.map_map]
  conv => rhs; rw [← List.map_id ps]
  exact List.map_congr_left fun p _ => ofL_toList p
/-- what str.split does at one sign -/
theorem split_ofL (c : Nat) (l : List Nat) : Txt.split (ofL l) ⟨#[c]⟩ = (splitL c l).map ofL := by
  have h1 := StrLaws.join_split (ofL l) ⟨#[c]⟩
  have h2 := StrLaws.split_free (ofL l) c
  have h3 : Txt.split (ofL l) ⟨#[c]⟩ ≠ [] := by
    unfold Txt.split
    split
    · simp
    · split
      · simp
      · rw [StrLaws.partsBetween_eq]
        obtain ⟨p, r, e⟩ := StrLaws.partsFrom_ne (ofL l) (⟨#[c]⟩ : Str).length 0 (Builtin.Str.occurrences (ofL l) ⟨#[c]⟩ 0 (ofL l).length ((ofL l).length + 1))
        rw [e]; simp
  generalize Txt.split (ofL l) ⟨#[c]⟩ = ps at *
  rw [← map_cps ps] at h1 ⊢
  rw [join_map] at h1
  have h5 := ofL_inj h1
  rw [← h5, splitL_join]
  · intro e
    exact h3 (List.map_eq_nil_iff.mp e)
  · intro p hp
    obtain ⟨q, hq, rfl⟩ := List.mem_map.mp hp
    exact h2 q hq
end
noncomputable section
open PySem PySem.Calls PyProof.Rows PySem.W
section
variable {prog : Program} {w : World} {A : Around} {E : Value → Shared → Prop} {s : Shared} {h₀ : Heap} {L : Addr} {m : Str → Option Value} {news : List (Addr × Obj)} {l : List Nat} {y : Str} {t u : Tok} {Q : Value → Shared → Prop}
end
section
variable {prog : Program} {w : World} {A : Around} {E : Value → Shared → Prop} {s : Shared} {env : Env} {h₀ : Heap} {x : Str} {body : List Stmt} {Q : Flow → Shared → Prop}
/-- a loop over a range -/
theorem loop_range {r : Addr} {a b c : Int} {t u v : Tok} {n : Nat} {m₀ : Str → Option Value} {news : List (Addr × Obj)} (J : Nat → (Str → Option Value) → List (Addr × Obj) → Prop)
    (hh : A.handled = none) (hr : IsRange s.heap r a b c t u v) (hsm : Builtin.Range.small a b c = true) (hn : Builtin.Range.rangeSize a b c = ((n : Nat) : Int))
    (F : Fr h₀ env.locals s.heap m₀) (N : News h₀ env.locals s.heap news) (hj : J 0 m₀ news)
    (turn : ∀ i t m₁ nx h tk I oI, i < n → J i m₁ nx → (∀ p ∈ nx, p.1 ≠ I) → Fr h₀ env.locals h (fun y => if y = x then some (.int (a + (i : Int) * c) t) else m₁ y) → News h₀ env.locals h ((I, oI) :: nx) →
      wpAny (model prog w) A (execs body env) (TurnEnd h₀ env.locals I oI (J (i + 1)) { s with heap := h, toks := tk } Q) E { s with heap := h, toks := tk })
    (done : ∀ m₁ nx h tk, J n m₁ nx → Fr h₀ env.locals h m₁ → News h₀ env.locals h nx → Q .next { s with heap := h, toks := tk }) :
    wpAny (model prog w) A (pyIter (.ref r)) (fun it s₂ => LoopAtV prog w A h₀ env x body Q E it s₂) E s := by
  refine wpAny_pyIter_range hr hsm ?_
  have W := Walks.range (prog := prog) (w := w) hh s.heap.objs.size a c n
  refine loop_gen [] (fun i m nx => J i m nx) (n := n) W ?_ ?_ ?_ ?_ ?_ ?_ (by show IsRangeIter _ _ _ _ _; rw [hn]; simpa using Heap.get?_push_size _ rfl) (F.push _) (fun p hp => ⟨Heap.get?_push_of_some _ (N p hp).1, (N p hp).2⟩) hj ?_ ?_
  · intro i h st; exact ⟨_, st⟩
  · intro hm
    exact absurd F.ns.lt ((List.mem_singleton.mp hm) ▸ Nat.lt_irrefl _)
  · exact next_is_new F
  · intro p hp e
    exact absurd (Heap.lt_size (N p hp).1) (e ▸ Nat.lt_irrefl _)
  · intro b hb
    exact .inl (List.mem_singleton.mp hb)
  · intro i m nx _ p hp
    exact nomatch hp
  · rintro i v m₁ nx h tk oI hin ⟨u, rfl⟩ hJ hn F₁ N₁
    exact turn i u m₁ nx h tk _ oI hin hJ hn F₁ N₁
  · exact done
end
section
variable {prog : Program} {w : World} {A : Around} {E : Value → Shared → Prop} {s : Shared} {h₀ : Heap} {L : Addr} {m : Str → Option Value} {news : List (Addr × Obj)} {Q : Value → Shared → Prop}
end
end
noncomputable section
open PySem PySem.Calls PyProof.Rows PySem.W
theorem setGen_toks (s : Shared) (g : Nat) (x : GenState) : (s.setGen g x).toks = s.toks := rfl
/-- a run never takes back the count of what was made -/
theorem runs_toks {M : Model} {Γ : Ctx} {p : Pos} {t : Sem Fin} {fs : List Frame} {s s' : Shared} {e : End} (h : Runs M Γ p t fs s e s') : s.toks ≤ s'.toks := by
  induction h with
  | done | raise | yield => exact Nat.le_refl _
  | again _ _ ih | rule _ ih | «at» _ ih | load _ _ ih | update _ _ ih | loadIfAlive _ ih | point _ ih | alloc _ ih | ask _ ih | choose _ _ ih | os _ ih | handled _ ih | genState _ _ ih | stack _ ih | thread _ ih | newGen _ ih => exact ih
  | fresh _ ih => exact Nat.le_trans (Nat.le_succ _) ih
  | call _ _ ih1 ih2 => exact Nat.le_trans ih1 ih2
  | callSusp _ ih => exact ih
  | resumeFresh _ _ _ _ ih1 ih2 => exact Nat.le_trans ih1 ih2
  | resumeSuspended _ _ _ _ ih1 ih2 => exact Nat.le_trans ih1 ih2
  | resumeJustStarted _ _ _ ih => exact ih
  | resumeThrowFresh _ _ ih => exact ih
  | resumeRunning _ _ ih => exact ih
  | resumeFinished _ _ ih => exact ih
  | segRet _ _ ih1 ih2 => exact Nat.le_trans ih1 ih2
  | segGen _ _ ih1 ih2 => exact Nat.le_trans ih1 ih2
  | segSuspOut _ _ ih => exact ih
  | segSuspGen _ _ _ _ ih1 ih2 => exact Nat.le_trans ih1 ih2
theorem wakes_toks {M : Model} {Γ : Ctx} {p : Pos} {g : Nat} {r : Resume} {s s' : Shared} {res : GenResult} (h : Wakes M Γ p g r s res s') : s.toks ≤ s'.toks := by
  unfold Wakes at h
  split at h
  · exact h.elim
  · split at h
    · obtain ⟨_, s₁, hr, _, _, rfl⟩ := h
      have q := runs_toks hr; rw [setGen_toks] at q ⊢; exact q
    · exact h.2 ▸ Nat.le_refl _
    · exact h.2 ▸ Nat.le_refl _
  · obtain ⟨_, s₁, hr, _, _, rfl⟩ := h
    have q := runs_toks hr; rw [setGen_toks] at q ⊢; exact q
  · exact h.2 ▸ Nat.le_refl _
  · exact h.2 ▸ Nat.le_refl _
theorem wp_toks {X : Type} {M : Model} {Γ : Ctx} (t : Sem X) {Q : X → Pos → Shared → Prop} {E : Value → Pos → Shared → Prop} (k : Nat) (p : Pos) (s : Shared) (hk : k ≤ s.toks)
    (h : Sem.wp M Γ t (fun a p' s' => k ≤ s'.toks → Q a p' s') (fun e p' s' => k ≤ s'.toks → E e p' s') p s) : Sem.wp M Γ t Q E p s := by
  induction t generalizing p s with
  | pure x => exact h hk
  | raise v => exact h hk
  | unsupported | finish | yield | fork | await | register => exact h
  | rule _ f ih | «at» _ f ih | alloc _ f ih | loadIfAlive _ f ih | point _ f ih | ask f ih | os _ _ f ih | handled _ f ih | newGen _ f ih | stack f ih | thread f ih => exact ih _ _ _ hk h
  | fresh f ih => exact ih _ _ _ (Nat.le_trans hk (Nat.le_succ _)) h
  | load a _ f ih | genState a f ih => exact let ⟨o, ho, h⟩ := h; ⟨o, ho, ih _ _ _ hk h⟩
  | update a _ g f ih | choose _ _ f ih => exact ⟨h.1, ih _ _ _ hk h.2⟩
  | call c hd g l f ih =>
    obtain ⟨r, s', hr, h⟩ := h
    exact ⟨r, s', hr, ih _ _ _ (Nat.le_trans hk (runs_toks hr)) h⟩
  | resume g r l f ih =>
    obtain ⟨r, s', hr, h⟩ := h
    exact ⟨r, s', hr, ih _ _ _ (Nat.le_trans hk (wakes_toks hr)) h⟩
theorem wpAny_toks {α : Type} {M : Model} {A : Around} {t : Sem α} {Q : α → Shared → Prop} {E : Value → Shared → Prop} {s : Shared}
    (h : wpAny M A t (fun a s' => s.toks ≤ s'.toks → Q a s') E s) : wpAny M A t Q E s :=
  fun Γ p hΓ => wp_toks t s.toks p s (Nat.le_refl _) (Sem.wp_mono M Γ t (post := fun a _ s' => s.toks ≤ s'.toks → Q a s') (post' := fun a _ s' => s.toks ≤ s'.toks → Q a s') (exc := fun e _ s' => E e s') (exc' := fun e _ s' => s.toks ≤ s'.toks → E e s') (fun _ _ _ h => h) (fun _ _ _ h _ => h) p s (h Γ p hΓ))
section
variable {prog : Program} {w : World} {A : Around} {E : Value → Shared → Prop} {s : Shared} {env : Env} {h₀ : Heap} {x : Str} {body : List Stmt} {Q : Flow → Shared → Prop}
end
end
noncomputable section
open PySem PySem.Calls PyProof.Rows PySem.W
section
variable {prog : Program} {w : World} {A : Around} {E : Value → Shared → Prop} {s : Shared} {l : List Nat} {t u : Tok} {Q : Value → Shared → Prop}
theorem sign_at {value slice : Expr} {i : Int} (h0 : 0 ≤ i) (h1 : i < l.length) (hl : l.length ≤ 100000) (h : Q (.str ⟨#[l.getD i.toNat 0]⟩ s.toks) { s with toks := s.toks + 1 })
    (hs : subscripted slice false (.str (ofL l) t) (.int i u) = operate [.str (ofL l) t, .int i u] (getItem (.str (ofL l) t) (.int i u)) := by with_unfolding_all rfl)
    (ht : ∀ r, letTemporaryGo value (.str (ofL l) t) r = pure () := by intro _; with_unfolding_all rfl) :
    wpAny (model prog w) A (subscriptTail value slice (.str (ofL l) t) (.int i u)) Q E s := by
  refine item_str (fitsSsize_of (N := 9223372036854775808) (by omega) (by omega) (Int.le_refl _)) (by rw [ofL_length]; omega) (by rw [ofL_length]; exact h1) (fun _ => ?_) hs ht
  have hlt : i.toNat < l.length := by omega
  rw [item_meets (n := l.getD i.toNat 0) h0 (by simp [ofL, List.getD, hlt])]
  exact h
end
theorem slice_ofL {l : List Nat} {a b : Nat} (hab : a ≤ b) (hb : b ≤ l.length) : Txt.slice (ofL l) (some (a : Int)) (some (b : Int)) = ofL ((l.drop a).take (b - a)) := by
  unfold Txt.slice
  have h := StrLaws.sliced_plain (ofL l) hab (by rw [ofL_length]; exact hb)
  rw [ofL_cps] at h
  have hlen := StrLaws.strSliceIndices_plain hab (show b ≤ (ofL l).length by rw [ofL_length]; exact hb)
  split
  · rename_i hc
    rw [hlen] at hc
    simp only [List.length_map, List.length_range, ofL_length, Bool.and_eq_true, beq_iff_eq] at hc
    have e1 : a = 0 := by omega
    have e2 : b = l.length := by omega
    subst e1 e2
    simp
  · rw [h]; rfl
theorem rev_ofL {l : List Nat} {u : Tok} : Txt.sliceBy (ofL l) none none (-1, u) = ofL l.reverse := by
  refine PySem.Str.ext' (Array.toList_inj.mp ?_)
  rw [step_rev_list, ofL_cps, ofL_length]
  apply List.ext_getElem
  · simp
  · intro i h1 h2
    simp only [List.length_map, List.length_range] at h1
    simp [ofL, List.getElem_reverse]
    have : l.length - 1 - i < l.length := by omega
    simp [this]
end
noncomputable section
open PySem PySem.Calls PyProof.Rows PySem.W
section
variable {prog : Program} {w : World} {A : Around} {E : Value → Shared → Prop} {s : Shared} {h₀ : Heap} {L l : Addr} {m : Str → Option Value} {news : List (Addr × Obj)} {value slice : PySem.Expr} {vs : List Value} {n : Nat} {t : Tok} {Q : Value → Shared → Prop}
end
theorem ints_at : ∀ {vs : List Value} {ns : List Int}, IntsAre vs ns → ∀ {i : Nat} {v : Value}, vs[i]? = some v → ∃ n t, v = .int n t ∧ ns[i]? = some n
  | _, _, .nil, i, v, h => by simp at h
  | _, _, .cons n t h, 0, v, hv => ⟨n, t, (by simpa using hv.symm), rfl⟩
  | _, _, .cons n t h, i + 1, v, hv => by simpa using ints_at h (by simpa using hv)
end
noncomputable section
open PySem PySem.Calls PyProof.Rows PySem.W
end
noncomputable section
open PySem PySem.Calls PyProof.Rows PySem.W PySem.Spec PyProof.V
section
variable {prog : Program} {w : World} {A : Around} {E : Value → Shared → Prop} {s : Shared} {a b : Addr} {xs ys : List Value} {ss ts : List Str} {Q : Value → Shared → Prop}
end

end
noncomputable section
open PySem PySem.Calls PyProof.Rows PySem.W
section
variable {prog : Program} {w : World} {A : Around} {E : Value → Shared → Prop} {s : Shared} {h₀ : Heap} {L : Addr} {m : Str → Option Value} {news : List (Addr × Obj)} {value slice : Expr} {l : List Nat} {t u : Tok} {Q : Value → Shared → Prop}
theorem rev_t (F : Fr h₀ L s.heap m) (N : News h₀ L s.heap news) (hl : l.length ≤ 100000) (h : ∀ h' t' c, Fr h₀ L h' m → News h₀ L h' news → Q (.str (ofL l.reverse) t') { s with heap := h', toks := c })
    (hs : subscripted slice false (.str (ofL l) t) (.ref s.heap.objs.size) = operate [.ref s.heap.objs.size, .str (ofL l) t] (getItem (.str (ofL l) t) (.ref s.heap.objs.size)))
    (ht : ∀ r, letTemporaryGo value (.str (ofL l) t) r = pure ()) :
    wpAny (model prog w) A (subscriptTail value slice (.str (ofL l) t) (.ref s.heap.objs.size)) Q E { s with heap := s.heap.push { cls := .type "slice", data := .fields #[.none, .none, .int (-1) u] } } :=
  slice_strK_nn F N rfl (fun h' t' c F' N' => by rw [rev_ofL]; exact h h' t' c F' N') hs ht (by rw [ofL_length, sizeLine_eq]; omega)
theorem cat_t {a b : Addr} {vs ws : List Value} {na nb : Nat} (F : Fr h₀ L s.heap m) (N : News h₀ L s.heap news) (ha : (a, listOf vs.toArray na) ∈ news) (hb : (b, listOf ws.toArray nb) ∈ news) (hz : vs.length + ws.length ≤ 100000)
    (h : ∀ D h', Fr h₀ L h' m → News h₀ L h' ((D, listOf (vs ++ ws).toArray 0) :: news) → (∀ p ∈ news, p.1 < D) → Q (.ref D) { s with heap := h' }) :
    wpAny (model prog w) A (binaryOp .Add (.ref a) (.ref b)) Q E s :=
  add_lists F N (News.isList N ha) (News.isList N hb) (fun h' F' N' => h _ h' F' N' fun p hp => Heap.lt_size (N p hp).1) (by rw [sizeLine_eq]; omega)
theorem join0 (cs : List Nat) : Str.join (Str.ofString "") (cs.map fun c => ofL [c]) = ofL cs := by
  rw [← ofL_nil]
  induction cs with
  | nil => rfl
  | cons a r ih =>
    cases r with
    | nil => rfl
    | cons b r =>
      simp only [List.map_cons] at ih ⊢
      rw [Str.join, ih, ofL_app, ofL_app]
      · rfl
      · simp
theorem join0_t {D : Addr} {us : List Value} {n : Nat} {cs : List Nat} {y : Str} (hN : News h₀ L s.heap news) (hD : (D, listOf us.toArray n) ∈ news) (hu : StrsAre us (cs.map fun c => ofL [c])) (hy : y = Str.ofString "") (hw : cs.length ≤ 1000)
    (h : ∀ t' k, Q (.str (ofL cs) t') { s with toks := k }) : wpAny (model prog w) A (call (.builtin "str.join") [.str y t, .ref D]) Q E s := by
  subst hy
  have e : (cs.map fun c => ofL [c]).map (·.length) = cs.map fun _ => 1 := by rw [List.map_map]; exact List.map_congr_left fun a _ => ofL_length [a]
  have e2 : ∀ cs : List Nat, (cs.map fun _ => 1).sum = cs.length := by
    intro cs; induction cs with
    | nil => rfl
    | cons a r ih => simp [ih]; omega
  refine join_listW (News.isList hN hD) (by simpa using hu) (by decide) (by rw [e, e2, List.length_map]; omega) fun t' k => ?_
  have := h t' k
  rw [← join0, ← eq_of_beq (join_closes (ys := cs.map fun c => ofL [c]) rfl)] at this
  exact this
end
end
noncomputable section
open PySem PySem.Calls PyProof.Rows PySem.W
section
variable {prog : Program} {w : World} {A : Around} {E : Value → Shared → Prop} {s : Shared} {env : Env} {h₀ : Heap} {target : Expr} {body : List Stmt} {Q : Flow → Shared → Prop}
/-- a loop with any target: the turn begins with the target's own store -/
theorem loop_any {I : Addr} {fp : List Addr} {n : Nat} {P : Nat → Value → Prop} {St : Nat → Heap → Prop} {m₀ : Str → Option Value} {news : List (Addr × Obj)} {R : Result → Shared → Prop}
    (fixed : List (Addr × Obj)) (J : Nat → (Str → Option Value) → List (Addr × Obj) → Prop)
    (W : Walks prog w A I fp [I] n P St) (hlive : ∀ i h, St i h → ∃ o, h.get? I = some o) (hLf : env.locals ∉ fp) (hI : h₀.get? I = none) (hnI : ∀ p ∈ news, p.1 ≠ I)
    (hfp : ∀ b ∈ fp, b = I ∨ (∃ o, (b, o) ∈ fixed) ∨ ∃ o, h₀.get? b = some o) (hfix : ∀ i m nx, J i m nx → ∀ p ∈ fixed, p ∈ nx)
    (hst : St 0 s.heap) (F : Fr h₀ env.locals s.heap m₀) (N : News h₀ env.locals s.heap news) (hj : J 0 m₀ news)
    (turn : ∀ i v m₁ nx h tk oI, i < n → s.toks ≤ tk → P i v → J i m₁ nx → (∀ p ∈ nx, p.1 ≠ I) → Fr h₀ env.locals h m₁ → News h₀ env.locals h ((I, oI) :: nx) →
      wpAny (model prog w) A (assign target env v) (fun _ s₂ => wpAny (model prog w) A (execs body env) (TurnEnd h₀ env.locals I oI (J (i + 1)) { s with heap := h, toks := tk } (fun f s' => R (.ok f) s')) (notedBy (model prog w) A env fun e s' => R (.error e) s') s₂) (notedBy (model prog w) A env fun e s' => R (.error e) s') { s with heap := h, toks := tk })
    (done : ∀ m₁ nx h tk, J n m₁ nx → Fr h₀ env.locals h m₁ → News h₀ env.locals h nx → R (.ok .next) { s with heap := h, toks := tk })
    (hgo : ∀ i v (s₁ : Shared) (Q : Unit → Shared → Prop) (E : Value → Shared → Prop), St (i + 1) s₁.heap → Q () s₁ → wpAny (model prog w) A (letOwnedTupleGo target (.ref I) v) Q E s₁) :
    codeAny (model prog w) A (.forLoop target (.ref I) body [] env) R s := by
  have hIL : env.locals ≠ I := fun e => hLf (e ▸ W.sub I (List.mem_singleton.mpr rfl))
  refine codeAny_forLoop_any (fun k s' => ∃ h' tk m' nx i, s' = { s with heap := h', toks := tk } ∧ s.toks ≤ tk ∧ St i h' ∧ Fr h₀ env.locals h' m' ∧ News h₀ env.locals h' nx ∧ (∀ p ∈ nx, p.1 ≠ I) ∧ J i m' nx ∧ i ≤ n ∧ k = n + 1 - i) ?_ (n + 1)
    ⟨s.heap, s.toks, m₀, news, 0, rfl, Nat.le_refl _, hst, F, N, hnI, hj, Nat.zero_le _, rfl⟩
  rintro k s' ⟨h', tk, m', nx, i, rfl, htk, hst', F', N', hne, hJ, hi, rfl⟩
  have keep : ∀ h₁ : Heap, (∀ b o, b ∉ [I] → h'.get? b = some o → h₁.get? b = some o) → Fr h₀ env.locals h₁ m' ∧ News h₀ env.locals h₁ nx := fun h₁ hk₁ =>
    ⟨⟨F'.ns.at' fun o e => hk₁ _ o (fun hm => hIL (List.mem_singleton.mp hm)) e, fun b o e => hk₁ b o (fun hm => by rw [List.mem_singleton.mp hm, hI] at e; cases e) (F'.keep b o e), F'.above⟩,
      fun p hp => ⟨hk₁ _ _ (fun hm => hne p hp (List.mem_singleton.mp hm)) (N' p hp).1, (N' p hp).2⟩⟩
  by_cases hlt : i < n
  · refine wpAny_toks (W.item i _ _ _ hlt hst' fun v h₁ tk₁ hP hst₁ hk₁ ht₁ => ?_)
    obtain ⟨F₁, N₁⟩ := keep h₁ hk₁
    obtain ⟨oI, hoI⟩ := hlive _ _ hst₁
    have N₂ : News h₀ env.locals h₁ ((I, oI) :: nx) := fun p hp => by
      rcases List.mem_cons.mp hp with rfl | hp
      · exact ⟨hoI, fun e => hIL e.symm, hI⟩
      · exact N₁ p hp
    have htk2 : s.toks ≤ tk₁ := Nat.le_trans htk ht₁
    refine hgo i v _ _ _ hst₁ ?_
    refine wpAny_toks (wpAny_mono (turn i v m' nx h₁ tk₁ oI hlt htk2 hP hJ hne F₁ N₂) (fun _ s₂ h₂ ht₂ => wpAny_toks (wpAny_mono h₂ (fun f s₃ h₃ ht₃ => ?_) fun _ _ e => e)) fun _ _ e => e)
    have fin : (∃ h₃' tk₃ m₃ nx₃, s₃ = { s with heap := h₃', toks := tk₃ } ∧ Fr h₀ env.locals h₃' m₃ ∧ News h₀ env.locals h₃' ((I, oI) :: nx₃) ∧ (∀ p ∈ nx₃, p.1 ≠ I) ∧ J (i + 1) m₃ nx₃) →
        ∃ m, m < n + 1 - i ∧ ∃ h' tk m' nx i, s₃ = { s with heap := h', toks := tk } ∧ s.toks ≤ tk ∧ St i h' ∧ Fr h₀ env.locals h' m' ∧ News h₀ env.locals h' nx ∧ (∀ p ∈ nx, p.1 ≠ I) ∧ J i m' nx ∧ i ≤ n ∧ m = n + 1 - i := by
      rintro ⟨h₃', tk₃, m₃, nx₃, rfl, F₃, N₃, hne₃, hJ₃⟩
      refine ⟨n + 1 - (i + 1), by omega, h₃', tk₃, m₃, nx₃, i + 1, rfl, Nat.le_trans htk2 (Nat.le_trans ht₂ ht₃), ?_, F₃, fun p hp => N₃ p (List.mem_cons_of_mem _ hp), hne₃, hJ₃, hlt, rfl⟩
      refine W.frame _ _ _ hst₁ fun b hb o e => ?_
      rcases hfp b hb with ebI | ⟨o5, ho5⟩ | ⟨o5, ho5⟩
      · subst ebI; rw [hoI] at e; cases e; exact (N₃ _ (List.mem_cons_self ..)).1
      · have e1 := (N₂ (b, o5) (List.mem_cons_of_mem _ (hfix i m' nx hJ _ ho5))).1
        have e2 := (N₃ (b, o5) (List.mem_cons_of_mem _ (hfix _ m₃ nx₃ hJ₃ _ ho5))).1
        exact (Option.some.inj (Eq.trans (Eq.symm (show h₁.get? b = some o5 from e1)) e)) ▸ e2
      · have e1 := F₁.keep b o5 ho5
        exact (Option.some.inj (e1.symm.trans e)) ▸ F₃.keep b o5 ho5
    cases f with
    | ret v => exact h₃
    | brk => exact h₃
    | cont => exact fin h₃
    | next => exact fin h₃
  · have hin : i = n := by omega
    subst hin
    refine W.done _ _ _ hst' fun h₁ tk₁ hk₁ => wpAny_execs_nil ?_
    obtain ⟨F₁, N₁⟩ := keep h₁ hk₁
    exact done m' nx h₁ tk₁ hJ F₁ N₁
theorem go_list {elts : List Expr} {x1} {pos : Pos} {I l : Addr} {i : Nat} {v : Value} {Q : Unit → Shared → Prop} (hit : s.heap.IsListIter I l i) (hQ : Q () s) :
    wpAny (model prog w) A (letOwnedTupleGo (.Tuple elts x1 pos) (.ref I) v) Q E s := by
  cases v with
  | ref T => exact wpAny_letOwnedTupleGo_listiter hit hQ
  | _ => exact wpAny_pure hQ
/-- a loop over a list of the ledger, a tuple as target -/
theorem loop_listT {elts : List Expr} {x1 : Nat} {pos : Pos} {l : Addr} {vs : List Value} {nn : Nat} {m₀ : Str → Option Value} {news : List (Addr × Obj)} (J : Nat → (Str → Option Value) → List (Addr × Obj) → Prop)
    (hh : A.handled = none) (hl : (l, listOf vs.toArray nn) ∈ news) (hfix : ∀ i m nx, J i m nx → (l, listOf vs.toArray nn) ∈ nx)
    (F : Fr h₀ env.locals s.heap m₀) (N : News h₀ env.locals s.heap news) (hj : J 0 m₀ news)
    (turn : ∀ i v m₁ nx h tk I oI, vs[i]? = some v → s.toks ≤ tk → J i m₁ nx → (∀ p ∈ nx, p.1 ≠ I) → Fr h₀ env.locals h m₁ → News h₀ env.locals h ((I, oI) :: nx) →
      wpAny (model prog w) A (assign (.Tuple elts x1 pos) env v) (fun _ s₂ => wpAny (model prog w) A (execs body env) (TurnEnd h₀ env.locals I oI (J (i + 1)) { s with heap := h, toks := tk } Q) E s₂) E { s with heap := h, toks := tk })
    (done : ∀ m₁ nx h tk, J vs.length m₁ nx → Fr h₀ env.locals h m₁ → News h₀ env.locals h nx → Q .next { s with heap := h, toks := tk })
    (hE : PassesOwn (model prog w) A env E := by passes_own) :
    wpAny (model prog w) A (pyIter (.ref l)) (fun it s₂ => codeAny (model prog w) A (.forLoop (.Tuple elts x1 pos) it body [] env) (fun r s' => match r with | .ok f => Q f s' | .error e => cameBackBy (model prog w) A env E e s') s₂) E s := by
  have hol : s.heap.get? l = some (listOf vs.toArray nn) := (N _ hl).1
  have hls : s.heap.IsList l vs.toArray := ⟨_, hol, rfl, nn, rfl⟩
  have hne : l ≠ s.heap.objs.size := Nat.ne_of_lt (Heap.lt_size hol)
  refine wpAny_pyIter_list hls ?_
  have W := Walks.list (prog := prog) (w := w) hh s.heap.objs.size l hne vs.toArray
  have hlen : vs.toArray.size = vs.length := by simp
  rw [hlen] at W
  refine loop_any [(l, listOf vs.toArray nn)] J W ?_ ?_ ?_ ?_ ?_ ?_ ⟨⟨_, Heap.get?_push_size _ rfl, rfl, rfl⟩, hls.at fun o e => Heap.get?_push_of_some _ e⟩ (F.push _) (fun p hp => ⟨Heap.get?_push_of_some _ (N p hp).1, (N p hp).2⟩) hj ?_ ?_ ?_
  · rintro i h ⟨⟨o, ho, _⟩, _⟩; exact ⟨o, ho⟩
  · intro hm
    rcases List.mem_cons.mp hm with e | hm
    · exact absurd F.ns.lt (e ▸ Nat.lt_irrefl _)
    · exact (N _ hl).2.1 ((List.mem_singleton.mp hm).symm)
  · exact next_is_new F
  · intro p hp e
    exact absurd (Heap.lt_size (N p hp).1) (e ▸ Nat.lt_irrefl _)
  · intro b hb
    rcases List.mem_cons.mp hb with e | hb
    · exact .inl e
    · rw [List.mem_singleton.mp hb]; exact .inr (.inl ⟨_, List.mem_singleton.mpr rfl⟩)
  · intro i m nx hJ p hp
    rw [List.mem_singleton.mp hp]; exact hfix i m nx hJ
  · intro i v m₁ nx h tk oI hin htk hP hJ hn F₁ N₁
    refine wpAny_passesOwn hE (wpAny_mono (turn i v m₁ nx h tk _ oI (by simpa using hP) htk hJ hn F₁ N₁) (fun _ s₂ h₂ => wpAny_passesOwn hE h₂) fun _ _ e => e)
  · exact done
  · intro i v s₁ Q E hst hQ
    exact go_list hst.1 hQ
end

end
noncomputable section
open PySem PySem.Calls PyProof.Rows PySem.W
open Builtin Builtin.Str in
theorem splitMax_yes {k r : List Nat} (h : 61 ∉ k) : Txt.splitMax (ofL (k ++ 61 :: r)) ⟨#[61]⟩ 1 = [ofL k, ofL r] := by
  have hlen : (ofL (k ++ 61 :: r)).length = k.length + 1 + r.length := by rw [ofL_length]; simp; omega
  have hAt : ∀ i, StrLaws.At (ofL (k ++ 61 :: r)) ⟨#[61]⟩ (ofL (k ++ 61 :: r)).length i ↔ (k ++ 61 :: r)[i]? = some 61 := fun i => by
    have := StrLaws.subAt_one (ofL (k ++ 61 :: r)) 61 i
    rw [ofL_cps] at this
    exact this
  have hocc : occurrences (ofL (k ++ 61 :: r)) ⟨#[61]⟩ 0 (ofL (k ++ 61 :: r)).length 1 = [k.length] := by
    have hk : (k ++ 61 :: r)[k.length]? = some 61 := by simp
    rcases StrLaws.occ_head (ofL (k ++ 61 :: r)) ⟨#[61]⟩ 1 (Nat.le_refl _) with ⟨_, hn⟩ | ⟨i, t, e, hi, hlt⟩
    · exact absurd ((hAt k.length).mpr hk) (hn _)
    · have hl := StrLaws.occ_length_le (ofL (k ++ 61 :: r)) ⟨#[61]⟩ 0 (ofL (k ++ 61 :: r)).length 1
      rw [e] at hl ⊢
      have ht : t = [] := by simpa using hl
      subst ht
      have hi2 := (hAt i).mp hi
      have h1 : ¬ i < k.length := fun hlt2 => by
        rw [List.getElem?_append_left hlt2] at hi2
        exact h (List.mem_of_getElem? hi2)
      have h2 : ¬ k.length < i := fun hlt2 => hlt _ hlt2 ((hAt _).mpr hk)
      rw [show i = k.length by omega]
  unfold Txt.splitMax
  have hlim : limitOf (ofL (k ++ 61 :: r)) 1 = 1 := rfl
  have h1 : (decide ((ofL (k ++ 61 :: r)).length < (⟨#[61]⟩ : Str).length) || decide (Builtin.Str.strKind (ofL (k ++ 61 :: r)) < Builtin.Str.strKind ⟨#[61]⟩)) = false := by
    rw [Bool.or_eq_false_iff, decide_eq_false_iff_not, decide_eq_false_iff_not]
    refine ⟨by rw [hlen]; show ¬ (_ < 1); omega, ?_⟩
    have e1 : Builtin.Str.strKind ⟨#[61]⟩ = 1 := by decide +kernel
    rw [e1]
    unfold Builtin.Str.strKind
    split
    · omega
    · split <;> omega
  rw [h1, hlim, hocc]
  simp only [Bool.false_eq_true, if_false, List.isEmpty_cons]
  rw [StrLaws.partsBetween_eq]
  show [strSub (ofL (k ++ 61 :: r)) 0 k.length, strSub (ofL (k ++ 61 :: r)) (k.length + 1) (ofL (k ++ 61 :: r)).length] = _
  congr 1
  · refine PySem.Str.ext' (Array.toList_inj.mp ?_)
    rw [StrLaws.strSub_toList, ofL_cps, ofL_cps]; simp
  · congr 1
    refine PySem.Str.ext' (Array.toList_inj.mp ?_)
    rw [StrLaws.strSub_toList, ofL_cps, ofL_cps, hlen]
    rw [show k ++ 61 :: r = (k ++ [61]) ++ r by simp, List.drop_left' (by simp)]
    rw [List.take_of_length_le (by omega)]
open Builtin Builtin.Str in
theorem splitMax_no {l : List Nat} (h : 61 ∉ l) : Txt.splitMax (ofL l) ⟨#[61]⟩ 1 = [ofL l] := by
  unfold Txt.splitMax
  split
  · rfl
  · have hocc : occurrences (ofL l) ⟨#[61]⟩ 0 (ofL l).length 1 = [] := by
      rcases StrLaws.occ_head (ofL l) ⟨#[61]⟩ 1 (Nat.le_refl _) with ⟨e, _⟩ | ⟨i, t, e, hi, hlt⟩
      · exact e
      · have := (StrLaws.subAt_one (ofL l) 61 i).mp hi
        rw [ofL_cps] at this
        exact absurd (List.mem_of_getElem? this) h
    rw [show limitOf (ofL l) 1 = 1 from rfl, hocc]
    rfl
section
variable {prog : Program} {w : World} {A : Around} {E : Value → Shared → Prop} {s : Shared} {h₀ : Heap} {L : Addr} {m : Str → Option Value} {news : List (Addr × Obj)} {y : Str} {t u v : Tok} {Q : Value → Shared → Prop}
theorem split1_yes {k r : List Nat} (hF : Fr h₀ L s.heap m) (hN : News h₀ L s.heap news) (hy : y = ⟨#[61]⟩) (hk : 61 ∉ k) (hl : k.length + r.length ≤ 100000)
    (h : ∀ D t1 t2 h' c, Fr h₀ L h' m → News h₀ L h' ((D, listOf #[.str (ofL k) t1, .str (ofL r) t2] 0) :: news) → (∀ p ∈ news, p.1 < D) → Q (.ref D) { s with heap := h', toks := c }) :
    wpAny (model prog w) A (call (.builtin "str.split") [.str (ofL (k ++ 61 :: r)) t, .str y u, .int 1 v]) Q E s := by
  subst hy
  refine splitN2A hF hN rfl (by decide) (fun l h' c e _ _ _ F N => ?_) (by rw [ofL_length, sizeLine_eq]; simp; omega)
  rw [splitMax_yes hk] at e
  obtain ⟨t1, l1, rfl, e1⟩ := KSpl.cons_of e
  obtain ⟨t2, l2, rfl, e2⟩ := KSpl.cons_of e1
  have e3 := KSpl.nil_of e2
  subst e3
  exact h _ t1 t2 h' c F N fun p hp => Heap.lt_size (hN p hp).1
theorem split1_no {l : List Nat} (hF : Fr h₀ L s.heap m) (hN : News h₀ L s.heap news) (hy : y = ⟨#[61]⟩) (hk : 61 ∉ l) (hl : l.length ≤ 100000)
    (h : ∀ D t1 h' c, Fr h₀ L h' m → News h₀ L h' ((D, listOf #[.str (ofL l) t1] 0) :: news) → (∀ p ∈ news, p.1 < D) → Q (.ref D) { s with heap := h', toks := c }) :
    wpAny (model prog w) A (call (.builtin "str.split") [.str (ofL l) t, .str y u, .int 1 v]) Q E s := by
  subst hy
  refine splitN2A hF hN rfl (by decide) (fun l' h' c e _ _ _ F N => ?_) (by rw [ofL_length, sizeLine_eq]; omega)
  rw [splitMax_no hk] at e
  obtain ⟨t1, l1, rfl, e1⟩ := KSpl.cons_of e
  have e3 := KSpl.nil_of e1
  subst e3
  exact h _ t1 h' c F N fun p hp => Heap.lt_size (hN p hp).1
theorem sign_last {value slice : Expr} {l : List Nat} (hne : l ≠ []) (hl : l.length ≤ 100000) (h : Q (.str ⟨#[l.getLast hne]⟩ s.toks) { s with toks := s.toks + 1 })
    (hs : subscripted slice false (.str (ofL l) t) (.int (-1) u) = operate [.str (ofL l) t, .int (-1) u] (getItem (.str (ofL l) t) (.int (-1) u)) := by with_unfolding_all rfl)
    (ht : ∀ r, letTemporaryGo value (.str (ofL l) t) r = pure () := by intro _; with_unfolding_all rfl) :
    wpAny (model prog w) A (subscriptTail value slice (.str (ofL l) t) (.int (-1) u)) Q E s := by
  have hp : 0 < l.length := List.length_pos_iff.mpr hne
  refine item_str (by decide) (by rw [ofL_length]; omega) (by rw [ofL_length]; omega) (fun _ => ?_) hs ht
  have e := eq_of_beq (item_closes_neg (x := ofL l) (i := -1) (j := -1 + (ofL l).length) (by decide) (by rw [ofL_length]; omega) rfl)
  rw [e, ofL_length]
  have e2 : (ofL l).cps.getD (-1 + (l.length : Int)).toNat 0 = l.getLast hne := by
    rw [show (-1 + (l.length : Int)).toNat = l.length - 1 by omega, List.getLast_eq_getElem]
    have hlt : l.length - 1 < l.length := by omega
    simp [ofL, hlt]
  rw [e2]; exact h
end
theorem slice_mid (l : List Nat) : Txt.slice (ofL l) (some 1) (some (-1)) = ofL ((l.drop 1).dropLast) := by
  by_cases h2 : 2 ≤ l.length
  · have e : Builtin.Str.strSliceIndices (some 1) (some (-1)) 1 (ofL l).length = Builtin.Str.strSliceIndices (some ((1 : Nat) : Int)) (some ((l.length - 1 : Nat) : Int)) 1 (ofL l).length := by
      unfold Builtin.Str.strSliceIndices
      rw [ofL_length]
      simp only [show ((-1 : Int) < 0) by decide, if_true, show ¬ ((1 : Int) < 0) by decide, if_false]
      have h3 : ¬ (((l.length - 1 : Nat) : Int) < 0) := by omega
      simp only [h3, if_false]
      congr 1
      omega
    have e2 : Txt.slice (ofL l) (some 1) (some (-1)) = Txt.slice (ofL l) (some ((1 : Nat) : Int)) (some ((l.length - 1 : Nat) : Int)) := by
      unfold Txt.slice; rw [e]
    rw [e2, slice_ofL (by omega) (by omega)]
    congr 1
    rw [List.dropLast_eq_take, List.length_drop]
  · have : l = [] ∨ ∃ a, l = [a] := by
      cases l with
      | nil => exact .inl rfl
      | cons a r => cases r with
        | nil => exact .inr ⟨a, rfl⟩
        | cons b r => simp at h2
    rcases this with rfl | ⟨a, rfl⟩
    · decide
    · unfold Txt.slice
      rfl
/-- keys and values of a dict of texts -/
inductive KV : List (Str × Value) → List (List Nat × List Nat) → Prop
  | nil : KV [] []
  | cons (k v : List Nat) (t : Tok) {kvs ps} : KV kvs ps → KV ((ofL k, .str (ofL v) t) :: kvs) ((k, v) :: ps)
/-- a store into such a dict -/
def putP (ps : List (List Nat × List Nat)) (k v : List Nat) : List (List Nat × List Nat) :=
  if ps.any (fun p => p.1 = k) then ps.map (fun p => if p.1 = k then (p.1, v) else p) else ps ++ [(k, v)]
/-- what parse_keqv_list makes of a value and of an item -/
def kq (r : List Nat) : List Nat := if r.head? = some 34 ∧ r.getLast? = some 34 then (r.drop 1).dropLast else r
def keyOf (l : List Nat) : List Nat := l.takeWhile (fun c => c != 61)
def valOf (l : List Nat) : List Nat := kq ((l.dropWhile (fun c => c != 61)).drop 1)
def keqP (ws : List (List Nat)) : List (List Nat × List Nat) := ws.foldl (fun ps l => putP ps (keyOf l) (valOf l)) []
theorem keyOf_app {k r : List Nat} (h : 61 ∉ k) : keyOf (k ++ 61 :: r) = k := by
  unfold keyOf
  induction k with
  | nil => simp
  | cons a k ih =>
    have h1 : a ≠ 61 := fun e => h (e ▸ List.mem_cons_self ..)
    have h2 : 61 ∉ k := fun e => h (List.mem_cons_of_mem _ e)
    simp [h1, ih h2]
theorem valOf_app {k r : List Nat} (h : 61 ∉ k) : valOf (k ++ 61 :: r) = kq r := by
  unfold valOf
  congr 1
  induction k with
  | nil => simp
  | cons a k ih =>
    have h1 : a ≠ 61 := fun e => h (e ▸ List.mem_cons_self ..)
    have h2 : 61 ∉ k := fun e => h (List.mem_cons_of_mem _ e)
    simp [h1]; simpa using ih h2
theorem keqP_take {ws : List (List Nat)} {i : Nat} {k r : List Nat} (h : ws[i]? = some (k ++ 61 :: r)) (hk : 61 ∉ k) : keqP (ws.take (i + 1)) = putP (keqP (ws.take i)) k (kq r) := by
  have e : ws.take (i + 1) = ws.take i ++ [k ++ 61 :: r] := by simp [List.take_add_one, h]
  unfold keqP
  rw [e, List.foldl_append]
  simp only [List.foldl_cons, List.foldl_nil, keyOf_app hk, valOf_app hk]
theorem ofL_eq {a b : List Nat} : ofL a = ofL b ↔ a = b := ⟨ofL_inj, fun h => by rw [h]⟩
theorem KV.length {kvs ps} (h : KV kvs ps) : kvs.length = ps.length := by induction h <;> simp [*]
theorem KV.append {kvs ps kvs' ps'} (h : KV kvs ps) (h' : KV kvs' ps') : KV (kvs ++ kvs') (ps ++ ps') := by
  induction h with
  | nil => exact h'
  | cons k v t _ ih => exact .cons k v t ih
theorem KV.any {kvs ps} (h : KV kvs ps) (k : List Nat) : kvs.any (fun kv => kv.1 = ofL k) = ps.any (fun p => p.1 = k) := by
  induction h with
  | nil => rfl
  | cons k' v t _ ih => simp only [List.any_cons, ofL_eq]; rw [ih]
theorem KV.setAll {kvs ps} (h : KV kvs ps) (k v : List Nat) (t : Tok) : KV (kvs.map (fun kv => if kv.1 = ofL k then (kv.1, .str (ofL v) t) else kv)) (ps.map (fun p => if p.1 = k then (p.1, v) else p)) := by
  induction h with
  | nil => exact .nil
  | cons k' v' t' _ ih =>
    simp only [List.map_cons, ofL_eq]
    by_cases e : k' = k
    · rw [if_pos e, if_pos e]; exact .cons _ _ _ ih
    · rw [if_neg e, if_neg e]; exact .cons _ _ _ ih
theorem KV.stored {kvs ps} (h : KV kvs ps) (k v : List Nat) (t : Tok) : KV (stored kvs (ofL k) (.str (ofL v) t)) (putP ps k v) := by
  unfold PySem.stored putP
  rw [h.any k]
  split
  · exact h.setAll k v t
  · exact h.append (.cons _ _ _ .nil)
theorem stored_len (kvs : List (Str × Value)) (k : Str) (v : Value) : (stored kvs k v).length ≤ kvs.length + 1 := by
  unfold PySem.stored
  split <;> simp
theorem kq_yes {r : List Nat} (hr : r ≠ []) {x : Int} (hx : x.toNat = 0) (h1 : ((⟨#[r.getD x.toNat 0]⟩ : Str) == Str.ofString "\"") = true) (h2 : ((⟨#[r.getLast hr]⟩ : Str) == Str.ofString "\"") = true) : kq r = (r.drop 1).dropLast := by
  rw [sg34, decide_eq_true_eq] at h1 h2
  unfold kq
  rw [if_pos]
  refine ⟨?_, ?_⟩
  · cases r with
    | nil => exact absurd rfl hr
    | cons a r => rw [hx] at h1; simpa using h1
  · rw [List.getLast?_eq_some_getLast hr, h2]
theorem kq_no1 {r : List Nat} (hr : r ≠ []) {x : Int} (hx : x.toNat = 0) (h1 : ((⟨#[r.getD x.toNat 0]⟩ : Str) == Str.ofString "\"") = false) : kq r = r := by
  rw [sg34, decide_eq_false_iff_not] at h1
  unfold kq
  rw [if_neg]
  rintro ⟨h2, _⟩
  cases r with
  | nil => exact absurd rfl hr
  | cons a r => rw [hx] at h1; exact h1 (by simpa using h2)
theorem kq_no2 {r : List Nat} (hr : r ≠ []) (h2 : ((⟨#[r.getLast hr]⟩ : Str) == Str.ofString "\"") = false) : kq r = r := by
  rw [sg34, decide_eq_false_iff_not] at h2
  unfold kq
  rw [if_neg]
  rintro ⟨_, h3⟩
  rw [List.getLast?_eq_some_getLast hr] at h3
  exact h2 (Option.some.inj h3)

end
noncomputable section
open PySem PySem.Calls PyProof.Rows PySem.W

theorem frames_mem {env : Env} {outer : List Env} {L b : Addr} (hf : env.frame = some L) (hm : b ∈ (env :: outer).filterMap (·.frame)) : b = L ∨ b ∈ outer.filterMap (·.frame) := by
  rw [List.filterMap_cons_some hf] at hm
  exact List.mem_cons.mp hm

section
variable {M : Model} {A : Around} {E : Value → Shared → Prop} {s' : Shared} {base g g₂ h : Heap} {outer : List Env} {L e : Addr} {m : Str → Option Value} {env : Env} {Q : Unit → Shared → Prop} {news : List (Addr × Obj)}

/-- a new exception leaves the frame in which it was raised -/
theorem leave_newX {cls : String} {ob : Obj} {vs : Array Value} {tp : Value} (hf : env.frame = some L) (hk : env.scope.kind = .function) (K : Below A base outer g) (F : Fr g L h m) (N : News g L h news)
    (hkp : ∀ b o, h.get? b = some o → s'.heap.get? b = some o) (hen : h.get? e = none) (he : s'.heap.get? e = some ob) (hcls : ob.cls = .type cls) (hd : ob.data = .fields vs) (h1 : vs[1]? = some .none) (h0 : vs[0]? = some tp)
    (hQ : ∀ h', RaisedSN base g outer e (.type cls) news h' → g.UpToSlots h' → Q () { s' with heap := h' }) :
    wpAny M (A.deeper env) (leaving env (.ref e)) Q E s' := by
  have K' := pushX K F hf hk
  generalize has : (env :: outer).filterMap (·.frame) = as
  have hin : ∀ en ∈ (env :: outer), ∀ b, en.frame = some b → b ∈ as := fun en hm b hb => has ▸ List.mem_filterMap.mpr ⟨en, hm, hb⟩
  have hsplit : ∀ b ∈ as, b = L ∨ b ∈ outer.filterMap (·.frame) := fun b hb => frames_mem hf (has ▸ hb)
  have hfr : ∀ b ∈ as, base.get? b = none := fun b hb => (K'.frames.mem (has ▸ hb)).1
  have gL : g.get? L = none := kts_self F
  have st : base.StaysIn (hideAll h as) := fun b o q => hideAll_get _ (K'.stays b o q) fun hm => by rw [hfr b hm] at q; cases q
  have sg : ∀ b o, g.get? b = some o → b ∉ outer.filterMap (·.frame) → (hideAll h as).get? b = some o := fun b o q nm => hideAll_get _ (F.keep b o q) fun hm => by
    rcases hsplit b hm with z | z
    · rw [z, gL] at q; cases q
    · exact nm z
  have hl : ∀ q ∈ news, (hideAll h as).get? q.1 = some q.2 ∧ g.get? q.1 = none ∧ base.get? q.1 = none := fun q hq => by
    refine ⟨hideAll_get _ (N q hq).1 fun hm => ?_, (N q hq).2.2, fresh_of_stays K.stays (N q hq).2.2⟩
    rcases hsplit _ hm with z | z
    · exact (N q hq).2.1 z
    · obtain ⟨o, ho, _⟩ := (K.frames.mem z).2
      rw [(N q hq).2.2] at ho; cases ho
  have hen' : (hideAll h as).get? e = none := by
    cases q : (hideAll h as).get? e with
    | none => rfl
    | some o => have := of_hideAll _ q; rw [hen] at this; cases this
  refine wpAny_leaving_firstW (base := hideAll h as) (a0 := tp) K'.stack ((funFrames_hide K'.frames hin).of_keeps fun b o hb _ => ⟨o, hkp b o hb, rfl⟩) hf he (fun b o hb => hkp b o (of_hideAll _ hb)) hen' hd h1 h0 fun h' hL => ?_
  obtain ⟨k1, ⟨_, _, k2⟩, k3, k4⟩ := hL
  refine hQ h' ⟨_, tp, st, sg, hl, k1, hen', k2, by rw [← hcls]; exact k3⟩ (((Heap.UpToSlots.of_keeps F.keep).trans (Heap.UpToSlots.of_keeps hkp)).trans k4)

/-- an exception that flies leaves a further frame -/
theorem leave_onX {cls : Value} (hf : env.frame = some L) (K : Below A base outer g) (F : Fr g L g₂ m) (R : RaisedSN base g₂ (env :: outer) e cls news s'.heap) (hsm : g₂.UpToSlots s'.heap)
    (hQ : ∀ h', RaisedSN base g outer e cls news h' → g.UpToSlots h' → Q () { s' with heap := h' }) :
    wpAny M (A.deeper env) (leaving env (.ref e)) Q E s' := by
  obtain ⟨B, a0, hB, hBG, hl, hfl⟩ := R
  have gL : g.get? L = none := kts_self F
  refine wpAny_leaves_onW (Around.frames_deeper K.stack) hf hfl fun h' x1 x2 => ?_
  refine hQ h' ⟨B, a0, hB, fun b o q nm => hBG b o (F.keep b o q) fun hm => ?_, fun q hq => ⟨(hl q hq).1, kts_none F.keep (hl q hq).2.1, (hl q hq).2.2⟩, x1⟩ ((Heap.UpToSlots.of_keeps F.keep).trans (hsm.trans x2))
  rcases frames_mem hf hm with z | z
  · rw [z, gL] at q; cases q
  · exact nm z
end

section
variable {prog : Program} {w : World} {A₀ : Around} {E : Value → Shared → Prop} {s' : Shared} {base g g₀ G : Heap} {outer : List Env} {L a e : Addr} {m : Str → Option Value} {name : Str} {scope : Scope} {cd : Value}
  {b₀ b₁ : Stmt} {suite suite₁ : List Stmt} {pos np pos₁ np₁ : Pos} {rest : List ExceptHandler} {Q : Flow → Shared → Prop} {news : List (Addr × Obj)} {KF : Frag}
  {p : Program} {loose : List Str} {mean : ExcName → Option Value} {mg mb : Str → Option Value} {x x₁ : Str} {X T' T₁ : String}

end

end
noncomputable section
open PySem PySem.Calls PyProof.Rows PySem.W
section
variable {prog : Program} {w : World} {A : Around} {E : Value → Shared → Prop} {s : Shared} {env : Env} {h₀ : Heap} {L l : Addr} {m : Str → Option Value} {news : List (Addr × Obj)} {elts : List Expr} {k : Nat} {pos : Pos}
/-- a list of one item cannot be unpacked into two names -/
theorem unpack_one {x : Value} {Q : Unit → Shared → Prop} (F : Fr h₀ L s.heap m) (N : News h₀ L s.heap news) (hl : s.heap.IsList l #[x]) (hh : A.handled = none) (hn : (assignEach elts env).length = 2)
    (hstar : (assignEach elts env).findIdx? (·.1) = none) (h : ∀ h₁ h' tk e, Fr h₀ L h₁ m → News h₀ L h₁ news → Heap.NewExc h₁ h' e "ValueError" → E (.ref e) { s with heap := h', toks := tk }) :
    wpAny (model prog w) A (assign (.Tuple elts k pos) env (.ref l)) Q E s := by
  rw [assign_Tuple]
  refine wpAny_bind (wpAny_standAt ?_)
  unfold unpack
  rw [hn, hstar]
  refine wpAny_bind (wpAny_holding ?_)
  have hlt : l ≠ s.heap.objs.size := by obtain ⟨o, ho, _⟩ := hl; exact Nat.ne_of_lt (Heap.lt_size ho)
  unfold unpackItems
  refine wpAny_bind ?_
  unfold notIterableAtAll
  refine wpAny_bind (wpAny_specialOf hl.typeIs slot_list_iter.lookup ?_)
  refine wpAny_pure ?_
  simp only [Bool.false_eq_true, if_false]
  refine wpAny_bind (wpAny_holding (wpAny_pyIter_list hl ?_))
  refine wpAny_bind (wpAny_holding ?_)
  show wpAny _ _ (pyNext (.ref s.heap.objs.size) >>= _) _ _ _
  refine wpAny_bind (wpAny_pyNext_list_item (i := 0) ⟨_, Heap.get?_push_size _ rfl, rfl, rfl⟩ (hl.push _) (x := x) rfl fun h₁ hit₁ hs₁ => ?_)
  refine wpAny_bind (wpAny_holding ?_)
  show wpAny _ _ (pyNext (.ref s.heap.objs.size) >>= _) _ _ _
  refine wpAny_bind (wpAny_pyNext_list_end hh hit₁ ((hl.push _).extBut hs₁.extBut hlt) rfl fun h₂ he₂ => ?_)
  refine wpAny_pure (wpAny_pure ?_)
  rw [if_pos (by simp)]
  refine wpAny_bind (wpAny_rule ?_)
  have he : Heap.ExtBut s.heap.objs.size s.heap h₂ := fun b o hb e => he₂ b o hb (hs₁.extBut b o hb (Heap.get?_push_of_some _ e))
  refine wpAny_bind (wpAny_raiseErrorMade plainExc_ValueError hh (fun h' tk e hx => h h₂ h' tk e (F.extBut he (Nat.le_refl _)) (N.extBut he (Nat.le_refl _)) hx) (by rw [show [x].length = 1 from rfl]; decide +kernel))
end
theorem raised_sub {base g : Heap} {outer : List Env} {e : Addr} {cls : Value} {news news' : List (Addr × Obj)} {h : Heap} (R : RaisedSN base g outer e cls news h) (hs : ∀ q ∈ news', q ∈ news) : RaisedSN base g outer e cls news' h := by
  obtain ⟨B, a0, hB, hBG, hl, hfl⟩ := R
  exact ⟨B, a0, hB, hBG, fun q hq => hl q (hs q hq), hfl⟩

end
noncomputable section
open PySem PySem.Calls PyProof.Rows PySem.W
/-- texts joined by a text -/
def joinS (g : List Nat) : List (List Nat) → List Nat
  | [] => []
  | [p] => p
  | p :: q :: r => p ++ g ++ joinS g (q :: r)
theorem joinS_map (g : List Nat) : ∀ (ps : List (List Nat)), Str.join (ofL g) (ps.map ofL) = ofL (joinS g ps)
  | [] => rfl
  | [p] => rfl
  | p :: q :: r => by
    have ih := joinS_map g (q :: r)
    simp only [List.map_cons] at ih ⊢
    rw [joinS, Str.join, ih, ofL_app, ofL_app]
    simp
def flatR (c : Nat) (z l : List Nat) : List Nat := l.flatMap fun a => if a = c then z else [a]
theorem joinS_split (c : Nat) (z l : List Nat) : joinS z (splitL c l) = flatR c z l := by
  induction l with
  | nil => rfl
  | cons a r ih =>
    simp only [splitL, flatR, List.flatMap_cons]
    have hn := splitL_ne c r
    split
    · cases hs : splitL c r with
      | nil => exact absurd hs hn
      | cons p ps => rw [hs] at ih; simp only [joinS, List.nil_append]; rw [ih]; rfl
    · cases hs : splitL c r with
      | nil => exact absurd hs hn
      | cons p ps =>
        rw [hs] at ih
        cases ps with
        | nil => simp only [joinS] at ih ⊢; rw [ih]; rfl
        | cons q ps => simp only [joinS] at ih ⊢; rw [List.cons_append, List.cons_append, ih]; rfl
theorem replace_flat (c : Nat) (z l : List Nat) : Txt.replace (ofL l) ⟨#[c]⟩ (ofL z) = ofL (flatR c z l) := by
  rw [StrLaws.replace_one, split_ofL, joinS_map, joinS_split]
theorem flatR_len (c : Nat) (z l : List Nat) (hz : z.length ≤ 2) : (flatR c z l).length ≤ 2 * l.length := by
  induction l with
  | nil => simp [flatR]
  | cons a r ih =>
    unfold flatR at ih ⊢
    rw [List.flatMap_cons, List.length_append, List.length_cons]
    split
    · omega
    · rw [List.length_singleton]; omega
/-- what _law_written makes of a value -/
def escL (v : List Nat) : List Nat := flatR 34 [92, 34] (flatR 92 [92, 92] v)
def wrP (p : List Nat × List Nat) : List Nat := p.1 ++ [61, 34] ++ escL p.2 ++ [34]
def writtenL (ps : List (List Nat × List Nat)) (g : List Nat) : List Nat := joinS g (ps.map wrP)
theorem escL_len (v : List Nat) : (escL v).length ≤ 4 * v.length := by
  have h1 := flatR_len 34 [92, 34] (flatR 92 [92, 92] v) (by decide)
  have h2 := flatR_len 92 [92, 92] v (by decide)
  unfold escL; omega
def prD (p : List Nat × List Nat) : Dat := .tuple [.str (ofL p.1), .str (ofL p.2)]
section
variable {prog : Program} {w : World} {A : Around} {E : Value → Shared → Prop} {s : Shared} {h₀ : Heap} {L : Addr} {m : Str → Option Value} {news : List (Addr × Obj)} {Q : Value → Shared → Prop}
theorem repl_g {l z : List Nat} {y zz : Str} {c : Nat} {t u v : Tok} (hu : u ≠ 0) (hv : v ≠ 0) (huv : u ≠ v) (hy : y = ⟨#[c]⟩) (hz : zz = ofL z) (hyz : (y == zz) = false) (hl : l.length ≤ 100000) (hzl : z.length ≤ 14)
    (h : ∀ t' k, s.toks ≤ k → Q (.str (ofL (flatR c z l)) t') { s with toks := k }) : wpAny (model prog w) A (call (.builtin "str.replace") [.str (ofL l) t, .str y u, .str zz v]) Q E s := by
  subst hy hz
  refine wpAny_toks (SC.replaceW hu hv huv hyz (by rw [ofL_length]; omega) (by rw [ofL_length]; exact hzl) fun t' k ht => ?_)
  rw [replace_flat]; exact h t' k ht
theorem add_tk {x y : Str} {t u : Tok} (hs : x.length + y.length ≤ 16777216) (h : ∀ t' k, s.toks ≤ k → (x ++ y).length = x.length + y.length → Q (.str (x ++ y) t') { s with toks := k }) : wpAny (model prog w) A (binaryOp .Add (.str x t) (.str y u)) Q E s :=
  wpAny_toks (KOpn.add hs fun t' k _ ht => h t' k ht (PySem.Str.length_append x y))
theorem join_g {g : List Nat} {t : Tok} {D : Addr} {us : List Value} {n : Nat} {ws : List (List Nat)} (hN : News h₀ L s.heap news) (hD : (D, listOf us.toArray n) ∈ news) (hu : StrsAre us (ws.map ofL)) (hg : g.length ≤ 16) (hw : (ws.map List.length).sum + ws.length ≤ 100000)
    (h : ∀ t' k, Q (.str (ofL (joinS g ws)) t') { s with toks := k }) : wpAny (model prog w) A (call (.builtin "str.join") [.str (ofL g) t, .ref D]) Q E s := by
  have e : (ws.map ofL).map (·.length) = ws.map List.length := by rw [List.map_map]; exact List.map_congr_left fun a _ => ofL_length a
  refine join_listW (News.isList hN hD) (by simpa using hu) (by rw [ofL_length]; exact hg) (by rw [e, List.length_map]; omega) fun t' k => ?_
  have := h t' k
  rw [← joinS_map, ← eq_of_beq (join_closes (ys := ws.map ofL) rfl)] at this
  exact this
end
theorem wr_eq (p : List Nat × List Nat) : ofL p.1 ++ Str.ofString "=\"" ++ ofL (flatR 34 [92, 34] (flatR 92 [92, 92] p.2)) ++ Str.ofString "\"" = ofL (wrP p) := by
  rw [show Str.ofString "=\"" = ofL [61, 34] by decide, show Str.ofString "\"" = ofL [34] by decide, ofL_app, ofL_app, ofL_app]; rfl
theorem wrP_len (p : List Nat × List Nat) : (wrP p).length ≤ p.1.length + 4 * p.2.length + 3 := by
  have := escL_len p.2
  unfold wrP; simp; omega
theorem sum_le {f : List Nat → Nat} {ws : List (List Nat)} {b : Nat} (h : ∀ x ∈ ws, f x ≤ b) : (ws.map f).sum ≤ b * ws.length := by
  induction ws with
  | nil => simp
  | cons a r ih =>
    have h1 := h a (List.mem_cons_self ..)
    have h2 := ih fun x hx => h x (List.mem_cons_of_mem _ hx)
    simp only [List.map_cons, List.sum_cons, List.length_cons]
    have : b * (r.length + 1) = b * r.length + b := Nat.mul_succ ..
    omega
/-- one pair of a list of pairs of texts -/
theorem pair_at {nw : List (Addr × Obj)} : ∀ {vs : List Value} {ps : List (List Nat × List Nat)}, DatAll nw vs (ps.map prD) → ∀ {i : Nat} {v : Value}, vs[i]? = some v → ∃ p T t1 t2 n, ps[i]? = some p ∧ v = .ref T ∧ (T, ({ cls := .type "tuple", data := .seq #[.str (ofL p.1) t1, .str (ofL p.2) t2] n } : Obj)) ∈ nw
  | [], _, _, i, v, h => by simp at h
  | v :: vs, [], h, i, _, _ => by cases h
  | v :: vs, p :: ps, h, 0, v', hv => by
    obtain rfl : v = v' := by simpa using hv
    cases h with
    | cons h1 h2 =>
      cases h1 with
      | tuple hm hr =>
        cases hr with
        | cons a1 a2 => cases a2 with
          | cons b1 b2 => cases b2; cases a1; cases b1; exact ⟨p, _, _, _, _, rfl, rfl, hm⟩
  | v :: vs, p :: ps, h, i + 1, v', hv => by
    cases h with
    | cons h1 h2 => simpa using pair_at h2 (by simpa using hv)
theorem dat_len {nw : List (Addr × Obj)} : ∀ {vs : List Value} {ds : List Dat}, DatAll nw vs ds → vs.length = ds.length
  | [], _, h => by cases h; rfl
  | v :: vs, _, h => by cases h with | cons h1 h2 => simp [dat_len h2]

end
noncomputable section
open PySem PySem.Calls PyProof.Rows PySem.W
def sg7 (m : Int) : Nat := [97, 44, 34, 92, 32, 61, 59].getD (m.fmod 7).toNat 0
theorem sg7_item (n : Int) : Txt.item (Str.ofString "a,\"\\ =;") (n.fmod 7) = ofL [sg7 n] := by
  have h1 : 0 ≤ n.fmod 7 := by rw [Int.fmod_eq_emod_of_nonneg _ (by decide)]; exact Int.emod_nonneg _ (by decide)
  have h2 : n.fmod 7 < 7 := Int.fmod_lt_of_pos n (by decide)
  unfold sg7
  generalize n.fmod 7 = k at h1 h2
  have : k = 0 ∨ k = 1 ∨ k = 2 ∨ k = 3 ∨ k = 4 ∨ k = 5 ∨ k = 6 := by omega
  rcases this with rfl | rfl | rfl | rfl | rfl | rfl | rfl <;> decide +kernel
theorem news_le {h₀ h : Heap} {L : Addr} {l l' : List (Addr × Obj)} (N : News h₀ L h l) (hs : ∀ q ∈ l', q ∈ l) : News h₀ L h l' := fun q hq => N q (hs q hq)
theorem lt_of {a : Nat} {r : List (Addr × Obj)} (h : AllLt a r) : ∀ q ∈ r, @LT.lt Nat _ q.1 a := fun q hq => kst_ltOf h q hq
theorem fmod4 (n : Int) : n.fmod 4 = 0 ∨ n.fmod 4 = 1 ∨ n.fmod 4 = 2 ∨ n.fmod 4 = 3 := by
  have h1 : 0 ≤ n.fmod 4 := by rw [Int.fmod_eq_emod_of_nonneg _ (by decide)]; exact Int.emod_nonneg _ (by decide)
  have h2 : n.fmod 4 < 4 := Int.fmod_lt_of_pos n (by decide)
  omega
theorem dat_pair {tl : List (Addr × Obj)} {T : Addr} {x y : Str} {t1 t2 : Tok} {n : Nat} {p : List Nat × List Nat} (h : (T, ({ cls := .type "tuple", data := .seq #[.str x t1, .str y t2] n } : Obj)) ∈ tl) (hx : x = ofL p.1) (hy : y = ofL p.2) : DatIn tl (.ref T) (prD p) := by
  subst hx hy
  exact .tuple (vs := [_, _]) h (.cons (.str _ _) (.cons (.str _ _) .nil))
abbrev tupS (x : Str) (t1 : Tok) (y : Str) (t2 : Tok) : Obj := { cls := .type "tuple", data := .seq #[.str x t1, .str y t2] }
end
noncomputable section
open PySem PySem.Calls PyProof.Rows PySem.W
open LCg LCp
section
variable {prog : Program} {w : World} {A : Around} {s : Shared} {h₀ : Heap} {L : Addr} {m : Str → Option Value} {env : Env} {elt : Expr} {x x₂ : Str} {scope : Scope} {cl : List (Str × Addr)} {S : List (Addr × Obj) → Prop} {P : Nat → Value → Prop} {Fin : List Value → List (Addr × Obj) → Prop} {news : List (Addr × Obj)} {n : Nat}
end
section
variable {prog : Program} {w : World} {A : Around} {E : Value → Shared → Prop} {s : Shared} {h₀ : Heap} {L : Addr} {m : Str → Option Value} {news : List (Addr × Obj)} {Q : Value → Shared → Prop}
end

end
noncomputable section
open PySem PySem.Calls PyProof.Rows PySem.W
section
variable {prog : Program} {w : World} {A : Around} {E : Value → Shared → Prop} {s : Shared} {env : Env} {h₀ : Heap} {body : List Stmt} {Q : Flow → Shared → Prop} {K : Type} [DecidableEq K] {knd : KeyKind prog w K}
end
section
variable {prog : Program} {w : World} {A : Around} {E : Value → Shared → Prop} {s : Shared} {h₀ : Heap} {L : Addr} {m : Str → Option Value} {news : List (Addr × Obj)} {kvs : List (Str × Value)} {ps : List (List Nat × List Nat)}
theorem open_pairs {lo : Addr} : ∀ {kvs : List (Str × Value)} {ps : List (List Nat × List Nat)}, KV kvs ps → ∀ {vs : List Value} {tups : List (Addr × Obj)} {ds : List Dat} {C : List Value → List (Addr × Obj) → Prop},
    DatAll tups vs ds → (∀ q ∈ tups, lo < q.1 ∧ ∀ r ∈ news, r.1 < q.1) → (∀ vs' tups', DatAll tups' vs' (ds ++ ps.map prD) → (∀ q ∈ tups', lo < q.1 ∧ ∀ r ∈ news, r.1 < q.1) → C vs' tups') →
    KdxOpen lo news (kvs.map fun p => (kyVal (PyData.str p.1), p.2)) vs tups C := by
  intro kvs ps h
  induction h with
  | nil => intro vs tups ds C h1 h2 h3; exact KdxOpen.nil (h3 vs tups (by simpa using h1) h2)
  | cons k v t _ ih =>
    intro vs tups ds C h1 h2 h3
    refine KdxOpen.cons fun a t' b1 b2 b3 => ?_
    refine ih (ds := ds ++ [prD (k, v)]) ((h1.mono fun _ hp => List.mem_cons_of_mem _ hp).append (.one (dat_pair (p := (k, v)) (List.mem_cons_self ..) rfl rfl))) (List.forall_mem_cons.mpr ⟨⟨b1, b2⟩, h2⟩) fun vs' tups' hd hlt => h3 vs' tups' ?_ hlt
    rw [List.map_cons]
    simpa using hd
theorem items_t {vw d : Addr} {od : Obj} {Q : Value → Shared → Prop} (hh : A.handled = none) (F : Fr h₀ L s.heap m) (N : News h₀ L s.heap news) (hvw : (vw, { cls := .type "dict_items", data := .fields #[.ref d] }) ∈ news) (hmd : (d, od) ∈ news) (hod : od.IsDictOf (PySem.strKind prog w) kvs) (hkv : KV kvs ps) (hn : ps.length ≤ 1000)
    (h : ∀ B vs tups c h' tk, Fr h₀ L h' m → News h₀ L h' (tups ++ (B, listOf vs.toArray c) :: news) → DatAll tups vs (ps.map prD) → (∀ q ∈ tups, B < q.1 ∧ ∀ r ∈ news, r.1 < q.1) → (∀ r ∈ news, r.1 < B) → Q (.ref B) { s with heap := h', toks := tk }) :
    wpAny (model prog w) A (call (.type "list") [.ref vw]) Q E s := by
  refine kdx_listN (knd := PySem.strKind prog w) (enc := PyData.str) hh F N hvw hmd hod (by rw [hkv.length]; omega) (fun k v hv => by obtain ⟨t, rfl⟩ := Value.isStrOf_shape hv; exact ⟨t, rfl⟩) rfl fun B hB => ?_
  refine open_pairs hkv (ds := []) .nil (fun _ h => nomatch h) fun vs' tups' hd hlt => ?_
  intro c h' tk hB' F' N'
  exact h B vs' tups' c h' tk F' N' (by simpa using hd) hlt hB'
end

end
noncomputable section
open PySem PySem.Calls PyProof.Rows PySem.W
/-- every second item -/
def evens {α : Type} : List α → List α
  | [] => []
  | [a] => [a]
  | a :: _ :: r => a :: evens r
def stepL {α : Type} (k : Int) (l : List α) : List α := if k = 1 then l else evens l
theorem evens_range {α : Type} : ∀ (l : List α), (List.range ((l.length + 1) / 2)).filterMap (fun k => l[2 * k]?) = evens l
  | [] => by simp [evens]
  | [a] => by simp [evens, List.range_succ]
  | a :: b :: r => by
    have ih := evens_range r
    have e : ((a :: b :: r).length + 1) / 2 = (r.length + 1) / 2 + 1 := by simp only [List.length_cons]; omega
    rw [e, List.range_succ_eq_map, List.filterMap_cons]
    simp only [Nat.mul_zero, List.getElem?_cons_zero, evens]
    congr 1
    rw [List.filterMap_map, ← ih]
    congr 1
theorem pick_step {k : Int} (hk : k = 1 ∨ k = 2) (vs : List Value) : (slicePick vs.toArray none none (some k)).toList = stepL k vs := by
  unfold slicePick stepL
  rcases hk with rfl | rfl
  · rw [if_pos rfl]
    have e : sliceBounds none none (some 1) vs.toArray.size = (((0 : Nat) : Int), ((vs.length : Nat) : Int), 1) := by simp [sliceBounds]
    rw [e]
    simp only [sliceRange_one, pick_run]
    simp
  · rw [if_neg (by decide)]
    have e : sliceBounds none none (some 2) vs.toArray.size = (0, (vs.length : Int), 2) := by simp [sliceBounds]
    rw [e]
    unfold sliceRange
    simp only [show ((2 : Int) > 0) by decide, if_true, Int.sub_zero]
    rw [← evens_range vs]
    by_cases h : (0 : Int) < vs.length
    · rw [if_pos h]
      have e2 : (((vs.length : Int) + 2 - 1) / 2).toNat = (vs.length + 1) / 2 := by omega
      rw [e2, List.filterMap_map]
      congr 1
      funext j
      simp only [Function.comp]
      rw [show ((0 : Int) + 2 * (j : Int)).toNat = 2 * j by omega]
      simp
    · rw [if_neg h]
      have : vs.length = 0 := by omega
      rw [this]; rfl
theorem strs_evens {us : List Value} {ss : List Str} (h : StrsAre us ss) : StrsAre (evens us) (evens ss) := by
  have key : ∀ (n : Nat) (us : List Value) (ss : List Str), us.length ≤ n → StrsAre us ss → StrsAre (evens us) (evens ss) := by
    intro n
    induction n with
    | zero =>
      intro us ss hl h
      cases h with
      | nil => exact .nil
      | cons y t h => simp at hl
    | succ n ih =>
      intro us ss hl h
      cases h with
      | nil => exact .nil
      | cons y t h =>
        cases h with
        | nil => exact .cons y t .nil
        | cons y' t' h =>
          simp only [List.length_cons] at hl
          exact .cons y t (ih _ _ (by omega) h)
  exact key _ _ _ (Nat.le_refl _) h
theorem evens_map {α β : Type} (f : α → β) : ∀ l : List α, evens (l.map f) = (evens l).map f
  | [] => rfl
  | [a] => rfl
  | a :: b :: r => by simp only [List.map_cons, evens, evens_map f r]
theorem strs_step {k : Int} {us : List Value} {ws : List (List Nat)} (h : StrsAre us (ws.map ofL)) : StrsAre (stepL k us) ((stepL k ws).map ofL) := by
  unfold stepL
  split
  · exact h
  · rw [← evens_map]; exact strs_evens h
theorem evens_len {α : Type} : ∀ (l : List α), (evens l).length ≤ l.length
  | [] => Nat.le_refl _
  | [a] => Nat.le_refl _
  | a :: b :: r => by have := evens_len r; simp [evens]; omega
theorem step_len {α : Type} (k : Int) (l : List α) : (stepL k l).length ≤ l.length := by
  unfold stepL; split
  · exact Nat.le_refl _
  · exact evens_len l
section
variable {prog : Program} {w : World} {A : Around} {E : Value → Shared → Prop} {s : Shared} {h₀ : Heap} {L l : Addr} {m : Str → Option Value} {news : List (Addr × Obj)} {value slice : PySem.Expr} {vs : List Value} {n : Nat} {t : Tok} {Q : Value → Shared → Prop}
theorem sl_step {k : Int} {ops : List Value} (F : Fr h₀ L s.heap m) (N : News h₀ L s.heap news) (hl : (l, listOf vs.toArray n) ∈ news) (hk : k = 1 ∨ k = 2) (hz : vs.length ≤ 100000)
    (h : ∀ D h', Fr h₀ L h' m → News h₀ L h' ((D, listOf (stepL k vs).toArray 0) :: news) → (∀ p ∈ news, p.1 < D) → Q (.ref D) { s with heap := h' })
    (hs : subscripted slice false (.ref l) (.ref s.heap.objs.size) = operate ops (getItem (.ref l) (.ref s.heap.objs.size))) (ht : ∀ r, letTemporaryGo value (.ref l) r = pure ()) :
    wpAny (model prog w) A (subscriptTail value slice (.ref l) (.ref s.heap.objs.size)) Q E { s with heap := s.heap.push { cls := .type "slice", data := .fields #[.none, .none, .int k t] } } :=
  kmk_slice3_lit F N (News.isList N hl) .none .none (.int _ _) (by rcases hk with rfl | rfl <;> decide) (pick_step hk vs) h hs ht (by rw [List.size_toArray, sizeLine_eq]; omega)
end
end
noncomputable section
open PySem PySem.Calls PyProof.Rows PySem.W
section
variable {h₀ g' h : Heap} {L : Addr} {m : Str → Option Value} {news : List (Addr × Obj)}
end
/-- a pair as the law has it -/
def sign7 (c : Nat) : Prop := c = 97 ∨ c = 44 ∨ c = 34 ∨ c = 92 ∨ c = 32 ∨ c = 61 ∨ c = 59
theorem ofL_ok {l : List Nat} (h : ∀ c ∈ l, c < 128) : PyData.strOk (ofL l) = true := by
  unfold PyData.strOk ofL
  simp only [List.all_toArray, List.all_eq_true, decide_eq_true_eq]
  exact fun c hc => Nat.lt_trans (h c hc) (by decide)
section
variable {prog : Program} {w : World} {A : Around} {E : Value → Shared → Prop} {s : Shared} {h₀ : Heap} {L a b : Addr} {news n₁ n₂ : List (Addr × Obj)} {xs ys : List Value} {ka kb : Nat} {ps : List (List Nat × List Nat)} {Q : Value → Shared → Prop}
end
end
noncomputable section
open PySem PySem.Calls PyProof.Rows PySem.W
section
variable {prog : Program} {w : World} {A : Around} {E : Value → Shared → Prop} {s : Shared} {env : Env} {h₀ : Heap} {x : Str} {body : List Stmt} {Q : Flow → Shared → Prop}

theorem loop_genC {C : Obj → Prop} {I : Addr} {fp : List Addr} {n : Nat} {P : Nat → Value → Prop} {St : Nat → Heap → Prop} {m₀ : Str → Option Value} {news : List (Addr × Obj)}
    (fixed : List (Addr × Obj)) (J : Nat → (Str → Option Value) → List (Addr × Obj) → Prop)
    (W : Walks prog w A I fp [I] n P St) (hlive : ∀ i h, St i h → ∃ o, h.get? I = some o ∧ C o) (hLf : env.locals ∉ fp) (hI : h₀.get? I = none) (hnI : ∀ p ∈ news, p.1 ≠ I)
    (hfp : ∀ b ∈ fp, b = I ∨ (∃ o, (b, o) ∈ fixed) ∨ ∃ o, h₀.get? b = some o) (hfix : ∀ i m nx, J i m nx → ∀ p ∈ fixed, p ∈ nx)
    (hst : St 0 s.heap) (F : Fr h₀ env.locals s.heap m₀) (N : News h₀ env.locals s.heap news) (hj : J 0 m₀ news)
    (turn : ∀ i v m₁ nx h tk oI, C oI → i < n → P i v → J i m₁ nx → (∀ p ∈ nx, p.1 ≠ I) → Fr h₀ env.locals h (fun y => if y = x then some v else m₁ y) → News h₀ env.locals h ((I, oI) :: nx) →
      wpAny (model prog w) A (execs body env) (TurnEnd h₀ env.locals I oI (J (i + 1)) { s with heap := h, toks := tk } Q) E { s with heap := h, toks := tk })
    (done : ∀ m₁ nx h tk, J n m₁ nx → Fr h₀ env.locals h m₁ → News h₀ env.locals h nx → Q .next { s with heap := h, toks := tk }) :
    LoopAtV prog w A h₀ env x body Q E (.ref I) s := by
  refine ⟨I, fp, [I], n, P, St, m₀, news, J, rfl, W, hLf, ?_, ?_, hst, F, N, hj, ?_, ?_⟩
  · intro b hb; rw [List.mem_singleton.mp hb]; exact hI
  · intro p hp hm; exact hnI p hp (List.mem_singleton.mp hm)
  · rintro i v m₁ nx s₁ own ⟨hh', tk', rfl⟩ hin hP hJ hoff hown hget hall hst₁ F₁ N₁
    obtain ⟨oI, hoI, hCI⟩ := hlive _ _ hst₁
    have hoff' : ∀ p ∈ nx, p.1 ≠ I := fun p hp e => hoff p hp (List.mem_singleton.mpr e)
    have hIown : (I, oI) ∈ own := hall I (W.sub I (List.mem_singleton.mpr rfl)) hI oI hoI
    have N₂ : News h₀ env.locals hh' ((I, oI) :: nx) := fun p hp => by
      rcases List.mem_cons.mp hp with rfl | hp
      · exact N₁ _ (List.mem_append_left _ hIown)
      · exact N₁ p (List.mem_append_right _ hp)
    have hownin : ∀ p ∈ own, p = (I, oI) ∨ p ∈ fixed := by
      intro p hp
      rcases hfp p.1 (hown p hp) with e | ⟨o, ho⟩ | ⟨o, ho⟩
      · left
        have := hget p hp
        rw [e] at this
        have e2 : p.2 = oI := by
          have h3 := hoI
          rw [this] at h3
          exact Option.some.inj h3
        rw [← e, ← e2]
      · right
        have h1 := (N₂ _ (List.mem_cons_of_mem _ (hfix i m₁ nx hJ _ ho))).1
        have h2 := hget p hp
        have h3 : o = p.2 := by
          have h4 : hh'.get? p.1 = some o := h1
          rw [h2] at h4
          exact (Option.some.inj h4).symm
        rw [h3] at ho
        exact ho
      · have := (N₁ p (List.mem_append_left _ hp)).2.2
        rw [ho] at this; cases this
    refine wpAny_mono (turn i v m₁ nx hh' tk' oI hCI hin hP hJ hoff' F₁ N₂) (fun f s₂ p => ?_) fun _ _ e => e
    have fin : (∃ h' tk m' nx', s₂ = { ({ s with heap := hh', toks := tk' } : Shared) with heap := h', toks := tk } ∧ Fr h₀ env.locals h' m' ∧ News h₀ env.locals h' ((I, oI) :: nx') ∧ (∀ p ∈ nx', p.1 ≠ I) ∧ J (i + 1) m' nx') →
        LoopStepU h₀ env.locals [I] own (J (i + 1)) { s with heap := hh', toks := tk' } .next s₂ := by
      rintro ⟨h', tk, m', nx', e, F', N', hne, hJ'⟩
      refine ⟨rfl, h', tk, m', nx', e, F', fun p hp => ?_, fun p hp hm => hne p hp (List.mem_singleton.mp hm), hJ'⟩
      rcases List.mem_append.mp hp with hp | hp
      · rcases hownin p hp with rfl | hf
        · exact N' _ (List.mem_cons_self ..)
        · exact N' _ (List.mem_cons_of_mem _ (hfix _ _ _ hJ' p hf))
      · exact N' _ (List.mem_cons_of_mem _ hp)
    cases f with
    | ret v => exact .ret p
    | brk => exact .brk p
    | next => exact .next (fin p)
    | cont => exact .cont (fin p)
  · rintro h' tk m' news' F' N' _ hJ
    exact done m' news' h' tk hJ F' N'

end

end
noncomputable section
open PySem PySem.Calls PyProof.Rows PySem.W
section
variable {prog : Program} {w : World} {A₀ A : Around} {s : Shared} {base h₀ g₀ : Heap} {outer : List Env} {L a : Addr} {m : Str → Option Value} {cn : Str} {cs : Scope} {ccd : Value} {news : List (Addr × Obj)} {K : Frag} {p : Program} {loose : List Str} {mean : ExcName → Option Value} {mg mb : Str → Option Value}
    {R : Result → Shared → Prop} {name qual : Str} {params : Arguments} {body : List Stmt} {scope : Scope} {dV kV doc pm cdv ct oc : Value} {an od : Option Addr} {osl : Array (Option Value)} {f : Addr} {args : Args} {binds : List (Str × Value)}

/-- a def with cells of its own that catches, called from the law's own frame -/
theorem code_cellsS0 (B : Below A₀ base [] h₀) (F : Fr h₀ L s.heap m) (X₀ : K.In h₀) (N : News h₀ L s.heap news) (T : Top p loose mean mg mb h₀) (hA : A.frames = some [envOf cn cs L a ccd])
    (ho : K.lookup f = some ⟨oc, od, .func (fnOf name qual params body scope dV kV doc pm an cdv ct), osl⟩) (hcd : codeIn K cdv qual = true) (hroom : A.depth < recursionLimit)
    (hbind : BindsTo s (fnOf name qual params body scope dV kV doc pm an cdv ct) args binds) (hkind : (binds.all fun y => scope.names.lookup y.1 == some .local || scope.names.lookup y.1 == some .cell) = true)
    (hnd : ((cellsFrom 0 scope.names []).map (·.1)).Nodup)
    (h : ∀ g L' h₁ tk cells, Fr h₀ L g m → Fr g L' h₁ (bindL (envOfC qual scope L' f cdv).kindOf binds fun _ => none) → News g L' h₁ (cells ++ news) →
      CellsAre (bindC (envOfC qual scope L' f cdv).kindOf binds fun _ => none) (cellsFrom (L' + 1) scope.names []) cells → Below A base [envOf cn cs L a ccd] g → K.In g → Top p loose mean mg mb g → KtsDicts ([envOf cn cs L a ccd].filterMap (·.frame)) g → (∀ p ∈ news, p.1 < L') →
      wpAny (model prog w) (A.deeper (envOfC qual scope L' f cdv)) (execs body (envOfC qual scope L' f cdv))
        (fun fl s' => LeaveS0 ([envOf cn cs L a ccd].filterMap (·.frame)) h₀ L m g R (match fl with | .ret v => v | _ => .none) s')
        (fun e s' => wpAny (model prog w) (A.deeper (envOfC qual scope L' f cdv)) (leaving (envOfC qual scope L' f cdv) e) (fun _ s'' => R (.error e) s'') (fun e' s'' => R (.error e') s'') s')
        { s with heap := h₁, toks := tk })
    (hck : cs.kind = .function) (hco : scope.isCoroutine = false) (hgen : scope.isGenerator = false) (hk : scope.kind = .function) : codeAny (model prog w) A (.call (.ref f) args) R s := by
  have X := X₀.keeps F.keep
  obtain ⟨oL, es, ep, hLg, hLd, hN, hNs, st, B₂⟩ := kts_enter B F N hA hck
  refine codeAny_call_function hroom (X _ _ ho) rfl hco hgen rfl (codeRec_of X hcd) (hbind _ _ _ _ ?_)
  refine wpAny_newFunctionEnv_cells hk (kindsX hkind _) fun env' he s' x => ?_
  subst he
  refine ⟨(T.nolimit.keeps F.keep).keeps x.toInCall.keep, codeAny_func ?_⟩
  obtain ⟨h₁, tk, rfl, _⟩ := x.done
  have hk₁ := x.toInCall.keep
  obtain ⟨cells, NC, Y⟩ := Cl.news (h₀ := s.heap) (Nat.le_refl _) fun n c hm => ⟨x.cell n c (lookup_of_mem_nodup (cellsFrom_names scope.names 0 (s.heap.objs.size + 1) [] [] rfl ▸ hnd) hm), x.above n c hm⟩
  refine wpAny_mono (h _ s.heap.objs.size h₁ tk cells ⟨hN _ hLg, st, F.above⟩ ⟨x.toInCall.ns, fun b o e => hk₁ b o (of_hideAll _ e), Nat.le_of_eq (hideAll_size _ _)⟩ (fun p hp => ?_) Y B₂ (X₀.keeps st) (T.keeps st) (fun b hb => by
      rcases kts_mem hb with rfl | z
      · exact ⟨oL, es, ep, hLg, hLd⟩
      · simp at z) (fun p hp => Heap.lt_size (N p hp).1)) (fun fl s' hl => ?_) fun _ _ y => y
  · rcases List.mem_append.mp hp with hp | hp
    · refine ⟨(NC p hp).1, (NC p hp).2.1, ?_⟩
      cases q : (hideAll s.heap (news.map (·.1))).get? p.1 with
      | none => rfl
      | some o => have := of_hideAll _ q; rw [(NC p hp).2.2] at this; cases this
    · exact ⟨hk₁ _ _ (N p hp).1, Nat.ne_of_lt (Heap.lt_size (N p hp).1), hideAll_none _ (List.mem_map_of_mem hp)⟩
  obtain ⟨g', L', m', news', T', F', N', k⟩ := hl
  have nL₀ : h₀.get? L = none := kts_self F
  obtain ⟨sl, hs⟩ := T'.up hLg
  refine k ⟨hNs sl _ (F'.keep _ _ hs), fun b o e => F'.keep b o (T'.other b o (st b o e) (fun q => by
    rcases kts_mem q with z | z
    · rw [z, nL₀] at e
      cases e
    · simp at z)), F.above⟩ fun p hp => ⟨(N' p hp).1, fun q => ?_, ?_⟩
  · have := (N' p hp).2.2; rw [q, hs] at this; cases this
  · cases q : h₀.get? p.1 with
    | none => rfl
    | some o =>
      obtain ⟨sl', hs'⟩ := T'.up (st _ _ q)
      have := (N' p hp).2.2
      rw [hs'] at this
      cases this
end

section
variable {prog : Program} {w : World} {A₀ : Around} {E : Value → Shared → Prop} {s' : Shared} {base g g₀ G : Heap} {outer : List Env} {L a e : Addr} {m : Str → Option Value} {name : Str} {scope : Scope} {cd : Value} {cl : List (Str × Addr)}
  {b₀ b₁ : Stmt} {suite suite₁ : List Stmt} {pos np pos₁ np₁ : Pos} {rest : List ExceptHandler} {Q : Flow → Shared → Prop} {news : List (Addr × Obj)} {KF : Frag}
  {p : Program} {loose : List Str} {mean : ExcName → Option Value} {mg mb : Str → Option Value} {x x₁ : Str} {X T' T₁ : String}

/-- the first clause matches, in a frame with cells -/
theorem caughtX (R : RaisedSN base G (envX name scope L a cd cl :: outer) e (.type X) news s'.heap) (F : Fr g L G m) (K : Below A₀ base outer g) (hsm : G.UpToSlots s'.heap) (XB : KF.In base) (TB : Top p loose mean mg mb base)
    (D : KtsDicts (outer.filterMap (·.frame)) g) (T0 : KtsTurn (outer.filterMap (·.frame)) g₀ g)
    (ex : nsIn KF mainGlobals x = some none) (hv : bootBuiltins x = some (.type T')) (hn' : x ≠ "__name__")
    (hexc : isSubtype (.type T') (.type "BaseException") = pure true) (hnt : isSubtype (.type ((Manifest.find? T').elim "type" fun y => y.metatype)) (.type "tuple") = pure false) (hsub : isSubtype (.type X) (.type T') = pure true)
    (k : ∀ h' g', KtsTurn (outer.filterMap (·.frame)) g₀ g' → Fr g' L h' m → News g' L h' news → Below A₀ base outer g' → KF.In g' → Top p loose mean mg mb g' → KtsDicts (outer.filterMap (·.frame)) g' →
      wpAny (model prog w) ((A₀.deeper (envX name scope L a cd cl)).mark (some (.ref e))) (execs (b₀ :: suite) (envX name scope L a cd cl)) Q E { s' with heap := h' })
    (hk : scope.kind = .function) (hx : (envX name scope L a cd cl).kindOf x = some .globalImplicit) (hd : (x == ("__debug__" : Str)) = false)
    (hE : PassesOwnAt (model prog w) ((A₀.deeper (envX name scope L a cd cl)).mark (some (.ref e))) (A₀.deeper (envX name scope L a cd cl)) (envX name scope L a cd cl) E) :
    wpAny (model prog w) (A₀.deeper (envX name scope L a cd cl)) (noteFrame (.ref e) (envX name scope L a cd cl))
      (fun _ s₂ => wpAny (model prog w) (A₀.deeper (envX name scope L a cd cl)) (setFlight (.ref e) none) (fun _ s₃ =>
        wpAny (model prog w) (A₀.deeper (envX name scope L a cd cl)) (handleBy (.ref e) (envX name scope L a cd cl) (.ExceptHandler (some (.Name x np)) none (b₀ :: suite) pos :: rest)) Q E s₃) E s₂) E s' := by
  obtain ⟨B, a0, hB, hBG, hl, hfl⟩ := R
  have hL : B.get? L = none := by
    obtain ⟨_, ⟨L', _, hf, hn', _⟩, _⟩ := hfl.2.2.1
    obtain rfl : L = L' := Option.some.inj hf
    exact hn'
  refine wpAny_looks_onW (Around.frames_deeper K.stack) rfl hfl fun h₄ hheld₄ hsm₄ => ?_
  refine wpAny_landsW hheld₄ fun h₅ hheld hsm₅' => ?_
  have hsm₅ := hsm₄.trans hsm₅'
  obtain ⟨g₅, T₅, F₅, K₅⟩ := kts_ground (name := name) (scope := scope) (a := a) (cd := cd) K F hBG hheld.1 (hsm.trans hsm₅)
  have X₅ : KF.In g₅ := XB.keeps K₅.stays
  have P₅ : TopRead p loose mg mb g₅ := topRead_of (TB.keeps K₅.stays)
  obtain ⟨ob, hob, hobc⟩ := hheld.there
  refine wpAny_handleBy_builtin (X := X) (T := T') (b := true) hexc hnt hsub (nameX_B F₅ X₅ P₅ ex hv hn' ⟨rfl, ⟨ob, hob, hobc⟩, ?_⟩ hk hx hd)
  refine lands_againW hheld fun h₆ hfl₆ hsm₆ => ?_
  obtain ⟨g₆, T₆, F₆, K₆⟩ := kts_ground (name := name) (scope := scope) (a := a) (cd := cd) K F hBG hfl₆.1 ((hsm.trans hsm₅).trans hsm₆)
  have Nl : News g₆ L h₆ news := fun q hq => ⟨hfl₆.1 _ _ (hl q hq).1, (fun z => by have := (hl q hq).1; rw [z, hL] at this; cases this), T₆.none_ _ (kts_none F.keep (hl q hq).2.1)⟩
  exact wpAny_passesOwnAt hE (k h₆ g₆ (T0.trans T₆) F₆ Nl K₆ (XB.keeps K₆.stays) (TB.keeps K₆.stays) (D.turn T₆))

/-- the first clause does not match and the second does, in a frame with cells -/
theorem caughtX2 (R : RaisedSN base G (envX name scope L a cd cl :: outer) e (.type X) news s'.heap) (F : Fr g L G m) (K : Below A₀ base outer g) (hsm : G.UpToSlots s'.heap) (XB : KF.In base) (TB : Top p loose mean mg mb base)
    (D : KtsDicts (outer.filterMap (·.frame)) g) (T0 : KtsTurn (outer.filterMap (·.frame)) g₀ g)
    (ex₁ : nsIn KF mainGlobals x₁ = some none) (hv₁ : bootBuiltins x₁ = some (.type T₁)) (hn₁ : x₁ ≠ "__name__")
    (hexc₁ : isSubtype (.type T₁) (.type "BaseException") = pure true) (hnt₁ : isSubtype (.type ((Manifest.find? T₁).elim "type" fun y => y.metatype)) (.type "tuple") = pure false) (hsub₁ : isSubtype (.type X) (.type T₁) = pure false)
    (ex : nsIn KF mainGlobals x = some none) (hv : bootBuiltins x = some (.type T')) (hn' : x ≠ "__name__")
    (hexc : isSubtype (.type T') (.type "BaseException") = pure true) (hnt : isSubtype (.type ((Manifest.find? T').elim "type" fun y => y.metatype)) (.type "tuple") = pure false) (hsub : isSubtype (.type X) (.type T') = pure true)
    (k : ∀ h' g', KtsTurn (outer.filterMap (·.frame)) g₀ g' → Fr g' L h' m → News g' L h' news → Below A₀ base outer g' → KF.In g' → Top p loose mean mg mb g' → KtsDicts (outer.filterMap (·.frame)) g' →
      wpAny (model prog w) ((A₀.deeper (envX name scope L a cd cl)).mark (some (.ref e))) (execs (b₀ :: suite) (envX name scope L a cd cl)) Q E { s' with heap := h' })
    (hk : scope.kind = .function) (hx₁ : (envX name scope L a cd cl).kindOf x₁ = some .globalImplicit) (hx : (envX name scope L a cd cl).kindOf x = some .globalImplicit) (hd₁ : (x₁ == ("__debug__" : Str)) = false) (hd : (x == ("__debug__" : Str)) = false)
    (hE : PassesOwnAt (model prog w) ((A₀.deeper (envX name scope L a cd cl)).mark (some (.ref e))) (A₀.deeper (envX name scope L a cd cl)) (envX name scope L a cd cl) E) :
    wpAny (model prog w) (A₀.deeper (envX name scope L a cd cl)) (noteFrame (.ref e) (envX name scope L a cd cl))
      (fun _ s₂ => wpAny (model prog w) (A₀.deeper (envX name scope L a cd cl)) (setFlight (.ref e) none) (fun _ s₃ =>
        wpAny (model prog w) (A₀.deeper (envX name scope L a cd cl)) (handleBy (.ref e) (envX name scope L a cd cl) (.ExceptHandler (some (.Name x₁ np₁)) none (b₁ :: suite₁) pos₁ :: .ExceptHandler (some (.Name x np)) none (b₀ :: suite) pos :: rest)) Q E s₃) E s₂) E s' := by
  obtain ⟨B, a0, hB, hBG, hl, hfl⟩ := R
  have hL : B.get? L = none := by
    obtain ⟨_, ⟨L', _, hf, hn', _⟩, _⟩ := hfl.2.2.1
    obtain rfl : L = L' := Option.some.inj hf
    exact hn'
  refine wpAny_looks_onW (Around.frames_deeper K.stack) rfl hfl fun h₄ hheld₄ hsm₄ => ?_
  refine wpAny_landsW hheld₄ fun h₅ hheld hsm₅' => ?_
  have hsm₅ := hsm₄.trans hsm₅'
  obtain ⟨g₅, T₅, F₅, K₅⟩ := kts_ground (name := name) (scope := scope) (a := a) (cd := cd) K F hBG hheld.1 (hsm.trans hsm₅)
  have X₅ : KF.In g₅ := XB.keeps K₅.stays
  have P₅ : TopRead p loose mg mb g₅ := topRead_of (TB.keeps K₅.stays)
  obtain ⟨ob, hob, hobc⟩ := hheld.there
  refine wpAny_handleBy_builtin (X := X) (T := T₁) (b := false) hexc₁ hnt₁ hsub₁ (nameX_B F₅ X₅ P₅ ex₁ hv₁ hn₁ ⟨rfl, ⟨ob, hob, hobc⟩, ?_⟩ hk hx₁ hd₁)
  simp only [Bool.false_eq_true, if_false]
  refine wpAny_handleBy_builtin (X := X) (T := T') (b := true) hexc hnt hsub (nameX_B F₅ X₅ P₅ ex hv hn' ⟨rfl, ⟨ob, hob, hobc⟩, ?_⟩ hk hx hd)
  refine lands_againW hheld fun h₆ hfl₆ hsm₆ => ?_
  obtain ⟨g₆, T₆, F₆, K₆⟩ := kts_ground (name := name) (scope := scope) (a := a) (cd := cd) K F hBG hfl₆.1 ((hsm.trans hsm₅).trans hsm₆)
  have Nl : News g₆ L h₆ news := fun q hq => ⟨hfl₆.1 _ _ (hl q hq).1, (fun z => by have := (hl q hq).1; rw [z, hL] at this; cases this), T₆.none_ _ (kts_none F.keep (hl q hq).2.1)⟩
  exact wpAny_passesOwnAt hE (k h₆ g₆ (T0.trans T₆) F₆ Nl K₆ (XB.keeps K₆.stays) (TB.keeps K₆.stays) (D.turn T₆))
end

end
noncomputable section
open PySem PySem.Calls PyProof.Rows PySem.W
section
variable {prog : Program} {w : World} {A : Around} {E : Value → Shared → Prop} {s : Shared} {h₀ : Heap} {L : Addr} {m : Str → Option Value} {news : List (Addr × Obj)} {Q : Value → Shared → Prop}
theorem len_n {D : Addr} {us : List Value} {n : Nat} (hN : News h₀ L s.heap news) (hD : (D, listOf us.toArray n) ∈ news) (hl : us.length ≤ 100000)
    (h : Q (.int us.length (s.toks + 1)) { s with toks := s.toks + 1 + 1 }) : wpAny (model prog w) A (call (.builtin "len") [.ref D]) Q E s := by
  refine len_list (News.isList hN hD) (by rw [List.size_toArray]; omega) ?_
  rw [List.size_toArray]; exact h
end

end
noncomputable section
open PySem PySem.Calls PyProof.Rows PySem.W
/-- strip of a text between white signs -/
theorem takeWhile_app {f : Nat → Bool} : ∀ {a r : List Nat}, (∀ c ∈ a, f c = true) → (∀ c, r.head? = some c → f c = false) → (a ++ r).takeWhile f = a
  | [], r, _, h => by
    cases r with
    | nil => rfl
    | cons c t => simp [h c rfl]
  | c :: t, r, ha, h => by
    rw [List.cons_append, List.takeWhile_cons_of_pos (ha c (List.mem_cons_self ..)), takeWhile_app (fun x hx => ha x (List.mem_cons_of_mem _ hx)) h]
theorem strip_mid {a q b : List Nat} (ha : ∀ c ∈ a, Unicode.isSpace c = true) (hb : ∀ c ∈ b, Unicode.isSpace c = true) (hq : q ≠ []) (h1 : ∀ c, q.head? = some c → Unicode.isSpace c = false) (h2 : ∀ c, q.getLast? = some c → Unicode.isSpace c = false) :
    Txt.strip (ofL (a ++ q ++ b)) = ofL q := by
  have hlo : stripLo Unicode.isSpace true (ofL (a ++ q ++ b)) = a.length := by
    simp only [stripLo, if_true, ofL_cps]
    rw [List.append_assoc, takeWhile_app ha]
    intro c hc
    cases q with
    | nil => exact absurd rfl hq
    | cons x t => exact h1 c hc
  have hhi : stripHi Unicode.isSpace true (ofL (a ++ q ++ b)) a.length = (a ++ q ++ b).length - b.length := by
    simp only [stripHi, if_true, ofL_cps, ofL_length]
    have e : ((a ++ q ++ b).drop a.length).reverse = b.reverse ++ q.reverse := by
      rw [List.append_assoc, List.drop_left, List.reverse_append]
    rw [e, takeWhile_app (fun c hc => hb c (List.mem_reverse.mp hc)), List.length_reverse]
    intro c hc
    exact h2 c (by rw [List.getLast?_eq_head?_reverse]; exact hc)
  unfold Txt.strip Txt.stripBy
  split
  · rename_i hs
    simp only [stripSame, hlo, hhi, Bool.and_eq_true, beq_iff_eq, ofL_length] at hs
    obtain ⟨hs1, hs2⟩ := hs
    have hq2 : 0 < q.length := List.length_pos_iff.mpr hq
    simp only [List.length_append] at hs2
    have ea : a = [] := List.length_eq_zero_iff.mp hs1
    have eb : b = [] := List.length_eq_zero_iff.mp (by omega)
    rw [ea, eb]; simp
  · unfold PySem.stripped
    rw [hlo, hhi]
    refine PySem.Str.ext' (Array.toList_inj.mp ?_)
    rw [StrLaws.strSub_toList, ofL_cps, ofL_cps]
    rw [List.append_assoc, List.drop_left]
    rw [show (a ++ (q ++ b)).length - b.length - a.length = q.length by simp only [List.length_append]; omega]
    simp
/-- a written text: the reading goes over it and has read a text -/
def Reads1 (r q : List Nat) : Prop := ∀ res part, r.foldl pstep (res, part, false, false) = (res, part ++ q, false, false)
theorem reads_plain {r : List Nat} (h44 : 44 ∉ r) (h34 : 34 ∉ r) : Reads1 r r := by
  intro res part
  induction r generalizing part with
  | nil => simp
  | cons c t ih =>
    have n1 : ¬ c = 44 := fun e => h44 (e ▸ List.mem_cons_self ..)
    have n2 : ¬ c = 34 := fun e => h34 (e ▸ List.mem_cons_self ..)
    rw [List.foldl_cons]
    have e : pstep (res, part, false, false) c = (res, part ++ [c], false, false) := by simp only [pstep, if_neg n1, if_neg n2]
    rw [e, ih (fun hm => h44 (List.mem_cons_of_mem _ hm)) (fun hm => h34 (List.mem_cons_of_mem _ hm))]
    simp
theorem Reads1.app {r q r' q' : List Nat} (h : Reads1 r q) (h' : Reads1 r' q') : Reads1 (r ++ r') (q ++ q') := by
  intro res part
  rw [List.foldl_append, h, h', List.append_assoc]
theorem esc_cons (c : Nat) (v : List Nat) : escL (c :: v) = (if c = 92 then [92, 92] else if c = 34 then [92, 34] else [c]) ++ escL v := by
  unfold escL flatR
  by_cases h : c = 92
  · subst h; simp
  · by_cases h2 : c = 34
    · subst h2; simp
    · simp [h, h2]
theorem esc_read (v : List Nat) : ∀ (res : List (List Nat)) (part : List Nat), (escL v).foldl pstep (res, part, false, true) = (res, part ++ v, false, true) := by
  induction v with
  | nil => intro res part; simp [escL, flatR]
  | cons c t ih =>
    intro res part
    rw [esc_cons, List.foldl_append]
    by_cases h : c = 92
    · subst h
      simp only [if_true, List.foldl_cons, List.foldl_nil, pstep]
      rw [ih]; simp
    · by_cases h2 : c = 34
      · subst h2
        simp only [if_neg h, if_true, List.foldl_cons, List.foldl_nil, pstep]
        rw [ih]; simp
      · simp only [if_neg h, if_neg h2, List.foldl_cons, List.foldl_nil, pstep]
        rw [ih]; simp
def qp (p : List Nat × List Nat) : List Nat := p.1 ++ 61 :: 34 :: (p.2 ++ [34])
theorem wr_read {p : List Nat × List Nat} (h44 : 44 ∉ p.1) (h34 : 34 ∉ p.1) : Reads1 (wrP p) (qp p) := by
  have h1 : Reads1 (p.1 ++ [61]) (p.1 ++ [61]) := reads_plain (by simp [h44]) (by simp [h34])
  have h2 : Reads1 (34 :: (escL p.2 ++ [34])) (34 :: (p.2 ++ [34])) := by
    intro res part
    rw [List.foldl_cons, List.foldl_append]
    have e : pstep (res, part, false, false) 34 = (res, part ++ [34], false, true) := by simp [pstep]
    rw [e, esc_read]
    simp [pstep]
  have := h1.app h2
  unfold wrP qp
  simpa using this
def brk : List Nat := [98, 114, 111, 107, 101, 110]
/-- what a gap does -/
structure Gap (g : List Nat) (step : Int) (trail lead : List Nat) (mid : List (List Nat)) (s' : List Nat) : Prop where
  tr : ∀ c ∈ trail, Unicode.isSpace c = true
  le : ∀ c ∈ lead, Unicode.isSpace c = true
  run : ∀ res part, g.foldl pstep (res, part, false, false) = (res ++ (part ++ trail) :: mid, lead, false, false)
  st : (step = 1 ∧ mid = []) ∨ (step = 2 ∧ ∃ u, mid = [u] ∧ Txt.strip (ofL u) = ofL s')
/-- the texts with what stands between them -/
def weave (step : Int) (s' : List Nat) : List (List Nat) → List (List Nat)
  | [] => []
  | [q] => [q]
  | q :: q2 :: r => if step = 1 then q :: weave step s' (q2 :: r) else q :: s' :: weave step s' (q2 :: r)
theorem weave_step {step : Int} {s' : List Nat} (hs : step = 1 ∨ step = 2) : ∀ (qs : List (List Nat)), stepL step (weave step s' qs) = qs
  | [] => by unfold stepL weave; split <;> rfl
  | [q] => by unfold stepL weave; split <;> rfl
  | q :: q2 :: r => by
    have ih := weave_step (s' := s') hs (q2 :: r)
    rcases hs with rfl | rfl
    · simp only [stepL, weave, if_true] at ih ⊢
      rw [ih]
    · simp only [stepL, weave, show ¬ ((2 : Int) = 1) by decide, if_false, evens] at ih ⊢
      rw [ih]
/-- a text that strip leaves alone -/
structure Solid (q : List Nat) : Prop where
  ne : q ≠ []
  hd : ∀ c, q.head? = some c → Unicode.isSpace c = false
  lt : ∀ c, q.getLast? = some c → Unicode.isSpace c = false
abbrev sOf (w : List Nat) : Str := Txt.strip (ofL w)
theorem join_read {g : List Nat} {step : Int} {trail lead : List Nat} {mid : List (List Nat)} {s' : List Nat} (G : Gap g step trail lead mid s') :
    ∀ (its : List (List Nat × List Nat)) (res : List (List Nat)) (part : List Nat), its ≠ [] → (∀ p ∈ its, Reads1 p.1 p.2 ∧ Solid p.2) → (∀ c ∈ part, Unicode.isSpace c = true) →
      ∃ P lp, (joinS g (its.map Prod.fst)).foldl pstep (res, part, false, false) = (res ++ P, lp, false, false) ∧ lp ≠ [] ∧ (P ++ [lp]).map sOf = (weave step s' (its.map Prod.snd)).map ofL
  | [], _, _, h, _, _ => absurd rfl h
  | [p], res, part, _, hp, hs => by
    obtain ⟨hr, hq⟩ := hp p (List.mem_cons_self ..)
    refine ⟨[], part ++ p.2, ?_, ?_, ?_⟩
    · simp only [List.map_cons, List.map_nil, joinS, List.append_nil]; exact hr res part
    · intro e; exact hq.ne (List.append_eq_nil_iff.mp e).2
    · simp only [List.nil_append, List.map_cons, List.map_nil, weave, sOf]
      have := strip_mid (b := []) hs (fun _ h => nomatch h) hq.ne hq.hd hq.lt
      rw [List.append_nil] at this
      rw [this]
  | p :: p2 :: r, res, part, _, hp, hs => by
    obtain ⟨hr, hq⟩ := hp p (List.mem_cons_self ..)
    obtain ⟨P, lp, h1, h2, h3⟩ := join_read G (p2 :: r) (res ++ (part ++ p.2 ++ trail) :: mid) lead (by simp) (fun q hq => hp q (List.mem_cons_of_mem _ hq)) G.le
    refine ⟨(part ++ p.2 ++ trail) :: mid ++ P, lp, ?_, h2, ?_⟩
    · simp only [List.map_cons, joinS] at h1 ⊢
      rw [List.foldl_append, List.foldl_append, hr, G.run, h1]
      simp
    · have e := strip_mid hs G.tr hq.ne hq.hd hq.lt
      simp only [List.map_cons] at h3 ⊢
      rcases G.st with ⟨rfl, rfl⟩ | ⟨rfl, u, rfl, hu⟩
      · simp only [weave, if_true, List.cons_append, List.nil_append, List.map_cons, sOf]
        rw [e, show (P ++ [lp]).map sOf = _ from h3]
      · simp only [weave, show ¬ ((2 : Int) = 1) by decide, if_false, List.cons_append, List.nil_append, List.map_cons, sOf]
        rw [e, hu, show (P ++ [lp]).map sOf = _ from h3]
theorem brk_solid : Solid brk := ⟨by decide, fun c hc => by simp [brk] at hc; subst hc; decide +kernel, fun c hc => by simp [brk] at hc; subst hc; decide +kernel⟩
theorem joinS_snoc (g x : List Nat) : ∀ (l : List (List Nat)), l ≠ [] → joinS g (l ++ [x]) = joinS g l ++ (g ++ x)
  | [], h => absurd rfl h
  | [a], _ => by simp [joinS]
  | a :: b :: r, _ => by
    have ih := joinS_snoc g x (b :: r) (by simp)
    simp only [List.cons_append, joinS] at ih ⊢
    rw [ih]; simp
end
noncomputable section
open PySem PySem.Calls PyProof.Rows PySem.W
theorem qp_key {p : List Nat × List Nat} (h : 61 ∉ p.1) : keyOf (qp p) = p.1 := keyOf_app h
theorem kq_quoted (v : List Nat) : kq (34 :: (v ++ [34])) = v := by
  unfold kq
  rw [if_pos ⟨rfl, by rw [show 34 :: (v ++ [34]) = (34 :: v) ++ [34] from rfl, List.getLast?_concat]⟩]
  simp
theorem drop_key {k r : List Nat} (h : 61 ∉ k) : (k ++ 61 :: r).dropWhile (fun c => c != 61) = 61 :: r := by
  induction k with
  | nil => simp
  | cons c t ih =>
    have hc : (c != 61) = true := bne_iff_ne.mpr fun e => h (e ▸ List.mem_cons_self ..)
    rw [List.cons_append, List.dropWhile_cons_of_pos (p := fun c => c != 61) hc]
    exact ih fun hm => h (List.mem_cons_of_mem _ hm)
theorem qp_val {p : List Nat × List Nat} (h : 61 ∉ p.1) : valOf (qp p) = p.2 := by
  unfold valOf qp
  rw [drop_key h, List.drop_succ_cons, List.drop_zero, kq_quoted]
end
noncomputable section
open PySem PySem.Calls PyProof.Rows PySem.W
theorem ints_all : ∀ {l : List Value}, (∀ v ∈ l, ∃ n t, v = Value.int n t) → ∃ ns, IntsAre l ns
  | [], _ => ⟨[], .nil⟩
  | v :: r, h => by
    obtain ⟨n, t, rfl⟩ := h v (List.mem_cons_self ..)
    obtain ⟨ns, hn⟩ := ints_all fun u hu => h u (List.mem_cons_of_mem _ hu)
    exact ⟨n :: ns, .cons n t hn⟩
/-- a slice of a list of ints is one -/
theorem ints_pick {vs : List Value} {ns : List Int} (h : IntsAre vs ns) (lo hi st : Option Int) : ∃ ms, IntsAre (slicePick vs.toArray lo hi st).toList ms := by
  refine ints_all fun v hv => ?_
  unfold slicePick at hv
  simp only [List.toList_toArray, List.mem_filterMap] at hv
  obtain ⟨i, _, hi⟩ := hv
  obtain ⟨n, t, e, _⟩ := ints_at h (by simpa using hi)
  exact ⟨n, t, e⟩
theorem pick_len {vs : List Value} {k : Int} (hk : 0 < k) : (slicePick vs.toArray none none (some k)).toList.length ≤ vs.length := by
  unfold slicePick
  have e : sliceBounds none none (some k) vs.toArray.size = (0, (vs.length : Int), k) := by simp [sliceBounds, hk, Int.not_lt.mpr (Int.le_of_lt hk)]
  rw [e]
  simp only [List.toList_toArray]
  refine Nat.le_trans (List.length_filterMap_le _ _) ?_
  unfold sliceRange
  simp only [gt_iff_lt, hk, if_true, Int.sub_zero, List.length_map, List.length_range]
  split
  · have h1 : ((vs.length : Int) + k - 1) / k ≤ vs.length := by
      have : (vs.length : Int) + k - 1 ≤ vs.length * k := by
        have h2 : (0 : Int) ≤ ((vs.length : Int) - 1) * (k - 1) := Int.mul_nonneg (by omega) (by omega)
        have h3 : ((vs.length : Int) - 1) * (k - 1) = vs.length * k - vs.length - k + 1 := by
          rw [Int.sub_mul, Int.mul_sub]; omega
        omega
      exact Int.le_of_lt_add_one (Int.ediv_lt_of_lt_mul hk (by rw [Int.add_mul]; omega))
    omega
  · simp

end
noncomputable section
open PySem PySem.Calls PyProof.Rows PySem.W
/-- what _law_text gives -/
def textL (n : Int) : List Nat := (List.range (n.fmod 3).toNat).map fun k => sg7 (n.fdiv (7 ^ k))
theorem textL_len (n : Int) : (textL n).length ≤ 2 := by
  have h2 : n.fmod 3 < 3 := Int.fmod_lt_of_pos n (by decide)
  unfold textL
  rw [List.length_map, List.length_range]; omega
theorem sg7_sign (n : Int) : sign7 (sg7 n) := by
  have h1 : 0 ≤ n.fmod 7 := by rw [Int.fmod_eq_emod_of_nonneg _ (by decide)]; exact Int.emod_nonneg _ (by decide)
  have h2 : n.fmod 7 < 7 := Int.fmod_lt_of_pos n (by decide)
  unfold sg7
  generalize n.fmod 7 = k at h1 h2
  have : k = 0 ∨ k = 1 ∨ k = 2 ∨ k = 3 ∨ k = 4 ∨ k = 5 ∨ k = 6 := by omega
  unfold sign7
  rcases this with rfl | rfl | rfl | rfl | rfl | rfl | rfl <;> decide
theorem textL_sign (n : Int) : ∀ c ∈ textL n, sign7 c := by
  intro c hc
  obtain ⟨k, _, rfl⟩ := List.mem_map.mp hc
  exact sg7_sign _
theorem fmod3_nat (n : Int) : ∃ k : Nat, n.fmod 3 = (k : Int) ∧ k < 3 := by
  have h1 : 0 ≤ n.fmod 3 := by rw [Int.fmod_eq_emod_of_nonneg _ (by decide)]; exact Int.emod_nonneg _ (by decide)
  have h2 : n.fmod 3 < 3 := Int.fmod_lt_of_pos n (by decide)
  exact ⟨(n.fmod 3).toNat, by omega, by omega⟩
theorem small_of {k : Nat} (h : k < 3) : Builtin.Range.small 0 (k : Int) 1 = true := by
  have : k = 0 ∨ k = 1 ∨ k = 2 := by omega
  rcases this with rfl | rfl | rfl <;> decide +kernel
theorem rsize_of {k : Nat} (h : k < 3) : Builtin.Range.rangeSize 0 (k : Int) 1 = ((k : Nat) : Int) := by
  have : k = 0 ∨ k = 1 ∨ k = 2 := by omega
  rcases this with rfl | rfl | rfl <;> decide +kernel
theorem text_next {n : Int} {i : Nat} {ys : List Value} {t : Tok} {e : Nat} (hR : StrsAre ys (((List.range i).map fun k => sg7 (n.fdiv (7 ^ k))).map fun c => ofL [c])) (he : e = i) :
    StrsAre (ys ++ [.str (Txt.item (Str.ofString "a,\"\\ =;") ((n.fdiv (7 ^ e)).fmod 7)) t]) (((List.range (i + 1)).map fun k => sg7 (n.fdiv (7 ^ k))).map fun c => ofL [c]) := by
  rw [sg7_item, he, List.range_succ, List.map_append, List.map_append]
  exact strsAre_append hR (.cons _ _ .nil)

end
noncomputable section
open PySem PySem.Calls PyProof.Rows PySem.W
/-- what _law_plain gives -/
def plainL (m : Int) : List Nat := if (m.fdiv 4).fmod 2 = 0 then [34, 111, 34, 39, 92] else [111, 92, 34, 100, 34]
theorem fmod2 (n : Int) : n.fmod 2 = 0 ∨ n.fmod 2 = 1 := by
  have h1 : 0 ≤ n.fmod 2 := by rw [Int.fmod_eq_emod_of_nonneg _ (by decide)]; exact Int.emod_nonneg _ (by decide)
  have h2 : n.fmod 2 < 2 := Int.fmod_lt_of_pos n (by decide)
  omega
/-- what _law_answered gives -/
def ansL (r n k : List Nat) : List (List Nat × List Nat) := [([114], r), ([110], n), ([97], k ++ n.reverse)]
theorem rl_r : Str.ofString "r" = ofL [114] := by decide
theorem rl_n : Str.ofString "n" = ofL [110] := by decide
theorem rl_a : Str.ofString "a" = ofL [97] := by decide
theorem said_three {h₀ h : Heap} {L D1 D2 D3 l' : Addr} {x1 y1 x2 y2 x3 y3 : Str} {t1 t2 t3 t4 t5 t6 : Tok} {k : Nat} {big rest : List (Addr × Obj)} {p1 p2 p3 : List Nat × List Nat}
    (N : News h₀ L h big) (m1 : (l', listOf #[.ref D1, .ref D2, .ref D3] k) ∈ big) (m2 : (D1, tupS x1 t1 y1 t2) ∈ big) (m3 : (D2, tupS x2 t3 y2 t4) ∈ big) (m4 : (D3, tupS x3 t5 y3 t6) ∈ big)
    (hs : ∀ q ∈ rest, q ∈ big) (e1 : x1 = ofL p1.1) (e2 : y1 = ofL p1.2) (e3 : x2 = ofL p2.1) (e4 : y2 = ofL p2.2) (e5 : x3 = ofL p3.1) (e6 : y3 = ofL p3.2) (a0 : AllLt l' rest) (a1 : AllLt D1 rest) (a2 : AllLt D2 rest) (a3 : AllLt D3 rest) :
    News h₀ L h ((l', listOf [Value.ref D1, .ref D2, .ref D3].toArray k) :: ([(D1, tupS x1 t1 y1 t2), (D2, tupS x2 t3 y2 t4), (D3, tupS x3 t5 y3 t6)] ++ rest)) ∧ DatAll [(D1, tupS x1 t1 y1 t2), (D2, tupS x2 t3 y2 t4), (D3, tupS x3 t5 y3 t6)] [Value.ref D1, .ref D2, .ref D3] ([p1, p2, p3].map prD) ∧
      (∀ q ∈ (l', listOf [Value.ref D1, .ref D2, .ref D3].toArray k) :: [(D1, tupS x1 t1 y1 t2), (D2, tupS x2 t3 y2 t4), (D3, tupS x3 t5 y3 t6)], ∀ r ∈ rest, @LT.lt Nat _ r.1 q.1) := by
  refine ⟨fun q hq => ?_, .cons (dat_pair (List.mem_cons_self ..) e1 e2) (.cons (dat_pair (List.mem_cons_of_mem _ (List.mem_cons_self ..)) e3 e4) (.cons (dat_pair (List.mem_cons_of_mem _ (List.mem_cons_of_mem _ (List.mem_cons_self ..))) e5 e6) .nil)), List.forall_mem_cons.mpr ⟨lt_of a0, List.forall_mem_cons.mpr ⟨lt_of a1, List.forall_mem_cons.mpr ⟨lt_of a2, List.forall_mem_cons.mpr ⟨lt_of a3, fun _ h => nomatch h⟩⟩⟩⟩⟩
  rcases List.mem_cons.mp hq with rfl | hq
  · exact N _ m1
  · rcases List.mem_append.mp hq with hq | hq
    · simp only [List.mem_cons, List.not_mem_nil, or_false] at hq
      rcases hq with rfl | rfl | rfl
      · exact N _ m2
      · exact N _ m3
      · exact N _ m4
    · exact N _ (hs q hq)
theorem plain_0 {m : Int} (h : (m.fdiv 4).fmod 2 = 0) : Str.ofString "\"o\"'\\" = ofL (plainL m) := by unfold plainL; rw [h]; decide
theorem plain_1 {m : Int} (h : (m.fdiv 4).fmod 2 = 1) : Str.ofString "o\\\"d\"" = ofL (plainL m) := by unfold plainL; rw [h]; decide
def hasG (l : List Nat) : Bool := Txt.contains (ofL l) (Str.ofString ",,\n")
def stepOf (l : List Nat) : Int := if hasG l then 2 else 1
theorem strs_cast {us : List Value} {l : List Nat} {ws : List (List Nat)} (h : StrsAre us ((pparts l).map fun w => Txt.strip (ofL w))) (e : ((pparts l).map fun w => Txt.strip (ofL w)) = ws.map ofL) : StrsAre us (ws.map ofL) := e ▸ h
theorem parts_ws {l : List Nat} {ws : List (List Nat)} (e : ((pparts l).map fun w => Txt.strip (ofL w)) = ws.map ofL) : ws.length ≤ l.length := by
  have h := congrArg List.length e
  rw [List.length_map, List.length_map] at h
  have := pparts_count l
  omega

end
noncomputable section
open PySem PySem.Calls PyProof.Rows PySem.W PyProof.V PySem.Spec
/-- data that may hold bools, compared with itself -/
def dOk : Nat → Dat → Bool
  | _, .none => true
  | _, .bool _ => true
  | _, .int _ => true
  | _, .str x => PyData.strOk x
  | n + 1, .tuple ds => ds.all (dOk n)
  | n + 1, .list ds => ds.all (dOk n)
  | _, _ => false
section
variable {h₀ h : Heap} {L : Addr} {news : List (Addr × Obj)}
mutual
theorem d_in (N : News h₀ L h news) : ∀ {v : Value} {d : Dat} (n : Nat), DatIn news v d → dOk n d = true → ∃ as, Reads h v (kqdP d) as
  | _, _, _, .none, _ => ⟨_, Reads.none⟩
  | _, _, _, .bool b, _ => ⟨_, Reads.bool b⟩
  | _, _, _, .int i t, _ => ⟨_, Reads.int i t⟩
  | _, _, _, .str x t, _ => ⟨_, Reads.str x t⟩
  | _, _, n, .bytes _ _, hk => by cases n <;> simp [dOk] at hk
  | _, _, 0, .tuple _ _, hk => by simp [dOk] at hk
  | _, _, 0, .list _ _, hk => by simp [dOk] at hk
  | _, _, n + 1, .tuple hm r, hk => by
    obtain ⟨as, q⟩ := d_all N n r (by simpa [dOk] using hk)
    rw [kqdP]
    exact ⟨as, reads_tuple_at (N.get hm) rfl rfl (by simpa using q)⟩
  | _, _, n + 1, .list hm r, hk => by
    obtain ⟨as, q⟩ := d_all N n r (by simpa [dOk] using hk)
    rw [kqdP]
    exact ⟨_, reads_list_at (N.get hm) rfl rfl (by simpa [W.listOf] using q)⟩
theorem d_all (N : News h₀ L h news) : ∀ {vs : List Value} {ds : List Dat} (n : Nat), DatAll news vs ds → (∀ d ∈ ds, dOk n d = true) → ∃ as, ReadsAll h vs (kqdPs ds) as
  | _, _, _, .nil, _ => ⟨_, ReadsAll.nil⟩
  | _, _, n, .cons hd r, hk => by
    obtain ⟨as, q⟩ := d_in N n hd (hk _ (.head _))
    obtain ⟨bs, p⟩ := d_all N n r fun d hm => hk d (.tail _ hm)
    rw [kqdPs]
    exact ⟨_, ReadsAll.cons q p⟩
end
end
theorem d_lay : ∀ (n : Nat) (d : Dat), dOk n d = true → (kqdP d).canLay0 = true ∧ (kqdP d).depth ≤ n := by
  have all : ∀ (n : Nat), (∀ d, dOk n d = true → (kqdP d).canLay0 = true ∧ (kqdP d).depth ≤ n) → ∀ ds : List Dat, (∀ d ∈ ds, dOk n d = true) → PyData.canLayAll0 (kqdPs ds) = true ∧ PyData.depthAll (kqdPs ds) ≤ n := by
    intro n ih ds
    induction ds with
    | nil => intro _; simp [kqdPs, PyData.canLayAll0, PyData.depthAll]
    | cons d ds hi =>
      intro h
      have h1 := ih d (h d (.head _))
      have h2 := hi fun e he => h e (.tail _ he)
      simp only [kqdPs, PyData.canLayAll0, PyData.depthAll, h1.1, h2.1, Bool.and_self, true_and]
      have a1 := h1.2
      have a2 := h2.2
      omega
  intro n
  induction n with
  | zero =>
    intro d h
    cases d <;> simp_all [dOk, kqdP, PyData.canLay0, PyData.depth]
  | succ n ih =>
    intro d h
    cases d with
    | none => simp [kqdP, PyData.canLay0, PyData.depth]
    | bool b => simp [kqdP, PyData.canLay0, PyData.depth]
    | int i => simp [kqdP, PyData.canLay0, PyData.depth]
    | str x => simp [dOk] at h; simp [kqdP, PyData.canLay0, PyData.depth, h]
    | bytes b => simp [dOk] at h
    | tuple ds =>
      have q := all n ih ds (by simpa [dOk] using h)
      have q2 := q.2
      simp only [kqdP, PyData.canLay0, PyData.depth, q.1, true_and]
      omega
    | list ds =>
      have q := all n ih ds (by simpa [dOk] using h)
      have q2 := q.2
      simp only [kqdP, PyData.canLay0, PyData.depth, q.1, true_and]
      omega
theorem d_same : ∀ (n : Nat) (d : Dat), dOk n d = true → PyData.eqv (kqdP d) (kqdP d) = true := by
  have all : ∀ (n : Nat), (∀ d, dOk n d = true → PyData.eqv (kqdP d) (kqdP d) = true) → ∀ ds : List Dat, (∀ d ∈ ds, dOk n d = true) → PyData.eqvAll (kqdPs ds) (kqdPs ds) = true := by
    intro n ih ds
    induction ds with
    | nil => intro _; simp [kqdPs, PyData.eqvAll]
    | cons d ds hi =>
      intro h
      simp only [kqdPs, PyData.eqvAll, ih d (h d (.head _)), hi fun e he => h e (.tail _ he), Bool.and_self]
  intro n
  induction n with
  | zero =>
    intro d h
    cases d <;> simp_all [dOk, kqdP, PyData.eqv]
  | succ n ih =>
    intro d h
    cases d with
    | tuple ds => simp only [kqdP, PyData.eqv]; exact all n ih ds (by simpa [dOk] using h)
    | list ds => simp only [kqdP, PyData.eqv]; exact all n ih ds (by simpa [dOk] using h)
    | _ => simp_all [dOk, kqdP, PyData.eqv]
section
variable {prog : Program} {w : World} {A : Around} {E : Value → Shared → Prop} {s : Shared} {h₀ : Heap} {L a b : Addr} {news : List (Addr × Obj)} {u v : Value} {d : Dat} {Q : Value → Shared → Prop}
theorem same_ne {n : Nat} (N : News h₀ L s.heap news) (Da : DatIn news u d) (Db : DatIn news v d) (ho : dOk n d = true) (hn : n ≤ 9) (hu : A.units + 64 < cLine) (h : Q (.bool false) s) : wpAny (model prog w) A (compareOp .NotEq u v) Q E s := by
  obtain ⟨as, ra⟩ := d_in N n Da ho
  obtain ⟨bs, rb⟩ := d_in N n Db ho
  have la := d_lay n d ho
  have hs : SeqAt.shaped (kqdP d) = true := by unfold SeqAt.shaped; rw [la.1, Bool.true_and]; exact decide_eq_true (Nat.le_trans la.2 (Nat.le_trans hn (by decide)))
  exact ne_dataH ra rb hs hs hu (by rw [d_same n d ho]; exact h)
end

end
section
open PySem PySem.Calls PyProof.Rows PySem.W
abbrev PL := List (List Nat × List Nat)
noncomputable def srvD (ps : PL) : Dat := .tuple [.str (Str.ofString "server"), .list (ps.map prD)]
noncomputable def cliD (ps : PL) : Dat := .tuple [.str (Str.ofString "client"), .list (ps.map prD)]
noncomputable def htD (c : Int) : Dat := .tuple [.str (Str.ofString "http"), .bool true, .int c, .str (Str.ofString "word")]
noncomputable def cliP (m : Int) (rl nc : List Nat) : PL := [([111], plainL m), ([110], nc), ([114], rl)]
noncomputable def keyL (kd : Int) : List Nat := if kd = 2 then [119] else [107]
noncomputable def stepD (kd m : Int) (rl : List Nat) (i : Nat) : List Dat := cliD (cliP m rl (textL (m + i))) :: srvD (ansL rl (textL (m + i)) (keyL kd)) :: (if kd = 2 then [htD 401] else [])
noncomputable def storyD (kd m : Int) (rl : List Nat) (ps : PL) (i : Nat) : List Dat := srvD ps :: htD 401 :: (List.range i).flatMap (stepD kd m rl)
noncomputable def sentP (kd m : Int) (rl : List Nat) (ps : PL) : Nat → PL
  | 0 => ps
  | i + 1 => ansL rl (textL (m + i)) (keyL kd)
noncomputable def rlm (n : Int) : List Nat := textL ((n.fdiv 6).fdiv 4)
noncomputable def dueS (n : Int) (ps : PL) : List Dat :=
  if n.fmod 6 = 3 ∨ n.fmod 6 = 4 then storyD (n.fmod 6) (n.fdiv 6) (rlm n) ps 0
  else if n.fmod 6 = 2 then storyD 2 (n.fdiv 6) (rlm n) ps 2
  else storyD (n.fmod 6) (n.fdiv 6) (rlm n) ps 1 ++ (if n.fmod 6 = 5 ∧ 250 + (n.fdiv 6).fmod 100 > 299 then [htD (250 + (n.fdiv 6).fmod 100)] else [])
noncomputable def dueE (n : Int) : Dat :=
  if n.fmod 6 = 3 then .str (Str.ofString "ValueError") else if n.fmod 6 = 4 then .str (Str.ofString "IndexError")
  else if n.fmod 6 = 2 then .tuple [.int 401, .int 3]
  else if n.fmod 6 = 5 ∧ 250 + (n.fdiv 6).fmod 100 > 299 then .tuple [.int (250 + (n.fdiv 6).fmod 100), .int 2] else .str (Str.ofString "page")
noncomputable def dueP (n : Int) (ps : PL) : PL :=
  if n.fmod 6 = 3 ∨ n.fmod 6 = 4 then ps else if n.fmod 6 = 2 then sentP 2 (n.fdiv 6) (rlm n) ps 2 else sentP (n.fmod 6) (n.fdiv 6) (rlm n) ps 1
theorem story_succ (kd m : Int) (rl : List Nat) (ps : PL) (i : Nat) : storyD kd m rl ps (i + 1) = storyD kd m rl ps i ++ stepD kd m rl i := by
  unfold storyD
  rw [List.range_succ, List.flatMap_append]
  simp
/-- a ledger that has grown: nothing of the old is lost, what is new lies above all of b -/
structure Ext (b rest nx : List (Addr × Obj)) : Prop where
  old : ∀ q ∈ rest, q ∈ nx
  new : ∀ q ∈ nx, q ∈ rest ∨ ∀ r ∈ b, @LT.lt Nat _ r.1 q.1
theorem Ext.refl {b rest : List (Addr × Obj)} : Ext b rest rest := ⟨fun _ h => h, fun _ h => .inl h⟩
theorem Ext.trans {b b' a c d : List (Addr × Obj)} (h : Ext b a c) (h' : Ext b' c d) (hb : ∀ r ∈ b, ∃ r' ∈ b', r'.1 = r.1) : Ext b a d :=
  ⟨fun q hq => h'.1 q (h.1 q hq), fun q hq => by
    rcases h'.2 q hq with h1 | h1
    · exact h.2 q h1
    · refine .inr fun r hr => ?_
      obtain ⟨r', hr', e⟩ := hb r hr
      rw [← e]; exact h1 r' hr'⟩
theorem Ext.add {b a c : List (Addr × Obj)} (h : Ext b a c) {q : Addr × Obj} (hq : ∀ r ∈ b, @LT.lt Nat _ r.1 q.1) : Ext b a (q :: c) :=
  ⟨fun p hp => List.mem_cons_of_mem _ (h.1 p hp), List.forall_mem_cons.mpr ⟨.inr hq, h.2⟩⟩
theorem Ext.app {b a c d : List (Addr × Obj)} (h : Ext b a c) (hq : ∀ q ∈ d, ∀ r ∈ b, @LT.lt Nat _ r.1 q.1) : Ext b a (d ++ c) :=
  ⟨fun p hp => List.mem_append_right _ (h.1 p hp), fun q hd => (List.mem_append.mp hd).elim (fun x => .inr (hq q x)) (h.2 q)⟩
theorem Ext.off {b a c : List (Addr × Obj)} (h : Ext b a c) {x : Addr} (hx : ∃ r ∈ b, r.1 = x) (ha : ∀ q ∈ a, @Ne Nat q.1 x) : ∀ q ∈ c, @Ne Nat q.1 x := fun q hq => by
  rcases h.2 q hq with h1 | h1
  · exact ha q h1
  · obtain ⟨r, hr, e⟩ := hx
    have := h1 r hr
    rw [e] at this
    exact Nat.ne_of_gt this
theorem ownOff_of {rest : List (Addr × Obj)} {x : Addr} (h : ∀ q ∈ rest, @Ne Nat q.1 x) : OwnOff rest [x] := fun p hp b hb => by rw [List.mem_singleton.mp hb]; exact h p hp
theorem srv_in {nx : List (Addr × Obj)} {T K nk n : Nat} {t : Tok} {ks : List Value} {ps : PL} (h1 : (T, ({ cls := .type "tuple", data := .seq #[.str (Str.ofString "server") t, .ref K] n } : Obj)) ∈ nx) (h2 : (K, listOf ks.toArray nk) ∈ nx) (h3 : DatAll nx ks (ps.map prD)) : DatIn nx (.ref T) (srvD ps) :=
  .tuple (vs := [_, _]) h1 (.cons (.str _ _) (.cons (.list h2 h3) .nil))
theorem cli_in {nx : List (Addr × Obj)} {T K nk n : Nat} {t : Tok} {ks : List Value} {ps : PL} (h1 : (T, ({ cls := .type "tuple", data := .seq #[.str (Str.ofString "client") t, .ref K] n } : Obj)) ∈ nx) (h2 : (K, listOf ks.toArray nk) ∈ nx) (h3 : DatAll nx ks (ps.map prD)) : DatIn nx (.ref T) (cliD ps) :=
  .tuple (vs := [_, _]) h1 (.cons (.str _ _) (.cons (.list h2 h3) .nil))
theorem ht_in {nx : List (Addr × Obj)} {T n : Nat} {t u v : Tok} {c : Int} (h1 : (T, ({ cls := .type "tuple", data := .seq #[.str (Str.ofString "http") t, .bool true, .int c u, .str (Str.ofString "word") v] n } : Obj)) ∈ nx) : DatIn nx (.ref T) (htD c) :=
  .tuple (vs := [_, _, _, _]) h1 (.cons (.str _ _) (.cons (.bool _) (.cons (.int _ _) (.cons (.str _ _) .nil))))
theorem dat_app {nx : List (Addr × Obj)} {a b : List Value} {da db : List Dat} (h : DatAll nx a da) (h' : DatAll nx b db) : DatAll nx (a ++ b) (da ++ db) := h.append h'
theorem dat_three {nx : List (Addr × Obj)} {D1 D2 D3 n1 n2 n3 : Nat} {x1 y1 x2 y2 x3 y3 : Str} {t1 t2 t3 t4 t5 t6 : Tok} {p1 p2 p3 : List Nat × List Nat}
    (m2 : (D1, ({ cls := .type "tuple", data := .seq #[.str x1 t1, .str y1 t2] n1 } : Obj)) ∈ nx) (m3 : (D2, ({ cls := .type "tuple", data := .seq #[.str x2 t3, .str y2 t4] n2 } : Obj)) ∈ nx) (m4 : (D3, ({ cls := .type "tuple", data := .seq #[.str x3 t5, .str y3 t6] n3 } : Obj)) ∈ nx)
    (e1 : x1 = ofL p1.1) (e2 : y1 = ofL p1.2) (e3 : x2 = ofL p2.1) (e4 : y2 = ofL p2.2) (e5 : x3 = ofL p3.1) (e6 : y3 = ofL p3.2) : DatAll nx [.ref D1, .ref D2, .ref D3] ([p1, p2, p3].map prD) :=
  .cons (dat_pair m2 e1 e2) (.cons (dat_pair m3 e3 e4) (.cons (dat_pair m4 e5 e6) .nil))
theorem rl_o : Str.ofString "o" = ofL [111] := by decide
theorem key_2 {kd : Int} (h : kd = 2) : Str.ofString "w" = ofL (keyL kd) := by unfold keyL; rw [if_pos h]; decide
theorem key_k {kd : Int} (h : kd ≠ 2) : Str.ofString "k" = ofL (keyL kd) := by unfold keyL; rw [if_neg h]; decide
theorem keyL_len (kd : Int) : (keyL kd).length ≤ 1 := by unfold keyL; split <;> decide
theorem plainL_len (m : Int) : (plainL m).length ≤ 5 := by unfold plainL; split <;> decide
/-- a pair of low signs, not long -/
noncomputable def lowP (p : List Nat × List Nat) : Prop := p.1.length ≤ 3 ∧ p.2.length ≤ 5 ∧ (∀ c ∈ p.1, c < 128) ∧ ∀ c ∈ p.2, c < 128
theorem rl_old : Str.ofString "old" = ofL [111, 108, 100] := by decide
theorem head_len {g rl tx : List Nat} (hg : g.length ≤ 16) (hr : rl.length ≤ 2) (ht : tx.length ≤ 2) : (writtenL [([110], [111, 108, 100]), ([114], rl), ([110], tx)] g).length ≤ 200 := by
  have h1 := wrP_len ([110], [111, 108, 100])
  have h2 := wrP_len ([114], rl)
  have h3 := wrP_len ([110], tx)
  simp only [List.length_cons, List.length_nil] at h1 h2 h3
  simp only [writtenL, List.map_cons, List.map_nil, joinS, List.length_append]
  omega
theorem rl_k : Str.ofString "k" = ofL [107] := by decide
theorem prD_inj {p q : List Nat × List Nat} (h : prD p = prD q) : p = q := by
  unfold prD at h
  simp only [Dat.tuple.injEq, List.cons.injEq, Dat.str.injEq, and_true] at h
  exact Prod.ext (ofL_inj h.1) (ofL_inj h.2)
theorem mapD_inj {a b : PL} (h : a.map prD = b.map prD) : a = b := by
  induction a generalizing b with
  | nil => cases b with
    | nil => rfl
    | cons _ _ => simp at h
  | cons p r ih => cases b with
    | nil => simp at h
    | cons q t =>
      simp only [List.map_cons, List.cons.injEq] at h
      rw [prD_inj h.1, ih h.2]
theorem lowD {ps : PL} (h : ∀ p ∈ ps, lowP p) : ∀ d ∈ ps.map prD, kqdOk 8 d = true := by
  intro d hd
  obtain ⟨p, hp, rfl⟩ := List.mem_map.mp hd
  obtain ⟨_, _, h1, h2⟩ := h p hp
  show ([Dat.str (ofL p.1), Dat.str (ofL p.2)].all (kqdOk 7)) = true
  simp only [List.all_cons, List.all_nil, Bool.and_true, Bool.and_eq_true]
  exact ⟨ofL_ok h1, ofL_ok h2⟩
theorem sign7_low {c : Nat} (h : sign7 c) : c < 128 := by unfold sign7 at h; omega
theorem textL_low (n : Int) : ∀ c ∈ textL n, c < 128 := fun c hc => sign7_low (textL_sign n c hc)
theorem low1 (c : Nat) : ([c] : List Nat).length ≤ 3 ∧ (c < 128 → ∀ d ∈ ([c] : List Nat), d < 128) := ⟨by simp, fun h d hd => by rw [List.mem_singleton.mp hd]; exact h⟩
theorem ansL_low {r n k : List Nat} (hr : r.length ≤ 2) (hr1 : ∀ c ∈ r, c < 128) (hn : n.length ≤ 2) (hn1 : ∀ c ∈ n, c < 128) (hk : k.length ≤ 1) (hk1 : ∀ c ∈ k, c < 128) : ∀ p ∈ ansL r n k, lowP p := by
  unfold ansL
  simp only [List.forall_mem_cons]
  refine ⟨⟨(low1 114).1, ?_, (low1 114).2 (by decide), hr1⟩, ⟨(low1 110).1, ?_, (low1 110).2 (by decide), hn1⟩, ⟨(low1 97).1, ?_, (low1 97).2 (by decide), ?_⟩, fun _ h => nomatch h⟩
  · show r.length ≤ 5; omega
  · show n.length ≤ 5; omega
  · show (k ++ n.reverse).length ≤ 5; simp; omega
  · intro c hc
    rcases List.mem_append.mp hc with hc | hc
    · exact hk1 c hc
    · exact hn1 c (List.mem_reverse.mp hc)
theorem led_mid {pre rz X : List (Addr × Obj)} (h1 : ∀ q ∈ pre, q ∈ X) (h2 : ∀ q ∈ rz, q ∈ X) : ∀ q ∈ pre ++ rz, q ∈ X := fun q hq => (List.mem_append.mp hq).elim (h1 q) (h2 q)
theorem Ext.up {b a c : List (Addr × Obj)} {x : Nat} (hb : ∀ r ∈ b, @LT.lt Nat _ r.1 x) (h : Ext b a c) {q : Addr × Obj} (hq : x ≤ q.1) : Ext b a (q :: c) := h.add fun r hr => Nat.lt_of_lt_of_le (hb r hr) hq
/-- what page.info gives -/
noncomputable def headK (kd : Int) (g head : List Nat) : List Nat := if kd = 3 then head ++ (g ++ [98, 114, 111, 107, 101, 110]) else if kd = 4 then head ++ (g ++ [120, 61]) else head
theorem rl_broken : Str.ofString "broken" = ofL [98, 114, 111, 107, 101, 110] := by decide
theorem rl_x : Str.ofString "x=" = ofL [120, 61] := by decide
theorem in34 {kd : Int} (h : ([3, 4] : List Int).any (fun x => x == kd) = true) : kd = 3 ∨ kd = 4 := by
  simp only [List.any_cons, List.any_nil, Bool.or_false, Bool.or_eq_true, beq_iff_eq] at h
  exact h.imp Eq.symm Eq.symm
theorem in34n {kd : Int} (h : ([3, 4] : List Int).any (fun x => x == kd) = false) : kd ≠ 3 ∧ kd ≠ 4 := by
  simp only [List.any_cons, List.any_nil, Bool.or_false, Bool.or_eq_false_iff, beq_eq_false_iff_ne] at h
  exact ⟨Ne.symm h.1, Ne.symm h.2⟩
theorem head3 {g head : List Nat} : ofL head ++ (ofL g ++ Str.ofString "broken") = ofL (headK 3 g head) := by rw [rl_broken, ofL_app, ofL_app]; rfl
theorem head4 {g head : List Nat} : ofL head ++ (ofL g ++ Str.ofString "x=") = ofL (headK 4 g head) := by rw [rl_x, ofL_app, ofL_app]; rfl
theorem head0 {kd : Int} {g head : List Nat} (h : kd ≠ 3 ∧ kd ≠ 4) : headK kd g head = head := by rw [headK, if_neg h.1, if_neg h.2]
section
variable {prog : Program} {w : World} {A : Around} {E : Value → Shared → Prop} {s : Shared} {h₀ : Heap} {L : Addr} {news : List (Addr × Obj)} {kvs : List (Str × Value)} {ps : List (List Nat × List Nat)}
theorem KV.get {kvs ps} (h : KV kvs ps) (k v : List Nat) (hl : (ps.find? (fun p => p.1 = k)).map (·.2) = Option.some v) : ∃ t, PySem.valueAt kvs (ofL k) = Option.some (Value.str (ofL v) t) := by
  induction h with
  | nil => cases hl
  | cons k' v' t' hkv ih =>
    unfold PySem.valueAt at ih ⊢
    by_cases hk : k' = k
    · subst hk
      simp only [List.find?_cons, decide_true, Option.map_some, Option.some.injEq] at hl ⊢
      exact ⟨t', by rw [hl]⟩
    · have hk2 : ¬ ofL k' = ofL k := fun e => hk (ofL_inj e)
      simp only [List.find?_cons, hk, hk2, decide_false] at hl ⊢
      exact ih hl
theorem get_kv {d : Addr} {o : Obj} {x : Str} {tx : Tok} {dflt : Value} {Q : Value → Shared → Prop} (N : News h₀ L s.heap news) (hp : (d, o) ∈ news) (hd : o.IsDictOf (PySem.strKind prog w) kvs) (lo : (d == sysModules) = false) (hkv : KV kvs ps) (k v : List Nat) (hx : x = ofL k)
    (hl : (ps.find? (fun p => p.1 = k)).map (·.2) = Option.some v) (h : ∀ t, Q (.str (ofL v) t) { s with toks := s.toks + 1 }) : wpAny (model prog w) A (call (.builtin "dict.get") [.ref d, .str x tx, dflt]) Q E s := by
  obtain ⟨t, ht⟩ := hkv.get k v hl
  subst hx
  exact kdg_get2 N hp hd lo (strKind_is _ _ (ofL k) tx) _ ht (h t)
end
section
variable {prog : Program} {w : World} {A : Around} {E Q : Value → Shared → Prop} {s : Shared} {h₀ : Heap} {L l : Addr} {n : Nat} {news : List (Addr × Obj)} {value slice : Expr}
theorem last_ref {pv0 : List Value} {v : Value} {u : Tok} (N : News h₀ L s.heap news) (hl : (l, listOf (pv0 ++ [v]).toArray n) ∈ news) (hz : pv0.length ≤ 100) (h : Q v s)
    (hs : subscripted slice false (.ref l) (.int (-1) u) = operate [.ref l, .int (-1) u] (getItem (.ref l) (.int (-1) u)) := by with_unfolding_all rfl) (hg : ∀ r, letTemporaryGo value (.ref l) r = pure () := by intro _; with_unfolding_all rfl) :
    wpAny (model prog w) A (subscriptTail value slice (.ref l) (.int (-1) u)) Q E s := by
  have hL := News.isList N hl
  have hsz : (pv0 ++ [v]).toArray.size = pv0.length + 1 := by simp
  refine subscriptTail_builtin hL.typeIs slot_list_getitem.lookup (wpAny_getItem_list_neg (k := -1) hL (by decide) (by rw [hsz]; omega) (by decide) (x := v) ?_ h) hs hg
  rw [hsz]
  have : ((-1 : Int) + ((pv0.length + 1 : Nat) : Int)).toNat = pv0.length := by omega
  rw [this]
  simp
end
theorem ord_end {h₀ h : Heap} {L : Addr} {a b c d : Addr × Obj} {rest : List (Addr × Obj)} (N : News h₀ L h (a :: b :: c :: d :: rest)) : News h₀ L h (c :: d :: a :: b :: rest) := fun q hq => N q (by
  simp only [List.mem_cons] at hq ⊢
  rcases hq with h | h | h | h | h
  · exact .inr (.inr (.inl h))
  · exact .inr (.inr (.inr (.inl h)))
  · exact .inl h
  · exact .inr (.inl h)
  · exact .inr (.inr (.inr (.inr h))))
theorem keyL_low (kd : Int) : ∀ c ∈ keyL kd, c < 128 := by unfold keyL; split <;> decide
/-- the gap between the texts -/
noncomputable def gapL (m : Int) : List Nat := if m.fmod 4 = 0 then [44] else if m.fmod 4 = 1 then [44, 32] else if m.fmod 4 = 2 then [9, 44, 10] else [32, 44, 44, 10]
theorem gap_0 {m : Int} (h : m.fmod 4 = 0) : Str.ofString "," = ofL (gapL m) := by unfold gapL; rw [h]; decide
theorem gap_1 {m : Int} (h : m.fmod 4 = 1) : Str.ofString ", " = ofL (gapL m) := by unfold gapL; rw [h]; decide
theorem gap_2 {m : Int} (h : m.fmod 4 = 2) : Str.ofString "\t,\n" = ofL (gapL m) := by unfold gapL; rw [h]; decide
theorem gap_3 {m : Int} (h : m.fmod 4 = 3) : Str.ofString " ,,\n" = ofL (gapL m) := by unfold gapL; rw [h]; decide
theorem gapL_len (m : Int) : (gapL m).length ≤ 16 := by unfold gapL; split; decide; split; decide; split <;> decide
theorem cutQ {M : Model} {A : Around} {x : Sem Value} {E Q : Value → Shared → Prop} {s : Shared} {V : Tok → Value} (main : ∀ t', Q (V t') s) (side : ∀ Q' : Value → Shared → Prop, (∀ t', Q' (V t') s) → wpAny M A x Q' E s) : wpAny M A x Q E s := side Q main

end
noncomputable section
open PySem PySem.Calls PyProof.Rows PySem.W
/-- what a code object says of its table -/
def CodeOb (o : Obj) (c P : Addr) : Prop :=
  ∃ vs file tf flags tg inF text tt, o.cls = .type "code" ∧ o.data = .fields vs ∧ vs[11]? = some (.ref P) ∧ vs.getD 11 .none = .ref P ∧ vs.getD 18 .none = .str file tf ∧
    vs.getD 7 .none = .int flags tg ∧ vs.getD 9 .none = .bool inF ∧ vs.getD 10 .none = .int text tt ∧ c ≠ P
theorem CodeOb.hd {h : Heap} {o : Obj} {c P : Addr} (e : h.get? c = some o) (C : CodeOb o c P) : CodeHd h c P := by
  obtain ⟨vs, file, tf, flags, tg, inF, text, tt, h1⟩ := C
  exact ⟨o, vs, file, tf, flags, tg, inF, text, tt, e, h1⟩
theorem codeHd_ob {h : Heap} {c P : Addr} (C : CodeHd h c P) : ∃ o, h.get? c = some o ∧ CodeOb o c P := by
  obtain ⟨o, vs, file, tf, flags, tg, inF, text, tt, e, h1⟩ := C
  exact ⟨o, e, vs, file, tf, flags, tg, inF, text, tt, h1⟩
/-- a code object of a name -/
def CodeQ (o : Obj) (qual : Str) : Prop := ∃ vs t, o.data = .fields vs ∧ vs[1]? = some (.str qual t)
theorem CodeQ.rec {h₀ h : Heap} {L c : Addr} {oc : Obj} {qual : Str} {news : List (Addr × Obj)} (C : CodeQ oc qual) (N : News h₀ L h news) (hm : (c, oc) ∈ news) : h.CodeRec (.ref c) qual := by
  obtain ⟨vs, t, h1, h2⟩ := C
  exact codeRec_news N hm h1 h2
theorem among_snoc_ne {pos pos' : Pos} {c : Value} : ∀ (l : List Value), TriplesOk l → (pos.line ≠ pos'.line ∨ pos.col ≠ pos'.col) → codeAmong pos' (l ++ [rawInt pos.line, rawInt pos.col, c]) = codeAmong pos' l
  | [], _, hne => by
    show codeAmong pos' [rawInt pos.line, rawInt pos.col, c] = none
    unfold rawInt codeAmong
    rw [if_neg]
    · rfl
    · intro h
      simp only [Bool.and_eq_true, beq_iff_eq] at h
      omega
  | .int a _ :: .int b _ :: d :: r, ht, hne => by
    have ih := among_snoc_ne (c := c) r ht hne
    simp only [List.cons_append]
    unfold codeAmong
    split
    · rfl
    · exact ih
  | [.int _ _], ht, _ => by simp [TriplesOk] at ht
  | [.int _ _, .int _ _], ht, _ => by simp [TriplesOk] at ht
theorem triples_snoc {a b : Nat} {c : Value} : ∀ (l : List Value), TriplesOk l → TriplesOk (l ++ [rawInt a, rawInt b, c])
  | [], _ => by simp [rawInt, TriplesOk]
  | .int _ _ :: .int _ _ :: _ :: r, ht => triples_snoc r ht
  | [.int _ _], ht => by simp [TriplesOk] at ht
  | [.int _ _, .int _ _], ht => by simp [TriplesOk] at ht

end
noncomputable section
open PySem PySem.Calls PyProof.Rows PySem.W
section
variable {M : Model} {A : Around} {E : Value → Shared → Prop} {s : Shared} {h₀ : Heap} {L a c P : Addr} {m mg mb : Str → Option Value} {cn : Str} {cs : Scope} {ccd : Value} {cl : List (Str × Addr)} {rest : List (Addr × Obj)}
  {p : Program} {loose : List Str} {mean : ExcName → Option Value} {name qual : Str} {params : Arguments} {scope : Scope} {ps : Array Value} {pos : Pos} {firstLine : Nat} {clos : List (Str × Addr)}
theorem tops_apart (F : Fr h₀ L s.heap m) (T : Top p loose mean mg mb h₀) (hP : s.heap.get? P = some (tabObj ps)) :
    s.heap.Ns mainGlobals mg ∧ mainGlobals ≠ P ∧ s.heap.BuiltinsAt mg P := by
  have hgs := T.g.keeps F.keep
  obtain ⟨bm, ob, b1, b2, b3, b4, b5, b6⟩ := T.bmain
  have hgP : mainGlobals ≠ P := fun q => by
    obtain ⟨o, es, ep, e, hd, _⟩ := hgs
    rw [q, hP] at e; cases e; cases hd
  have hbP : bm ≠ P := fun q => by
    have e := F.keep _ _ b3
    rw [q, hP] at e; cases e; cases b4
  have hbG : bm ≠ mainGlobals := fun q => by
    obtain ⟨o, es, ep, e, hd, _⟩ := T.g
    rw [q, e] at b3; cases b3; rw [hd] at b6; cases b6
  exact ⟨hgs, hgP, bm, ob, b1, b2, hbG, hbP, F.keep _ _ b3, b4, b5, b6⟩
/-- the ledger behind the making of a function with new code -/
theorem made_new {h' : Heap} {c' P' : Addr} {fo : Obj} (F : Fr h₀ L s.heap m) (N : News h₀ L s.heap ((P, tabObj ps) :: rest)) (hoff : ∀ q ∈ rest, @Ne Nat q.1 P)
    (hx : Heap.ExtBut P s.heap h') (hge : s.heap.objs.size ≤ c') (hlt : c' < h'.objs.size) (hgP' : s.heap.objs.size ≤ P') (hc : h'.IsCode c' P' #[]) (ht : h'.TableAt c' P' #[]) (hfo : fo.isFreed = false)
    (htb : h'.get? P = some (tabObj (ps ++ #[rawInt pos.line, rawInt pos.col, .ref c']))) (hrec : h'.CodeRec (.ref c') qual) :
    ∃ oc, CodeQ oc qual ∧ CodeOb oc c' P' ∧ Fr h₀ L (h'.push fo) m ∧
      News h₀ L (h'.push fo) ((h'.objs.size, fo) :: (P, tabObj (ps ++ #[rawInt pos.line, rawInt pos.col, .ref c'])) :: (c', oc) :: (P', tabObj #[]) :: rest) ∧
      (∀ q ∈ [(c', oc), (P', tabObj #[])], ∀ r ∈ (P, tabObj ps) :: rest, @LT.lt Nat _ r.1 q.1) ∧ (∀ q ∈ (P, tabObj ps) :: (c', oc) :: (P', tabObj #[]) :: rest, @LT.lt Nat _ q.1 h'.objs.size) := by
  have hm := N (P, tabObj ps) (.head _)
  have C' := CodeHd.of hc ht
  obtain ⟨oc, hoc, Cob⟩ := codeHd_ob C'
  obtain ⟨c₂, oc₂, vs, t, e2, hoc₂, hd, hv⟩ := hrec
  cases e2
  rw [hoc] at hoc₂; cases hoc₂
  have hP'g : h'.get? P' = some (tabObj #[]) := ht.2
  have hLs : L < s.heap.objs.size := F.ns.lt
  have old : ∀ b o, h₀.get? b = some o → h'.get? b = some o := fun b o e => hx b o (fun q => by rw [q, hm.2.2] at e; cases e) (F.keep b o e)
  have fresh : ∀ b, L < b → h₀.get? b = none := fun b hb => Heap.get?_none_of_le (Nat.le_trans F.above (Nat.le_of_lt hb))
  have hlt0 : ∀ q ∈ (P, tabObj ps) :: rest, @LT.lt Nat _ q.1 s.heap.objs.size := fun q hq => Heap.lt_size (N q hq).1
  refine ⟨oc, ⟨vs, t, hd, hv⟩, Cob, ⟨(F.ns.extBut hx hm.2.1.symm).push _, fun b o e => Heap.get?_push_of_some _ (old b o e), F.above⟩, fun q hq => ?_, ?_, ?_⟩
  · rcases List.mem_cons.mp hq with rfl | hq
    · have : L < h'.objs.size := Nat.lt_of_lt_of_le hLs (Nat.le_trans hge (Nat.le_of_lt hlt))
      exact ⟨Heap.get?_push_size _ hfo, Nat.ne_of_gt this, fresh _ this⟩
    · rcases List.mem_cons.mp hq with rfl | hq
      · exact ⟨Heap.get?_push_of_some _ htb, hm.2⟩
      · rcases List.mem_cons.mp hq with rfl | hq
        · exact ⟨Heap.get?_push_of_some _ hoc, Nat.ne_of_gt (Nat.lt_of_lt_of_le hLs hge), fresh _ (Nat.lt_of_lt_of_le hLs hge)⟩
        · rcases List.mem_cons.mp hq with rfl | hq
          · exact ⟨Heap.get?_push_of_some _ hP'g, Nat.ne_of_gt (Nat.lt_of_lt_of_le hLs hgP'), fresh _ (Nat.lt_of_lt_of_le hLs hgP')⟩
          · have n := N q (.tail _ hq)
            exact ⟨Heap.get?_push_of_some _ (hx _ _ (hoff q hq) n.1), n.2⟩
  · exact List.forall_mem_cons.mpr ⟨fun r hr => Nat.lt_of_lt_of_le (hlt0 r hr) hge, List.forall_mem_cons.mpr ⟨fun r hr => Nat.lt_of_lt_of_le (hlt0 r hr) hgP', fun _ h => nomatch h⟩⟩
  · have hle : s.heap.objs.size ≤ h'.objs.size := Nat.le_trans hge (Nat.le_of_lt hlt)
    refine List.forall_mem_cons.mpr ⟨Nat.lt_of_lt_of_le (hlt0 _ (.head _)) hle, List.forall_mem_cons.mpr ⟨hlt, List.forall_mem_cons.mpr ⟨Heap.lt_size hP'g, fun q hq => Nat.lt_of_lt_of_le (hlt0 q (.tail _ hq)) hle⟩⟩⟩
theorem made_hit {h' : Heap} {fo : Obj} (F : Fr h₀ L s.heap m) (N : News h₀ L s.heap rest) (hk : ∀ b o, s.heap.get? b = some o → h'.get? b = some o) (hsz : s.heap.objs.size ≤ h'.objs.size) (hfo : fo.isFreed = false) :
    Fr h₀ L (h'.push fo) m ∧ News h₀ L (h'.push fo) ((h'.objs.size, fo) :: rest) ∧ (∀ q ∈ rest, @LT.lt Nat _ q.1 h'.objs.size) := by
  have hLs : L < h'.objs.size := Nat.lt_of_lt_of_le F.ns.lt hsz
  have fresh : ∀ b, L < b → h₀.get? b = none := fun b hb => Heap.get?_none_of_le (Nat.le_trans F.above (Nat.le_of_lt hb))
  refine ⟨⟨(F.ns.keeps hk).push _, fun b o e => Heap.get?_push_of_some _ (hk b o (F.keep b o e)), F.above⟩, fun q hq => ?_, fun q hq => Nat.lt_of_lt_of_le (Heap.lt_size (N q hq).1) hsz⟩
  rcases List.mem_cons.mp hq with rfl | hq
  · exact ⟨Heap.get?_push_size _ hfo, Nat.ne_of_gt hLs, fresh _ hLs⟩
  · exact ⟨Heap.get?_push_of_some _ (hk _ _ (N q hq).1), (N q hq).2⟩

/-- a def is made: with new code, or with code that is known -/
theorem nest_any {body : List Stmt} {Q : Value → Shared → Prop} (F : Fr h₀ L s.heap m) (N : News h₀ L s.heap ((P, tabObj ps) :: rest)) (T : Top p loose mean mg mb h₀) (C : CodeHd s.heap c P) (hcd : ccd = .ref c) (hoff : ∀ q ∈ rest, @Ne Nat q.1 P)
    (ht : TriplesOk ps.toList) (hst : codeAmong pos ps.toList = none ∨ ∃ c', codeAmong pos ps.toList = some (.ref c')) (hcl : closureFor scope (envX cn cs L a ccd cl) = pure clos)
    (h : ∀ f c' ctv doc ps' new h' tk, Fr h₀ L h' m → News h₀ L h' ((f, fnMade name qual params body scope clos doc ((mg "__name__").getD .none) c' ctv) :: (P, tabObj ps') :: (new ++ rest)) → (∀ q ∈ new, ∀ r ∈ (P, tabObj ps) :: rest, @LT.lt Nat _ r.1 q.1) → TriplesOk ps'.toList →
      codeAmong pos ps'.toList = some (.ref c') → (∀ pos', (pos.line ≠ pos'.line ∨ pos.col ≠ pos'.col) → codeAmong pos' ps'.toList = codeAmong pos' ps.toList) →
      ((codeAmong pos ps.toList = some (.ref c') ∧ new = []) ∨ ∃ oc P', codeAmong pos ps.toList = none ∧ new = [(c', oc), (P', tabObj #[])] ∧ CodeQ oc qual ∧ CodeOb oc c' P') → (∀ q ∈ (P, tabObj ps) :: (new ++ rest), @LT.lt Nat _ q.1 f) →
      Q (.ref f) { s with heap := h', toks := tk }) :
    wpAny M A (makeFunction name qual params (.stmts body) scope (envX cn cs L a ccd cl) [] [] [] pos firstLine) Q E s := by
  have hP := (N (P, tabObj ps) (.head _)).1
  obtain ⟨hg, hgP, hb⟩ := tops_apart F T hP
  rcases hst with hnf | ⟨c', hf⟩
  · obtain ⟨bm, ob, hbm, hne0, _, hneP, hbo, hcls, hdict, hdata⟩ := hb
    have key : ∀ (c' : Addr) (P' : Addr) (ctv doc : Value) (h' : Heap) (tk : Nat), Heap.ExtBut P s.heap h' → s.heap.objs.size ≤ c' → c' < h'.objs.size → h'.CodeRec (.ref c') qual → h'.get? P = some (tabObj (ps ++ #[rawInt pos.line, rawInt pos.col, .ref c'])) →
        s.heap.objs.size ≤ P' → h'.IsCode c' P' #[] → h'.TableAt c' P' #[] → Q (.ref h'.objs.size) { s with heap := h'.push (fnMade name qual params body scope clos doc ((mg "__name__").getD .none) c' ctv), toks := tk } := by
      intro c' P' ctv doc h' tk hx hge hlt hrec htb hgP' hc htt
      obtain ⟨oc, k1, k2, k3, k4, k5, k6⟩ := made_new (fo := fnMade name qual params body scope clos doc ((mg "__name__").getD .none) c' ctv) F N hoff hx hge hlt hgP' hc htt rfl htb hrec
      refine h _ c' ctv doc _ [(c', oc), (P', tabObj #[])] _ tk k3 k4 k5 ?_ ?_ ?_ (.inr ⟨oc, P', hnf, rfl, k1, k2⟩) k6
      · rw [Array.toList_append]; exact triples_snoc _ ht
      · rw [Array.toList_append]; exact codeAmong_snoc _ ht hnf
      · intro pos' hne; rw [Array.toList_append]; exact among_snoc_ne _ ht hne
    rw [makeFunction_eq]
    simp only [List.zip_nil_right, List.filterMap_nil, List.isEmpty_nil, if_true, pure_bind]
    unfold makeTail
    rw [hcl, show (envX cn cs L a ccd cl).globals = mainGlobals from rfl]
    refine wpAny_bind (wpAny_pure ?_)
    cases clos with
    | nil =>
      simp only [List.isEmpty_nil, if_true]
      refine wpAny_bind (wpAny_pure ?_)
      refine wpAny_bind (wpAny_functionCodeX hcd (C.code hP ht) (C.tab hP) hnf fun c' h' tk hx hge hlt _ hrec htb hnew => ?_)
      obtain ⟨P', q1, q2, q3⟩ := hnew
      have hg' := hg.extBut hx hgP
      refine wpAny_bind (wpAny_builtinsFor hg' hbm hne0 (hx _ _ hneP hbo) hcls hdict hdata ?_)
      refine wpAny_bind (wpAny_nsGet hg' ?_)
      cases hdoc : docOf body with
      | none => exact wpAny_bind (wpAny_pure (wpAny_newObj_type (key c' P' .none .none h' tk hx hge hlt hrec htb.2 q1 q2 q3) (by size_fits)))
      | some t => exact wpAny_bind (wpAny_mkText (wpAny_newObj_type (key c' P' .none _ h' _ hx hge hlt hrec htb.2 q1 q2 q3) (by size_fits)))
    | cons q r =>
      simp only [List.isEmpty_cons, Bool.false_eq_true, if_false]
      refine wpAny_bind (wpAny_newTextTuple ?_)
      refine wpAny_bind (wpAny_functionCodeX hcd ((C.keeps fun b o e => Heap.get?_push_of_some _ e).code (Heap.get?_push_of_some _ hP) ht) ((C.keeps fun b o e => Heap.get?_push_of_some _ e).tab (Heap.get?_push_of_some _ hP)) hnf fun c' h' tk hx hge hlt _ hrec htb hnew => ?_)
      obtain ⟨P', q1, q2, q3⟩ := hnew
      have hg' := (hg.push _).extBut hx hgP
      have hx' : Heap.ExtBut P s.heap h' := fun b o hb' e => hx b o hb' (Heap.get?_push_of_some _ e)
      have hge' : s.heap.objs.size ≤ c' := Nat.le_trans (by rw [Heap.size_push]; omega) hge
      have hgq' : s.heap.objs.size ≤ P' := Nat.le_trans (by rw [Heap.size_push]; omega) q1
      refine wpAny_bind (wpAny_builtinsFor hg' hbm hne0 (hx' _ _ hneP hbo) hcls hdict hdata ?_)
      refine wpAny_bind (wpAny_nsGet hg' ?_)
      cases hdoc : docOf body with
      | none => exact wpAny_bind (wpAny_pure (wpAny_newObj_type (key c' P' _ .none h' tk hx' hge' hlt hrec htb.2 hgq' q2 q3) (by size_fits)))
      | some t => exact wpAny_bind (wpAny_mkText (wpAny_newObj_type (key c' P' _ _ h' _ hx' hge' hlt hrec htb.2 hgq' q2 q3) (by size_fits)))
  · refine makeFunction_hit (mg := mg) hcl rfl hg hcd C hP ht hf hb fun ctv doc h' tk hk hsz => ?_
    obtain ⟨k1, k2, k3⟩ := made_hit (fo := { cls := .type "function", data := .func (fnX name qual params body scope clos .none .none doc ((mg "__name__").getD .none) none (.ref c') ctv) }) F N hk hsz rfl
    exact h _ c' ctv doc ps [] _ tk k1 k2 (fun _ h => nomatch h) ht hf (fun _ _ => rfl) (.inl ⟨hf, rfl⟩) k3

/-- a lambda is made: with new code, or with code that is known -/
theorem lam_any {kn : List (Addr × Obj)} {body : Expr} {Q : Value → Shared → Prop} (F : Fr h₀ L s.heap m) (N : News h₀ L s.heap ((P, tabObj ps) :: rest)) (T : Top p loose mean mg mb h₀) (C : CodeHd s.heap c P) (hcd : ccd = .ref c) (hoff : ∀ q ∈ rest, @Ne Nat q.1 P)
    (ht : TriplesOk ps.toList) (hst : codeAmong pos ps.toList = none ∨ ∃ c' oc, codeAmong pos ps.toList = some (.ref c') ∧ (c', oc) ∈ kn ∧ CodeQ oc qual) (hcl : closureFor scope (envX cn cs L a ccd cl) = pure clos)
    (h : ∀ f c' oc ctv ps' new h' tk, Fr h₀ L h' m → News h₀ L h' ((f, kla_obj name qual params body scope clos ((mg "__name__").getD .none) c' ctv) :: (P, tabObj ps') :: (new ++ rest)) → (∀ q ∈ new, ∀ r ∈ (P, tabObj ps) :: rest, @LT.lt Nat _ r.1 q.1) → TriplesOk ps'.toList →
      codeAmong pos ps'.toList = some (.ref c') → (c', oc) ∈ new ++ kn → CodeQ oc qual → (∀ q ∈ (P, tabObj ps) :: (new ++ rest), @LT.lt Nat _ q.1 f) → Q (.ref f) { s with heap := h', toks := tk }) :
    wpAny M A (makeFunction name qual params (.expr body) scope (envX cn cs L a ccd cl) [] [] [] pos firstLine) Q E s := by
  have hP := (N (P, tabObj ps) (.head _)).1
  obtain ⟨hg, hgP, hb⟩ := tops_apart F T hP
  rcases hst with hnf | ⟨c', oc, hf, hm, hq⟩
  · obtain ⟨bm, ob, hbm, hne0, _, hneP, hbo, hcls, hdict, hdata⟩ := hb
    have key : ∀ (c' : Addr) (P' : Addr) (ctv : Value) (h' : Heap) (tk : Nat), Heap.ExtBut P s.heap h' → s.heap.objs.size ≤ c' → c' < h'.objs.size → h'.CodeRec (.ref c') qual → h'.get? P = some (tabObj (ps ++ #[rawInt pos.line, rawInt pos.col, .ref c'])) →
        s.heap.objs.size ≤ P' → h'.IsCode c' P' #[] → h'.TableAt c' P' #[] → Q (.ref h'.objs.size) { s with heap := h'.push (kla_obj name qual params body scope clos ((mg "__name__").getD .none) c' ctv), toks := tk } := by
      intro c' P' ctv h' tk hx hge hlt hrec htb hgP' hc htt
      obtain ⟨oc, k1, k2, k3, k4, k5, k6⟩ := made_new (fo := kla_obj name qual params body scope clos ((mg "__name__").getD .none) c' ctv) F N hoff hx hge hlt hgP' hc htt rfl htb hrec
      refine h _ c' oc ctv _ [(c', oc), (P', tabObj #[])] _ tk k3 k4 k5 ?_ ?_ (.head _) k1 k6
      · rw [Array.toList_append]; exact triples_snoc _ ht
      · rw [Array.toList_append]; exact codeAmong_snoc _ ht hnf
    rw [makeFunction_eq]
    simp only [List.zip_nil_right, List.filterMap_nil, List.isEmpty_nil, if_true, pure_bind]
    unfold makeTail
    rw [hcl, show (envX cn cs L a ccd cl).globals = mainGlobals from rfl]
    refine wpAny_bind (wpAny_pure ?_)
    cases clos with
    | nil =>
      simp only [List.isEmpty_nil, if_true]
      refine wpAny_bind (wpAny_pure ?_)
      refine wpAny_bind (wpAny_functionCodeX hcd (C.code hP ht) (C.tab hP) hnf fun c' h' tk hx hge hlt _ hrec htb hnew => ?_)
      obtain ⟨P', q1, q2, q3⟩ := hnew
      have hg' := hg.extBut hx hgP
      refine wpAny_bind (wpAny_builtinsFor hg' hbm hne0 (hx _ _ hneP hbo) hcls hdict hdata ?_)
      refine wpAny_bind (wpAny_nsGet hg' ?_)
      exact wpAny_bind (wpAny_pure (wpAny_newObj_type (key c' P' .none h' tk hx hge hlt hrec htb.2 q1 q2 q3) (by size_fits)))
    | cons q r =>
      simp only [List.isEmpty_cons, Bool.false_eq_true, if_false]
      refine wpAny_bind (wpAny_newTextTuple ?_)
      refine wpAny_bind (wpAny_functionCodeX hcd ((C.keeps fun b o e => Heap.get?_push_of_some _ e).code (Heap.get?_push_of_some _ hP) ht) ((C.keeps fun b o e => Heap.get?_push_of_some _ e).tab (Heap.get?_push_of_some _ hP)) hnf fun c' h' tk hx hge hlt _ hrec htb hnew => ?_)
      obtain ⟨P', q1, q2, q3⟩ := hnew
      have hg' := (hg.push _).extBut hx hgP
      have hx' : Heap.ExtBut P s.heap h' := fun b o hb' e => hx b o hb' (Heap.get?_push_of_some _ e)
      have hge' : s.heap.objs.size ≤ c' := Nat.le_trans (by rw [Heap.size_push]; omega) hge
      have hgq' : s.heap.objs.size ≤ P' := Nat.le_trans (by rw [Heap.size_push]; omega) q1
      refine wpAny_bind (wpAny_builtinsFor hg' hbm hne0 (hx' _ _ hneP hbo) hcls hdict hdata ?_)
      refine wpAny_bind (wpAny_nsGet hg' ?_)
      exact wpAny_bind (wpAny_pure (wpAny_newObj_type (key c' P' _ h' tk hx' hge' hlt hrec htb.2 hgq' q2 q3) (by size_fits)))
  · refine kla_makeFunctionHit (mg := mg) hcl rfl hg hcd C hP ht hf hb fun ctv h' tk hk hsz => ?_
    obtain ⟨k1, k2, k3⟩ := made_hit (fo := { cls := .type "function", data := .func (kla_fn name qual params body scope clos ((mg "__name__").getD .none) (.ref c') ctv) }) F N hk hsz rfl
    exact h _ c' oc ctv ps [] _ tk k1 k2 (fun _ h => nomatch h) ht hf hm hq k3
end

end
open PySem PySem.W PyProof.Rows PySem.Calls PyProof.V
local macro_rules | `(tactic| walk_at "call builtin:list.append") => `(tactic| (k_here; k_dflt (refine' append_K ?k1 ?k2 ?k3 ?_ ?z; (case k1 | k2 => k_asm); (case k3 => k_upd); (case z => (simp [sizeLine]; omega)); k_whole); intro h' F' N'; rw [List.push_toArray] at N'; (try k_sweep)))
section

open PySem PySem.W PyProof.Rows PySem.Calls PyProof.V

section
variable {w : World} {p : Program} {loose : List Str} {mean : ExcName → Option Value} {mg mb : Str → Option Value}
  {dp un : Nat} {gd : Option (List Code)} {cn : Str} {cs : Scope} {a : Addr} {ccd : Value} {cl : List (Str × Addr)} {outer : List Env} {A₀ : Around} {base h₀ : Heap} {L : Addr} {m : Str → Option Value} {s : Shared} {Q E : Value → Shared → Prop}

theorem parse_t {l : List Nat} {t : Tok} {rest : List (Addr × Obj)} (B : Below A₀ base outer h₀) (F : Fr h₀ L s.heap m) (T : Top p loose mean mg mb h₀) (hk : cs.kind = .function) (hdp : dp + 1 < recursionLimit) (hun : un + 8 < cLine)
    (hx : l.length ≤ 1000) (N : News h₀ L s.heap rest)
    (hret : ∀ (D : Nat) (ys : List Value) (h' : Heap) (tk' : Nat), Fr h₀ L h' m → News h₀ L h' ((D, LCg.lst ys) :: rest) → (∀ q ∈ rest, @Ne Nat q.1 D) → StrsAre ys ((pparts l).map fun w => Txt.strip (ofL w)) → Q (.ref D) { s with heap := h', toks := tk' }) (X : (hd.heap_39 w.params).In h₀) :
    wpAny (model PySem.Challenge.rw_dn0255_04.row.prog w) (ktrTop dp un gd cn cs L a ccd cl outer) (call (.ref 80) [.str (ofL l) t]) Q E s := by
  revert X; k_fill; intro X
  have hKst := kstMark
  w_top off

  (refine wpAny_call ?_; k_dflt (refine' code_def (binds := [(Str.ofString "s", .str (ofL l) t)]) B F X N T rfl rfl hk ?k6 ?k7 ?k8 ?k9 ?kB ?_ ?c2 ?c3 ?c4 ?c5; (case k6 => k_is); (case k7 => k_is); (case k8 => ktr_room); (case k9 => exact BindsTo.of_eq rfl); (case c5 => decide); (case kB => exact locs rfl); (case c2 => exact rfl); (case c3 => exact rfl); (case c4 => exact rfl); k_whole; intro g' L' h' FG' F' N' B' X' T'; (try dsimp only); (try k_lift B'); (try k_fold)))
  repeat' ((fail_if_success (with_reducible show wpAny _ _ (exec (Stmt.For _ _ _ _ _) _) _ _ _)); (first | (k_unfold; (try dsimp only)) | (k_end; wrow_close) | walk1 | (dsimp only; walk1) | (leave1; walk_say "STEP leave1"; try dsimp only) | fail "no step"))
  rename_i R h1 l1 h2 h3 h4 h5 F3 N3
  (k_dflt (refine' For_invVF F3 ?kx ?kp ?_; (case kx => rfl); (case kp => rfl)))
  iterate 1 (first | walk1 | (dsimp only; walk1))
  have hoR : OwnOff rest [R] := fun p hp b hb => by rw [List.mem_singleton.mp hb]; exact Nat.ne_of_lt (l1 p hp)
  refine loop_text (fun i m nx => ∃ us n ws part esc quo tp, (∀ q ∈ [(Str.ofString "res", Value.ref R), (Str.ofString "part", .str (ofL part) tp), (Str.ofString "escape", .bool esc), (Str.ofString "quote", .bool quo)], m q.1 = some q.2) ∧ nx = (R, listOf us.toArray n) :: rest ∧ StrsAre us (ws.map ofL) ∧ pfold (l.take i) = (ws, part, esc, quo)) rfl F3 N3 ?j0 ?turn ?done
  case j0 => exact ⟨[], 0, [], [], false, false, _, (by simp only [List.forall_mem_cons]; exact ⟨rfl, rfl, rfl, rfl, fun _ h => nomatch h⟩), rfl, .nil, rfl⟩
  case turn =>
    rintro i c tc m₁ nx h7 tk7 I oI hc ⟨us, n, ws, part, esc, quo, tp, hm, rfl, hws, hpf⟩ hnI F7 N7
    have hi : i < l.length := (List.getElem?_eq_some_iff.mp hc).1
    rw [kst_self hm] at F7
    have hlen := pfold_len (l.take i)
    rw [hpf] at hlen
    simp only [List.length_take] at hlen
    have hpl : (ofL part).length ≤ 1000 := by rw [ofL_length]; omega
    have hul : us.length ≤ 1000 := by rw [strs_len hws, List.length_map]; omega
    have hIR : @Ne Nat R I := hnI _ (List.mem_cons_self ..)
    clear hlen
    have hpf2 := pfold_take hc
    rw [hpf] at hpf2
    cases esc <;> cases quo
    all_goals (repeat' (first | (k_unfold; (try dsimp only)) | (k_end; wrow_close) | walk1 | (dsimp only; walk1) | (leave1; walk_say "STEP leave1"; try dsimp only) | fail "no step"))
    all_goals rename Fr _ _ _ _ => F9
    all_goals rename News _ _ _ _ => N9
    all_goals try simp only [ofL_snoc, ← ofL_nil] at F9
    all_goals try simp only [sg44, sg34, sg92, decide_eq_true_eq, decide_eq_false_iff_not] at *
    all_goals first
      | exact turn_next F9 N9 hnI ⟨_, _, _, _, _, _, _, (by simp only [List.forall_mem_cons]; exact ⟨rfl, rfl, rfl, rfl, fun _ h => nomatch h⟩), rfl, hws, by rw [hpf2]; simp [pstep, *]⟩
      | exact turn_cont F9 N9 hnI ⟨_, _, _, _, _, _, _, (by simp only [List.forall_mem_cons]; exact ⟨rfl, rfl, rfl, rfl, fun _ h => nomatch h⟩), rfl, hws, by rw [hpf2]; simp [pstep, *]⟩
      | exact turn_cont F9 N9 (List.forall_mem_cons.mpr ⟨hIR, fun p hp => hnI p (List.mem_cons_of_mem _ hp)⟩) ⟨_, _, _, _, _, _, _, (by simp only [List.forall_mem_cons]; exact ⟨rfl, rfl, rfl, rfl, fun _ h => nomatch h⟩), rfl, strs_add hws, by rw [hpf2]; simp [pstep, *]⟩
  case done =>
    rintro m₁ nx h7 tk7 ⟨us, n, ws, part, esc, quo, tp, hm, rfl, hws, hpf⟩ F7 N7
    rw [List.take_length] at hpf
    have hlen := pfold_len l
    rw [hpf] at hlen
    simp only at hlen
    have hpl : (ofL part).length ≤ 1000 := by rw [ofL_length]; omega
    have hul : us.length ≤ 1000 := by rw [strs_len hws, List.length_map]; omega
    rw [kst_self hm] at F7
    dsimp only
    repeat' ((fail_if_success (with_reducible show wpAny _ _ (exec (Stmt.Return _ _) _) _ _ _)); (first | (k_unfold; (try dsimp only)) | (k_end; wrow_close) | walk1 | (dsimp only; walk1) | (leave1; walk_say "STEP leave1"; try dsimp only) | fail "no step"))
    · have hvs : StrsAre (us ++ [.str (ofL part) tp]) ((pparts l).map ofL) := by rw [pparts_yes hpf (by assumption)]; exact strs_add hws
      generalize (us ++ [Value.str (ofL part) tp]) = vs at *
      have hvl := strs_len hvs
      rw [List.length_map] at hvl
      have hvc := pparts_count l
      iterate 1 (first | walk1 | (dsimp only; walk1))
      (k_dflt (refine LCg.ListComp_U (F₀ := by k_asm) (by with_unfolding_all rfl) (by decide) (by rfl) (by decide) (by rfl) ?_))
      repeat' ((fail_if_success (with_reducible show LCg.CompSrc _ _ _ _ _ _ _ _ _ _ _ _ _ _)); (first | walk1 | (dsimp only; walk1)))
      (k_dflt (refine LCg.CompSrc.ledger rfl (by k_asm) (by k_asm) (List.mem_cons_self ..) ?_ ?_))
      · simp [sizeLine]; omega
      intro g9
      refine compU_grow (fun i ys tl => tl = [] ∧ StrsAre ys (((pparts l).take i).map fun w => Txt.strip (ofL w))) ⟨rfl, .nil⟩ ?_ ?_
      · rintro i ys tl v I oI C oC D m₂ h9 tk9 E9 hi ⟨rfl, hR⟩ hv hC hx F9 N9 off ne9
        obtain ⟨y, tv, rfl, hy⟩ := strs_at hvs (by simpa using hv)
        rw [List.getElem?_map, Option.map_eq_some_iff] at hy
        obtain ⟨x9, hx9, rfl⟩ := hy
        have hxl : (ofL x9).length ≤ 1000 := by rw [ofL_length]; have := pparts_len (List.mem_of_getElem? hx9); omega
        repeat' (first | walk1 | (dsimp only; walk1))
        dsimp only
        exact comp_same (news := _ :: rest) F9 N9 off (.inr ⟨_, List.mem_cons_self .., rfl, _, rfl⟩) ⟨rfl, strs_next hR hx9 rfl⟩
      · rintro ys tl ⟨rfl, hR⟩
        intro D8 h8 tk8 F8 N8 off8
        simp only [List.append_nil, List.cons_append, LCg.Off1] at N8 off8
        rw [List.size_toArray, hvl, List.take_length] at hR
        repeat' (first | (k_unfold; (try dsimp only)) | (k_end; wrow_close) | walk1 | (dsimp only; walk1) | (leave1; walk_say "STEP leave1"; try dsimp only) | fail "no step")
        rename News _ _ _ _ => N7
        rename Fr _ _ _ _ => F7
        exact hret D8 ys _ _ F7 (news_sub1 N7) (off1_ne off8.2) hR
    · have hvs : StrsAre us ((pparts l).map ofL) := by rw [pparts_no hpf (by assumption)]; exact hws
      have hvl := strs_len hvs
      rw [List.length_map] at hvl
      have hvc := pparts_count l
      iterate 1 (first | walk1 | (dsimp only; walk1))
      (k_dflt (refine LCg.ListComp_U (F₀ := by k_asm) (by with_unfolding_all rfl) (by decide) (by rfl) (by decide) (by rfl) ?_))
      repeat' ((fail_if_success (with_reducible show LCg.CompSrc _ _ _ _ _ _ _ _ _ _ _ _ _ _)); (first | walk1 | (dsimp only; walk1)))
      (k_dflt (refine LCg.CompSrc.ledger rfl (by k_asm) (by k_asm) (List.mem_cons_self ..) ?_ ?_))
      · simp [sizeLine]; omega
      intro g9
      refine compU_grow (fun i ys tl => tl = [] ∧ StrsAre ys (((pparts l).take i).map fun w => Txt.strip (ofL w))) ⟨rfl, .nil⟩ ?_ ?_
      · rintro i ys tl v I oI C oC D m₂ h9 tk9 E9 hi ⟨rfl, hR⟩ hv hC hx F9 N9 off ne9
        obtain ⟨y, tv, rfl, hy⟩ := strs_at hvs (by simpa using hv)
        rw [List.getElem?_map, Option.map_eq_some_iff] at hy
        obtain ⟨x9, hx9, rfl⟩ := hy
        have hxl : (ofL x9).length ≤ 1000 := by rw [ofL_length]; have := pparts_len (List.mem_of_getElem? hx9); omega
        repeat' (first | walk1 | (dsimp only; walk1))
        dsimp only
        exact comp_same (news := _ :: rest) F9 N9 off (.inr ⟨_, List.mem_cons_self .., rfl, _, rfl⟩) ⟨rfl, strs_next hR hx9 rfl⟩
      · rintro ys tl ⟨rfl, hR⟩
        intro D8 h8 tk8 F8 N8 off8
        simp only [List.append_nil, List.cons_append, LCg.Off1] at N8 off8
        rw [List.size_toArray, hvl, List.take_length] at hR
        repeat' (first | (k_unfold; (try dsimp only)) | (k_end; wrow_close) | walk1 | (dsimp only; walk1) | (leave1; walk_say "STEP leave1"; try dsimp only) | fail "no step")
        rename News _ _ _ _ => N7
        rename Fr _ _ _ _ => F7
        exact hret D8 ys _ _ F7 (news_sub1 N7) (off1_ne off8.2) hR

end

end
open PySem PySem.W PyProof.Rows PySem.Calls PyProof.V
local macro_rules | `(tactic| walk_at "setItem ref str") => `(tactic| (k_here; k_dflt (refine' kda_set (knd := PySem.strKind _ _) ?F ?N ?U ?d (strKind_is _ _ _ _) ?z ?_; (case F | N => k_asm); (case U => k_updF); (case d => assumption); (case z => (rw [sizeLine_eq]; omega))); intro h' o' F' N' hd'; (try dsimp only at N')))
section
open PySem PySem.W PyProof.Rows PySem.Calls PyProof.V

section
variable {w : World} {p : Program} {loose : List Str} {mean : ExcName → Option Value} {mg mb : Str → Option Value}
  {dp un : Nat} {gd : Option (List Code)} {cn : Str} {cs : Scope} {a : Addr} {ccd : Value} {cl : List (Str × Addr)} {outer : List Env} {A₀ : Around} {base h₀ : Heap} {L : Addr} {m : Str → Option Value} {s : Shared} {Q E : Value → Shared → Prop}

local macro_rules | `(tactic| walk_at "call builtin:str.split") => `(tactic| (k_here; k_dflt (refine' split1_yes ?k1 ?k2 ?k3 ?k4 ?k5 ?_; (case k1 | k2 => k_asm); (case k3 => decide); (case k4 => assumption); (case k5 => omega)); intro D' t1 t2 h' c' F' N' l'; (try k_lt l')))

local macro_rules | `(tactic| walk_at "subscriptTail Name Constant str int") => `(tactic| (k_here; (with_reducible show wpAny _ _ (subscriptTail _ _ (Value.str _ _) (Value.int _ _)) _ _ _); k_dflt (refine' sign_at ?k4 ?k5 ?k6 ?_ ?k7 ?k8; (case k4 | k5 | k6 => omega); (case k7 => with_unfolding_all rfl); (case k8 => intro _; with_unfolding_all rfl); k_whole)))

local macro_rules | `(tactic| walk_at "subscriptTail Name UnaryOp str int") => `(tactic| (k_here; (with_reducible show wpAny _ _ (subscriptTail _ _ (Value.str _ _) (Value.int _ _)) _ _ _); k_dflt (refine' sign_last ?k5 ?k6 ?_ ?k7 ?k8; (case k5 => assumption); (case k6 => omega); (case k7 => with_unfolding_all rfl); (case k8 => intro _; with_unfolding_all rfl); k_whole)))

theorem keqv_ok {D : Nat} {us : List Value} {n : Nat} {ws : List (List Nat)} {rest : List (Addr × Obj)} (B : Below A₀ base outer h₀) (F : Fr h₀ L s.heap m) (T : Top p loose mean mg mb h₀) (hk : cs.kind = .function) (hdp : dp + 1 < recursionLimit) (hun : un + 8 < cLine)
    (hul : us.length ≤ 1000) (hws : StrsAre us (ws.map ofL)) (hg : ∀ v ∈ ws, v.length ≤ 1000 ∧ ∃ k r, v = k ++ 61 :: r ∧ 61 ∉ k ∧ r ≠ []) (N : News h₀ L s.heap rest) (hD : (D, listOf us.toArray n) ∈ rest)
    (hret : ∀ (d : Nat) (od : Obj) (kvs : List (Str × Value)) (h' : Heap) (tk' : Nat), Fr h₀ L h' m → News h₀ L h' ((d, od) :: rest) → (∀ q ∈ rest, @Ne Nat q.1 d) → (d == sysModules) = false → od.IsDictOf (PySem.strKind (PySem.Challenge.rw_dn0255_04.row.prog) w) kvs → KV kvs (keqP ws) → Q (.ref d) { s with heap := h', toks := tk' }) (X : (hd.heap_39 w.params).In h₀) :
    wpAny (model PySem.Challenge.rw_dn0255_04.row.prog w) (ktrTop dp un gd cn cs L a ccd cl outer) (call (.ref 75) [.ref D]) Q E s := by
  revert X; k_fill; intro X
  have hKst := kstMark
  w_top off

  (refine wpAny_call ?_; k_dflt (refine' code_def (binds := [(Str.ofString "l", .ref D)]) B F X N T rfl rfl hk ?k6 ?k7 ?k8 ?k9 ?kB ?_ ?c2 ?c3 ?c4 ?c5; (case k6 => k_is); (case k7 => k_is); (case k8 => ktr_room); (case k9 => exact BindsTo.of_eq rfl); (case c5 => decide); (case kB => exact locs rfl); (case c2 => exact rfl); (case c3 => exact rfl); (case c4 => exact rfl); k_whole; intro g' L' h' FG' F' N' B' X' T'; (try dsimp only); (try k_lift B'); (try k_fold)))
  repeat' ((fail_if_success (with_reducible show wpAny _ _ (exec (Stmt.For _ _ _ _ _) _) _ _ _)); (first | (k_unfold; (try dsimp only)) | (k_end; wrow_close) | walk1 | (dsimp only; walk1) | (leave1; walk_say "STEP leave1"; try dsimp only) | fail "no step"))
  rename_i d0 h02 o0 l0 lo0 hs0 fs0 hi0 fi0 h03 F3 N3
  (k_dflt (refine' For_invVF F3 ?kx ?kp ?_; (case kx => rfl); (case kp => rfl)))
  iterate 1 (first | walk1 | (dsimp only; walk1))
  have hoD : OwnOff rest [d0] := fun p hp b hb => by rw [List.mem_singleton.mp hb]; exact Nat.ne_of_lt (l0 p hp)
  have hnd : ∀ q ∈ rest, @Ne Nat q.1 d0 := fun q hq => Nat.ne_of_lt (l0 q hq)
  have hvl := strs_len hws
  rw [List.length_map] at hvl
  refine loop_list (fun i m nx => ∃ od kvs, (∀ q ∈ [(Str.ofString "parsed", Value.ref d0)], m q.1 = some q.2) ∧ nx = (d0, od) :: rest ∧ Obj.IsDictOf (PySem.strKind (PySem.Challenge.rw_dn0255_04.row.prog) w) od kvs ∧ KV kvs (keqP (ws.take i)) ∧ kvs.length ≤ i) rfl (List.mem_cons_of_mem _ hD) ?fx F3 N3 ?j0 ?turn ?done
  case fx => rintro i m nx ⟨od, kvs, _, rfl, _⟩; exact List.mem_cons_of_mem _ hD
  case j0 => exact ⟨o0, [], (by simp only [List.forall_mem_cons]; exact ⟨rfl, fun _ h => nomatch h⟩), rfl, hs0, .nil, Nat.le_refl _⟩
  case turn =>
    rintro i v m₁ nx h7 tk7 I oI hv ⟨od, kvs, hm, rfl, hod, hkv, hkl⟩ hnI F7 N7
    obtain ⟨y, tv, rfl, hy⟩ := strs_at hws hv
    rw [List.getElem?_map, Option.map_eq_some_iff] at hy
    obtain ⟨x9, hx9, rfl⟩ := hy
    have hi : i < ws.length := (List.getElem?_eq_some_iff.mp hx9).1
    obtain ⟨hxl, k, r, rfl, hk61, hr⟩ := hg _ (List.mem_of_getElem? hx9)
    have hrp : 0 < r.length := List.length_pos_iff.mpr hr
    simp only [List.length_append, List.length_cons] at hxl
    have hrl : (ofL r).length ≤ 1000 := by rw [ofL_length]; omega
    have hke := keqP_take hx9 hk61
    rw [kst_self hm] at F7
    have hId : @Ne Nat d0 I := hnI _ (List.mem_cons_self ..)
    repeat' (first | (k_unfold; (try dsimp only)) | (k_end; wrow_close) | walk1 | (dsimp only; walk1) | (leave1; walk_say "STEP leave1"; try dsimp only) | fail "no step")
    all_goals rename Fr _ _ _ _ => F9
    all_goals rename News _ _ _ _ => N9
    all_goals rename Obj.IsDictOf _ _ (stored _ _ _) => hd9
    · have hq := kq_yes hr rfl (by assumption) (by assumption)
      rw [slice_mid, ← hq] at hd9
      exact turn_next F9 (news_tail N9) (List.forall_mem_cons.mpr ⟨hId, fun p hp => hnI p (List.mem_cons_of_mem _ hp)⟩) ⟨_, _, (by simp only [List.forall_mem_cons]; exact ⟨rfl, fun _ h => nomatch h⟩), rfl, hd9, by rw [hke]; exact hkv.stored k (kq r) _, Nat.le_trans (stored_len _ _ _) (by omega)⟩
    · have hq := kq_no2 hr (by assumption)
      rw [← hq] at hd9
      exact turn_next F9 (news_tail N9) (List.forall_mem_cons.mpr ⟨hId, fun p hp => hnI p (List.mem_cons_of_mem _ hp)⟩) ⟨_, _, (by simp only [List.forall_mem_cons]; exact ⟨rfl, fun _ h => nomatch h⟩), rfl, hd9, by rw [hke]; exact hkv.stored k (kq r) _, Nat.le_trans (stored_len _ _ _) (by omega)⟩
    · have hq := kq_no1 hr rfl (by assumption)
      rw [← hq] at hd9
      exact turn_next F9 (news_tail N9) (List.forall_mem_cons.mpr ⟨hId, fun p hp => hnI p (List.mem_cons_of_mem _ hp)⟩) ⟨_, _, (by simp only [List.forall_mem_cons]; exact ⟨rfl, fun _ h => nomatch h⟩), rfl, hd9, by rw [hke]; exact hkv.stored k (kq r) _, Nat.le_trans (stored_len _ _ _) (by omega)⟩
  case done =>
    rintro m₁ nx h7 tk7 ⟨od, kvs, hm, rfl, hod, hkv, hkl⟩ F7 N7
    rw [hvl, List.take_length] at hkv
    rw [kst_self hm] at F7
    dsimp only
    repeat' (first | (k_unfold; (try dsimp only)) | (k_end; wrow_close) | walk1 | (dsimp only; walk1) | (leave1; walk_say "STEP leave1"; try dsimp only) | fail "no step")
    rename Fr _ _ _ _ => F9
    rename News _ _ _ _ => N9
    exact hret d0 od kvs _ _ F9 N9 hnd lo0 hod hkv

end

end
section
open PySem PySem.W PyProof.Rows PySem.Calls PyProof.V

section
variable {w : World} {p : Program} {loose : List Str} {mean : ExcName → Option Value} {mg mb : Str → Option Value}
  {dp un : Nat} {gd : Option (List Code)} {cn : Str} {cs : Scope} {a : Addr} {ccd : Value} {cl : List (Str × Addr)} {outer : List Env} {A₀ : Around} {base h₀ : Heap} {L : Addr} {m : Str → Option Value} {s : Shared} {Q E : Value → Shared → Prop}

local macro_rules | `(tactic| walk_at "pad") => `(tactic| skip)
local macro_rules | `(tactic| walk_at "call builtin:str.split") => `(tactic| (k_here; first | (k_dflt (refine' split1_yes ?k1 ?k2 ?k3 ?k4 ?k5 ?_; (case k1 | k2 => k_asm); (case k3 => decide); (case k4 => assumption); (case k5 => ((try simp only [List.length_nil]); omega))); intro D' t1 t2 h' c' F' N' l'; (try k_lt l')) | (k_dflt (refine' split1_no ?k1 ?k2 ?k3 ?k4 ?k5 ?_; (case k1 | k2 => k_asm); (case k3 => decide); (case k4 => assumption); (case k5 => omega)); intro D' t1 h' c' F' N' l'; (try k_lt l'))))

local macro_rules | `(tactic| walk_at "subscriptTail Name Constant str int") => `(tactic| (k_here; (with_reducible show wpAny _ _ (subscriptTail _ _ (Value.str _ _) (Value.int _ _)) _ _ _); k_dflt (refine' sign_at ?k4 ?k5 ?k6 ?_ ?k7 ?k8; (case k4 | k5 | k6 => omega); (case k7 => with_unfolding_all rfl); (case k8 => intro _; with_unfolding_all rfl); k_whole)))

local macro_rules | `(tactic| walk_at "subscriptTail Name UnaryOp str int") => `(tactic| (k_here; (with_reducible show wpAny _ _ (subscriptTail _ _ (Value.str _ _) (Value.int _ _)) _ _ _); k_dflt (refine' sign_last ?k5 ?k6 ?_ ?k7 ?k8; (case k5 => assumption); (case k6 => omega); (case k7 => with_unfolding_all rfl); (case k8 => intro _; with_unfolding_all rfl); k_whole)))

theorem keqv_val {D : Nat} {us : List Value} {n : Nat} {gs : List (List Nat)} {b : List Nat} {rest : List (Addr × Obj)} (B : Below A₀ base outer h₀) (F : Fr h₀ L s.heap m) (T : Top p loose mean mg mb h₀) (hk : cs.kind = .function) (hdp : dp + 1 < recursionLimit) (hun : un + 8 < cLine)
    (hul : us.length ≤ 1000) (hws : StrsAre us ((gs ++ [b]).map ofL)) (hg : ∀ v ∈ gs, v.length ≤ 1000 ∧ ∃ k r, v = k ++ 61 :: r ∧ 61 ∉ k ∧ r ≠ []) (hbl : b.length ≤ 1000) (hb : 61 ∉ b) (N : News h₀ L s.heap rest) (hD : (D, listOf us.toArray n) ∈ rest)
    (hraise : ∀ (e : Nat) (g' h' : Heap) (tk' : Nat), Fr h₀ L g' m → RaisedSN base g' (envX cn cs L a ccd cl :: outer) e (.type "ValueError") rest h' → g'.UpToSlots h' → E (.ref e) { s with heap := h', toks := tk' }) (X : (hd.heap_39 w.params).In h₀) :
    wpAny (model PySem.Challenge.rw_dn0255_04.row.prog w) (ktrTop dp un gd cn cs L a ccd cl outer) (call (.ref 75) [.ref D]) Q E s := by
  revert X; k_fill; intro X
  have hKst := kstMark
  w_top off

  (refine wpAny_call ?_; k_dflt (refine' code_def (binds := [(Str.ofString "l", .ref D)]) B F X N T rfl rfl hk ?k6 ?k7 ?k8 ?k9 ?kB ?_ ?c2 ?c3 ?c4 ?c5; (case k6 => k_is); (case k7 => k_is); (case k8 => ktr_room); (case k9 => exact BindsTo.of_eq rfl); (case c5 => decide); (case kB => exact locs rfl); (case c2 => exact rfl); (case c3 => exact rfl); (case c4 => exact rfl); k_whole; intro g' L' h' FG' F' N' B' X' T'; (try dsimp only); (try k_lift B'); (try k_fold)))
  repeat' ((fail_if_success (with_reducible show wpAny _ _ (exec (Stmt.For _ _ _ _ _) _) _ _ _)); (first | (k_unfold; (try dsimp only)) | (k_end; wrow_close) | walk1 | (dsimp only; walk1) | (leave1; walk_say "STEP leave1"; try dsimp only) | fail "no step"))
  rename_i d0 h02 o0 l0 lo0 hs0 fs0 hi0 fi0 h03 F3 N3
  (k_dflt (refine' For_invVF F3 ?kx ?kp ?_; (case kx => rfl); (case kp => rfl)))
  iterate 1 (first | walk1 | (dsimp only; walk1))
  have hoD : OwnOff rest [d0] := fun p hp b hb => by rw [List.mem_singleton.mp hb]; exact Nat.ne_of_lt (l0 p hp)
  have hvl := strs_len hws
  rw [List.length_map, List.length_append, List.length_singleton] at hvl
  refine loop_list (fun i m nx => ∃ od kvs, (∀ q ∈ [(Str.ofString "parsed", Value.ref d0)], m q.1 = some q.2) ∧ nx = (d0, od) :: rest ∧ Obj.IsDictOf (PySem.strKind (PySem.Challenge.rw_dn0255_04.row.prog) w) od kvs ∧ KV kvs (keqP (gs.take i)) ∧ kvs.length ≤ i ∧ i ≤ gs.length) rfl (List.mem_cons_of_mem _ hD) ?fx F3 N3 ?j0 ?turn ?done
  case fx => rintro i m nx ⟨od, kvs, _, rfl, _⟩; exact List.mem_cons_of_mem _ hD
  case j0 => exact ⟨o0, [], (by simp only [List.forall_mem_cons]; exact ⟨rfl, fun _ h => nomatch h⟩), rfl, hs0, .nil, Nat.le_refl _, Nat.zero_le _⟩
  case done =>
    rintro m₁ nx h7 tk7 ⟨od, kvs, _, _, _, _, _, hil⟩ F7 N7
    omega
  case turn =>
    rintro i v m₁ nx h7 tk7 I oI hv ⟨od, kvs, hm, rfl, hod, hkv, hkl, hil⟩ hnI F7 N7
    obtain ⟨y, tv, rfl, hy⟩ := strs_at hws hv
    rw [List.getElem?_map, Option.map_eq_some_iff] at hy
    obtain ⟨x9, hx9, rfl⟩ := hy
    by_cases hig : i < gs.length
    · rw [List.getElem?_append_left hig] at hx9
      have hgx := hx9
      have hi : i < gs.length := hig
      obtain ⟨hxl, k, r, rfl, hk61, hr⟩ := hg _ (List.mem_of_getElem? hx9)
      have hrp : 0 < r.length := List.length_pos_iff.mpr hr
      simp only [List.length_append, List.length_cons] at hxl
      have hrl : (ofL r).length ≤ 1000 := by rw [ofL_length]; omega
      have hke := keqP_take hgx hk61
      rw [kst_self hm] at F7
      have hId : @Ne Nat d0 I := hnI _ (List.mem_cons_self ..)
      repeat' (first | (k_unfold; (try dsimp only)) | (k_end; wrow_close) | walk1 | (dsimp only; walk1) | (leave1; walk_say "STEP leave1"; try dsimp only) | fail "no step")
      all_goals rename Fr _ _ _ _ => F9
      all_goals rename News _ _ _ _ => N9
      all_goals rename Obj.IsDictOf _ _ (stored _ _ _) => hd9
      · have hq := kq_yes hr rfl (by assumption) (by assumption)
        rw [slice_mid, ← hq] at hd9
        exact turn_next F9 (news_tail N9) (List.forall_mem_cons.mpr ⟨hId, fun p hp => hnI p (List.mem_cons_of_mem _ hp)⟩) ⟨_, _, (by simp only [List.forall_mem_cons]; exact ⟨rfl, fun _ h => nomatch h⟩), rfl, hd9, by rw [hke]; exact hkv.stored k (kq r) _, Nat.le_trans (stored_len _ _ _) (by omega), by omega⟩
      · have hq := kq_no2 hr (by assumption)
        rw [← hq] at hd9
        exact turn_next F9 (news_tail N9) (List.forall_mem_cons.mpr ⟨hId, fun p hp => hnI p (List.mem_cons_of_mem _ hp)⟩) ⟨_, _, (by simp only [List.forall_mem_cons]; exact ⟨rfl, fun _ h => nomatch h⟩), rfl, hd9, by rw [hke]; exact hkv.stored k (kq r) _, Nat.le_trans (stored_len _ _ _) (by omega), by omega⟩
      · have hq := kq_no1 hr rfl (by assumption)
        rw [← hq] at hd9
        exact turn_next F9 (news_tail N9) (List.forall_mem_cons.mpr ⟨hId, fun p hp => hnI p (List.mem_cons_of_mem _ hp)⟩) ⟨_, _, (by simp only [List.forall_mem_cons]; exact ⟨rfl, fun _ h => nomatch h⟩), rfl, hd9, by rw [hke]; exact hkv.stored k (kq r) _, Nat.le_trans (stored_len _ _ _) (by omega), by omega⟩

    · obtain rfl : i = gs.length := by omega
      rw [List.getElem?_append_right (Nat.le_refl _), Nat.sub_self, List.getElem?_cons_zero] at hx9
      obtain rfl := Option.some.inj hx9
      rw [kst_self hm] at F7

      repeat' ((fail_if_success (with_reducible show wpAny _ _ (assign _ _ _) _ _ _)); (first | (k_unfold; (try dsimp only)) | (k_end; wrow_close) | walk1 | (dsimp only; walk1) | (leave1; walk_say "STEP leave1"; try dsimp only) | fail "no step"))
      rename News _ _ _ _ => N8
      rename Fr _ _ _ _ => F8
      refine unpack_one F8 N8 (News.isList N8 (List.mem_cons_self ..)) rfl rfl rfl ?_
      intro h1 h2 tk2 e F9 N9 hx
      obtain ⟨ob3, t3, he3, hcls3, hd3⟩ := hx.there
      refine leave_newX (cls := "ValueError") rfl rfl B' F9 N9 hx.keeps hx.new he3 hcls3 hd3 rfl rfl ?_
      intro h4 R4 U4
      exact hraise e g' h4 _ FG' (raised_sub R4 fun q hq => List.mem_cons_of_mem _ (List.mem_cons_of_mem _ (List.mem_cons_of_mem _ hq))) U4

theorem keqv_idx {D : Nat} {us : List Value} {n : Nat} {gs : List (List Nat)} {b : List Nat} {rest : List (Addr × Obj)} (B : Below A₀ base outer h₀) (F : Fr h₀ L s.heap m) (T : Top p loose mean mg mb h₀) (hk : cs.kind = .function) (hdp : dp + 1 < recursionLimit) (hun : un + 8 < cLine)
    (hul : us.length ≤ 1000) (hws : StrsAre us ((gs ++ [(b ++ 61 :: [])]).map ofL)) (hg : ∀ v ∈ gs, v.length ≤ 1000 ∧ ∃ k r, v = k ++ 61 :: r ∧ 61 ∉ k ∧ r ≠ []) (hbl : b.length ≤ 1000) (hb : 61 ∉ b) (N : News h₀ L s.heap rest) (hD : (D, listOf us.toArray n) ∈ rest)
    (hraise : ∀ (e : Nat) (g' h' : Heap) (tk' : Nat), Fr h₀ L g' m → RaisedSN base g' (envX cn cs L a ccd cl :: outer) e (.type "IndexError") rest h' → g'.UpToSlots h' → E (.ref e) { s with heap := h', toks := tk' }) (X : (hd.heap_39 w.params).In h₀) :
    wpAny (model PySem.Challenge.rw_dn0255_04.row.prog w) (ktrTop dp un gd cn cs L a ccd cl outer) (call (.ref 75) [.ref D]) Q E s := by
  revert X; k_fill; intro X
  have hKst := kstMark
  w_top off

  (refine wpAny_call ?_; k_dflt (refine' code_def (binds := [(Str.ofString "l", .ref D)]) B F X N T rfl rfl hk ?k6 ?k7 ?k8 ?k9 ?kB ?_ ?c2 ?c3 ?c4 ?c5; (case k6 => k_is); (case k7 => k_is); (case k8 => ktr_room); (case k9 => exact BindsTo.of_eq rfl); (case c5 => decide); (case kB => exact locs rfl); (case c2 => exact rfl); (case c3 => exact rfl); (case c4 => exact rfl); k_whole; intro g' L' h' FG' F' N' B' X' T'; (try dsimp only); (try k_lift B'); (try k_fold)))
  repeat' ((fail_if_success (with_reducible show wpAny _ _ (exec (Stmt.For _ _ _ _ _) _) _ _ _)); (first | (k_unfold; (try dsimp only)) | (k_end; wrow_close) | walk1 | (dsimp only; walk1) | (leave1; walk_say "STEP leave1"; try dsimp only) | fail "no step"))
  rename_i d0 h02 o0 l0 lo0 hs0 fs0 hi0 fi0 h03 F3 N3
  (k_dflt (refine' For_invVF F3 ?kx ?kp ?_; (case kx => rfl); (case kp => rfl)))
  iterate 1 (first | walk1 | (dsimp only; walk1))
  have hoD : OwnOff rest [d0] := fun p hp b hb => by rw [List.mem_singleton.mp hb]; exact Nat.ne_of_lt (l0 p hp)
  have hvl := strs_len hws
  rw [List.length_map, List.length_append, List.length_singleton] at hvl
  refine loop_list (fun i m nx => ∃ od kvs, (∀ q ∈ [(Str.ofString "parsed", Value.ref d0)], m q.1 = some q.2) ∧ nx = (d0, od) :: rest ∧ Obj.IsDictOf (PySem.strKind (PySem.Challenge.rw_dn0255_04.row.prog) w) od kvs ∧ KV kvs (keqP (gs.take i)) ∧ kvs.length ≤ i ∧ i ≤ gs.length) rfl (List.mem_cons_of_mem _ hD) ?fx F3 N3 ?j0 ?turn ?done
  case fx => rintro i m nx ⟨od, kvs, _, rfl, _⟩; exact List.mem_cons_of_mem _ hD
  case j0 => exact ⟨o0, [], (by simp only [List.forall_mem_cons]; exact ⟨rfl, fun _ h => nomatch h⟩), rfl, hs0, .nil, Nat.le_refl _, Nat.zero_le _⟩
  case done =>
    rintro m₁ nx h7 tk7 ⟨od, kvs, _, _, _, _, _, hil⟩ F7 N7
    omega
  case turn =>
    rintro i v m₁ nx h7 tk7 I oI hv ⟨od, kvs, hm, rfl, hod, hkv, hkl, hil⟩ hnI F7 N7
    obtain ⟨y, tv, rfl, hy⟩ := strs_at hws hv
    rw [List.getElem?_map, Option.map_eq_some_iff] at hy
    obtain ⟨x9, hx9, rfl⟩ := hy
    by_cases hig : i < gs.length
    · rw [List.getElem?_append_left hig] at hx9
      have hgx := hx9
      have hi : i < gs.length := hig
      obtain ⟨hxl, k, r, rfl, hk61, hr⟩ := hg _ (List.mem_of_getElem? hx9)
      have hrp : 0 < r.length := List.length_pos_iff.mpr hr
      simp only [List.length_append, List.length_cons] at hxl
      have hrl : (ofL r).length ≤ 1000 := by rw [ofL_length]; omega
      have hke := keqP_take hgx hk61
      rw [kst_self hm] at F7
      have hId : @Ne Nat d0 I := hnI _ (List.mem_cons_self ..)
      repeat' (first | (k_unfold; (try dsimp only)) | (k_end; wrow_close) | walk1 | (dsimp only; walk1) | (leave1; walk_say "STEP leave1"; try dsimp only) | fail "no step")
      all_goals rename Fr _ _ _ _ => F9
      all_goals rename News _ _ _ _ => N9
      all_goals rename Obj.IsDictOf _ _ (stored _ _ _) => hd9
      · have hq := kq_yes hr rfl (by assumption) (by assumption)
        rw [slice_mid, ← hq] at hd9
        exact turn_next F9 (news_tail N9) (List.forall_mem_cons.mpr ⟨hId, fun p hp => hnI p (List.mem_cons_of_mem _ hp)⟩) ⟨_, _, (by simp only [List.forall_mem_cons]; exact ⟨rfl, fun _ h => nomatch h⟩), rfl, hd9, by rw [hke]; exact hkv.stored k (kq r) _, Nat.le_trans (stored_len _ _ _) (by omega), by omega⟩
      · have hq := kq_no2 hr (by assumption)
        rw [← hq] at hd9
        exact turn_next F9 (news_tail N9) (List.forall_mem_cons.mpr ⟨hId, fun p hp => hnI p (List.mem_cons_of_mem _ hp)⟩) ⟨_, _, (by simp only [List.forall_mem_cons]; exact ⟨rfl, fun _ h => nomatch h⟩), rfl, hd9, by rw [hke]; exact hkv.stored k (kq r) _, Nat.le_trans (stored_len _ _ _) (by omega), by omega⟩
      · have hq := kq_no1 hr rfl (by assumption)
        rw [← hq] at hd9
        exact turn_next F9 (news_tail N9) (List.forall_mem_cons.mpr ⟨hId, fun p hp => hnI p (List.mem_cons_of_mem _ hp)⟩) ⟨_, _, (by simp only [List.forall_mem_cons]; exact ⟨rfl, fun _ h => nomatch h⟩), rfl, hd9, by rw [hke]; exact hkv.stored k (kq r) _, Nat.le_trans (stored_len _ _ _) (by omega), by omega⟩

    · obtain rfl : i = gs.length := by omega
      rw [List.getElem?_append_right (Nat.le_refl _), Nat.sub_self, List.getElem?_cons_zero] at hx9
      obtain rfl := Option.some.inj hx9
      rw [kst_self hm] at F7

      repeat' ((fail_if_success (with_reducible show wpAny _ _ (subscriptTail _ _ _ _) _ _ _)); (first | (k_unfold; (try dsimp only)) | (k_end; wrow_close) | walk1 | (dsimp only; walk1) | (leave1; walk_say "STEP leave1"; try dsimp only) | fail "no step"))
      rename News _ _ _ _ => N8
      rename Fr _ _ _ _ => F8
      refine item_str_or rfl (by decide) ?_ (fun h1 h2 => absurd h2 (by decide))
      intro _ h2 tk2 e hx
      obtain ⟨ob3, t3, he3, hcls3, hd3⟩ := hx.there
      refine leave_newX (cls := "IndexError") rfl rfl B' F8 N8 hx.keeps hx.new he3 hcls3 hd3 rfl rfl ?_
      intro h4 R4 U4
      exact hraise e g' h4 _ FG' (raised_sub R4 fun q hq => List.mem_cons_of_mem _ (List.mem_cons_of_mem _ (List.mem_cons_of_mem _ hq))) U4

end

end
open PySem PySem.W PyProof.Rows PySem.Calls PyProof.V
local macro_rules | `(tactic| k_mem) => `(tactic| (refine (id (α := (_ : Addr × Obj) ∈ (_ : List (Addr × Obj))) ?_); with_reducible assumption))
local macro_rules | `(tactic| walk_at "binaryOp Add str str") => `(tactic| (k_here; k_dflt (refine' add_tk ?k1 ?_; (case k1 => kopn_len)); intro t' k' htk' hln'; (try dsimp only at htk')))
section
open PySem PySem.W PyProof.Rows PySem.Calls PyProof.V

section
variable {w : World} {p : Program} {loose : List Str} {mean : ExcName → Option Value} {mg mb : Str → Option Value}
  {dp un : Nat} {gd : Option (List Code)} {cn : Str} {cs : Scope} {a : Addr} {ccd : Value} {cl : List (Str × Addr)} {outer : List Env} {A₀ : Around} {base h₀ : Heap} {L : Addr} {m : Str → Option Value} {s : Shared} {Q E : Value → Shared → Prop}

local macro_rules | `(tactic| walk_at "call builtin:str.replace") => `(tactic| (k_here; k_dflt ((first | (refine' repl_g (c := 92) (z := [92, 92]) ?k1 ?k2 ?k3 ?k4 ?k5 ?k6 ?k7 ?k8 ?_; (case k4 => decide)) | (refine' repl_g (c := 34) (z := [92, 34]) ?k1 ?k2 ?k3 ?k4 ?k5 ?k6 ?k7 ?k8 ?_; (case k4 => decide))); (case k1 | k2 => exact Nat.ne_of_gt (by omega)); (case k3 => exact Nat.ne_of_lt (by omega)); (case k5 | k6 => decide); (case k7 => omega); (case k8 => decide)); intro t' k' htk'; (try dsimp only at htk')))

theorem written_t {D : Nat} {vs : List Value} {n : Nat} {ps : List (List Nat × List Nat)} {g : List Nat} {tg : Tok} {rest : List (Addr × Obj)} (B : Below A₀ base outer h₀) (F : Fr h₀ L s.heap m) (T : Top p loose mean mg mb h₀) (hk : cs.kind = .function) (hdp : dp + 1 < recursionLimit) (hun : un + 8 < cLine)
    (hpl : ps.length ≤ 10) (hps : DatAll rest vs (ps.map prD)) (hp : ∀ p ∈ ps, p.1.length ≤ 100 ∧ p.2.length ≤ 100) (hg : g.length ≤ 16) (N : News h₀ L s.heap rest) (hD : (D, listOf vs.toArray n) ∈ rest)
    (hret : ∀ (h' : Heap) (tk' : Nat) (t' : Tok), Fr h₀ L h' m → News h₀ L h' rest → Q (.str (ofL (writtenL ps g)) t') { s with heap := h', toks := tk' }) (X : (hd.heap_39 w.params).In h₀) :
    wpAny (model PySem.Challenge.rw_dn0255_04.row.prog w) (ktrTop dp un gd cn cs L a ccd cl outer) (call (.ref 92) [.ref D, .str (ofL g) tg]) Q E s := by
  revert X; k_fill; intro X
  have hKst := kstMark
  w_top off

  (refine wpAny_call ?_; k_dflt (refine' code_def (binds := [(Str.ofString "pairs", .ref D), (Str.ofString "gap", .str (ofL g) tg)]) B F X N T rfl rfl hk ?k6 ?k7 ?k8 ?k9 ?kB ?_ ?c2 ?c3 ?c4 ?c5; (case k6 => k_is); (case k7 => k_is); (case k8 => ktr_room); (case k9 => exact BindsTo.of_eq rfl); (case c5 => decide); (case kB => exact locs rfl); (case c2 => exact rfl); (case c3 => exact rfl); (case c4 => exact rfl); k_whole; intro g' L' h' FG' F' N' B' X' T'; (try dsimp only); (try k_lift B'); (try k_fold)))
  repeat' ((fail_if_success (with_reducible show wpAny _ _ (exec (Stmt.For _ _ _ _ _) _) _ _ _)); (first | (k_unfold; (try dsimp only)) | (k_end; wrow_close) | walk1 | (dsimp only; walk1) | (leave1; walk_say "STEP leave1"; try dsimp only) | fail "no step"))
  rename News _ _ _ _ => N3
  rename Fr _ _ _ _ => F3
  rename (∀ (p : Addr × Obj), p ∈ rest → _) => l1
  rename_i R1 h1 h5
  refine wpAny_For ?_
  iterate 1 (first | walk1 | (dsimp only; walk1))
  have hoR : OwnOff rest [R1] := fun p hp b hb => by rw [List.mem_singleton.mp hb]; exact Nat.ne_of_lt (l1 p hp)
  have hvl := dat_len hps
  rw [List.length_map] at hvl
  refine loop_listT (fun i m nx => ∃ us k, (∀ q ∈ [(Str.ofString "texts", Value.ref R1), (Str.ofString "gap", .str (ofL g) tg)], m q.1 = some q.2) ∧ nx = (R1, listOf us.toArray k) :: rest ∧ StrsAre us (((ps.take i).map wrP).map ofL)) rfl (List.mem_cons_of_mem _ hD) ?fx F3 N3 ?j0 ?turn ?done
  case fx => rintro i m nx ⟨us, k, _, rfl, _⟩; exact List.mem_cons_of_mem _ hD
  case j0 => exact ⟨[], 0, (by simp only [List.forall_mem_cons]; exact ⟨rfl, rfl, fun _ h => nomatch h⟩), rfl, .nil⟩
  case turn =>
    rintro i v m₁ nx h7 tk7 I oI hv htk ⟨us, k, hm, rfl, hus⟩ hnI F7 N7
    obtain ⟨p, T5, t1, t2, n5, hp5, rfl, hT⟩ := pair_at hps hv
    obtain ⟨hp1, hp2⟩ := hp p (List.mem_of_getElem? hp5)
    have hi : i < ps.length := (List.getElem?_eq_some_iff.mp hp5).1
    have hul := strs_len hus
    rw [List.length_map, List.length_map, List.length_take] at hul
    rw [kst_self hm] at F7
    have hIR : @Ne Nat R1 I := hnI _ (List.mem_cons_self ..)
    have hk1 : (ofL p.1).length ≤ 100 := by rw [ofL_length]; exact hp1
    have hv1 : (ofL p.2).length ≤ 100 := by rw [ofL_length]; exact hp2
    have hf1 := flatR_len 92 [92, 92] p.2 (by decide)
    have hf2 := flatR_len 34 [92, 34] (flatR 92 [92, 92] p.2) (by decide)
    have hf3 : (ofL (flatR 34 [92, 34] (flatR 92 [92, 92] p.2))).length ≤ 400 := by rw [ofL_length]; omega
    refine unpackN_ F7 N7 (News.isTup N7 (List.mem_cons_of_mem _ (List.mem_cons_of_mem _ hT))) rfl rfl rfl ?_
    clear F7 N7
    intro h8 F8 N8
    repeat' (first | (k_unfold; (try dsimp only)) | (k_end; wrow_close) | walk1 | (dsimp only; walk1) | (leave1; walk_say "STEP leave1"; try dsimp only) | fail "no step")
    rename News _ _ _ _ => N9
    rename Fr _ _ _ _ => F9
    rw [wr_eq] at N9
    refine turn_next F9 N9 (List.forall_mem_cons.mpr ⟨hIR, fun p hp => hnI p (List.mem_cons_of_mem _ hp)⟩) ⟨_, _, (by simp only [List.forall_mem_cons]; exact ⟨rfl, rfl, fun _ h => nomatch h⟩), rfl, ?_⟩
    have e : ps.take (i + 1) = ps.take i ++ [p] := by simp [List.take_add_one, hp5]
    rw [e, List.map_append]
    exact strs_add hus
  case done =>
    rintro m₁ nx h7 tk7 ⟨us, k, hm, rfl, hus⟩ F7 N7
    rw [hvl, List.take_length] at hus
    rw [kst_self hm] at F7
    have hsum : ((ps.map wrP).map List.length).sum ≤ 1000 * (ps.map wrP).length := sum_le fun x hx => by
      obtain ⟨p, hp', rfl⟩ := List.mem_map.mp hx
      have h1 := wrP_len p
      have h2 := hp p hp'
      omega
    rw [List.length_map] at hsum
    dsimp only
    repeat' ((fail_if_success (with_reducible show wpAny _ _ (call (Value.builtin "str.join") _) _ _ _)); (first | (k_unfold; (try dsimp only)) | (k_end; wrow_close) | walk1 | (dsimp only; walk1) | (leave1; walk_say "STEP leave1"; try dsimp only) | fail "no step"))
    refine join_g (by k_asm) (List.mem_cons_self ..) hus hg (by rw [List.length_map]; omega) ?_
    intro t9 k9
    repeat' (first | (k_unfold; (try dsimp only)) | (k_end; wrow_close) | walk1 | (dsimp only; walk1) | (leave1; walk_say "STEP leave1"; try dsimp only) | fail "no step")
    rename News _ _ _ _ => N9
    rename Fr _ _ _ _ => F9
    exact hret _ _ _ F9 (news_tail N9)

end

end
open PySem PySem.W PyProof.Rows PySem.Calls PyProof.V
local macro_rules | `(tactic| walk_at "mem_go") => `(tactic| first | (with_reducible exact List.mem_cons_self) | (with_reducible assumption) | (refine List.mem_cons_of_mem _ ?_; walk_at "mem_go") | (refine List.mem_append_left _ ?_; walk_at "mem_go") | (refine List.mem_append_right _ ?_; walk_at "mem_go"))
local macro_rules | `(tactic| walk_at "led_sub") => `(tactic| first | (refine List.forall_mem_cons.mpr ⟨by walk_at "mem_go", ?_⟩; walk_at "led_sub") | (intro q hq; first | walk_at "mem_go" | (exact nomatch hq)))
section
open PySem PySem.W PyProof.Rows PySem.Calls PyProof.V

section
variable {w : World} {p : Program} {loose : List Str} {mean : ExcName → Option Value} {mg mb : Str → Option Value}
  {dp un : Nat} {gd : Option (List Code)} {cn : Str} {cs : Scope} {a : Addr} {ccd : Value} {cl : List (Str × Addr)} {outer : List Env} {A₀ : Around} {base h₀ : Heap} {L : Addr} {m : Str → Option Value} {s : Shared} {Q E : Value → Shared → Prop}

theorem text_t {n : Int} {tn : Tok} {rest : List (Addr × Obj)} (B : Below A₀ base outer h₀) (F : Fr h₀ L s.heap m) (T : Top p loose mean mg mb h₀) (hk : cs.kind = .function) (hdp : dp + 1 < recursionLimit) (hun : un + 8 < cLine)
    (N : News h₀ L s.heap rest)
    (hret : ∀ (h' : Heap) (tk' : Nat) (t' : Tok), Fr h₀ L h' m → News h₀ L h' rest → Q (.str (ofL (textL n)) t') { s with heap := h', toks := tk' }) (X : (hd.heap_39 w.params).In h₀) :
    wpAny (model PySem.Challenge.rw_dn0255_04.row.prog w) (ktrTop dp un gd cn cs L a ccd cl outer) (call (.ref 85) [.int n tn]) Q E s := by
  revert X; k_fill; intro X
  have hKst := kstMark
  w_top off

  obtain ⟨k3, hk3, hk3l⟩ := fmod3_nat n
  (refine wpAny_call ?_; k_dflt (refine' code_defC (binds := [(Str.ofString "n", .int n tn)]) B F X N T rfl rfl hk ?k6 ?k7 ?k8 ?k9 ?kB ?kD ?_ ?c2 ?c3 ?c4; (case k6 => k_is); (case k7 => k_is); (case k8 => ktr_room); (case k9 => exact BindsTo.of_eq rfl); (case kD => decide +kernel); (case kB => exact rfl); (case c2 => exact rfl); (case c3 => exact rfl); (case c4 => exact rfl); k_whole; intro g' L' h' tk' cells' FG' F' N' Y' B' X' T' l'; k_cells Y'; (try simp only [List.cons_append, List.nil_append] at N'); (try dsimp only); (try k_lift B'); (try k_fold)))
  repeat' ((fail_if_success (with_reducible show wpAny _ _ (eval (Expr.ListComp _ _ _ _) _) _ _ _)); (first | (k_unfold; (try dsimp only)) | (k_end; wrow_close) | walk1 | (dsimp only; walk1) | (leave1; walk_say "STEP leave1"; try dsimp only) | fail "no step"))
  (k_dflt (refine LCg.ListComp_U (F₀ := by k_asm) (by with_unfolding_all rfl) (by decide) (by rfl) (by decide) (by rfl) ?_))
  repeat' ((fail_if_success (with_reducible show LCg.CompSrc _ _ _ _ _ _ _ _ _ _ _ _ _ _)); (first | walk1 | (dsimp only; walk1)))
  rename_i o3 d3 N3 h4 tk4 t4 u4 v4 hr4 F4 N4 hs4
  have hc3 := d3
  replace hc3 : o3.data = Data.cell (some (Value.int n tn)) := hc3
  clear d3 N3
  (k_dflt (refine LCg.CompSrc.range (n := k3) rfl F4 N4 hr4 ?ks ?kr ?kz ?_))
  case ks => rw [hk3]; exact small_of hk3l
  case kr => rw [hk3]; exact rsize_of hk3l
  case kz => rw [sizeLine_eq]; omega
  intro g9
  refine compU_grow (fun i ys tl => tl = [] ∧ StrsAre ys (((List.range i).map fun k => sg7 (n.fdiv (7 ^ k))).map fun c => ofL [c])) ⟨rfl, .nil⟩ ?_ ?_
  · rintro i ys tl v I oI C oC D m₂ h9 tk9 E9 hi ⟨rfl, hR⟩ ⟨tv, rfl⟩ hC hx F9 N9 off ne9
    have hi2 : i = 0 ∨ i = 1 := by omega
    rcases hi2 with rfl | rfl
    all_goals (repeat' (first | walk1 | (dsimp only; walk1)))
    all_goals rename News _ _ _ _ => N8
    all_goals rename Fr _ _ _ _ => F8
    all_goals dsimp only
    all_goals refine comp_same (news := _ :: rest) F8 N8 off trivial ?_
    all_goals exact ⟨rfl, text_next hR (by rfl)⟩
  · rintro ys tl ⟨rfl, hR⟩
    intro D8 h8 tk8 F8 N8 off8
    simp only [List.append_nil] at N8 off8
    have hR1 : StrsAre ys ((textL n).map fun c => ofL [c]) := by unfold textL; rw [hk3]; exact hR
    have hl1 := textL_len n
    repeat' ((fail_if_success (with_reducible show wpAny _ _ (call (Value.builtin "str.join") _) _ _ _)); (first | (k_unfold; (try dsimp only)) | (k_end; wrow_close) | walk1 | (dsimp only; walk1) | (leave1; walk_say "STEP leave1"; try dsimp only) | fail "no step"))
    refine join0_t (by k_asm) (List.mem_cons_self ..) hR1 (by decide) (by omega) ?_
    intro t7 k7
    repeat' (first | (k_unfold; (try dsimp only)) | (k_end; wrow_close) | walk1 | (dsimp only; walk1) | (leave1; walk_say "STEP leave1"; try dsimp only) | fail "no step")
    rename News _ _ _ _ => N7
    rename Fr _ _ _ _ => F7
    exact hret _ _ _ F7 (news_tail (news_tail N7))

end

end
section
open PySem PySem.W PyProof.Rows PySem.Calls PyProof.V

section
variable {w : World} {p : Program} {loose : List Str} {mean : ExcName → Option Value} {mg mb : Str → Option Value}
  {dp un : Nat} {gd : Option (List Code)} {cn : Str} {cs : Scope} {a : Addr} {ccd : Value} {cl : List (Str × Addr)} {outer : List Env} {A₀ : Around} {base h₀ : Heap} {L : Addr} {m : Str → Option Value} {s : Shared} {Q E : Value → Shared → Prop}

local macro_rules | `(tactic| walk_at "subscriptTail Name Slice str ref") => `(tactic| (k_here; (with_reducible show wpAny _ _ (subscriptTail _ (PySem.Expr.Slice none none (some _) _) (Value.str _ _) (Value.ref _)) _ _ _); k_dflt (refine' rev_t ?F ?N ?z ?_ ?s ?t; (case F | N => k_asm); (case z => omega); (case s => with_unfolding_all rfl); (case t => kmk_pure)); intro h' t' c' F' N'))

theorem plain_t {n : Int} {tn : Tok} {rest : List (Addr × Obj)} (B : Below A₀ base outer h₀) (F : Fr h₀ L s.heap m) (T : Top p loose mean mg mb h₀) (hk : cs.kind = .function) (hdp : dp + 1 < recursionLimit) (hun : un + 8 < cLine)
    (N : News h₀ L s.heap rest)
    (hret : ∀ (h' : Heap) (tk' : Nat) (t' : Tok), Fr h₀ L h' m → News h₀ L h' rest → Q (.str (ofL (plainL n)) t') { s with heap := h', toks := tk' }) (X : (hd.heap_39 w.params).In h₀) :
    wpAny (model PySem.Challenge.rw_dn0255_04.row.prog w) (ktrTop dp un gd cn cs L a ccd cl outer) (call (.ref 99) [.int n tn]) Q E s := by
  revert X; k_fill; intro X
  have hKst := kstMark
  w_top off

  (refine wpAny_call ?_; k_dflt (refine' code_def (binds := [(Str.ofString "m", .int n tn)]) B F X N T rfl rfl hk ?k6 ?k7 ?k8 ?k9 ?kB ?_ ?c2 ?c3 ?c4 ?c5; (case k6 => k_is); (case k7 => k_is); (case k8 => ktr_room); (case k9 => exact BindsTo.of_eq rfl); (case c5 => decide); (case kB => exact locs rfl); (case c2 => exact rfl); (case c3 => exact rfl); (case c4 => exact rfl); k_whole; intro g' L' h' FG' F' N' B' X' T'; (try dsimp only); (try k_lift B'); (try k_fold)))
  rcases fmod2 (n.fdiv 4) with h2 | h2
  all_goals (
    repeat' ((fail_if_success (with_reducible show wpAny _ _ (subscriptTail _ _ _ _) _ _ _)); (first | (k_unfold; (try dsimp only)) | (k_end; wrow_close) | walk1 | (dsimp only; walk1) | (leave1; walk_say "STEP leave1"; try dsimp only) | fail "no step"))
    rw [h2]
    repeat' (first | (k_unfold; (try dsimp only)) | (k_end; wrow_close) | walk1 | (dsimp only; walk1) | (leave1; walk_say "STEP leave1"; try dsimp only) | fail "no step")
    rename News _ _ _ _ => N7
    rename Fr _ _ _ _ => F7
    first
      | (rw [plain_0 h2]; exact hret _ _ _ F7 (news_tail N7))
      | (rw [plain_1 h2]; exact hret _ _ _ F7 (news_tail N7)))
theorem answered_t {r n k : List Nat} {t1 t2 t3 : Tok} {rest : List (Addr × Obj)} (B : Below A₀ base outer h₀) (F : Fr h₀ L s.heap m) (T : Top p loose mean mg mb h₀) (hk : cs.kind = .function) (hdp : dp + 1 < recursionLimit) (hun : un + 8 < cLine)
    (hr : r.length ≤ 100) (hn : n.length ≤ 100) (hkl : k.length ≤ 100) (N : News h₀ L s.heap rest)
    (hret : ∀ (D' : Nat) (ys : List Value) (k' : Nat) (tl : List (Addr × Obj)) (h' : Heap) (tk' : Nat), Fr h₀ L h' m → News h₀ L h' ((D', listOf ys.toArray k') :: (tl ++ rest)) → DatAll tl ys ((ansL r n k).map prD) → (∀ q ∈ (D', listOf ys.toArray k') :: tl, ∀ r ∈ rest, @LT.lt Nat _ r.1 q.1) → Q (.ref D') { s with heap := h', toks := tk' }) (X : (hd.heap_39 w.params).In h₀) :
    wpAny (model PySem.Challenge.rw_dn0255_04.row.prog w) (ktrTop dp un gd cn cs L a ccd cl outer) (call (.ref 113) [.str (ofL r) t1, .str (ofL n) t2, .str (ofL k) t3]) Q E s := by
  revert X; k_fill; intro X
  have hKst := kstMark
  w_top off

  have hr2 : (ofL r).length ≤ 100 := by rw [ofL_length]; exact hr
  have hn2 : (ofL n).length ≤ 100 := by rw [ofL_length]; exact hn
  have hk2 : (ofL k).length ≤ 100 := by rw [ofL_length]; exact hkl
  have hn3 : (ofL n.reverse).length ≤ 100 := by rw [ofL_length, List.length_reverse]; exact hn
  (refine wpAny_call ?_; k_dflt (refine' code_def (binds := [(Str.ofString "realm", .str (ofL r) t1), (Str.ofString "nonce", .str (ofL n) t2), (Str.ofString "key", .str (ofL k) t3)]) B F X N T rfl rfl hk ?k6 ?k7 ?k8 ?k9 ?kB ?_ ?c2 ?c3 ?c4 ?c5; (case k6 => k_is); (case k7 => k_is); (case k8 => ktr_room); (case k9 => exact BindsTo.of_eq rfl); (case c5 => decide); (case kB => exact locs rfl); (case c2 => exact rfl); (case c3 => exact rfl); (case c4 => exact rfl); k_whole; intro g' L' h' FG' F' N' B' X' T'; (try dsimp only); (try k_lift B'); (try k_fold)))
  repeat' (first | (k_unfold; (try dsimp only)) | (k_end; wrow_close) | walk1 | (dsimp only; walk1) | (leave1; walk_say "STEP leave1"; try dsimp only) | fail "no step")
  rename News h₀ L _ _ => kN
  rename Fr h₀ L _ _ => kF
  obtain ⟨x1, x2, x3⟩ := said_three (rest := rest) (p1 := ([114], r)) (p2 := ([110], n)) (p3 := ([97], k ++ n.reverse)) kN (by walk_at "mem_go") (by walk_at "mem_go") (by walk_at "mem_go") (by walk_at "mem_go") (fun q hq => by walk_at "mem_go") rl_r rfl rl_n rfl rl_a (ofL_app _ _) (And.right (And.right (And.right (by assumption)))) (allLt_of (by assumption)) (And.right (by assumption)) (And.right (And.right (by assumption)))
  exact hret _ _ _ _ _ _ kF x1 x2 x3

end

end
open PySem PySem.W PyProof.Rows PySem.Calls PyProof.V
local macro_rules | `(tactic| walk_at "subscriptTail Name Slice ref ref") => `(tactic| (k_here; (with_reducible show wpAny _ _ (subscriptTail _ (PySem.Expr.Slice none none (some _) _) (Value.ref _) (Value.ref _)) _ _ _); k_dflt (refine' sl_step ?F ?N ?l ?k ?z ?_ ?s ?t; (case F | N => k_asm); (case l => k_mem); (case k => decide); (case z => omega); (case s => with_unfolding_all rfl); (case t => kmk_pure)); intro D' h' F' N' l1))
section
open PySem PySem.W PyProof.Rows PySem.Calls PyProof.V

section
variable {w : World} {p : Program} {loose : List Str} {mean : ExcName → Option Value} {mg mb : Str → Option Value}
  {dp un : Nat} {gd : Option (List Code)} {cn : Str} {cs : Scope} {a : Addr} {ccd : Value} {cl : List (Str × Addr)} {outer : List Env} {A₀ : Around} {base h₀ : Heap} {L : Addr} {m : Str → Option Value} {s : Shared} {Q E : Value → Shared → Prop}

theorem read_ok {l : List Nat} {tl : Tok} {ws gs : List (List Nat)} {b : List Nat} {rest : List (Addr × Obj)} (B : Below A₀ base outer h₀) (F : Fr h₀ L s.heap m) (T : Top p loose mean mg mb h₀) (hk : cs.kind = .function) (hdp : dp + 2 < recursionLimit) (hun : un + 16 < cLine)
    (hl : l.length ≤ 1000) (hws : ((pparts l).map fun w => Txt.strip (ofL w)) = ws.map ofL) (hst : stepL (stepOf l) ws = gs) (hg : ∀ v ∈ gs, v.length ≤ 1000 ∧ ∃ k r, v = k ++ 61 :: r ∧ 61 ∉ k ∧ r ≠ [])  (N : News h₀ L s.heap rest)
    (hret : ∀ (d : Nat) (od : Obj) (kvs : List (Str × Value)) (h' : Heap) (tk' : Nat), Fr h₀ L h' m → News h₀ L h' ((d, od) :: rest) → (∀ q ∈ rest, @Ne Nat q.1 d) → (d == sysModules) = false → od.IsDictOf (PySem.strKind (PySem.Challenge.rw_dn0255_04.row.prog) w) kvs → KV kvs (keqP gs) → Q (.ref d) { s with heap := h', toks := tk' }) (X : (hd.heap_39 w.params).In h₀) :
    wpAny (model PySem.Challenge.rw_dn0255_04.row.prog w) (ktrTop dp un gd cn cs L a ccd cl outer) (call (.ref 106) [.str (ofL l) tl]) Q E s := by
  revert X; k_fill; intro X
  have hKst := kstMark
  w_top off

  have hwl := parts_ws hws
  (refine wpAny_call ?_; k_dflt (refine' code_def (binds := [(Str.ofString "header", .str (ofL l) tl)]) B F X N T rfl rfl hk ?k6 ?k7 ?k8 ?k9 ?kB ?_ ?c2 ?c3 ?c4 ?c5; (case k6 => k_is); (case k7 => k_is); (case k8 => ktr_room); (case k9 => exact BindsTo.of_eq rfl); (case c5 => decide); (case kB => exact locs rfl); (case c2 => exact rfl); (case c3 => exact rfl); (case c4 => exact rfl); k_whole; intro g' L' h' FG' F' N' B' X' T'; (try dsimp only); (try k_lift B'); (try k_fold)))
  cases hc : hasG l
  all_goals simp only [stepOf, hc, Bool.false_eq_true, if_false, if_true] at hst
  · repeat' ((fail_if_success (with_reducible show wpAny _ _ (compareOp .In _ _) _ _ _)); (first | (k_unfold; (try dsimp only)) | (k_end; wrow_close) | walk1 | (dsimp only; walk1) | (leave1; walk_say "STEP leave1"; try dsimp only) | fail "no step"))
    refine SB.contains ?_
    rw [show Txt.contains (ofL l) (Str.ofString ",,\n") = _ from hc]
    repeat' ((fail_if_success (with_reducible show wpAny _ _ (call (Value.ref 80) _ _) _ _ _)); (first | (k_unfold; (try dsimp only)) | (k_end; wrow_close) | walk1 | (dsimp only; walk1) | (leave1; walk_say "STEP leave1"; try dsimp only) | fail "no step"))
    (k_dflt (refine' parse_t ?kB10 ?kF10 ?kT10 ?kh10 ?rd10 ?ru10 hl ?kN10 ?rr10 ?kX10; (case kh10 => rfl); (case kF10 => k_asm); (case kB10 => k_asm); (case kT10 => k_asm); (case kX10 => k_asm); (case kN10 => k_asm))); (case rd10 => ktr_room); (case ru10 => ktr_units)
    intro D5 ys5 h5 tk5 F5 N5 o5 hs5
    replace hs5 := strs_cast hs5 hws
    have hyl := strs_len hs5
    rw [List.length_map] at hyl
    have hs7 := strs_step (k := 1) hs5
    rw [hst] at hs7
    have hsl := strs_len hs7
    have hsm := step_len (1 : Int) ys5
    repeat' ((fail_if_success (with_reducible show wpAny _ _ (call (Value.ref 75) _ _) _ _ _)); (first | (k_unfold; (try dsimp only)) | (k_end; wrow_close) | walk1 | (dsimp only; walk1) | (leave1; walk_say "STEP leave1"; try dsimp only) | fail "no step"))
    (k_dflt (refine' keqv_ok ?kB20 ?kF20 ?kT20 ?kh20 ?rd20 ?ru20 (by omega) hs7 hg ?kN20 ?kD20 ?rr20 ?kX20; (case kh20 => rfl); (case kF20 => k_asm); (case kB20 => k_asm); (case kT20 => k_asm); (case kX20 => k_asm); (case kN20 => k_asm); (case kD20 => exact List.mem_cons_self ..))); (case rd20 => ktr_room); (case ru20 => ktr_units)
    intro d8 od8 kvs8 h8 tk8 F8 N8 o8 lo8 hod8 hkv8
    repeat' (first | (k_unfold; (try dsimp only)) | (k_end; wrow_close) | walk1 | (dsimp only; walk1) | (leave1; walk_say "STEP leave1"; try dsimp only) | fail "no step")
    rename News _ _ _ _ => N9
    rename Fr _ _ _ _ => F9
    exact hret d8 od8 kvs8 _ _ F9 (news_le N9 (List.forall_mem_cons.mpr ⟨List.mem_cons_self .., fun q hq => List.mem_cons_of_mem _ (List.mem_cons_of_mem _ (List.mem_cons_of_mem _ hq))⟩)) (fun q hq => o8 q (List.mem_cons_of_mem _ (List.mem_cons_of_mem _ hq))) lo8 hod8 hkv8
  · repeat' ((fail_if_success (with_reducible show wpAny _ _ (compareOp .In _ _) _ _ _)); (first | (k_unfold; (try dsimp only)) | (k_end; wrow_close) | walk1 | (dsimp only; walk1) | (leave1; walk_say "STEP leave1"; try dsimp only) | fail "no step"))
    refine SB.contains ?_
    rw [show Txt.contains (ofL l) (Str.ofString ",,\n") = _ from hc]
    repeat' ((fail_if_success (with_reducible show wpAny _ _ (call (Value.ref 80) _ _) _ _ _)); (first | (k_unfold; (try dsimp only)) | (k_end; wrow_close) | walk1 | (dsimp only; walk1) | (leave1; walk_say "STEP leave1"; try dsimp only) | fail "no step"))
    (k_dflt (refine' parse_t ?kB11 ?kF11 ?kT11 ?kh11 ?rd11 ?ru11 hl ?kN11 ?rr11 ?kX11; (case kh11 => rfl); (case kF11 => k_asm); (case kB11 => k_asm); (case kT11 => k_asm); (case kX11 => k_asm); (case kN11 => k_asm))); (case rd11 => ktr_room); (case ru11 => ktr_units)
    intro D5 ys5 h5 tk5 F5 N5 o5 hs5
    replace hs5 := strs_cast hs5 hws
    have hyl := strs_len hs5
    rw [List.length_map] at hyl
    have hs7 := strs_step (k := 2) hs5
    rw [hst] at hs7
    have hsl := strs_len hs7
    have hsm := step_len (2 : Int) ys5
    repeat' ((fail_if_success (with_reducible show wpAny _ _ (call (Value.ref 75) _ _) _ _ _)); (first | (k_unfold; (try dsimp only)) | (k_end; wrow_close) | walk1 | (dsimp only; walk1) | (leave1; walk_say "STEP leave1"; try dsimp only) | fail "no step"))
    (k_dflt (refine' keqv_ok ?kB21 ?kF21 ?kT21 ?kh21 ?rd21 ?ru21 (by omega) hs7 hg ?kN21 ?kD21 ?rr21 ?kX21; (case kh21 => rfl); (case kF21 => k_asm); (case kB21 => k_asm); (case kT21 => k_asm); (case kX21 => k_asm); (case kN21 => k_asm); (case kD21 => exact List.mem_cons_self ..))); (case rd21 => ktr_room); (case ru21 => ktr_units)
    intro d8 od8 kvs8 h8 tk8 F8 N8 o8 lo8 hod8 hkv8
    repeat' (first | (k_unfold; (try dsimp only)) | (k_end; wrow_close) | walk1 | (dsimp only; walk1) | (leave1; walk_say "STEP leave1"; try dsimp only) | fail "no step")
    rename News _ _ _ _ => N9
    rename Fr _ _ _ _ => F9
    exact hret d8 od8 kvs8 _ _ F9 (news_le N9 (List.forall_mem_cons.mpr ⟨List.mem_cons_self .., fun q hq => List.mem_cons_of_mem _ (List.mem_cons_of_mem _ (List.mem_cons_of_mem _ hq))⟩)) (fun q hq => o8 q (List.mem_cons_of_mem _ (List.mem_cons_of_mem _ hq))) lo8 hod8 hkv8

theorem read_val {l : List Nat} {tl : Tok} {ws gs : List (List Nat)} {b : List Nat} {rest : List (Addr × Obj)} (B : Below A₀ base outer h₀) (F : Fr h₀ L s.heap m) (T : Top p loose mean mg mb h₀) (hk : cs.kind = .function) (hdp : dp + 2 < recursionLimit) (hun : un + 16 < cLine)
    (hl : l.length ≤ 1000) (hws : ((pparts l).map fun w => Txt.strip (ofL w)) = ws.map ofL) (hst : stepL (stepOf l) ws = gs ++ [b]) (hg : ∀ v ∈ gs, v.length ≤ 1000 ∧ ∃ k r, v = k ++ 61 :: r ∧ 61 ∉ k ∧ r ≠ []) (hbl : b.length ≤ 1000) (hb : 61 ∉ b) (N : News h₀ L s.heap rest)
    (hraise : ∀ (e : Nat) (g' h' : Heap) (tk' : Nat), Fr h₀ L g' m → RaisedSN base g' (envX cn cs L a ccd cl :: outer) e (.type "ValueError") rest h' → g'.UpToSlots h' → E (.ref e) { s with heap := h', toks := tk' }) (X : (hd.heap_39 w.params).In h₀) :
    wpAny (model PySem.Challenge.rw_dn0255_04.row.prog w) (ktrTop dp un gd cn cs L a ccd cl outer) (call (.ref 106) [.str (ofL l) tl]) Q E s := by
  revert X; k_fill; intro X
  have hKst := kstMark
  w_top off

  have hwl := parts_ws hws
  (refine wpAny_call ?_; k_dflt (refine' code_def (binds := [(Str.ofString "header", .str (ofL l) tl)]) B F X N T rfl rfl hk ?k6 ?k7 ?k8 ?k9 ?kB ?_ ?c2 ?c3 ?c4 ?c5; (case k6 => k_is); (case k7 => k_is); (case k8 => ktr_room); (case k9 => exact BindsTo.of_eq rfl); (case c5 => decide); (case kB => exact locs rfl); (case c2 => exact rfl); (case c3 => exact rfl); (case c4 => exact rfl); k_whole; intro g' L' h' FG' F' N' B' X' T'; (try dsimp only); (try k_lift B'); (try k_fold)))
  cases hc : hasG l
  all_goals simp only [stepOf, hc, Bool.false_eq_true, if_false, if_true] at hst
  · repeat' ((fail_if_success (with_reducible show wpAny _ _ (compareOp .In _ _) _ _ _)); (first | (k_unfold; (try dsimp only)) | (k_end; wrow_close) | walk1 | (dsimp only; walk1) | (leave1; walk_say "STEP leave1"; try dsimp only) | fail "no step"))
    refine SB.contains ?_
    rw [show Txt.contains (ofL l) (Str.ofString ",,\n") = _ from hc]
    repeat' ((fail_if_success (with_reducible show wpAny _ _ (call (Value.ref 80) _ _) _ _ _)); (first | (k_unfold; (try dsimp only)) | (k_end; wrow_close) | walk1 | (dsimp only; walk1) | (leave1; walk_say "STEP leave1"; try dsimp only) | fail "no step"))
    (k_dflt (refine' parse_t ?kB10 ?kF10 ?kT10 ?kh10 ?rd10 ?ru10 hl ?kN10 ?rr10 ?kX10; (case kh10 => rfl); (case kF10 => k_asm); (case kB10 => k_asm); (case kT10 => k_asm); (case kX10 => k_asm); (case kN10 => k_asm))); (case rd10 => ktr_room); (case ru10 => ktr_units)
    intro D5 ys5 h5 tk5 F5 N5 o5 hs5
    replace hs5 := strs_cast hs5 hws
    have hyl := strs_len hs5
    rw [List.length_map] at hyl
    have hs7 := strs_step (k := 1) hs5
    rw [hst] at hs7
    have hsl := strs_len hs7
    have hsm := step_len (1 : Int) ys5
    repeat' ((fail_if_success (with_reducible show wpAny _ _ (call (Value.ref 75) _ _) _ _ _)); (first | (k_unfold; (try dsimp only)) | (k_end; wrow_close) | walk1 | (dsimp only; walk1) | (leave1; walk_say "STEP leave1"; try dsimp only) | fail "no step"))
    (k_dflt (refine' keqv_val ?kB20 ?kF20 ?kT20 ?kh20 ?rd20 ?ru20 (by omega) hs7 hg hbl hb ?kN20 ?kD20 ?rr20 ?kX20; (case kh20 => rfl); (case kF20 => k_asm); (case kB20 => k_asm); (case kT20 => k_asm); (case kX20 => k_asm); (case kN20 => k_asm); (case kD20 => exact List.mem_cons_self ..))); (case rd20 => ktr_room); (case ru20 => ktr_units)
    intro e8 g8 h8 tk8 F8 R8 U8
    refine leave_onX rfl B' F8 R8 U8 ?_
    intro h9 R9 U9
    exact hraise e8 g' h9 _ FG' (raised_sub R9 fun q hq => List.mem_cons_of_mem _ (List.mem_cons_of_mem _ hq)) U9
  · repeat' ((fail_if_success (with_reducible show wpAny _ _ (compareOp .In _ _) _ _ _)); (first | (k_unfold; (try dsimp only)) | (k_end; wrow_close) | walk1 | (dsimp only; walk1) | (leave1; walk_say "STEP leave1"; try dsimp only) | fail "no step"))
    refine SB.contains ?_
    rw [show Txt.contains (ofL l) (Str.ofString ",,\n") = _ from hc]
    repeat' ((fail_if_success (with_reducible show wpAny _ _ (call (Value.ref 80) _ _) _ _ _)); (first | (k_unfold; (try dsimp only)) | (k_end; wrow_close) | walk1 | (dsimp only; walk1) | (leave1; walk_say "STEP leave1"; try dsimp only) | fail "no step"))
    (k_dflt (refine' parse_t ?kB11 ?kF11 ?kT11 ?kh11 ?rd11 ?ru11 hl ?kN11 ?rr11 ?kX11; (case kh11 => rfl); (case kF11 => k_asm); (case kB11 => k_asm); (case kT11 => k_asm); (case kX11 => k_asm); (case kN11 => k_asm))); (case rd11 => ktr_room); (case ru11 => ktr_units)
    intro D5 ys5 h5 tk5 F5 N5 o5 hs5
    replace hs5 := strs_cast hs5 hws
    have hyl := strs_len hs5
    rw [List.length_map] at hyl
    have hs7 := strs_step (k := 2) hs5
    rw [hst] at hs7
    have hsl := strs_len hs7
    have hsm := step_len (2 : Int) ys5
    repeat' ((fail_if_success (with_reducible show wpAny _ _ (call (Value.ref 75) _ _) _ _ _)); (first | (k_unfold; (try dsimp only)) | (k_end; wrow_close) | walk1 | (dsimp only; walk1) | (leave1; walk_say "STEP leave1"; try dsimp only) | fail "no step"))
    (k_dflt (refine' keqv_val ?kB21 ?kF21 ?kT21 ?kh21 ?rd21 ?ru21 (by omega) hs7 hg hbl hb ?kN21 ?kD21 ?rr21 ?kX21; (case kh21 => rfl); (case kF21 => k_asm); (case kB21 => k_asm); (case kT21 => k_asm); (case kX21 => k_asm); (case kN21 => k_asm); (case kD21 => exact List.mem_cons_self ..))); (case rd21 => ktr_room); (case ru21 => ktr_units)
    intro e8 g8 h8 tk8 F8 R8 U8
    refine leave_onX rfl B' F8 R8 U8 ?_
    intro h9 R9 U9
    exact hraise e8 g' h9 _ FG' (raised_sub R9 fun q hq => List.mem_cons_of_mem _ (List.mem_cons_of_mem _ hq)) U9

theorem read_idx {l : List Nat} {tl : Tok} {ws gs : List (List Nat)} {b : List Nat} {rest : List (Addr × Obj)} (B : Below A₀ base outer h₀) (F : Fr h₀ L s.heap m) (T : Top p loose mean mg mb h₀) (hk : cs.kind = .function) (hdp : dp + 2 < recursionLimit) (hun : un + 16 < cLine)
    (hl : l.length ≤ 1000) (hws : ((pparts l).map fun w => Txt.strip (ofL w)) = ws.map ofL) (hst : stepL (stepOf l) ws = gs ++ [b ++ 61 :: []]) (hg : ∀ v ∈ gs, v.length ≤ 1000 ∧ ∃ k r, v = k ++ 61 :: r ∧ 61 ∉ k ∧ r ≠ []) (hbl : b.length ≤ 1000) (hb : 61 ∉ b) (N : News h₀ L s.heap rest)
    (hraise : ∀ (e : Nat) (g' h' : Heap) (tk' : Nat), Fr h₀ L g' m → RaisedSN base g' (envX cn cs L a ccd cl :: outer) e (.type "IndexError") rest h' → g'.UpToSlots h' → E (.ref e) { s with heap := h', toks := tk' }) (X : (hd.heap_39 w.params).In h₀) :
    wpAny (model PySem.Challenge.rw_dn0255_04.row.prog w) (ktrTop dp un gd cn cs L a ccd cl outer) (call (.ref 106) [.str (ofL l) tl]) Q E s := by
  revert X; k_fill; intro X
  have hKst := kstMark
  w_top off

  have hwl := parts_ws hws
  (refine wpAny_call ?_; k_dflt (refine' code_def (binds := [(Str.ofString "header", .str (ofL l) tl)]) B F X N T rfl rfl hk ?k6 ?k7 ?k8 ?k9 ?kB ?_ ?c2 ?c3 ?c4 ?c5; (case k6 => k_is); (case k7 => k_is); (case k8 => ktr_room); (case k9 => exact BindsTo.of_eq rfl); (case c5 => decide); (case kB => exact locs rfl); (case c2 => exact rfl); (case c3 => exact rfl); (case c4 => exact rfl); k_whole; intro g' L' h' FG' F' N' B' X' T'; (try dsimp only); (try k_lift B'); (try k_fold)))
  cases hc : hasG l
  all_goals simp only [stepOf, hc, Bool.false_eq_true, if_false, if_true] at hst
  · repeat' ((fail_if_success (with_reducible show wpAny _ _ (compareOp .In _ _) _ _ _)); (first | (k_unfold; (try dsimp only)) | (k_end; wrow_close) | walk1 | (dsimp only; walk1) | (leave1; walk_say "STEP leave1"; try dsimp only) | fail "no step"))
    refine SB.contains ?_
    rw [show Txt.contains (ofL l) (Str.ofString ",,\n") = _ from hc]
    repeat' ((fail_if_success (with_reducible show wpAny _ _ (call (Value.ref 80) _ _) _ _ _)); (first | (k_unfold; (try dsimp only)) | (k_end; wrow_close) | walk1 | (dsimp only; walk1) | (leave1; walk_say "STEP leave1"; try dsimp only) | fail "no step"))
    (k_dflt (refine' parse_t ?kB10 ?kF10 ?kT10 ?kh10 ?rd10 ?ru10 hl ?kN10 ?rr10 ?kX10; (case kh10 => rfl); (case kF10 => k_asm); (case kB10 => k_asm); (case kT10 => k_asm); (case kX10 => k_asm); (case kN10 => k_asm))); (case rd10 => ktr_room); (case ru10 => ktr_units)
    intro D5 ys5 h5 tk5 F5 N5 o5 hs5
    replace hs5 := strs_cast hs5 hws
    have hyl := strs_len hs5
    rw [List.length_map] at hyl
    have hs7 := strs_step (k := 1) hs5
    rw [hst] at hs7
    have hsl := strs_len hs7
    have hsm := step_len (1 : Int) ys5
    repeat' ((fail_if_success (with_reducible show wpAny _ _ (call (Value.ref 75) _ _) _ _ _)); (first | (k_unfold; (try dsimp only)) | (k_end; wrow_close) | walk1 | (dsimp only; walk1) | (leave1; walk_say "STEP leave1"; try dsimp only) | fail "no step"))
    (k_dflt (refine' keqv_idx ?kB20 ?kF20 ?kT20 ?kh20 ?rd20 ?ru20 (by omega) hs7 hg hbl hb ?kN20 ?kD20 ?rr20 ?kX20; (case kh20 => rfl); (case kF20 => k_asm); (case kB20 => k_asm); (case kT20 => k_asm); (case kX20 => k_asm); (case kN20 => k_asm); (case kD20 => exact List.mem_cons_self ..))); (case rd20 => ktr_room); (case ru20 => ktr_units)
    intro e8 g8 h8 tk8 F8 R8 U8
    refine leave_onX rfl B' F8 R8 U8 ?_
    intro h9 R9 U9
    exact hraise e8 g' h9 _ FG' (raised_sub R9 fun q hq => List.mem_cons_of_mem _ (List.mem_cons_of_mem _ hq)) U9
  · repeat' ((fail_if_success (with_reducible show wpAny _ _ (compareOp .In _ _) _ _ _)); (first | (k_unfold; (try dsimp only)) | (k_end; wrow_close) | walk1 | (dsimp only; walk1) | (leave1; walk_say "STEP leave1"; try dsimp only) | fail "no step"))
    refine SB.contains ?_
    rw [show Txt.contains (ofL l) (Str.ofString ",,\n") = _ from hc]
    repeat' ((fail_if_success (with_reducible show wpAny _ _ (call (Value.ref 80) _ _) _ _ _)); (first | (k_unfold; (try dsimp only)) | (k_end; wrow_close) | walk1 | (dsimp only; walk1) | (leave1; walk_say "STEP leave1"; try dsimp only) | fail "no step"))
    (k_dflt (refine' parse_t ?kB11 ?kF11 ?kT11 ?kh11 ?rd11 ?ru11 hl ?kN11 ?rr11 ?kX11; (case kh11 => rfl); (case kF11 => k_asm); (case kB11 => k_asm); (case kT11 => k_asm); (case kX11 => k_asm); (case kN11 => k_asm))); (case rd11 => ktr_room); (case ru11 => ktr_units)
    intro D5 ys5 h5 tk5 F5 N5 o5 hs5
    replace hs5 := strs_cast hs5 hws
    have hyl := strs_len hs5
    rw [List.length_map] at hyl
    have hs7 := strs_step (k := 2) hs5
    rw [hst] at hs7
    have hsl := strs_len hs7
    have hsm := step_len (2 : Int) ys5
    repeat' ((fail_if_success (with_reducible show wpAny _ _ (call (Value.ref 75) _ _) _ _ _)); (first | (k_unfold; (try dsimp only)) | (k_end; wrow_close) | walk1 | (dsimp only; walk1) | (leave1; walk_say "STEP leave1"; try dsimp only) | fail "no step"))
    (k_dflt (refine' keqv_idx ?kB21 ?kF21 ?kT21 ?kh21 ?rd21 ?ru21 (by omega) hs7 hg hbl hb ?kN21 ?kD21 ?rr21 ?kX21; (case kh21 => rfl); (case kF21 => k_asm); (case kB21 => k_asm); (case kT21 => k_asm); (case kX21 => k_asm); (case kN21 => k_asm); (case kD21 => exact List.mem_cons_self ..))); (case rd21 => ktr_room); (case ru21 => ktr_units)
    intro e8 g8 h8 tk8 F8 R8 U8
    refine leave_onX rfl B' F8 R8 U8 ?_
    intro h9 R9 U9
    exact hraise e8 g' h9 _ FG' (raised_sub R9 fun q hq => List.mem_cons_of_mem _ (List.mem_cons_of_mem _ hq)) U9

end

end
open PySem PySem.W PyProof.Rows PySem.Calls PyProof.V
local macro_rules | `(tactic| k_mem) => `(tactic| (walk_at "mem_go"))
local macro_rules | `(tactic| walk_at "eval Name") => `(tactic| ((with_reducible show wpAny _ _ (eval (Expr.Name (Str.ofString "gap") _) _) _ _ _); k_dflt (refine' nameX_F ?N ?c ?m ?d ?_ ?a ?b; (case a | b => rfl); (case N => k_asm); (case c => rfl); (case m => walk_at "mem_go"); (case d => assumption))))
local macro_rules | `(tactic| walk_at "eval Name") => `(tactic| ((with_reducible show wpAny _ _ (eval (Expr.Name (Str.ofString "kind") _) _) _ _ _); k_dflt (refine' nameX_F ?N ?c ?m ?d ?_ ?a ?b; (case a | b => rfl); (case N => k_asm); (case c => rfl); (case m => walk_at "mem_go"); (case d => assumption))))
local macro_rules | `(tactic| walk_at "eval Name") => `(tactic| ((with_reducible show wpAny _ _ (eval (Expr.Name (Str.ofString "log") _) _) _ _ _); k_dflt (refine' nameX_F ?N ?c ?m ?d ?_ ?a ?b; (case a | b => rfl); (case N => k_asm); (case c => rfl); (case m => walk_at "mem_go"); (case d => assumption))))
local macro_rules | `(tactic| walk_at "eval Name") => `(tactic| ((with_reducible show wpAny _ _ (eval (Expr.Name (Str.ofString "m") _) _) _ _ _); k_dflt (refine' nameX_F ?N ?c ?m ?d ?_ ?a ?b; (case a | b => rfl); (case N => k_asm); (case c => rfl); (case m => walk_at "mem_go"); (case d => assumption))))
local macro_rules | `(tactic| walk_at "eval Name") => `(tactic| ((with_reducible show wpAny _ _ (eval (Expr.Name (Str.ofString "pages") _) _) _ _ _); k_dflt (refine' nameX_F ?N ?c ?m ?d ?_ ?a ?b; (case a | b => rfl); (case N => k_asm); (case c => rfl); (case m => walk_at "mem_go"); (case d => assumption))))
local macro_rules | `(tactic| walk_at "eval Name") => `(tactic| ((with_reducible show wpAny _ _ (eval (Expr.Name (Str.ofString "realm") _) _) _ _ _); k_dflt (refine' nameX_F ?N ?c ?m ?d ?_ ?a ?b; (case a | b => rfl); (case N => k_asm); (case c => rfl); (case m => walk_at "mem_go"); (case d => assumption))))
section
open PySem PySem.W PyProof.Rows PySem.Calls PyProof.V

noncomputable def defBody : Stmt → List Stmt
  | .FunctionDef _ _ b _ _ _ _ _ _ _ => b
  | _ => []
noncomputable def defArgs : Stmt → Arguments
  | .FunctionDef _ a _ _ _ _ _ _ _ _ => a
  | _ => default
noncomputable def defScope : Stmt → Scope
  | .FunctionDef _ _ _ _ _ _ s _ _ _ => s
  | _ => default
noncomputable def asgVal : Stmt → PySem.Expr
  | .Assign _ v _ => v
  | _ => default
noncomputable def lamBody : PySem.Expr → PySem.Expr
  | .Lambda _ b _ _ => b
  | _ => default
noncomputable def lamScope : PySem.Expr → Scope
  | .Lambda _ _ s _ => s
  | _ => default
noncomputable def lamArgs : PySem.Expr → Arguments
  | .Lambda a _ _ _ => a
  | _ => default
noncomputable def sesDef : Stmt := (PySem.Challenge.pw_dn0255_04.main.body.getD 11 default)
noncomputable def srvDef : Stmt := ((defBody sesDef).getD 8 default)
noncomputable def errDef : Stmt := ((defBody sesDef).getD 9 default)
noncomputable def lamEx : PySem.Expr := asgVal ((defBody srvDef).getD 8 default)
noncomputable def srvFn (qual : Str) (cG cK cL cM cP cR : Addr) (doc pm : Value) (c' : Addr) (ctv : Value) : Obj := fnMade (Str.ofString "_law_serve") qual (defArgs srvDef) (defBody srvDef) (defScope srvDef) [(Str.ofString "realm", cR), (Str.ofString "pages", cP), (Str.ofString "m", cM), (Str.ofString "log", cL), (Str.ofString "kind", cK), (Str.ofString "gap", cG)] doc pm c' ctv
noncomputable def errFn (qual : Str) (cS cG cK cL cP cX : Addr) (doc pm : Value) (c' : Addr) (ctv : Value) : Obj := fnMade (Str.ofString "_law_error") qual (defArgs errDef) (defBody errDef) (defScope errDef) [(Str.ofString "processor", cX), (Str.ofString "pages", cP), (Str.ofString "log", cL), (Str.ofString "kind", cK), (Str.ofString "gap", cG), (Str.ofString "_law_serve", cS)] doc pm c' ctv
noncomputable def lamFn (qual : Str) (cG cH cK : Addr) (pm : Value) (c' : Addr) (ctv : Value) : Obj := kla_obj (Str.ofString "<lambda>") qual (lamArgs lamEx) (lamBody lamEx) (lamScope lamEx) [(Str.ofString "kind", cK), (Str.ofString "head", cH), (Str.ofString "gap", cG)] pm c' ctv
abbrev ent (w : World) (x : String) (t : Tok) (v : Value) : DictEntry := ⟨PyData.keyHash w.params (Str.ofString x), .str (Str.ofString x) t, v⟩
abbrev posL : Pos := ⟨93, 20, 93, 101⟩
/-- the table of the serving def: the lambda's code is new or known -/
noncomputable def LamSt (pt : Array Value) (ql : Str) (rest : List (Addr × Obj)) : Prop := TriplesOk pt.toList ∧ (codeAmong posL pt.toList = none ∨ ∃ c' oc, codeAmong posL pt.toList = some (.ref c') ∧ (c', oc) ∈ rest ∧ CodeQ oc ql)
theorem LamSt.mono {pt : Array Value} {ql : Str} {rest nx : List (Addr × Obj)} (h : LamSt pt ql rest) (hs : ∀ q ∈ rest, q ∈ nx) : LamSt pt ql nx := ⟨h.1, h.2.imp id fun ⟨c', oc, h1, h2, h3⟩ => ⟨c', oc, h1, hs _ h2, h3⟩⟩
/-- the cells of a session, and its serving def -/
structure Srv (rest : List (Addr × Obj)) (fs sc PT cG cK cL cM cP cR lg pg : Nat) (ocs oG oK oL oM oP oR : Obj) (qs : Str) (docs pms cts : Value) (g rl : List Nat) (kd mm : Int) (tg tk tm tr : Tok) : Prop where
  hfs : (fs, srvFn qs cG cK cL cM cP cR docs pms sc cts) ∈ rest
  hcs : (sc, ocs) ∈ rest
  hcq : CodeQ ocs qs
  hco : CodeOb ocs sc PT
  hG : (cG, oG) ∈ rest
  dG : oG.data = .cell (some (.str (ofL g) tg))
  hK : (cK, oK) ∈ rest
  dK : oK.data = .cell (some (.int kd tk))
  hL : (cL, oL) ∈ rest
  dL : oL.data = .cell (some (.ref lg))
  hM : (cM, oM) ∈ rest
  dM : oM.data = .cell (some (.int mm tm))
  hP : (cP, oP) ∈ rest
  dP : oP.data = .cell (some (.ref pg))
  hR : (cR, oR) ∈ rest
  dR : oR.data = .cell (some (.str (ofL rl) tr))
  lg0 : g.length ≤ 16
  lr0 : rl.length ≤ 2
  lr1 : ∀ c ∈ rl, c < 128
theorem Srv.mono {rest nx : List (Addr × Obj)} {fs sc PT cG cK cL cM cP cR lg pg : Nat} {ocs oG oK oL oM oP oR : Obj} {qs : Str} {docs pms cts : Value} {g rl : List Nat} {kd mm : Int} {tg tk tm tr : Tok}
    (S : Srv rest fs sc PT cG cK cL cM cP cR lg pg ocs oG oK oL oM oP oR qs docs pms cts g rl kd mm tg tk tm tr) (hs : ∀ q ∈ rest, q ∈ nx) : Srv nx fs sc PT cG cK cL cM cP cR lg pg ocs oG oK oL oM oP oR qs docs pms cts g rl kd mm tg tk tm tr :=
  { S with hfs := hs _ S.hfs, hcs := hs _ S.hcs, hG := hs _ S.hG, hK := hs _ S.hK, hL := hs _ S.hL, hM := hs _ S.hM, hP := hs _ S.hP, hR := hs _ S.hR }
noncomputable def headL (mm : Int) (rl g : List Nat) (i : Nat) : List Nat := [111, 61] ++ plainL mm ++ g ++ writtenL [([110], [111, 108, 100]), ([114], rl), ([110], textL (mm + i))] g
noncomputable def codeF (kd mm : Int) (rl : List Nat) (ps : PL) (i : Nat) : Int := if 0 < i ∧ ps = ansL rl (textL (mm + i - 1)) [107] then (if kd = 5 then 250 + mm.fmod 100 else 200) else 401
/-- a page of the server -/
noncomputable def PageAt (w : World) (nx : List (Addr × Obj)) (cG cK : Nat) (ql : Str) (y : Nat) (c : Int) (head : List Nat) : Prop :=
  ∃ (dy fi ci cH : Nat) (oci oH : Obj) (pmi cti : Value) (t1 t2 t3 t4 t5 th : Tok), (y, instObj 45 dy) ∈ nx ∧ (dy, dictOf [ent w "code" t1 (.int c t2), ent w "msg" t3 (.str (Str.ofString "word") t4), ent w "info" t5 (.ref fi)] 3) ∈ nx ∧ (fi, lamFn ql cG cH cK pmi ci cti) ∈ nx ∧ (ci, oci) ∈ nx ∧ CodeQ oci ql ∧ (cH, oH) ∈ nx ∧ oH.data = .cell (some (.str (ofL head) th))

section
variable {w : World} {p : Program} {loose : List Str} {mean : ExcName → Option Value} {mg mb : Str → Option Value}
  {dp un : Nat} {gd : Option (List Code)} {cn : Str} {cs : Scope} {a : Addr} {ccd : Value} {cl : List (Str × Addr)} {outer : List Env} {A₀ : Around} {base h₀ : Heap} {L : Addr} {m : Str → Option Value} {s : Shared} {Q E : Value → Shared → Prop}

local macro_rules | `(tactic| walk_at "call builtin:len") => `(tactic| (k_here; k_dflt (refine' len_n ?k1 ?k2 ?k4 ?_; (case k1 => k_asm); (case k2 => walk_at "mem_go"); (case k4 => omega))))

local macro_rules | `(tactic| walk_at "and_all") => `(tactic| repeat (rename _ ∧ _ => hh; obtain ⟨_, _⟩ := hh))
local macro_rules | `(tactic| walk_at "new_one") => `(tactic| first | exact lt_of (by assumption) | assumption | exact fun r hr => lt_of (by assumption) r (by walk_at "mem_go"))
local macro_rules | `(tactic| walk_at "ext_go") => `(tactic| first | exact Ext.refl | assumption | (refine Ext.add ?_ (by walk_at "new_one"); walk_at "ext_go"))

noncomputable def srvEnd : List Stmt := (defBody srvDef).drop 9
theorem serve_end {fs sc cG cK cL cM cP cR pg B2 c2 y dy fi : Nat} {oK oM oP oR : Obj} {qs : Str} {rl : List Nat} {kd mm : Int} {tkd tm tr tc t1 t2 t3 t4 t5 : Tok} {vs2 pv : List Value} {ps : PL} {n2 : Nat} {rest : List (Addr × Obj)} {m₁ : Str → Option Value} {Qf : Flow → Shared → Prop} {Ef : Value → Shared → Prop}
    (B : Below A₀ base outer h₀) (F : Fr h₀ L s.heap (kstB m₁ [(Str.ofString "read", Value.ref B2), (Str.ofString "count", Value.int pv.length tc), (Str.ofString "page", Value.ref y)])) (T : Top p loose mean mg mb h₀) (hdp : dp + 3 < recursionLimit) (hun : un + 100 < cLine)
    (hK : (cK, oK) ∈ rest) (dK : oK.data = .cell (some (.int kd tkd))) (hM : (cM, oM) ∈ rest) (dM : oM.data = .cell (some (.int mm tm))) (hP : (cP, oP) ∈ rest) (dP : oP.data = .cell (some (.ref pg))) (hR : (cR, oR) ∈ rest) (dR : oR.data = .cell (some (.str (ofL rl) tr)))
    (hB2 : (B2, listOf vs2.toArray c2) ∈ rest) (hD2 : DatAll rest vs2 (ps.map prD)) (hpo : ∀ p ∈ ps, lowP p) (lr0 : rl.length ≤ 2) (lr1 : ∀ c ∈ rl, c < 128) (hpv : pv.length ≤ 3)
    (hoff : ∀ q ∈ rest, @Ne Nat q.1 pg ∧ @Ne Nat q.1 dy) (hne : @Ne Nat y dy ∧ @Ne Nat y pg ∧ @Ne Nat dy pg)
    (N : News h₀ L s.heap ((y, instObj 45 dy) :: (dy, dictOf [ent w "code" t1 (.int 401 t2), ent w "msg" t3 (.str (Str.ofString "word") t4), ent w "info" t5 (.ref fi)] 3) :: (pg, listOf pv.toArray n2) :: rest))
    (hret : ∀ (t2' n2' : Nat) (h' : Heap) (tk' : Nat) (m' : Str → Option Value), Fr h₀ L h' m' → News h₀ L h' ((y, instObj 45 dy) :: (dy, dictOf [ent w "code" t1 (.int (codeF kd mm rl ps pv.length) t2'), ent w "msg" t3 (.str (Str.ofString "word") t4), ent w "info" t5 (.ref fi)] 3) :: (pg, listOf (pv ++ [Value.ref y]).toArray n2') :: rest) → Qf (.ret (.ref y)) { s with heap := h', toks := tk' }) (X : (hd.heap_39 w.params).In h₀) :
    wpAny (model PySem.Challenge.rw_dn0255_04.row.prog w) (ktrTop dp un gd qs (defScope srvDef) L fs (.ref sc) [(Str.ofString "head", L + 1), (Str.ofString "realm", cR), (Str.ofString "pages", cP), (Str.ofString "m", cM), (Str.ofString "log", cL), (Str.ofString "kind", cK), (Str.ofString "gap", cG)] outer) (execs srvEnd (envX qs (defScope srvDef) L fs (.ref sc) [(Str.ofString "head", L + 1), (Str.ofString "realm", cR), (Str.ofString "pages", cP), (Str.ofString "m", cM), (Str.ofString "log", cL), (Str.ofString "kind", cK), (Str.ofString "gap", cG)])) Qf Ef s := by
  revert X; k_fill; intro X
  have hKst := kstMark
  w_top off
  obtain ⟨ne1, ne2, ne3⟩ := hne
  have wP := ownOff_of fun q hq => (hoff q hq).1
  have wD := ownOff_of fun q hq => (hoff q hq).2
  simp only [srvEnd, srvDef, sesDef, defBody, defScope, PySem.Challenge.pw_dn0255_04, List.getD_cons_zero, List.getD_cons_succ, List.drop_succ_cons, List.drop_zero]
  repeat' ((fail_if_success (with_reducible show wpAny _ _ (call (Value.ref 85) _ _) _ _ _)); (first | (k_unfold; (try dsimp only)) | (k_end; wrow_close) | walk1 | (dsimp only; walk1) | (leave1; walk_say "STEP leave1"; try dsimp only) | fail "no step"))
  · (k_dflt (refine' text_t ?qB1 ?qF1 ?qT1 ?qh1 ?qd1 ?qu1 ?qN1 ?qr1 ?qX1; (case qh1 => rfl); (case qF1 => k_asm); (case qB1 => k_asm); (case qT1 => k_asm); (case qX1 => k_asm); (case qN1 => k_asm))); (case qd1 => ktr_room); (case qu1 => ktr_units)
    intro h1 tk1 u1 F1 N1
    have hx1 := textL_len (mm + pv.length - 1)
    repeat' ((fail_if_success (with_reducible show wpAny _ _ (call (Value.ref 113) _ _) _ _ _)); (first | (k_unfold; (try dsimp only)) | (k_end; wrow_close) | walk1 | (dsimp only; walk1) | (leave1; walk_say "STEP leave1"; try dsimp only) | fail "no step"))
    rw [rl_k]
    (k_dflt (refine' answered_t (r := rl) (k := [107]) ?qB2 ?qF2 ?qT2 ?qh2 ?qd2 ?qu2 ?ql2 ?qm2 ?qo2 ?qN2 ?qr2 ?qX2; (case qh2 => rfl); (case qF2 => k_asm); (case qB2 => k_asm); (case qT2 => k_asm); (case qX2 => k_asm); (case qN2 => k_asm); (case ql2 => omega); (case qm2 => omega); (case qo2 => decide))); (case qd2 => ktr_room); (case qu2 => ktr_units)
    intro D2 ys2 k2 tl2 h2 tk2 F2 N2 hd2 hn2
    repeat' ((fail_if_success (with_reducible show wpAny _ _ (compareOp .Eq (Value.ref _) (Value.ref _)) _ _ _)); (first | (k_unfold; (try dsimp only)) | (k_end; wrow_close) | walk1 | (dsimp only; walk1) | (leave1; walk_say "STEP leave1"; try dsimp only) | fail "no step"))
    rename News _ _ _ _ => N3
    rename Fr _ _ _ _ => F3
    refine kqd_eq N3 (ds := ps.map prD) (es := (ansL rl (textL (mm + pv.length - 1)) [107]).map prD) (by walk_at "mem_go") rfl rfl hD2 (fun q hq => by walk_at "mem_go") (by walk_at "mem_go") rfl rfl hd2 (fun q hq => by walk_at "mem_go") (lowD hpo) (lowD (ansL_low lr0 lr1 hx1 (textL_low _) (by decide) (by decide))) (by ktr_units) ?_
    have hw2 : ∀ q ∈ (D2, listOf ys2.toArray k2) :: tl2, @Ne Nat q.1 pg ∧ @Ne Nat q.1 dy := fun q hq => ⟨Nat.ne_of_gt (hn2 q hq (pg, listOf pv.toArray n2) (by walk_at "mem_go")), Nat.ne_of_gt (hn2 q hq _ (List.mem_cons_of_mem _ (List.mem_cons_self ..)))⟩
    have wP2 := ownOff_of fun q hq => (hw2 q (List.mem_cons_of_mem _ hq)).1
    have wD2 := ownOff_of fun q hq => (hw2 q (List.mem_cons_of_mem _ hq)).2
    replace N3 : News h₀ L _ ((y, instObj 45 dy) :: (dy, dictOf [ent w "code" t1 (.int 401 t2), ent w "msg" t3 (.str (Str.ofString "word") t4), ent w "info" t5 (.ref fi)] 3) :: (pg, listOf pv.toArray n2) :: rest) := news_le N3 (by walk_at "led_sub")
    by_cases heq : ps = ansL rl (textL (mm + pv.length - 1)) [107]
    · have hb : ∀ inst : Decidable (ps.map prD = (ansL rl (textL (mm + pv.length - 1)) [107]).map prD), @decide _ inst = true := fun _ => decide_eq_true (congrArg _ heq)
      rw [hb]
      repeat' (first | (k_unfold; (try dsimp only)) | (k_end; wrow_close) | walk1 | (dsimp only; walk1) | (leave1; walk_say "STEP leave1"; try dsimp only) | fail "no step")
      all_goals rename News _ _ _ _ => N4
      all_goals rename Fr _ _ _ _ => F4
      all_goals dsimp only
      · rename kd = 5 => h5
        rw [show codeF kd mm rl ps pv.length = _ from by rw [codeF, if_pos ⟨by omega, heq⟩, if_pos h5]] at hret
        exact hret _ _ _ _ _ F4 N4
      · rename kd ≠ 5 => h5
        rw [show codeF kd mm rl ps pv.length = _ from by rw [codeF, if_pos ⟨by omega, heq⟩, if_neg h5]] at hret
        exact hret _ _ _ _ _ F4 N4
    · have hb : ∀ inst : Decidable (ps.map prD = (ansL rl (textL (mm + pv.length - 1)) [107]).map prD), @decide _ inst = false := fun _ => decide_eq_false fun h => heq (mapD_inj h)
      rw [hb]
      repeat' (first | (k_unfold; (try dsimp only)) | (k_end; wrow_close) | walk1 | (dsimp only; walk1) | (leave1; walk_say "STEP leave1"; try dsimp only) | fail "no step")
      rename News _ _ _ _ => N4
      rename Fr _ _ _ _ => F4
      dsimp only
      rw [show codeF kd mm rl ps pv.length = _ from by rw [codeF, if_neg fun h => heq h.2]] at hret
      exact hret _ _ _ _ _ F4 N4
  · rename News _ _ _ _ => N4
    rename Fr _ _ _ _ => F4
    dsimp only
    rw [show codeF kd mm rl ps pv.length = _ from by rw [codeF, if_neg (by omega)]] at hret
    exact hret _ _ _ _ _ F4 N4

end

end
open PySem PySem.W PyProof.Rows PySem.Calls PyProof.V
local macro_rules | `(tactic| walk_at "call builtin:dict.items") => `(tactic| (k_here; k_dflt (refine' kdx_view (knd := PySem.strKind _ _) ?F ?N ?p ?d ?l ?_; (case F | N => k_asm); (case p => walk_at "mem_go"); (case d | l => assumption)); intro D' h' F' N' l1; (try k_lt l1)))
local macro_rules | `(tactic| walk_at "call type:list") => `(tactic| (k_here; k_dflt (refine' items_t ?H ?F ?N ?v ?p ?d ?k ?n ?_; (case H => exact rfl); (case F | N => k_asm); (case v | p => walk_at "mem_go"); (case d | k => assumption); (case n => omega)); intro D' vs' tups' c' h' tk' F' N' hda' hlt' l1))
section
open PySem PySem.W PyProof.Rows PySem.Calls PyProof.V

section
variable {w : World} {p : Program} {loose : List Str} {mean : ExcName → Option Value} {mg mb : Str → Option Value}
  {dp un : Nat} {gd : Option (List Code)} {cn : Str} {cs : Scope} {a : Addr} {ccd : Value} {cl : List (Str × Addr)} {outer : List Env} {A₀ : Around} {base h₀ : Heap} {L : Addr} {m : Str → Option Value} {s : Shared} {Q E : Value → Shared → Prop}

local macro_rules | `(tactic| walk_at "call builtin:len") => `(tactic| (k_here; k_dflt (refine' len_n ?k1 ?k2 ?k4 ?_; (case k1 => k_asm); (case k2 => walk_at "mem_go"); (case k4 => omega))))

local macro_rules | `(tactic| walk_at "and_all") => `(tactic| repeat (rename _ ∧ _ => hh; obtain ⟨_, _⟩ := hh))
local macro_rules | `(tactic| walk_at "new_one") => `(tactic| first | exact lt_of (by assumption) | assumption | exact fun r hr => lt_of (by assumption) r (by walk_at "mem_go"))
local macro_rules | `(tactic| walk_at "ext_go") => `(tactic| first | exact Ext.refl | assumption | (refine Ext.add ?_ (by walk_at "new_one"); walk_at "ext_go"))

theorem serve_t {fs sc PT cG cK cL cM cP cR lg pg : Nat} {ocs oG oK oL oM oP oR : Obj} {qs : Str} {docs pms cts : Value} {g rl : List Nat} {kd mm : Int} {tg tkd tm tr : Tok} {dx : Nat} {ox : Obj} {hd0 : List Nat} {th0 : Tok} {ws gs : List (List Nat)} {ps : PL} {lv pv : List Value} {n1 n2 : Nat} {pt : Array Value} {rest : List (Addr × Obj)}
    (B : Below A₀ base outer h₀) (F : Fr h₀ L s.heap m) (T : Top p loose mean mg mb h₀) (hk : cs.kind = .function) (hdp : dp + 6 < recursionLimit) (hun : un + 200 < cLine) (S : Srv rest fs sc PT cG cK cL cM cP cR lg pg ocs oG oK oL oM oP oR qs docs pms cts g rl kd mm tg tkd tm tr)
    (hhl : hd0.length ≤ 1000) (hws : ((pparts hd0).map fun w => Txt.strip (ofL w)) = ws.map ofL) (hst : stepL (stepOf hd0) ws = gs) (hgs : ∀ v ∈ gs, v.length ≤ 1000 ∧ ∃ k r, v = k ++ 61 :: r ∧ 61 ∉ k ∧ r ≠ []) (hkp : keqP gs = ps) (hpl : ps.length ≤ 10) (hpo : ∀ p ∈ ps, lowP p) (hlv : lv.length ≤ 100) (hpv : pv.length ≤ 3) (hlam : LamSt pt ((qs ++ Str.ofString ".<locals>.") ++ Str.ofString "<lambda>") rest)
    (hoff : ∀ q ∈ rest, @Ne Nat q.1 lg ∧ @Ne Nat q.1 pg ∧ @Ne Nat q.1 PT) (hne : @Ne Nat lg pg ∧ @Ne Nat lg PT ∧ @Ne Nat pg PT) (hnx : @Ne Nat dx lg ∧ @Ne Nat dx pg ∧ @Ne Nat dx PT)
    (N : News h₀ L s.heap ((lg, listOf lv.toArray n1) :: (pg, listOf pv.toArray n2) :: (PT, tabObj pt) :: (dx, ox) :: rest))
    (hret : ∀ (y Tl n1' n2' : Nat) (pt' : Array Value) (nx : List (Addr × Obj)) (h' : Heap) (tk' : Nat), Fr h₀ L h' m → News h₀ L h' ((lg, listOf (lv ++ [Value.ref Tl]).toArray n1') :: (pg, listOf (pv ++ [Value.ref y]).toArray n2') :: (PT, tabObj pt') :: (dx, ox) :: nx) → Ext ((lg, listOf lv.toArray n1) :: (pg, listOf pv.toArray n2) :: (PT, tabObj pt) :: (dx, ox) :: rest) rest nx → PageAt w nx cG cK ((qs ++ Str.ofString ".<locals>.") ++ Str.ofString "<lambda>") y (codeF kd mm rl ps pv.length) (headL mm rl g pv.length) → DatIn nx (.ref Tl) (srvD ps) → LamSt pt' ((qs ++ Str.ofString ".<locals>.") ++ Str.ofString "<lambda>") nx → Q (.ref y) { s with heap := h', toks := tk' }) (X : (hd.heap_39 w.params).In h₀) :
    wpAny (model PySem.Challenge.rw_dn0255_04.row.prog w) (ktrTop dp un gd cn cs L a ccd cl outer) (call (.ref fs) [.str (ofL hd0) th0]) Q E s := by
  revert X; k_fill; intro X
  have hKst := kstMark
  w_top off

  have S0 := S
  obtain ⟨hfs, hcs, hcq, hco, hG, dG, hK, dK, hL, dL, hM, dM, hP, dP, hR, dR, lg0, lr0, lr1⟩ := S0
  obtain ⟨ne1, ne2, ne3⟩ := hne
  obtain ⟨nx1, nx2, nx3⟩ := hnx
  have hfs2 := hfs
  simp only [srvFn, defArgs, defBody, defScope, srvDef, sesDef, PySem.Challenge.pw_dn0255_04, List.getD_cons_zero, List.getD_cons_succ] at hfs2
  refine wpAny_call ?_
  k_dflt (refine' code_cc (cs := fun n => [(Str.ofString "head", n + 1), (Str.ofString "realm", cR), (Str.ofString "pages", cP), (Str.ofString "m", cM), (Str.ofString "log", cL), (Str.ofString "kind", cK), (Str.ofString "gap", cG)]) (cs0 := fun n => [(Str.ofString "head", n + 1)]) (hcs := fun _ => rfl) (hcs0 := fun _ => rfl) (binds := [(Str.ofString "header", .str (ofL hd0) th0)]) B F X N T rfl rfl hk (List.mem_cons_of_mem _ (List.mem_cons_of_mem _ (List.mem_cons_of_mem _ (List.mem_cons_of_mem _ hfs2)))) (hcq.rec N (List.mem_cons_of_mem _ (List.mem_cons_of_mem _ (List.mem_cons_of_mem _ (List.mem_cons_of_mem _ hcs))))) ?k8 ?k9 ?kB ?_ ?c2 ?c3 ?c4; (case k8 => ktr_room); (case k9 => exact BindsTo.of_eq rfl); (case kB => exact locs rfl); (case c2 => exact rfl); (case c3 => exact rfl); (case c4 => exact rfl); k_whole; intro g' L' h' cells' FG' F' N' Y' B' X' T' l')
  obtain ⟨oH, rfl, dH⟩ := CellsAre.one Y'
  clear Y' hfs2
  simp only [List.cons_append, List.nil_append] at N'
  (try dsimp only); (try k_lift B'); (try k_fold)
  repeat' ((fail_if_success (with_reducible show wpAny _ _ (call (Value.ref 106) _ _) _ _ _)); (first | (k_unfold; (try dsimp only)) | (k_end; wrow_close) | walk1 | (dsimp only; walk1) | (leave1; walk_say "STEP leave1"; try dsimp only) | fail "no step"))
  (k_dflt (refine' read_ok (b := []) ?qB1 ?qF1 ?qT1 ?qh1 ?qd1 ?qu1 hhl hws hst hgs ?qN1 ?qr1 ?qX1; (case qh1 => rfl); (case qF1 => k_asm); (case qB1 => k_asm); (case qT1 => k_asm); (case qX1 => k_asm); (case qN1 => k_asm))); (case qd1 => ktr_room); (case qu1 => ktr_units)
  intro d1 od1 kvs1 h1 tk1 F1 N1 o1 lo1 hod1 hkv1
  rw [hkp] at hkv1
  repeat' ((fail_if_success (with_reducible show wpAny _ _ (exec (Stmt.Assign _ _ _) _) _ _ _)); (fail_if_success (with_reducible show wpAny _ _ (execs (Stmt.Expr _ _ :: _) _) _ _ _)); (first | (k_unfold; (try dsimp only)) | (k_end; wrow_close) | walk1 | (dsimp only; walk1) | (leave1; walk_say "STEP leave1"; try dsimp only) | fail "no step"))
  rename News _ _ _ _ => N2
  rename Fr _ _ _ _ => F2
  rename_i V2 h21 lv2 B2 vs2 tups2 c2 h22 tk2 hda2 hlt2 l2 h23
  have l'' := allLt_of l'
  simp only [AllLt] at l''
  obtain ⟨a1, a2, a3, a5, a4⟩ := l''
  obtain ⟨rest2, hr2⟩ : ∃ r, r = tups2 ++ (B2, listOf vs2.toArray c2) :: rest := ⟨_, rfl⟩
  have E2 : Ext ((lg, listOf lv.toArray n1) :: (pg, listOf pv.toArray n2) :: (PT, tabObj pt) :: (dx, ox) :: rest) rest rest2 := by
    rw [hr2]
    exact (Ext.refl.add fun r hr => l2 r (List.mem_cons_of_mem _ (List.mem_cons_of_mem _ (List.mem_cons_of_mem _ hr)))).app fun q hq r hr => (hlt2 q hq).2 r (List.mem_cons_of_mem _ (List.mem_cons_of_mem _ (List.mem_cons_of_mem _ hr)))
  have hB2 : (B2, listOf vs2.toArray c2) ∈ rest2 := by rw [hr2]; exact List.mem_append_right _ (List.mem_cons_self ..)
  have hD2 : DatAll rest2 vs2 (ps.map prD) := hda2.mono fun q hq => by rw [hr2]; exact List.mem_append_left _ hq
  have hoH : ∀ q ∈ rest2, @Ne Nat q.1 (L' + 1) := by
    rw [hr2]
    intro q hq
    rcases List.mem_append.mp hq with hq | hq
    · exact Nat.ne_of_gt ((hlt2 q hq).2 (L' + 1, oH) (by walk_at "mem_go"))
    · rcases List.mem_cons.mp hq with rfl | hq
      · exact Nat.ne_of_gt (l2 (L' + 1, oH) (by walk_at "mem_go"))
      · exact Nat.ne_of_lt (Nat.lt_succ_of_lt (lt_of a4 q hq))
  have hoL := E2.off (x := lg) ⟨_, List.mem_cons_self .., rfl⟩ fun q hq => (hoff q hq).1
  have hoP := E2.off (x := pg) ⟨_, List.mem_cons_of_mem _ (List.mem_cons_self ..), rfl⟩ fun q hq => (hoff q hq).2.1
  have hoT := E2.off (x := PT) ⟨_, List.mem_cons_of_mem _ (List.mem_cons_of_mem _ (List.mem_cons_self ..)), rfl⟩ fun q hq => (hoff q hq).2.2
  have wL := ownOff_of hoL
  have wP := ownOff_of hoP
  have wT := ownOff_of hoT
  have wH := ownOff_of hoH
  have S2 := S.mono E2.old
  have hlam2 := hlam.mono E2.old
  replace N2 : News g' L' _ ((L' + 1, oH) :: (lg, listOf lv.toArray n1) :: (pg, listOf pv.toArray n2) :: (PT, tabObj pt) :: (dx, ox) :: rest2) := news_le N2 (by
    intro q hq
    simp only [List.mem_cons, hr2, List.mem_append] at hq ⊢
    rcases hq with h | h | h | h | h | h | h | h
    · exact .inr (.inr (.inr (.inr (.inl h))))
    · exact .inr (.inr (.inr (.inr (.inr (.inl h)))))
    · exact .inr (.inr (.inr (.inr (.inr (.inr (.inl h))))))
    · exact .inr (.inr (.inr (.inr (.inr (.inr (.inr (.inl h)))))))
    · exact .inr (.inr (.inr (.inr (.inr (.inr (.inr (.inr (.inl h))))))))
    · exact .inl h
    · exact .inr (.inl h)
    · exact .inr (.inr (.inr (.inr (.inr (.inr (.inr (.inr (.inr h)))))))))
  clear hr2 hlt2 l2 hda2 lv2 hod1 hkv1 lo1 o1 hfs hcs hcq hco hG hK hL hM hP hR
  obtain ⟨hfs, hcs, hcq, hco, hG, _, hK, _, hL, _, hM, _, hP, _, hR, _, _, _, _⟩ := S2
  try clear F1 N1
  repeat' ((fail_if_success (with_reducible show wpAny _ _ (call (Value.ref 85) _ _) _ _ _)); (first | (k_unfold; (try dsimp only)) | (k_end; wrow_close) | walk1 | (dsimp only; walk1) | (leave1; walk_say "STEP leave1"; try dsimp only) | fail "no step"))
  rename Fr _ _ _ _ => F2b
  rename News _ _ _ _ => N2b
  rename_i Tl h24 lT h25 tk25 h26 D2a h27 l27 D2b h28 l28
  (k_dflt (refine' text_t ?qB2 ?qF2 ?qT2 ?qh2 ?qd2 ?qu2 ?qN2 ?qr2 ?qX2; (case qh2 => rfl); (case qF2 => k_asm); (case qB2 => k_asm); (case qT2 => k_asm); (case qX2 => k_asm); (case qN2 => k_asm))); (case qd2 => ktr_room); (case qu2 => ktr_units)
  intro h3 tk3 t3 F3 N3
  have htl := textL_len (mm + pv.length)
  have hpl2 := plainL_len mm
  repeat' ((fail_if_success (with_reducible show wpAny _ _ (call (Value.ref 92) _ _) _ _ _)); (first | (k_unfold; (try dsimp only)) | (k_end; wrow_close) | walk1 | (dsimp only; walk1) | (leave1; walk_say "STEP leave1"; try dsimp only) | fail "no step"))
  (k_dflt (refine' written_t (vs := [_, _, _]) (ps := [([110], [111, 108, 100]), ([114], rl), ([110], textL (mm + pv.length))]) ?qB3 ?qF3 ?qT3 ?qh3 ?qd3 ?qu3 ?ql3 ?qp3 ?qq3 lg0 ?qN3 ?qD3 ?qr3 ?qX3; (case qh3 => rfl); (case qF3 => k_asm); (case qB3 => k_asm); (case qT3 => k_asm); (case qX3 => k_asm); (case qN3 => k_asm); (case ql3 => (simp only [List.length_cons, List.length_nil]; omega)); (case qD3 => exact List.mem_cons_self ..))); (case qd3 => ktr_room); (case qu3 => ktr_units)
  case qp3 => exact dat_three (p1 := ([110], [111, 108, 100])) (p2 := ([114], rl)) (p3 := ([110], textL (mm + pv.length))) (by walk_at "mem_go") (by walk_at "mem_go") (by walk_at "mem_go") rl_n rl_old rl_r rfl rl_n rfl
  case qq3 =>
    simp only [List.forall_mem_cons]
    refine ⟨⟨by decide, by decide⟩, ⟨by decide, ?_⟩, ⟨by decide, ?_⟩, fun _ h => nomatch h⟩
    · show rl.length ≤ 100; omega
    · show (textL _).length ≤ 100; omega
  intro h4 tk4 t4 F4 N4
  obtain ⟨wr, hwr⟩ : ∃ x, x = writtenL [([110], [111, 108, 100]), ([114], rl), ([110], textL (mm + pv.length))] g := ⟨_, rfl⟩
  have hwl := head_len (g := g) (rl := rl) (tx := textL (mm + pv.length)) lg0 lr0 htl
  rw [← hwr] at hwl ⊢
  have o1 : (ofL wr).length ≤ 200 := by rw [ofL_length]; exact hwl
  have o2 : (ofL (plainL mm)).length ≤ 5 := by rw [ofL_length]; exact hpl2
  have o3 : (ofL g).length ≤ 16 := by rw [ofL_length]; exact lg0
  repeat' ((fail_if_success (with_reducible show wpAny _ _ (call (Value.ref 99) _ _) _ _ _)); (first | (k_unfold; (try dsimp only)) | (k_end; wrow_close) | walk1 | (dsimp only; walk1) | (leave1; walk_say "STEP leave1"; try dsimp only) | fail "no step"))
  (k_dflt (refine' plain_t ?qB4 ?qF4 ?qT4 ?qh4 ?qd4 ?qu4 ?qN4 ?qr4 ?qX4; (case qh4 => rfl); (case qF4 => k_asm); (case qB4 => k_asm); (case qT4 => k_asm); (case qX4 => k_asm); (case qN4 => k_asm))); (case qd4 => ktr_room); (case qu4 => ktr_units)
  intro h5 tk5 t5 F5 N5
  repeat' ((fail_if_success (with_reducible show wpAny _ _ (eval (Expr.Lambda _ _ _ _) _) _ _ _)); (first | (k_unfold; (try dsimp only)) | (k_end; wrow_close) | walk1 | (dsimp only; walk1) | (leave1; walk_say "STEP leave1"; try dsimp only) | fail "no step"))
  rename News _ _ _ _ => N6
  rename Fr _ _ _ _ => F6
  rename_i oH6 dH6 y6 dy6 h61 l61 l62 h62 h63 h64
  have hh6 : Str.ofString "o=" ++ ofL (plainL mm) ++ ofL g ++ ofL wr = ofL (headL mm rl g pv.length) := by
    rw [show Str.ofString "o=" = ofL [111, 61] by decide, ofL_app, ofL_app, ofL_app, hwr]; rfl
  rw [hh6] at dH6
  have hcsN := (N6 (sc, ocs) (by walk_at "mem_go")).1
  have N7 : News g' L' _ ((PT, tabObj pt) :: ((y6, instObj 45 dy6) :: (dy6, dictOf _ 2) :: (Tl, ({ cls := .type "tuple", data := .seq #[.str (Str.ofString "server") (tk2 + 1), .ref B2] } : Obj)) :: (L' + 1, oH6) :: (lg, listOf (lv ++ [Value.ref Tl]).toArray (n1 + 1)) :: (pg, listOf pv.toArray n2) :: (dx, ox) :: rest2)) := news_le N6 (by walk_at "led_sub")
  obtain ⟨b1, b2, b3, b4, _, b5⟩ := lT
  obtain ⟨_, _, _, _, c1, c2', c3, c4, c5, cx, c6⟩ := l61
  refine kla_eval rfl ?_
  refine lam_any F6 N7 (by k_asm) (hco.hd hcsN) rfl ?offL hlam2.1 hlam2.2 rfl ?_
  case offL =>
    refine List.forall_mem_cons.mpr ⟨?_, List.forall_mem_cons.mpr ⟨?_, List.forall_mem_cons.mpr ⟨?_, List.forall_mem_cons.mpr ⟨?_, List.forall_mem_cons.mpr ⟨ne2, List.forall_mem_cons.mpr ⟨ne3, List.forall_mem_cons.mpr ⟨nx3, hoT⟩⟩⟩⟩⟩⟩⟩
    · exact Nat.ne_of_gt (Nat.lt_trans c5 l62)
    · exact Nat.ne_of_gt c5
    · exact Nat.ne_of_gt b4
    · exact Nat.ne_of_gt (Nat.lt_succ_of_lt a3)
  intro f7 c7 oc7 ct7 pt7 new7 h7 tk7 F7 N7' hn7 ht7 ha7 hm7 hq7 lf7
  obtain ⟨rz, hrz⟩ : ∃ r, r = new7 ++ rest2 := ⟨_, rfl⟩
  have hn8 : ∀ q ∈ new7, @LT.lt Nat _ pg q.1 ∧ @LT.lt Nat _ dy6 q.1 ∧ @LT.lt Nat _ (L' + 1) q.1 := fun q hq => ⟨hn7 q hq (pg, listOf pv.toArray n2) (by walk_at "mem_go"), hn7 q hq (dy6, dictOf _ 2) (List.mem_cons_of_mem _ (List.mem_cons_of_mem _ (List.mem_cons_self ..))), hn7 q hq (L' + 1, oH6) (by walk_at "mem_go")⟩
  have lf8 : @LT.lt Nat _ pg f7 ∧ @LT.lt Nat _ dy6 f7 ∧ @LT.lt Nat _ (L' + 1) f7 := ⟨lf7 (pg, listOf pv.toArray n2) (by walk_at "mem_go"), lf7 (dy6, dictOf _ 2) (List.mem_cons_of_mem _ (List.mem_append_right _ (List.mem_cons_of_mem _ (List.mem_cons_self ..)))), lf7 (L' + 1, oH6) (by walk_at "mem_go")⟩
  have hz : ∀ q ∈ rz, @Ne Nat q.1 pg ∧ @Ne Nat q.1 dy6 := by
    rw [hrz]
    intro q hq
    rcases List.mem_append.mp hq with hq | hq
    · exact ⟨Nat.ne_of_gt (hn8 q hq).1, Nat.ne_of_gt (hn8 q hq).2.1⟩
    · exact ⟨hoP q hq, Nat.ne_of_lt (lt_of c6 q hq)⟩
  have wD : OwnOff rz [pg, dy6] := fun p hp b hb => by
    rcases List.mem_cons.mp hb with rfl | hb
    · exact (hz p hp).1
    · rw [List.mem_singleton.mp hb]; exact (hz p hp).2
  have E3 : Ext ((lg, listOf lv.toArray n1) :: (pg, listOf pv.toArray n2) :: (PT, tabObj pt) :: (dx, ox) :: rest) rest rz := by
    rw [hrz]
    exact E2.app fun q hq r hr => Nat.lt_trans (l' r hr) (Nat.lt_of_succ_lt (hn8 q hq).2.2)
  have hz2 : ∀ q ∈ rest2, q ∈ rz := fun q hq => by rw [hrz]; exact List.mem_append_right _ hq
  have N8 : News g' L' h7 ((y6, instObj 45 dy6) :: (dy6, dictOf _ 2) :: (pg, listOf pv.toArray n2) :: (f7, kla_obj _ _ _ _ _ _ _ _ _) :: (PT, tabObj pt7) :: (lg, listOf (lv ++ [Value.ref Tl]).toArray (n1 + 1)) :: (L' + 1, oH6) :: (Tl, ({ cls := .type "tuple", data := .seq #[.str (Str.ofString "server") (tk2 + 1), .ref B2] } : Obj)) :: (dx, ox) :: rz) := news_le N7' (led_mid (pre := [_, _, _, _, _, _, _, _, _]) (by walk_at "led_sub") (by
    rw [hrz]
    intro q hq
    rcases List.mem_append.mp hq with hq | hq
    · walk_at "mem_go"
    · walk_at "mem_go"))
  have hm8 : (c7, oc7) ∈ rz := by rw [hrz]; exact hm7
  have hz6 : ∀ {a b c d e f : Addr × Obj}, ∀ q ∈ rz, q ∈ a :: b :: c :: d :: e :: f :: rz := fun q hq => List.mem_cons_of_mem _ (List.mem_cons_of_mem _ (List.mem_cons_of_mem _ (List.mem_cons_of_mem _ (List.mem_cons_of_mem _ (List.mem_cons_of_mem _ hq)))))
  have hz5 : ∀ {a b c d e : Addr × Obj}, ∀ q ∈ rz, q ∈ a :: b :: c :: d :: e :: rz := fun q hq => List.mem_cons_of_mem _ (List.mem_cons_of_mem _ (List.mem_cons_of_mem _ (List.mem_cons_of_mem _ (List.mem_cons_of_mem _ hq))))
  clear hm7 lf7 hn7 N7' N7 F6 N6
  (try dsimp only at N8); (try dsimp only at F7)
  (try dsimp only)
  repeat' ((fail_if_success (with_reducible show wpAny _ _ (execs (Stmt.If _ _ _ _ :: _) _) _ _ _)); (first | (k_unfold; (try dsimp only)) | (k_end; wrow_close) | walk1 | (dsimp only; walk1) | (leave1; walk_say "STEP leave1"; try dsimp only) | fail "no step"))
  rename News _ _ _ _ => N9
  rename Fr _ _ _ _ => F9
  (try dsimp only at N9); (try dsimp only at F9)
  k_dflt (refine' serve_end (fi := f7) (ps := ps) (n2 := n2) (rest := _ :: _ :: _ :: _ :: _ :: _ :: rz) B' (fr_self _ ?hm9 F9) T' ?hd9 ?hu9 ?K9 dK ?M9 dM ?P9 dP ?R9 dR ?B9 ?D9 hpo lr0 lr1 hpv ?off9 ?ne9 N9 ?ret9 ?X9; (case X9 => k_asm); (case hd9 => ktr_room); (case hu9 => ktr_units))
  case hm9 => simp only [List.forall_mem_cons]; exact ⟨rfl, rfl, rfl, fun _ h => nomatch h⟩
  case K9 => exact hz6 _ (hz2 _ hK)
  case M9 => exact hz6 _ (hz2 _ hM)
  case P9 => exact hz6 _ (hz2 _ hP)
  case R9 => exact hz6 _ (hz2 _ hR)
  case B9 => exact hz6 _ (hz2 _ hB2)
  case D9 => exact hD2.mono fun q hq => hz6 _ (hz2 _ hq)
  case off9 =>
    refine List.forall_mem_cons.mpr ⟨?_, List.forall_mem_cons.mpr ⟨?_, List.forall_mem_cons.mpr ⟨?_, List.forall_mem_cons.mpr ⟨?_, List.forall_mem_cons.mpr ⟨?_, List.forall_mem_cons.mpr ⟨⟨nx2, Nat.ne_of_lt cx⟩, hz⟩⟩⟩⟩⟩⟩
    · exact ⟨Nat.ne_of_gt lf8.1, Nat.ne_of_gt lf8.2.1⟩
    · exact ⟨Ne.symm ne3, Nat.ne_of_lt c5⟩
    · exact ⟨ne1, Nat.ne_of_lt c3⟩
    · exact ⟨Nat.ne_of_gt (Nat.lt_succ_of_lt a2), Nat.ne_of_lt c2'⟩
    · exact ⟨Nat.ne_of_gt b3, Nat.ne_of_lt c1⟩
  case ne9 => exact ⟨Nat.ne_of_gt l62, Nat.ne_of_gt (Nat.lt_trans c4 l62), Nat.ne_of_gt c4⟩
  intro t2' n2' h9 tk9 m9 F9' N9'
  repeat' (first | (k_unfold; (try dsimp only)) | (k_end; wrow_close) | walk1 | (dsimp only; walk1) | (leave1; walk_say "STEP leave1"; try dsimp only) | fail "no step")
  rename News _ _ _ _ => N10
  rename Fr _ _ _ _ => F10
  have lH : ∀ r ∈ (lg, listOf lv.toArray n1) :: (pg, listOf pv.toArray n2) :: (PT, tabObj pt) :: (dx, ox) :: rest, @LT.lt Nat _ r.1 (L' + 1) := fun r hr => Nat.lt_succ_of_lt (l' r hr)
  have e1 : @LE.le Nat _ (L' + 1) dy6 := Nat.le_of_lt c2'
  refine hret y6 Tl _ _ pt7 ((y6, _) :: (dy6, _) :: (f7, _) :: (L' + 1, oH6) :: (Tl, ({ cls := .type "tuple", data := .seq #[.str (Str.ofString "server") (tk2 + 1), .ref B2] } : Obj)) :: rz) _ _ F10 (news_le N10 (led_mid (pre := [_, _, _, _, _, _, _, _, _]) (by walk_at "led_sub") (fun q hq => by walk_at "mem_go"))) (((((E3.up lH (Nat.le_of_lt b1)).up lH (Nat.le_refl _)).up lH (Nat.le_of_lt lf8.2.2)).up lH e1).up lH (Nat.le_trans e1 (Nat.le_of_lt l62))) ?_ (srv_in (by walk_at "mem_go") (hz5 _ (hz2 _ hB2)) (hD2.mono fun q hq => hz5 _ (hz2 _ hq))) ⟨ht7, .inr ⟨c7, oc7, ha7, hz5 _ hm8, hq7⟩⟩
  exact ⟨dy6, f7, c7, L' + 1, oc7, oH6, _, ct7, _, _, _, _, _, _, by walk_at "mem_go", by walk_at "mem_go", List.mem_cons_of_mem _ (List.mem_cons_of_mem _ (List.mem_cons_self ..)), hz5 _ hm8, hq7, by walk_at "mem_go", dH6⟩

end

end
open PySem PySem.W PyProof.Rows PySem.Calls PyProof.V
local macro_rules | `(tactic| walk_at "eval Name") => `(tactic| ((with_reducible show wpAny _ _ (eval (Expr.Name (Str.ofString "head") _) _) _ _ _); k_dflt (refine' nameX_F ?N ?c ?m ?d ?_ ?a ?b; (case a | b => rfl); (case N => k_asm); (case c => rfl); (case m => walk_at "mem_go"); (case d => assumption))))
section
open PySem PySem.W PyProof.Rows PySem.Calls PyProof.V

section
variable {w : World} {p : Program} {loose : List Str} {mean : ExcName → Option Value} {mg mb : Str → Option Value}
  {dp un : Nat} {gd : Option (List Code)} {cn : Str} {cs : Scope} {a : Addr} {ccd : Value} {cl : List (Str × Addr)} {outer : List Env} {A₀ : Around} {base h₀ : Heap} {L : Addr} {m : Str → Option Value} {s : Shared} {Q E : Value → Shared → Prop}

theorem lam_t {fi ci cH cK cG : Nat} {oci oH oK oG : Obj} {ql : Str} {pm ct : Value} {kd : Int} {head g : List Nat} {tkd tg th : Tok} {rest : List (Addr × Obj)}
    (B : Below A₀ base outer h₀) (F : Fr h₀ L s.heap m) (T : Top p loose mean mg mb h₀) (hk : cs.kind = .function) (hdp : dp + 1 < recursionLimit) (hun : un + 16 < cLine)
    (hfi : (fi, lamFn ql cG cH cK pm ci ct) ∈ rest) (hci : (ci, oci) ∈ rest) (hq : CodeQ oci ql) (hH : (cH, oH) ∈ rest) (dH : oH.data = .cell (some (.str (ofL head) th))) (hK : (cK, oK) ∈ rest) (dK : oK.data = .cell (some (.int kd tkd))) (hG : (cG, oG) ∈ rest) (dG : oG.data = .cell (some (.str (ofL g) tg)))
    (hhl : head.length ≤ 500) (hgl : g.length ≤ 16) (N : News h₀ L s.heap rest)
    (hret : ∀ (h' : Heap) (tk' t' : Nat), Fr h₀ L h' m → News h₀ L h' rest → Q (.str (ofL (headK kd g head)) t') { s with heap := h', toks := tk' }) (X : (hd.heap_39 w.params).In h₀) :
    wpAny (model PySem.Challenge.rw_dn0255_04.row.prog w) (ktrTop dp un gd cn cs L a ccd cl outer) (call (.ref fi) []) Q E s := by
  revert X; k_fill; intro X
  have hKst := kstMark
  w_top off

  have hfi2 := hfi
  simp only [lamFn, lamArgs, lamBody, lamScope, lamEx, asgVal, srvDef, sesDef, defBody, PySem.Challenge.pw_dn0255_04, List.getD_cons_zero, List.getD_cons_succ] at hfi2
  have o1 : (ofL head).length ≤ 500 := by rw [ofL_length]; exact hhl
  have o2 : (ofL g).length ≤ 16 := by rw [ofL_length]; exact hgl
  (k_dflt (refine wpAny_call ?_; refine' kla_code (A := ktrTop dp un gd cn cs L a ccd cl outer) (binds := []) B F X N T rfl rfl hk hfi2 (hq.rec N hci) ?k8 ?k9 ?kB ?_ ?c2 ?c3 ?c4 ?c5; (case k8 => ktr_room); (case k9 => exact rfl); (case c5 => decide); (case kB => exact locs rfl); (case c2 => exact rfl); (case c3 => exact rfl); (case c4 => exact rfl); k_whole; intro g' L' h' FG' F' N' B' X' T'; (try dsimp only); (try k_lift B'); (try k_fold)))
  repeat' ((fail_if_success (with_reducible show wpAny _ _ (subscriptTail _ _ _ _) _ _ _)); (first | (k_unfold; (try dsimp only)) | (k_end; wrow_close) | walk1 | (dsimp only; walk1) | (leave1; walk_say "STEP leave1"; try dsimp only) | fail "no step"))
  · rename ([3, 4].any _) = true => h34
    rcases in34 h34 with rfl | rfl
    · repeat' (first | (k_unfold; (try dsimp only)) | (k_end; wrow_close) | walk1 | (dsimp only; walk1) | (leave1; walk_say "STEP leave1"; try dsimp only) | fail "no step")
      rename News _ _ _ _ => N5
      rename Fr _ _ _ _ => F5
      rw [head3]
      exact hret _ _ _ F5 (news_tail (news_tail N5))
    · repeat' (first | (k_unfold; (try dsimp only)) | (k_end; wrow_close) | walk1 | (dsimp only; walk1) | (leave1; walk_say "STEP leave1"; try dsimp only) | fail "no step")
      rename News _ _ _ _ => N5
      rename Fr _ _ _ _ => F5
      rw [head4]
      exact hret _ _ _ F5 (news_tail (news_tail N5))
  · rename ([3, 4].any _) = false => h34
    rename News _ _ _ _ => N5
    rename Fr _ _ _ _ => F5
    rw [head0 (in34n h34)] at hret
    exact hret _ _ _ F5 (news_tail N5)

end

end
section
open PySem PySem.W PyProof.Rows PySem.Calls PyProof.V

/-- a call's contract: what it gives back and what the ledger is then, or what it raises -/
noncomputable def CallC (w : World) (p : Program) (loose : List Str) (mean : ExcName → Option Value) (mg mb : Str → Option Value) (f : Nat) (args : List Value) (room units : Nat) (led : List (Addr × Obj)) (R : Value → List (Addr × Obj) → Prop) (RX : String → List (Addr × Obj) → Prop) : Prop :=
  ∀ ⦃dp un : Nat⦄ ⦃gd : Option (List Code)⦄ ⦃cn : Str⦄ ⦃cs : Scope⦄ ⦃a : Addr⦄ ⦃ccd : Value⦄ ⦃cl : List (Str × Addr)⦄ ⦃outer : List Env⦄ ⦃A₀ : Around⦄ ⦃base h₀ : Heap⦄ ⦃L : Addr⦄ ⦃m : Str → Option Value⦄ ⦃s : Shared⦄ ⦃Q E : Value → Shared → Prop⦄,
    Below A₀ base outer h₀ → Fr h₀ L s.heap m → Top p loose mean mg mb h₀ → cs.kind = .function → dp + room < recursionLimit → un + units < cLine → News h₀ L s.heap led →
    (∀ (v : Value) (led' : List (Addr × Obj)) (h' : Heap) (tk' : Nat), R v led' → Fr h₀ L h' m → News h₀ L h' led' → Q v { s with heap := h', toks := tk' }) →
    (∀ (e : Nat) (x : String) (led' : List (Addr × Obj)) (g' h' : Heap) (tk' : Nat), RX x led' → Fr h₀ L g' m → RaisedSN base g' (envX cn cs L a ccd cl :: outer) e (.type x) led' h' → g'.UpToSlots h' → E (.ref e) { s with heap := h', toks := tk' }) →
    (hd.heap_39 w.params).In h₀ →
    wpAny (model PySem.Challenge.rw_dn0255_04.row.prog w) (ktrTop dp un gd cn cs L a ccd cl outer) (call (.ref f) args) Q E s
section
variable {w : World} {p : Program} {loose : List Str} {mean : ExcName → Option Value} {mg mb : Str → Option Value}

local macro_rules | `(tactic| walk_at "getMethod ref") => `(tactic| ((first
  | (with_reducible show wpAny _ _ (getMethod _ (Str.ofString "add_cookie_header") _) _ _ _)
  | (with_reducible show wpAny _ _ (getMethod _ (Str.ofString "extract_cookies") _) _ _ _)); (k_dflt (refine' kmu_own ?k1 ?k2 ?k3 ?k4 ?k5 ?_; (case k1 => k_asm); (case k2 => k_asm); (case k3 => k_inst); (case k4 => k_is); (case k5 => k_is); k_whole))))
local macro_rules | `(tactic| walk_at "callWith ref") => `(tactic| (k_dflt (refine' callWith_F ?k1 ?_; (case k1 => exact FnAt.of (by k_asm) (by k_mem)); k_whole)))

theorem resp_in {y dy fi ci cH cK cG pr x : Nat} {oci oH oK oG : Obj} {ql : Str} {pmi cti : Value} {kd c : Int} {head g : List Nat} {t1 t2 t3 t4 t5 th tkd tg : Tok} {led : List (Addr × Obj)} {R : Value → List (Addr × Obj) → Prop} {RX : String → List (Addr × Obj) → Prop} {room units : Nat}
    (hy : (y, instObj 45 dy) ∈ led) (hdy : (dy, dictOf [ent w "code" t1 (.int c t2), ent w "msg" t3 (.str (Str.ofString "word") t4), ent w "info" t5 (.ref fi)] 3) ∈ led) (hfi : (fi, lamFn ql cG cH cK pmi ci cti) ∈ led) (hci : (ci, oci) ∈ led) (hq : CodeQ oci ql) (hH : (cH, oH) ∈ led) (dH : oH.data = .cell (some (.str (ofL head) th))) (hK : (cK, oK) ∈ led) (dK : oK.data = .cell (some (.int kd tkd))) (hG : (cG, oG) ∈ led) (dG : oG.data = .cell (some (.str (ofL g) tg))) (hhl : head.length ≤ 500) (hgl : g.length ≤ 16) (hc : 200 ≤ c ∧ c < 300) (hR : R (.ref y) led) (hroom : 4 ≤ room) (hunits : 60 ≤ units) :
    CallC w p loose mean mg mb 63 [.ref pr, .ref x, .ref y] room units led R RX := by
  intro dp un gd cn cs a ccd cl outer A₀ base h₀ L m s Q E B F T hk hdp hun N hret hraise X
  revert X; k_fill; intro X
  have hKst := kstMark
  w_top off

  obtain ⟨hc1, hc2⟩ := hc
  (refine wpAny_call ?_; k_dflt (refine' code_def (binds := [(Str.ofString "self", .ref pr), (Str.ofString "request", .ref x), (Str.ofString "response", .ref y)]) B F X N T rfl rfl hk ?k6 ?k7 ?k8 ?k9 ?kB ?_ ?c2 ?c3 ?c4 ?c5; (case k6 => k_is); (case k7 => k_is); (case k8 => ktr_room); (case k9 => exact BindsTo.of_eq rfl); (case c5 => decide); (case kB => exact locs rfl); (case c2 => exact rfl); (case c3 => exact rfl); (case c4 => exact rfl); k_whole; intro g1 L1 h1 FG1 F1 N1 B1 X1 T1; (try dsimp only); (try k_lift B1); (try k_fold)))
  repeat' ((fail_if_success (with_reducible show wpAny _ _ (callWith _ (Value.ref fi) _ _ _) _ _ _)); (first | (k_unfold; (try dsimp only)) | (k_end; wrow_close) | walk1 | (dsimp only; walk1) | (leave1; walk_say "STEP leave1"; try dsimp only) | fail "no step"))
  refine callWith_F0 (FnAt.of (by k_asm) hfi) ?_
  (try dsimp only [List.nil_append, List.cons_append])
  (k_dflt (refine' lam_t ?qB3 ?qF3 ?qT3 ?qh3 ?qd3 ?qu3 hfi hci hq hH dH hK dK hG dG hhl hgl ?qN3 ?qr3 ?qX3; (case qh3 => rfl); (case qF3 => k_asm); (case qB3 => k_asm); (case qT3 => k_asm); (case qX3 => k_asm); (case qN3 => k_asm))); (case qd3 => ktr_room); (case qu3 => ktr_units)
  intro h3 tk3 t3' F3 N3
  repeat' (first | (k_unfold; (try dsimp only)) | (k_end; wrow_close) | walk1 | (dsimp only; walk1) | (leave1; walk_say "STEP leave1"; try dsimp only) | fail "no step")
  all_goals try (exfalso; omega)
  rename News _ _ _ _ => N7
  rename Fr _ _ _ _ => F7
  exact hret _ _ _ _ hR F7 (news_tail N7)
theorem resp_out {y dy fi ci cH cK cG pr x : Nat} {oci oH oK oG : Obj} {ql : Str} {pmi cti : Value} {kd c : Int} {head g : List Nat} {t1 t2 t3 t4 t5 th tkd tg : Tok} {led : List (Addr × Obj)} {R : Value → List (Addr × Obj) → Prop} {RX : String → List (Addr × Obj) → Prop} {room units : Nat}{dpr pa dpa fe : Nat} {tpp tpe : Tok}
    (hy : (y, instObj 45 dy) ∈ led) (hdy : (dy, dictOf [ent w "code" t1 (.int c t2), ent w "msg" t3 (.str (Str.ofString "word") t4), ent w "info" t5 (.ref fi)] 3) ∈ led) (hfi : (fi, lamFn ql cG cH cK pmi ci cti) ∈ led) (hci : (ci, oci) ∈ led) (hq : CodeQ oci ql) (hH : (cH, oH) ∈ led) (dH : oH.data = .cell (some (.str (ofL head) th))) (hK : (cK, oK) ∈ led) (dK : oK.data = .cell (some (.int kd tkd))) (hG : (cG, oG) ∈ led) (dG : oG.data = .cell (some (.str (ofL g) tg))) (hhl : head.length ≤ 500) (hgl : g.length ≤ 16) (hpr : (pr, instObj 66 dpr) ∈ led) (hdpr : (dpr, dictOf [ent w "parent" tpp (.ref pa)] 1) ∈ led) (hpa : (pa, instObj 45 dpa) ∈ led) (hdpa : (dpa, dictOf [ent w "error" tpe (.ref fe)] 1) ∈ led) (hc : 300 ≤ c) {oc0 : Value} {od0 : Option Addr} {fd0 : FuncData} {sl0 : Array (Option Value)} (hfe : (fe, (⟨oc0, od0, .func fd0, sl0⟩ : Obj)) ∈ led)
    (hC : ∀ t1 t3 t4 : Tok, CallC w p loose mean mg mb fe [.str (Str.ofString "http") t1, .ref x, .ref y, .int c t2, .str (Str.ofString "word") t3, .str (ofL (headK kd g head)) t4] room units led R RX) :
    CallC w p loose mean mg mb 63 [.ref pr, .ref x, .ref y] (room + 4) (units + 60) led R RX := by
  intro dp un gd cn cs a ccd cl outer A₀ base h₀ L m s Q E B F T hk hdp hun N hret hraise X
  revert X; k_fill; intro X
  have hKst := kstMark
  w_top off

  (refine wpAny_call ?_; k_dflt (refine' code_def (binds := [(Str.ofString "self", .ref pr), (Str.ofString "request", .ref x), (Str.ofString "response", .ref y)]) B F X N T rfl rfl hk ?k6 ?k7 ?k8 ?k9 ?kB ?_ ?c2 ?c3 ?c4 ?c5; (case k6 => k_is); (case k7 => k_is); (case k8 => ktr_room); (case k9 => exact BindsTo.of_eq rfl); (case c5 => decide); (case kB => exact locs rfl); (case c2 => exact rfl); (case c3 => exact rfl); (case c4 => exact rfl); k_whole; intro g1 L1 h1 FG1 F1 N1 B1 X1 T1; (try dsimp only); (try k_lift B1); (try k_fold)))
  repeat' ((fail_if_success (with_reducible show wpAny _ _ (callWith _ (Value.ref fi) _ _ _) _ _ _)); (first | (k_unfold; (try dsimp only)) | (k_end; wrow_close) | walk1 | (dsimp only; walk1) | (leave1; walk_say "STEP leave1"; try dsimp only) | fail "no step"))
  refine callWith_F0 (FnAt.of (by k_asm) hfi) ?_
  (try dsimp only [List.nil_append, List.cons_append])
  (k_dflt (refine' lam_t ?qB3 ?qF3 ?qT3 ?qh3 ?qd3 ?qu3 hfi hci hq hH dH hK dK hG dG hhl hgl ?qN3 ?qr3 ?qX3; (case qh3 => rfl); (case qF3 => k_asm); (case qB3 => k_asm); (case qT3 => k_asm); (case qX3 => k_asm); (case qN3 => k_asm))); (case qd3 => ktr_room); (case qu3 => ktr_units)
  intro h3 tk3 t3' F3 N3
  repeat' ((fail_if_success (with_reducible show wpAny _ _ (call (Value.ref fe) _ _) _ _ _)); (first | (k_unfold; (try dsimp only)) | (k_end; wrow_close) | walk1 | (dsimp only; walk1) | (leave1; walk_say "STEP leave1"; try dsimp only) | fail "no step"))
  all_goals try (exfalso; omega)
  rename News _ _ _ _ => N4
  rename Fr _ _ _ _ => F4
  (k_dflt (refine' (hC _ _ _) ?qB4 ?qF4 ?qT4 ?qh4 ?qd4 ?qu4 (news_tail N4) ?qr4 ?qe4 ?qX4; (case qh4 => rfl); (case qF4 => k_asm); (case qB4 => k_asm); (case qT4 => k_asm); (case qX4 => k_asm); (case qd4 => ((try simp only [depth_in1, depth_deeper, depth_caller]); (try dsimp only [ktrTop]); omega)); (case qu4 => ((try simp only [units_in1, units_deeper, Around.mark_units, units_caller]); (try dsimp only [ktrTop]); omega))))
  case qr4 =>
    intro v led' h5 tk5 hR F5 N5
    repeat' (first | (k_unfold; (try dsimp only)) | (k_end; wrow_close) | walk1 | (dsimp only; walk1) | (leave1; walk_say "STEP leave1"; try dsimp only) | fail "no step")
    rename News _ _ _ _ => N7
    rename Fr _ _ _ _ => F7
    exact hret _ _ _ _ hR F7 N7
  case qe4 =>
    intro e x led' g5 h5 tk5 hRX F5 R5 U5
    refine leave_onX rfl B1 F5 R5 U5 ?_
    intro h9 R9 U9
    exact hraise e x led' g1 h9 _ hRX FG1 R9 U9

end

end
section
open PySem PySem.W PyProof.Rows PySem.Calls PyProof.V

noncomputable def errRest : List Stmt := (defBody errDef).drop 2
noncomputable def ecells (cX cP cL cK cG cS : Nat) : List (Str × Addr) := [(Str.ofString "processor", cX), (Str.ofString "pages", cP), (Str.ofString "log", cL), (Str.ofString "kind", cK), (Str.ofString "gap", cG), (Str.ofString "_law_serve", cS)]
/-- the contract of what stands behind the first two lines of the error function -/
noncomputable def BodyC (w : World) (p : Program) (loose : List Str) (mean : ExcName → Option Value) (mg mb : Str → Option Value) (fe ec : Nat) (qe : Str) (cells : List (Str × Addr)) (body : List Stmt) (ls : List (Str × Value)) (room units : Nat) (led : List (Addr × Obj)) (R : Value → List (Addr × Obj) → Prop) (RX : String → List (Addr × Obj) → Prop) : Prop :=
  ∀ ⦃dp un : Nat⦄ ⦃gd : Option (List Code)⦄ ⦃outer : List Env⦄ ⦃A₀ : Around⦄ ⦃base h₀ : Heap⦄ ⦃L : Addr⦄ ⦃m : Str → Option Value⦄ ⦃s : Shared⦄ ⦃Qf : Flow → Shared → Prop⦄ ⦃Ef : Value → Shared → Prop⦄,
    Below A₀ base outer h₀ → Fr h₀ L s.heap m → (∀ q ∈ ls, m q.1 = some q.2) → Top p loose mean mg mb h₀ → dp + room < recursionLimit → un + units < cLine → News h₀ L s.heap led →
    (∀ (v : Value) (led' : List (Addr × Obj)) (h' : Heap) (tk' : Nat) (m' : Str → Option Value), R v led' → Fr h₀ L h' m' → News h₀ L h' led' → Qf (.ret v) { s with heap := h', toks := tk' }) →
    (∀ (e : Nat) (x : String) (led' : List (Addr × Obj)) (g' h' : Heap) (tk' : Nat) (m' : Str → Option Value), RX x led' → Fr h₀ L g' m' → RaisedSN base g' (envX qe (defScope errDef) L fe (.ref ec) cells :: outer) e (.type x) led' h' → g'.UpToSlots h' → Ef (.ref e) { s with heap := h', toks := tk' }) →
    (hd.heap_39 w.params).In h₀ →
    wpAny (model PySem.Challenge.rw_dn0255_04.row.prog w) (ktrTop dp un gd qe (defScope errDef) L fe (.ref ec) cells outer) (execs body (envX qe (defScope errDef) L fe (.ref ec) cells)) Qf Ef s
noncomputable def htT (c : Int) (t1 t2 t3 : Tok) : Obj := { cls := .type "tuple", data := .seq #[.str (Str.ofString "http") t1, .bool true, .int c t2, .str (Str.ofString "word") t3] }
noncomputable def endT (c : Int) (k : Nat) (t1 t2 : Tok) : Obj := { cls := .type "tuple", data := .seq #[.int c t1, .int k t2] }

section
variable {w : World} {p : Program} {loose : List Str} {mean : ExcName → Option Value} {mg mb : Str → Option Value}

local macro_rules | `(tactic| walk_at "pad") => `(tactic| skip)
local macro_rules | `(tactic| walk_at "call builtin:len") => `(tactic| (k_here; k_dflt (refine' len_n ?k1 ?k2 ?k4 ?_; (case k1 => k_asm); (case k2 => walk_at "mem_go"); (case k4 => (simp only [List.length_append, List.length_cons, List.length_nil]; omega)))))

local macro_rules | `(tactic| walk_at "subscriptTail Name UnaryOp ref int") => `(tactic| (k_here; (with_reducible show wpAny _ _ (subscriptTail _ _ (Value.ref _) (Value.int _ _)) _ _ _); k_dflt (refine' last_ref ?N ?l ?z ?_ ?s ?t; (case N => k_asm); (case l => walk_at "mem_go"); (case z => omega); (case s => with_unfolding_all rfl); (case t => kmk_pure))))

theorem err_pre {fe ec lg pg x y cL cP cK cG cS cX : Nat} {oec oL oP : Obj} {qe : Str} {doce pme cte : Value} {lv pv0 : List Value} {n1 n2 : Nat} {c : Int} {t1 t2 t3 t4 : Tok} {hd0 : List Nat} {rest : List (Addr × Obj)} {R : Value → List (Addr × Obj) → Prop} {RX : String → List (Addr × Obj) → Prop} {room units : Nat} 
    (hfe : (fe, errFn qe cS cG cK cL cP cX doce pme ec cte) ∈ rest) (hec : (ec, oec) ∈ rest) (hqe : CodeQ oec qe) (hL : (cL, oL) ∈ rest) (dL : oL.data = .cell (some (.ref lg))) (hP : (cP, oP) ∈ rest) (dP : oP.data = .cell (some (.ref pg)))
    (hlv : lv.length ≤ 100) (hpv : pv0.length ≤ 3) (hoff : ∀ q ∈ rest, @Ne Nat q.1 lg) (hne : @Ne Nat lg pg)
    (hend : ¬ (c = 401 ∧ pv0.length < 2) → ∀ (T T2 n1' : Nat) (u1 u2 : Tok), (∀ r ∈ (lg, listOf lv.toArray n1) :: (pg, listOf (pv0 ++ [Value.ref y]).toArray n2) :: rest, @LT.lt Nat _ r.1 T) → @LT.lt Nat _ T T2 → R (.ref T2) ((lg, listOf (lv ++ [Value.ref T]).toArray n1') :: (pg, listOf (pv0 ++ [Value.ref y]).toArray n2) :: (T2, endT c (pv0 ++ [Value.ref y]).length u1 u2) :: (T, htT c t1 t2 t3) :: rest))
    (hB : c = 401 → pv0.length < 2 → ∀ (T n1' : Nat), (∀ r ∈ (lg, listOf lv.toArray n1) :: (pg, listOf (pv0 ++ [Value.ref y]).toArray n2) :: rest, @LT.lt Nat _ r.1 T) → BodyC w p loose mean mg mb fe ec qe (ecells cX cP cL cK cG cS) errRest [(Str.ofString "head", .str (ofL hd0) t4), (Str.ofString "asked", .ref x)] room units ((lg, listOf (lv ++ [Value.ref T]).toArray n1') :: (pg, listOf (pv0 ++ [Value.ref y]).toArray n2) :: (T, htT c t1 t2 t3) :: rest) R RX) :
    CallC w p loose mean mg mb fe [.str (Str.ofString "http") t1, .ref x, .ref y, .int c t2, .str (Str.ofString "word") t3, .str (ofL hd0) t4] (room + 4) (units + 60) ((lg, listOf lv.toArray n1) :: (pg, listOf (pv0 ++ [Value.ref y]).toArray n2) :: rest) R RX := by
  intro dp un gd cn cs a ccd cl outer A₀ base h₀ L m s Q E B F T hk hdp hun N hret hraise X
  revert X; k_fill; intro X
  have hKst := kstMark
  w_top off

  have hfe2 := hfe
  simp only [errFn, errRest, errDef, sesDef, defArgs, defBody, defScope, PySem.Challenge.pw_dn0255_04, List.getD_cons_zero, List.getD_cons_succ, List.drop_succ_cons, List.drop_zero] at hfe2
  have wL := ownOff_of hoff
  refine wpAny_call ?_
  k_dflt (refine' code_nest (binds := [(Str.ofString "proto", .str (Str.ofString "http") t1), (Str.ofString "asked", .ref x), (Str.ofString "page", .ref y), (Str.ofString "code", .int c t2), (Str.ofString "word", .str (Str.ofString "word") t3), (Str.ofString "head", .str (ofL hd0) t4)]) B F X N T rfl rfl hk (List.mem_cons_of_mem _ (List.mem_cons_of_mem _ hfe2)) (hqe.rec N (List.mem_cons_of_mem _ (List.mem_cons_of_mem _ hec))) ?k8 ?k9 ?kB ?_ ?c2 ?c3 ?c4 ?c5; (case k8 => ((try simp only [depth_in1, depth_deeper, depth_caller]); (try dsimp only [ktrTop]); omega)); (case k9 => exact BindsTo.of_eq rfl); (case kB => exact locs rfl); (case c2 => exact rfl); (case c3 => exact rfl); (case c4 => exact rfl); (case c5 => decide); k_whole; intro g' L' h' FG' F' N' B' X' T')
  clear hfe2
  (try dsimp only); (try k_lift B'); (try k_fold)
  repeat' ((fail_if_success (with_reducible show wpAny _ _ (execs (Stmt.Assign _ _ _ :: _) _) _ _ _)); (first | (k_unfold; (try dsimp only)) | (k_end; wrow_close) | walk1 | (dsimp only; walk1) | (leave1; walk_say "STEP leave1"; try dsimp only) | fail "no step"))
  · rename News h₀ L _ _ => N7
    rename Fr h₀ L _ _ => F7
    exact hret _ _ _ _ (hend (fun h => absurd h.1 (by assumption)) _ _ _ _ _ (lt_of (by assumption)) (And.left (by assumption))) F7 (ord_end N7)
  · rename News h₀ L _ _ => N7
    rename Fr h₀ L _ _ => F7
    have hlen : (pv0 ++ [Value.ref y]).length = pv0.length + 1 := by simp
    exact hret _ _ _ _ (hend (fun h => by have := h.2; omega) _ _ _ _ _ (lt_of (by assumption)) (And.left (by assumption))) F7 (ord_end N7)
  · rename News _ _ _ _ => N5
    rename Fr _ _ _ _ => F5
    have hlen : (pv0 ++ [Value.ref y]).length = pv0.length + 1 := by simp
    have hBT := hB (by assumption) (by omega) _ (n1 + 1) (lt_of (by assumption))
    dsimp only [BodyC, ecells, htT] at hBT
    k_dflt (refine' hBT ?qB ?qF ?qm ?qT ?qd ?qu (news_le N5 ?ql) ?qr ?qe ?qX; (case qF => k_asm); (case qB => k_asm); (case qT => k_asm); (case qX => k_asm); (case qd => ((try simp only [depth_in1, depth_deeper, depth_caller]); (try dsimp only [ktrTop]); omega)); (case qu => ((try simp only [units_in1, units_deeper, Around.mark_units, units_caller]); (try dsimp only [ktrTop]); omega)))
    case ql => walk_at "led_sub"
    case qm => simp only [List.forall_mem_cons]; exact ⟨rfl, rfl, fun _ h => nomatch h⟩
    case qr =>
      intro v led' h5 tk5 m5 hR F5 N5
      k_unfold
      repeat' (first | (k_unfold; (try dsimp only)) | (k_end; wrow_close) | walk1 | (dsimp only; walk1) | (leave1; walk_say "STEP leave1"; try dsimp only) | fail "no step")
      rename News h₀ L _ _ => N7
      rename Fr h₀ L _ _ => F7
      exact hret _ _ _ _ hR F7 N7
    case qe =>
      intro e x led' g5 h5 tk5 m5 hRX F5 R5 U5
      refine leave_onX rfl B' F5 R5 U5 ?_
      intro h9 R9 U9
      exact hraise e x led' g' h9 _ hRX FG' R9 U9

end

end
section
open PySem PySem.W PyProof.Rows PySem.Calls PyProof.V

section
variable {w : World} {p : Program} {loose : List Str} {mean : ExcName → Option Value} {mg mb : Str → Option Value}

theorem err_val {fe ec cX cP cL cK cG cS x : Nat} {qe : Str} {hd0 : List Nat} {t4 : Tok} {ws gs : List (List Nat)} {b : List Nat} {led : List (Addr × Obj)} {R : Value → List (Addr × Obj) → Prop} {RX : String → List (Addr × Obj) → Prop} {room units : Nat} 
    (hl : hd0.length ≤ 1000) (hws : ((pparts hd0).map fun w => Txt.strip (ofL w)) = ws.map ofL) (hst : stepL (stepOf hd0) ws = gs ++ [b]) (hg : ∀ v ∈ gs, v.length ≤ 1000 ∧ ∃ k r, v = k ++ 61 :: r ∧ 61 ∉ k ∧ r ≠ []) (hbl : b.length ≤ 1000) (hb : 61 ∉ b)
    (hRX : RX "ValueError" led) (hroom : 6 ≤ room) (hunits : 60 ≤ units) :
    BodyC w p loose mean mg mb fe ec qe (ecells cX cP cL cK cG cS) errRest [(Str.ofString "head", .str (ofL hd0) t4), (Str.ofString "asked", .ref x)] room units led R RX := by
  intro dp un gd outer A₀ base h₀ L m s Qf Ef B F hm T hdp hun N hret hraise X
  revert X; k_fill; intro X
  have hKst := kstMark
  w_top off
  rw [kst_self hm] at F
  simp only [ecells, errFn, errRest, errDef, sesDef, defArgs, defBody, defScope, PySem.Challenge.pw_dn0255_04, List.getD_cons_zero, List.getD_cons_succ, List.drop_succ_cons, List.drop_zero]

  repeat' ((fail_if_success (with_reducible show wpAny _ _ (call (Value.ref 106) _ _) _ _ _)); (first | (k_unfold; (try dsimp only)) | (k_end; wrow_close) | walk1 | (dsimp only; walk1) | (leave1; walk_say "STEP leave1"; try dsimp only) | fail "no step"))
  k_dflt (refine' read_val ?qB ?qF ?qT ?qh ?qd ?qu hl hws hst hg hbl hb N ?qr ?qX; (case qh => rfl); (case qF => k_asm); (case qB => k_asm); (case qT => k_asm); (case qX => k_asm); (case qd => ((try simp only [depth_in1, depth_deeper, depth_caller]); (try dsimp only [ktrTop]); omega)); (case qu => ((try simp only [units_in1, units_deeper, Around.mark_units, units_caller]); (try dsimp only [ktrTop]); omega)))
  intro e5 g5 h5 tk5 F5 R5 U5
  exact hraise e5 _ _ g5 h5 _ _ hRX F5 R5 U5

theorem err_idx {fe ec cX cP cL cK cG cS x : Nat} {qe : Str} {hd0 : List Nat} {t4 : Tok} {ws gs : List (List Nat)} {b : List Nat} {led : List (Addr × Obj)} {R : Value → List (Addr × Obj) → Prop} {RX : String → List (Addr × Obj) → Prop} {room units : Nat} 
    (hl : hd0.length ≤ 1000) (hws : ((pparts hd0).map fun w => Txt.strip (ofL w)) = ws.map ofL) (hst : stepL (stepOf hd0) ws = gs ++ [b ++ 61 :: []]) (hg : ∀ v ∈ gs, v.length ≤ 1000 ∧ ∃ k r, v = k ++ 61 :: r ∧ 61 ∉ k ∧ r ≠ []) (hbl : b.length ≤ 1000) (hb : 61 ∉ b)
    (hRX : RX "IndexError" led) (hroom : 6 ≤ room) (hunits : 60 ≤ units) :
    BodyC w p loose mean mg mb fe ec qe (ecells cX cP cL cK cG cS) errRest [(Str.ofString "head", .str (ofL hd0) t4), (Str.ofString "asked", .ref x)] room units led R RX := by
  intro dp un gd outer A₀ base h₀ L m s Qf Ef B F hm T hdp hun N hret hraise X
  revert X; k_fill; intro X
  have hKst := kstMark
  w_top off
  rw [kst_self hm] at F
  simp only [ecells, errFn, errRest, errDef, sesDef, defArgs, defBody, defScope, PySem.Challenge.pw_dn0255_04, List.getD_cons_zero, List.getD_cons_succ, List.drop_succ_cons, List.drop_zero]

  repeat' ((fail_if_success (with_reducible show wpAny _ _ (call (Value.ref 106) _ _) _ _ _)); (first | (k_unfold; (try dsimp only)) | (k_end; wrow_close) | walk1 | (dsimp only; walk1) | (leave1; walk_say "STEP leave1"; try dsimp only) | fail "no step"))
  k_dflt (refine' read_idx ?qB ?qF ?qT ?qh ?qd ?qu hl hws hst hg hbl hb N ?qr ?qX; (case qh => rfl); (case qF => k_asm); (case qB => k_asm); (case qT => k_asm); (case qX => k_asm); (case qd => ((try simp only [depth_in1, depth_deeper, depth_caller]); (try dsimp only [ktrTop]); omega)); (case qu => ((try simp only [units_in1, units_deeper, Around.mark_units, units_caller]); (try dsimp only [ktrTop]); omega)))
  intro e5 g5 h5 tk5 F5 R5 U5
  exact hraise e5 _ _ g5 h5 _ _ hRX F5 R5 U5

end

end
open PySem PySem.W PyProof.Rows PySem.Calls PyProof.V
local macro_rules | `(tactic| walk_at "eval Name") => `(tactic| ((with_reducible show wpAny _ _ (eval (Expr.Name (Str.ofString "_law_serve") _) _) _ _ _); k_dflt (refine' nameX_F ?N ?c ?m ?d ?_ ?a ?b; (case a | b => rfl); (case N => k_asm); (case c => rfl); (case m => walk_at "mem_go"); (case d => assumption))))
local macro_rules | `(tactic| walk_at "eval Name") => `(tactic| ((with_reducible show wpAny _ _ (eval (Expr.Name (Str.ofString "processor") _) _) _ _ _); k_dflt (refine' nameX_F ?N ?c ?m ?d ?_ ?a ?b; (case a | b => rfl); (case N => k_asm); (case c => rfl); (case m => walk_at "mem_go"); (case d => assumption))))
section
open PySem PySem.W PyProof.Rows PySem.Calls PyProof.V

section
variable {w : World} {p : Program} {loose : List Str} {mean : ExcName → Option Value} {mg mb : Str → Option Value}

theorem key_t {fe ec cX cP cL cK cG cS : Nat} {oK : Obj} {qe : Str} {kd : Int} {tkd : Tok} {A : Around} {h₀ : Heap} {L : Addr} {m : Str → Option Value} {s : Shared} {Q E : Value → Shared → Prop} {nx : List (Addr × Obj)} {p1 p2 p3 p4 p5 p6 : Pos} (F : Fr h₀ L s.heap m) (N : News h₀ L s.heap nx) (hK : (cK, oK) ∈ nx) (dK : oK.data = .cell (some (.int kd tkd)))
    (hret : ∀ (tk' : Nat) (t : Tok), Q (.str (ofL (keyL kd)) t) { s with toks := tk' }) :
    wpAny (model PySem.Challenge.rw_dn0255_04.row.prog w) A (eval (Expr.IfExp (Expr.Compare (Expr.Name (Str.ofString "kind") p1) [CmpOp.Eq] [Expr.Constant (Const.int 2) 0 p2] p3) (Expr.Constant (Const.str (Str.ofString "w")) 0 p4) (Expr.Constant (Const.str (Str.ofString "k")) 0 p5) p6) (envX qe (defScope errDef) L fe (.ref ec) (ecells cX cP cL cK cG cS))) Q E s := by
  have hKst := kstMark
  w_top off
  simp only [ecells, errFn, errRest, errDef, sesDef, defArgs, defBody, defScope, PySem.Challenge.pw_dn0255_04, List.getD_cons_zero, List.getD_cons_succ, List.drop_succ_cons, List.drop_zero]
  repeat' (first | (k_unfold; (try dsimp only)) | (k_end; wrow_close) | walk1 | (dsimp only; walk1) | (leave1; walk_say "STEP leave1"; try dsimp only) | fail "no step")
  · rw [key_2 (by assumption)]; exact hret _ _
  · rw [key_k (by assumption)]; exact hret _ _

theorem err_step {fs sc PT cG cK cL cM cP cR lg pg : Nat} {ocs oG oK oL oM oP oR : Obj} {qs : Str} {docs pms cts : Value} {g rl : List Nat} {kd mm : Int} {tg tkd tm tr : Tok} {fe ec cS cX x dx pr dpr : Nat} {oS oX : Obj} {qe : Str} {hd0 hdr hdr' nc : List Nat} {t4 th tv tpp : Tok} {vpp : Value} {ws gs ws' gs' : List (List Nat)} {lv pv : List Value} {n1 n2 : Nat} {pt : Array Value} {rest : List (Addr × Obj)} {R : Value → List (Addr × Obj) → Prop} {RX : String → List (Addr × Obj) → Prop} {room units : Nat}
    (S : Srv rest fs sc PT cG cK cL cM cP cR lg pg ocs oG oK oL oM oP oR qs docs pms cts g rl kd mm tg tkd tm tr)
    (hS : (cS, oS) ∈ rest) (dS : oS.data = .cell (some (.ref fs))) (hX : (cX, oX) ∈ rest) (dX : oX.data = .cell (some (.ref pr))) (hpr : (pr, instObj 66 dpr) ∈ rest) (hdpr : (dpr, dictOf [ent w "parent" tpp vpp] 1) ∈ rest) (hx : (x, instObj 45 dx) ∈ rest)
    (hl : hd0.length ≤ 1000) (hws : ((pparts hd0).map fun w => Txt.strip (ofL w)) = ws.map ofL) (hst : stepL (stepOf hd0) ws = gs) (hg : ∀ v ∈ gs, v.length ≤ 1000 ∧ ∃ k r, v = k ++ 61 :: r ∧ 61 ∉ k ∧ r ≠ []) (hkp : keqP gs = cliP mm rl nc) (hnc : nc.length ≤ 2) (hnc1 : ∀ c ∈ nc, c < 128)
    (hhd : hdr' = writtenL (ansL rl nc (keyL kd)) g ++ [44]) (hl' : hdr'.length ≤ 1000) (hws' : ((pparts hdr').map fun w => Txt.strip (ofL w)) = ws'.map ofL) (hst' : stepL (stepOf hdr') ws' = gs') (hg' : ∀ v ∈ gs', v.length ≤ 1000 ∧ ∃ k r, v = k ++ 61 :: r ∧ 61 ∉ k ∧ r ≠ []) (hkp' : keqP gs' = ansL rl nc (keyL kd))
    (hlv : lv.length ≤ 90) (hpv : pv.length ≤ 3) (hlam : LamSt pt ((qs ++ Str.ofString ".<locals>.") ++ Str.ofString "<lambda>") rest)
    (hoff : ∀ q ∈ rest, @Ne Nat q.1 lg ∧ @Ne Nat q.1 pg ∧ @Ne Nat q.1 PT ∧ @Ne Nat q.1 dx) (hne : @Ne Nat lg pg ∧ @Ne Nat lg PT ∧ @Ne Nat pg PT) (hnx : @Ne Nat dx lg ∧ @Ne Nat dx pg ∧ @Ne Nat dx PT)
    (hC : ∀ (y' Tl T3 n1' n2' : Nat) (th' tv' : Tok) (pt' : Array Value) (nx' : List (Addr × Obj)), Ext ((lg, listOf lv.toArray n1) :: (pg, listOf pv.toArray n2) :: (PT, tabObj pt) :: (dx, dictOf [ent w "header" th (.str (ofL hdr) tv)] 1) :: rest) rest nx' → PageAt w nx' cG cK ((qs ++ Str.ofString ".<locals>.") ++ Str.ofString "<lambda>") y' (codeF kd mm rl (ansL rl nc (keyL kd)) pv.length) (headL mm rl g pv.length) → DatIn nx' (.ref T3) (cliD (cliP mm rl nc)) → DatIn nx' (.ref Tl) (srvD (ansL rl nc (keyL kd))) → LamSt pt' ((qs ++ Str.ofString ".<locals>.") ++ Str.ofString "<lambda>") nx' →
      CallC w p loose mean mg mb 63 [.ref pr, .ref x, .ref y'] room units ((lg, listOf (lv ++ [Value.ref T3] ++ [Value.ref Tl]).toArray n1') :: (pg, listOf (pv ++ [Value.ref y']).toArray n2') :: (PT, tabObj pt') :: (dx, dictOf [ent w "header" th' (.str (ofL hdr') tv')] 1) :: nx') R RX) (hroom : 6 ≤ room) (hunits : 200 ≤ units) :
    BodyC w p loose mean mg mb fe ec qe (ecells cX cP cL cK cG cS) errRest [(Str.ofString "head", .str (ofL hd0) t4), (Str.ofString "asked", .ref x)] (room + 6) (units + 200) ((lg, listOf lv.toArray n1) :: (pg, listOf pv.toArray n2) :: (PT, tabObj pt) :: (dx, dictOf [ent w "header" th (.str (ofL hdr) tv)] 1) :: rest) R RX := by
  intro dp un gd outer A₀ base h₀ L m s Qf Ef B F hm T hdp hun N hret hraise X
  revert X; k_fill; intro X
  have hKst := kstMark
  w_top off
  rw [kst_self hm] at F
  simp only [ecells, errFn, errRest, errDef, sesDef, defArgs, defBody, defScope, PySem.Challenge.pw_dn0255_04, List.getD_cons_zero, List.getD_cons_succ, List.drop_succ_cons, List.drop_zero]

  have S0 := S
  obtain ⟨hfs, hcs, hcq, hco, hG, dG, hK, dK, hL, dL, hM, dM, hP, dP, hR, dR, lg0, lr0, lr1⟩ := S0
  repeat' ((fail_if_success (with_reducible show wpAny _ _ (call (Value.ref 106) _ _) _ _ _)); (first | (k_unfold; (try dsimp only)) | (k_end; wrow_close) | walk1 | (dsimp only; walk1) | (leave1; walk_say "STEP leave1"; try dsimp only) | fail "no step"))
  (k_dflt (refine' read_ok (b := []) ?qB1 ?qF1 ?qT1 ?qh1 ?qd1 ?qu1 hl hws hst hg ?qN1 ?qr1 ?qX1; (case qh1 => rfl); (case qF1 => k_asm); (case qB1 => k_asm); (case qT1 => k_asm); (case qX1 => k_asm); (case qN1 => k_asm))); (case qd1 => ktr_room); (case qu1 => ktr_units)
  intro d1 od1 kvs1 h1 tk1 F1 N1 o1 lo1 hod1 hkv1
  rw [hkp] at hkv1
  have hpl1 : (cliP mm rl nc).length ≤ 10 := by show 3 ≤ 10; decide
  repeat' ((fail_if_success (with_reducible show wpAny _ _ (newTuple _) _ _ _)); (first | (k_unfold; (try dsimp only)) | (k_end; wrow_close) | walk1 | (dsimp only; walk1) | (leave1; walk_say "STEP leave1"; try dsimp only) | fail "no step"))
  rename News _ _ _ _ => N2
  rename Fr _ _ _ _ => F2
  rename_i V2 h21 lv2 B2 vs2 tups2 c2 h22 tk2 hda2 hlt2 l2
  obtain ⟨ne1, ne2, ne3⟩ := hne
  obtain ⟨nx1, nx2, nx3⟩ := hnx
  have l2b : ∀ r ∈ (lg, listOf lv.toArray n1) :: (pg, listOf pv.toArray n2) :: (PT, tabObj pt) :: (dx, dictOf [ent w "header" th (.str (ofL hdr) tv)] 1) :: rest, @LT.lt Nat _ r.1 B2 := fun r hr => l2 r (List.mem_cons_of_mem _ (List.mem_cons_of_mem _ hr))
  obtain ⟨rest2, hr2⟩ : ∃ r, r = tups2 ++ (B2, listOf vs2.toArray c2) :: rest := ⟨_, rfl⟩
  have E2 : Ext ((lg, listOf lv.toArray n1) :: (pg, listOf pv.toArray n2) :: (PT, tabObj pt) :: (dx, dictOf [ent w "header" th (.str (ofL hdr) tv)] 1) :: rest) rest rest2 := by
    rw [hr2]
    exact (Ext.refl.add l2b).app fun q hq r hr => (hlt2 q hq).2 r (List.mem_cons_of_mem _ (List.mem_cons_of_mem _ hr))
  have hB2 : (B2, listOf vs2.toArray c2) ∈ rest2 := by rw [hr2]; exact List.mem_append_right _ (List.mem_cons_self ..)
  have hD2 : DatAll rest2 vs2 ((cliP mm rl nc).map prD) := hda2.mono fun q hq => by rw [hr2]; exact List.mem_append_left _ hq
  replace N2 : News h₀ L _ ((d1, od1) :: ((lg, listOf lv.toArray n1) :: (pg, listOf pv.toArray n2) :: (PT, tabObj pt) :: (dx, dictOf [ent w "header" th (.str (ofL hdr) tv)] 1) :: rest2)) := news_le N2 (led_mid (pre := [_, _, _, _, _]) (by walk_at "led_sub") (by
    rw [hr2]
    intro q hq
    rcases List.mem_append.mp hq with hq | hq
    · walk_at "mem_go"
    · rcases List.mem_cons.mp hq with rfl | hq
      · walk_at "mem_go"
      · walk_at "mem_go"))
  have hd1 : ∀ q ∈ rest2, @Ne Nat q.1 d1 := by
    rw [hr2]
    intro q hq
    rcases List.mem_append.mp hq with hq | hq
    · exact Nat.ne_of_gt ((hlt2 q hq).2 _ (List.mem_cons_of_mem _ (List.mem_cons_self ..)))
    · rcases List.mem_cons.mp hq with rfl | hq
      · exact Nat.ne_of_gt (l2 _ (List.mem_cons_of_mem _ (List.mem_cons_self ..)))
      · exact o1 q (List.mem_cons_of_mem _ (List.mem_cons_of_mem _ (List.mem_cons_of_mem _ (List.mem_cons_of_mem _ hq))))
  have hoff2 : ∀ q ∈ rest2, @Ne Nat q.1 lg ∧ @Ne Nat q.1 dx := fun q hq => ⟨E2.off ⟨_, List.mem_cons_self .., rfl⟩ (fun q hq => (hoff q hq).1) q hq, E2.off ⟨_, List.mem_cons_of_mem _ (List.mem_cons_of_mem _ (List.mem_cons_of_mem _ (List.mem_cons_self ..))), rfl⟩ (fun q hq => (hoff q hq).2.2.2) q hq⟩
  have wL : OwnOff rest2 [lg, dx] := fun p hp b hb => by
    rcases List.mem_cons.mp hb with rfl | hb
    · exact (hoff2 p hp).1
    · rw [List.mem_singleton.mp hb]; exact (hoff2 p hp).2
  clear hda2 hlt2 l2 l2b lv2 hr2 hG hL hP hK hR hM hfs hcs
  have S2 := S.mono E2.old
  obtain ⟨hfs, hcs, _, _, hG, _, hK, _, hL, _, hM, _, hP, _, hR, _, _, _, _⟩ := S2
  have hS2 := E2.old _ hS
  have hX2 := E2.old _ hX
  have hpr2 := E2.old _ hpr
  have hdpr2 := E2.old _ hdpr
  have hx2 := E2.old _ hx
  have q1 : @Ne Nat lg d1 := o1 _ (List.mem_cons_self ..)
  have q2 : @Ne Nat dx d1 := o1 _ (List.mem_cons_of_mem _ (List.mem_cons_of_mem _ (List.mem_cons_of_mem _ (List.mem_cons_self ..))))
  repeat' ((fail_if_success (with_reducible show wpAny _ _ (call (Value.builtin "dict.get") _) _ _ _)); (first | (k_unfold; (try dsimp only)) | (k_end; wrow_close) | walk1 | (dsimp only; walk1) | (leave1; walk_say "STEP leave1"; try dsimp only) | fail "no step"))
  rename News _ _ _ _ => N3
  rename_i tq v2b h23h z1 z2 z3 z4 z5 z6 z7 z8 z9 z10 z11 T3 h31 l3 h32 F3
  have hle : ∀ r ∈ (lg, listOf lv.toArray n1) :: (pg, listOf pv.toArray n2) :: (PT, tabObj pt) :: (dx, dictOf [ent w "header" th (.str (ofL hdr) tv)] 1) :: rest, r ∈ (lg, listOf lv.toArray n1) :: (pg, listOf pv.toArray n2) :: (PT, tabObj pt) :: (dx, dictOf [ent w "header" th (.str (ofL hdr) tv)] 1) :: rest2 := led_mid (pre := [_, _, _, _]) (by walk_at "led_sub") (fun q hq => List.mem_cons_of_mem _ (List.mem_cons_of_mem _ (List.mem_cons_of_mem _ (List.mem_cons_of_mem _ (E2.old q hq)))))
  have hT3 : ∀ r ∈ (lg, listOf lv.toArray n1) :: (pg, listOf pv.toArray n2) :: (PT, tabObj pt) :: (dx, dictOf [ent w "header" th (.str (ofL hdr) tv)] 1) :: rest, @LT.lt Nat _ r.1 T3 := fun r hr => lt_of (r := (lg, listOf lv.toArray n1) :: (pg, listOf pv.toArray n2) :: (PT, tabObj pt) :: (dx, dictOf [ent w "header" th (.str (ofL hdr) tv)] 1) :: rest2) (And.right l3) r (hle r hr)
  refine get_kv N3 (by walk_at "mem_go") hod1 lo1 hkv1 [114] rl rl_r rfl ?_
  intro t8
  repeat' ((fail_if_success (with_reducible show wpAny _ _ (call (Value.builtin "dict.get") _) _ _ _)); (first | (k_unfold; (try dsimp only)) | (k_end; wrow_close) | walk1 | (dsimp only; walk1) | (leave1; walk_say "STEP leave1"; try dsimp only) | fail "no step"))
  refine get_kv (by k_asm) (by walk_at "mem_go") hod1 lo1 hkv1 [110] nc rl_n rfl ?_
  intro t9
  repeat' ((fail_if_success (with_reducible show wpAny _ _ (eval (Expr.IfExp _ _ _ _) _) _ _ _)); (first | (k_unfold; (try dsimp only)) | (k_end; wrow_close) | walk1 | (dsimp only; walk1) | (leave1; walk_say "STEP leave1"; try dsimp only) | fail "no step"))
  k_dflt (refine' key_t (cX := cX) (cP := cP) (cL := cL) (cG := cG) (cS := cS) (qe := qe) (fe := fe) (ec := ec) ?F ?N ?M dK ?_; (case F => k_asm); (case N => k_asm); (case M => walk_at "mem_go"))
  intro tk10 t10
  repeat' ((fail_if_success (with_reducible show wpAny _ _ (call (Value.ref 113) _ _) _ _ _)); (first | (k_unfold; (try dsimp only)) | (k_end; wrow_close) | walk1 | (dsimp only; walk1) | (leave1; walk_say "STEP leave1"; try dsimp only) | fail "no step"))
  (k_dflt (refine' answered_t (r := rl) (n := nc) (k := keyL kd) ?qB2 ?qF2 ?qT2 ?qh2 ?qd2 ?qu2 ?ql2 ?qm2 ?qo2 ?qN2 ?qr2 ?qX2; (case qh2 => rfl); (case qF2 => k_asm); (case qB2 => k_asm); (case qT2 => k_asm); (case qX2 => k_asm); (case qN2 => k_asm); (case ql2 => omega); (case qm2 => omega); (case qo2 => (have := keyL_len kd; omega)))); (case qd2 => ktr_room); (case qu2 => ktr_units)
  intro D4 ys4 k4 tl4 h4 tk4 F4 N4 hd4 hn4
  have hz4 := ansL_low lr0 lr1 hnc hnc1 (keyL_len kd) (keyL_low kd)
  repeat' ((fail_if_success (with_reducible show wpAny _ _ (call (Value.ref 92) _ _) _ _ _)); (first | (k_unfold; (try dsimp only)) | (k_end; wrow_close) | walk1 | (dsimp only; walk1) | (leave1; walk_say "STEP leave1"; try dsimp only) | fail "no step"))
  (k_dflt (refine' written_t (vs := ys4) (ps := ansL rl nc (keyL kd)) ?qB5 ?qF5 ?qT5 ?qh5 ?qd5 ?qu5 ?ql5 ?qp5 ?qq5 lg0 ?qN5 ?qD5 ?qr5 ?qX5; (case qh5 => rfl); (case qF5 => k_asm); (case qB5 => k_asm); (case qT5 => k_asm); (case qX5 => k_asm); (case qN5 => k_asm); (case ql5 => (show 3 ≤ 10; decide)); (case qD5 => exact List.mem_cons_self ..))); (case qd5 => ktr_room); (case qu5 => ktr_units)
  case qp5 => exact hd4.mono fun q hq => List.mem_cons_of_mem _ (List.mem_append_left _ hq)
  case qq5 => exact fun p hp => ⟨Nat.le_trans (hz4 p hp).1 (by decide), Nat.le_trans (hz4 p hp).2.1 (by decide)⟩
  intro h5 tk5 t5 F5 N5
  have hcm : ofL (writtenL (ansL rl nc (keyL kd)) g) ++ Str.ofString "," = ofL hdr' := by rw [hhd, show Str.ofString "," = ofL [44] by decide, ofL_app]
  have o5 : (ofL (writtenL (ansL rl nc (keyL kd)) g)).length ≤ 1000 := by rw [ofL_length]; rw [hhd, List.length_append] at hl'; omega
  repeat' ((fail_if_success (with_reducible show wpAny _ _ (setAttr _ _ _) _ _ _)); (first | (k_unfold; (try dsimp only)) | (k_end; wrow_close) | walk1 | (dsimp only; walk1) | (leave1; walk_say "STEP leave1"; try dsimp only) | fail "no step"))
  rw [hcm]
  have hlow : ∀ q ∈ (D4, listOf ys4.toArray k4) :: tl4, @LT.lt Nat _ T3 q.1 := fun q hq => hn4 q hq _ (List.mem_cons_self ..)
  obtain ⟨rest3, hr3⟩ : ∃ r, r = (D4, listOf ys4.toArray k4) :: (tl4 ++ (T3, ({ cls := .type "tuple", data := .seq #[.str (Str.ofString "client") tq, .ref B2] } : Obj)) :: rest2) := ⟨_, rfl⟩
  have E3 : Ext ((lg, listOf lv.toArray n1) :: (pg, listOf pv.toArray n2) :: (PT, tabObj pt) :: (dx, dictOf [ent w "header" th (.str (ofL hdr) tv)] 1) :: rest) rest rest3 := by
    rw [hr3]
    exact ((E2.add hT3).app fun q hq r hr => Nat.lt_trans (hT3 r hr) (hlow q (List.mem_cons_of_mem _ hq))).add fun r hr => Nat.lt_trans (hT3 r hr) (hlow _ (List.mem_cons_self ..))
  have h23 : ∀ q ∈ rest2, q ∈ rest3 := fun q hq => by rw [hr3]; exact List.mem_cons_of_mem _ (List.mem_append_right _ (List.mem_cons_of_mem _ hq))
  have hm3 : (T3, ({ cls := .type "tuple", data := .seq #[.str (Str.ofString "client") tq, .ref B2] } : Obj)) ∈ rest3 := by rw [hr3]; exact List.mem_cons_of_mem _ (List.mem_append_right _ (List.mem_cons_self ..))
  have N6 : News h₀ L _ ((lg, listOf (lv ++ [Value.ref T3]).toArray (n1 + 1)) :: (pg, listOf pv.toArray n2) :: (PT, tabObj pt) :: (dx, dictOf [ent w "header" th (.str (ofL hdr) tv)] 1) :: rest3) := news_le N5 (led_mid (pre := [_, _, _, _]) (by walk_at "led_sub") (by
    rw [hr3]
    intro q hq
    rcases List.mem_cons.mp hq with rfl | hq
    · walk_at "mem_go"
    · rcases List.mem_append.mp hq with hq | hq
      · walk_at "mem_go"
      · rcases List.mem_cons.mp hq with rfl | hq
        · walk_at "mem_go"
        · walk_at "mem_go"))
  have hoff3 : ∀ q ∈ rest3, @Ne Nat q.1 lg ∧ @Ne Nat q.1 pg ∧ @Ne Nat q.1 PT ∧ @Ne Nat q.1 dx := fun q hq => ⟨E3.off ⟨_, List.mem_cons_self .., rfl⟩ (fun q hq => (hoff q hq).1) q hq, E3.off ⟨_, List.mem_cons_of_mem _ (List.mem_cons_self ..), rfl⟩ (fun q hq => (hoff q hq).2.1) q hq, E3.off ⟨_, List.mem_cons_of_mem _ (List.mem_cons_of_mem _ (List.mem_cons_self ..)), rfl⟩ (fun q hq => (hoff q hq).2.2.1) q hq, E3.off ⟨_, List.mem_cons_of_mem _ (List.mem_cons_of_mem _ (List.mem_cons_of_mem _ (List.mem_cons_self ..))), rfl⟩ (fun q hq => (hoff q hq).2.2.2) q hq⟩
  have w3 : OwnOff rest3 [dx] := ownOff_of fun q hq => (hoff3 q hq).2.2.2
  have hC3 := cli_in (ps := cliP mm rl nc) hm3 (h23 _ hB2) (hD2.mono h23)
  clear hr3 hn4 hd4 hlow wL hoff2 hd1 hle hT3 N5 hG hL hP hK hR hM hfs hcs hB2 hD2 hm3 l3 o1 q1 q2 hod1 lo1 hkv1 hpl1
  have S3 := S.mono E3.old
  obtain ⟨hfs, hcs, _, _, hG, _, hK, _, hL, _, hM, _, hP, _, hR, _, _, _, _⟩ := S3
  have hS3 := E3.old _ hS
  have hX3 := E3.old _ hX
  have hpr3 := E3.old _ hpr
  have hdpr3 := E3.old _ hdpr
  have hx3 := E3.old _ hx
  repeat' ((fail_if_success (with_reducible show wpAny _ _ (callWith _ (Value.ref fs) _ _ _) _ _ _)); (first | (k_unfold; (try dsimp only)) | (k_end; wrow_close) | walk1 | (dsimp only; walk1) | (leave1; walk_say "STEP leave1"; try dsimp only) | fail "no step"))
  k_dflt (refine callWith_F (FnAt.of (by k_asm) (List.mem_cons_of_mem _ (List.mem_cons_of_mem _ (List.mem_cons_of_mem _ (List.mem_cons_of_mem _ hfs))))) ?_)
  repeat' ((fail_if_success (with_reducible show _ ∧ _)); (first | (k_unfold; (try dsimp only)) | (k_end; wrow_close) | walk1 | (dsimp only; walk1) | (leave1; walk_say "STEP leave1"; try dsimp only) | fail "no step"))
  refine ⟨FnAt.of (by k_asm) (List.mem_cons_of_mem _ (List.mem_cons_of_mem _ (List.mem_cons_of_mem _ (List.mem_cons_of_mem _ hfs)))), ?_⟩
  (try dsimp only [List.nil_append, List.cons_append])
  (k_dflt (refine' serve_t (g := g) (rl := rl) (kd := kd) (mm := mm) (ps := ansL rl nc (keyL kd)) ?qB7 ?qF7 ?qT7 ?qh7 ?qd7 ?qu7 ?qS7 hl' hws' hst' hg' hkp' (by show 3 ≤ 10; decide) hz4 ?qlv7 hpv ?qlam7 ?qoff7 ⟨ne1, ne2, ne3⟩ ⟨nx1, nx2, nx3⟩ ?qN7 ?qr7 ?qX7; (case qh7 => rfl); (case qF7 => k_asm); (case qB7 => k_asm); (case qT7 => k_asm); (case qX7 => k_asm); (case qN7 => k_asm))); (case qd7 => ktr_room); (case qu7 => ktr_units)
  case qS7 => exact S.mono E3.old
  case qlam7 => exact hlam.mono E3.old
  case qoff7 => exact fun q hq => ⟨(hoff3 q hq).1, (hoff3 q hq).2.1, (hoff3 q hq).2.2.1⟩
  case qlv7 => (simp only [List.length_append, List.length_cons, List.length_nil]; omega)
  intro y7 Tl n17 n27 pt7 nx h7 tk7 F7 N7 E7 P7 D7 L7
  have EX : Ext ((lg, listOf lv.toArray n1) :: (pg, listOf pv.toArray n2) :: (PT, tabObj pt) :: (dx, dictOf [ent w "header" th (.str (ofL hdr) tv)] 1) :: rest) rest nx := E3.trans E7 (List.forall_mem_cons.mpr ⟨⟨_, List.mem_cons_self .., rfl⟩, List.forall_mem_cons.mpr ⟨⟨_, List.mem_cons_of_mem _ (List.mem_cons_self ..), rfl⟩, List.forall_mem_cons.mpr ⟨⟨_, List.mem_cons_of_mem _ (List.mem_cons_of_mem _ (List.mem_cons_self ..)), rfl⟩, List.forall_mem_cons.mpr ⟨⟨_, List.mem_cons_of_mem _ (List.mem_cons_of_mem _ (List.mem_cons_of_mem _ (List.mem_cons_self ..))), rfl⟩, fun r hr => ⟨r, List.mem_cons_of_mem _ (List.mem_cons_of_mem _ (List.mem_cons_of_mem _ (List.mem_cons_of_mem _ (E3.old r hr)))), rfl⟩⟩⟩⟩⟩)
  have hC7 := hC3.mono E7.old
  repeat' ((fail_if_success (with_reducible show wpAny _ _ (call (Value.ref 63) _ _) _ _ _)); (first | (k_unfold; (try dsimp only)) | (k_end; wrow_close) | walk1 | (dsimp only; walk1) | (leave1; walk_say "STEP leave1"; try dsimp only) | fail "no step"))
  rename News _ _ _ _ => N8
  rename Fr _ _ _ _ => F8
  k_dflt (refine' hC y7 Tl T3 n17 n27 th _ pt7 nx EX P7 hC7 D7 L7 ?qB8 ?qF8 ?qT8 ?qh8 ?qd8 ?qu8 N8 ?qr8 ?qe8 ?qX8; (case qh8 => rfl); (case qF8 => k_asm); (case qB8 => k_asm); (case qT8 => k_asm); (case qX8 => k_asm); (case qd8 => ((try simp only [depth_in1, depth_deeper, depth_caller]); (try dsimp only [ktrTop]); omega)); (case qu8 => ((try simp only [units_in1, units_deeper, Around.mark_units, units_caller]); (try dsimp only [ktrTop]); omega)))
  case qr8 =>
    intro v led' h8 tk8 hR F9 N9
    repeat' (first | (k_unfold; (try dsimp only)) | (k_end; wrow_close) | walk1 | (dsimp only; walk1) | (leave1; walk_say "STEP leave1"; try dsimp only) | fail "no step")
    rename News _ _ _ _ => N10
    rename Fr _ _ _ _ => F10
    exact hret v led' _ _ _ hR F10 N10
  case qe8 =>
    intro e x led' g8 h8 tk8 hRX F9 R9 U9
    exact hraise e x led' g8 h8 _ _ hRX F9 R9 U9

end

end
section
open PySem PySem.W PyProof.Rows PySem.Calls PyProof.V

/-- all that stays as it is through one session -/
structure Ses (w : World) (rest : List (Addr × Obj)) (fs sc PT cG cK cL cM cP cR lg pg : Nat) (ocs oG oK oL oM oP oR : Obj) (qs : Str) (docs pms cts : Value) (g rl : List Nat) (kd mm : Int) (tg tkd tm tr : Tok) (fe ec cS cX x dx pr dpr pa dpa : Nat) (oec oS oX : Obj) (qe : Str) (doce pme cte : Value) (tpp tpe : Tok) : Prop where
  S : Srv rest fs sc PT cG cK cL cM cP cR lg pg ocs oG oK oL oM oP oR qs docs pms cts g rl kd mm tg tkd tm tr
  hfe : (fe, errFn qe cS cG cK cL cP cX doce pme ec cte) ∈ rest
  hec : (ec, oec) ∈ rest
  hqe : CodeQ oec qe
  hS : (cS, oS) ∈ rest
  dS : oS.data = .cell (some (.ref fs))
  hX : (cX, oX) ∈ rest
  dX : oX.data = .cell (some (.ref pr))
  hpr : (pr, instObj 66 dpr) ∈ rest
  hdpr : (dpr, dictOf [ent w "parent" tpp (.ref pa)] 1) ∈ rest
  hpa : (pa, instObj 45 dpa) ∈ rest
  hdpa : (dpa, dictOf [ent w "error" tpe (.ref fe)] 1) ∈ rest
  hx : (x, instObj 45 dx) ∈ rest
theorem Ses.mono {w : World} {rest nx : List (Addr × Obj)} {fs sc PT cG cK cL cM cP cR lg pg : Nat} {ocs oG oK oL oM oP oR : Obj} {qs : Str} {docs pms cts : Value} {g rl : List Nat} {kd mm : Int} {tg tkd tm tr : Tok} {fe ec cS cX x dx pr dpr pa dpa : Nat} {oec oS oX : Obj} {qe : Str} {doce pme cte : Value} {tpp tpe : Tok} (Z : Ses w rest fs sc PT cG cK cL cM cP cR lg pg ocs oG oK oL oM oP oR qs docs pms cts g rl kd mm tg tkd tm tr fe ec cS cX x dx pr dpr pa dpa oec oS oX qe doce pme cte tpp tpe) (hs : ∀ q ∈ rest, q ∈ nx) : Ses w nx fs sc PT cG cK cL cM cP cR lg pg ocs oG oK oL oM oP oR qs docs pms cts g rl kd mm tg tkd tm tr fe ec cS cX x dx pr dpr pa dpa oec oS oX qe doce pme cte tpp tpe :=
  { Z with S := Z.S.mono hs, hfe := hs _ Z.hfe, hec := hs _ Z.hec, hS := hs _ Z.hS, hX := hs _ Z.hX, hpr := hs _ Z.hpr, hdpr := hs _ Z.hdpr, hpa := hs _ Z.hpa, hdpa := hs _ Z.hdpa, hx := hs _ Z.hx }
/-- what is read of a text -/
noncomputable def Reads (l : List Nat) (ps : PL) : Prop := l.length ≤ 1000 ∧ ∃ ws gs, ((pparts l).map fun w => Txt.strip (ofL w)) = ws.map ofL ∧ stepL (stepOf l) ws = gs ∧ (∀ v ∈ gs, v.length ≤ 1000 ∧ ∃ k r, v = k ++ 61 :: r ∧ 61 ∉ k ∧ r ≠ []) ∧ keqP gs = ps
noncomputable def ReadsBad (l : List Nat) (tl : List Nat) : Prop := l.length ≤ 1000 ∧ ∃ ws gs b, ((pparts l).map fun w => Txt.strip (ofL w)) = ws.map ofL ∧ stepL (stepOf l) ws = gs ++ [b ++ tl] ∧ (∀ v ∈ gs, v.length ≤ 1000 ∧ ∃ k r, v = k ++ 61 :: r ∧ 61 ∉ k ∧ r ≠ []) ∧ b.length ≤ 1000 ∧ 61 ∉ b
/-- how things stand while a session runs: the ledger's tail nx, the log's data, the table's state -/
structure Mid (b rest : List (Addr × Obj)) (ql : Str) (lv : List Value) (pt : Array Value) (ds : List Dat) (nx : List (Addr × Obj)) : Prop where
  hE : Ext b rest nx
  hD : DatAll nx lv ds
  hl : LamSt pt ql nx
/-- how things stand when the pages have come to their end -/
inductive FinS (w : World) (b rest : List (Addr × Obj)) (lg pg PT dx : Nat) (ql : Str) (ds : List Dat) (hdr : List Nat) (V : Nat → List (Addr × Obj) → Prop) (led : List (Addr × Obj)) : Prop
  | mk (lv pv0 : List Value) (n1 n2 : Nat) (pt : Array Value) (th tv : Tok) (nx : List (Addr × Obj)) (y dy : Nat) (hsub : ∀ q ∈ (lg, listOf lv.toArray n1) :: (pg, listOf (pv0 ++ [Value.ref y]).toArray n2) :: (PT, tabObj pt) :: (dx, dictOf [ent w "header" th (.str (ofL hdr) tv)] 1) :: nx, q ∈ led) (M : Mid b rest ql lv pt ds nx) (hy : (y, instObj 45 dy) ∈ nx) (hV : V y nx) (hpl : pv0.length ≤ 2) : FinS w b rest lg pg PT dx ql ds hdr V led
noncomputable def EndV (v : Value) (ed : Dat) (y : Nat) (nx : List (Addr × Obj)) : Prop := (v = .ref y ∧ ed = .str (Str.ofString "page")) ∨ ∃ (T : Nat) (c : Int) (k : Nat) (u1 u2 : Tok), v = .ref T ∧ (T, endT c k u1 u2) ∈ nx ∧ ed = .tuple [.int c, .int k]
theorem PageAt.inst {w : World} {nx : List (Addr × Obj)} {cG cK : Nat} {ql : Str} {y : Nat} {c : Int} {head : List Nat} (h : PageAt w nx cG cK ql y c head) : ∃ dy, (y, instObj 45 dy) ∈ nx := by
  obtain ⟨dy, _, _, _, _, _, _, _, _, _, _, _, _, _, h1, _⟩ := h
  exact ⟨dy, h1⟩
theorem Mid.off {b rest : List (Addr × Obj)} {ql : Str} {lv : List Value} {pt : Array Value} {ds : List Dat} {nx : List (Addr × Obj)} (M : Mid b rest ql lv pt ds nx) {x : Addr} (hx : ∃ r ∈ b, r.1 = x) (ha : ∀ q ∈ rest, @Ne Nat q.1 x) : ∀ q ∈ nx, @Ne Nat q.1 x := M.hE.off hx ha

section
variable {w : World} {p : Program} {loose : List Str} {mean : ExcName → Option Value} {mg mb : Str → Option Value}

theorem resp_ok {fs sc PT cG cK cL cM cP cR lg pg : Nat} {ocs oG oK oL oM oP oR : Obj} {qs : Str} {docs pms cts : Value} {g rl : List Nat} {kd mm : Int} {tg tkd tm tr : Tok} {fe ec cS cX x dx pr dpr pa dpa : Nat} {oec oS oX : Obj} {qe : Str} {doce pme cte : Value} {tpp tpe : Tok} {b rest nx : List (Addr × Obj)} {lv pv0 : List Value} {n1 n2 : Nat} {pt : Array Value} {th tv : Tok} {hdr : List Nat} {ds : List Dat} {y : Nat} {c : Int} {hd0 : List Nat} {RX : String → List (Addr × Obj) → Prop} 
    (Z : Ses w rest fs sc PT cG cK cL cM cP cR lg pg ocs oG oK oL oM oP oR qs docs pms cts g rl kd mm tg tkd tm tr fe ec cS cX x dx pr dpr pa dpa oec oS oX qe doce pme cte tpp tpe) (M : Mid b rest ((qs ++ Str.ofString ".<locals>.") ++ Str.ofString "<lambda>") lv pt ds nx) (P : PageAt w nx cG cK ((qs ++ Str.ofString ".<locals>.") ++ Str.ofString "<lambda>") y c hd0) (hoff : ∀ q ∈ rest, @Ne Nat q.1 lg ∧ @Ne Nat q.1 pg ∧ @Ne Nat q.1 PT ∧ @Ne Nat q.1 dx) (hne : @Ne Nat lg pg ∧ @Ne Nat lg PT ∧ @Ne Nat pg PT) (hnx : @Ne Nat dx lg ∧ @Ne Nat dx pg ∧ @Ne Nat dx PT) (hb1 : ∃ r ∈ b, r.1 = lg) (hb2 : ∃ r ∈ b, r.1 = pg) (hb3 : ∃ r ∈ b, r.1 = PT) (hb4 : ∃ r ∈ b, r.1 = dx) (hb5 : ∀ r ∈ b, r ∈ rest ∨ r.1 = lg ∨ r.1 = pg ∨ r.1 = PT ∨ r.1 = dx) (hc : 200 ≤ c ∧ c < 300) (hhl : hd0.length ≤ 500) (hpl : pv0.length ≤ 2) :
    CallC w p loose mean mg mb 63 [.ref pr, .ref x, .ref y] 4 60 ((lg, listOf lv.toArray n1) :: (pg, listOf (pv0 ++ [Value.ref y]).toArray n2) :: (PT, tabObj pt) :: (dx, dictOf [ent w "header" th (.str (ofL hdr) tv)] 1) :: nx) (fun v led => FinS w b rest lg pg PT dx ((qs ++ Str.ofString ".<locals>.") ++ Str.ofString "<lambda>") ds hdr (EndV v (.str (Str.ofString "page"))) led) RX := by
  obtain ⟨dy, fi, ci, cH, oci, oH, pmi, cti, t1, t2, t3, t4, t5, t6, h1, h2, h3, h4, h5, h6, h7⟩ := P
  have hm : ∀ q ∈ nx, q ∈ (lg, listOf lv.toArray n1) :: (pg, listOf (pv0 ++ [Value.ref y]).toArray n2) :: (PT, tabObj pt) :: (dx, dictOf [ent w "header" th (.str (ofL hdr) tv)] 1) :: nx := fun q hq => List.mem_cons_of_mem _ (List.mem_cons_of_mem _ (List.mem_cons_of_mem _ (List.mem_cons_of_mem _ hq)))
  exact resp_in (hm _ h1) (hm _ h2) (hm _ h3) (hm _ h4) h5 (hm _ h6) h7 (hm _ (M.hE.old _ Z.S.hK)) Z.S.dK (hm _ (M.hE.old _ Z.S.hG)) Z.S.dG hhl Z.S.lg0 hc (.mk lv pv0 n1 n2 pt th tv nx y dy (fun q hq => hq) M h1 (.inl ⟨rfl, rfl⟩) hpl) (Nat.le_refl _) (Nat.le_refl _)
theorem resp_err {fs sc PT cG cK cL cM cP cR lg pg : Nat} {ocs oG oK oL oM oP oR : Obj} {qs : Str} {docs pms cts : Value} {g rl : List Nat} {kd mm : Int} {tg tkd tm tr : Tok} {fe ec cS cX x dx pr dpr pa dpa : Nat} {oec oS oX : Obj} {qe : Str} {doce pme cte : Value} {tpp tpe : Tok} {b rest nx : List (Addr × Obj)} {lv : List Value} {pt : Array Value} {ds : List Dat} {y : Nat} {c : Int} {hd0 : List Nat} {RX : String → List (Addr × Obj) → Prop} {R : Value → List (Addr × Obj) → Prop} {room units : Nat} {led : List (Addr × Obj)}
    (Z : Ses w rest fs sc PT cG cK cL cM cP cR lg pg ocs oG oK oL oM oP oR qs docs pms cts g rl kd mm tg tkd tm tr fe ec cS cX x dx pr dpr pa dpa oec oS oX qe doce pme cte tpp tpe) (M : Mid b rest ((qs ++ Str.ofString ".<locals>.") ++ Str.ofString "<lambda>") lv pt ds nx) (P : PageAt w nx cG cK ((qs ++ Str.ofString ".<locals>.") ++ Str.ofString "<lambda>") y c hd0)  (hc : 300 ≤ c) (hhl : hd0.length ≤ 500) (hm : ∀ q ∈ nx, q ∈ led)
    (hC : ∀ t1 t2 t3 t4 : Tok, CallC w p loose mean mg mb fe [.str (Str.ofString "http") t1, .ref x, .ref y, .int c t2, .str (Str.ofString "word") t3, .str (ofL (headK kd g hd0)) t4] room units led R RX) :
    CallC w p loose mean mg mb 63 [.ref pr, .ref x, .ref y] (room + 4) (units + 60) led R RX := by
  obtain ⟨dy, fi, ci, cH, oci, oH, pmi, cti, t1, t2, t3, t4, t5, t6, h1, h2, h3, h4, h5, h6, h7⟩ := P
  have hz : ∀ q ∈ rest, q ∈ led := fun q hq => hm _ (M.hE.old _ hq)
  exact resp_out (hm _ h1) (hm _ h2) (hm _ h3) (hm _ h4) h5 (hm _ h6) h7 (hz _ Z.S.hK) Z.S.dK (hz _ Z.S.hG) Z.S.dG hhl Z.S.lg0 (hz _ Z.hpr) (hz _ Z.hdpr) (hz _ Z.hpa) (hz _ Z.hdpa) hc (hz _ Z.hfe) fun u1 u3 u4 => hC u1 t2 u3 u4

theorem BodyC.sub {fe ec : Nat} {qe : Str} {cells : List (Str × Addr)} {body : List Stmt} {ls : List (Str × Value)} {room units : Nat} {led led2 : List (Addr × Obj)} {R : Value → List (Addr × Obj) → Prop} {RX : String → List (Addr × Obj) → Prop} (h : BodyC w p loose mean mg mb fe ec qe cells body ls room units led R RX) (hs : ∀ q ∈ led, q ∈ led2) : BodyC w p loose mean mg mb fe ec qe cells body ls room units led2 R RX :=
  fun _ _ _ _ _ _ _ _ _ _ _ _ B F hm T hdp hun N hr he X => h B F hm T hdp hun (news_le N hs) hr he X
/-- the ledger behind the log's next entry -/
theorem mid_ht {b rest nx : List (Addr × Obj)} {ql : Str} {lv : List Value} {pt : Array Value} {ds : List Dat} {lg pg PT dx T : Nat} {c : Int} {t1 t2 t3 : Tok} {o1 o2 o3 o4 : Obj} (M : Mid b rest ql lv pt ds nx) (hb5 : ∀ r ∈ b, r ∈ rest ∨ r.1 = lg ∨ r.1 = pg ∨ r.1 = PT ∨ r.1 = dx) (hT : ∀ r ∈ (lg, o1) :: (pg, o2) :: (PT, o3) :: (dx, o4) :: nx, @LT.lt Nat _ r.1 T) :
    Mid b rest ql (lv ++ [Value.ref T]) pt (ds ++ [htD c]) ((T, htT c t1 t2 t3) :: nx) ∧ ∀ r ∈ b, @LT.lt Nat _ r.1 T := by
  have hbT : ∀ r ∈ b, @LT.lt Nat _ r.1 T := fun r hr => by
    rcases hb5 r hr with h | h | h | h | h
    · exact hT r (List.mem_cons_of_mem _ (List.mem_cons_of_mem _ (List.mem_cons_of_mem _ (List.mem_cons_of_mem _ (M.hE.old _ h)))))
    · rw [h]; exact hT (lg, o1) (List.mem_cons_self ..)
    · rw [h]; exact hT (pg, o2) (List.mem_cons_of_mem _ (List.mem_cons_self ..))
    · rw [h]; exact hT (PT, o3) (List.mem_cons_of_mem _ (List.mem_cons_of_mem _ (List.mem_cons_self ..)))
    · rw [h]; exact hT (dx, o4) (List.mem_cons_of_mem _ (List.mem_cons_of_mem _ (List.mem_cons_of_mem _ (List.mem_cons_self ..))))
  exact ⟨⟨M.hE.add hbT, dat_app (M.hD.mono fun q hq => List.mem_cons_of_mem _ hq) (.cons (ht_in (t := t1) (u := t2) (v := t3) (List.mem_cons_self ..)) .nil), M.hl.mono fun q hq => List.mem_cons_of_mem _ hq⟩, hbT⟩
theorem resp_end {fs sc PT cG cK cL cM cP cR lg pg : Nat} {ocs oG oK oL oM oP oR : Obj} {qs : Str} {docs pms cts : Value} {g rl : List Nat} {kd mm : Int} {tg tkd tm tr : Tok} {fe ec cS cX x dx pr dpr pa dpa : Nat} {oec oS oX : Obj} {qe : Str} {doce pme cte : Value} {tpp tpe : Tok} {b rest nx : List (Addr × Obj)} {lv pv0 : List Value} {n1 n2 : Nat} {pt : Array Value} {th tv : Tok} {hdr : List Nat} {ds : List Dat} {y : Nat} {c : Int} {hd0 : List Nat} {RX : String → List (Addr × Obj) → Prop} 
    (Z : Ses w rest fs sc PT cG cK cL cM cP cR lg pg ocs oG oK oL oM oP oR qs docs pms cts g rl kd mm tg tkd tm tr fe ec cS cX x dx pr dpr pa dpa oec oS oX qe doce pme cte tpp tpe) (M : Mid b rest ((qs ++ Str.ofString ".<locals>.") ++ Str.ofString "<lambda>") lv pt ds nx) (P : PageAt w nx cG cK ((qs ++ Str.ofString ".<locals>.") ++ Str.ofString "<lambda>") y c hd0) (hoff : ∀ q ∈ rest, @Ne Nat q.1 lg ∧ @Ne Nat q.1 pg ∧ @Ne Nat q.1 PT ∧ @Ne Nat q.1 dx) (hne : @Ne Nat lg pg ∧ @Ne Nat lg PT ∧ @Ne Nat pg PT) (hnx : @Ne Nat dx lg ∧ @Ne Nat dx pg ∧ @Ne Nat dx PT) (hb1 : ∃ r ∈ b, r.1 = lg) (hb2 : ∃ r ∈ b, r.1 = pg) (hb3 : ∃ r ∈ b, r.1 = PT) (hb4 : ∃ r ∈ b, r.1 = dx) (hb5 : ∀ r ∈ b, r ∈ rest ∨ r.1 = lg ∨ r.1 = pg ∨ r.1 = PT ∨ r.1 = dx) (hlv : lv.length ≤ 90) (hc : 300 ≤ c) (hce : ¬ (c = 401 ∧ pv0.length < 2)) (hhl : hd0.length ≤ 500) (hpl : pv0.length ≤ 2) :
    CallC w p loose mean mg mb 63 [.ref pr, .ref x, .ref y] 8 120 ((lg, listOf lv.toArray n1) :: (pg, listOf (pv0 ++ [Value.ref y]).toArray n2) :: (PT, tabObj pt) :: (dx, dictOf [ent w "header" th (.str (ofL hdr) tv)] 1) :: nx) (fun v led => FinS w b rest lg pg PT dx ((qs ++ Str.ofString ".<locals>.") ++ Str.ofString "<lambda>") (ds ++ [htD c]) hdr (EndV v (.tuple [.int c, .int (pv0.length + 1)])) led) RX := by
  obtain ⟨ne1, ne2, ne3⟩ := hne
  obtain ⟨nx1, nx2, nx3⟩ := hnx
  obtain ⟨dy, hy⟩ := P.inst
  have hm : ∀ q ∈ nx, q ∈ (PT, tabObj pt) :: (dx, dictOf [ent w "header" th (.str (ofL hdr) tv)] 1) :: nx := fun q hq => List.mem_cons_of_mem _ (List.mem_cons_of_mem _ hq)
  have hz : ∀ q ∈ rest, q ∈ (PT, tabObj pt) :: (dx, dictOf [ent w "header" th (.str (ofL hdr) tv)] 1) :: nx := fun q hq => hm _ (M.hE.old _ hq)
  refine resp_err Z M P hc hhl (fun q hq => List.mem_cons_of_mem _ (List.mem_cons_of_mem _ (hm q hq))) fun t1 t2 t3 t4 => err_pre (room := 0) (units := 0) (hz _ Z.hfe) (hz _ Z.hec) Z.hqe (hz _ Z.S.hL) Z.S.dL (hz _ Z.S.hP) Z.S.dP (by omega) (by omega) (List.forall_mem_cons.mpr ⟨Ne.symm ne2, List.forall_mem_cons.mpr ⟨nx1, M.off hb1 fun q hq => (hoff q hq).1⟩⟩) ne1 (fun _ T T2 n1' u1 u2 hT hTT => ?_) (fun h1 h2 => absurd ⟨h1, h2⟩ hce)
  obtain ⟨M2, hbT⟩ := mid_ht (c := c) (t1 := t1) (t2 := t2) (t3 := t3) M hb5 hT
  have hs : ∀ q ∈ (T, htT c t1 t2 t3) :: nx, q ∈ (T2, endT c (pv0 ++ [Value.ref y]).length u1 u2) :: (T, htT c t1 t2 t3) :: nx := fun q hq => List.mem_cons_of_mem _ hq
  refine .mk (lv ++ [Value.ref T]) pv0 n1' n2 pt th tv ((T2, endT c (pv0 ++ [Value.ref y]).length u1 u2) :: (T, htT c t1 t2 t3) :: nx) y dy ?_ ⟨M2.hE.add fun r hr => Nat.lt_trans (hbT r hr) hTT, M2.hD.mono hs, M2.hl.mono hs⟩ (hs _ (List.mem_cons_of_mem _ hy)) (.inr ⟨T2, c, _, u1, u2, rfl, List.mem_cons_self .., by rw [List.length_append]; rfl⟩) hpl
  intro q hq
  simp only [List.mem_cons] at hq ⊢
  rcases hq with h | h | h | h | h | h | h
  · exact .inl h
  · exact .inr (.inl h)
  · exact .inr (.inr (.inr (.inr (.inl h))))
  · exact .inr (.inr (.inr (.inr (.inr (.inl h)))))
  · exact .inr (.inr (.inl h))
  · exact .inr (.inr (.inr (.inl h)))
  · exact .inr (.inr (.inr (.inr (.inr (.inr h)))))

theorem resp_bad {fs sc PT cG cK cL cM cP cR lg pg : Nat} {ocs oG oK oL oM oP oR : Obj} {qs : Str} {docs pms cts : Value} {g rl : List Nat} {kd mm : Int} {tg tkd tm tr : Tok} {fe ec cS cX x dx pr dpr pa dpa : Nat} {oec oS oX : Obj} {qe : Str} {doce pme cte : Value} {tpp tpe : Tok} {b rest nx : List (Addr × Obj)} {lv pv0 : List Value} {n1 n2 : Nat} {pt : Array Value} {th tv : Tok} {hdr : List Nat} {ds : List Dat} {y : Nat} {c : Int} {hd0 : List Nat} {RX : String → List (Addr × Obj) → Prop} {R : Value → List (Addr × Obj) → Prop} {cls : String}
    (Z : Ses w rest fs sc PT cG cK cL cM cP cR lg pg ocs oG oK oL oM oP oR qs docs pms cts g rl kd mm tg tkd tm tr fe ec cS cX x dx pr dpr pa dpa oec oS oX qe doce pme cte tpp tpe) (M : Mid b rest ((qs ++ Str.ofString ".<locals>.") ++ Str.ofString "<lambda>") lv pt ds nx) (P : PageAt w nx cG cK ((qs ++ Str.ofString ".<locals>.") ++ Str.ofString "<lambda>") y c hd0) (hoff : ∀ q ∈ rest, @Ne Nat q.1 lg ∧ @Ne Nat q.1 pg ∧ @Ne Nat q.1 PT ∧ @Ne Nat q.1 dx) (hne : @Ne Nat lg pg ∧ @Ne Nat lg PT ∧ @Ne Nat pg PT) (hnx : @Ne Nat dx lg ∧ @Ne Nat dx pg ∧ @Ne Nat dx PT) (hb1 : ∃ r ∈ b, r.1 = lg) (hb2 : ∃ r ∈ b, r.1 = pg) (hb3 : ∃ r ∈ b, r.1 = PT) (hb4 : ∃ r ∈ b, r.1 = dx) (hb5 : ∀ r ∈ b, r ∈ rest ∨ r.1 = lg ∨ r.1 = pg ∨ r.1 = PT ∨ r.1 = dx) (hlv : lv.length ≤ 90) (hc : c = 401) (hp0 : pv0.length < 2) (hhl : hd0.length ≤ 500)
    (hB : ∀ (t4 : Tok) (led : List (Addr × Obj)) (RX : String → List (Addr × Obj) → Prop), RX cls led → BodyC w p loose mean mg mb fe ec qe (ecells cX cP cL cK cG cS) errRest [(Str.ofString "head", .str (ofL (headK kd g hd0)) t4), (Str.ofString "asked", .ref x)] 6 60 led R RX) :
    CallC w p loose mean mg mb 63 [.ref pr, .ref x, .ref y] 14 180 ((lg, listOf lv.toArray n1) :: (pg, listOf (pv0 ++ [Value.ref y]).toArray n2) :: (PT, tabObj pt) :: (dx, dictOf [ent w "header" th (.str (ofL hdr) tv)] 1) :: nx) R (fun e led => e = cls ∧ FinS w b rest lg pg PT dx ((qs ++ Str.ofString ".<locals>.") ++ Str.ofString "<lambda>") (ds ++ [htD c]) hdr (fun _ _ => True) led) := by
  obtain ⟨ne1, ne2, ne3⟩ := hne
  obtain ⟨nx1, nx2, nx3⟩ := hnx
  obtain ⟨dy, hy⟩ := P.inst
  have hm : ∀ q ∈ nx, q ∈ (PT, tabObj pt) :: (dx, dictOf [ent w "header" th (.str (ofL hdr) tv)] 1) :: nx := fun q hq => List.mem_cons_of_mem _ (List.mem_cons_of_mem _ hq)
  have hz : ∀ q ∈ rest, q ∈ (PT, tabObj pt) :: (dx, dictOf [ent w "header" th (.str (ofL hdr) tv)] 1) :: nx := fun q hq => hm _ (M.hE.old _ hq)
  refine resp_err Z M P (by omega) hhl (fun q hq => List.mem_cons_of_mem _ (List.mem_cons_of_mem _ (hm q hq))) fun t1 t2 t3 t4 => err_pre (hz _ Z.hfe) (hz _ Z.hec) Z.hqe (hz _ Z.S.hL) Z.S.dL (hz _ Z.S.hP) Z.S.dP (by omega) (by omega) (List.forall_mem_cons.mpr ⟨Ne.symm ne2, List.forall_mem_cons.mpr ⟨nx1, M.off hb1 fun q hq => (hoff q hq).1⟩⟩) ne1 (fun h => absurd ⟨hc, hp0⟩ h) (fun _ _ T n1' hT => hB t4 _ _ ⟨rfl, ?_⟩)
  obtain ⟨M2, hbT⟩ := mid_ht (c := c) (t1 := t1) (t2 := t2) (t3 := t3) M hb5 hT
  refine .mk (lv ++ [Value.ref T]) pv0 n1' n2 pt th tv ((T, htT c t1 t2 t3) :: nx) y dy ?_ M2 (List.mem_cons_of_mem _ hy) trivial (by omega)
  intro q hq
  simp only [List.mem_cons] at hq ⊢
  rcases hq with h | h | h | h | h | h
  · exact .inl h
  · exact .inr (.inl h)
  · exact .inr (.inr (.inr (.inl h)))
  · exact .inr (.inr (.inr (.inr (.inl h))))
  · exact .inr (.inr (.inl h))
  · exact .inr (.inr (.inr (.inr (.inr h))))
theorem resp_step {fs sc PT cG cK cL cM cP cR lg pg : Nat} {ocs oG oK oL oM oP oR : Obj} {qs : Str} {docs pms cts : Value} {g rl : List Nat} {kd mm : Int} {tg tkd tm tr : Tok} {fe ec cS cX x dx pr dpr pa dpa : Nat} {oec oS oX : Obj} {qe : Str} {doce pme cte : Value} {tpp tpe : Tok} {b rest nx : List (Addr × Obj)} {lv pv0 : List Value} {n1 n2 : Nat} {pt : Array Value} {th tv : Tok} {hdr : List Nat} {ds : List Dat} {y : Nat} {c : Int} {hd0 : List Nat} {RX : String → List (Addr × Obj) → Prop} {R : Value → List (Addr × Obj) → Prop} {hdr' nc : List Nat} {room units : Nat}
    (Z : Ses w rest fs sc PT cG cK cL cM cP cR lg pg ocs oG oK oL oM oP oR qs docs pms cts g rl kd mm tg tkd tm tr fe ec cS cX x dx pr dpr pa dpa oec oS oX qe doce pme cte tpp tpe) (M : Mid b rest ((qs ++ Str.ofString ".<locals>.") ++ Str.ofString "<lambda>") lv pt ds nx) (P : PageAt w nx cG cK ((qs ++ Str.ofString ".<locals>.") ++ Str.ofString "<lambda>") y c hd0) (hoff : ∀ q ∈ rest, @Ne Nat q.1 lg ∧ @Ne Nat q.1 pg ∧ @Ne Nat q.1 PT ∧ @Ne Nat q.1 dx) (hne : @Ne Nat lg pg ∧ @Ne Nat lg PT ∧ @Ne Nat pg PT) (hnx : @Ne Nat dx lg ∧ @Ne Nat dx pg ∧ @Ne Nat dx PT) (hb1 : ∃ r ∈ b, r.1 = lg) (hb2 : ∃ r ∈ b, r.1 = pg) (hb3 : ∃ r ∈ b, r.1 = PT) (hb4 : ∃ r ∈ b, r.1 = dx) (hb5 : ∀ r ∈ b, r ∈ rest ∨ r.1 = lg ∨ r.1 = pg ∨ r.1 = PT ∨ r.1 = dx) (hlv : lv.length ≤ 80) (hc : c = 401) (hp0 : pv0.length < 2) (hhl : hd0.length ≤ 500) (hr1 : Reads (headK kd g hd0) (cliP mm rl nc)) (hnc : nc.length ≤ 2) (hnc1 : ∀ c ∈ nc, c < 128)
    (hhd : hdr' = writtenL (ansL rl nc (keyL kd)) g ++ [44]) (hr2 : Reads hdr' (ansL rl nc (keyL kd))) (hroom : 6 ≤ room) (hunits : 200 ≤ units)
    (hC : ∀ (y' n1' n2' : Nat) (lv' : List Value) (th' tv' : Tok) (pt' : Array Value) (nx' : List (Addr × Obj)), Mid b rest ((qs ++ Str.ofString ".<locals>.") ++ Str.ofString "<lambda>") lv' pt' (ds ++ [htD c] ++ [cliD (cliP mm rl nc)] ++ [srvD (ansL rl nc (keyL kd))]) nx' → lv'.length ≤ lv.length + 3 → PageAt w nx' cG cK ((qs ++ Str.ofString ".<locals>.") ++ Str.ofString "<lambda>") y' (codeF kd mm rl (ansL rl nc (keyL kd)) (pv0 ++ [Value.ref y]).length) (headL mm rl g (pv0 ++ [Value.ref y]).length) →
      CallC w p loose mean mg mb 63 [.ref pr, .ref x, .ref y'] room units ((lg, listOf lv'.toArray n1') :: (pg, listOf (pv0 ++ [Value.ref y] ++ [Value.ref y']).toArray n2') :: (PT, tabObj pt') :: (dx, dictOf [ent w "header" th' (.str (ofL hdr') tv')] 1) :: nx') R RX) :
    CallC w p loose mean mg mb 63 [.ref pr, .ref x, .ref y] (room + 14) (units + 320) ((lg, listOf lv.toArray n1) :: (pg, listOf (pv0 ++ [Value.ref y]).toArray n2) :: (PT, tabObj pt) :: (dx, dictOf [ent w "header" th (.str (ofL hdr) tv)] 1) :: nx) R RX := by
  have ne0 := hne
  have nx0 := hnx
  obtain ⟨ne1, ne2, ne3⟩ := hne
  obtain ⟨nx1, nx2, nx3⟩ := hnx
  obtain ⟨hl1, ws, gs, r1, r2, r3, r4⟩ := hr1
  obtain ⟨hl2, ws', gs', s1, s2, s3, s4⟩ := hr2
  have hm : ∀ q ∈ nx, q ∈ (PT, tabObj pt) :: (dx, dictOf [ent w "header" th (.str (ofL hdr) tv)] 1) :: nx := fun q hq => List.mem_cons_of_mem _ (List.mem_cons_of_mem _ hq)
  have hz : ∀ q ∈ rest, q ∈ (PT, tabObj pt) :: (dx, dictOf [ent w "header" th (.str (ofL hdr) tv)] 1) :: nx := fun q hq => hm _ (M.hE.old _ hq)
  refine resp_err (room := room + 10) (units := units + 260) Z M P (by omega) hhl (fun q hq => List.mem_cons_of_mem _ (List.mem_cons_of_mem _ (hm q hq))) fun t1 t2 t3 t4 => err_pre (room := room + 6) (units := units + 200) (hz _ Z.hfe) (hz _ Z.hec) Z.hqe (hz _ Z.S.hL) Z.S.dL (hz _ Z.S.hP) Z.S.dP (by omega) (by omega) (List.forall_mem_cons.mpr ⟨Ne.symm ne2, List.forall_mem_cons.mpr ⟨nx1, M.off hb1 fun q hq => (hoff q hq).1⟩⟩) ne1 (fun h => absurd ⟨hc, hp0⟩ h) (fun _ _ T n1' hT => ?_)
  obtain ⟨M2, hbT⟩ := mid_ht (c := c) (t1 := t1) (t2 := t2) (t3 := t3) M hb5 hT
  have Z2 := Z.mono M2.hE.old
  have hpl : (pv0 ++ [Value.ref y]).length = pv0.length + 1 := by simp
  refine BodyC.sub (led := (lg, listOf (lv ++ [Value.ref T]).toArray n1') :: (pg, listOf (pv0 ++ [Value.ref y]).toArray n2) :: (PT, tabObj pt) :: (dx, dictOf [ent w "header" th (.str (ofL hdr) tv)] 1) :: ((T, htT c t1 t2 t3) :: nx)) (err_step (hdr' := hdr') (lv := lv ++ [Value.ref T]) Z2.S Z2.hS Z2.dS Z2.hX Z2.dX Z2.hpr Z2.hdpr Z2.hx hl1 r1 r2 r3 r4 hnc hnc1 hhd hl2 s1 s2 s3 s4 (by simp only [List.length_append, List.length_cons, List.length_nil]; omega) (by omega) M2.hl ?_ ne0 nx0 ?_ hroom hunits) ?_
  · exact fun q hq => ⟨M2.off hb1 (fun q hq => (hoff q hq).1) q hq, M2.off hb2 (fun q hq => (hoff q hq).2.1) q hq, M2.off hb3 (fun q hq => (hoff q hq).2.2.1) q hq, M2.off hb4 (fun q hq => (hoff q hq).2.2.2) q hq⟩
  · intro y' Tl T3 n3' n2' th' tv' pt' nx' EX P2 D1 D2 L2
    refine hC y' n3' n2' _ th' tv' pt' nx' ⟨M2.hE.trans EX fun r hr => ?_, dat_app (dat_app (M2.hD.mono EX.old) (.cons D1 .nil)) (.cons D2 .nil), L2⟩ (by simp only [List.length_append, List.length_cons, List.length_nil]; omega) P2
    rcases hb5 r hr with h | h | h | h | h
    · exact ⟨r, List.mem_cons_of_mem _ (List.mem_cons_of_mem _ (List.mem_cons_of_mem _ (List.mem_cons_of_mem _ (M2.hE.old _ h)))), rfl⟩
    · exact ⟨_, List.mem_cons_self .., h.symm⟩
    · exact ⟨_, List.mem_cons_of_mem _ (List.mem_cons_self ..), h.symm⟩
    · exact ⟨_, List.mem_cons_of_mem _ (List.mem_cons_of_mem _ (List.mem_cons_self ..)), h.symm⟩
    · exact ⟨_, List.mem_cons_of_mem _ (List.mem_cons_of_mem _ (List.mem_cons_of_mem _ (List.mem_cons_self ..))), h.symm⟩
  · intro q hq
    simp only [List.mem_cons] at hq ⊢
    rcases hq with h | h | h | h | h | h
    · exact .inl h
    · exact .inr (.inl h)
    · exact .inr (.inr (.inr (.inl h)))
    · exact .inr (.inr (.inr (.inr (.inl h))))
    · exact .inr (.inr (.inl h))
    · exact .inr (.inr (.inr (.inr (.inr h))))

end

end
section
open PySem PySem.W PyProof.Rows PySem.Calls PyProof.V

section
variable {w : World} {p : Program} {loose : List Str} {mean : ExcName → Option Value} {mg mb : Str → Option Value}

theorem CallC.weak {f : Nat} {args : List Value} {room units room' units' : Nat} {led : List (Addr × Obj)} {R R' : Value → List (Addr × Obj) → Prop} {RX RX' : String → List (Addr × Obj) → Prop} (h : CallC w p loose mean mg mb f args room units led R RX) (hr : room ≤ room') (hu : units ≤ units') (hR : ∀ v l, R v l → R' v l) (hX : ∀ x l, RX x l → RX' x l) : CallC w p loose mean mg mb f args room' units' led R' RX' :=
  fun _ _ _ _ _ _ _ _ _ _ _ _ _ _ _ _ _ B F T hk hdp hun N hret hraise X => h B F T hk (by omega) (by omega) N (fun v l h' tk' hv => hret v l h' tk' (hR v l hv)) (fun e x l g' h' tk' hx => hraise e x l g' h' tk' (hX x l hx)) X
theorem codeF_ok {kd mm : Int} {rl : List Nat} (h : kd ≠ 2) : codeF kd mm rl (ansL rl (textL (mm + ((0 : Nat) : Int))) (keyL kd)) 1 = if kd = 5 then 250 + mm.fmod 100 else 200 := by
  have e : mm + ((0 : Nat) : Int) = mm + ((1 : Nat) : Int) - 1 := by omega
  unfold codeF keyL
  rw [if_neg h, e, if_pos ⟨by decide, rfl⟩]
theorem codeF_no {mm : Int} {rl nc : List Nat} {i : Nat} : codeF 2 mm rl (ansL rl nc (keyL 2)) i = 401 := by
  unfold codeF keyL
  rw [if_pos rfl, if_neg]
  rintro ⟨_, h⟩
  simp [ansL] at h
theorem headL_len {mm : Int} {rl g : List Nat} (hg : g.length ≤ 16) (hr : rl.length ≤ 2) (i : Nat) : (headL mm rl g i).length ≤ 500 := by
  have h := head_len (g := g) (rl := rl) (tx := textL (mm + i)) hg hr (textL_len _)
  have h2 := plainL_len mm
  unfold headL
  simp only [List.length_append, List.length_cons, List.length_nil]
  omega
/-- the header that the request bears when a session ends -/
noncomputable def hdrF (g : List Nat) (n : Int) (ps : PL) (hdr : List Nat) : List Nat := if n.fmod 6 = 3 ∨ n.fmod 6 = 4 then hdr else writtenL (dueP n ps) g ++ [44]
noncomputable def clsF (n : Int) : String := if n.fmod 6 = 3 then "ValueError" else "IndexError"

theorem resp_top {fs sc PT cG cK cL cM cP cR lg pg : Nat} {ocs oG oK oL oM oP oR : Obj} {qs : Str} {docs pms cts : Value} {g : List Nat} {n : Int} {tg tkd tm tr : Tok} {fe ec cS cX x dx pr dpr pa dpa : Nat} {oec oS oX : Obj} {qe : Str} {doce pme cte : Value} {tpp tpe : Tok} {b rest nx : List (Addr × Obj)} {lv : List Value} {n1 n2 : Nat} {pt : Array Value} {th tv : Tok} {y : Nat} {hdr : List Nat} {ps : PL}
    (Z : Ses w rest fs sc PT cG cK cL cM cP cR lg pg ocs oG oK oL oM oP oR qs docs pms cts g (rlm n) (n.fmod 6) (n.fdiv 6) tg tkd tm tr fe ec cS cX x dx pr dpr pa dpa oec oS oX qe doce pme cte tpp tpe) (M : Mid b rest ((qs ++ Str.ofString ".<locals>.") ++ Str.ofString "<lambda>") lv pt [srvD ps] nx) (P : PageAt w nx cG cK ((qs ++ Str.ofString ".<locals>.") ++ Str.ofString "<lambda>") y 401 (headL (n.fdiv 6) (rlm n) g 0)) (hoff : ∀ q ∈ rest, @Ne Nat q.1 lg ∧ @Ne Nat q.1 pg ∧ @Ne Nat q.1 PT ∧ @Ne Nat q.1 dx) (hne : @Ne Nat lg pg ∧ @Ne Nat lg PT ∧ @Ne Nat pg PT) (hnx : @Ne Nat dx lg ∧ @Ne Nat dx pg ∧ @Ne Nat dx PT) (hb1 : ∃ r ∈ b, r.1 = lg) (hb2 : ∃ r ∈ b, r.1 = pg) (hb3 : ∃ r ∈ b, r.1 = PT) (hb4 : ∃ r ∈ b, r.1 = dx) (hb5 : ∀ r ∈ b, r ∈ rest ∨ r.1 = lg ∨ r.1 = pg ∨ r.1 = PT ∨ r.1 = dx) (hlv : lv.length ≤ 10)
    (hrA : ∀ i : Nat, Reads (headL (n.fdiv 6) (rlm n) g i) (cliP (n.fdiv 6) (rlm n) (textL (n.fdiv 6 + i)))) (hrB : ∀ i : Nat, Reads (writtenL (ansL (rlm n) (textL (n.fdiv 6 + i)) (keyL (n.fmod 6))) g ++ [44]) (ansL (rlm n) (textL (n.fdiv 6 + i)) (keyL (n.fmod 6))))
    (hr3 : ReadsBad (headK 3 g (headL (n.fdiv 6) (rlm n) g 0)) []) (hr4 : ReadsBad (headK 4 g (headL (n.fdiv 6) (rlm n) g 0)) [61]) :
    CallC w p loose mean mg mb 63 [.ref pr, .ref x, .ref y] 40 900 ((lg, listOf lv.toArray n1) :: (pg, listOf ([] ++ [Value.ref y]).toArray n2) :: (PT, tabObj pt) :: (dx, dictOf [ent w "header" th (.str (ofL hdr) tv)] 1) :: nx) (fun v led => ¬ (n.fmod 6 = 3 ∨ n.fmod 6 = 4) ∧ FinS w b rest lg pg PT dx ((qs ++ Str.ofString ".<locals>.") ++ Str.ofString "<lambda>") (dueS n ps) (hdrF g n ps hdr) (EndV v (dueE n)) led) (fun e led => (n.fmod 6 = 3 ∨ n.fmod 6 = 4) ∧ e = clsF n ∧ FinS w b rest lg pg PT dx ((qs ++ Str.ofString ".<locals>.") ++ Str.ofString "<lambda>") (dueS n ps) (hdrF g n ps hdr) (fun _ _ => True) led) := by
  have hh0 := headL_len (mm := n.fdiv 6) Z.S.lg0 Z.S.lr0 0
  by_cases h3 : n.fmod 6 = 3
  · have hq := resp_bad (pv0 := []) (hdr := hdr) (th := th) (tv := tv) (n1 := n1) (n2 := n2) (p := p) (loose := loose) (mean := mean) (mg := mg) (mb := mb) (R := fun _ _ => False) (RX := fun _ _ => False) (cls := "ValueError") Z M P hoff hne hnx hb1 hb2 hb3 hb4 hb5 (by omega) rfl (by decide) hh0 (fun t4 led RX hx => by
      rw [h3]
      obtain ⟨q1, ws, gs, b8, q2, q3, q4, q5, q6⟩ := hr3
      rw [List.append_nil] at q3
      exact err_val q1 q2 q3 q4 q5 q6 hx (Nat.le_refl _) (Nat.le_refl _))
    refine hq.weak (by decide) (by decide) (fun _ _ h => h.elim) fun e l ⟨he, hf⟩ => ⟨.inl h3, ?_, ?_⟩
    · rw [he, clsF, if_pos h3]
    · rw [dueS, if_pos (.inl h3), hdrF, if_pos (.inl h3)]; exact hf
  by_cases h4 : n.fmod 6 = 4
  · have hq := resp_bad (pv0 := []) (hdr := hdr) (th := th) (tv := tv) (n1 := n1) (n2 := n2) (p := p) (loose := loose) (mean := mean) (mg := mg) (mb := mb) (R := fun _ _ => False) (RX := fun _ _ => False) (cls := "IndexError") Z M P hoff hne hnx hb1 hb2 hb3 hb4 hb5 (by omega) rfl (by decide) hh0 (fun t4 led RX hx => by
      rw [h4]
      obtain ⟨q1, ws, gs, b8, q2, q3, q4, q5, q6⟩ := hr4
      exact err_idx q1 q2 q3 q4 q5 q6 hx (Nat.le_refl _) (Nat.le_refl _))
    refine hq.weak (by decide) (by decide) (fun _ _ h => h.elim) fun e l ⟨he, hf⟩ => ⟨.inr h4, ?_, ?_⟩
    · rw [he, clsF, if_neg h3]
    · rw [dueS, if_pos (.inr h4), hdrF, if_pos (.inr h4)]; exact hf
  have h34 : ¬ (n.fmod 6 = 3 ∨ n.fmod 6 = 4) := fun h => h.elim h3 h4
  have hk : ∀ head, headK (n.fmod 6) g head = head := fun _ => head0 ⟨h3, h4⟩
  by_cases h2 : n.fmod 6 = 2
  · refine (resp_step (pv0 := []) (R := fun v led => FinS w b rest lg pg PT dx ((qs ++ Str.ofString ".<locals>.") ++ Str.ofString "<lambda>") (dueS n ps) (hdrF g n ps hdr) (EndV v (dueE n)) led) (nc := textL (n.fdiv 6 + ((0 : Nat) : Int))) (room := 22) (units := 520) Z M P hoff hne hnx hb1 hb2 hb3 hb4 hb5 (by omega) rfl (by decide) hh0 (by rw [hk]; exact hrA 0) (textL_len _) (textL_low _) rfl (hrB 0) (by decide) (by decide) ?_).weak (by decide) (by decide) (fun _ _ h => ⟨h34, h⟩) (fun _ _ h => h)
    intro y1 m1 m2 lv1 th1 tv1 pt1 nx1 M1 hl1 P1
    replace P1 : PageAt w nx1 cG cK ((qs ++ Str.ofString ".<locals>.") ++ Str.ofString "<lambda>") y1 401 (headL (n.fdiv 6) (rlm n) g 1) := by rw [← codeF_no (mm := n.fdiv 6) (rl := rlm n) (nc := textL (n.fdiv 6 + ((0 : Nat) : Int))) (i := 1), ← h2]; exact P1
    refine resp_step (pv0 := [] ++ [Value.ref y]) (nc := textL (n.fdiv 6 + ((1 : Nat) : Int))) (room := 8) (units := 200) Z M1 P1 hoff hne hnx hb1 hb2 hb3 hb4 hb5 (by omega) rfl (by show 1 < 2; decide) (headL_len Z.S.lg0 Z.S.lr0 _) (by rw [hk]; exact hrA 1) (textL_len _) (textL_low _) rfl (hrB 1) (by decide) (by decide) ?_
    intro y2 m3 m4 lv2 th2 tv2 pt2 nx2 M2 hl2 P2
    replace P2 : PageAt w nx2 cG cK ((qs ++ Str.ofString ".<locals>.") ++ Str.ofString "<lambda>") y2 401 (headL (n.fdiv 6) (rlm n) g 2) := by rw [← codeF_no (mm := n.fdiv 6) (rl := rlm n) (nc := textL (n.fdiv 6 + ((1 : Nat) : Int))) (i := 2), ← h2]; exact P2
    refine (resp_end (pv0 := [] ++ [Value.ref y] ++ [Value.ref y1]) Z M2 P2 hoff hne hnx hb1 hb2 hb3 hb4 hb5 (by omega) (by decide) (fun h => absurd h.2 (by show ¬ 2 < 2; decide)) (headL_len Z.S.lg0 Z.S.lr0 _) (by show 2 ≤ 2; decide)).weak (by decide) (by decide) (fun v l hf => ?_) (fun _ _ h => h)
    rw [dueS, if_neg h34, if_pos h2, hdrF, if_neg h34, dueE, if_neg h3, if_neg h4, if_pos h2, dueP, if_neg h34, if_pos h2]
    rw [h2] at hf
    exact hf
  · refine (resp_step (pv0 := []) (R := fun v led => FinS w b rest lg pg PT dx ((qs ++ Str.ofString ".<locals>.") ++ Str.ofString "<lambda>") (dueS n ps) (hdrF g n ps hdr) (EndV v (dueE n)) led) (nc := textL (n.fdiv 6 + ((0 : Nat) : Int))) (room := 8) (units := 200) Z M P hoff hne hnx hb1 hb2 hb3 hb4 hb5 (by omega) rfl (by decide) hh0 (by rw [hk]; exact hrA 0) (textL_len _) (textL_low _) rfl (hrB 0) (by decide) (by decide) ?_).weak (by decide) (by decide) (fun _ _ h => ⟨h34, h⟩) (fun _ _ h => h)
    intro y1 m1 m2 lv1 th1 tv1 pt1 nx1 M1 hl1 P1
    replace P1 : PageAt w nx1 cG cK ((qs ++ Str.ofString ".<locals>.") ++ Str.ofString "<lambda>") y1 (if n.fmod 6 = 5 then 250 + (n.fdiv 6).fmod 100 else 200) (headL (n.fdiv 6) (rlm n) g 1) := by rw [← codeF_ok (mm := n.fdiv 6) (rl := rlm n) h2]; exact P1
    have hm1 : (n.fdiv 6).fmod 100 < 100 := Int.fmod_lt_of_pos _ (by decide)
    by_cases h5 : n.fmod 6 = 5 ∧ 250 + (n.fdiv 6).fmod 100 > 299
    · rw [if_pos h5.1] at P1
      refine (resp_end (pv0 := [] ++ [Value.ref y]) Z M1 P1 hoff hne hnx hb1 hb2 hb3 hb4 hb5 (by omega) (by omega) (fun h => by have := h.1; omega) (headL_len Z.S.lg0 Z.S.lr0 _) (by show 1 ≤ 2; decide)).weak (by decide) (by decide) (fun v l hf => ?_) (fun _ _ h => h)
      rw [dueS, if_neg h34, if_neg h2, if_pos h5, hdrF, if_neg h34, dueE, if_neg h3, if_neg h4, if_neg h2, if_pos h5, dueP, if_neg h34, if_neg h2]
      have he : storyD (n.fmod 6) (n.fdiv 6) (rlm n) ps 1 = [srvD ps] ++ [htD 401] ++ [cliD (cliP (n.fdiv 6) (rlm n) (textL (n.fdiv 6 + ((0 : Nat) : Int))))] ++ [srvD (ansL (rlm n) (textL (n.fdiv 6 + ((0 : Nat) : Int))) (keyL (n.fmod 6)))] := by
        unfold storyD
        rw [show List.range 1 = [0] from rfl, List.flatMap_cons, List.flatMap_nil, stepD, if_neg h2]
        rfl
      rw [he]
      exact hf
    · have hc : 200 ≤ (if n.fmod 6 = 5 then 250 + (n.fdiv 6).fmod 100 else 200) ∧ (if n.fmod 6 = 5 then 250 + (n.fdiv 6).fmod 100 else 200) < 300 := by
        have hm0 : 0 ≤ (n.fdiv 6).fmod 100 := by rw [Int.fmod_eq_emod_of_nonneg _ (by decide)]; exact Int.emod_nonneg _ (by decide)
        split
        · rename_i h55; omega
        · decide
      refine (resp_ok (pv0 := [] ++ [Value.ref y]) Z M1 P1 hoff hne hnx hb1 hb2 hb3 hb4 hb5 hc (headL_len Z.S.lg0 Z.S.lr0 _) (by show 1 ≤ 2; decide)).weak (by decide) (by decide) (fun v l hf => ?_) (fun _ _ h => h)
      rw [dueS, if_neg h34, if_neg h2, if_neg h5, List.append_nil, hdrF, if_neg h34, dueE, if_neg h3, if_neg h4, if_neg h2, if_neg h5, dueP, if_neg h34, if_neg h2]
      have he : storyD (n.fmod 6) (n.fdiv 6) (rlm n) ps 1 = [srvD ps] ++ [htD 401] ++ [cliD (cliP (n.fdiv 6) (rlm n) (textL (n.fdiv 6 + ((0 : Nat) : Int))))] ++ [srvD (ansL (rlm n) (textL (n.fdiv 6 + ((0 : Nat) : Int))) (keyL (n.fmod 6)))] := by
        unfold storyD
        rw [show List.range 1 = [0] from rfl, List.flatMap_cons, List.flatMap_nil, stepD, if_neg h2]
        rfl
      rw [he]
      exact hf

end

end
section
open PySem PySem.W PyProof.Rows PySem.Calls PyProof.V

noncomputable def sesTry : List Stmt := (defBody sesDef).drop 12
theorem ord_fin {h₀ h : Heap} {L : Addr} {a b c d e : Addr × Obj} {rest : List (Addr × Obj)} (N : News h₀ L h (a :: b :: c :: d :: e :: rest)) : News h₀ L h (b :: d :: a :: rest) := fun q hq => N q (by
  simp only [List.mem_cons] at hq ⊢
  rcases hq with h | h | h | h
  · exact .inr (.inl h)
  · exact .inr (.inr (.inr (.inl h)))
  · exact .inl h
  · exact .inr (.inr (.inr (.inr (.inr h)))))
theorem mid_add {b rest : List (Addr × Obj)} {ql : Str} {lv : List Value} {pt : Array Value} {ds : List Dat} {nx : List (Addr × Obj)} {q : Addr × Obj} (M : Mid b rest ql lv pt ds nx) (hq : ∀ r ∈ b, @LT.lt Nat _ r.1 q.1) : Mid b rest ql lv pt ds (q :: nx) :=
  ⟨M.hE.add hq, M.hD.mono fun q hq => List.mem_cons_of_mem _ hq, M.hl.mono fun q hq => List.mem_cons_of_mem _ hq⟩
theorem is_other_r {M : Model} {A : Around} {s : Shared} {Q E : Value → Shared → Prop} {x y : Addr} {ox oy : Obj} (hxy : x ≠ y) (hx : s.heap.get? x = some ox) (hy : s.heap.get? y = some oy) (hnt : oy.cls ≠ .type "tuple")
    (h : Q (.bool false) s) : wpAny M A (compareOp .Is (.ref x) (.ref y)) Q E s := by
  show wpAny M A (do return .bool (← isSame (.ref x) (.ref y))) Q E s
  refine wpAny_bind ?_
  show wpAny M A (if (x == y) = true then pure true else _) _ E s
  rw [if_neg (by simpa using hxy)]
  refine wpAny_bind (wpAny_load hx (wpAny_bind (wpAny_load hy ?_)))
  split
  · rename_i _ h2 _ _; exact absurd h2 hnt
  · exact wpAny_pure (wpAny_pure h)
theorem news_ne {h₀ h : Heap} {L : Addr} {nx : List (Addr × Obj)} {a b : Nat} {o o' : Obj} (N : News h₀ L h nx) (h1 : (a, o) ∈ nx) (h2 : (b, o') ∈ nx) (hd : o ≠ o') : @Ne Nat a b := fun e => by
  subst e
  exact hd (Option.some.inj ((N _ h1).1.symm.trans (N _ h2).1))

section
variable {w : World} {p : Program} {loose : List Str} {mean : ExcName → Option Value} {mg mb : Str → Option Value}
  {dp un : Nat} {gd : Option (List Code)} {outer : List Env} {A₀ : Around} {base h₀ : Heap} {L : Addr} {m : Str → Option Value} {s : Shared} {Qf : Flow → Shared → Prop} {Ef : Value → Shared → Prop}

local macro_rules | `(tactic| walk_at "subscriptTail Name UnaryOp ref int") => `(tactic| (k_here; (with_reducible show wpAny _ _ (subscriptTail _ _ (Value.ref _) (Value.int _ _)) _ _ _); k_dflt (refine' last_ref ?N ?l ?z ?_ ?s ?t; (case N => k_asm); (case l => walk_at "mem_go"); (case z => omega); (case s => with_unfolding_all rfl); (case t => kmk_pure))))

theorem ses_c {fs sc PT cG cK cL cM cP cR lg pg : Nat} {ocs oG oK oL oM oP oR : Obj} {qs : Str} {docs pms cts : Value} {g : List Nat} {n : Int} {tg tkd tm tr : Tok} {fe ec cS cX x dx pr dpr pa dpa : Nat} {oec oS oX : Obj} {qe : Str} {doce pme cte : Value} {tpp tpe : Tok} {rest : List (Addr × Obj)} {n1 n2 : Nat} {pt : Array Value} {th tv th0 : Tok} {hdr : List Nat} {ps : PL}
    (hA : A₀ = { handled := none, depth := dp, frames := some outer, guards := gd, units := un }) (B : Below A₀ base outer h₀) (XB : (hd.heap_39 w.params).In base) (TB : Top p loose mean mg mb base) (KD : KtsDicts (outer.filterMap (·.frame)) h₀) (hEf : ∀ e : Nat, PassesOwnAt (model PySem.Challenge.rw_dn0255_04.row.prog w) ((A₀.deeper (envX (Str.ofString "_law_session") (defScope sesDef) L 120 (.ref 119) [(Str.ofString "realm", cR), (Str.ofString "processor", cX), (Str.ofString "pages", cP), (Str.ofString "m", cM), (Str.ofString "kind", cK), (Str.ofString "gap", cG), (Str.ofString "_law_serve", cS), (Str.ofString "log", cL)])).mark (some (.ref e))) (A₀.deeper (envX (Str.ofString "_law_session") (defScope sesDef) L 120 (.ref 119) [(Str.ofString "realm", cR), (Str.ofString "processor", cX), (Str.ofString "pages", cP), (Str.ofString "m", cM), (Str.ofString "kind", cK), (Str.ofString "gap", cG), (Str.ofString "_law_serve", cS), (Str.ofString "log", cL)])) (envX (Str.ofString "_law_session") (defScope sesDef) L 120 (.ref 119) [(Str.ofString "realm", cR), (Str.ofString "processor", cX), (Str.ofString "pages", cP), (Str.ofString "m", cM), (Str.ofString "kind", cK), (Str.ofString "gap", cG), (Str.ofString "_law_serve", cS), (Str.ofString "log", cL)]) Ef)
    (F : Fr h₀ L s.heap m) (hm : ∀ q ∈ [(Str.ofString "header", Value.str (ofL hdr) th0), (Str.ofString "request", Value.ref x)], m q.1 = some q.2) (T : Top p loose mean mg mb h₀) (hdp : dp + 60 < recursionLimit) (hun : un + 1200 < cLine)
    (Z : Ses w rest fs sc PT cG cK cL cM cP cR lg pg ocs oG oK oL oM oP oR qs docs pms cts g (rlm n) (n.fmod 6) (n.fdiv 6) tg tkd tm tr fe ec cS cX x dx pr dpr pa dpa oec oS oX qe doce pme cte tpp tpe) (hoff : ∀ q ∈ rest, @Ne Nat q.1 lg ∧ @Ne Nat q.1 pg ∧ @Ne Nat q.1 PT ∧ @Ne Nat q.1 dx) (hne : @Ne Nat lg pg ∧ @Ne Nat lg PT ∧ @Ne Nat pg PT) (hnx : @Ne Nat dx lg ∧ @Ne Nat dx pg ∧ @Ne Nat dx PT)
    (hlam : LamSt pt ((qs ++ Str.ofString ".<locals>.") ++ Str.ofString "<lambda>") rest) (hrd : Reads hdr ps) (hpl : ps.length ≤ 10) (hpo : ∀ p ∈ ps, lowP p)
    (hrA : ∀ i : Nat, Reads (headL (n.fdiv 6) (rlm n) g i) (cliP (n.fdiv 6) (rlm n) (textL (n.fdiv 6 + i)))) (hrB : ∀ i : Nat, Reads (writtenL (ansL (rlm n) (textL (n.fdiv 6 + i)) (keyL (n.fmod 6))) g ++ [44]) (ansL (rlm n) (textL (n.fdiv 6 + i)) (keyL (n.fmod 6))))
    (hr3 : ReadsBad (headK 3 g (headL (n.fdiv 6) (rlm n) g 0)) []) (hr4 : ReadsBad (headK 4 g (headL (n.fdiv 6) (rlm n) g 0)) [61])
    (N : News h₀ L s.heap ((lg, listOf [].toArray n1) :: (pg, listOf [].toArray n2) :: (PT, tabObj pt) :: (dx, dictOf [ent w "header" th (.str (ofL hdr) tv)] 1) :: rest))
    (hret : ∀ (Rt n1' : Nat) (ve : Value) (lv' : List Value) (pt' : Array Value) (t' : Tok) (nx' : List (Addr × Obj)) (g' h' : Heap) (tk' : Nat) (m' : Str → Option Value), KtsTurn (outer.filterMap (·.frame)) h₀ g' → Fr g' L h' m' → News g' L h' ((lg, listOf lv'.toArray n1') :: (PT, tabObj pt') :: nx') → Mid ((lg, listOf [].toArray n1) :: (pg, listOf [].toArray n2) :: (PT, tabObj pt) :: (dx, dictOf [ent w "header" th (.str (ofL hdr) tv)] 1) :: rest) rest ((qs ++ Str.ofString ".<locals>.") ++ Str.ofString "<lambda>") lv' pt' (dueS n ps) nx' →
      (Rt, ({ cls := .type "tuple", data := .seq #[ve, .str (ofL (hdrF g n ps hdr)) t'] } : Obj)) ∈ nx' → DatIn nx' ve (dueE n) → Qf (.ret (.ref Rt)) { s with heap := h', toks := tk' }) (X : (hd.heap_39 w.params).In h₀) :
    wpAny (model PySem.Challenge.rw_dn0255_04.row.prog w) (A₀.deeper (envX (Str.ofString "_law_session") (defScope sesDef) L 120 (.ref 119) [(Str.ofString "realm", cR), (Str.ofString "processor", cX), (Str.ofString "pages", cP), (Str.ofString "m", cM), (Str.ofString "kind", cK), (Str.ofString "gap", cG), (Str.ofString "_law_serve", cS), (Str.ofString "log", cL)])) (execs sesTry (envX (Str.ofString "_law_session") (defScope sesDef) L 120 (.ref 119) [(Str.ofString "realm", cR), (Str.ofString "processor", cX), (Str.ofString "pages", cP), (Str.ofString "m", cM), (Str.ofString "kind", cK), (Str.ofString "gap", cG), (Str.ofString "_law_serve", cS), (Str.ofString "log", cL)])) Qf Ef s := by
  revert X; k_fill; intro X
  have hKst := kstMark
  w_top off

  rw [kst_self hm] at F
  subst hA
  simp only [sesTry, sesDef, defBody, defScope, PySem.Challenge.pw_dn0255_04, List.getD_cons_zero, List.getD_cons_succ, List.drop_succ_cons, List.drop_zero]
  have hS := Z.hS
  have dS := Z.dS
  have hX := Z.hX
  have dX := Z.dX
  have hpr := Z.hpr
  have hdpr := Z.hdpr
  have hx := Z.hx
  have hP := Z.S.hP
  have dP := Z.S.dP
  repeat' ((fail_if_success (with_reducible show wpAny _ _ (exec (Stmt.Try _ _ _ _ _) _) _ _ _)); (first | (k_unfold; (try dsimp only)) | (k_end; wrow_close) | walk1 | (dsimp only; walk1) | (leave1; walk_say "STEP leave1"; try dsimp only) | fail "no step"))
  refine wpAny_Try_except ?_
  repeat' ((fail_if_success (with_reducible show wpAny _ _ (callWith _ (Value.ref fs) _ _ _) _ _ _)); (first | (k_unfold; (try dsimp only)) | (k_end; wrow_close) | walk1 | (dsimp only; walk1) | (leave1; walk_say "STEP leave1"; try dsimp only) | fail "no step"))
  k_dflt (refine callWith_F (FnAt.of (by k_asm) (List.mem_cons_of_mem _ (List.mem_cons_of_mem _ (List.mem_cons_of_mem _ (List.mem_cons_of_mem _ Z.S.hfs))))) ?_)
  repeat' ((fail_if_success (with_reducible show _ ∧ _)); (first | (k_unfold; (try dsimp only)) | (k_end; wrow_close) | walk1 | (dsimp only; walk1) | (leave1; walk_say "STEP leave1"; try dsimp only) | fail "no step"))
  refine ⟨FnAt.of (by k_asm) (List.mem_cons_of_mem _ (List.mem_cons_of_mem _ (List.mem_cons_of_mem _ (List.mem_cons_of_mem _ Z.S.hfs)))), ?_⟩
  (try dsimp only [List.nil_append, List.cons_append])
  obtain ⟨hl0, ws, gs, r1, r2, r3, r4⟩ := hrd
  (k_dflt (refine' serve_t (g := g) (rl := rlm n) (kd := n.fmod 6) (mm := n.fdiv 6) (ps := ps) (pv := []) (lv := []) ?qB7 ?qF7 ?qT7 ?qh7 ?qd7 ?qu7 Z.S hl0 r1 r2 r3 r4 hpl hpo (by decide) (by decide) hlam ?qoff7 hne hnx ?qN7 ?qr7 ?qX7; (case qh7 => rfl); (case qF7 => k_asm); (case qB7 => k_asm); (case qT7 => k_asm); (case qX7 => k_asm); (case qN7 => k_asm))); (case qd7 => ktr_room); (case qu7 => ktr_units)
  case qoff7 => exact fun q hq => ⟨(hoff q hq).1, (hoff q hq).2.1, (hoff q hq).2.2.1⟩
  intro y7 Tl n17 n27 pt7 nx h7 tk7 F7 N7 E7 P7 D7 L7
  have M7 : Mid ((lg, listOf [].toArray n1) :: (pg, listOf [].toArray n2) :: (PT, tabObj pt) :: (dx, dictOf [ent w "header" th (.str (ofL hdr) tv)] 1) :: rest) rest ((qs ++ Str.ofString ".<locals>.") ++ Str.ofString "<lambda>") [Value.ref Tl] pt7 [srvD ps] nx := ⟨E7, .cons D7 .nil, L7⟩
  replace P7 : PageAt w nx cG cK ((qs ++ Str.ofString ".<locals>.") ++ Str.ofString "<lambda>") y7 401 (headL (n.fdiv 6) (rlm n) g 0) := by
    have hc0 : codeF (n.fmod 6) (n.fdiv 6) (rlm n) ps 0 = 401 := by rw [codeF, if_neg fun h => absurd h.1 (by decide)]
    rw [← hc0]; exact P7
  clear E7 D7 L7
  repeat' ((fail_if_success (with_reducible show wpAny _ _ (call (Value.ref 63) _ _) _ _ _)); (first | (k_unfold; (try dsimp only)) | (k_end; wrow_close) | walk1 | (dsimp only; walk1) | (leave1; walk_say "STEP leave1"; try dsimp only) | fail "no step"))
  rename News _ _ _ _ => N8
  rename Fr _ _ _ _ => F8
  k_dflt (refine' (resp_top (p := p) (hdr := hdr) (n1 := n17) (n2 := n27) (th := th) (tv := tv) Z M7 P7 hoff hne hnx ⟨_, List.mem_cons_self .., rfl⟩ ⟨_, List.mem_cons_of_mem _ (List.mem_cons_self ..), rfl⟩ ⟨_, List.mem_cons_of_mem _ (List.mem_cons_of_mem _ (List.mem_cons_self ..)), rfl⟩ ⟨_, List.mem_cons_of_mem _ (List.mem_cons_of_mem _ (List.mem_cons_of_mem _ (List.mem_cons_self ..))), rfl⟩ (List.forall_mem_cons.mpr ⟨.inr (.inl rfl), List.forall_mem_cons.mpr ⟨.inr (.inr (.inl rfl)), List.forall_mem_cons.mpr ⟨.inr (.inr (.inr (.inl rfl))), List.forall_mem_cons.mpr ⟨.inr (.inr (.inr (.inr rfl))), fun r hr => .inl hr⟩⟩⟩⟩) (by show 1 ≤ 10; decide) hrA hrB hr3 hr4) ?qB8 ?qF8 ?qT8 ?qh8 ?qd8 ?qu8 N8 ?qr8 ?qe8 ?qX8; (case qh8 => rfl); (case qF8 => k_asm); (case qB8 => k_asm); (case qT8 => k_asm); (case qX8 => k_asm); (case qd8 => ((try simp only [depth_in1, depth_deeper, depth_caller]); (try dsimp only); omega)); (case qu8 => ((try simp only [units_in1, units_deeper, Around.mark_units, units_caller]); (try dsimp only); omega)))
  case qr8 =>
    intro v led' h9 tk9 hv F9 N9
    obtain ⟨h34, lv9, pv9, m1, m2, pt9, th9, tv9, nx9, y9, dy9, hsub, M9, hy9, hV, hp9⟩ := hv
    replace N9 := news_le N9 hsub
    have hP9 := M9.hE.old _ hP
    have hx9 := M9.hE.old _ hx
    clear hsub N8 F8 M7 P7
    rcases hV with ⟨rfl, hed⟩ | ⟨T9, c9, k9, u1, u2, rfl, hT9, hed⟩
    · repeat' (first | (k_unfold; (try dsimp only)) | (k_end; wrow_close) | walk1 | (dsimp only; walk1) | (leave1; walk_say "STEP leave1"; try dsimp only) | fail "no step")
      rename News _ _ _ _ => N10
      rename Fr _ _ _ _ => F10
      rename_i Rt hX1 lR
      have hBR : ∀ r ∈ (lg, listOf [].toArray n1) :: (pg, listOf [].toArray n2) :: (PT, tabObj pt) :: (dx, dictOf [ent w "header" th (.str (ofL hdr) tv)] 1) :: rest, @LT.lt Nat _ r.1 Rt := List.forall_mem_cons.mpr ⟨lR.1, List.forall_mem_cons.mpr ⟨lR.2.1, List.forall_mem_cons.mpr ⟨lR.2.2.1, List.forall_mem_cons.mpr ⟨lR.2.2.2.1, fun r hr => lt_of lR.2.2.2.2 r (M9.hE.old r hr)⟩⟩⟩⟩
      exact hret _ m1 _ lv9 pt9 _ _ h₀ _ _ _ KtsTurn.refl F10 (ord_fin N10) (mid_add M9 hBR) (List.mem_cons_self ..) (by rw [hed]; exact .str _ _)
    · have hTy : @Ne Nat T9 y9 := news_ne N9 (List.mem_cons_of_mem _ (List.mem_cons_of_mem _ (List.mem_cons_of_mem _ (List.mem_cons_of_mem _ hT9)))) (List.mem_cons_of_mem _ (List.mem_cons_of_mem _ (List.mem_cons_of_mem _ (List.mem_cons_of_mem _ hy9)))) (by unfold endT; intro h; cases h)
      repeat' ((fail_if_success (with_reducible show wpAny _ _ (compareOp CmpOp.Is (Value.ref _) _) _ _ _)); (first | (k_unfold; (try dsimp only)) | (k_end; wrow_close) | walk1 | (dsimp only; walk1) | (leave1; walk_say "STEP leave1"; try dsimp only) | fail "no step"))
      rename News _ _ _ _ => N10
      k_dflt (refine' is_other_r hTy (N10 _ (List.mem_cons_of_mem _ (List.mem_cons_of_mem _ (List.mem_cons_of_mem _ (List.mem_cons_of_mem _ hT9))))).1 (N10 _ (List.mem_cons_of_mem _ (List.mem_cons_of_mem _ (List.mem_cons_of_mem _ (List.mem_cons_of_mem _ hy9))))).1 (by intro h; cases h) ?_)
      repeat' (first | (k_unfold; (try dsimp only)) | (k_end; wrow_close) | walk1 | (dsimp only; walk1) | (leave1; walk_say "STEP leave1"; try dsimp only) | fail "no step")
      rename News _ _ _ _ => N10
      rename Fr _ _ _ _ => F10
      rename_i Rt hX1 lR
      have hBR : ∀ r ∈ (lg, listOf [].toArray n1) :: (pg, listOf [].toArray n2) :: (PT, tabObj pt) :: (dx, dictOf [ent w "header" th (.str (ofL hdr) tv)] 1) :: rest, @LT.lt Nat _ r.1 Rt := List.forall_mem_cons.mpr ⟨lR.1, List.forall_mem_cons.mpr ⟨lR.2.1, List.forall_mem_cons.mpr ⟨lR.2.2.1, List.forall_mem_cons.mpr ⟨lR.2.2.2.1, fun r hr => lt_of lR.2.2.2.2 r (M9.hE.old r hr)⟩⟩⟩⟩
      exact hret _ m1 _ lv9 pt9 _ _ h₀ _ _ _ KtsTurn.refl F10 (ord_fin N10) (mid_add M9 hBR) (List.mem_cons_self ..) (by rw [hed]; exact .tuple (vs := [_, _]) (List.mem_cons_of_mem _ hT9) (.cons (.int _ _) (.cons (.int _ _) .nil)))
  case qe8 =>
    intro e xc led' g9 h9 tk9 hv F9 R9 U9
    obtain ⟨h34, rfl, lv9, pv9, m1, m2, pt9, th9, tv9, nx9, y9, dy9, hsub, M9, hy9, hV, hp9⟩ := hv
    have hx9 := M9.hE.old _ hx
    clear N8 F8 M7 P7
    rcases h34 with h34 | h34
    · rw [show clsF n = "ValueError" from if_pos h34] at R9
      (k_dflt (refine' caughtX (s' := { s with heap := h9, toks := tk9 }) (A₀ := { handled := none, depth := dp, frames := some outer, guards := gd, units := un }) (T' := "ValueError") R9 F9 B U9 XB TB KD KtsTurn.refl ?q1 ?q2 ?q3 ?q4 ?q5 ?q6 ?_ rfl rfl (by decide) (hEf e); (case q1 => k_is); (case q2 => exact PyProof.Rows.Boot.«ValueError»); (case q3 => decide); (case q4 => rw [isSubtype_type]; kernel_rfl); (case q5 => rw [isSubtype_type]; kernel_rfl); (case q6 => rw [isSubtype_type]; kernel_rfl)))
      intro h4 g4 T4 F4 N4 B4 X4 P4 D4
      replace N4 := news_le N4 hsub
      repeat' (first | (k_unfold; (try dsimp only)) | (k_end; wrow_close) | walk1 | (dsimp only; walk1) | (leave1; walk_say "STEP leave1"; try dsimp only) | fail "no step")
      rename News _ _ _ _ => N10
      rename Fr _ _ _ _ => F10
      rename_i Rt hX1 lR
      have hBR : ∀ r ∈ (lg, listOf [].toArray n1) :: (pg, listOf [].toArray n2) :: (PT, tabObj pt) :: (dx, dictOf [ent w "header" th (.str (ofL hdr) tv)] 1) :: rest, @LT.lt Nat _ r.1 Rt := List.forall_mem_cons.mpr ⟨lR.1, List.forall_mem_cons.mpr ⟨lR.2.1, List.forall_mem_cons.mpr ⟨lR.2.2.1, List.forall_mem_cons.mpr ⟨lR.2.2.2.1, fun r hr => lt_of lR.2.2.2.2 r (M9.hE.old r hr)⟩⟩⟩⟩
      exact hret _ m1 _ lv9 pt9 _ _ g4 _ _ _ T4 F10 (ord_fin N10) (mid_add M9 hBR) (List.mem_cons_self ..) (by rw [dueE, if_pos h34]; exact .str _ _)
    · have h3n : n.fmod 6 ≠ 3 := by omega
      rw [show clsF n = "IndexError" from if_neg h3n] at R9
      (k_dflt (refine' caughtX2 (s' := { s with heap := h9, toks := tk9 }) (A₀ := { handled := none, depth := dp, frames := some outer, guards := gd, units := un }) (T₁ := "ValueError") (T' := "IndexError") R9 F9 B U9 XB TB KD KtsTurn.refl ?p1 ?p2 ?p3 ?p4 ?p5 ?p6 ?q1 ?q2 ?q3 ?q4 ?q5 ?q6 ?_ rfl rfl rfl (by decide) (by decide) (hEf e); (case p1 => k_is); (case p2 => exact PyProof.Rows.Boot.«ValueError»); (case p3 => decide); (case p4 => rw [isSubtype_type]; kernel_rfl); (case p5 => rw [isSubtype_type]; kernel_rfl); (case p6 => rw [isSubtype_type]; kernel_rfl); (case q1 => k_is); (case q2 => exact PyProof.Rows.Boot.«IndexError»); (case q3 => decide); (case q4 => rw [isSubtype_type]; kernel_rfl); (case q5 => rw [isSubtype_type]; kernel_rfl); (case q6 => rw [isSubtype_type]; kernel_rfl)))
      intro h4 g4 T4 F4 N4 B4 X4 P4 D4
      replace N4 := news_le N4 hsub
      repeat' (first | (k_unfold; (try dsimp only)) | (k_end; wrow_close) | walk1 | (dsimp only; walk1) | (leave1; walk_say "STEP leave1"; try dsimp only) | fail "no step")
      rename News _ _ _ _ => N10
      rename Fr _ _ _ _ => F10
      rename_i Rt hX1 lR
      have hBR : ∀ r ∈ (lg, listOf [].toArray n1) :: (pg, listOf [].toArray n2) :: (PT, tabObj pt) :: (dx, dictOf [ent w "header" th (.str (ofL hdr) tv)] 1) :: rest, @LT.lt Nat _ r.1 Rt := List.forall_mem_cons.mpr ⟨lR.1, List.forall_mem_cons.mpr ⟨lR.2.1, List.forall_mem_cons.mpr ⟨lR.2.2.1, List.forall_mem_cons.mpr ⟨lR.2.2.2.1, fun r hr => lt_of lR.2.2.2.2 r (M9.hE.old r hr)⟩⟩⟩⟩
      exact hret _ m1 _ lv9 pt9 _ _ g4 _ _ _ T4 F10 (ord_fin N10) (mid_add M9 hBR) (List.mem_cons_self ..) (by rw [dueE, if_neg h3n, if_pos h34]; exact .str _ _)

end

end
section
open PySem PySem.W PyProof.Rows PySem.Calls PyProof.V

section
variable {w : World} {p : Program} {loose : List Str} {mean : ExcName → Option Value} {mg mb : Str → Option Value}
  {dp un : Nat} {gd : Option (List Code)} {cn : Str} {cs : Scope} {a : Addr} {ccd : Value} {cl : List (Str × Addr)} {outer : List Env} {A₀ : Around} {base h₀ : Heap} {L : Addr} {m : Str → Option Value} {s : Shared} {Q E : Value → Shared → Prop}

theorem addp_t {pr dpr pa : Nat} {rest : List (Addr × Obj)} (B : Below A₀ base outer h₀) (F : Fr h₀ L s.heap m) (T : Top p loose mean mg mb h₀) (hk : cs.kind = .function) (hdp : dp + 1 < recursionLimit) (hun : un + 16 < cLine)
    (hpr : (pr, instObj 66 dpr) ∈ rest) (hoff : ∀ q ∈ rest, @Ne Nat q.1 dpr) (N : News h₀ L s.heap ((dpr, dictOf [] 0) :: rest))
    (hret : ∀ (tp : Tok) (h' : Heap) (tk' : Nat), Fr h₀ L h' m → News h₀ L h' ((dpr, dictOf [ent w "parent" tp (.ref pa)] 1) :: rest) → Q .none { s with heap := h', toks := tk' }) (X : (hd.heap_39 w.params).In h₀) :
    wpAny (model PySem.Challenge.rw_dn0255_04.row.prog w) (ktrTop dp un gd cn cs L a ccd cl outer) (call (.ref 28) [.ref pr, .ref pa]) Q E s := by
  revert X; k_fill; intro X
  have hKst := kstMark
  w_top off

  have wD := ownOff_of hoff
  (refine wpAny_call ?_; k_dflt (refine' code_def (binds := [(Str.ofString "self", .ref pr), (Str.ofString "parent", .ref pa)]) B F X N T rfl rfl hk ?k6 ?k7 ?k8 ?k9 ?kB ?_ ?c2 ?c3 ?c4 ?c5; (case k6 => k_is); (case k7 => k_is); (case k8 => ktr_room); (case k9 => exact BindsTo.of_eq rfl); (case c5 => decide); (case kB => exact locs rfl); (case c2 => exact rfl); (case c3 => exact rfl); (case c4 => exact rfl); k_whole; intro g' L' h' FG' F' N' B' X' T'; (try dsimp only); (try k_lift B'); (try k_fold)))
  repeat' (first | (k_unfold; (try dsimp only)) | (k_end; wrow_close) | walk1 | (dsimp only; walk1) | (leave1; walk_say "STEP leave1"; try dsimp only) | fail "no step")
  rename News _ _ _ _ => N7
  rename Fr _ _ _ _ => F7
  exact hret _ _ _ F7 N7

end

end
section
open PySem PySem.W PyProof.Rows PySem.Calls PyProof.V

noncomputable def sesErr : List Stmt := (defBody sesDef).drop 9
abbrev posE : Pos := ⟨99, 4, 107, 71⟩
abbrev posS : Pos := ⟨84, 4, 97, 19⟩
abbrev QE : Str := (Str.ofString "_law_session" ++ Str.ofString ".<locals>.") ++ Str.ofString "_law_error"

section
variable {w : World} {p : Program} {loose : List Str} {mean : ExcName → Option Value} {mg mb : Str → Option Value}
  {dp un : Nat} {gd : Option (List Code)} {outer : List Env} {A₀ : Around} {base h₀ : Heap} {L : Addr} {m : Str → Option Value} {s : Shared} {Qf : Flow → Shared → Prop} {Ef : Value → Shared → Prop}

theorem ses_b2 {fs sc PT cG cK cL cM cP cR lg pg : Nat} {ocs oG oK oL oM oP oR : Obj} {qs : Str} {docs pms cts : Value} {g : List Nat} {n : Int} {tg tkd tm tr : Tok} {cS cX x dx pr dpr pa dpa : Nat} {oS oX : Obj} {rest : List (Addr × Obj)} {n1 n2 : Nat} {tb pt : Array Value} {th tv th0 : Tok} {hdr : List Nat} {ps : PL}
    (hA : A₀ = { handled := none, depth := dp, frames := some outer, guards := gd, units := un }) (B : Below A₀ base outer h₀) (XB : (hd.heap_39 w.params).In base) (TB : Top p loose mean mg mb base) (KD : KtsDicts (outer.filterMap (·.frame)) h₀) (hEf : ∀ e : Nat, PassesOwnAt (model PySem.Challenge.rw_dn0255_04.row.prog w) ((A₀.deeper (envX (Str.ofString "_law_session") (defScope sesDef) L 120 (.ref 119) [(Str.ofString "realm", cR), (Str.ofString "processor", cX), (Str.ofString "pages", cP), (Str.ofString "m", cM), (Str.ofString "kind", cK), (Str.ofString "gap", cG), (Str.ofString "_law_serve", cS), (Str.ofString "log", cL)])).mark (some (.ref e))) (A₀.deeper (envX (Str.ofString "_law_session") (defScope sesDef) L 120 (.ref 119) [(Str.ofString "realm", cR), (Str.ofString "processor", cX), (Str.ofString "pages", cP), (Str.ofString "m", cM), (Str.ofString "kind", cK), (Str.ofString "gap", cG), (Str.ofString "_law_serve", cS), (Str.ofString "log", cL)])) (envX (Str.ofString "_law_session") (defScope sesDef) L 120 (.ref 119) [(Str.ofString "realm", cR), (Str.ofString "processor", cX), (Str.ofString "pages", cP), (Str.ofString "m", cM), (Str.ofString "kind", cK), (Str.ofString "gap", cG), (Str.ofString "_law_serve", cS), (Str.ofString "log", cL)]) Ef)
    (F : Fr h₀ L s.heap m) (hm : ∀ q ∈ [(Str.ofString "header", Value.str (ofL hdr) th0), (Str.ofString "request", Value.ref x), (Str.ofString "parent", Value.ref pa)], m q.1 = some q.2) (T : Top p loose mean mg mb h₀) (hdp : dp + 60 < recursionLimit) (hun : un + 1200 < cLine) (hC : CodeHd h₀ 119 115)
    (S : Srv rest fs sc PT cG cK cL cM cP cR lg pg ocs oG oK oL oM oP oR qs docs pms cts g (rlm n) (n.fmod 6) (n.fdiv 6) tg tkd tm tr) (hS : (cS, oS) ∈ rest) (dS : oS.data = .cell (some (.ref fs))) (hX : (cX, oX) ∈ rest) (dX : oX.data = .cell (some (.ref pr))) (hpr : (pr, instObj 66 dpr) ∈ rest) (hpa : (pa, instObj 45 dpa) ∈ rest) (hx : (x, instObj 45 dx) ∈ rest)
    (htb : TriplesOk tb.toList) (hst : codeAmong posE tb.toList = none ∨ ∃ ec oec, codeAmong posE tb.toList = some (.ref ec) ∧ (ec, oec) ∈ rest ∧ CodeQ oec QE)
    (hlam : LamSt pt ((qs ++ Str.ofString ".<locals>.") ++ Str.ofString "<lambda>") rest) (hrd : Reads hdr ps) (hpl : ps.length ≤ 10) (hpo : ∀ p ∈ ps, lowP p)
    (hrA : ∀ i : Nat, Reads (headL (n.fdiv 6) (rlm n) g i) (cliP (n.fdiv 6) (rlm n) (textL (n.fdiv 6 + i)))) (hrB : ∀ i : Nat, Reads (writtenL (ansL (rlm n) (textL (n.fdiv 6 + i)) (keyL (n.fmod 6))) g ++ [44]) (ansL (rlm n) (textL (n.fdiv 6 + i)) (keyL (n.fmod 6))))
    (hr3 : ReadsBad (headK 3 g (headL (n.fdiv 6) (rlm n) g 0)) []) (hr4 : ReadsBad (headK 4 g (headL (n.fdiv 6) (rlm n) g 0)) [61])
    (hoff : ∀ q ∈ rest, @Ne Nat q.1 lg ∧ @Ne Nat q.1 115 ∧ @Ne Nat q.1 PT ∧ @Ne Nat q.1 pg ∧ @Ne Nat q.1 dx ∧ @Ne Nat q.1 dpr ∧ @Ne Nat q.1 dpa)
    (hne : @Ne Nat lg 115 ∧ @Ne Nat lg PT ∧ @Ne Nat 115 PT ∧ @Ne Nat PT pg ∧ @Ne Nat PT dx ∧ @Ne Nat PT dpr ∧ @Ne Nat PT dpa) (hlt : @LT.lt Nat _ lg dx ∧ @LT.lt Nat _ 115 dx ∧ @LT.lt Nat _ dx dpr ∧ @LT.lt Nat _ dpr dpa ∧ @LT.lt Nat _ dpa pg)
    (N : News h₀ L s.heap ((lg, listOf [].toArray n1) :: (115, tabObj tb) :: (PT, tabObj pt) :: (pg, listOf [].toArray n2) :: (dx, dictOf [ent w "header" th (.str (ofL hdr) tv)] 1) :: (dpr, dictOf [] 0) :: (dpa, dictOf [] 0) :: rest))
    (hret : ∀ (Rt n1' : Nat) (ve : Value) (lv' : List Value) (tb' pt' : Array Value) (t' : Tok) (ec : Nat) (oec : Obj) (rest' nx' : List (Addr × Obj)) (b : List (Addr × Obj)) (g' h' : Heap) (tk' : Nat) (m' : Str → Option Value), KtsTurn (outer.filterMap (·.frame)) h₀ g' → Fr g' L h' m' → News g' L h' ((lg, listOf lv'.toArray n1') :: (PT, tabObj pt') :: nx') → (∀ q ∈ rest, q ∈ rest') → (∀ q ∈ rest', q ∈ rest ∨ q.1 = 115 ∨ q.1 = dpr ∨ q.1 = dpa ∨ ∀ r ∈ (lg, listOf [].toArray n1) :: (115, tabObj tb) :: (PT, tabObj pt) :: (pg, listOf [].toArray n2) :: (dx, dictOf [ent w "header" th (.str (ofL hdr) tv)] 1) :: (dpr, dictOf [] 0) :: (dpa, dictOf [] 0) :: rest, @LT.lt Nat _ r.1 q.1) → (∀ r ∈ (lg, listOf [].toArray n1) :: (115, tabObj tb) :: (PT, tabObj pt) :: (pg, listOf [].toArray n2) :: (dx, dictOf [ent w "header" th (.str (ofL hdr) tv)] 1) :: (dpr, dictOf [] 0) :: (dpa, dictOf [] 0) :: rest, ∃ r' ∈ b, r'.1 = r.1) → Mid b rest' ((qs ++ Str.ofString ".<locals>.") ++ Str.ofString "<lambda>") lv' pt' (dueS n ps) nx' →
      (115, tabObj tb') ∈ rest' → TriplesOk tb'.toList → codeAmong posE tb'.toList = some (.ref ec) → (ec, oec) ∈ rest' → CodeQ oec QE → (∀ q : Pos, (posE.line ≠ q.line ∨ posE.col ≠ q.col) → codeAmong q tb'.toList = codeAmong q tb.toList) →
      (Rt, ({ cls := .type "tuple", data := .seq #[ve, .str (ofL (hdrF g n ps hdr)) t'] } : Obj)) ∈ nx' → DatIn nx' ve (dueE n) → Qf (.ret (.ref Rt)) { s with heap := h', toks := tk' }) (X : (hd.heap_39 w.params).In h₀) :
    wpAny (model PySem.Challenge.rw_dn0255_04.row.prog w) (A₀.deeper (envX (Str.ofString "_law_session") (defScope sesDef) L 120 (.ref 119) [(Str.ofString "realm", cR), (Str.ofString "processor", cX), (Str.ofString "pages", cP), (Str.ofString "m", cM), (Str.ofString "kind", cK), (Str.ofString "gap", cG), (Str.ofString "_law_serve", cS), (Str.ofString "log", cL)])) (execs sesErr (envX (Str.ofString "_law_session") (defScope sesDef) L 120 (.ref 119) [(Str.ofString "realm", cR), (Str.ofString "processor", cX), (Str.ofString "pages", cP), (Str.ofString "m", cM), (Str.ofString "kind", cK), (Str.ofString "gap", cG), (Str.ofString "_law_serve", cS), (Str.ofString "log", cL)])) Qf Ef s := by
  revert X; k_fill; intro X
  have hKst := kstMark
  w_top off

  rw [kst_self hm] at F
  subst hA
  rw [show sesErr = (defBody sesDef).getD 9 default :: (defBody sesDef).getD 10 default :: (defBody sesDef).getD 11 default :: sesTry from rfl]
  simp only [sesErr, errDef, sesDef, defBody, defScope, PySem.Challenge.pw_dn0255_04, List.getD_cons_zero, List.getD_cons_succ, List.drop_succ_cons, List.drop_zero]
  repeat' ((fail_if_success (with_reducible show wpAny _ _ (exec (Stmt.FunctionDef _ _ _ _ _ _ _ _ _ _) _) _ _ _)); (first | (k_unfold; (try dsimp only)) | (k_end; wrow_close) | walk1 | (dsimp only; walk1) | (leave1; walk_say "STEP leave1"; try dsimp only) | fail "no step"))
  obtain ⟨ne1, ne2, ne3, ne4, ne5, ne6, ne7⟩ := hne
  obtain ⟨lt1, lt2, lt3, lt4, lt5⟩ := hlt
  k_dflt (refine' nestDef_K ?d0 ?k0 ?a0 ?_; (case d0 => exact rfl); (case k0 => exact rfl); (case a0 => exact rfl))
  have N1 : News h₀ L s.heap ((115, tabObj tb) :: ((lg, listOf [].toArray n1) :: (PT, tabObj pt) :: (pg, listOf [].toArray n2) :: (dx, dictOf [ent w "header" th (.str (ofL hdr) tv)] 1) :: (dpr, dictOf [] 0) :: (dpa, dictOf [] 0) :: rest)) := news_le N (by walk_at "led_sub")
  refine nest_any F N1 T (hC.keeps F.keep) rfl ?offE htb (hst.imp id fun ⟨e1, _, h, _⟩ => ⟨e1, h⟩) rfl ?_
  case offE =>
    exact List.forall_mem_cons.mpr ⟨ne1, List.forall_mem_cons.mpr ⟨Ne.symm ne3, List.forall_mem_cons.mpr ⟨Nat.ne_of_gt (by omega), List.forall_mem_cons.mpr ⟨Nat.ne_of_gt (by omega), List.forall_mem_cons.mpr ⟨Nat.ne_of_gt (by omega), List.forall_mem_cons.mpr ⟨Nat.ne_of_gt (by omega), fun q hq => (hoff q hq).2.1⟩⟩⟩⟩⟩⟩
  intro fe ec ctv doc tb' new h5 tk5 F5 N5 hn5 ht5 ha5 ho5 hd5 hl5
  obtain ⟨oec, hec, hqe⟩ : ∃ oec, (ec, oec) ∈ new ++ rest ∧ CodeQ oec QE := by
    rcases hd5 with ⟨h1, rfl⟩ | ⟨oc, P', h1, rfl, h2, _⟩
    · rcases hst with h | ⟨e1, o1, h, hm1, hq1⟩
      · rw [h] at h1; cases h1
      · rw [h] at h1; cases h1; exact ⟨o1, hm1, hq1⟩
    · exact ⟨oc, List.mem_cons_self .., h2⟩
  have lf5 : @LT.lt Nat _ pg fe := hl5 (pg, listOf [].toArray n2) (by walk_at "mem_go")
  have ln5 : ∀ q ∈ new, @LT.lt Nat _ pg q.1 := fun q hq => hn5 q hq (pg, listOf [].toArray n2) (by walk_at "mem_go")
  have hln : ∀ q ∈ new, ∀ r ∈ (lg, listOf [].toArray n1) :: (115, tabObj tb) :: (PT, tabObj pt) :: (pg, listOf [].toArray n2) :: (dx, dictOf [ent w "header" th (.str (ofL hdr) tv)] 1) :: (dpr, dictOf [] 0) :: (dpa, dictOf [] 0) :: rest, @LT.lt Nat _ r.1 q.1 := fun q hq r hr => hn5 q hq r (led_mid (pre := [_, _, _, _, _, _, _]) (by walk_at "led_sub") (fun q hq => by walk_at "mem_go") r hr)
  have hlf : ∀ r ∈ (lg, listOf [].toArray n1) :: (115, tabObj tb) :: (PT, tabObj pt) :: (pg, listOf [].toArray n2) :: (dx, dictOf [ent w "header" th (.str (ofL hdr) tv)] 1) :: (dpr, dictOf [] 0) :: (dpa, dictOf [] 0) :: rest, @LT.lt Nat _ r.1 fe := by
    intro r hr
    simp only [List.mem_cons] at hr
    rcases hr with rfl | rfl | rfl | rfl | rfl | rfl | rfl | hr
    · exact hl5 (lg, listOf [].toArray n1) (by walk_at "mem_go")
    · exact hl5 (115, tabObj tb) (by walk_at "mem_go")
    · exact hl5 (PT, tabObj pt) (by walk_at "mem_go")
    · exact lf5
    · exact hl5 (dx, dictOf [ent w "header" th (.str (ofL hdr) tv)] 1) (by walk_at "mem_go")
    · exact hl5 (dpr, dictOf [] 0) (by walk_at "mem_go")
    · exact hl5 (dpa, dictOf [] 0) (by walk_at "mem_go")
    · exact hl5 r (by walk_at "mem_go")
  obtain ⟨oF, hoF⟩ : ∃ o, o = errFn QE cS cG cK cL cP cX doc ((mg "__name__").getD .none) ec ctv := ⟨_, rfl⟩
  replace N5 : News h₀ L h5 ((fe, oF) :: (115, tabObj tb') :: (new ++ ((lg, listOf [].toArray n1) :: (PT, tabObj pt) :: (pg, listOf [].toArray n2) :: (dx, dictOf [ent w "header" th (.str (ofL hdr) tv)] 1) :: (dpr, dictOf [] 0) :: (dpa, dictOf [] 0) :: rest))) := by rw [hoF]; exact N5
  obtain ⟨rest3, hr3⟩ : ∃ r, r = (fe, oF) :: (115, tabObj tb') :: (new ++ rest) := ⟨_, rfl⟩
  have h3 : ∀ q ∈ rest, q ∈ rest3 := fun q hq => by rw [hr3]; exact List.mem_cons_of_mem _ (List.mem_cons_of_mem _ (List.mem_append_right _ hq))
  have h3b : ∀ q ∈ rest3, q ∈ rest ∨ q.1 = 115 ∨ ∀ r ∈ (lg, listOf [].toArray n1) :: (115, tabObj tb) :: (PT, tabObj pt) :: (pg, listOf [].toArray n2) :: (dx, dictOf [ent w "header" th (.str (ofL hdr) tv)] 1) :: (dpr, dictOf [] 0) :: (dpa, dictOf [] 0) :: rest, @LT.lt Nat _ r.1 q.1 := by
    rw [hr3]
    intro q hq
    rcases List.mem_cons.mp hq with rfl | hq
    · exact .inr (.inr hlf)
    · rcases List.mem_cons.mp hq with rfl | hq
      · exact .inr (.inl rfl)
      · rcases List.mem_append.mp hq with hq | hq
        · exact .inr (.inr (hln q hq))
        · exact .inl hq
  have hoff3 : ∀ q ∈ rest3, @Ne Nat q.1 lg ∧ @Ne Nat q.1 PT ∧ @Ne Nat q.1 pg ∧ @Ne Nat q.1 dx ∧ @Ne Nat q.1 dpr ∧ @Ne Nat q.1 dpa := fun q hq => by
    rcases h3b q hq with h | h | h
    · exact ⟨(hoff q h).1, (hoff q h).2.2.1, (hoff q h).2.2.2.1, (hoff q h).2.2.2.2.1, (hoff q h).2.2.2.2.2.1, (hoff q h).2.2.2.2.2.2⟩
    · rw [h]; exact ⟨Ne.symm ne1, ne3, Nat.ne_of_lt (by omega), Nat.ne_of_lt (by omega), Nat.ne_of_lt (by omega), Nat.ne_of_lt (by omega)⟩
    · exact ⟨Nat.ne_of_gt (h _ (List.mem_cons_self ..)), Nat.ne_of_gt (h (PT, tabObj pt) (by walk_at "mem_go")), Nat.ne_of_gt (h (pg, listOf [].toArray n2) (by walk_at "mem_go")), Nat.ne_of_gt (h (dx, dictOf [ent w "header" th (.str (ofL hdr) tv)] 1) (by walk_at "mem_go")), Nat.ne_of_gt (h (dpr, dictOf [] 0) (by walk_at "mem_go")), Nat.ne_of_gt (h (dpa, dictOf [] 0) (by walk_at "mem_go"))⟩
  have wE : OwnOff rest3 [dpa, dpr] := fun p hp b hb => by
    rcases List.mem_cons.mp hb with rfl | hb
    · exact (hoff3 p hp).2.2.2.2.2
    · rw [List.mem_singleton.mp hb]; exact (hoff3 p hp).2.2.2.2.1
  have N6 : News h₀ L h5 ((lg, listOf [].toArray n1) :: (PT, tabObj pt) :: (pg, listOf [].toArray n2) :: (dx, dictOf [ent w "header" th (.str (ofL hdr) tv)] 1) :: (dpr, dictOf [] 0) :: (dpa, dictOf [] 0) :: rest3) := news_le N5 (led_mid (pre := [_, _, _, _, _, _]) (by walk_at "led_sub") (by
    rw [hr3]
    intro q hq
    rcases List.mem_cons.mp hq with rfl | hq
    · walk_at "mem_go"
    · rcases List.mem_cons.mp hq with rfl | hq
      · walk_at "mem_go"
      · rcases List.mem_append.mp hq with hq | hq
        · walk_at "mem_go"
        · walk_at "mem_go"))
  have hfe3 : (fe, errFn QE cS cG cK cL cP cX doc ((mg "__name__").getD .none) ec ctv) ∈ rest3 := by rw [hr3, hoF]; exact List.mem_cons_self ..
  have hec3 : (ec, oec) ∈ rest3 := by rw [hr3]; exact List.mem_cons_of_mem _ (List.mem_cons_of_mem _ (by
    rcases List.mem_append.mp hec with h | h
    · exact List.mem_append_left _ h
    · exact List.mem_append_right _ h))
  have htb3 : (115, tabObj tb') ∈ rest3 := by rw [hr3]; exact List.mem_cons_of_mem _ (List.mem_cons_self ..)
  have hX3 := h3 _ hX
  have hpr3 := h3 _ hpr
  have hpa3 := h3 _ hpa
  clear hr3 N5 N1 hl5 hn5 hln hlf hd5 hec N F hoF
  repeat' ((fail_if_success (with_reducible show wpAny _ _ (call (Value.ref 28) _ _) _ _ _)); (first | (k_unfold; (try dsimp only)) | (k_end; wrow_close) | walk1 | (dsimp only; walk1) | (leave1; walk_say "STEP leave1"; try dsimp only) | fail "no step"))
  rename News _ _ _ _ => N7
  rename Fr _ _ _ _ => F7
  k_dflt (refine' addp_t (dpr := dpr) (rest := (lg, listOf [].toArray n1) :: (PT, tabObj pt) :: (pg, listOf [].toArray n2) :: (dx, dictOf [ent w "header" th (.str (ofL hdr) tv)] 1) :: (dpa, dictOf _ 1) :: rest3) ?qB8 ?qF8 ?qT8 ?qh8 ?qd8 ?qu8 ?qp8 ?qo8 ?qN8 ?qr8 ?qX8; (case qh8 => rfl); (case qF8 => k_asm); (case qB8 => k_asm); (case qT8 => k_asm); (case qX8 => k_asm); (case qd8 => ((try simp only [depth_in1, depth_deeper, depth_caller]); (try dsimp only); omega)); (case qu8 => ((try simp only [units_in1, units_deeper, Around.mark_units, units_caller]); (try dsimp only); omega)); (case qN8 => exact news_le N7 (led_mid (pre := [_, _, _, _, _, _]) (by walk_at "led_sub") (fun q hq => by walk_at "mem_go"))))
  case qp8 => walk_at "mem_go"
  case qo8 => exact List.forall_mem_cons.mpr ⟨Nat.ne_of_lt (by omega), List.forall_mem_cons.mpr ⟨ne6, List.forall_mem_cons.mpr ⟨Nat.ne_of_gt (by omega), List.forall_mem_cons.mpr ⟨Nat.ne_of_lt (by omega), List.forall_mem_cons.mpr ⟨Nat.ne_of_gt (by omega), fun q hq => (hoff3 q hq).2.2.2.2.1⟩⟩⟩⟩⟩
  intro tp8 h8 tk8 F8 N8
  clear F7 N7
  repeat' ((fail_if_success (with_reducible show wpAny _ _ (execs sesTry _) _ _ _)); (first | (k_unfold; (try dsimp only)) | (k_end; wrow_close) | walk1 | (dsimp only; walk1) | (leave1; walk_say "STEP leave1"; try dsimp only) | fail "no step"))
  rename News _ _ _ _ => N9
  rename Fr _ _ _ _ => F9
  have h4 : ∀ {a b : Addr × Obj}, ∀ q ∈ rest3, q ∈ a :: b :: rest3 := fun q hq => List.mem_cons_of_mem _ (List.mem_cons_of_mem _ hq)
  refine ses_c (th0 := th0) (rest := _ :: _ :: rest3) (lg := lg) (pg := pg) (PT := PT) (dx := dx) (hdr := hdr) (n1 := n1) (n2 := n2) (pt := pt) rfl B XB TB KD hEf F9 ?hm9 T hdp hun { S := S.mono fun q hq => h4 _ (h3 _ hq), hfe := h4 _ hfe3, hec := h4 _ hec3, hqe := hqe, hS := h4 _ (h3 _ hS), dS := dS, hX := h4 _ hX3, dX := dX, hpr := h4 _ hpr3, hdpr := List.mem_cons_self .., hpa := h4 _ hpa3, hdpa := List.mem_cons_of_mem _ (List.mem_cons_self ..), hx := h4 _ (h3 _ hx) } ?hoff9 ⟨Nat.ne_of_lt (by omega), ne2, Ne.symm ne4⟩ ⟨Nat.ne_of_gt (by omega), Nat.ne_of_lt (by omega), Ne.symm ne5⟩ (hlam.mono fun q hq => h4 _ (h3 _ hq)) hrd hpl hpo hrA hrB hr3 hr4 (news_le N9 (led_mid (pre := [_, _, _, _, _, _]) (by walk_at "led_sub") (fun q hq => by walk_at "mem_go"))) ?hret9 X
  case hm9 => simp only [List.forall_mem_cons]; exact ⟨rfl, rfl, fun _ h => nomatch h⟩
  case hoff9 => exact List.forall_mem_cons.mpr ⟨⟨Nat.ne_of_gt (by omega), Nat.ne_of_lt (by omega), Ne.symm ne6, Nat.ne_of_gt (by omega)⟩, List.forall_mem_cons.mpr ⟨⟨Nat.ne_of_gt (by omega), Nat.ne_of_lt (by omega), Ne.symm ne7, Nat.ne_of_gt (by omega)⟩, fun q hq => ⟨(hoff3 q hq).1, (hoff3 q hq).2.2.1, (hoff3 q hq).2.1, (hoff3 q hq).2.2.2.1⟩⟩⟩
  case hret9 =>
    intro Rt n1' ve lv' pt' t' nx' g' h' tk' m' KT FE NE M hR hD
    refine hret Rt n1' ve lv' tb' pt' t' ec oec _ nx' _ g' h' tk' m' KT FE NE (fun q hq => h4 _ (h3 _ hq)) ?_ ?_ M (h4 _ htb3) ht5 ha5 (h4 _ hec3) hqe ho5 hR hD
    · exact List.forall_mem_cons.mpr ⟨.inr (.inr (.inl rfl)), List.forall_mem_cons.mpr ⟨.inr (.inr (.inr (.inl rfl))), fun q hq => by
        rcases h3b q hq with h | h | h
        · exact .inl h
        · exact .inr (.inl h)
        · exact .inr (.inr (.inr (.inr h)))⟩⟩
    · intro r hr
      simp only [List.mem_cons] at hr
      rcases hr with rfl | rfl | rfl | rfl | rfl | rfl | rfl | hr
      · exact ⟨_, List.mem_cons_self .., rfl⟩
      · exact ⟨_, List.mem_cons_of_mem _ (List.mem_cons_of_mem _ (List.mem_cons_of_mem _ (List.mem_cons_of_mem _ (h4 _ htb3)))), rfl⟩
      · exact ⟨_, List.mem_cons_of_mem _ (List.mem_cons_of_mem _ (List.mem_cons_self ..)), rfl⟩
      · exact ⟨_, List.mem_cons_of_mem _ (List.mem_cons_self ..), rfl⟩
      · exact ⟨_, List.mem_cons_of_mem _ (List.mem_cons_of_mem _ (List.mem_cons_of_mem _ (List.mem_cons_self ..))), rfl⟩
      · exact ⟨_, List.mem_cons_of_mem _ (List.mem_cons_of_mem _ (List.mem_cons_of_mem _ (List.mem_cons_of_mem _ (List.mem_cons_self ..)))), rfl⟩
      · exact ⟨_, List.mem_cons_of_mem _ (List.mem_cons_of_mem _ (List.mem_cons_of_mem _ (List.mem_cons_of_mem _ (List.mem_cons_of_mem _ (List.mem_cons_self ..))))), rfl⟩
      · exact ⟨r, List.mem_cons_of_mem _ (List.mem_cons_of_mem _ (List.mem_cons_of_mem _ (List.mem_cons_of_mem _ (h4 _ (h3 _ hr))))), rfl⟩

end

end
section
open PySem PySem.W PyProof.Rows PySem.Calls PyProof.V

noncomputable def sesSrv : List Stmt := (defBody sesDef).drop 8
abbrev QS : Str := (Str.ofString "_law_session" ++ Str.ofString ".<locals>.") ++ Str.ofString "_law_serve"
/-- the tables once both functions' code is known -/
inductive TabK (tb pt : Array Value) (PT : Nat) (nx : List (Addr × Obj)) : Prop
  | mk (sc ec : Nat) (ocs oec : Obj) (ht : TriplesOk tb.toList) (h1 : codeAmong posS tb.toList = some (.ref sc)) (h2 : (sc, ocs) ∈ nx) (h3 : CodeQ ocs QS) (h4 : CodeOb ocs sc PT) (h5 : codeAmong posE tb.toList = some (.ref ec)) (h6 : (ec, oec) ∈ nx) (h7 : CodeQ oec QE) (h8 : LamSt pt ((QS ++ Str.ofString ".<locals>.") ++ Str.ofString "<lambda>") nx) : TabK tb pt PT nx
theorem TabK.mono {tb pt : Array Value} {PT : Nat} {nx nx' : List (Addr × Obj)} (h : TabK tb pt PT nx) (hs : ∀ q ∈ nx, q ∈ nx') : TabK tb pt PT nx' := by
  obtain ⟨sc, ec, ocs, oec, k0, k1, k2, k3, k4, k5, k6, k7, k8⟩ := h
  exact ⟨sc, ec, ocs, oec, k0, k1, hs _ k2, k3, k4, k5, hs _ k6, k7, k8.mono hs⟩
/-- what a session leaves -/
inductive SesOut (w : World) (n : Int) (g : List Nat) (hdr : List Nat) (ps : PL) (lg : Nat) (rest : List (Addr × Obj)) (Rt : Nat) (led : List (Addr × Obj)) : Prop
  | mk (n1 PT : Nat) (lv : List Value) (tb pt : Array Value) (nx : List (Addr × Obj)) (ve : Value) (t : Tok) (hs : ∀ q ∈ (lg, listOf lv.toArray n1) :: (115, tabObj tb) :: (PT, tabObj pt) :: nx, q ∈ led) (ho : ∀ q ∈ rest, q ∈ nx) (hT : TabK tb pt PT nx) (hD : DatAll nx lv (dueS n ps)) (hR : (Rt, ({ cls := .type "tuple", data := .seq #[ve, .str (ofL (hdrF g n ps hdr)) t] } : Obj)) ∈ nx) (hV : DatIn nx ve (dueE n)) (hP5 : @Ne Nat PT 115) : SesOut w n g hdr ps lg rest Rt led
theorem swap_mem {α : Type} {a b q : α} {l : List α} (h : q ∈ a :: b :: l) : q ∈ b :: a :: l := by
  simp only [List.mem_cons] at h ⊢
  rcases h with h | h | h
  · exact .inr (.inl h)
  · exact .inl h
  · exact .inr (.inr h)
theorem news_swap {h₀ h : Heap} {L : Addr} {a b : Addr × Obj} {rest : List (Addr × Obj)} (N : News h₀ L h (a :: b :: rest)) : News h₀ L h (b :: a :: rest) := fun q hq => N q (by
  simp only [List.mem_cons] at hq ⊢
  rcases hq with h | h | h
  · exact .inr (.inl h)
  · exact .inl h
  · exact .inr (.inr h))
/-- serve's function has been made: its table is told apart -/
theorem serve_made {h₀ h : Heap} {L : Addr} {tb tb' : Array Value} {fs sc : Nat} {oF : Obj} {new kn rest mid : List (Addr × Obj)}
    (hkn : (kn = [] ∧ tb = #[]) ∨ ∃ PT pt, kn = [(PT, tabObj pt)] ∧ TabK tb pt PT rest) (hcn : ∀ t ∈ kn, ∀ q ∈ rest, @Ne Nat q.1 t.1) (N0 : News h₀ L h (mid ++ (kn ++ rest)))
    (hn : ∀ q ∈ new, ∀ r ∈ mid ++ (kn ++ rest), @LT.lt Nat _ r.1 q.1) (ha : codeAmong posS tb'.toList = some (.ref sc)) (hf : ∀ q ∈ mid ++ (kn ++ rest), @LT.lt Nat _ q.1 fs)
    (hf2 : ∀ q ∈ new, @LT.lt Nat _ q.1 fs)
    (hd : (codeAmong posS tb.toList = some (.ref sc) ∧ new = []) ∨ ∃ oc P', codeAmong posS tb.toList = none ∧ new = [(sc, oc), (P', tabObj #[])] ∧ CodeQ oc QS ∧ CodeOb oc sc P') :
    ∃ (PT : Nat) (pt : Array Value) (ocs : Obj) (rest3 : List (Addr × Obj)), (∀ q ∈ (PT, tabObj pt) :: rest3, q ∈ (fs, oF) :: (new ++ (kn ++ rest))) ∧ (∀ q ∈ rest, q ∈ rest3) ∧ (fs, oF) ∈ rest3 ∧ (sc, ocs) ∈ rest3 ∧ CodeQ ocs QS ∧ CodeOb ocs sc PT ∧ LamSt pt ((QS ++ Str.ofString ".<locals>.") ++ Str.ofString "<lambda>") rest3 ∧ (∀ q ∈ rest3, @Ne Nat q.1 PT) ∧
      (∀ q ∈ rest3, q ∈ rest ∨ ∀ r ∈ mid, @LT.lt Nat _ r.1 q.1) ∧ ((PT, tabObj pt) ∈ kn ∨ ∀ r ∈ mid, @LT.lt Nat _ r.1 PT) := by
  rcases hd with ⟨h1, rfl⟩ | ⟨oc, P', h1, rfl, h2, h3⟩
  · rcases hkn with ⟨rfl, rfl⟩ | ⟨PT, pt, rfl, sc0, ec0, ocs, oec, k0, k1, k2, k3, k4, k5, k6, k7, k8⟩
    · simp [codeAmong] at h1
    · rw [k1] at h1; cases h1
      refine ⟨PT, pt, ocs, (fs, oF) :: rest, ?_, fun q hq => List.mem_cons_of_mem _ hq, List.mem_cons_self .., List.mem_cons_of_mem _ k2, k3, k4, k8.mono fun q hq => List.mem_cons_of_mem _ hq, ?_, ?_, .inl (List.mem_cons_self ..)⟩
      · intro q hq
        simp only [List.mem_cons, List.nil_append, List.singleton_append] at hq ⊢
        rcases hq with h | h | h
        · exact .inr (.inl h)
        · exact .inl h
        · exact .inr (.inr h)
      · refine List.forall_mem_cons.mpr ⟨Nat.ne_of_gt (hf (PT, tabObj pt) (List.mem_append_right _ (List.mem_cons_self ..))), fun q hq => hcn _ (List.mem_cons_self ..) q hq⟩
      · exact List.forall_mem_cons.mpr ⟨.inr fun r hr => hf r (List.mem_append_left _ hr), fun q hq => .inl hq⟩
  · have hk0 : kn = [] := by
      rcases hkn with ⟨rfl, _⟩ | ⟨PT, pt, rfl, sc0, ec0, ocs, oec, k0, k1, _⟩
      · rfl
      · rw [k1] at h1; cases h1
    subst hk0
    have hne : @Ne Nat sc P' := by
      obtain ⟨_, _, _, _, _, _, _, _, _, _, _, _, _, _, _, _, hh⟩ := h3
      exact hh
    refine ⟨P', #[], oc, (fs, oF) :: (sc, oc) :: rest, ?_, fun q hq => List.mem_cons_of_mem _ (List.mem_cons_of_mem _ hq), List.mem_cons_self .., List.mem_cons_of_mem _ (List.mem_cons_self ..), h2, h3, ⟨by simp [TriplesOk], .inl (by simp [codeAmong])⟩, ?_, ?_, .inr ?_⟩
    · intro q hq
      simp only [List.mem_cons, List.nil_append, List.cons_append] at hq ⊢
      rcases hq with h | h | h | h
      · exact .inr (.inr (.inl h))
      · exact .inl h
      · exact .inr (.inl h)
      · exact .inr (.inr (.inr h))
    · refine List.forall_mem_cons.mpr ⟨Nat.ne_of_gt (hf2 (P', tabObj #[]) (List.mem_cons_of_mem _ (List.mem_cons_self ..))), List.forall_mem_cons.mpr ⟨hne, fun q hq => Nat.ne_of_lt (hn (P', tabObj #[]) (List.mem_cons_of_mem _ (List.mem_cons_self ..)) q (List.mem_append_right _ hq))⟩⟩
    · exact List.forall_mem_cons.mpr ⟨.inr fun r hr => hf r (List.mem_append_left _ hr), List.forall_mem_cons.mpr ⟨.inr fun r hr => hn (sc, oc) (List.mem_cons_self ..) r (List.mem_append_left _ hr), fun q hq => .inl hq⟩⟩
    · exact fun r hr => hn (P', tabObj #[]) (List.mem_cons_of_mem _ (List.mem_cons_self ..)) r (List.mem_append_left _ hr)

section
variable {w : World} {p : Program} {loose : List Str} {mean : ExcName → Option Value} {mg mb : Str → Option Value}
  {dp un : Nat} {gd : Option (List Code)} {outer : List Env} {A₀ : Around} {base h₀ : Heap} {L : Addr} {m : Str → Option Value} {s : Shared} {Qf : Flow → Shared → Prop} {Ef : Value → Shared → Prop}

theorem ses_b1 {cG cK cL cM cP cR lg pg cS cX x dx pr dpr pa dpa : Nat} {oG oK oL oM oP oR oX oS0 : Obj} {g : List Nat} {n : Int} {tg tkd tm tr : Tok} {kn rest : List (Addr × Obj)} {n1 n2 : Nat} {tb : Array Value} {th tv th0 : Tok} {hdr : List Nat} {ps : PL}
    (hA : A₀ = { handled := none, depth := dp, frames := some outer, guards := gd, units := un }) (B : Below A₀ base outer h₀) (XB : (hd.heap_39 w.params).In base) (TB : Top p loose mean mg mb base) (KD : KtsDicts (outer.filterMap (·.frame)) h₀) (hEf : ∀ e : Nat, PassesOwnAt (model PySem.Challenge.rw_dn0255_04.row.prog w) ((A₀.deeper (envX (Str.ofString "_law_session") (defScope sesDef) L 120 (.ref 119) [(Str.ofString "realm", cR), (Str.ofString "processor", cX), (Str.ofString "pages", cP), (Str.ofString "m", cM), (Str.ofString "kind", cK), (Str.ofString "gap", cG), (Str.ofString "_law_serve", cS), (Str.ofString "log", cL)])).mark (some (.ref e))) (A₀.deeper (envX (Str.ofString "_law_session") (defScope sesDef) L 120 (.ref 119) [(Str.ofString "realm", cR), (Str.ofString "processor", cX), (Str.ofString "pages", cP), (Str.ofString "m", cM), (Str.ofString "kind", cK), (Str.ofString "gap", cG), (Str.ofString "_law_serve", cS), (Str.ofString "log", cL)])) (envX (Str.ofString "_law_session") (defScope sesDef) L 120 (.ref 119) [(Str.ofString "realm", cR), (Str.ofString "processor", cX), (Str.ofString "pages", cP), (Str.ofString "m", cM), (Str.ofString "kind", cK), (Str.ofString "gap", cG), (Str.ofString "_law_serve", cS), (Str.ofString "log", cL)]) Ef)
    (F : Fr h₀ L s.heap m) (hm : ∀ q ∈ [(Str.ofString "header", Value.str (ofL hdr) th0), (Str.ofString "request", Value.ref x), (Str.ofString "parent", Value.ref pa)], m q.1 = some q.2) (T : Top p loose mean mg mb h₀) (hdp : dp + 60 < recursionLimit) (hun : un + 1200 < cLine) (hC : CodeHd h₀ 119 115)
    (hG : (cG, oG) ∈ rest) (dG : oG.data = .cell (some (.str (ofL g) tg))) (hK : (cK, oK) ∈ rest) (dK : oK.data = .cell (some (.int (n.fmod 6) tkd))) (hL : (cL, oL) ∈ rest) (dL : oL.data = .cell (some (.ref lg))) (hM : (cM, oM) ∈ rest) (dM : oM.data = .cell (some (.int (n.fdiv 6) tm))) (hP : (cP, oP) ∈ rest) (dP : oP.data = .cell (some (.ref pg))) (hR : (cR, oR) ∈ rest) (dR : oR.data = .cell (some (.str (ofL (rlm n)) tr))) (lg0 : g.length ≤ 16)
    (dS0 : oS0.data = .cell none) (hX : (cX, oX) ∈ rest) (dX : oX.data = .cell (some (.ref pr))) (hpr : (pr, instObj 66 dpr) ∈ rest) (hpa : (pa, instObj 45 dpa) ∈ rest) (hx : (x, instObj 45 dx) ∈ rest)
    (hkn : (kn = [] ∧ tb = #[]) ∨ ∃ PT pt, kn = [(PT, tabObj pt)] ∧ TabK tb pt PT rest) (hcn : ∀ t ∈ kn, ∀ q ∈ rest, @Ne Nat q.1 t.1) (hrd : Reads hdr ps) (hpl : ps.length ≤ 10) (hpo : ∀ p ∈ ps, lowP p)
    (hrA : ∀ i : Nat, Reads (headL (n.fdiv 6) (rlm n) g i) (cliP (n.fdiv 6) (rlm n) (textL (n.fdiv 6 + i)))) (hrB : ∀ i : Nat, Reads (writtenL (ansL (rlm n) (textL (n.fdiv 6 + i)) (keyL (n.fmod 6))) g ++ [44]) (ansL (rlm n) (textL (n.fdiv 6 + i)) (keyL (n.fmod 6))))
    (hr3 : ReadsBad (headK 3 g (headL (n.fdiv 6) (rlm n) g 0)) []) (hr4 : ReadsBad (headK 4 g (headL (n.fdiv 6) (rlm n) g 0)) [61])
    (hoff : ∀ q ∈ kn ++ rest, @Ne Nat q.1 lg ∧ @Ne Nat q.1 115 ∧ @Ne Nat q.1 cS ∧ @Ne Nat q.1 pg ∧ @Ne Nat q.1 dx ∧ @Ne Nat q.1 dpr ∧ @Ne Nat q.1 dpa)
    (hne : @Ne Nat lg 115) (hlt : @LT.lt Nat _ lg cS ∧ @LT.lt Nat _ 115 cS ∧ @LT.lt Nat _ cS dx ∧ @LT.lt Nat _ dx dpr ∧ @LT.lt Nat _ dpr dpa ∧ @LT.lt Nat _ dpa pg)
    (N : News h₀ L s.heap ((lg, listOf [].toArray n1) :: (115, tabObj tb) :: (cS, oS0) :: (pg, listOf [].toArray n2) :: (dx, dictOf [ent w "header" th (.str (ofL hdr) tv)] 1) :: (dpr, dictOf [] 0) :: (dpa, dictOf [] 0) :: (kn ++ rest)))
    (hret : ∀ (Rt : Nat) (led : List (Addr × Obj)) (g' h' : Heap) (tk' : Nat) (m' : Str → Option Value), KtsTurn (outer.filterMap (·.frame)) h₀ g' → Fr g' L h' m' → News g' L h' led → SesOut w n g hdr ps lg rest Rt led → Qf (.ret (.ref Rt)) { s with heap := h', toks := tk' }) (X : (hd.heap_39 w.params).In h₀) :
    wpAny (model PySem.Challenge.rw_dn0255_04.row.prog w) (A₀.deeper (envX (Str.ofString "_law_session") (defScope sesDef) L 120 (.ref 119) [(Str.ofString "realm", cR), (Str.ofString "processor", cX), (Str.ofString "pages", cP), (Str.ofString "m", cM), (Str.ofString "kind", cK), (Str.ofString "gap", cG), (Str.ofString "_law_serve", cS), (Str.ofString "log", cL)])) (execs sesSrv (envX (Str.ofString "_law_session") (defScope sesDef) L 120 (.ref 119) [(Str.ofString "realm", cR), (Str.ofString "processor", cX), (Str.ofString "pages", cP), (Str.ofString "m", cM), (Str.ofString "kind", cK), (Str.ofString "gap", cG), (Str.ofString "_law_serve", cS), (Str.ofString "log", cL)])) Qf Ef s := by
  revert X; k_fill; intro X
  have hKst := kstMark
  w_top off

  rw [kst_self hm] at F
  subst hA
  rw [show sesSrv = (defBody sesDef).getD 8 default :: sesErr from rfl]
  simp only [sesSrv, srvDef, sesDef, defBody, defScope, PySem.Challenge.pw_dn0255_04, List.getD_cons_zero, List.getD_cons_succ, List.drop_succ_cons, List.drop_zero]
  repeat' ((fail_if_success (with_reducible show wpAny _ _ (exec (Stmt.FunctionDef _ _ _ _ _ _ _ _ _ _) _) _ _ _)); (first | (k_unfold; (try dsimp only)) | (k_end; wrow_close) | walk1 | (dsimp only; walk1) | (leave1; walk_say "STEP leave1"; try dsimp only) | fail "no step"))
  obtain ⟨lt0, lt1, lt2, lt3, lt4, lt5⟩ := hlt
  k_dflt (refine' nestDef_K ?d0 ?k0 ?a0 ?_; (case d0 => exact rfl); (case k0 => exact rfl); (case a0 => exact rfl))
  have N1 : News h₀ L s.heap ((115, tabObj tb) :: ((lg, listOf [].toArray n1) :: (cS, oS0) :: (pg, listOf [].toArray n2) :: (dx, dictOf [ent w "header" th (.str (ofL hdr) tv)] 1) :: (dpr, dictOf [] 0) :: (dpa, dictOf [] 0) :: (kn ++ rest))) := news_swap N
  have htb : TriplesOk tb.toList ∧ (codeAmong posS tb.toList = none ∨ ∃ c', codeAmong posS tb.toList = some (.ref c')) ∧ (codeAmong posE tb.toList = none ∨ ∃ ec oec, codeAmong posE tb.toList = some (.ref ec) ∧ (ec, oec) ∈ rest ∧ CodeQ oec QE) := by
    rcases hkn with ⟨_, rfl⟩ | ⟨PT, pt, _, sc0, ec0, ocs, oec, k0, k1, k2, k3, k4, k5, k6, k7, k8⟩
    · exact ⟨by simp [TriplesOk], .inl (by simp [codeAmong]), .inl (by simp [codeAmong])⟩
    · exact ⟨k0, .inr ⟨_, k1⟩, .inr ⟨_, _, k5, k6, k7⟩⟩
  refine nest_any F N1 T (hC.keeps F.keep) rfl ?offE htb.1 htb.2.1 rfl ?_
  case offE =>
    exact List.forall_mem_cons.mpr ⟨hne, List.forall_mem_cons.mpr ⟨Nat.ne_of_gt (by omega), List.forall_mem_cons.mpr ⟨Nat.ne_of_gt (by omega), List.forall_mem_cons.mpr ⟨Nat.ne_of_gt (by omega), List.forall_mem_cons.mpr ⟨Nat.ne_of_gt (by omega), List.forall_mem_cons.mpr ⟨Nat.ne_of_gt (by omega), fun q hq => (hoff q hq).2.1⟩⟩⟩⟩⟩⟩
  intro fs sc ctv doc tb' new h5 tk5 F5 N5 hn5 ht5 ha5 ho5 hd5 hl5
  have N0 : News h₀ L s.heap ([(lg, listOf [].toArray n1), (115, tabObj tb), (cS, oS0), (pg, listOf [].toArray n2), (dx, dictOf [ent w "header" th (.str (ofL hdr) tv)] 1), (dpr, dictOf [] 0), (dpa, dictOf [] 0)] ++ (kn ++ rest)) := N
  have hn6 : ∀ q ∈ new, ∀ r ∈ [(lg, listOf [].toArray n1), (115, tabObj tb), (cS, oS0), (pg, listOf [].toArray n2), (dx, dictOf [ent w "header" th (.str (ofL hdr) tv)] 1), (dpr, dictOf [] 0), (dpa, dictOf [] 0)] ++ (kn ++ rest), @LT.lt Nat _ r.1 q.1 := fun q hq r hr => hn5 q hq r (swap_mem hr)
  have hl6 : ∀ r ∈ [(lg, listOf [].toArray n1), (115, tabObj tb), (cS, oS0), (pg, listOf [].toArray n2), (dx, dictOf [ent w "header" th (.str (ofL hdr) tv)] 1), (dpr, dictOf [] 0), (dpa, dictOf [] 0)] ++ (kn ++ rest), @LT.lt Nat _ r.1 fs := fun r hr => (List.mem_cons.mp (swap_mem hr)).elim (fun h => by rw [h]; exact hl5 _ (List.mem_cons_self ..)) fun h => hl5 r (List.mem_cons_of_mem _ (List.mem_append_right _ h))
  obtain ⟨oF, hoF⟩ : ∃ o, o = srvFn QS cG cK cL cM cP cR doc ((mg "__name__").getD .none) sc ctv := ⟨_, rfl⟩
  obtain ⟨PT, pt, ocs, rest3, g1, g2, g3, g4, g5, g6, g7, g8, g9, g10⟩ := serve_made (tb' := tb') (fs := fs) (oF := oF) hkn hcn N0 hn6 ha5 hl6 (fun q hq => hl5 q (List.mem_cons_of_mem _ (List.mem_append_left _ hq))) hd5
  replace N5 : News h₀ L h5 ((fs, oF) :: (115, tabObj tb') :: (new ++ ((lg, listOf [].toArray n1) :: (cS, oS0) :: (pg, listOf [].toArray n2) :: (dx, dictOf [ent w "header" th (.str (ofL hdr) tv)] 1) :: (dpr, dictOf [] 0) :: (dpa, dictOf [] 0) :: (kn ++ rest)))) := by rw [hoF]; exact N5
  have hcv : ∀ q ∈ (fs, oF) :: (new ++ (kn ++ rest)), q ∈ (fs, oF) :: (115, tabObj tb') :: (new ++ ((lg, listOf [].toArray n1) :: (cS, oS0) :: (pg, listOf [].toArray n2) :: (dx, dictOf [ent w "header" th (.str (ofL hdr) tv)] 1) :: (dpr, dictOf [] 0) :: (dpa, dictOf [] 0) :: (kn ++ rest))) := by
    intro q hq
    rcases List.mem_cons.mp hq with rfl | hq
    · walk_at "mem_go"
    · rcases List.mem_append.mp hq with hq | hq
      · walk_at "mem_go"
      · refine List.mem_cons_of_mem _ (List.mem_cons_of_mem _ (List.mem_append_right _ (List.mem_cons_of_mem _ (List.mem_cons_of_mem _ (List.mem_cons_of_mem _ (List.mem_cons_of_mem _ (List.mem_cons_of_mem _ (List.mem_cons_of_mem _ hq))))))))
  have N6 : News h₀ L h5 ((lg, listOf [].toArray n1) :: (115, tabObj tb') :: (PT, tabObj pt) :: (cS, oS0) :: (pg, listOf [].toArray n2) :: (dx, dictOf [ent w "header" th (.str (ofL hdr) tv)] 1) :: (dpr, dictOf [] 0) :: (dpa, dictOf [] 0) :: rest3) := news_le N5 (by
    intro q hq
    simp only [List.mem_cons] at hq
    rcases hq with rfl | rfl | rfl | rfl | rfl | rfl | rfl | rfl | hq
    · walk_at "mem_go"
    · walk_at "mem_go"
    · exact hcv _ (g1 _ (List.mem_cons_self ..))
    · walk_at "mem_go"
    · walk_at "mem_go"
    · walk_at "mem_go"
    · walk_at "mem_go"
    · walk_at "mem_go"
    · exact hcv _ (g1 _ (List.mem_cons_of_mem _ hq)))
  have up : ∀ q : Nat, (∀ r ∈ [(lg, listOf [].toArray n1), (115, tabObj tb), (cS, oS0), (pg, listOf [].toArray n2), (dx, dictOf [ent w "header" th (.str (ofL hdr) tv)] 1), (dpr, dictOf [] 0), (dpa, dictOf [] 0)], @LT.lt Nat _ r.1 q) → @Ne Nat q lg ∧ @Ne Nat q 115 ∧ @Ne Nat q cS ∧ @Ne Nat q pg ∧ @Ne Nat q dx ∧ @Ne Nat q dpr ∧ @Ne Nat q dpa := fun q h => by
    simp only [List.forall_mem_cons] at h
    obtain ⟨e1, e2, e3, e4, e5, e6, e7, _⟩ := h
    exact ⟨Nat.ne_of_gt e1, Nat.ne_of_gt e2, Nat.ne_of_gt e3, Nat.ne_of_gt e4, Nat.ne_of_gt e5, Nat.ne_of_gt e6, Nat.ne_of_gt e7⟩
  have hPT : @Ne Nat PT lg ∧ @Ne Nat PT 115 ∧ @Ne Nat PT cS ∧ @Ne Nat PT pg ∧ @Ne Nat PT dx ∧ @Ne Nat PT dpr ∧ @Ne Nat PT dpa := g10.elim (fun h => hoff _ (List.mem_append_left _ h)) (up PT)
  have hoff3 : ∀ q ∈ rest3, @Ne Nat q.1 lg ∧ @Ne Nat q.1 115 ∧ @Ne Nat q.1 cS ∧ @Ne Nat q.1 pg ∧ @Ne Nat q.1 dx ∧ @Ne Nat q.1 dpr ∧ @Ne Nat q.1 dpa := fun q hq => (g9 q hq).elim (fun h => hoff _ (List.mem_append_right _ h)) (up q.1)
  have wS := ownOff_of fun q hq => (hoff3 q hq).2.2.1
  have hPS : @Ne Nat PT cS := hPT.2.2.1
  clear N5 N1 N0 N F hn5 hn6 hl5 hl6 hcv hd5 up g10 g9 g1
  repeat' ((fail_if_success (with_reducible show wpAny _ _ (execs sesErr _) _ _ _)); (first | (k_unfold; (try dsimp only)) | (k_end; wrow_close) | walk1 | (dsimp only; walk1) | (leave1; walk_say "STEP leave1"; try dsimp only) | fail "no step"))
  rename News _ _ _ _ => N9
  rename Fr _ _ _ _ => F9
  rename_i h8 oS1 dS1
  dsimp only
  have m3 : ∀ q ∈ rest, q ∈ (cS, oS1) :: rest3 := fun q hq => List.mem_cons_of_mem _ (g2 q hq)
  have fs3 : (fs, srvFn QS cG cK cL cM cP cR doc ((mg "__name__").getD .none) sc ctv) ∈ rest3 := by rw [← hoF]; exact g3
  refine ses_b2 (th0 := th0) (cS := cS) (rest := (cS, oS1) :: rest3) (tb := tb') (pt := pt) (PT := PT) (lg := lg) (pg := pg) (dx := dx) (dpr := dpr) (dpa := dpa) (hdr := hdr) (n1 := n1) (n2 := n2) (ps := ps) rfl B XB TB KD hEf F9 ?hm9 T hdp hun hC { hfs := List.mem_cons_of_mem _ fs3, hcs := List.mem_cons_of_mem _ g4, hcq := g5, hco := g6, hG := m3 _ hG, dG := dG, hK := m3 _ hK, dK := dK, hL := m3 _ hL, dL := dL, hM := m3 _ hM, dM := dM, hP := m3 _ hP, dP := dP, hR := m3 _ hR, dR := dR, lg0 := lg0, lr0 := textL_len _, lr1 := textL_low _ } (List.mem_cons_self ..) dS1 (m3 _ hX) dX (m3 _ hpr) (m3 _ hpa) (m3 _ hx) ht5 ?hst9 (g7.mono fun q hq => List.mem_cons_of_mem _ hq) hrd hpl hpo hrA hrB hr3 hr4 ?hoff9 ⟨hne, Ne.symm hPT.1, Ne.symm hPT.2.1, hPT.2.2.2.1, hPT.2.2.2.2.1, hPT.2.2.2.2.2.1, hPT.2.2.2.2.2.2⟩ ⟨by omega, by omega, lt3, lt4, lt5⟩ (news_le N9 (led_mid (pre := [_, _, _, _, _, _, _, _]) (by walk_at "led_sub") (fun q hq => by walk_at "mem_go"))) ?hret9 X
  case hm9 => simp only [List.forall_mem_cons]; exact ⟨rfl, rfl, rfl, fun _ h => nomatch h⟩
  case hst9 =>
    rw [ho5 posE (.inl (by decide))]
    exact htb.2.2.imp id fun ⟨e1, o1, h, hm1, hq1⟩ => ⟨e1, o1, h, m3 _ hm1, hq1⟩
  case hoff9 =>
    exact List.forall_mem_cons.mpr ⟨⟨Nat.ne_of_gt lt0, Nat.ne_of_gt lt1, Ne.symm hPS, Nat.ne_of_lt (by omega), Nat.ne_of_lt lt2, Nat.ne_of_lt (by omega), Nat.ne_of_lt (by omega)⟩, fun q hq => ⟨(hoff3 q hq).1, (hoff3 q hq).2.1, g8 q hq, (hoff3 q hq).2.2.2.1, (hoff3 q hq).2.2.2.2.1, (hoff3 q hq).2.2.2.2.2.1, (hoff3 q hq).2.2.2.2.2.2⟩⟩
  case hret9 =>
    intro Rt m1 ve lv' tb2 pt' t' ec oec rest' nx' b g' h' tk' m' KT FE NE hr1 hr2 hb M htb2 htr hecA hec hqe hoP hRt hDv
    have hn : ∀ q ∈ rest', q ∈ nx' := M.hE.old
    refine hret Rt _ g' h' tk' m' KT FE NE (.mk m1 PT lv' tb2 pt' nx' ve t' ?_ (fun q hq => hn _ (hr1 _ (m3 _ hq))) (.mk sc ec ocs oec htr (by rw [hoP posS (.inl (by decide))]; exact ha5) (hn _ (hr1 _ (List.mem_cons_of_mem _ g4))) g5 g6 hecA (hn _ hec) hqe M.hl) M.hD hRt hDv hPT.2.1)
    intro q hq
    simp only [List.mem_cons] at hq ⊢
    rcases hq with h | h | h | h
    · exact .inl h
    · exact .inr (.inr (by rw [h]; exact hn _ htb2))
    · exact .inr (.inl h)
    · exact .inr (.inr h)

end

end
section
open PySem PySem.W PyProof.Rows PySem.Calls PyProof.V

noncomputable def sesReq : List Stmt := (defBody sesDef).drop 3

section
variable {w : World} {p : Program} {loose : List Str} {mean : ExcName → Option Value} {mg mb : Str → Option Value}
  {dp un : Nat} {gd : Option (List Code)} {outer : List Env} {A₀ : Around} {base h₀ : Heap} {L : Addr} {m : Str → Option Value} {s : Shared} {Qf : Flow → Shared → Prop} {Ef : Value → Shared → Prop}

theorem ses_a2 {cG cK cL cM cP cR lg cS cX : Nat} {oG oK oL oM oP0 oR oX0 oS0 : Obj} {g : List Nat} {n : Int} {tg tkd tm tr : Tok} {kn rest tl : List (Addr × Obj)} {n1 : Nat} {tb : Array Value} {th0 : Tok} {hdr : List Nat} {ps : PL}
    (hA : A₀ = { handled := none, depth := dp, frames := some outer, guards := gd, units := un }) (B : Below A₀ base outer h₀) (XB : (hd.heap_39 w.params).In base) (TB : Top p loose mean mg mb base) (KD : KtsDicts (outer.filterMap (·.frame)) h₀) (hEf : ∀ e : Nat, PassesOwnAt (model PySem.Challenge.rw_dn0255_04.row.prog w) ((A₀.deeper (envX (Str.ofString "_law_session") (defScope sesDef) L 120 (.ref 119) [(Str.ofString "realm", cR), (Str.ofString "processor", cX), (Str.ofString "pages", cP), (Str.ofString "m", cM), (Str.ofString "kind", cK), (Str.ofString "gap", cG), (Str.ofString "_law_serve", cS), (Str.ofString "log", cL)])).mark (some (.ref e))) (A₀.deeper (envX (Str.ofString "_law_session") (defScope sesDef) L 120 (.ref 119) [(Str.ofString "realm", cR), (Str.ofString "processor", cX), (Str.ofString "pages", cP), (Str.ofString "m", cM), (Str.ofString "kind", cK), (Str.ofString "gap", cG), (Str.ofString "_law_serve", cS), (Str.ofString "log", cL)])) (envX (Str.ofString "_law_session") (defScope sesDef) L 120 (.ref 119) [(Str.ofString "realm", cR), (Str.ofString "processor", cX), (Str.ofString "pages", cP), (Str.ofString "m", cM), (Str.ofString "kind", cK), (Str.ofString "gap", cG), (Str.ofString "_law_serve", cS), (Str.ofString "log", cL)]) Ef)
    (F : Fr h₀ L s.heap m) (hm : ∀ q ∈ [(Str.ofString "header", Value.str (ofL hdr) th0)], m q.1 = some q.2) (T : Top p loose mean mg mb h₀) (hdp : dp + 60 < recursionLimit) (hun : un + 1200 < cLine) (hC : CodeHd h₀ 119 115)
    (hG : (cG, oG) ∈ rest) (dG : oG.data = .cell (some (.str (ofL g) tg))) (hK : (cK, oK) ∈ rest) (dK : oK.data = .cell (some (.int (n.fmod 6) tkd))) (hL : (cL, oL) ∈ rest) (dL : oL.data = .cell (some (.ref lg))) (hM : (cM, oM) ∈ rest) (dM : oM.data = .cell (some (.int (n.fdiv 6) tm))) (hR : (cR, oR) ∈ rest) (dR : oR.data = .cell (some (.str (ofL (rlm n)) tr))) (lg0 : g.length ≤ 16)
    (dS0 : oS0.data = .cell none) (dP0 : oP0.data = .cell none) (dX0 : oX0.data = .cell none)
    (htl : tl = kn ++ rest) (hkn : (kn = [] ∧ tb = #[]) ∨ ∃ PT pt, kn = [(PT, tabObj pt)] ∧ TabK tb pt PT rest) (hcn : ∀ t ∈ kn, (∀ q ∈ rest, @Ne Nat q.1 t.1)) (hrd : Reads hdr ps) (hpl : ps.length ≤ 10) (hpo : ∀ p ∈ ps, lowP p)
    (hrA : ∀ i : Nat, Reads (headL (n.fdiv 6) (rlm n) g i) (cliP (n.fdiv 6) (rlm n) (textL (n.fdiv 6 + i)))) (hrB : ∀ i : Nat, Reads (writtenL (ansL (rlm n) (textL (n.fdiv 6 + i)) (keyL (n.fmod 6))) g ++ [44]) (ansL (rlm n) (textL (n.fdiv 6 + i)) (keyL (n.fmod 6))))
    (hr3 : ReadsBad (headK 3 g (headL (n.fdiv 6) (rlm n) g 0)) []) (hr4 : ReadsBad (headK 4 g (headL (n.fdiv 6) (rlm n) g 0)) [61])
    (hoff : ∀ q ∈ tl, @Ne Nat q.1 lg ∧ @Ne Nat q.1 115 ∧ @Ne Nat q.1 cS ∧ @Ne Nat q.1 cP ∧ @Ne Nat q.1 cX)
    (hne : @Ne Nat lg 115) (hlt : @LT.lt Nat _ lg cS ∧ @LT.lt Nat _ 115 cS ∧ @LT.lt Nat _ cS cP ∧ @LT.lt Nat _ cP cX)
    (N : News h₀ L s.heap ((lg, listOf [].toArray n1) :: (115, tabObj tb) :: (cS, oS0) :: (cP, oP0) :: (cX, oX0) :: tl))
    (hret : ∀ (Rt : Nat) (led : List (Addr × Obj)) (g' h' : Heap) (tk' : Nat) (m' : Str → Option Value), KtsTurn (outer.filterMap (·.frame)) h₀ g' → Fr g' L h' m' → News g' L h' led → SesOut w n g hdr ps lg rest Rt led → Qf (.ret (.ref Rt)) { s with heap := h', toks := tk' }) (X : (hd.heap_39 w.params).In h₀) :
    wpAny (model PySem.Challenge.rw_dn0255_04.row.prog w) (A₀.deeper (envX (Str.ofString "_law_session") (defScope sesDef) L 120 (.ref 119) [(Str.ofString "realm", cR), (Str.ofString "processor", cX), (Str.ofString "pages", cP), (Str.ofString "m", cM), (Str.ofString "kind", cK), (Str.ofString "gap", cG), (Str.ofString "_law_serve", cS), (Str.ofString "log", cL)])) (execs sesReq (envX (Str.ofString "_law_session") (defScope sesDef) L 120 (.ref 119) [(Str.ofString "realm", cR), (Str.ofString "processor", cX), (Str.ofString "pages", cP), (Str.ofString "m", cM), (Str.ofString "kind", cK), (Str.ofString "gap", cG), (Str.ofString "_law_serve", cS), (Str.ofString "log", cL)])) Qf Ef s := by
  revert X; k_fill; intro X
  have hKst := kstMark
  w_top off

  rw [kst_self hm] at F
  subst hA
  rw [show sesReq = (defBody sesDef).getD 3 default :: (defBody sesDef).getD 4 default :: (defBody sesDef).getD 5 default :: (defBody sesDef).getD 6 default :: (defBody sesDef).getD 7 default :: sesSrv from rfl]
  simp only [sesReq, sesDef, defBody, defScope, PySem.Challenge.pw_dn0255_04, List.getD_cons_zero, List.getD_cons_succ, List.drop_succ_cons, List.drop_zero]
  obtain ⟨lt0, lt1, lt2, lt3⟩ := hlt
  have wA : OwnOff tl [cX, cP] := fun p hp b hb => by
    rcases List.mem_cons.mp hb with rfl | hb
    · exact (hoff p hp).2.2.2.2
    · rw [List.mem_singleton.mp hb]; exact (hoff p hp).2.2.2.1
  repeat' ((fail_if_success (with_reducible show wpAny _ _ (execs sesSrv _) _ _ _)); (first | (k_unfold; (try dsimp only)) | (k_end; wrow_close) | walk1 | (dsimp only; walk1) | (leave1; walk_say "STEP leave1"; try dsimp only) | fail "no step"))
  rename News _ _ _ _ => N9
  rename Fr _ _ _ _ => F9
  rename_i x dx h81 la lb h82 h83 pr dpr h84 lc ld h85 oX1 dX1 pa dpa h86 le lf h87 pg h88 lh h89 oP1 dP1
  have e1 : @LT.lt Nat _ dx x := lb
  have e2 : @LT.lt Nat _ x dpr := lc.1
  have e3 : @LT.lt Nat _ dpr pr := ld
  have e4 : @LT.lt Nat _ pr dpa := le.1
  have e5 : @LT.lt Nat _ dpa pa := lf
  have e6 : @LT.lt Nat _ pa pg := lh.1
  have e7 : @LT.lt Nat _ lg dx := la.1
  have e8 : @LT.lt Nat _ 115 dx := la.2.1
  have e9 : @LT.lt Nat _ cS dx := la.2.2.1
  have e10 : @LT.lt Nat _ cP dx := la.2.2.2.1
  have e11 : @LT.lt Nat _ cX dx := la.2.2.2.2.1
  have hlow : ∀ q ∈ tl, @LT.lt Nat _ q.1 dx := lt_of la.2.2.2.2.2
  clear la lb lc ld le lf lh
  subst htl
  have hM1 : ∀ {a b c d e : Addr × Obj}, ∀ q ∈ rest, q ∈ a :: b :: c :: d :: e :: rest := fun q hq => List.mem_cons_of_mem _ (List.mem_cons_of_mem _ (List.mem_cons_of_mem _ (List.mem_cons_of_mem _ (List.mem_cons_of_mem _ hq))))
  have hT7 : ∀ q ∈ kn ++ rest, @Ne Nat q.1 lg ∧ @Ne Nat q.1 115 ∧ @Ne Nat q.1 cS ∧ @Ne Nat q.1 pg ∧ @Ne Nat q.1 dx ∧ @Ne Nat q.1 dpr ∧ @Ne Nat q.1 dpa := fun q hq => by
    have hl := hlow q hq
    exact ⟨(hoff q hq).1, (hoff q hq).2.1, (hoff q hq).2.2.1, Nat.ne_of_lt (by omega), Nat.ne_of_lt hl, Nat.ne_of_lt (by omega), Nat.ne_of_lt (by omega)⟩
  refine ses_b1 (th0 := th0) (n2 := 0) (th := s.toks + 1 + 1) (tv := th0) (n1 := n1) (hdr := hdr) (ps := ps) (kn := kn) (lg := lg) (pg := pg) (x := x) (dx := dx) (pr := pr) (dpr := dpr) (pa := pa) (dpa := dpa) (cS := cS) (rest := (x, _) :: (pr, _) :: (pa, _) :: (cP, oP1) :: (cX, oX1) :: rest) rfl B XB TB KD hEf F9 ?hm9 T hdp hun hC (hM1 _ hG) dG (hM1 _ hK) dK (hM1 _ hL) dL (hM1 _ hM) dM (List.mem_cons_of_mem _ (List.mem_cons_of_mem _ (List.mem_cons_of_mem _ (List.mem_cons_self ..)))) dP1 (hM1 _ hR) dR lg0 dS0 (List.mem_cons_of_mem _ (List.mem_cons_of_mem _ (List.mem_cons_of_mem _ (List.mem_cons_of_mem _ (List.mem_cons_self ..))))) dX1 (List.mem_cons_of_mem _ (List.mem_cons_self ..)) (List.mem_cons_of_mem _ (List.mem_cons_of_mem _ (List.mem_cons_self ..))) (List.mem_cons_self ..) (hkn.imp id fun ⟨PT, pt, h1, h2⟩ => ⟨PT, pt, h1, h2.mono hM1⟩) ?hcn9 hrd hpl hpo hrA hrB hr3 hr4 ?hoff9 hne ⟨lt0, lt1, e9, by omega, by omega, by omega⟩ (news_le N9 ?hN9) ?hret9 X
  case hm9 => simp only [List.forall_mem_cons]; exact ⟨rfl, rfl, rfl, fun _ h => nomatch h⟩
  case hcn9 =>
    intro t ht
    have ho := hoff t (List.mem_append_left _ ht)
    have hl := hlow t (List.mem_append_left _ ht)
    exact List.forall_mem_cons.mpr ⟨Nat.ne_of_gt (by omega), List.forall_mem_cons.mpr ⟨Nat.ne_of_gt (by omega), List.forall_mem_cons.mpr ⟨Nat.ne_of_gt (by omega), List.forall_mem_cons.mpr ⟨Ne.symm ho.2.2.2.1, List.forall_mem_cons.mpr ⟨Ne.symm ho.2.2.2.2, hcn t ht⟩⟩⟩⟩⟩
  case hoff9 =>
    intro q hq
    rcases List.mem_append.mp hq with hq | hq
    · exact hT7 q (List.mem_append_left _ hq)
    · simp only [List.mem_cons] at hq
      rcases hq with rfl | rfl | rfl | rfl | rfl | hq
      · exact ⟨Nat.ne_of_gt (by omega), Nat.ne_of_gt (by omega), Nat.ne_of_gt (by omega), Nat.ne_of_lt (by omega), Nat.ne_of_gt (by omega), Nat.ne_of_lt (by omega), Nat.ne_of_lt (by omega)⟩
      · exact ⟨Nat.ne_of_gt (by omega), Nat.ne_of_gt (by omega), Nat.ne_of_gt (by omega), Nat.ne_of_lt (by omega), Nat.ne_of_gt (by omega), Nat.ne_of_gt (by omega), Nat.ne_of_lt (by omega)⟩
      · exact ⟨Nat.ne_of_gt (by omega), Nat.ne_of_gt (by omega), Nat.ne_of_gt (by omega), Nat.ne_of_lt (by omega), Nat.ne_of_gt (by omega), Nat.ne_of_gt (by omega), Nat.ne_of_gt (by omega)⟩
      · exact ⟨Nat.ne_of_gt (by omega), Nat.ne_of_gt (by omega), Nat.ne_of_gt (by omega), Nat.ne_of_lt (by omega), Nat.ne_of_lt (by omega), Nat.ne_of_lt (by omega), Nat.ne_of_lt (by omega)⟩
      · exact ⟨Nat.ne_of_gt (by omega), Nat.ne_of_gt (by omega), Nat.ne_of_gt (by omega), Nat.ne_of_lt (by omega), Nat.ne_of_lt (by omega), Nat.ne_of_lt (by omega), Nat.ne_of_lt (by omega)⟩
      · exact hT7 q (List.mem_append_right _ hq)
  case hN9 =>
    refine led_mid (pre := [_, _, _, _, _, _, _]) (by walk_at "led_sub") ?_
    intro q hq
    rcases List.mem_append.mp hq with hq | hq
    · walk_at "mem_go"
    · simp only [List.mem_cons] at hq
      rcases hq with rfl | rfl | rfl | rfl | rfl | hq
      · walk_at "mem_go"
      · walk_at "mem_go"
      · walk_at "mem_go"
      · walk_at "mem_go"
      · walk_at "mem_go"
      · walk_at "mem_go"
  case hret9 =>
    intro Rt led g' h' tk' m' KT FE NE hO
    obtain ⟨m1, PT, lv, tb2, pt2, nx, ve, t2, o1, o2, o3, o4, o5, o6, o7⟩ := hO
    exact hret Rt led g' h' tk' m' KT FE NE (.mk m1 PT lv tb2 pt2 nx ve t2 o1 (fun q hq => o2 q (hM1 q hq)) o3 o4 o5 o6 o7)

end

end
section
open PySem PySem.W PyProof.Rows PySem.Calls PyProof.V

noncomputable def sesAll : List Stmt := defBody sesDef
theorem CellsAre.eight {cm : Str → Option Value} {n₁ n₂ n₃ n₄ n₅ n₆ n₇ n₈ : Str} {c₁ c₂ c₃ c₄ c₅ c₆ c₇ c₈ : Addr} {cells : List (Addr × Obj)} (x : CellsAre cm [(n₁, c₁), (n₂, c₂), (n₃, c₃), (n₄, c₄), (n₅, c₅), (n₆, c₆), (n₇, c₇), (n₈, c₈)] cells) :
    ∃ o₁ o₂ o₃ o₄ o₅ o₆ o₇ o₈, cells = [(c₁, o₁), (c₂, o₂), (c₃, o₃), (c₄, o₄), (c₅, o₅), (c₆, o₆), (c₇, o₇), (c₈, o₈)] ∧ o₁.data = .cell (cm n₁) ∧ o₂.data = .cell (cm n₂) ∧ o₃.data = .cell (cm n₃) ∧ o₄.data = .cell (cm n₄) ∧ o₅.data = .cell (cm n₅) ∧ o₆.data = .cell (cm n₆) ∧ o₇.data = .cell (cm n₇) ∧ o₈.data = .cell (cm n₈) := by
  cases x with | cons h1 x => cases x with | cons h2 x => cases x with | cons h3 x => cases x with | cons h4 x => cases x with | cons h5 x => cases x with | cons h6 x => cases x with | cons h7 x => cases x with | cons h8 x =>
    cases x
    exact ⟨_, _, _, _, _, _, _, _, rfl, h1, h2, h3, h4, h5, h6, h7, h8⟩

section
variable {w : World} {p : Program} {loose : List Str} {mean : ExcName → Option Value} {mg mb : Str → Option Value}
  {dp un : Nat} {gd : Option (List Code)} {outer : List Env} {A₀ : Around} {base h₀ : Heap} {L : Addr} {m : Str → Option Value} {s : Shared} {Qf : Flow → Shared → Prop} {Ef : Value → Shared → Prop}

theorem ses_a1 {cG cK cL cM cP cR lg cS cX : Nat} {oG oK oL oM oP0 oR oX0 oS0 : Obj} {n : Int} {tn : Tok} {kn rest tl : List (Addr × Obj)} {n1 : Nat} {tb : Array Value} {th0 : Tok} {hdr : List Nat} {ps : PL}
    (hA : A₀ = { handled := none, depth := dp, frames := some outer, guards := gd, units := un }) (B : Below A₀ base outer h₀) (XB : (hd.heap_39 w.params).In base) (TB : Top p loose mean mg mb base) (KD : KtsDicts (outer.filterMap (·.frame)) h₀) (hEf : ∀ e : Nat, PassesOwnAt (model PySem.Challenge.rw_dn0255_04.row.prog w) ((A₀.deeper (envX (Str.ofString "_law_session") (defScope sesDef) L 120 (.ref 119) [(Str.ofString "realm", cR), (Str.ofString "processor", cX), (Str.ofString "pages", cP), (Str.ofString "m", cM), (Str.ofString "kind", cK), (Str.ofString "gap", cG), (Str.ofString "_law_serve", cS), (Str.ofString "log", cL)])).mark (some (.ref e))) (A₀.deeper (envX (Str.ofString "_law_session") (defScope sesDef) L 120 (.ref 119) [(Str.ofString "realm", cR), (Str.ofString "processor", cX), (Str.ofString "pages", cP), (Str.ofString "m", cM), (Str.ofString "kind", cK), (Str.ofString "gap", cG), (Str.ofString "_law_serve", cS), (Str.ofString "log", cL)])) (envX (Str.ofString "_law_session") (defScope sesDef) L 120 (.ref 119) [(Str.ofString "realm", cR), (Str.ofString "processor", cX), (Str.ofString "pages", cP), (Str.ofString "m", cM), (Str.ofString "kind", cK), (Str.ofString "gap", cG), (Str.ofString "_law_serve", cS), (Str.ofString "log", cL)]) Ef)
    (F : Fr h₀ L s.heap m) (hm : ∀ q ∈ [(Str.ofString "n", Value.int n tn), (Str.ofString "header", Value.str (ofL hdr) th0)], m q.1 = some q.2) (T : Top p loose mean mg mb h₀) (hdp : dp + 60 < recursionLimit) (hun : un + 1200 < cLine) (hC : CodeHd h₀ 119 115)
    (dG : oG.data = .cell none) (dK : oK.data = .cell none) (dL : oL.data = .cell (some (.ref lg))) (dM : oM.data = .cell none) (dR : oR.data = .cell none) (dS0 : oS0.data = .cell none) (dP0 : oP0.data = .cell none) (dX0 : oX0.data = .cell none)
    (htl : tl = kn ++ rest) (hkn : (kn = [] ∧ tb = #[]) ∨ ∃ PT pt, kn = [(PT, tabObj pt)] ∧ TabK tb pt PT rest) (hcn : ∀ t ∈ kn, (∀ q ∈ rest, @Ne Nat q.1 t.1)) (hrd : Reads hdr ps) (hpl : ps.length ≤ 10) (hpo : ∀ p ∈ ps, lowP p)
    (hrA : ∀ i : Nat, Reads (headL (n.fdiv 6) (rlm n) (gapL (n.fdiv 6)) i) (cliP (n.fdiv 6) (rlm n) (textL (n.fdiv 6 + i)))) (hrB : ∀ i : Nat, Reads (writtenL (ansL (rlm n) (textL (n.fdiv 6 + i)) (keyL (n.fmod 6))) (gapL (n.fdiv 6)) ++ [44]) (ansL (rlm n) (textL (n.fdiv 6 + i)) (keyL (n.fmod 6))))
    (hr3 : ReadsBad (headK 3 (gapL (n.fdiv 6)) (headL (n.fdiv 6) (rlm n) (gapL (n.fdiv 6)) 0)) []) (hr4 : ReadsBad (headK 4 (gapL (n.fdiv 6)) (headL (n.fdiv 6) (rlm n) (gapL (n.fdiv 6)) 0)) [61])
    (hoff : ∀ q ∈ tl, @Ne Nat q.1 lg ∧ @Ne Nat q.1 115 ∧ @LT.lt Nat _ q.1 cL)
    (hne : @Ne Nat lg 115) (hlt : @LT.lt Nat _ lg cL ∧ @LT.lt Nat _ 115 cL ∧ @LT.lt Nat _ cL cS ∧ @LT.lt Nat _ cS cG ∧ @LT.lt Nat _ cG cK ∧ @LT.lt Nat _ cK cM ∧ @LT.lt Nat _ cM cP ∧ @LT.lt Nat _ cP cX ∧ @LT.lt Nat _ cX cR)
    (N : News h₀ L s.heap ((cR, oR) :: (cX, oX0) :: (cP, oP0) :: (cM, oM) :: (cK, oK) :: (cG, oG) :: (cS, oS0) :: (cL, oL) :: (lg, listOf [].toArray n1) :: (115, tabObj tb) :: tl))
    (hret : ∀ (Rt : Nat) (led : List (Addr × Obj)) (g' h' : Heap) (tk' : Nat) (m' : Str → Option Value), KtsTurn (outer.filterMap (·.frame)) h₀ g' → Fr g' L h' m' → News g' L h' led → SesOut w n (gapL (n.fdiv 6)) hdr ps lg rest Rt led → Qf (.ret (.ref Rt)) { s with heap := h', toks := tk' }) (X : (hd.heap_39 w.params).In h₀) :
    wpAny (model PySem.Challenge.rw_dn0255_04.row.prog w) (A₀.deeper (envX (Str.ofString "_law_session") (defScope sesDef) L 120 (.ref 119) [(Str.ofString "realm", cR), (Str.ofString "processor", cX), (Str.ofString "pages", cP), (Str.ofString "m", cM), (Str.ofString "kind", cK), (Str.ofString "gap", cG), (Str.ofString "_law_serve", cS), (Str.ofString "log", cL)])) (execs sesAll (envX (Str.ofString "_law_session") (defScope sesDef) L 120 (.ref 119) [(Str.ofString "realm", cR), (Str.ofString "processor", cX), (Str.ofString "pages", cP), (Str.ofString "m", cM), (Str.ofString "kind", cK), (Str.ofString "gap", cG), (Str.ofString "_law_serve", cS), (Str.ofString "log", cL)])) Qf Ef s := by
  revert X; k_fill; intro X
  have hKst := kstMark
  w_top off

  rw [kst_self hm] at F
  subst hA
  rw [show sesAll = (defBody sesDef).getD 0 default :: (defBody sesDef).getD 1 default :: (defBody sesDef).getD 2 default :: sesReq from rfl]
  simp only [sesAll, sesDef, defBody, defScope, PySem.Challenge.pw_dn0255_04, List.getD_cons_zero, List.getD_cons_succ, List.drop_succ_cons, List.drop_zero]
  obtain ⟨lt0, lt1, lt2, lt3, lt4, lt5, lt6, lt7, lt8⟩ := hlt
  have wA : OwnOff tl [cX, cP, cR, cM, cK, cG, cS] := fun p hp b hb => by
    have hl := (hoff p hp).2.2
    simp only [List.mem_cons, List.not_mem_nil, or_false] at hb
    rcases hb with rfl | rfl | rfl | rfl | rfl | rfl | rfl <;> exact Nat.ne_of_lt (by omega)
  repeat' ((fail_if_success (with_reducible show wpAny _ _ (subscriptTail _ _ _ _) _ _ _)); (first | (k_unfold; (try dsimp only)) | (k_end; wrow_close) | walk1 | (dsimp only; walk1) | (leave1; walk_say "STEP leave1"; try dsimp only) | fail "no step"))
  refine cutQ (V := fun t => .str (ofL (gapL (n.fdiv 6))) t) ?mainG ?sideG
  case sideG =>
    intro Q' hQ
    rcases fmod4 (n.fdiv 6) with h4 | h4 | h4 | h4
    all_goals rw [h4]
    all_goals (repeat' (first | (k_unfold; (try dsimp only)) | (k_end; wrow_close) | walk1 | (dsimp only; walk1) | (leave1; walk_say "STEP leave1"; try dsimp only) | fail "no step"))
    · rw [gap_0 h4]; exact hQ _
    · rw [gap_1 h4]; exact hQ _
    · rw [gap_2 h4]; exact hQ _
    · rw [gap_3 h4]; exact hQ _
  intro tg
  repeat' ((fail_if_success (with_reducible show wpAny _ _ (call (Value.ref 85) _ _) _ _ _)); (first | (k_unfold; (try dsimp only)) | (k_end; wrow_close) | walk1 | (dsimp only; walk1) | (leave1; walk_say "STEP leave1"; try dsimp only) | fail "no step"))
  (k_dflt (refine' text_t ?qB1 ?qF1 ?qT1 ?qh1 ?qd1 ?qu1 ?qN1 ?qr1 ?qX1; (case qh1 => rfl); (case qF1 => k_asm); (case qB1 => k_asm); (case qT1 => k_asm); (case qX1 => k_asm); (case qN1 => k_asm))); (case qd1 => ktr_room); (case qu1 => ktr_units)
  intro h1 tk1 tr F1 N1
  repeat' ((fail_if_success (with_reducible show wpAny _ _ (execs sesReq _) _ _ _)); (first | (k_unfold; (try dsimp only)) | (k_end; wrow_close) | walk1 | (dsimp only; walk1) | (leave1; walk_say "STEP leave1"; try dsimp only) | fail "no step"))
  rename News _ _ _ _ => N9
  rename Fr _ _ _ _ => F9
  rename_i D1 h81 lD h82 h83 oK1 dK1 h84 oM1 dM1 tk8 l8 h85 lL h86 oG1 dG1 h87 oR1 dR1
  clear lD lL
  subst htl
  have hM1 : ∀ {a b c d e : Addr × Obj}, ∀ q ∈ rest, q ∈ a :: b :: c :: d :: e :: rest := fun q hq => List.mem_cons_of_mem _ (List.mem_cons_of_mem _ (List.mem_cons_of_mem _ (List.mem_cons_of_mem _ (List.mem_cons_of_mem _ hq))))
  have hT5 : ∀ q ∈ kn ++ rest, @Ne Nat q.1 lg ∧ @Ne Nat q.1 115 ∧ @Ne Nat q.1 cS ∧ @Ne Nat q.1 cP ∧ @Ne Nat q.1 cX := fun q hq => by
    have hl := (hoff q hq).2.2
    exact ⟨(hoff q hq).1, (hoff q hq).2.1, Nat.ne_of_lt (by omega), Nat.ne_of_lt (by omega), Nat.ne_of_lt (by omega)⟩
  refine ses_a2 (th0 := th0) (n1 := n1) (hdr := hdr) (ps := ps) (kn := kn) (lg := lg) (cS := cS) (cX := cX) (cP := cP) (g := gapL (n.fdiv 6)) (rest := (cR, oR1) :: (cM, oM1) :: (cK, oK1) :: (cG, oG1) :: (cL, oL) :: rest) rfl B XB TB KD hEf F9 ?hm9 T hdp hun hC (List.mem_cons_of_mem _ (List.mem_cons_of_mem _ (List.mem_cons_of_mem _ (List.mem_cons_self ..)))) dG1 (List.mem_cons_of_mem _ (List.mem_cons_of_mem _ (List.mem_cons_self ..))) dK1 (List.mem_cons_of_mem _ (List.mem_cons_of_mem _ (List.mem_cons_of_mem _ (List.mem_cons_of_mem _ (List.mem_cons_self ..))))) dL (List.mem_cons_of_mem _ (List.mem_cons_self ..)) dM1 (List.mem_cons_self ..) dR1 (gapL_len _) dS0 dP0 dX0 rfl (hkn.imp id fun ⟨PT, pt, h1, h2⟩ => ⟨PT, pt, h1, h2.mono hM1⟩) ?hcn9 hrd hpl hpo hrA hrB hr3 hr4 ?hoff9 hne ⟨by omega, by omega, by omega, lt7⟩ (news_le N9 ?hN9) ?hret9 X
  case hm9 => simp only [List.forall_mem_cons]; exact ⟨rfl, fun _ h => nomatch h⟩
  case hcn9 =>
    intro t ht
    have hl := (hoff t (List.mem_append_left _ ht)).2.2
    exact List.forall_mem_cons.mpr ⟨Nat.ne_of_gt (by omega), List.forall_mem_cons.mpr ⟨Nat.ne_of_gt (by omega), List.forall_mem_cons.mpr ⟨Nat.ne_of_gt (by omega), List.forall_mem_cons.mpr ⟨Nat.ne_of_gt (by omega), List.forall_mem_cons.mpr ⟨Nat.ne_of_gt hl, hcn t ht⟩⟩⟩⟩⟩
  case hoff9 =>
    intro q hq
    rcases List.mem_append.mp hq with hq | hq
    · exact hT5 q (List.mem_append_left _ hq)
    · simp only [List.mem_cons] at hq
      rcases hq with rfl | rfl | rfl | rfl | rfl | hq
      · exact ⟨Nat.ne_of_gt (by omega), Nat.ne_of_gt (by omega), Nat.ne_of_gt (by omega), Nat.ne_of_gt (by omega), Nat.ne_of_gt (by omega)⟩
      · exact ⟨Nat.ne_of_gt (by omega), Nat.ne_of_gt (by omega), Nat.ne_of_gt (by omega), Nat.ne_of_lt (by omega), Nat.ne_of_lt (by omega)⟩
      · exact ⟨Nat.ne_of_gt (by omega), Nat.ne_of_gt (by omega), Nat.ne_of_gt (by omega), Nat.ne_of_lt (by omega), Nat.ne_of_lt (by omega)⟩
      · exact ⟨Nat.ne_of_gt (by omega), Nat.ne_of_gt (by omega), Nat.ne_of_gt (by omega), Nat.ne_of_lt (by omega), Nat.ne_of_lt (by omega)⟩
      · exact ⟨Nat.ne_of_gt (by omega), Nat.ne_of_gt (by omega), Nat.ne_of_lt (by omega), Nat.ne_of_lt (by omega), Nat.ne_of_lt (by omega)⟩
      · exact hT5 q (List.mem_append_right _ hq)
  case hN9 =>
    refine led_mid (pre := [_, _, _, _, _]) (by walk_at "led_sub") ?_
    intro q hq
    rcases List.mem_append.mp hq with hq | hq
    · walk_at "mem_go"
    · simp only [List.mem_cons] at hq
      rcases hq with rfl | rfl | rfl | rfl | rfl | hq
      · walk_at "mem_go"
      · walk_at "mem_go"
      · walk_at "mem_go"
      · walk_at "mem_go"
      · walk_at "mem_go"
      · walk_at "mem_go"
  case hret9 =>
    intro Rt led g' h' tk' m' KT FE NE hO
    obtain ⟨m1, PT, lv, tb2, pt2, nx, ve, t2, o1, o2, o3, o4, o5, o6, o7⟩ := hO
    exact hret Rt led g' h' tk' m' KT FE NE (.mk m1 PT lv tb2 pt2 nx ve t2 o1 (fun q hq => o2 q (hM1 q hq)) o3 o4 o5 o6 o7)

end

end
noncomputable section
open PySem PySem.Calls PyProof.Rows PySem.W
/-- two commas and a line end stand in a text -/
def has3 (l : List Nat) : Prop := ∃ a b, l = a ++ [44, 44, 10] ++ b
theorem hasG_iff (l : List Nat) : hasG l = true ↔ has3 l := by
  unfold hasG Txt.contains
  rw [StrLaws.found_iff]
  have e3 : Str.ofString ",,\n" = ofL [44, 44, 10] := by decide
  rw [e3]
  have hsub : ∀ i, Builtin.Str.subAt (ofL l) (ofL [44, 44, 10]) i = true ↔ (l.drop i).take 3 = [44, 44, 10] := by
    intro i
    unfold Builtin.Str.subAt
    rw [beq_iff_eq, ← Array.toList_inj]
    simp [ofL, ofL_length]
    exact Iff.rfl
  constructor
  · rintro ⟨i, hi, h⟩
    rw [hsub] at h
    refine ⟨l.take i, l.drop (i + 3), ?_⟩
    rw [← h, List.append_assoc, show (l.drop i).take 3 ++ l.drop (i + 3) = l.drop i by rw [← List.drop_drop]; exact List.take_append_drop 3 _, List.take_append_drop]
  · rintro ⟨a, b, rfl⟩
    refine ⟨a.length, ?_, ?_⟩
    · simp [ofL_length]
    · rw [hsub]; simp
theorem hasG_true {l : List Nat} (h : has3 l) : hasG l = true := (hasG_iff l).mpr h
theorem hasG_false {l : List Nat} (h : ¬ has3 l) : hasG l = false := by
  cases e : hasG l
  · rfl
  · exact absurd ((hasG_iff l).mp e) h
/-- each line end stands behind a tab and a comma -/
def tame (l : List Nat) : Prop := ∀ a b, l = a ++ 10 :: b → ∃ a', a = a' ++ [9, 44]
theorem tame_no {l : List Nat} (h : 10 ∉ l) : tame l := fun a b e => absurd (e ▸ List.mem_append_right _ (List.mem_cons_self ..)) h
theorem tame_app {x y : List Nat} (hx : tame x) (hy : tame y) : tame (x ++ y) := by
  intro a b e
  rcases List.append_eq_append_iff.mp e with ⟨c, h1, h2⟩ | ⟨c, h1, h2⟩
  · obtain ⟨a', ha⟩ := hy c b h2
    exact ⟨x ++ a', by rw [h1, ha, List.append_assoc]⟩
  · cases c with
    | nil =>
      simp only [List.nil_append] at h2
      obtain ⟨a', ha⟩ := hy [] b h2.symm
      simp at ha
    | cons d c =>
      simp only [List.cons_append, List.cons.injEq] at h2
      obtain ⟨rfl, h2⟩ := h2
      exact hx a c h1
theorem tame_has {l : List Nat} (h : tame l) : ¬ has3 l := by
  rintro ⟨a, b, e⟩
  obtain ⟨a', ha⟩ := h (a ++ [44, 44]) b (by rw [e]; simp)
  have := congrArg List.reverse ha
  simp at this
theorem tame_gap : tame [9, 44, 10] := by
  intro a b e
  have h1 : a.length < 3 := by have := congrArg List.length e; simp at this; omega
  match a, e with
  | [], e => simp at e
  | [_], e => simp at e
  | [x, y], e => simp at e; exact ⟨[], by simp [← e.1, ← e.2.1]⟩
  | _ :: _ :: _ :: _, _ => simp at h1; omega
theorem tame_join {g : List Nat} (hg : tame g) : ∀ {ps : List (List Nat)}, (∀ p ∈ ps, tame p) → tame (joinS g ps)
  | [], _ => tame_no (by simp [joinS])
  | [p], h => h p (List.mem_cons_self ..)
  | p :: q :: r, h => tame_app (tame_app (h p (List.mem_cons_self ..)) hg) (tame_join hg fun x hx => h x (List.mem_cons_of_mem _ hx))
def stepG (m : Int) : Int := if m.fmod 4 = 3 then 2 else 1
theorem gap_tame {m : Int} (h : m.fmod 4 ≠ 3) : tame (gapL m) := by
  unfold gapL
  split
  · exact tame_no (by decide)
  split
  · exact tame_no (by decide)
  split
  · exact tame_gap
  · rename_i h0 h1 h2; rcases fmod4 m with h | h | h | h <;> contradiction
theorem gap4 (m : Int) : ∃ trail lead mid s', Gap (gapL m) (stepG m) trail lead mid s' := by
  unfold gapL stepG
  rcases fmod4 m with h | h | h | h <;> rw [h]
  · exact ⟨[], [], [], [], (fun _ h => nomatch h), (fun _ h => nomatch h), (fun res part => by simp [pstep]), .inl ⟨rfl, rfl⟩⟩
  · refine ⟨[], [32], [], [], (fun _ h => nomatch h), ?_, (fun res part => by simp [pstep]), .inl ⟨rfl, rfl⟩⟩
    intro c hc; rw [List.mem_singleton.mp hc]; decide +kernel
  · refine ⟨[9], [10], [], [], ?_, ?_, (fun res part => by simp [pstep]), .inl ⟨rfl, rfl⟩⟩
    · intro c hc; rw [List.mem_singleton.mp hc]; decide +kernel
    · intro c hc; rw [List.mem_singleton.mp hc]; decide +kernel
  · refine ⟨[32], [10], [[]], [], ?_, ?_, (fun res part => by simp [pstep]), .inr ⟨rfl, _, rfl, ?_⟩⟩
    · intro c hc; rw [List.mem_singleton.mp hc]; decide +kernel
    · intro c hc; rw [List.mem_singleton.mp hc]; decide +kernel
    · decide +kernel
theorem stepG_12 (m : Int) : stepG m = 1 ∨ stepG m = 2 := by unfold stepG; split <;> simp
/-- the step that a joined text tells -/
theorem step_join {m : Int} {x y : List Nat} {r : List (List Nat)} {tl : List Nat} (h : ∀ p ∈ x :: y :: r, 10 ∉ p) (ht : 10 ∉ tl) : stepOf (joinS (gapL m) (x :: y :: r) ++ tl) = stepG m := by
  unfold stepOf stepG
  by_cases h3 : m.fmod 4 = 3
  · rw [if_pos h3, if_pos]
    refine hasG_true ⟨x ++ [32], joinS (gapL m) (y :: r) ++ tl, ?_⟩
    have e : gapL m = [32, 44, 44, 10] := by unfold gapL; rw [h3]; decide
    rw [joinS, e]; simp
  · rw [if_neg h3, if_neg]
    rw [hasG_false (tame_has (tame_app (tame_join (gap_tame h3) fun p hp => tame_no (h p hp)) (tame_no ht)))]
    decide
/-- what is read of a joined text, a comma behind it or not -/
theorem join4 (m : Int) {its : List (List Nat × List Nat)} (h0 : its ≠ []) (hp : ∀ p ∈ its, Reads1 p.1 p.2 ∧ Solid p.2) (cm : Bool) :
    ∃ ws, ((pparts (joinS (gapL m) (its.map Prod.fst) ++ if cm then [44] else [])).map fun w => Txt.strip (ofL w)) = ws.map ofL ∧ stepL (stepG m) ws = its.map Prod.snd := by
  obtain ⟨trail, lead, mid, s', G⟩ := gap4 m
  obtain ⟨P, lp, h1, h2, h3⟩ := join_read G its [] [] h0 hp (fun _ h => nomatch h)
  refine ⟨weave (stepG m) s' (its.map Prod.snd), ?_, weave_step (stepG_12 m) _⟩
  have e : pfold (joinS (gapL m) (its.map Prod.fst)) = (P, lp, false, false) := by unfold pfold; rw [h1]; simp
  cases cm
  · unfold pparts
    simp only [Bool.false_eq_true, if_false, List.append_nil]
    rw [e, if_neg h2]
    exact h3
  · have e2 : pfold (joinS (gapL m) (its.map Prod.fst) ++ [44]) = (P ++ [lp], [], false, false) := by
      rw [pfold_snoc, e]; simp [pstep]
    unfold pparts
    simp only [if_true]
    rw [e2, if_pos rfl]
    exact h3

/-- a pair whose key is one plain letter -/
def keyOk (p : List Nat × List Nat) : Prop := (p.1 = [114] ∨ p.1 = [110] ∨ p.1 = [97] ∨ p.1 = [111]) ∧ p.2.length ≤ 5 ∧ 10 ∉ p.2
theorem key_facts {p : List Nat × List Nat} (h : keyOk p) : 44 ∉ p.1 ∧ 34 ∉ p.1 ∧ 61 ∉ p.1 ∧ 10 ∉ p.1 ∧ p.1.length = 1 ∧ ∃ c, p.1 = [c] ∧ Unicode.isSpace c = false := by
  obtain ⟨h | h | h | h, _⟩ := h <;> rw [h] <;> exact ⟨by decide, by decide, by decide, by decide, rfl, _, rfl, by decide +kernel⟩
theorem esc_no {v : List Nat} (h : 10 ∉ v) : 10 ∉ escL v := by
  induction v with
  | nil => decide
  | cons c v ih =>
    rw [esc_cons]
    intro hm
    rcases List.mem_append.mp hm with hm | hm
    · split at hm
      · simp at hm
      · split at hm
        · simp at hm
        · rw [List.mem_singleton.mp hm] at h; exact h (List.mem_cons_self ..)
    · exact ih (fun hm => h (List.mem_cons_of_mem _ hm)) hm
theorem wr_no {p : List Nat × List Nat} (h : keyOk p) : 10 ∉ wrP p := by
  obtain ⟨_, _, _, h10, _⟩ := key_facts h
  have he := esc_no h.2.2
  unfold wrP
  simp only [List.mem_append, List.mem_cons, List.not_mem_nil, or_false]
  rintro (((h | h | h) | h) | h)
  · exact h10 h
  · cases h
  · cases h
  · exact he h
  · cases h
theorem qp_sol {p : List Nat × List Nat} (h : keyOk p) : Solid (qp p) := by
  obtain ⟨_, _, _, _, _, c, hc, hs⟩ := key_facts h
  refine ⟨by simp [qp], ?_, ?_⟩
  · intro d hd
    rw [qp, hc] at hd
    simp at hd
    rw [← hd]; exact hs
  · intro d hd
    have : (qp p).getLast? = some 34 := by
      unfold qp
      rw [show p.1 ++ 61 :: 34 :: (p.2 ++ [34]) = (p.1 ++ 61 :: 34 :: p.2) ++ [34] by simp, List.getLast?_concat]
    rw [this] at hd
    cases hd
    decide +kernel
def oL (m : Int) : List Nat := [111, 61] ++ plainL m
theorem o_reads (m : Int) : Reads1 (oL m) (oL m) := by
  unfold oL plainL
  split <;> · intro res part; simp [pstep]
theorem o_solid (m : Int) : Solid (oL m) := by
  unfold oL plainL
  split <;> exact ⟨by decide, fun c hc => by simp at hc; subst hc; decide +kernel, fun c hc => by simp at hc; subst hc; decide +kernel⟩
theorem o_no (m : Int) : 10 ∉ oL m := by unfold oL plainL; split <;> decide
def itW (ps : PL) : List (List Nat × List Nat) := ps.map fun p => (wrP p, qp p)
theorem itW_ok {ps : PL} (h : ∀ p ∈ ps, keyOk p) : ∀ q ∈ itW ps, Reads1 q.1 q.2 ∧ Solid q.2 := by
  intro q hq
  obtain ⟨p, hp, rfl⟩ := List.mem_map.mp hq
  obtain ⟨h1, h2, _⟩ := key_facts (h p hp)
  exact ⟨wr_read h1 h2, qp_sol (h p hp)⟩
theorem itW_no {ps : PL} (h : ∀ p ∈ ps, keyOk p) : ∀ q ∈ (itW ps).map Prod.fst, 10 ∉ q := by
  intro q hq
  obtain ⟨r, hr, rfl⟩ := List.mem_map.mp hq
  obtain ⟨p, hp, rfl⟩ := List.mem_map.mp hr
  exact wr_no (h p hp)
theorem itW_fst (ps : PL) : (itW ps).map Prod.fst = ps.map wrP := by simp [itW]
theorem itW_snd (ps : PL) : (itW ps).map Prod.snd = ps.map qp := by simp [itW]
theorem qp_ok {p : List Nat × List Nat} (h : keyOk p) : (qp p).length ≤ 1000 ∧ ∃ k r, qp p = k ++ 61 :: r ∧ 61 ∉ k ∧ r ≠ [] := by
  obtain ⟨_, _, h61, _, hl, _⟩ := key_facts h
  have h5 := h.2.1
  refine ⟨?_, p.1, _, rfl, h61, by simp⟩
  unfold qp
  simp only [List.length_append, List.length_cons, List.length_nil]
  omega
theorem o_ok (m : Int) : (oL m).length ≤ 1000 ∧ ∃ k r, oL m = k ++ 61 :: r ∧ 61 ∉ k ∧ r ≠ [] := by
  have h := plainL_len m
  refine ⟨?_, [111], plainL m, rfl, by decide, ?_⟩
  · unfold oL; simp only [List.length_append, List.length_cons, List.length_nil]; omega
  · unfold plainL; split <;> simp
theorem o_key (m : Int) : keyOf (oL m) = [111] := keyOf_app (k := [111]) (by decide)
theorem o_val (m : Int) : valOf (oL m) = plainL m := by
  show valOf ([111] ++ 61 :: plainL m) = plainL m
  rw [valOf_app (by decide)]
  unfold plainL
  split <;> decide

end
section
open PySem PySem.W PyProof.Rows PySem.Calls
theorem k114 : 61 ∉ ([114] : List Nat) := by decide
theorem k110 : 61 ∉ ([110] : List Nat) := by decide
theorem k97 : 61 ∉ ([97] : List Nat) := by decide
theorem text_no (n : Int) : 10 ∉ textL n := fun h => by
  have := textL_sign n 10 h
  unfold sign7 at this
  omega
noncomputable def hdI (mm : Int) (rl : List Nat) (i : Nat) : PL := [([110], [111, 108, 100]), ([114], rl), ([110], textL (mm + i))]
theorem hdI_ok {mm : Int} {rl : List Nat} (hr : rl.length ≤ 2) (hr10 : 10 ∉ rl) (i : Nat) : ∀ p ∈ hdI mm rl i, keyOk p := by
  have ht := textL_len (mm + i)
  unfold hdI
  simp only [List.forall_mem_cons]
  exact ⟨⟨.inr (.inl rfl), by decide, by decide⟩, ⟨.inl rfl, Nat.le_trans hr (by decide), hr10⟩, ⟨.inr (.inl rfl), Nat.le_trans ht (by decide), text_no _⟩, fun _ h => nomatch h⟩
theorem headL_join (mm : Int) (rl g : List Nat) (i : Nat) : headL mm rl g i = joinS g (oL mm :: (hdI mm rl i).map wrP) := by
  unfold headL oL hdI writtenL
  simp only [List.map_cons, List.map_nil, joinS, List.append_assoc]
theorem head_its {mm : Int} {rl : List Nat} (hr : rl.length ≤ 2) (hr10 : 10 ∉ rl) (i : Nat) : ∀ q ∈ (oL mm, oL mm) :: itW (hdI mm rl i), Reads1 q.1 q.2 ∧ Solid q.2 :=
  List.forall_mem_cons.mpr ⟨⟨o_reads mm, o_solid mm⟩, itW_ok (hdI_ok hr hr10 i)⟩
theorem head_no {mm : Int} {rl : List Nat} (hr : rl.length ≤ 2) (hr10 : 10 ∉ rl) (i : Nat) : ∀ q ∈ oL mm :: (hdI mm rl i).map wrP, 10 ∉ q := by
  refine List.forall_mem_cons.mpr ⟨o_no mm, ?_⟩
  rw [← itW_fst]
  exact itW_no (hdI_ok hr hr10 i)
theorem head_good {mm : Int} {rl : List Nat} (hr : rl.length ≤ 2) (hr10 : 10 ∉ rl) (i : Nat) : ∀ v ∈ oL mm :: (hdI mm rl i).map qp, v.length ≤ 1000 ∧ ∃ k r, v = k ++ 61 :: r ∧ 61 ∉ k ∧ r ≠ [] := by
  refine List.forall_mem_cons.mpr ⟨o_ok mm, fun v hv => ?_⟩
  obtain ⟨p, hp, rfl⟩ := List.mem_map.mp hv
  exact qp_ok (hdI_ok hr hr10 i p hp)
theorem reads_head {mm : Int} {rl : List Nat} (hr : rl.length ≤ 2) (hr10 : 10 ∉ rl) (i : Nat) : Reads (headL mm rl (gapL mm) i) (cliP mm rl (textL (mm + i))) := by
  obtain ⟨ws, h1, h2⟩ := join4 mm (its := (oL mm, oL mm) :: itW (hdI mm rl i)) (by simp) (head_its hr hr10 i) false
  simp only [List.map_cons, itW_fst, itW_snd, Bool.false_eq_true, if_false, List.append_nil] at h1 h2
  have hs := step_join (m := mm) (x := oL mm) (y := wrP ([110], [111, 108, 100])) (r := [wrP ([114], rl), wrP ([110], textL (mm + i))]) (tl := []) (head_no hr hr10 i) (by simp)
  rw [List.append_nil] at hs
  rw [Reads, headL_join]
  refine ⟨?_, ws, _, h1, rfl, ?_, ?_⟩
  · rw [← headL_join]; exact Nat.le_trans (headL_len (gapL_len mm) hr i) (by decide)
  · rw [show stepOf (joinS (gapL mm) (oL mm :: (hdI mm rl i).map wrP)) = stepG mm from hs, h2]
    exact head_good hr hr10 i
  · rw [show stepOf (joinS (gapL mm) (oL mm :: (hdI mm rl i).map wrP)) = stepG mm from hs, h2]
    unfold keqP hdI
    simp only [List.map_cons, List.map_nil, List.foldl_cons, List.foldl_nil, o_key, o_val, qp_key (p := ([110], [111, 108, 100])) k110, qp_val (p := ([110], [111, 108, 100])) k110, qp_key (p := ([114], rl)) k114, qp_val (p := ([114], rl)) k114, qp_key (p := ([110], textL (mm + i))) k110, qp_val (p := ([110], textL (mm + i))) k110]
    simp [putP, cliP]
theorem ans_ok {rl nc ky : List Nat} (hr : rl.length ≤ 2) (hr10 : 10 ∉ rl) (hn : nc.length ≤ 2) (hn10 : 10 ∉ nc) (hk : ky.length ≤ 1) (hk10 : 10 ∉ ky) : ∀ p ∈ ansL rl nc ky, keyOk p := by
  unfold ansL
  simp only [List.forall_mem_cons]
  refine ⟨⟨.inl rfl, Nat.le_trans hr (by decide), hr10⟩, ⟨.inr (.inl rfl), Nat.le_trans hn (by decide), hn10⟩, ⟨.inr (.inr (.inl rfl)), ?_, ?_⟩, fun _ h => nomatch h⟩
  · simp only [List.length_append, List.length_reverse]; omega
  · intro h
    rcases List.mem_append.mp h with h | h
    · exact hk10 h
    · exact hn10 (List.mem_reverse.mp h)
theorem reads_sent {mm : Int} {rl nc ky : List Nat} (hr : rl.length ≤ 2) (hr10 : 10 ∉ rl) (hn : nc.length ≤ 2) (hn10 : 10 ∉ nc) (hk : ky.length ≤ 1) (hk10 : 10 ∉ ky) : Reads (writtenL (ansL rl nc ky) (gapL mm) ++ [44]) (ansL rl nc ky) := by
  have ho := ans_ok hr hr10 hn hn10 hk hk10
  obtain ⟨ws, h1, h2⟩ := join4 mm (its := itW (ansL rl nc ky)) (by simp [itW, ansL]) (itW_ok ho) true
  simp only [itW_fst, itW_snd, if_true] at h1 h2
  have hs := step_join (m := mm) (x := wrP ([114], rl)) (y := wrP ([110], nc)) (r := [wrP ([97], ky ++ nc.reverse)]) (tl := [44]) (by have := itW_no ho; rw [itW_fst] at this; exact this) (by simp)
  have hs2 : stepOf (writtenL (ansL rl nc ky) (gapL mm) ++ [44]) = stepG mm := hs
  refine ⟨?_, ws, _, h1, rfl, ?_, ?_⟩
  · have hg := gapL_len mm
    have w1 := wrP_len ([114], rl)
    have w2 := wrP_len ([110], nc)
    have w3 := wrP_len ([97], ky ++ nc.reverse)
    simp only [List.length_cons, List.length_nil, List.length_append, List.length_reverse] at w1 w2 w3
    simp only [writtenL, ansL, List.map_cons, List.map_nil, joinS, List.length_append, List.length_cons, List.length_nil]
    omega
  · rw [hs2, h2]
    intro v hv
    obtain ⟨p, hp, rfl⟩ := List.mem_map.mp hv
    exact qp_ok (ho p hp)
  · rw [hs2, h2]
    unfold keqP ansL
    simp only [List.map_cons, List.map_nil, List.foldl_cons, List.foldl_nil, qp_key (p := ([114], rl)) k114, qp_val (p := ([114], rl)) k114, qp_key (p := ([110], nc)) k110, qp_val (p := ([110], nc)) k110, qp_key (p := ([97], ky ++ nc.reverse)) k97, qp_val (p := ([97], ky ++ nc.reverse)) k97]
    simp [putP]
theorem bad_head {mm : Int} {rl z b tl : List Nat} (hr : rl.length ≤ 2) (hr10 : 10 ∉ rl) (hz : z = b ++ tl) (h10 : 10 ∉ z) (hz1 : Reads1 z z) (hz2 : Solid z) (hzl : z.length ≤ 10) (hb : b.length ≤ 1000) (h61 : 61 ∉ b) : ReadsBad (headL mm rl (gapL mm) 0 ++ (gapL mm ++ z)) tl := by
  have e : headL mm rl (gapL mm) 0 ++ (gapL mm ++ z) = joinS (gapL mm) (oL mm :: (hdI mm rl 0).map wrP ++ [z]) := by rw [headL_join, joinS_snoc _ _ _ (by simp)]
  obtain ⟨ws, h1, h2⟩ := join4 mm (its := ((oL mm, oL mm) :: itW (hdI mm rl 0)) ++ [(z, z)]) (by simp) (fun q hq => by
    rcases List.mem_append.mp hq with hq | hq
    · exact head_its hr hr10 0 q hq
    · rw [List.mem_singleton.mp hq]; exact ⟨hz1, hz2⟩) false
  simp only [List.map_append, List.map_cons, List.map_nil, itW_fst, itW_snd, Bool.false_eq_true, if_false, List.append_nil] at h1 h2
  have hs := step_join (m := mm) (x := oL mm) (y := wrP ([110], [111, 108, 100])) (r := [wrP ([114], rl), wrP ([110], textL (mm + (0 : Nat)))] ++ [z]) (tl := []) (fun p hp => by
    rcases List.mem_append.mp (show p ∈ (oL mm :: (hdI mm rl 0).map wrP) ++ [z] from hp) with hp | hp
    · exact head_no hr hr10 0 p hp
    · rw [List.mem_singleton.mp hp]; exact h10) (by simp)
  rw [List.append_nil] at hs
  have hs2 : stepOf (joinS (gapL mm) (oL mm :: (hdI mm rl 0).map wrP ++ [z])) = stepG mm := hs
  rw [ReadsBad, e]
  refine ⟨?_, ws, oL mm :: (hdI mm rl 0).map qp, b, h1, ?_, head_good hr hr10 0, hb, h61⟩
  · rw [← e]
    have h := headL_len (mm := mm) (gapL_len mm) hr 0
    have hg := gapL_len mm
    simp only [List.length_append]
    omega
  · rw [hs2, h2, hz]
theorem bad3 {mm : Int} {rl : List Nat} (hr : rl.length ≤ 2) (hr10 : 10 ∉ rl) : ReadsBad (headK 3 (gapL mm) (headL mm rl (gapL mm) 0)) [] :=
  bad_head hr hr10 (b := brk) (List.append_nil _).symm (by decide) (reads_plain (by decide) (by decide)) brk_solid (by decide) (by decide) (by decide)
theorem bad4 {mm : Int} {rl : List Nat} (hr : rl.length ≤ 2) (hr10 : 10 ∉ rl) : ReadsBad (headK 4 (gapL mm) (headL mm rl (gapL mm) 0)) [61] :=
  bad_head hr hr10 (z := [120, 61]) (b := [120]) rfl (by decide) (reads_plain (by decide) (by decide)) ⟨by decide, fun c hc => by simp at hc; subst hc; decide +kernel, fun c hc => by simp at hc; subst hc; decide +kernel⟩ (by decide) (by decide) (by decide)

end
section
open PySem PySem.W PyProof.Rows PySem.Calls PyProof.V

section
variable {w : World} {p : Program} {loose : List Str} {mean : ExcName → Option Value} {mg mb : Str → Option Value}
  {dp un : Nat} {gd : Option (List Code)} {cn : Str} {cs : Scope} {a : Addr} {ccd : Value} {cl : List (Str × Addr)} {outer : List Env} {A₀ : Around} {base h₀ : Heap} {L : Addr} {m : Str → Option Value} {s : Shared} {Q E : Value → Shared → Prop}

theorem session_t {lg : Nat} {n : Int} {tn : Tok} {kn rest : List (Addr × Obj)} {n1 : Nat} {tb : Array Value} {th0 : Tok} {hdr : List Nat} {ps : PL}
    (B : Below A₀ h₀ [] h₀) (F : Fr h₀ L s.heap m) (T : Top p loose mean mg mb h₀) (hk : cs.kind = .function) (hdp : dp + 70 < recursionLimit) (hun : un + 1300 < cLine) (hC : CodeHd h₀ 119 115)
    (hkn : (kn = [] ∧ tb = #[]) ∨ ∃ PT pt, kn = [(PT, tabObj pt)] ∧ TabK tb pt PT rest) (hcn : ∀ t ∈ kn, (∀ q ∈ rest, @Ne Nat q.1 t.1)) (hrd : Reads hdr ps) (hpl : ps.length ≤ 10) (hpo : ∀ p ∈ ps, lowP p) (hoff : ∀ q ∈ kn ++ rest, @Ne Nat q.1 lg ∧ @Ne Nat q.1 115) (hne : @Ne Nat lg 115)
    (N : News h₀ L s.heap ((lg, listOf [].toArray n1) :: (115, tabObj tb) :: (kn ++ rest)))
    (hret : ∀ (Rt : Nat) (led : List (Addr × Obj)) (h' : Heap) (tk' : Nat), Fr h₀ L h' m → News h₀ L h' led → SesOut w n (gapL (n.fdiv 6)) hdr ps lg rest Rt led → Q (.ref Rt) { s with heap := h', toks := tk' }) (X : (hd.heap_39 w.params).In h₀) :
    wpAny (model PySem.Challenge.rw_dn0255_04.row.prog w) (ktrTop dp un gd cn cs L a ccd [] []) (call (.ref 120) [.int n tn, .str (ofL hdr) th0, .ref lg]) Q E s := by
  revert X; k_fill; intro X
  have hKst := kstMark
  w_top off

  refine wpAny_call ?_
  k_dflt (refine' code_cellsS0 (binds := [(Str.ofString "n", .int n tn), (Str.ofString "header", .str (ofL hdr) th0), (Str.ofString "log", .ref lg)]) B F X N T rfl ?k6 ?k7 ?k8 ?k9 ?kB ?kD ?_ hk ?c2 ?c3 ?c4; (case k6 => k_is); (case k7 => k_is); (case k8 => ((try simp only [depth_in1, depth_deeper, depth_caller]); (try dsimp only [ktrTop]); omega)); (case k9 => exact BindsTo.of_eq rfl); (case kB => exact rfl); (case kD => decide +kernel); (case c2 => exact rfl); (case c3 => exact rfl); (case c4 => exact rfl); k_whole; intro g' L' h' tk' cells' FG' F' N' Y' B' X' T' D' l')
  obtain ⟨oR, oX0, oP0, oM, oK, oG, oS0, oL, rfl, dR, dX0, dP0, dM, dK, dG, dS0, dL⟩ := CellsAre.eight Y'
  simp only [List.cons_append, List.nil_append] at N'
  clear Y'
  have k1 : @LT.lt Nat _ lg L' := l' _ (List.mem_cons_self ..)
  have k2 : @LT.lt Nat _ 115 L' := l' (115, tabObj tb) (List.mem_cons_of_mem _ (List.mem_cons_self ..))
  have hr2 : (rlm n).length ≤ 2 := textL_len _
  have hr0 : 10 ∉ rlm n := text_no _
  have hky : (keyL (n.fmod 6)).length ≤ 1 ∧ 10 ∉ keyL (n.fmod 6) := by unfold keyL; split <;> decide
  k_dflt (refine' ses_a1 (cL := L' + 1) (outer := [envOf cn cs L a ccd]) (th0 := th0) (tn := tn) (n := n) (n1 := n1) (hdr := hdr) (ps := ps) (kn := kn) (rest := rest) (lg := lg) (tl := kn ++ rest) rfl B' X T D' ?hEf9 F' ?hm9 T' ?hd9 ?hu9 (CodeHd.keeps hC (Below.stays B')) dG dK dL dM dR dS0 dP0 dX0 rfl hkn hcn hrd hpl hpo (fun i => reads_head hr2 hr0 i) (fun i => reads_sent hr2 hr0 (textL_len _) (text_no _) hky.1 hky.2) (bad3 hr2 hr0) (bad4 hr2 hr0) ?hoff9 hne ?hlt9 N' ?hret9 X')
  case hEf9 => exact fun e => by passes_own
  case hm9 => simp only [List.forall_mem_cons]; exact ⟨rfl, rfl, fun _ h => nomatch h⟩
  case hd9 => omega
  case hu9 => omega
  case hoff9 => exact fun q hq => ⟨(hoff q hq).1, (hoff q hq).2, Nat.lt_succ_of_lt (l' q (List.mem_cons_of_mem _ (List.mem_cons_of_mem _ hq)))⟩
  case hlt9 => refine ⟨?_, ?_, ?_, ?_, ?_, ?_, ?_, ?_, ?_⟩ <;> omega
  case hret9 =>
    intro Rt led g9 h9 tk9 m9 KT FE NE hO
    exact ⟨g9, _, m9, led, KT, FE, NE, fun F0 N0 => hret Rt led _ _ F0 N0 hO⟩

end

end
open PySem PySem.W PyProof.Rows PySem.Calls PyProof.V
local macro_rules | `(tactic| walk_at "binaryOp Add ref ref") => `(tactic| (k_here; k_dflt (refine' cat_t ?F ?N ?a ?b ?z ?_; (case F | N => k_asm); (case a | b => walk_at "mem_go"); (case z => (simp only [List.length_drop, List.length_dropLast, List.length_cons, List.length_nil, List.length_reverse]; omega))); intro D' h' F' N' l1; (try k_lt l1)))
section
open PySem PySem.W PyProof.Rows PySem.Calls PyProof.V

noncomputable def forBody : Stmt → List Stmt
  | .For _ _ b _ _ => b
  | _ => []
noncomputable def dueDef : Stmt := (PySem.Challenge.pw_dn0255_04.main.body.getD 12 default)
noncomputable def dueTurn : List Stmt := forBody ((defBody dueDef).getD 6 default)
noncomputable def dueEnd : List Stmt := (defBody dueDef).drop 7
theorem cutQ2 {M : Model} {A : Around} {x : Sem Value} {E Q : Value → Shared → Prop} {s : Shared} {V : Tok → Value} (main : ∀ t' tk', Q (V t') { s with toks := tk' }) (side : ∀ Q' : Value → Shared → Prop, (∀ t' tk', Q' (V t') { s with toks := tk' }) → wpAny M A x Q' E s) : wpAny M A x Q E s := side Q main
theorem due_ext {pre tl nx rest : List (Addr × Obj)} {I lg : Nat} {oI ol : Obj} (hE : Ext ((lg, ol) :: rest) rest nx) (h1 : ∀ q ∈ pre, ∀ r ∈ tl ++ (I, oI) :: (lg, ol) :: nx, @LT.lt Nat _ r.1 q.1) (h2 : ∀ q ∈ tl, ∀ r ∈ (I, oI) :: (lg, ol) :: nx, @LT.lt Nat _ r.1 q.1) :
    Ext ((lg, ol) :: rest) rest (pre ++ (tl ++ nx)) ∧ ∀ q ∈ pre ++ (tl ++ nx), q ∈ nx ∨ @LT.lt Nat _ I q.1 := by
  have hs : ∀ r ∈ (lg, ol) :: rest, r ∈ (I, oI) :: (lg, ol) :: nx := fun r hr => by
    rcases List.mem_cons.mp hr with rfl | hr
    · exact List.mem_cons_of_mem _ (List.mem_cons_self ..)
    · exact List.mem_cons_of_mem _ (List.mem_cons_of_mem _ (hE.old r hr))
  refine ⟨(hE.app fun q hq r hr => h2 q hq r (hs r hr)).app fun q hq r hr => h1 q hq r (List.mem_append_right _ (hs r hr)), fun q hq => ?_⟩
  rcases List.mem_append.mp hq with hq | hq
  · exact .inr (h1 q hq (I, oI) (List.mem_append_right _ (List.mem_cons_self ..)))
  · rcases List.mem_append.mp hq with hq | hq
    · exact .inr (h2 q hq (I, oI) (List.mem_cons_self ..))
    · exact .inl hq
theorem news_out2 {h₀ h : Heap} {L : Addr} {i l : Addr × Obj} {tl nx : List (Addr × Obj)} (pre : List (Addr × Obj)) (N : News h₀ L h (pre ++ (tl ++ i :: l :: nx))) : News h₀ L h (i :: l :: (pre ++ (tl ++ nx))) := fun q hq => N q (by
  simp only [List.mem_cons, List.mem_append] at hq ⊢
  rcases hq with h | h | h | h | h
  · exact .inr (.inr (.inl h))
  · exact .inr (.inr (.inr (.inl h)))
  · exact .inl h
  · exact .inr (.inl h)
  · exact .inr (.inr (.inr (.inr h))))
theorem due_fin {h₀ h : Heap} {L : Addr} {tl nx rest : List (Addr × Obj)} {I lg : Nat} {oI ol : Obj} (pre : List (Addr × Obj)) (N : News h₀ L h (pre ++ (tl ++ (I, oI) :: (lg, ol) :: nx))) (hE : Ext ((lg, ol) :: rest) rest nx) (h2 : ∀ q ∈ tl, ∀ r ∈ (I, oI) :: (lg, ol) :: nx, @LT.lt Nat _ r.1 q.1) (h1 : ∀ q ∈ pre, ∀ r ∈ tl ++ (I, oI) :: (lg, ol) :: nx, @LT.lt Nat _ r.1 q.1) :
    News h₀ L h ((I, oI) :: (lg, ol) :: (pre ++ (tl ++ nx))) ∧ Ext ((lg, ol) :: rest) rest (pre ++ (tl ++ nx)) ∧ ∀ q ∈ pre ++ (tl ++ nx), q ∈ nx ∨ @LT.lt Nat _ I q.1 := ⟨news_out2 pre N, due_ext hE h1 h2⟩
theorem aR1 {a b : Prop} (h : a ∧ b) : b := h.2
theorem aR2 {a b c : Prop} (h : a ∧ b ∧ c) : c := h.2.2
theorem aR3 {a b c d : Prop} (h : a ∧ b ∧ c ∧ d) : d := h.2.2.2
theorem aR4 {a b c d e : Prop} (h : a ∧ b ∧ c ∧ d ∧ e) : e := h.2.2.2.2
theorem aR5 {a b c d e f : Prop} (h : a ∧ b ∧ c ∧ d ∧ e ∧ f) : f := h.2.2.2.2.2
theorem aR6 {a b c d e f g : Prop} (h : a ∧ b ∧ c ∧ d ∧ e ∧ f ∧ g) : g := h.2.2.2.2.2.2
theorem aR7 {a b c d e f g i : Prop} (h : a ∧ b ∧ c ∧ d ∧ e ∧ f ∧ g ∧ i) : i := h.2.2.2.2.2.2.2
theorem aR8 {a b c d e f g i j : Prop} (h : a ∧ b ∧ c ∧ d ∧ e ∧ f ∧ g ∧ i ∧ j) : j := h.2.2.2.2.2.2.2.2

section
variable {w : World} {p : Program} {loose : List Str} {mean : ExcName → Option Value} {mg mb : Str → Option Value}
  {dp un : Nat} {gd : Option (List Code)} {outer : List Env} {A₀ : Around} {base h₀ : Heap} {L : Addr} {m : Str → Option Value} {s : Shared} {Qf : Flow → Shared → Prop} {Ef : Value → Shared → Prop}

theorem due_turn {n : Int} {t1 t2 t3 ti : Tok} {lg i S K nS nK I : Nat} {ol oI : Obj} {sv kv : List Value} {rest nx : List (Addr × Obj)} {ps : PL}
    (B : Below A₀ base outer h₀) (F : Fr h₀ L s.heap m) (hm : ∀ q ∈ [(Str.ofString "kind", Value.int (n.fmod 6) t1), (Str.ofString "m", Value.int (n.fdiv 6) t2), (Str.ofString "realm", Value.str (ofL (rlm n)) t3), (Str.ofString "story", Value.ref S), (Str.ofString "sent", Value.ref K), (Str.ofString "count", Value.int (i : Int) ti)], m q.1 = some q.2) (T : Top p loose mean mg mb h₀) (hdp : dp + 2 < recursionLimit) (hun : un + 20 < cLine)
    (hE : Ext ((lg, ol) :: rest) rest nx) (hS : (S, listOf sv.toArray nS) ∈ nx) (hsl : sv.length ≤ 2 + 3 * i) (hi : i < 2) (hD : DatAll nx sv (storyD (n.fmod 6) (n.fdiv 6) (rlm n) ps i)) (hK : (K, listOf kv.toArray nK) ∈ nx) (hDk : DatAll nx kv ((sentP (n.fmod 6) (n.fdiv 6) (rlm n) ps i).map prD))
    (N : News h₀ L s.heap ((I, oI) :: (lg, ol) :: nx))
    (hret : ∀ (S K nS nK : Nat) (sv kv : List Value) (nx' : List (Addr × Obj)) (h' : Heap) (tk' : Nat) (m' : Str → Option Value), (∀ q ∈ [(Str.ofString "kind", Value.int (n.fmod 6) t1), (Str.ofString "m", Value.int (n.fdiv 6) t2), (Str.ofString "realm", Value.str (ofL (rlm n)) t3), (Str.ofString "story", Value.ref S), (Str.ofString "sent", Value.ref K)], m' q.1 = some q.2) → Fr h₀ L h' m' → News h₀ L h' ((I, oI) :: (lg, ol) :: nx') → (∀ q ∈ nx', q ∈ nx ∨ @LT.lt Nat _ I q.1) → Ext ((lg, ol) :: rest) rest nx' → (S, listOf sv.toArray nS) ∈ nx' → sv.length ≤ 2 + 3 * (i + 1) → DatAll nx' sv (storyD (n.fmod 6) (n.fdiv 6) (rlm n) ps (i + 1)) → (K, listOf kv.toArray nK) ∈ nx' → DatAll nx' kv ((sentP (n.fmod 6) (n.fdiv 6) (rlm n) ps (i + 1)).map prD) → Qf .next { s with heap := h', toks := tk' }) (X : (hd.heap_39 w.params).In h₀) :
    wpAny (model PySem.Challenge.rw_dn0255_04.row.prog w) (ktrTop dp un gd (Str.ofString "_law_due") (defScope dueDef) L 127 (.ref 126) [] outer) (execs dueTurn (envOf (Str.ofString "_law_due") (defScope dueDef) L 127 (.ref 126))) Qf Ef s := by
  revert X; k_fill; intro X
  have hKst := kstMark
  w_top off

  rw [kst_self hm] at F
  simp only [dueTurn, dueEnd, dueDef, forBody, defBody, defScope, PySem.Challenge.pw_dn0255_04, List.getD_cons_zero, List.getD_cons_succ, List.drop_succ_cons, List.drop_zero]
  have hdl := dat_len hD
  have htl := textL_len (n.fdiv 6 + i)
  have hrl : (rlm n).length ≤ 2 := textL_len _
  have hkyl := keyL_len (n.fmod 6)
  repeat' ((fail_if_success (with_reducible show wpAny _ _ (call (Value.ref 85) _ _) _ _ _)); (first | (k_unfold; (try dsimp only)) | (k_end; wrow_close) | walk1 | (dsimp only; walk1) | (leave1; walk_say "STEP leave1"; try dsimp only) | fail "no step"))
  (k_dflt (refine' text_t ?qB1 ?qF1 ?qT1 ?qh1 ?qd1 ?qu1 ?qN1 ?qr1 ?qX1; (case qh1 => rfl); (case qF1 => k_asm); (case qB1 => k_asm); (case qT1 => k_asm); (case qX1 => k_asm); (case qN1 => k_asm))); (case qd1 => ktr_room); (case qu1 => ktr_units)
  intro h1 tk1 tt1 F1 N1
  have ho1 : (ofL (textL (n.fdiv 6 + ↑i))).length ≤ 2 := by rw [ofL_length]; exact htl
  have ho2 : (ofL (rlm n)).length ≤ 2 := by rw [ofL_length]; exact hrl
  repeat' ((fail_if_success (with_reducible show wpAny _ _ (eval (Expr.IfExp _ _ _ _) _) _ _ _)); (first | (k_unfold; (try dsimp only)) | (k_end; wrow_close) | walk1 | (dsimp only; walk1) | (leave1; walk_say "STEP leave1"; try dsimp only) | fail "no step"))
  refine cutQ2 (V := fun t => .str (ofL (keyL (n.fmod 6))) t) ?main ?side
  case side =>
    intro Q' hQ
    repeat' (first | (k_unfold; (try dsimp only)) | (k_end; wrow_close) | walk1 | (dsimp only; walk1) | (leave1; walk_say "STEP leave1"; try dsimp only) | fail "no step")
    · rw [key_2 (by assumption)]; exact hQ _ _
    · rw [key_k (by assumption)]; exact hQ _ _
  intro tky tkz
  repeat' ((fail_if_success (with_reducible show wpAny _ _ (call (Value.ref 113) _ _) _ _ _)); (first | (k_unfold; (try dsimp only)) | (k_end; wrow_close) | walk1 | (dsimp only; walk1) | (leave1; walk_say "STEP leave1"; try dsimp only) | fail "no step"))
  (k_dflt (refine' answered_t (r := rlm n) (n := textL (n.fdiv 6 + ↑i)) (k := keyL (n.fmod 6)) ?qB2 ?qF2 ?qT2 ?qh2 ?qd2 ?qu2 ?ql2 ?qm2 ?qo2 ?qN2 ?qr2 ?qX2; (case qh2 => rfl); (case qF2 => k_asm); (case qB2 => k_asm); (case qT2 => k_asm); (case qX2 => k_asm); (case qN2 => k_asm); (case ql2 => omega); (case qm2 => omega); (case qo2 => omega))); (case qd2 => ktr_room); (case qu2 => ktr_units)
  intro D5 ys5 k5 tl5 h5 tk5 F5 N5 hd5 hn5
  repeat' ((fail_if_success (with_reducible show wpAny _ _ (call (Value.ref 99) _ _) _ _ _)); (first | (k_unfold; (try dsimp only)) | (k_end; wrow_close) | walk1 | (dsimp only; walk1) | (leave1; walk_say "STEP leave1"; try dsimp only) | fail "no step"))
  (k_dflt (refine' plain_t ?qB3 ?qF3 ?qT3 ?qh3 ?qd3 ?qu3 ?qN3 ?qr3 ?qX3; (case qh3 => rfl); (case qF3 => k_asm); (case qB3 => k_asm); (case qT3 => k_asm); (case qX3 => k_asm); (case qN3 => k_asm))); (case qd3 => ktr_room); (case qu3 => ktr_units)
  intro h6 tk6 tt6 F6 N6
  repeat' (first | (k_unfold; (try dsimp only)) | (k_end; wrow_close) | walk1 | (dsimp only; walk1) | (leave1; walk_say "STEP leave1"; try dsimp only) | fail "no step")
  · rename News _ _ _ _ => N9
    rename Fr _ _ _ _ => F9
    rename n.fmod 6 = 2 => h6
    rename (LT.lt D5 _ ∧ AllLt _ _) => l0; rename (_ < _ ∧ LT.lt D5 _ ∧ AllLt _ _) => l1; rename (_ < _ ∧ _ < _ ∧ LT.lt D5 _ ∧ AllLt _ _) => l2; rename (_ < _ ∧ _ < _ ∧ _ < _ ∧ LT.lt D5 _ ∧ AllLt _ _) => l3; rename (_ < _ ∧ _ < _ ∧ _ < _ ∧ _ < _ ∧ LT.lt D5 _ ∧ AllLt _ _) => l4; rename (_ < _ ∧ _ < _ ∧ _ < _ ∧ _ < _ ∧ _ < _ ∧ LT.lt D5 _ ∧ AllLt _ _) => l5; rename (_ < _ ∧ _ < _ ∧ _ < _ ∧ _ < _ ∧ _ < _ ∧ _ < _ ∧ LT.lt D5 _ ∧ AllLt _ _) => l6; rename (_ < _ ∧ _ < _ ∧ _ < _ ∧ _ < _ ∧ _ < _ ∧ _ < _ ∧ _ < _ ∧ LT.lt D5 _ ∧ AllLt _ _) => l7; rename (_ < _ ∧ _ < _ ∧ _ < _ ∧ _ < _ ∧ _ < _ ∧ _ < _ ∧ _ < _ ∧ _ < _ ∧ LT.lt D5 _ ∧ AllLt _ _) => l8
    have hF := due_fin (tl := (D5, listOf ys5.toArray k5) :: tl5) [_, _, _, _, _, _, _, _, _] N9 hE (fun q hq => hn5 q hq) (List.forall_mem_cons.mpr ⟨lt_of (aR8 l8), List.forall_mem_cons.mpr ⟨lt_of (aR7 l7), List.forall_mem_cons.mpr ⟨lt_of (aR6 l6), List.forall_mem_cons.mpr ⟨lt_of (aR5 l5), List.forall_mem_cons.mpr ⟨lt_of (aR4 l4), List.forall_mem_cons.mpr ⟨lt_of (aR3 l3), List.forall_mem_cons.mpr ⟨lt_of (aR2 l2), List.forall_mem_cons.mpr ⟨lt_of (aR1 l1), List.forall_mem_cons.mpr ⟨lt_of l0, fun _ h => nomatch h⟩⟩⟩⟩⟩⟩⟩⟩⟩)
    refine hret _ D5 _ _ (sv ++ [_, _] ++ [_]) ys5 _ _ _ _ (by simp only [List.forall_mem_cons]; exact ⟨rfl, rfl, rfl, rfl, rfl, fun _ h => nomatch h⟩) F9 hF.1 hF.2.2 hF.2.1 (by walk_at "mem_go") ?x31 ?x41 (by walk_at "mem_go") (hd5.mono fun q hq => by walk_at "mem_go")
    case x31 => (simp only [List.length_append, List.length_cons, List.length_nil]; omega)
    case x41 =>
      rw [story_succ, stepD, if_pos h6]
      rw [List.append_assoc]
      refine dat_app (hD.mono fun q hq => by walk_at "mem_go") ?_
      exact .cons (cli_in (ks := [_, _, _]) (by walk_at "mem_go") (by walk_at "mem_go") (dat_three (p1 := ([111], plainL (n.fdiv 6))) (p2 := ([110], textL (n.fdiv 6 + ↑i))) (p3 := ([114], rlm n)) (by walk_at "mem_go") (by walk_at "mem_go") (by walk_at "mem_go") rl_o rfl rl_n rfl rl_r rfl)) (.cons (srv_in (K := D5) (ks := ys5) (by walk_at "mem_go") (by walk_at "mem_go") (hd5.mono fun q hq => by walk_at "mem_go")) (.cons (ht_in (by walk_at "mem_go")) .nil))
  · rename News _ _ _ _ => N9
    rename Fr _ _ _ _ => F9
    rename n.fmod 6 ≠ 2 => h6
    rename (LT.lt D5 _ ∧ AllLt _ _) => l0; rename (_ < _ ∧ LT.lt D5 _ ∧ AllLt _ _) => l1; rename (_ < _ ∧ _ < _ ∧ LT.lt D5 _ ∧ AllLt _ _) => l2; rename (_ < _ ∧ _ < _ ∧ _ < _ ∧ LT.lt D5 _ ∧ AllLt _ _) => l3; rename (_ < _ ∧ _ < _ ∧ _ < _ ∧ _ < _ ∧ LT.lt D5 _ ∧ AllLt _ _) => l4; rename (_ < _ ∧ _ < _ ∧ _ < _ ∧ _ < _ ∧ _ < _ ∧ LT.lt D5 _ ∧ AllLt _ _) => l5; rename (_ < _ ∧ _ < _ ∧ _ < _ ∧ _ < _ ∧ _ < _ ∧ _ < _ ∧ LT.lt D5 _ ∧ AllLt _ _) => l6; rename (_ < _ ∧ _ < _ ∧ _ < _ ∧ _ < _ ∧ _ < _ ∧ _ < _ ∧ _ < _ ∧ LT.lt D5 _ ∧ AllLt _ _) => l7
    have hF := due_fin (tl := (D5, listOf ys5.toArray k5) :: tl5) [_, _, _, _, _, _, _, _] N9 hE (fun q hq => hn5 q hq) (List.forall_mem_cons.mpr ⟨lt_of (aR7 l7), List.forall_mem_cons.mpr ⟨lt_of (aR6 l6), List.forall_mem_cons.mpr ⟨lt_of (aR5 l5), List.forall_mem_cons.mpr ⟨lt_of (aR4 l4), List.forall_mem_cons.mpr ⟨lt_of (aR3 l3), List.forall_mem_cons.mpr ⟨lt_of (aR2 l2), List.forall_mem_cons.mpr ⟨lt_of (aR1 l1), List.forall_mem_cons.mpr ⟨lt_of l0, fun _ h => nomatch h⟩⟩⟩⟩⟩⟩⟩⟩)
    refine hret _ D5 _ _ (sv ++ [_, _]) ys5 _ _ _ _ (by simp only [List.forall_mem_cons]; exact ⟨rfl, rfl, rfl, rfl, rfl, fun _ h => nomatch h⟩) F9 hF.1 hF.2.2 hF.2.1 (by walk_at "mem_go") ?x32 ?x42 (by walk_at "mem_go") (hd5.mono fun q hq => by walk_at "mem_go")
    case x32 => (simp only [List.length_append, List.length_cons, List.length_nil]; omega)
    case x42 =>
      rw [story_succ, stepD, if_neg h6]
      skip
      refine dat_app (hD.mono fun q hq => by walk_at "mem_go") ?_
      exact .cons (cli_in (ks := [_, _, _]) (by walk_at "mem_go") (by walk_at "mem_go") (dat_three (p1 := ([111], plainL (n.fdiv 6))) (p2 := ([110], textL (n.fdiv 6 + ↑i))) (p3 := ([114], rlm n)) (by walk_at "mem_go") (by walk_at "mem_go") (by walk_at "mem_go") rl_o rfl rl_n rfl rl_r rfl)) (.cons (srv_in (K := D5) (ks := ys5) (by walk_at "mem_go") (by walk_at "mem_go") (hd5.mono fun q hq => by walk_at "mem_go")) .nil)

end

end
section
open PySem PySem.W PyProof.Rows PySem.Calls PyProof.V

theorem due_fin2 {h₀ h : Heap} {L : Addr} {nx rest : List (Addr × Obj)} {lg : Nat} {ol : Obj} (pre : List (Addr × Obj)) (N : News h₀ L h (pre ++ (lg, ol) :: nx)) (hE : Ext ((lg, ol) :: rest) rest nx) (h1 : ∀ q ∈ pre, ∀ r ∈ (lg, ol) :: nx, @LT.lt Nat _ r.1 q.1) :
    News h₀ L h ((lg, ol) :: (pre ++ nx)) ∧ Ext ((lg, ol) :: rest) rest (pre ++ nx) :=
  ⟨fun q hq => N q (by
    simp only [List.mem_cons, List.mem_append] at hq ⊢
    rcases hq with h | h | h
    · exact .inr (.inl h)
    · exact .inl h
    · exact .inr (.inr h)), hE.app fun q hq r hr => h1 q hq r (by
    rcases List.mem_cons.mp hr with rfl | hr
    · exact List.mem_cons_self ..
    · exact List.mem_cons_of_mem _ (hE.old r hr))⟩
abbrev cntN (n : Int) : Nat := if n.fmod 6 = 2 then 2 else 1
abbrev cntI (n : Int) : Int := if n.fmod 6 = 2 then 2 else 1
theorem cnt_small (n : Int) : Builtin.Range.small 0 (cntI n) 1 = true := by unfold cntI; split <;> decide +kernel
theorem cnt_size (n : Int) : Builtin.Range.rangeSize 0 (cntI n) 1 = ((cntN n : Nat) : Int) := by unfold cntI cntN; split <;> decide +kernel
theorem cnt_le {n : Int} {i : Nat} (h : i < cntN n) : i < 2 := by unfold cntN at h; split at h <;> omega
theorem cnt_len (n : Int) {k : Nat} (h : k ≤ 2 + 3 * cntN n) : k ≤ 8 := by unfold cntN at h; split at h <;> omega
/-- what stands through the loop of the due story -/
inductive DueInv (n : Int) (ps : PL) (lg : Nat) (ol : Obj) (rest : List (Addr × Obj)) (t1 t2 t3 : Tok) : Nat → (Str → Option Value) → List (Addr × Obj) → Prop
  | mk {i S K nS nK : Nat} {sv kv : List Value} {nx : List (Addr × Obj)} {m : Str → Option Value} (hm : ∀ q ∈ [(Str.ofString "kind", Value.int (n.fmod 6) t1), (Str.ofString "m", Value.int (n.fdiv 6) t2), (Str.ofString "realm", Value.str (ofL (rlm n)) t3), (Str.ofString "story", Value.ref S), (Str.ofString "sent", Value.ref K)], m q.1 = some q.2) (hE : Ext ((lg, ol) :: rest) rest nx) (hS : (S, listOf sv.toArray nS) ∈ nx) (hsl : sv.length ≤ 2 + 3 * i) (hD : DatAll nx sv (storyD (n.fmod 6) (n.fdiv 6) (rlm n) ps i)) (hK : (K, listOf kv.toArray nK) ∈ nx) (hDk : DatAll nx kv ((sentP (n.fmod 6) (n.fdiv 6) (rlm n) ps i).map prD)) : DueInv n ps lg ol rest t1 t2 t3 i m ((lg, ol) :: nx)
theorem due_hm {n : Int} {t1 t2 t3 : Tok} {S K : Nat} {m : Str → Option Value} {v : Value} (hm : ∀ q ∈ [(Str.ofString "kind", Value.int (n.fmod 6) t1), (Str.ofString "m", Value.int (n.fdiv 6) t2), (Str.ofString "realm", Value.str (ofL (rlm n)) t3), (Str.ofString "story", Value.ref S), (Str.ofString "sent", Value.ref K)], m q.1 = some q.2) : ∀ q ∈ [(Str.ofString "kind", Value.int (n.fmod 6) t1), (Str.ofString "m", Value.int (n.fdiv 6) t2), (Str.ofString "realm", Value.str (ofL (rlm n)) t3), (Str.ofString "story", Value.ref S), (Str.ofString "sent", Value.ref K), (Str.ofString "count", v)], (fun y => if y = Str.ofString "count" then some v else m y) q.1 = some q.2 := by
  rw [List.forall_mem_cons, List.forall_mem_cons, List.forall_mem_cons, List.forall_mem_cons, List.forall_mem_cons] at hm
  rw [List.forall_mem_cons, List.forall_mem_cons, List.forall_mem_cons, List.forall_mem_cons, List.forall_mem_cons, List.forall_mem_cons]
  obtain ⟨h1, h2, h3, h4, h5, _⟩ := hm
  exact ⟨(if_neg (by dsimp only; decide)).trans h1, (if_neg (by dsimp only; decide)).trans h2, (if_neg (by dsimp only; decide)).trans h3, (if_neg (by dsimp only; decide)).trans h4, (if_neg (by dsimp only; decide)).trans h5, (if_pos rfl : (if Str.ofString "count" = Str.ofString "count" then some v else m (Str.ofString "count")) = some v), fun _ h => nomatch h⟩
/-- what the due story gives -/
structure DueOut (n : Int) (ps : PL) (rest nx : List (Addr × Obj)) (lg : Nat) (ol : Obj) (R : Nat) (S K : Nat) (ve : Value) : Prop where
  hE : Ext ((lg, ol) :: rest) rest nx
  hR : (R, ({ cls := .type "tuple", data := .seq #[.ref S, ve, .ref K] } : Obj)) ∈ nx
  hS : ∃ (sv : List Value) (nS : Nat), (S, listOf sv.toArray nS) ∈ nx ∧ DatAll nx sv (dueS n ps)
  hV : DatIn nx ve (dueE n)
  hK : ∃ (kv : List Value) (nK : Nat), (K, listOf kv.toArray nK) ∈ nx ∧ DatAll nx kv ((dueP n ps).map prD)

section
variable {w : World} {p : Program} {loose : List Str} {mean : ExcName → Option Value} {mg mb : Str → Option Value}
  {dp un : Nat} {gd : Option (List Code)} {outer : List Env} {A₀ : Around} {base h₀ : Heap} {L : Addr} {m : Str → Option Value} {s : Shared} {Qf : Flow → Shared → Prop} {Ef : Value → Shared → Prop}

theorem due_end {n : Int} {t1 t2 t3 : Tok} {lg S K nS nK : Nat} {ol : Obj} {sv kv : List Value} {rest nx : List (Addr × Obj)} {ps : PL}
    (B : Below A₀ base outer h₀) (F : Fr h₀ L s.heap m) (hm : ∀ q ∈ [(Str.ofString "kind", Value.int (n.fmod 6) t1), (Str.ofString "m", Value.int (n.fdiv 6) t2), (Str.ofString "realm", Value.str (ofL (rlm n)) t3), (Str.ofString "story", Value.ref S), (Str.ofString "sent", Value.ref K)], m q.1 = some q.2) (T : Top p loose mean mg mb h₀) (hdp : dp + 2 < recursionLimit) (hun : un + 20 < cLine)
    (h3 : n.fmod 6 ≠ 3) (h4 : n.fmod 6 ≠ 4) (hE : Ext ((lg, ol) :: rest) rest nx) (hS : (S, listOf sv.toArray nS) ∈ nx) (hsl : sv.length ≤ 8) (hD : DatAll nx sv (storyD (n.fmod 6) (n.fdiv 6) (rlm n) ps (cntN n))) (hK : (K, listOf kv.toArray nK) ∈ nx) (hDk : DatAll nx kv ((sentP (n.fmod 6) (n.fdiv 6) (rlm n) ps (cntN n)).map prD))
    (N : News h₀ L s.heap ((lg, ol) :: nx))
    (hret : ∀ (R S K : Nat) (ve : Value) (nx : List (Addr × Obj)) (h' : Heap) (tk' : Nat) (m' : Str → Option Value), Fr h₀ L h' m' → News h₀ L h' ((lg, ol) :: nx) → DueOut n ps rest nx lg ol R S K ve → Qf (.ret (.ref R)) { s with heap := h', toks := tk' }) (X : (hd.heap_39 w.params).In h₀) :
    wpAny (model PySem.Challenge.rw_dn0255_04.row.prog w) (ktrTop dp un gd (Str.ofString "_law_due") (defScope dueDef) L 127 (.ref 126) [] outer) (execs dueEnd (envOf (Str.ofString "_law_due") (defScope dueDef) L 127 (.ref 126))) Qf Ef s := by
  revert X; k_fill; intro X
  have hKst := kstMark
  w_top off

  rw [kst_self hm] at F
  simp only [dueTurn, dueEnd, dueDef, forBody, defBody, defScope, PySem.Challenge.pw_dn0255_04, List.getD_cons_zero, List.getD_cons_succ, List.drop_succ_cons, List.drop_zero]
  have hdl := dat_len hD
  repeat' (first | (k_unfold; (try dsimp only)) | (k_end; wrow_close) | walk1 | (dsimp only; walk1) | (leave1; walk_say "STEP leave1"; try dsimp only) | fail "no step")
  · rename News h₀ L _ _ => kN
    rename n.fmod 6 = 2 => h6
    have h3n : ¬ (n.fmod 6 = 3 ∨ n.fmod 6 = 4) := by omega
    rename Fr h₀ L _ _ => kF
    rename (LT.lt lg _ ∧ AllLt _ _) => l0; rename (_ < _ ∧ LT.lt lg _ ∧ AllLt _ _) => l1
    have hF := due_fin2 [_, _] kN hE (List.forall_mem_cons.mpr ⟨lt_of (aR1 l1), List.forall_mem_cons.mpr ⟨lt_of l0, fun _ h => nomatch h⟩⟩)
    refine hret _ _ _ _ _ _ _ _ kF hF.1 ⟨hF.2, by walk_at "mem_go", ⟨sv, _, by walk_at "mem_go", ?_⟩, ?_, ⟨kv, _, by walk_at "mem_go", ?_⟩⟩
    · rw [dueS, if_neg h3n, if_pos h6]; rw [h6, cntN, if_pos h6] at hD; exact hD.mono fun q hq => by walk_at "mem_go"
    · rw [dueE, if_neg h3, if_neg h4, if_pos h6]; exact .tuple (vs := [_, _]) (by walk_at "mem_go") (.cons (.int _ _) (.cons (.int _ _) .nil))
    · rw [dueP, if_neg h3n, if_pos h6]; rw [h6, cntN, if_pos h6] at hDk; exact hDk.mono fun q hq => by walk_at "mem_go"
  · rename News h₀ L _ _ => kN
    rename n.fmod 6 ≠ 2 => h6
    have h3n : ¬ (n.fmod 6 = 3 ∨ n.fmod 6 = 4) := by omega
    rename Fr h₀ L _ _ => kF
    rename (LT.lt lg _ ∧ AllLt _ _) => l0; rename (_ < _ ∧ LT.lt lg _ ∧ AllLt _ _) => l1; rename (_ < _ ∧ _ < _ ∧ LT.lt lg _ ∧ AllLt _ _) => l2; rename (_ < _ ∧ _ < _ ∧ _ < _ ∧ LT.lt lg _ ∧ AllLt _ _) => l3; rename (_ < _ ∧ _ < _ ∧ _ < _ ∧ _ < _ ∧ LT.lt lg _ ∧ AllLt _ _) => l4
    have hF := due_fin2 [_, _, _, _, _] kN hE (List.forall_mem_cons.mpr ⟨lt_of (aR4 l4), List.forall_mem_cons.mpr ⟨lt_of (aR3 l3), List.forall_mem_cons.mpr ⟨lt_of (aR2 l2), List.forall_mem_cons.mpr ⟨lt_of (aR1 l1), List.forall_mem_cons.mpr ⟨lt_of l0, fun _ h => nomatch h⟩⟩⟩⟩⟩)
    refine hret _ _ _ _ _ _ _ _ kF hF.1 ⟨hF.2, by walk_at "mem_go", ⟨(sv ++ [_]), _, by walk_at "mem_go", ?_⟩, ?_, ⟨kv, _, by walk_at "mem_go", ?_⟩⟩
    · rw [dueS, if_neg h3n, if_neg h6, if_pos (by omega)]; rw [cntN, if_neg h6] at hD; exact dat_app (hD.mono fun q hq => by walk_at "mem_go") (.cons (ht_in (by walk_at "mem_go")) .nil)
    · rw [dueE, if_neg h3, if_neg h4, if_neg h6, if_pos (by omega)]; exact .tuple (vs := [_, _]) (by walk_at "mem_go") (.cons (.int _ _) (.cons (.int _ _) .nil))
    · rw [dueP, if_neg h3n, if_neg h6]; rw [cntN, if_neg h6] at hDk; exact hDk.mono fun q hq => by walk_at "mem_go"
  · rename News h₀ L _ _ => kN
    rename n.fmod 6 ≠ 2 => h6
    have h3n : ¬ (n.fmod 6 = 3 ∨ n.fmod 6 = 4) := by omega
    rename Fr h₀ L _ _ => kF
    rename (LT.lt lg _ ∧ AllLt _ _) => l0
    have hF := due_fin2 [_] kN hE (List.forall_mem_cons.mpr ⟨lt_of l0, fun _ h => nomatch h⟩)
    refine hret _ _ _ _ _ _ _ _ kF hF.1 ⟨hF.2, by walk_at "mem_go", ⟨sv, _, by walk_at "mem_go", ?_⟩, ?_, ⟨kv, _, by walk_at "mem_go", ?_⟩⟩
    · rw [dueS, if_neg h3n, if_neg h6, if_neg (by omega), List.append_nil]; rw [cntN, if_neg h6] at hD; exact hD.mono fun q hq => by walk_at "mem_go"
    · rw [dueE, if_neg h3, if_neg h4, if_neg h6, if_neg (by omega)]; exact .str _ _
    · rw [dueP, if_neg h3n, if_neg h6]; rw [cntN, if_neg h6] at hDk; exact hDk.mono fun q hq => by walk_at "mem_go"
  · rename News h₀ L _ _ => kN
    rename n.fmod 6 ≠ 2 => h6
    have h3n : ¬ (n.fmod 6 = 3 ∨ n.fmod 6 = 4) := by omega
    rename Fr h₀ L _ _ => kF
    rename (LT.lt lg _ ∧ AllLt _ _) => l0
    have hF := due_fin2 [_] kN hE (List.forall_mem_cons.mpr ⟨lt_of l0, fun _ h => nomatch h⟩)
    refine hret _ _ _ _ _ _ _ _ kF hF.1 ⟨hF.2, by walk_at "mem_go", ⟨sv, _, by walk_at "mem_go", ?_⟩, ?_, ⟨kv, _, by walk_at "mem_go", ?_⟩⟩
    · rw [dueS, if_neg h3n, if_neg h6, if_neg (by omega), List.append_nil]; rw [cntN, if_neg h6] at hD; exact hD.mono fun q hq => by walk_at "mem_go"
    · rw [dueE, if_neg h3, if_neg h4, if_neg h6, if_neg (by omega)]; exact .str _ _
    · rw [dueP, if_neg h3n, if_neg h6]; rw [cntN, if_neg h6] at hDk; exact hDk.mono fun q hq => by walk_at "mem_go"

end

end
section
open PySem PySem.W PyProof.Rows PySem.Calls PyProof.V

theorem due_get {n : Int} {S K : Nat} {h₀ h : Heap} {L : Addr} {m : Str → Option Value} (F : Fr h₀ L h m) (e : ∃ t1 t2 t3, ∀ q ∈ [(Str.ofString "kind", Value.int (n.fmod 6) t1), (Str.ofString "m", Value.int (n.fdiv 6) t2), (Str.ofString "realm", Value.str (ofL (rlm n)) t3), (Str.ofString "story", Value.ref S), (Str.ofString "sent", Value.ref K)], m q.1 = some q.2) : ∃ t1 t2 t3, ∀ q ∈ [(Str.ofString "kind", Value.int (n.fmod 6) t1), (Str.ofString "m", Value.int (n.fdiv 6) t2), (Str.ofString "realm", Value.str (ofL (rlm n)) t3), (Str.ofString "story", Value.ref S), (Str.ofString "sent", Value.ref K)], m q.1 = some q.2 := e

section
variable {w : World} {p : Program} {loose : List Str} {mean : ExcName → Option Value} {mg mb : Str → Option Value}
  {dp un : Nat} {gd : Option (List Code)} {cn : Str} {cs : Scope} {a : Addr} {ccd : Value} {cl : List (Str × Addr)} {outer : List Env} {A₀ : Around} {base h₀ : Heap} {L : Addr} {m : Str → Option Value} {s : Shared} {Q E : Value → Shared → Prop}

theorem due_t {n : Int} {tn : Tok} {K0 nk0 lg : Nat} {ol : Obj} {ks0 : List Value} {ps : PL} {rest : List (Addr × Obj)} (B : Below A₀ base outer h₀) (F : Fr h₀ L s.heap m) (T : Top p loose mean mg mb h₀) (hk : cs.kind = .function) (hdp : dp + 4 < recursionLimit) (hun : un + 40 < cLine)
    (hK0 : (K0, listOf ks0.toArray nk0) ∈ rest) (hks0 : DatAll rest ks0 (ps.map prD)) (N : News h₀ L s.heap ((lg, ol) :: rest))
    (hret : ∀ (R S K : Nat) (ve : Value) (nx : List (Addr × Obj)) (h' : Heap) (tk' : Nat), Fr h₀ L h' m → News h₀ L h' ((lg, ol) :: nx) → DueOut n ps rest nx lg ol R S K ve → Q (.ref R) { s with heap := h', toks := tk' }) (X : (hd.heap_39 w.params).In h₀) :
    wpAny (model PySem.Challenge.rw_dn0255_04.row.prog w) (ktrTop dp un gd cn cs L a ccd cl outer) (call (.ref 127) [.int n tn, .ref K0]) Q E s := by
  revert X; k_fill; intro X
  have hKst := kstMark
  w_top off

  (refine wpAny_call ?_; k_dflt (refine' code_def (binds := [(Str.ofString "n", .int n tn), (Str.ofString "kept", .ref K0)]) B F X N T rfl rfl hk ?k6 ?k7 ?k8 ?k9 ?kB ?_ ?c2 ?c3 ?c4 ?c5; (case k6 => k_is); (case k7 => k_is); (case k8 => ktr_room); (case k9 => exact BindsTo.of_eq rfl); (case c5 => decide); (case kB => exact locs rfl); (case c2 => exact rfl); (case c3 => exact rfl); (case c4 => exact rfl); k_whole; intro g' L' h' FG' F' N' B' X' T'; (try dsimp only); (try k_lift B'); (try k_fold)))
  repeat' ((fail_if_success (with_reducible show wpAny _ _ (call (Value.ref 85) _ _) _ _ _)); (first | (k_unfold; (try dsimp only)) | (k_end; wrow_close) | walk1 | (dsimp only; walk1) | (leave1; walk_say "STEP leave1"; try dsimp only) | fail "no step"))
  (k_dflt (refine' text_t ?kB1 ?kF1 ?kT1 ?kh1 ?rd1 ?ru1 ?kN1 ?rr1 ?kX1; (case kh1 => rfl); (case kF1 => k_asm); (case kB1 => k_asm); (case kT1 => k_asm); (case kX1 => k_asm); (case kN1 => k_asm))); (case rd1 => ktr_room); (case ru1 => ktr_units)
  intro h1 tk1 t1 F1 N1
  change Fr _ _ _ _ at F1
  have hrl := textL_len ((n.fdiv 6).fdiv 4)
  rw [show textL ((n.fdiv 6).fdiv 4) = rlm n from rfl] at hrl ⊢
  repeat' ((fail_if_success (with_reducible show wpAny _ _ (exec (Stmt.For _ _ _ _ _) _) _ _ _)); (first | (k_unfold; (try dsimp only)) | (k_end; wrow_close) | walk1 | (dsimp only; walk1) | (leave1; walk_say "STEP leave1"; try dsimp only) | fail "no step"))
  · rename News h₀ L _ _ => kN
    rename n.fmod 6 = 3 => h6
    have h3n : (n.fmod 6 = 3 ∨ n.fmod 6 = 4) := by omega
    rename Fr h₀ L _ _ => kF
    rename (LT.lt lg _ ∧ AllLt _ _) => l0; rename (_ < _ ∧ LT.lt lg _ ∧ AllLt _ _) => l1; rename (_ < _ ∧ _ < _ ∧ LT.lt lg _ ∧ AllLt _ _) => l2; rename (_ < _ ∧ _ < _ ∧ _ < _ ∧ LT.lt lg _ ∧ AllLt _ _) => l3; rename (_ < _ ∧ _ < _ ∧ _ < _ ∧ _ < _ ∧ LT.lt lg _ ∧ AllLt _ _) => l4
    have hF := due_fin2 [_, _, _, _, _] kN (Ext.refl) (List.forall_mem_cons.mpr ⟨lt_of (aR4 l4), List.forall_mem_cons.mpr ⟨lt_of (aR3 l3), List.forall_mem_cons.mpr ⟨lt_of (aR2 l2), List.forall_mem_cons.mpr ⟨lt_of (aR1 l1), List.forall_mem_cons.mpr ⟨lt_of l0, fun _ h => nomatch h⟩⟩⟩⟩⟩)
    refine hret _ _ _ _ _ _ _ kF hF.1 ⟨hF.2, by walk_at "mem_go", ⟨[_, _], _, by walk_at "mem_go", ?_⟩, ?_, ⟨ks0, _, by walk_at "mem_go", ?_⟩⟩
    · rw [dueS, if_pos h3n]; exact .cons (srv_in (K := K0) (ks := ks0) (ps := ps) (by walk_at "mem_go") (by walk_at "mem_go") (hks0.mono fun q hq => by walk_at "mem_go")) (.cons (ht_in (by walk_at "mem_go")) .nil)
    · rw [dueE, if_pos h6]; exact .str _ _
    · rw [dueP, if_pos h3n]; exact hks0.mono fun q hq => by walk_at "mem_go"
  · rename News h₀ L _ _ => kN
    rename n.fmod 6 = 4 => h6
    have h3n : (n.fmod 6 = 3 ∨ n.fmod 6 = 4) := by omega
    rename Fr h₀ L _ _ => kF
    rename (LT.lt lg _ ∧ AllLt _ _) => l0; rename (_ < _ ∧ LT.lt lg _ ∧ AllLt _ _) => l1; rename (_ < _ ∧ _ < _ ∧ LT.lt lg _ ∧ AllLt _ _) => l2; rename (_ < _ ∧ _ < _ ∧ _ < _ ∧ LT.lt lg _ ∧ AllLt _ _) => l3; rename (_ < _ ∧ _ < _ ∧ _ < _ ∧ _ < _ ∧ LT.lt lg _ ∧ AllLt _ _) => l4
    have hF := due_fin2 [_, _, _, _, _] kN (Ext.refl) (List.forall_mem_cons.mpr ⟨lt_of (aR4 l4), List.forall_mem_cons.mpr ⟨lt_of (aR3 l3), List.forall_mem_cons.mpr ⟨lt_of (aR2 l2), List.forall_mem_cons.mpr ⟨lt_of (aR1 l1), List.forall_mem_cons.mpr ⟨lt_of l0, fun _ h => nomatch h⟩⟩⟩⟩⟩)
    refine hret _ _ _ _ _ _ _ kF hF.1 ⟨hF.2, by walk_at "mem_go", ⟨[_, _], _, by walk_at "mem_go", ?_⟩, ?_, ⟨ks0, _, by walk_at "mem_go", ?_⟩⟩
    · rw [dueS, if_pos h3n]; exact .cons (srv_in (K := K0) (ks := ks0) (ps := ps) (by walk_at "mem_go") (by walk_at "mem_go") (hks0.mono fun q hq => by walk_at "mem_go")) (.cons (ht_in (by walk_at "mem_go")) .nil)
    · rw [dueE, if_neg (by omega), if_pos h6]; exact .str _ _
    · rw [dueP, if_pos h3n]; exact hks0.mono fun q hq => by walk_at "mem_go"
  · rename News _ _ _ _ => N3
    rename Fr _ _ _ _ => F3
    rename n.fmod 6 ≠ 3 => h3
    rename n.fmod 6 ≠ 4 => h4
    rename (LT.lt lg _ ∧ AllLt _ _) => l0; rename (_ < _ ∧ LT.lt lg _ ∧ AllLt _ _) => l1; rename (_ < _ ∧ _ < _ ∧ LT.lt lg _ ∧ AllLt _ _) => l2; rename (_ < _ ∧ _ < _ ∧ _ < _ ∧ LT.lt lg _ ∧ AllLt _ _) => l3
    (k_dflt (refine' For_invVF F3 ?kx ?kp ?_; (case kx => rfl); (case kp => rfl)))
    repeat' ((fail_if_success (with_reducible show wpAny _ _ (eval (Expr.IfExp _ _ _ _) _) _ _ _)); (first | (k_unfold; (try dsimp only)) | (k_end; wrow_close) | walk1 | (dsimp only; walk1) | (leave1; walk_say "STEP leave1"; try dsimp only) | fail "no step"))
    refine cutQ2 (V := fun t => .int (cntI n) t) ?main ?side
    case side =>
      intro Q' hQ
      repeat' (first | (k_unfold; (try dsimp only)) | (k_end; wrow_close) | walk1 | (dsimp only; walk1) | (leave1; walk_say "STEP leave1"; try dsimp only) | fail "no step")
      · rename n.fmod 6 = 2 => h6
        rw [cntI, if_pos h6] at hQ; exact hQ _ _
      · rename n.fmod 6 ≠ 2 => h6
        rw [cntI, if_neg h6] at hQ; exact hQ _ _
    intro tkc tkd
    repeat' ((fail_if_success (with_reducible show wpAny _ _ (pyIter _) _ _ _)); (first | (k_unfold; (try dsimp only)) | (k_end; wrow_close) | walk1 | (dsimp only; walk1) | (leave1; walk_say "STEP leave1"; try dsimp only) | fail "no step"))
    rename News _ _ _ _ => N4
    rename Fr _ _ _ _ => F4
    rename IsRange _ _ _ _ _ _ _ _ => hr4
    have hE0 := due_fin2 [_, _, _, _] N4 Ext.refl (List.forall_mem_cons.mpr ⟨lt_of (aR3 l3), List.forall_mem_cons.mpr ⟨lt_of (aR2 l2), List.forall_mem_cons.mpr ⟨lt_of (aR1 l1), List.forall_mem_cons.mpr ⟨lt_of l0, fun _ h => nomatch h⟩⟩⟩⟩)
    obtain ⟨tt1, tt2, tt3, hm4⟩ := due_get (n := n) (K := K0) F4 ⟨_, _, _, by simp only [List.forall_mem_cons]; exact ⟨rfl, rfl, rfl, rfl, rfl, fun _ h => nomatch h⟩⟩
    refine loop_range (n := cntN n) (DueInv n ps lg ol rest tt1 tt2 tt3) rfl hr4 (cnt_small n) (cnt_size n) F4 hE0.1 ?j ?turn ?done
    case j => exact .mk (S := _) (K := K0) (sv := [_, _]) (kv := ks0) hm4 hE0.2 (by walk_at "mem_go") (by simp) (.cons (srv_in (K := K0) (by walk_at "mem_go") (by walk_at "mem_go") (hks0.mono fun q hq => by walk_at "mem_go")) (.cons (ht_in (by walk_at "mem_go")) .nil)) (by walk_at "mem_go") (hks0.mono fun q hq => by walk_at "mem_go")
    case turn =>
      clear N4 F4 hr4
      intro i tc m₁ nx h7 tk7 I oI hi hJ hnI F7 N7
      obtain ⟨hm, hE, hS, hsl, hD, hK, hDk⟩ := hJ
      rw [show ((0 : Int) + (i : Int) * 1) = (i : Int) by omega] at F7
      k_dflt (refine' due_turn B' F7 (due_hm hm) T' ?hd9 ?hu9 hE hS hsl (cnt_le hi) hD hK hDk N7 ?ret9 ?X9; (case X9 => k_asm); (case hd9 => ktr_room); (case hu9 => ktr_units))
      intro S K nS nK sv kv nx' h' tk' m' hm' F8 N8 hI hE8 hS8 hl8 hD8 hK8 hk8
      exact turn_next F8 N8 (fun q hq => (List.mem_cons.mp hq).elim (fun h => h ▸ hnI _ (List.mem_cons_self ..)) fun hq => (hI q hq).elim (fun h => hnI q (List.mem_cons_of_mem _ h)) fun h => Nat.ne_of_gt h) (.mk hm' hE8 hS8 hl8 hD8 hK8 hk8)
    case done =>
      clear N4 F4 hr4
      intro m₁ nx h7 tk7 hJ F7 N7
      obtain ⟨hm, hE, hS, hsl, hD, hK, hDk⟩ := hJ
      dsimp only
      k_dflt (refine' due_end (n := n) (ps := ps) (lg := lg) (ol := ol) (rest := rest) B' F7 hm T' ?hd8 ?hu8 h3 h4 hE hS (cnt_len n hsl) hD hK hDk N7 ?ret8 ?X8; (case X8 => k_asm); (case hd8 => ktr_room); (case hu8 => ktr_units))
      intro R S K ve nx' h' tk' m9 F8 N8 hO
      dsimp only
      repeat' (first | (k_unfold; (try dsimp only)) | (k_end; wrow_close) | walk1 | (dsimp only; walk1) | (leave1; walk_say "STEP leave1"; try dsimp only) | fail "no step")
      rename Fr h₀ L _ m => kF
      rename News h₀ L _ _ => kN
      exact hret _ _ _ _ _ _ _ kF kN hO

end

end
noncomputable section
open PySem PySem.W PyProof.Rows PySem.Calls
/-- an object that can be taken for a table of places -/
def isTab (o : Obj) : Bool := match o.cls with
  | .none => (match o.data with
    | .fields vs => (match vs[1]? with
      | some (Value.str _ _) => false
      | _ => true)
    | _ => false)
  | _ => false
def keepB (q : Addr × Obj) : Bool := !isTab q.2
theorem tab_is {ps : Array Value} (h : TriplesOk ps.toList) : isTab (tabObj ps) = true := by
  obtain ⟨l⟩ := ps
  rcases l with _ | ⟨a, _ | ⟨b, r⟩⟩
  · rfl
  · cases a <;> simp [TriplesOk] at h
  · cases b with
    | int j u => rfl
    | _ => cases a <;> simp [TriplesOk] at h
theorem keep_cls {q : Addr × Obj} {t : String} (h : q.2.cls = .type t) : keepB q = true := by
  unfold keepB isTab; rw [h]; rfl
theorem keep_code {c : Nat} {o : Obj} {qual : Str} (h : CodeQ o qual) : keepB (c, o) = true := by
  obtain ⟨vs, t, h1, h2⟩ := h
  unfold keepB isTab
  dsimp only
  cases o.cls with
  | none => simp only [h1, h2, Bool.not_false]
  | _ => rfl
theorem keep_off {h₀ h : Heap} {L P : Addr} {ps : Array Value} {nx : List (Addr × Obj)} (N : News h₀ L h nx) (hP : (P, tabObj ps) ∈ nx) (ht : TriplesOk ps.toList) {q : Addr × Obj} (hq : q ∈ nx) (hk : keepB q = true) : @Ne Nat q.1 P := fun e => by
  have e1 := (N _ hP).1
  have e2 := (N _ hq).1
  rw [show q.1 = P from e, e1] at e2
  have e3 : tabObj ps = q.2 := Option.some.inj e2
  unfold keepB at hk
  rw [← e3, tab_is ht] at hk
  cases hk
mutual
theorem dat_sub {nx nx' : List (Addr × Obj)} (hs : ∀ q ∈ nx, (q.2.cls = .type "tuple" ∨ q.2.cls = .type "list") → q ∈ nx') : ∀ {v : Value} {d : Dat}, DatIn nx v d → DatIn nx' v d
  | _, _, .none => .none
  | _, _, .bool b => .bool b
  | _, _, .int i t => .int i t
  | _, _, .str x t => .str x t
  | _, _, .bytes b t => .bytes b t
  | _, _, .tuple hm r => .tuple (hs _ hm (.inl rfl)) (dats_sub hs r)
  | _, _, .list hm r => .list (hs _ hm (.inr rfl)) (dats_sub hs r)
theorem dats_sub {nx nx' : List (Addr × Obj)} (hs : ∀ q ∈ nx, (q.2.cls = .type "tuple" ∨ q.2.cls = .type "list") → q ∈ nx') : ∀ {vs : List Value} {ds : List Dat}, DatAll nx vs ds → DatAll nx' vs ds
  | _, _, .nil => .nil
  | _, _, .cons h r => .cons (dat_sub hs h) (dats_sub hs r)
end
theorem keep_dat {q : Addr × Obj} (h : q.2.cls = .type "tuple" ∨ q.2.cls = .type "list") : keepB q = true := h.elim keep_cls keep_cls
/-- what a list's iterator looks like -/
def IterO (o : Obj) : Prop := o.cls = .type "list_iterator" ∧ ∀ vs, o.data = .fields vs → ∀ x t, vs[1]? ≠ some (.str x t)
theorem iter_keep {o : Obj} {i : Nat} (h : IterO o) : keepB (i, o) = true := keep_cls (t := "list_iterator") h.1
theorem iter_off {h₀ h : Heap} {L I : Addr} {oI : Obj} {nx : List (Addr × Obj)} (N : News h₀ L h nx) (hI : (I, oI) ∈ nx) (hi : IterO oI) {q : Addr × Obj} (hq : q ∈ nx) (hc : (q.2.cls = .type "tuple" ∨ q.2.cls = .type "list") ∨ ∃ qual, CodeQ q.2 qual) : @Ne Nat q.1 I := fun e => by
  have e1 := (N _ hI).1
  have e2 := (N _ hq).1
  rw [show q.1 = I from e, e1] at e2
  have e3 : oI = q.2 := Option.some.inj e2
  rcases hc with (h | h) | ⟨qual, vs, t, h1, h2⟩
  · rw [← e3, hi.1] at h; exact absurd (Value.type.inj h) (by decide)
  · rw [← e3, hi.1] at h; exact absurd (Value.type.inj h) (by decide)
  · rw [← e3] at h1; exact hi.2 vs h1 _ _ h2
theorem TabK.sub {tb pt : Array Value} {PT : Nat} {nx nx' : List (Addr × Obj)} (h : TabK tb pt PT nx) (hs : ∀ q ∈ nx, (∃ qual, CodeQ q.2 qual) → q ∈ nx') : TabK tb pt PT nx' := by
  obtain ⟨sc, ec, ocs, oec, k0, k1, k2, k3, k4, k5, k6, k7, k8, k9⟩ := h
  exact ⟨sc, ec, ocs, oec, k0, k1, hs _ k2 ⟨_, k3⟩, k3, k4, k5, hs _ k6 ⟨_, k7⟩, k7, k8, k9.imp id fun ⟨c', oc, h1, h2, h3⟩ => ⟨c', oc, h1, hs _ h2 ⟨_, h3⟩, h3⟩⟩
theorem TabK.tb {tb pt : Array Value} {PT : Nat} {nx : List (Addr × Obj)} (h : TabK tb pt PT nx) : TriplesOk tb.toList := by
  obtain ⟨sc, ec, ocs, oec, k0, k1, k2, k3, k4, k5, k6, k7, k8, k9⟩ := h
  exact k0
theorem TabK.pt {tb pt : Array Value} {PT : Nat} {nx : List (Addr × Obj)} (h : TabK tb pt PT nx) : TriplesOk pt.toList := by
  obtain ⟨sc, ec, ocs, oec, k0, k1, k2, k3, k4, k5, k6, k7, k8, k9⟩ := h
  exact k8
theorem ans_low (a b k : Int) : (∀ p ∈ ansL (textL a) (textL b) (keyL k), lowP p) := ansL_low (textL_len a) (textL_low a) (textL_len b) (textL_low b) (keyL_len k) (keyL_low k)
/-- what a session leaves kept is low and short -/
theorem dueP_low {n : Int} {ps : PL} (hpl : ps.length ≤ 10) (hpo : ∀ p ∈ ps, lowP p) : (dueP n ps).length ≤ 10 ∧ ∀ p ∈ dueP n ps, lowP p := by
  unfold dueP
  split
  · exact ⟨hpl, hpo⟩
  · split
    · exact ⟨by simp [sentP, ansL], ans_low _ _ _⟩
    · exact ⟨by simp [sentP, ansL], ans_low _ _ _⟩
theorem key_no (k : Int) : (keyL k).length ≤ 1 ∧ 10 ∉ keyL k := by unfold keyL; split <;> decide
theorem hdr_reads {n : Int} {hdr : List Nat} {ps : PL} (h : Reads hdr ps) : Reads (hdrF (gapL (n.fdiv 6)) n ps hdr) (dueP n ps) := by
  unfold hdrF dueP
  split
  · exact h
  · have hr2 : (rlm n).length ≤ 2 := textL_len _
    have hr0 : 10 ∉ rlm n := text_no _
    split
    · exact reads_sent hr2 hr0 (textL_len _) (text_no _) (key_no _).1 (key_no _).2
    · exact reads_sent hr2 hr0 (textL_len _) (text_no _) (key_no _).1 (key_no _).2
theorem reads_nil : Reads [] [] := ⟨by decide, [], [], rfl, by unfold stepL; split <;> rfl, (fun _ h => nomatch h), rfl⟩
theorem ok_str {n : Nat} {x : Str} (h : PyData.strOk x = true) : dOk n (.str x) = true := by cases n <;> exact h
theorem ok_int {n : Nat} {i : Int} : dOk n (.int i) = true := by cases n <;> rfl
theorem ok_bool {n : Nat} {b : Bool} : dOk n (.bool b) = true := by cases n <;> rfl
theorem ok_prs {ps : PL} (h : ∀ p ∈ ps, lowP p) : dOk 2 (.list (ps.map prD)) = true := by
  show (ps.map prD).all (dOk 1) = true
  rw [List.all_eq_true]
  intro d hd
  obtain ⟨p, hp, rfl⟩ := List.mem_map.mp hd
  obtain ⟨_, _, h1, h2⟩ := h p hp
  show ([Dat.str (ofL p.1), Dat.str (ofL p.2)].all (dOk 0)) = true
  simp only [List.all_cons, List.all_nil, Bool.and_true, Bool.and_eq_true]
  exact ⟨ok_str (ofL_ok h1), ok_str (ofL_ok h2)⟩
theorem ok_srv {ps : PL} (h : ∀ p ∈ ps, lowP p) : dOk 3 (srvD ps) = true := by
  show ([Dat.str (Str.ofString "server"), Dat.list (ps.map prD)].all (dOk 2)) = true
  simp only [List.all_cons, List.all_nil, Bool.and_true, Bool.and_eq_true]
  exact ⟨ok_str (by decide +kernel), ok_prs h⟩
theorem ok_cli {ps : PL} (h : ∀ p ∈ ps, lowP p) : dOk 3 (cliD ps) = true := by
  show ([Dat.str (Str.ofString "client"), Dat.list (ps.map prD)].all (dOk 2)) = true
  simp only [List.all_cons, List.all_nil, Bool.and_true, Bool.and_eq_true]
  exact ⟨ok_str (by decide +kernel), ok_prs h⟩
theorem ok_ht (c : Int) : dOk 3 (htD c) = true := by
  show ([Dat.str (Str.ofString "http"), Dat.bool true, Dat.int c, Dat.str (Str.ofString "word")].all (dOk 2)) = true
  simp only [List.all_cons, List.all_nil, Bool.and_true, Bool.and_eq_true]
  exact ⟨ok_str (by decide +kernel), ok_bool, ok_int, ok_str (by decide +kernel)⟩
theorem plainL_low (m : Int) : ∀ c ∈ plainL m, c < 128 := by unfold plainL; split <;> decide
theorem cli_low (m a b : Int) : ∀ p ∈ cliP m (textL a) (textL b), lowP p := by
  have ha := textL_len a
  have hb := textL_len b
  have hm := plainL_len m
  unfold cliP
  simp only [List.forall_mem_cons]
  exact ⟨⟨(low1 111).1, hm, (low1 111).2 (by decide), plainL_low m⟩, ⟨(low1 110).1, by show (textL b).length ≤ 5; omega, (low1 110).2 (by decide), textL_low b⟩, ⟨(low1 114).1, by show (textL a).length ≤ 5; omega, (low1 114).2 (by decide), textL_low a⟩, fun _ h => nomatch h⟩
theorem ok_step (kd m a : Int) (i : Nat) : ∀ d ∈ stepD kd m (textL a) i, dOk 3 d = true := by
  unfold stepD
  refine List.forall_mem_cons.mpr ⟨ok_cli (cli_low _ _ _), List.forall_mem_cons.mpr ⟨ok_srv (ans_low _ _ _), ?_⟩⟩
  split
  · exact List.forall_mem_cons.mpr ⟨ok_ht _, fun _ h => nomatch h⟩
  · exact fun _ h => nomatch h
theorem ok_story {kd m a : Int} {ps : PL} (h : ∀ p ∈ ps, lowP p) (i : Nat) : ∀ d ∈ storyD kd m (textL a) ps i, dOk 3 d = true := by
  unfold storyD
  refine List.forall_mem_cons.mpr ⟨ok_srv h, List.forall_mem_cons.mpr ⟨ok_ht _, fun d hd => ?_⟩⟩
  obtain ⟨j, _, hj⟩ := List.mem_flatMap.mp hd
  exact ok_step _ _ _ _ d hj
theorem ok_due {n : Int} {ps : PL} (h : ∀ p ∈ ps, lowP p) : dOk 4 (.list (dueS n ps)) = true := by
  show (dueS n ps).all (dOk 3) = true
  rw [List.all_eq_true]
  unfold dueS
  split
  · exact ok_story h _
  · split
    · exact ok_story h _
    · intro d hd
      rcases List.mem_append.mp hd with hd | hd
      · exact ok_story h _ d hd
      · split at hd
        · rw [List.mem_singleton.mp hd]; exact ok_ht _
        · cases hd
theorem ok_end (n : Int) : dOk 4 (dueE n) = true := by
  unfold dueE
  split
  · exact ok_str (by decide +kernel)
  · split
    · exact ok_str (by decide +kernel)
    · split
      · rfl
      · split
        · rfl
        · exact ok_str (by decide +kernel)
section
variable {prog : Program} {w : World} {A : Around} {E : Value → Shared → Prop} {s : Shared} {env : Env} {h₀ : Heap} {x : Str} {body : List Stmt} {Q : Flow → Shared → Prop}
/-- a loop over a list of the ledger that no turn changes, the iterator told -/
theorem loop_listI {l : Addr} {vs : List Value} {nn : Nat} {m₀ : Str → Option Value} {news : List (Addr × Obj)} (J : Nat → (Str → Option Value) → List (Addr × Obj) → Prop)
    (hh : A.handled = none) (hl : (l, listOf vs.toArray nn) ∈ news) (hfix : ∀ i m nx, J i m nx → (l, listOf vs.toArray nn) ∈ nx)
    (F : Fr h₀ env.locals s.heap m₀) (N : News h₀ env.locals s.heap news) (hj : J 0 m₀ news)
    (turn : ∀ i v m₁ nx h tk I oI, IterO oI → vs[i]? = some v → J i m₁ nx → (∀ p ∈ nx, p.1 ≠ I) → Fr h₀ env.locals h (fun y => if y = x then some v else m₁ y) → News h₀ env.locals h ((I, oI) :: nx) →
      wpAny (model prog w) A (execs body env) (TurnEnd h₀ env.locals I oI (J (i + 1)) { s with heap := h, toks := tk } Q) E { s with heap := h, toks := tk })
    (done : ∀ m₁ nx h tk, J vs.length m₁ nx → Fr h₀ env.locals h m₁ → News h₀ env.locals h nx → Q .next { s with heap := h, toks := tk }) :
    wpAny (model prog w) A (pyIter (.ref l)) (fun it s₂ => LoopAtV prog w A h₀ env x body Q E it s₂) E s := by
  have hol : s.heap.get? l = some (listOf vs.toArray nn) := (N _ hl).1
  have hls : s.heap.IsList l vs.toArray := ⟨_, hol, rfl, nn, rfl⟩
  have hne : l ≠ s.heap.objs.size := Nat.ne_of_lt (Heap.lt_size hol)
  refine wpAny_pyIter_list hls ?_
  have W := Walks.list (prog := prog) (w := w) hh s.heap.objs.size l hne vs.toArray
  have hlen : vs.toArray.size = vs.length := by simp
  rw [hlen] at W
  refine loop_genC (C := IterO) [(l, listOf vs.toArray nn)] J W ?_ ?_ ?_ ?_ ?_ ?_ ⟨⟨_, Heap.get?_push_size _ rfl, rfl, rfl⟩, hls.at fun o e => Heap.get?_push_of_some _ e⟩ (F.push _) (fun p hp => ⟨Heap.get?_push_of_some _ (N p hp).1, (N p hp).2⟩) hj ?_ ?_
  · rintro i h ⟨⟨o, ho, hc, hd⟩, _⟩
    refine ⟨o, ho, hc, fun vs' e x t => ?_⟩
    rw [hd] at e
    cases e
    simp
  · intro hm
    rcases List.mem_cons.mp hm with e | hm
    · exact absurd F.ns.lt (e ▸ Nat.lt_irrefl _)
    · exact (N _ hl).2.1 ((List.mem_singleton.mp hm).symm)
  · exact next_is_new F
  · intro p hp e
    exact absurd (Heap.lt_size (N p hp).1) (e ▸ Nat.lt_irrefl _)
  · intro b hb
    rcases List.mem_cons.mp hb with e | hb
    · exact .inl e
    · rw [List.mem_singleton.mp hb]; exact .inr (.inl ⟨_, List.mem_singleton.mpr rfl⟩)
  · intro i m nx hJ p hp
    rw [List.mem_singleton.mp hp]; exact hfix i m nx hJ
  · intro i v m₁ nx h tk oI hC hin hP hJ hn F₁ N₁
    exact turn i v m₁ nx h tk _ oI hC (by simpa using hP) hJ hn F₁ N₁
  · exact done
end

end
section
open PySem PySem.W PyProof.Rows PySem.Calls PyProof.V

noncomputable def lawDef : Stmt := (PySem.Challenge.pw_dn0255_04.main.body.getD 13 default)
noncomputable def lawTurn : List Stmt := forBody ((defBody lawDef).getD 2 default)
noncomputable def turnB : List Stmt := lawTurn.drop 1
/-- what stands between the sessions -/
structure Stand (tb : Array Value) (kn rest : List (Addr × Obj)) : Prop where
  hkn : (kn = [] ∧ tb = #[]) ∨ ∃ PT pt, kn = [(PT, tabObj pt)] ∧ TabK tb pt PT rest
  k5 : ∀ q ∈ kn, @Ne Nat q.1 115
  kp : ∀ q ∈ rest, keepB q = true
theorem Stand.tb {tb : Array Value} {kn rest : List (Addr × Obj)} (h : Stand tb kn rest) : TriplesOk tb.toList := by
  rcases h.hkn with ⟨_, rfl⟩ | ⟨PT, pt, _, hT⟩
  · trivial
  · exact hT.tb
/-- the ledger ahead of a session: what can be taken for a table is left out -/
theorem stand_ses {h₀ h : Heap} {L : Addr} {tb : Array Value} {kn rest nx : List (Addr × Obj)} {lg : Nat} {ol : Obj} (S : Stand tb kn rest) (hl : ∀ r ∈ (115, tabObj tb) :: (kn ++ rest), @LT.lt Nat _ r.1 lg) (E : Ext ((lg, ol) :: (115, tabObj tb) :: (kn ++ rest)) ((115, tabObj tb) :: (kn ++ rest)) nx) (N : News h₀ L h ((lg, ol) :: nx)) :
    Stand tb kn (nx.filter keepB) ∧ (∀ t ∈ kn, ∀ q ∈ nx.filter keepB, @Ne Nat q.1 t.1) ∧ (∀ q ∈ kn ++ nx.filter keepB, @Ne Nat q.1 lg ∧ @Ne Nat q.1 115) ∧ @Ne Nat lg 115 ∧ News h₀ L h ((lg, ol) :: (115, tabObj tb) :: (kn ++ nx.filter keepB)) := by
  have N' : News h₀ L h nx := news_tail N
  have h5 : (115, tabObj tb) ∈ nx := E.old _ (List.mem_cons_self ..)
  have hk : ∀ q ∈ kn, q ∈ nx := fun q hq => E.old _ (List.mem_cons_of_mem _ (List.mem_append_left _ hq))
  have hr : ∀ q ∈ rest, q ∈ nx.filter keepB := fun q hq => List.mem_filter.mpr ⟨E.old _ (List.mem_cons_of_mem _ (List.mem_append_right _ hq)), S.kp q hq⟩
  have hlg : ∀ q ∈ nx, @Ne Nat q.1 lg := fun q hq => (E.new q hq).elim (fun h => Nat.ne_of_lt (hl q h)) fun h => Nat.ne_of_gt (h _ (List.mem_cons_self ..))
  refine ⟨⟨?_, S.k5, fun q hq => (List.mem_filter.mp hq).2⟩, ?_, ?_, Nat.ne_of_gt (hl (115, tabObj tb) (List.mem_cons_self ..)), fun q hq => N q ?_⟩
  · rcases S.hkn with h | ⟨PT, pt, h, hT⟩
    · exact .inl h
    · exact .inr ⟨PT, pt, h, hT.mono hr⟩
  · intro t ht q hq
    obtain ⟨q1, q2⟩ := List.mem_filter.mp hq
    rcases S.hkn with ⟨h, _⟩ | ⟨PT, pt, h, hT⟩
    · rw [h] at ht; cases ht
    · rw [h] at ht
      rw [List.mem_singleton.mp ht]
      exact keep_off N' (hk _ (by rw [h]; exact List.mem_singleton.mpr rfl)) hT.pt q1 q2
  · intro q hq
    rcases List.mem_append.mp hq with hq | hq
    · exact ⟨hlg q (hk q hq), S.k5 q hq⟩
    · obtain ⟨q1, q2⟩ := List.mem_filter.mp hq
      exact ⟨hlg q q1, keep_off N' h5 S.tb q1 q2⟩
  · rcases List.mem_cons.mp hq with rfl | hq
    · exact List.mem_cons_self ..
    · refine List.mem_cons_of_mem _ ?_
      rcases List.mem_cons.mp hq with rfl | hq
      · exact h5
      · rcases List.mem_append.mp hq with hq | hq
        · exact hk q hq
        · exact (List.mem_filter.mp hq).1
theorem dats_keep {nx : List (Addr × Obj)} {vs : List Value} {ds : List Dat} (h : DatAll nx vs ds) : DatAll (nx.filter keepB) vs ds := dats_sub (fun q hq hc => List.mem_filter.mpr ⟨hq, keep_dat hc⟩) h
theorem dat_keep {nx : List (Addr × Obj)} {v : Value} {d : Dat} (h : DatIn nx v d) : DatIn (nx.filter keepB) v d := dat_sub (fun q hq hc => List.mem_filter.mpr ⟨hq, keep_dat hc⟩) h
theorem list_keep {nx : List (Addr × Obj)} {K n : Nat} {vs : Array Value} (h : (K, listOf vs n) ∈ nx) : (K, listOf vs n) ∈ nx.filter keepB := List.mem_filter.mpr ⟨h, rfl⟩
/-- the ledger behind a session -/
theorem ses_stand {h₀ h : Heap} {L : Addr} {tb pt : Array Value} {PT : Nat} {nx led : List (Addr × Obj)} (N : News h₀ L h led) (hs : ∀ q ∈ (115, tabObj tb) :: (PT, tabObj pt) :: nx, q ∈ led) (hT : TabK tb pt PT nx) (h5 : @Ne Nat PT 115) :
    Stand tb [(PT, tabObj pt)] (nx.filter keepB) ∧ News h₀ L h ((115, tabObj tb) :: ([(PT, tabObj pt)] ++ nx.filter keepB)) := by
  refine ⟨⟨.inr ⟨PT, pt, rfl, hT.sub fun q hq ⟨qual, hc⟩ => List.mem_filter.mpr ⟨hq, keep_code (c := q.1) hc⟩⟩, fun q hq => by rw [List.mem_singleton.mp hq]; exact h5, fun q hq => (List.mem_filter.mp hq).2⟩, news_le N fun q hq => hs q ?_⟩
  rcases List.mem_cons.mp hq with rfl | hq
  · exact List.mem_cons_self ..
  · rcases List.mem_append.mp hq with hq | hq
    · rw [List.mem_singleton.mp hq]; exact List.mem_cons_of_mem _ (List.mem_cons_self ..)
    · exact List.mem_cons_of_mem _ (List.mem_cons_of_mem _ (List.mem_filter.mp hq).1)

section
variable {w : World} {p : Program} {loose : List Str} {mean : ExcName → Option Value} {mg mb : Str → Option Value}
  {dp un : Nat} {gd : Option (List Code)} {a : Addr} {ccd : Value} {A₀ : Around} {h₀ : Heap} {L : Addr} {m : Str → Option Value} {s : Shared} {Qf : Flow → Shared → Prop}

theorem turn_b {bd : List Stmt} {n : Int} {tn th0 : Tok} {hdr : List Nat} {ps : PL} {K nk : Nat} {ks : List Value} {tb : Array Value} {kn rest : List (Addr × Obj)}
    (B : Below A₀ h₀ [] h₀) (F : Fr h₀ L s.heap m) (hm : ∀ q ∈ [(Str.ofString "n", Value.int n tn), (Str.ofString "header", Value.str (ofL hdr) th0), (Str.ofString "kept", Value.ref K)], m q.1 = some q.2) (T : Top p loose mean mg mb h₀) (hdp : dp + 71 < recursionLimit) (hun : un + 1400 < cLine) (hC : CodeHd h₀ 119 115)
    (S : Stand tb kn rest) (hrd : Reads hdr ps) (hpl : ps.length ≤ 10) (hpo : ∀ p ∈ ps, lowP p) (hK : (K, listOf ks.toArray nk) ∈ rest) (hks : DatAll rest ks (ps.map prD)) (hbd : bd = turnB)
    (N : News h₀ L s.heap ((115, tabObj tb) :: (kn ++ rest)))
    (hret : ∀ (th' : Tok) (K' nk' PT' : Nat) (ks' : List Value) (tb' pt' : Array Value) (nx' : List (Addr × Obj)) (h' : Heap) (tk' : Nat) (m' : Str → Option Value), m' (Str.ofString "header") = some (.str (ofL (hdrF (gapL (n.fdiv 6)) n ps hdr)) th') → m' (Str.ofString "kept") = some (.ref K') → Fr h₀ L h' m' → News h₀ L h' ((115, tabObj tb') :: ([(PT', tabObj pt')] ++ nx')) → Stand tb' [(PT', tabObj pt')] nx' → (∀ q ∈ rest, q ∈ nx') → (K', listOf ks'.toArray nk') ∈ nx' → DatAll nx' ks' ((dueP n ps).map prD) → Qf .next { s with heap := h', toks := tk' }) (X : (hd.heap_39 w.params).In h₀) :
    wpAny (model PySem.Challenge.rw_dn0255_04.row.prog w) (ktrTop dp un gd (Str.ofString "law") (defScope lawDef) L a ccd [] []) (execs bd (envOf (Str.ofString "law") (defScope lawDef) L a ccd)) Qf (fun _ _ => False) s := by
  revert X; k_fill; intro X
  have hKst := kstMark
  w_top off

  subst hbd
  rw [kst_self hm] at F
  simp only [turnB, lawTurn, lawDef, forBody, defBody, defScope, PySem.Challenge.pw_dn0255_04, List.getD_cons_zero, List.getD_cons_succ, List.drop_succ_cons, List.drop_zero]
  repeat' ((fail_if_success (with_reducible show wpAny _ _ (call (Value.ref 127) _ _) _ _ _)); (first | (k_unfold; (try dsimp only)) | (k_end; wrow_close) | walk1 | (dsimp only; walk1) | (leave1; walk_say "STEP leave1"; try dsimp only) | fail "no step"))
  rename News _ _ _ _ => N3
  rename Fr _ _ _ _ => F3
  rename (LT.lt 115 _ ∧ AllLt _ _) => l3
  have hl3 : ∀ r ∈ (115, tabObj tb) :: (kn ++ rest), @LT.lt Nat _ r.1 _ := List.forall_mem_cons.mpr ⟨l3.1, lt_of l3.2⟩
  (k_dflt (refine' due_t ?kB1 ?kF1 ?kT1 ?kh1 ?rd1 ?ru1 ?kK1 ?kS1 ?kN1 ?rr1 ?kX1; (case kh1 => rfl); (case kF1 => k_asm); (case kB1 => k_asm); (case kT1 => k_asm); (case kX1 => k_asm); (case kN1 => k_asm))); (case rd1 => ktr_room); (case ru1 => ktr_units)
  case kK1 => exact List.mem_cons_of_mem _ (List.mem_append_right _ hK)
  case kS1 => exact hks.mono fun q hq => List.mem_cons_of_mem _ (List.mem_append_right _ hq)
  intro R1 S1 K1 ve nx h1 tk1 F4 N4 O1
  clear N3 F3
  obtain ⟨oE, oR, ⟨sv, nS, oS, oSd⟩, oV, ⟨kv, nK, oK, oKd⟩⟩ := O1
  repeat' ((fail_if_success (with_reducible show wpAny _ _ (call (Value.ref 120) _ _) _ _ _)); (first | (k_unfold; (try dsimp only)) | (k_end; wrow_close) | walk1 | (dsimp only; walk1) | (leave1; walk_say "STEP leave1"; try dsimp only) | fail "no step"))
  rename News _ _ _ _ => N5
  rename Fr _ _ _ _ => F5
  obtain ⟨s1, s2, s3, s4, s5⟩ := stand_ses S hl3 oE N5
  k_dflt (refine' session_t (n1 := 0) (kn := kn) (rest := nx.filter keepB) (tb := tb) (hdr := hdr) (ps := ps) B F5 T rfl ?hd9 ?hu9 hC s1.hkn s2 hrd hpl hpo s3 s4 s5 ?ret9 X)
  case hd9 => omega
  case hu9 => omega
  intro Rt led h6 tk6 F6 N6 O6
  clear N5 F5 s1 s2 s3 s4 s5
  obtain ⟨m1, PT', lv, tb', pt', nx', ve', t', e1, e2, e3, e4, e5, e6, e7⟩ := O6
  have e0 : ∀ q ∈ nx', q ∈ led := fun q hq => e1 _ (List.mem_cons_of_mem _ (List.mem_cons_of_mem _ (List.mem_cons_of_mem _ hq)))
  have e5' := e0 _ e5
  have e8 : ∀ q ∈ nx.filter keepB, q ∈ led := fun q hq => e0 q (e2 q hq)
  repeat' ((fail_if_success (with_reducible show wpAny _ _ (compareOp CmpOp.NotEq _ _) _ _ _)); (first | (k_unfold; (try dsimp only)) | (k_end; wrow_close) | walk1 | (dsimp only; walk1) | (leave1; walk_say "STEP leave1"; try dsimp only) | fail "no step"))
  rename News _ _ _ _ => N7
  rename Fr _ _ _ _ => F7
  refine same_ne N7 (e6.mono e0) ((dat_keep oV).mono e8) (ok_end n) (by decide) ?u1 ?_
  case u1 => (show un + 64 < cLine); omega
  repeat' ((fail_if_success (with_reducible show wpAny _ _ (compareOp CmpOp.NotEq _ _) _ _ _)); (first | (k_unfold; (try dsimp only)) | (k_end; wrow_close) | walk1 | (dsimp only; walk1) | (leave1; walk_say "STEP leave1"; try dsimp only) | fail "no step"))
  refine same_ne N7 (.list (e1 _ (List.mem_cons_self ..)) (e4.mono e0)) (.list (e8 _ (list_keep oS)) ((dats_keep oSd).mono e8)) (ok_due hpo) (by decide) ?u2 ?_
  case u2 => (show un + 64 < cLine); omega
  repeat' (first | (k_unfold; (try dsimp only)) | (k_end; wrow_close) | walk1 | (dsimp only; walk1) | (leave1; walk_say "STEP leave1"; try dsimp only) | fail "no step")
  obtain ⟨g1, g2⟩ := ses_stand N7 (fun q hq => e1 q (List.mem_cons_of_mem _ hq)) e3 e7
  exact hret _ K1 nK PT' kv tb' pt' _ _ _ _ rfl rfl F7 g2 g1 (fun q hq => List.mem_filter.mpr ⟨e2 _ (List.mem_filter.mpr ⟨oE.old _ (List.mem_cons_of_mem _ (List.mem_append_right _ hq)), S.kp q hq⟩), S.kp q hq⟩) (list_keep (e2 _ (list_keep oK))) (dats_keep ((dats_keep oKd).mono e2))

end

end
section
open PySem PySem.W PyProof.Rows PySem.Calls PyProof.V

theorem rl_empty : Str.ofString "" = ofL [] := by decide
/-- what holds between the turns -/
inductive LInv (Lst nn : Nat) (vs : List Value) (m : Str → Option Value) : List (Addr × Obj) → Prop
  | mk {hdr : List Nat} {ps : PL} {K nk : Nat} {ks : List Value} {tb : Array Value} {kn rest : List (Addr × Obj)} {th : Tok} (S : Stand tb kn rest) (hrd : Reads hdr ps) (hpl : ps.length ≤ 10) (hpo : ∀ p ∈ ps, lowP p) (hK : (K, listOf ks.toArray nk) ∈ rest) (hks : DatAll rest ks (ps.map prD)) (hL : (Lst, listOf vs.toArray nn) ∈ rest)
    (mh : m (Str.ofString "header") = some (.str (ofL hdr) th)) (mk' : m (Str.ofString "kept") = some (.ref K)) : LInv Lst nn vs m ((115, tabObj tb) :: (kn ++ rest))
theorem LInv.lst {Lst nn : Nat} {vs : List Value} {m : Str → Option Value} {nx : List (Addr × Obj)} (h : LInv Lst nn vs m nx) : (Lst, listOf vs.toArray nn) ∈ nx := by
  obtain ⟨S, hrd, hpl, hpo, hK, hks, hL, _, _⟩ := h
  exact List.mem_cons_of_mem _ (List.mem_append_right _ hL)
/-- the end of a turn: the iterator stands apart again -/
theorem turn_fin {h₀ h : Heap} {L : Addr} {tb pt : Array Value} {PT I K nk Lst nn : Nat} {oI : Obj} {nx : List (Addr × Obj)} {ks vs : List Value} {hdr : List Nat} {ps : PL} {th : Tok} {m : Str → Option Value}
    (N : News h₀ L h ((115, tabObj tb) :: ([(PT, tabObj pt)] ++ nx))) (S : Stand tb [(PT, tabObj pt)] nx) (hI : IterO oI) (hIm : (I, oI) ∈ nx) (h5 : @Ne Nat 115 I) (hrd : Reads hdr ps) (hp : ps.length ≤ 10 ∧ ∀ p ∈ ps, lowP p) (hK : (K, listOf ks.toArray nk) ∈ nx) (hks : DatAll nx ks (ps.map prD)) (hL : (Lst, listOf vs.toArray nn) ∈ nx)
    (mh : m (Str.ofString "header") = some (.str (ofL hdr) th)) (mk' : m (Str.ofString "kept") = some (.ref K)) : ∃ nx', News h₀ L h ((I, oI) :: nx') ∧ (∀ p ∈ nx', @Ne Nat p.1 I) ∧ LInv Lst nn vs m nx' := by
  have hn : ∀ q ∈ nx, q ∈ (115, tabObj tb) :: ([(PT, tabObj pt)] ++ nx) := fun q hq => List.mem_cons_of_mem _ (List.mem_append_right _ hq)
  have hP : (PT, tabObj pt) ∈ (115, tabObj tb) :: ([(PT, tabObj pt)] ++ nx) := List.mem_cons_of_mem _ (List.mem_append_left _ (List.mem_singleton.mpr rfl))
  have hT : TabK tb pt PT nx := by
    rcases S.hkn with ⟨h, _⟩ | ⟨P', p', h, hT⟩
    · cases h
    · cases h; exact hT
  have off : ∀ q ∈ nx, ((q.2.cls = .type "tuple" ∨ q.2.cls = .type "list") ∨ ∃ qual, CodeQ q.2 qual) → q ∈ nx.filter fun q => decide (@Ne Nat q.1 I) := fun q hq hc => List.mem_filter.mpr ⟨hq, decide_eq_true (iter_off N (hn _ hIm) hI (hn q hq) hc)⟩
  refine ⟨(115, tabObj tb) :: ([(PT, tabObj pt)] ++ nx.filter fun q => decide (@Ne Nat q.1 I)), news_le N ?_, ?_, .mk ⟨.inr ⟨PT, pt, rfl, hT.sub fun q hq hc => off q hq (.inr hc)⟩, S.k5, fun q hq => S.kp q (List.mem_filter.mp hq).1⟩ hrd hp.1 hp.2 (off _ hK (.inl (.inr rfl))) (dats_sub (fun q hq hc => off q hq (.inl hc)) hks) (off _ hL (.inl (.inr rfl))) mh mk'⟩
  · intro q hq
    rcases List.mem_cons.mp hq with rfl | hq
    · exact hn _ hIm
    · rcases List.mem_cons.mp hq with rfl | hq
      · exact List.mem_cons_self ..
      · rcases List.mem_append.mp hq with hq | hq
        · exact List.mem_cons_of_mem _ (List.mem_append_left _ hq)
        · exact hn _ (List.mem_filter.mp hq).1
  · refine List.forall_mem_cons.mpr ⟨h5, fun q hq => ?_⟩
    rcases List.mem_append.mp hq with hq | hq
    · rw [List.mem_singleton.mp hq]
      exact (keep_off N hP hT.pt (hn _ hIm) (iter_keep hI)).symm
    · exact of_decide_eq_true (List.mem_filter.mp hq).2
theorem Stand.more {tb : Array Value} {kn rest pre : List (Addr × Obj)} (S : Stand tb kn rest) (hp : ∀ q ∈ pre, keepB q = true) : Stand tb kn (pre ++ rest) :=
  ⟨S.hkn.imp id fun ⟨PT, pt, h, hT⟩ => ⟨PT, pt, h, hT.mono fun q hq => List.mem_append_right _ hq⟩, S.k5, fun q hq => (List.mem_append.mp hq).elim (hp q) (S.kp q)⟩
theorem news_more {h₀ h : Heap} {L : Addr} {t : Addr × Obj} {pre kn rest : List (Addr × Obj)} (N : News h₀ L h (pre ++ t :: (kn ++ rest))) : News h₀ L h (t :: (kn ++ (pre ++ rest))) := fun q hq => N q (by
  simp only [List.mem_cons, List.mem_append] at hq ⊢
  rcases hq with h | h | h | h
  · exact .inr (.inl h)
  · exact .inr (.inr (.inl h))
  · exact .inl h
  · exact .inr (.inr (.inr h)))

section
variable {w : World} {p : Program} {loose : List Str} {mean : ExcName → Option Value} {mg mb : Str → Option Value}
  {dp un : Nat} {gd : Option (List Code)} {a : Addr} {ccd : Value} {A₀ : Around} {h₀ : Heap} {L : Addr} {m : Str → Option Value} {s : Shared} {Qf : Flow → Shared → Prop}

theorem turn_t {bd : List Stmt} {Lst nn I : Nat} {vs : List Value} {oI : Obj} {nx : List (Addr × Obj)} {n : Int} {tn : Tok} {m₁ : Str → Option Value}
    (B : Below A₀ h₀ [] h₀) (F : Fr h₀ L s.heap (fun y => if y = Str.ofString "n" then some (Value.int n tn) else m₁ y)) (T : Top p loose mean mg mb h₀) (hdp : dp + 71 < recursionLimit) (hun : un + 1400 < cLine) (hC : CodeHd h₀ 119 115) (hJ : LInv Lst nn vs m₁ nx) (hnI : ∀ p ∈ nx, @Ne Nat p.1 I) (hcI : IterO oI) (hbd : bd = lawTurn) (N : News h₀ L s.heap ((I, oI) :: nx))
    (hret : ∀ (h' : Heap) (tk' : Nat) (m' : Str → Option Value) (nx' : List (Addr × Obj)), Fr h₀ L h' m' → News h₀ L h' ((I, oI) :: nx') → (∀ p ∈ nx', @Ne Nat p.1 I) → LInv Lst nn vs m' nx' → Qf .next { s with heap := h', toks := tk' }) (X : (hd.heap_39 w.params).In h₀) :
    wpAny (model PySem.Challenge.rw_dn0255_04.row.prog w) (ktrTop dp un gd (Str.ofString "law") (defScope lawDef) L a ccd [] []) (execs bd (envOf (Str.ofString "law") (defScope lawDef) L a ccd)) Qf (fun _ _ => False) s := by
  revert X; k_fill; intro X
  have hKst := kstMark
  w_top off

  subst hbd
  obtain ⟨S, hrd, hpl, hpo, hK, hks, hL, mh, mk'⟩ := hJ
  have h5 := hnI _ (List.mem_cons_self ..)
  have hms : ∀ q ∈ [(Str.ofString "n", Value.int n tn), (Str.ofString "header", _), (Str.ofString "kept", _)], (fun y => if y = Str.ofString "n" then some (Value.int n tn) else m₁ y) q.1 = some q.2 := List.forall_mem_cons.mpr ⟨if_pos rfl, List.forall_mem_cons.mpr ⟨(if_neg (by dsimp only; decide)).trans mh, List.forall_mem_cons.mpr ⟨(if_neg (by dsimp only; decide)).trans mk', fun _ h => nomatch h⟩⟩⟩
  rw [kst_self (m := fun y => if y = Str.ofString "n" then some (Value.int n tn) else m₁ y) hms] at F
  rw [show lawTurn = lawTurn.head (by simp [lawTurn, forBody, defBody, lawDef, PySem.Challenge.pw_dn0255_04]) :: turnB from rfl]
  simp only [lawTurn, lawDef, forBody, defBody, defScope, PySem.Challenge.pw_dn0255_04, List.getD_cons_zero, List.getD_cons_succ, List.head_cons]
  repeat' ((fail_if_success (with_reducible show wpAny _ _ (execs turnB _) _ _ _)); (first | (k_unfold; (try dsimp only)) | (k_end; wrow_close) | walk1 | (dsimp only; walk1) | (leave1; walk_say "STEP leave1"; try dsimp only) | fail "no step"))
  · rename News _ _ _ _ => N3
    rename Fr _ _ _ _ => F3
    refine turn_b (rest := [(_, listOf [].toArray 0), (I, oI)] ++ _) (hdr := []) (ps := []) (ks := []) B F3 (List.forall_mem_cons.mpr ⟨rfl, List.forall_mem_cons.mpr ⟨(by rw [← rl_empty]; rfl), List.forall_mem_cons.mpr ⟨rfl, fun _ h => nomatch h⟩⟩⟩) T hdp hun hC (S.more (List.forall_mem_cons.mpr ⟨rfl, List.forall_mem_cons.mpr ⟨iter_keep hcI, fun _ h => nomatch h⟩⟩)) reads_nil (by decide) (fun _ h => nomatch h) (List.mem_cons_self ..) .nil rfl (news_more N3) ?_ X
    intro th' K' nk' PT' ks' tb' pt' nx' h' tk' m' f1 f2 f3 f4 f5 f6 f7 f8
    obtain ⟨nx2, r1, r2, r3⟩ := turn_fin (Lst := Lst) (nn := nn) (vs := vs) f4 f5 hcI (f6 _ (List.mem_cons_of_mem _ (List.mem_cons_self ..))) h5 (hdr_reads reads_nil) (dueP_low (by decide) fun _ h => nomatch h) f7 f8 (f6 _ (List.mem_cons_of_mem _ (List.mem_cons_of_mem _ hL))) f1 f2
    exact hret h' tk' m' nx2 f3 r1 r2 r3
  · rename News _ _ _ _ => N3
    rename Fr _ _ _ _ => F3
    refine turn_b (rest := [(I, oI)] ++ _) B F3 (List.forall_mem_cons.mpr ⟨rfl, List.forall_mem_cons.mpr ⟨rfl, List.forall_mem_cons.mpr ⟨rfl, fun _ h => nomatch h⟩⟩⟩) T hdp hun hC (S.more (List.forall_mem_cons.mpr ⟨iter_keep hcI, fun _ h => nomatch h⟩)) hrd hpl hpo (List.mem_cons_of_mem _ hK) (hks.mono fun q hq => List.mem_cons_of_mem _ hq) rfl (news_more (pre := [(I, oI)]) N3) ?_ X
    intro th' K' nk' PT' ks' tb' pt' nx' h' tk' m' f1 f2 f3 f4 f5 f6 f7 f8
    obtain ⟨nx2, r1, r2, r3⟩ := turn_fin (Lst := Lst) (nn := nn) (vs := vs) f4 f5 hcI (f6 _ (List.mem_cons_self ..)) h5 (hdr_reads hrd) (dueP_low hpl hpo) f7 f8 (f6 _ (List.mem_cons_of_mem _ hL)) f1 f2
    exact hret h' tk' m' nx2 f3 r1 r2 r3

theorem law_tail {bd : List Stmt} {Lst nn : Nat} {vs : List Value} {ns : List Int} {nx : List (Addr × Obj)} {m₁ : Str → Option Value}
    (B : Below A₀ h₀ [] h₀) (F : Fr h₀ L s.heap m₁) (T : Top p loose mean mg mb h₀) (hdp : dp + 71 < recursionLimit) (hun : un + 1400 < cLine) (hC : CodeHd h₀ 119 115) (hJ : LInv Lst nn vs m₁ nx) (N : News h₀ L s.heap nx) (hbd : bd = lawTurn) (hvs : IntsAre vs ns)
    (hret : ∀ (tb : Array Value) (h' : Heap) (tk' : Nat) (m' : Str → Option Value), Fr h₀ L h' m' → News h₀ L h' [(115, tabObj tb)] → Qf .next { s with heap := h', toks := tk' }) (X : (hd.heap_39 w.params).In h₀) :
    wpAny (model PySem.Challenge.rw_dn0255_04.row.prog w) (ktrTop dp un gd (Str.ofString "law") (defScope lawDef) L a ccd [] []) (pyIter (.ref Lst)) (fun it s₂ => LoopAtV PySem.Challenge.rw_dn0255_04.row.prog w (ktrTop dp un gd (Str.ofString "law") (defScope lawDef) L a ccd [] []) h₀ (envOf (Str.ofString "law") (defScope lawDef) L a ccd) (Str.ofString "n") bd Qf (fun _ _ => False) it s₂) (fun _ _ => False) s := by
  refine loop_listI (l := Lst) (vs := vs) (nn := nn) (fun i m nx => LInv Lst nn vs m nx) rfl hJ.lst (fun i m nx h => h.lst) F N hJ ?turn ?done
  case turn =>
    intro i v m₂ nx2 h2 tk2 I oI hcI hv hJ2 hnI F2 N2
    obtain ⟨n, t, rfl, hn⟩ := ints_at hvs hv
    refine turn_t B F2 T hdp hun hC hJ2 hnI hcI hbd N2 ?_ X
    intro h' tk' m' nx' F' N' hI' hJ'
    exact turn_next F' N' hI' hJ'
  case done =>
    intro m₂ nx2 h2 tk2 hJ2 F2 N2
    obtain ⟨S, hrd, hpl, hpo, hK, hks, hL, _, _⟩ := hJ2
    exact hret _ h2 tk2 m₂ F2 (news_le N2 fun q hq => by rw [List.mem_singleton.mp hq]; exact List.mem_cons_self ..)

end

end
open PySem PySem.W PyProof.Rows PySem.Calls PyProof.V
local macro_rules | `(tactic| walk_at "binaryOp Add ref ref") => `(tactic| (k_here; k_dflt (refine' cat_t ?F ?N ?a ?b ?z ?_; (case F | N => k_asm); (case a | b => walk_at "mem_go"); (case z => (simp only [List.length_drop, List.length_dropLast, List.length_cons, List.length_nil, List.length_reverse]; omega))); intro D' h' F' N' l1))
section
open PySem PySem.W PyProof.Rows PySem.Calls PyProof.V

section
variable {w : World} {p : Program} {loose : List Str} {mean : ExcName → Option Value} {mg mb : Str → Option Value}
  {dp un : Nat} {gd : Option (List Code)} {a : Addr} {ccd : Value} {A₀ : Around} {h₀ : Heap} {L : Addr} {m : Str → Option Value} {s : Shared} {Qf : Flow → Shared → Prop}

noncomputable def lawEnd : List Stmt := (defBody lawDef).drop 2
theorem law_start {K D : Nat} {sv : List Value} {is : List Int} {th : Tok} {mF : Str → Option Value}
    (B : Below A₀ h₀ [] h₀) (F : Fr h₀ L s.heap mF) (T : Top p loose mean mg mb h₀) (hdp : dp + 71 < recursionLimit) (hun : un + 1400 < cLine) (hC : CodeHd h₀ 119 115) (N : News h₀ L s.heap [(K, listOf #[] 0), (115, tabObj #[])])
    (hmF : ∀ p ∈ [(Str.ofString "script", Value.ref D), (Str.ofString "header", Value.str (Str.ofString "") th), (Str.ofString "kept", Value.ref K)], mF p.1 = some p.2) (hL0 : h₀.IsList D sv.toArray) (hsv : IntsAre sv is) (hsl : is.length ≤ 63)
    (hret : ∀ (tb : Array Value) (h' : Heap) (tk' : Nat) (m' : Str → Option Value), Fr h₀ L h' m' → News h₀ L h' [(115, tabObj tb)] → Qf (.ret (.bool true)) { s with heap := h', toks := tk' }) (X : (hd.heap_39 w.params).In h₀) :
    wpAny (model PySem.Challenge.rw_dn0255_04.row.prog w) (ktrTop dp un gd (Str.ofString "law") (defScope lawDef) L a ccd [] []) (execs lawEnd (envOf (Str.ofString "law") (defScope lawDef) L a ccd)) Qf (fun _ _ => False) s := by
  revert X; k_fill; intro X
  have hKst := kstMark
  w_top off

  have hvl := hsv.length
  rw [kst_self (m := mF) hmF] at F
  simp only [lawEnd, lawDef, defBody, defScope, PySem.Challenge.pw_dn0255_04, List.getD_cons_zero, List.getD_cons_succ, List.drop_succ_cons, List.drop_zero]
  repeat' ((fail_if_success (with_reducible show wpAny _ _ (exec (Stmt.For _ _ _ _ _) _) _ _ _)); (first | (k_unfold; (try dsimp only)) | (k_end; wrow_close) | walk1 | (dsimp only; walk1) | (leave1; walk_say "STEP leave1"; try dsimp only) | fail "no step"))
  rename News _ _ _ _ => N7
  rename Fr _ _ _ _ => F7
  (k_dflt (refine' For_invVF F7 ?kx ?kp ?_; (case kx => rfl); (case kp => rfl)))
  repeat' ((fail_if_success (with_reducible show wpAny _ _ (subscriptTail _ _ _ _) _ _ _)); (first | (k_unfold; (try dsimp only)) | (k_end; wrow_close) | walk1 | (dsimp only; walk1) | (leave1; walk_say "STEP leave1"; try dsimp only) | fail "no step"))
  rename News _ _ _ _ => N8
  rename Fr _ _ _ _ => F8
  have hLs := hL0.at (fun o e => F8.keep _ o e)
  refine kmk_slice3_lit F8 N8 hLs .none .none (.int _ _) ?z0 rfl ?_ (by with_unfolding_all rfl) (by kmk_pure) ?z
  case z => rw [List.size_toArray, sizeLine_eq]; omega
  case z0 => (rw [Int.fdiv_eq_ediv_of_nonneg _ (by decide)]; simp only [ne_eq, Option.some.injEq]; omega)
  intro D9 h9 F9 N9 l9
  obtain ⟨ms, hms⟩ := ints_pick hsv none none (some (1 + Int.fdiv (is.length : Int) 5))
  have hpl := pick_len (vs := sv) (k := 1 + Int.fdiv (is.length : Int) 5) (by rw [Int.fdiv_eq_ediv_of_nonneg _ (by decide)]; omega)
  refine cat_t (vs := [_]) F9 N9 (List.mem_cons_of_mem _ (List.mem_cons_self ..)) (List.mem_cons_self ..) ?z2 ?_
  case z2 => (simp only [List.length_cons, List.length_nil]; omega)
  intro Lst h10 F10 N10 l10
  obtain ⟨vsL, hvsL⟩ : ∃ v, v = [Value.int 96 s.toks] ++ (slicePick sv.toArray none none (some (1 + Int.fdiv (is.length : Int) 5))).toList := ⟨_, rfl⟩
  have hIL : IntsAre vsL (96 :: ms) := by rw [hvsL]; exact .cons 96 _ hms
  rw [← hvsL] at N10
  have hst : Stand #[] [] [(Lst, listOf vsL.toArray 0), (K, listOf [].toArray 0)] := ⟨.inl ⟨rfl, rfl⟩, (fun _ h => nomatch h), List.forall_mem_cons.mpr ⟨rfl, List.forall_mem_cons.mpr ⟨rfl, fun _ h => nomatch h⟩⟩⟩
  refine law_tail (vs := vsL) (Lst := Lst) (nn := 0) (ns := 96 :: ms) B F10 T hdp hun hC (.mk (hdr := []) (ps := []) (ks := []) (K := K) (nk := 0) hst reads_nil (by decide) (fun _ h => nomatch h) (List.mem_cons_of_mem _ (List.mem_cons_self ..)) .nil (List.mem_cons_self ..) (by rw [← rl_empty]; rfl) rfl) (news_le N10 (by simp only [List.nil_append]; walk_at "led_sub")) ?hb hIL ?_ X
  case hb => rfl
  intro tb h11 tk11 m11 F11 N11
  dsimp only
  repeat' (first | (k_unfold; (try dsimp only)) | (k_end; wrow_close) | walk1 | (dsimp only; walk1) | (leave1; walk_say "STEP leave1"; try dsimp only) | fail "no step")
  dsimp only
  rename Fr _ _ _ _ => F12
  rename News _ _ _ _ => N12
  exact hret _ _ _ _ F12 N12

end

end
section
open PySem PySem.W PyProof.Rows PySem.Calls PyProof.V

theorem row : PySem.Challenge.rw_dn0255_04.Holds := hd (by
  w_top off
  k_go0
  (all_goals try k_fold)
  repeat' ((fail_if_success (with_reducible show wpAny _ _ (execs (Stmt.For _ _ _ _ _ :: _) _) _ _ _)); (first | (k_unfold; (try dsimp only)) | (k_end; wrow_close) | walk1 | (dsimp only; walk1) | (leave1; walk_say "STEP leave1"; try dsimp only) | fail "no step"))
  rename News _ _ _ _ => N7
  rename Fr _ _ _ _ => F7
  refine wpAny_noRaise ?_
  rename CodeHd _ _ _ => hC9
  refine' law_start (by assumption) F7 (by assumption) ?rd ?ru hC9 N7 ?km (by assumption) (by assumption) ?kl ?kr (by assumption)
  case rd => decide
  case ru => decide
  case km => simp only [List.forall_mem_cons]; exact ⟨rfl, rfl, rfl, fun _ h => nomatch h⟩
  case kl => omega
  case kr =>
    intro tb9 h9 tk9 m9 F9 N9
    refine And.intro ?g1 ?g2
    case g2 => exact ⟨GrownAt.of N9 (List.mem_cons_self ..), trivial⟩
    case g1 =>
      show GoodW _ _ _ _ _ (.ok (.ret (.bool true))) _
      refine goodW_bool F9 (by with_reducible assumption) (raisesW_false ?_) ?_
      · wrow_none_raised
      · wrow_post)


end
end Mine
theorem PySem.Challenge.cw_dn0255_04_holds : PySem.Challenge.rw_dn0255_04.Holds :=
  Mine.row
