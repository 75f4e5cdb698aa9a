import PyProof.Rows.All
import Wide.All
import OpenK.AllK
import Wide.FinOn
import PySem.Challenge.RW_dn0255_02
set_option Elab.async false
section
open PySem PySem.W PyProof.Rows
set_option Elab.async false
set_option maxRecDepth 100000
set_option maxHeartbeats 8000000
namespace Mine
open_top hd for PySem.Challenge.rw_dn0255_02
end Mine

end
section
open PySem PySem.Calls PyProof.Rows PySem.W
set_option Elab.async false
set_option maxRecDepth 100000
namespace Mine

/-- how one turn of a loop ends: the iterator as it was, the rest by J -/
def TurnEnd (h₀ : Heap) (L : Addr) (I : Addr) (oI : Obj) (J : (Str → Option Value) → List (Addr × Obj) → Prop) (s₁ : Shared) (Q : Flow → Shared → Prop) (f : Flow) (s₂ : Shared) : Prop :=
  match f with
  | .ret v => Q (.ret v) s₂
  | .brk => Q .next s₂
  | _ => ∃ h' tk m' nx, s₂ = { s₁ with heap := h', toks := tk } ∧ Fr h₀ L h' m' ∧ News h₀ L h' ((I, oI) :: nx) ∧ (∀ p ∈ nx, p.1 ≠ I) ∧ J m' nx

theorem turn_next {h₀ h' : Heap} {L I : Addr} {oI : Obj} {J : (Str → Option Value) → List (Addr × Obj) → Prop} {s₁ : Shared} {Q : Flow → Shared → Prop} {tk : Nat} {m' : Str → Option Value} {nx : List (Addr × Obj)}
    (F : Fr h₀ L h' m') (N : News h₀ L h' ((I, oI) :: nx)) (hI : ∀ p ∈ nx, p.1 ≠ I) (hJ : J m' nx) : TurnEnd h₀ L I oI J s₁ Q .next { s₁ with heap := h', toks := tk } := ⟨h', tk, m', nx, rfl, F, N, hI, hJ⟩
theorem turn_cont {h₀ h' : Heap} {L I : Addr} {oI : Obj} {J : (Str → Option Value) → List (Addr × Obj) → Prop} {s₁ : Shared} {Q : Flow → Shared → Prop} {tk : Nat} {m' : Str → Option Value} {nx : List (Addr × Obj)}
    (F : Fr h₀ L h' m') (N : News h₀ L h' ((I, oI) :: nx)) (hI : ∀ p ∈ nx, p.1 ≠ I) (hJ : J m' nx) : TurnEnd h₀ L I oI J s₁ Q .cont { s₁ with heap := h', toks := tk } := ⟨h', tk, m', nx, rfl, F, N, hI, hJ⟩
theorem news_tail {h₀ h : Heap} {L : Addr} {a : Addr × Obj} {l : List (Addr × Obj)} (N : News h₀ L h (a :: l)) : News h₀ L h l := fun q hq => N q (List.mem_cons_of_mem _ hq)

theorem take_one {α : Type} {l : List α} {i : Nat} (h : i < l.length) : l.take (i + 1) = l.take i ++ [l[i]] :=
  List.take_succ_eq_append_getElem h

section
variable {prog : Program} {w : World} {A : Around} {E : Value → Shared → Prop} {s : Shared} {env : Env} {h₀ : Heap} {x : Str} {body : List Stmt} {Q : Flow → Shared → Prop}

theorem loop_gen {I : Addr} {fp : List Addr} {n : Nat} {P : Nat → Value → Prop} {St : Nat → Heap → Prop} {m₀ : Str → Option Value} {news : List (Addr × Obj)}
    (fixed : List (Addr × Obj)) (J : Nat → (Str → Option Value) → List (Addr × Obj) → Prop)
    (W : Walks prog w A I fp [I] n P St) (hlive : ∀ i h, St i h → ∃ o, h.get? I = some o) (hLf : env.locals ∉ fp) (hI : h₀.get? I = none) (hnI : ∀ p ∈ news, p.1 ≠ I)
    (hfp : ∀ b ∈ fp, b = I ∨ (∃ o, (b, o) ∈ fixed) ∨ ∃ o, h₀.get? b = some o) (hfix : ∀ i m nx, J i m nx → ∀ p ∈ fixed, p ∈ nx)
    (hst : St 0 s.heap) (F : Fr h₀ env.locals s.heap m₀) (N : News h₀ env.locals s.heap news) (hj : J 0 m₀ news)
    (turn : ∀ i v m₁ nx h tk oI, i < n → P i v → J i m₁ nx → (∀ p ∈ nx, p.1 ≠ I) → Fr h₀ env.locals h (fun y => if y = x then some v else m₁ y) → News h₀ env.locals h ((I, oI) :: nx) →
      wpAny (model prog w) A (execs body env) (TurnEnd h₀ env.locals I oI (J (i + 1)) { s with heap := h, toks := tk } Q) E { s with heap := h, toks := tk })
    (done : ∀ m₁ nx h tk, J n m₁ nx → Fr h₀ env.locals h m₁ → News h₀ env.locals h nx → Q .next { s with heap := h, toks := tk }) :
    LoopAtV prog w A h₀ env x body Q E (.ref I) s := by
  refine ⟨I, fp, [I], n, P, St, m₀, news, J, rfl, W, hLf, ?_, ?_, hst, F, N, hj, ?_, ?_⟩
  · intro b hb; rw [List.mem_singleton.mp hb]; exact hI
  · intro p hp hm; exact hnI p hp (List.mem_singleton.mp hm)
  · rintro i v m₁ nx s₁ own ⟨hh', tk', rfl⟩ hin hP hJ hoff hown hget hall hst₁ F₁ N₁
    obtain ⟨oI, hoI⟩ := hlive _ _ hst₁
    have hoff' : ∀ p ∈ nx, p.1 ≠ I := fun p hp e => hoff p hp (List.mem_singleton.mpr e)
    have hIown : (I, oI) ∈ own := hall I (W.sub I (List.mem_singleton.mpr rfl)) hI oI hoI
    have N₂ : News h₀ env.locals hh' ((I, oI) :: nx) := fun p hp => by
      rcases List.mem_cons.mp hp with rfl | hp
      · exact N₁ _ (List.mem_append_left _ hIown)
      · exact N₁ p (List.mem_append_right _ hp)
    have hownin : ∀ p ∈ own, p = (I, oI) ∨ p ∈ fixed := by
      intro p hp
      rcases hfp p.1 (hown p hp) with e | ⟨o, ho⟩ | ⟨o, ho⟩
      · left
        have := hget p hp
        rw [e] at this
        have e2 : p.2 = oI := by
          have h3 := hoI
          rw [this] at h3
          exact Option.some.inj h3
        rw [← e, ← e2]
      · right
        have h1 := (N₂ _ (List.mem_cons_of_mem _ (hfix i m₁ nx hJ _ ho))).1
        have h2 := hget p hp
        have h3 : o = p.2 := by
          have h4 : hh'.get? p.1 = some o := h1
          rw [h2] at h4
          exact (Option.some.inj h4).symm
        rw [h3] at ho
        exact ho
      · have := (N₁ p (List.mem_append_left _ hp)).2.2
        rw [ho] at this; cases this
    refine wpAny_mono (turn i v m₁ nx hh' tk' oI hin hP hJ hoff' F₁ N₂) (fun f s₂ p => ?_) fun _ _ e => e
    have fin : (∃ h' tk m' nx', s₂ = { ({ s with heap := hh', toks := tk' } : Shared) with heap := h', toks := tk } ∧ Fr h₀ env.locals h' m' ∧ News h₀ env.locals h' ((I, oI) :: nx') ∧ (∀ p ∈ nx', p.1 ≠ I) ∧ J (i + 1) m' nx') →
        LoopStepU h₀ env.locals [I] own (J (i + 1)) { s with heap := hh', toks := tk' } .next s₂ := by
      rintro ⟨h', tk, m', nx', e, F', N', hne, hJ'⟩
      refine ⟨rfl, h', tk, m', nx', e, F', fun p hp => ?_, fun p hp hm => hne p hp (List.mem_singleton.mp hm), hJ'⟩
      rcases List.mem_append.mp hp with hp | hp
      · rcases hownin p hp with rfl | hf
        · exact N' _ (List.mem_cons_self ..)
        · exact N' _ (List.mem_cons_of_mem _ (hfix _ _ _ hJ' p hf))
      · exact N' _ (List.mem_cons_of_mem _ hp)
    cases f with
    | ret v => exact .ret p
    | brk => exact .brk p
    | next => exact .next (fin p)
    | cont => exact .cont (fin p)
  · rintro h' tk m' news' F' N' _ hJ
    exact done m' news' h' tk hJ F' N'

/-- a loop over a list of the ledger that no turn changes -/
theorem loop_list {l : Addr} {vs : List Value} {nn : Nat} {m₀ : Str → Option Value} {news : List (Addr × Obj)} (J : Nat → (Str → Option Value) → List (Addr × Obj) → Prop)
    (hh : A.handled = none) (hl : (l, listOf vs.toArray nn) ∈ news) (hfix : ∀ i m nx, J i m nx → (l, listOf vs.toArray nn) ∈ nx)
    (F : Fr h₀ env.locals s.heap m₀) (N : News h₀ env.locals s.heap news) (hj : J 0 m₀ news)
    (turn : ∀ i v m₁ nx h tk I oI, vs[i]? = some v → J i m₁ nx → (∀ p ∈ nx, p.1 ≠ I) → Fr h₀ env.locals h (fun y => if y = x then some v else m₁ y) → News h₀ env.locals h ((I, oI) :: nx) →
      wpAny (model prog w) A (execs body env) (TurnEnd h₀ env.locals I oI (J (i + 1)) { s with heap := h, toks := tk } Q) E { s with heap := h, toks := tk })
    (done : ∀ m₁ nx h tk, J vs.length m₁ nx → Fr h₀ env.locals h m₁ → News h₀ env.locals h nx → Q .next { s with heap := h, toks := tk }) :
    wpAny (model prog w) A (pyIter (.ref l)) (fun it s₂ => LoopAtV prog w A h₀ env x body Q E it s₂) E s := by
  have hol : s.heap.get? l = some (listOf vs.toArray nn) := (N _ hl).1
  have hls : s.heap.IsList l vs.toArray := ⟨_, hol, rfl, nn, rfl⟩
  have hne : l ≠ s.heap.objs.size := Nat.ne_of_lt (Heap.lt_size hol)
  refine wpAny_pyIter_list hls ?_
  have W := Walks.list (prog := prog) (w := w) hh s.heap.objs.size l hne vs.toArray
  have hlen : vs.toArray.size = vs.length := by simp
  rw [hlen] at W
  refine loop_gen [(l, listOf vs.toArray nn)] J W ?_ ?_ ?_ ?_ ?_ ?_ ⟨⟨_, Heap.get?_push_size _ rfl, rfl, rfl⟩, hls.at fun o e => Heap.get?_push_of_some _ e⟩ (F.push _) (fun p hp => ⟨Heap.get?_push_of_some _ (N p hp).1, (N p hp).2⟩) hj ?_ ?_
  · rintro i h ⟨⟨o, ho, _⟩, _⟩; exact ⟨o, ho⟩
  · intro hm
    rcases List.mem_cons.mp hm with e | hm
    · exact absurd F.ns.lt (e ▸ Nat.lt_irrefl _)
    · exact (N _ hl).2.1 ((List.mem_singleton.mp hm).symm)
  · exact next_is_new F
  · intro p hp e
    exact absurd (Heap.lt_size (N p hp).1) (e ▸ Nat.lt_irrefl _)
  · intro b hb
    rcases List.mem_cons.mp hb with e | hb
    · exact .inl e
    · rw [List.mem_singleton.mp hb]; exact .inr (.inl ⟨_, List.mem_singleton.mpr rfl⟩)
  · intro i m nx hJ p hp
    rw [List.mem_singleton.mp hp]; exact hfix i m nx hJ
  · intro i v m₁ nx h tk oI hin hP hJ hn F₁ N₁
    exact turn i v m₁ nx h tk _ oI (by simpa using hP) hJ hn F₁ N₁
  · exact done
end
end Mine

end
section
open PySem PySem.Calls PyProof.Rows PySem.W
set_option Elab.async false
set_option maxRecDepth 100000
namespace Mine

section
variable {M : Model} {A : Around} {E : Value → Shared → Prop} {s : Shared}
theorem newFunctionEnv_cc {scope : Scope} {globals : Addr} {closure : List (Str × Addr)} {binds : List (Str × Value)} {qual : Str}
    {func : Option Addr} {code : Value} {builtins : Addr} {Q : Env → Shared → Prop}
    (hl : ∀ x ∈ binds, scope.names.lookup x.1 = some .local)
    (hQ : ∀ h', h'.Ns s.heap.objs.size (fun x => binds.reverse.lookup x) →
      Heap.SameBut s.heap.objs.size (pushCells (s.heap.push { cls := .type "frame", data := .dict #[] }) scope.names) h' →
      Q (newEnv scope s.heap.objs.size globals (cellsFrom (s.heap.objs.size + 1) scope.names closure) qual func code none builtins) { s with heap := h', toks := s.toks + binds.length })
    (hk : scope.kind = .function) :
    wpAny M A (newFunctionEnv scope globals closure binds qual func code none builtins) Q E s := by
  simp only [newFunctionEnv, Option.isSome_none, Bool.false_eq_true, if_false]
  simp only [newEnv] at hQ
  refine wpAny_bind (wpAny_alloc ?_)
  refine wpAny_bind (wpAny_layCells _ (fun name kind cells => by cases hkc : kind == NameKind.cell <;> simp [hkc]) _ _ _ _ ?_)
  rw [show ({ s with heap := s.heap.push { cls := .type "frame", data := .dict #[] } } : Shared).heap.objs.size = s.heap.objs.size + 1 from Heap.size_push ..]
  refine wpAny_bind ?_
  refine wpAny_forIn_list _
    (fun rest _ s' => ∃ done h', binds = done ++ rest ∧ s' = { s with heap := h', toks := s.toks + done.length } ∧
      h'.Ns s.heap.objs.size (fun x => done.reverse.lookup x) ∧
      Heap.SameBut s.heap.objs.size (pushCells (s.heap.push { cls := .type "frame", data := .dict #[] }) scope.names) h') _ ?_ ?_ binds _
    ⟨[], _, rfl, rfl, (Heap.Ns.new s.heap (.type "frame")).keeps (pushCells_keeps _ _), Heap.SameBut.refl ..⟩
  · rintro ⟨name, v⟩ rest _ s' ⟨done, h', hb, rfl, hns, hsb⟩
    have hk' : Env.kindOf { scope, locals := s.heap.objs.size, globals, cells := cellsFrom (s.heap.objs.size + 1) scope.names closure, qual, func, code, frame := some s.heap.objs.size, builtins } name = some .local :=
      hl (name, v) (by rw [hb]; simp)
    have hp : (scope.kind == .class || (scope.kind == .module && (s.heap.objs.size != globals))) = false := by
      rw [hk]; rfl
    simp only [storeName_local hk' hp]
    refine wpAny_bind (wpAny_nsSet hns fun h'' hns' hsb' => wpAny_pure ⟨done ++ [(name, v)], h'', by simp [hb], ?_, ?_, hsb.trans hsb'⟩)
    · simp [Nat.add_assoc]
    · rw [lookup_reverse_snoc]; exact hns'
  · rintro _ s' ⟨done, h', hb, rfl, hns, hsb⟩
    rw [List.append_nil] at hb; subst hb
    exact wpAny_pure (hQ h' hns hsb)
end

section
variable {prog : Program} {w : World} {A₀ A : Around} {s : Shared} {base h₀ : Heap} {outer : List Env} {L : Addr} {m : Str → Option Value} {env : Env} {news : List (Addr × Obj)}
  {R : Result → Shared → Prop} {name qual : Str} {params : Arguments} {body : List Stmt} {scope : Scope} {cl : List (Str × Addr)} {dV kV doc pm cdv ct : Value} {an : Option Addr} {fo : Obj} {f : Addr} {args : Args} {binds : List (Str × Value)}

theorem callX_cc (B : Below A₀ base outer h₀) (F : Fr h₀ L s.heap m) (N : News h₀ L s.heap news) (hlim : h₀.NoLimit) (hA : A.frames = some (env :: outer)) (hf : env.frame = some L) (hke : env.scope.kind = .function)
    (ho : s.heap.get? f = some fo) (hd : fo.data = .func (fnX name qual params body scope cl dV kV doc pm an cdv ct)) (hcd : s.heap.CodeRec cdv qual) (hroom : A.depth < recursionLimit)
    (hbind : BindsTo s (fnX name qual params body scope cl dV kV doc pm an cdv ct) args binds) (hloc : ∀ y ∈ binds, scope.names.lookup y.1 = some .local)
    (h : ∀ g L' h₁ cells, Fr h₀ L g m → Fr g L' h₁ (fun y => binds.reverse.lookup y) → News g L' h₁ (cells ++ news) →
      CellsAre (fun _ => none) (cellsFrom (L' + 1) scope.names []) cells → Below A base (env :: outer) g → h₀.StaysIn g → (∀ p ∈ news, p.1 < L') →
      wpAny (model prog w) (A.deeper (envX qual scope L' f cdv (cellsFrom (L' + 1) scope.names cl))) (execs body (envX qual scope L' f cdv (cellsFrom (L' + 1) scope.names cl)))
        (fun fl s' => LeaveK h₀ L m g R (match fl with | .ret v => v | _ => .none) s')
        (fun e s' => wpAny (model prog w) (A.deeper (envX qual scope L' f cdv (cellsFrom (L' + 1) scope.names cl))) (leaving (envX qual scope L' f cdv (cellsFrom (L' + 1) scope.names cl)) e) (fun _ s'' => R (.error e) s'') (fun e' s'' => R (.error e') s'') s')
        { s with heap := h₁, toks := s.toks + binds.length })
    (hco : scope.isCoroutine = false) (hgen : scope.isGenerator = false) (hk : scope.kind = .function) : codeAny (model prog w) A (.call (.ref f) args) R s := by
  obtain ⟨FG, BG, st, lv⟩ := groundX (R := R) B F N hA hf hke
  refine codeAny_call_function hroom ho hd hco hgen rfl hcd (hbind _ _ _ _ ?_)
  refine newFunctionEnv_cc hloc (fun h₁ hns hsb => ?_) hk
  have hk₁ : ∀ b o, s.heap.get? b = some o → h₁.get? b = some o := fun b o e =>
    hsb.extBut b o (Nat.ne_of_lt (Heap.lt_size e)) (pushCells_keeps _ _ b o (Heap.get?_push_of_some _ e))
  refine ⟨(hlim.keeps F.keep).keeps hk₁, codeAny_func ?_⟩
  have ok := cellsFrom_ok scope.names (s.heap.push { cls := .type "frame", data := .dict #[] }) (s.heap.objs.size + 1) [] ⟨fun _ _ hm => (nomatch hm), List.Pairwise.nil⟩ (by rw [Heap.size_push]; exact Nat.le_refl _)
  rw [Heap.size_push] at ok
  obtain ⟨cells, NC, Y⟩ := Cl.news (h₀ := s.heap) (L := s.heap.objs.size) (h := h₁) (cm := fun _ => none) (cs := cellsFrom (s.heap.objs.size + 1) scope.names []) (Nat.le_refl _) fun n c hm => ⟨by
      obtain ⟨⟨o, ho', hd'⟩, hlo⟩ := ok.empty n c hm
      exact ⟨o, hsb.extBut c o (Nat.ne_of_gt hlo) ho', hd'⟩, (ok.empty n c hm).2⟩
  refine wpAny_mono (h _ s.heap.objs.size h₁ cells FG ⟨hns, fun b o e => hk₁ b o (of_hideAll _ e), Nat.le_of_eq (hideAll_size _ _)⟩ (fun p hp => ?_) Y BG st (fun p hp => Heap.lt_size (N p hp).1)) (fun fl s' hl => lv _ _ hl) fun _ _ y => y
  rcases List.mem_append.mp hp with hp | hp
  · refine ⟨(NC p hp).1, (NC p hp).2.1, ?_⟩
    cases q : (hideAll s.heap (news.map (·.1))).get? p.1 with
    | none => rfl
    | some o => have := of_hideAll _ q; rw [(NC p hp).2.2] at this; cases this
  · exact ⟨hk₁ _ _ (N p hp).1, Nat.ne_of_lt (Heap.lt_size (N p hp).1), hideAll_none _ (List.mem_map_of_mem hp)⟩

end

section
variable {prog : Program} {w : World} {A A₀ : Around} {s : Shared} {K : Frag} {L : Addr} {h₀ base : Heap} {m mg mb : Str → Option Value} {news : List (Addr × Obj)} {p : Program} {loose : List Str} {mean : ExcName → Option Value}
/-- a def of the ledger with a closure and cells of its own -/
theorem code_cc {env : Env} {outer : List Env} {R : Result → Shared → Prop} {name qual : Str} {params : Arguments} {body : List Stmt} {scope : Scope} {cl : List (Str × Addr)} {doc pm ctv : Value} {c' : Addr} {f : Addr} {args : Args} {binds : List (Str × Value)}
    (cs cs0 : Nat → List (Str × Addr)) (hcs : ∀ n, cellsFrom (n + 1) scope.names cl = cs n) (hcs0 : ∀ n, cellsFrom (n + 1) scope.names [] = cs0 n)
    (B : Below A₀ base outer h₀) (F : Fr h₀ L s.heap m) (X₀ : K.In h₀) (N : News h₀ L s.heap news) (T : Top p loose mean mg mb h₀) (hA : A.frames = some (env :: outer)) (hf : env.frame = some L) (hke : env.scope.kind = .function)
    (ho : (f, fnMade name qual params body scope cl doc pm c' ctv) ∈ news) (hcd : s.heap.CodeRec (.ref c') qual) (hroom : A.depth < recursionLimit)
    (hbind : BindsTo s (fnX name qual params body scope cl .none .none doc pm none (.ref c') ctv) args binds) (hloc : ∀ y ∈ binds, scope.names.lookup y.1 = some .local)
    (h : ∀ g L' h₁ cells, Fr h₀ L g m → Fr g L' h₁ (fun y => binds.reverse.lookup y) → News g L' h₁ (cells ++ news) → CellsAre (fun _ => none) (cs0 L') cells → Below A base (env :: outer) g → K.In g → Top p loose mean mg mb g → (∀ p ∈ news, p.1 < L') →
      wpAny (model prog w) (A.deeper (envX qual scope L' f (.ref c') (cs L'))) (execs body (envX qual scope L' f (.ref c') (cs L')))
        (fun fl s' => LeaveK h₀ L m g R (match fl with | .ret v => v | _ => .none) s')
        (fun e s' => wpAny (model prog w) (A.deeper (envX qual scope L' f (.ref c') (cs L'))) (leaving (envX qual scope L' f (.ref c') (cs L')) e) (fun _ s'' => R (.error e) s'') (fun e' s'' => R (.error e') s'') s')
        { s with heap := h₁, toks := s.toks + binds.length })
    (hco : scope.isCoroutine = false) (hgen : scope.isGenerator = false) (hk : scope.kind = .function) : codeAny (model prog w) A (.call (.ref f) args) R s :=
  callX_cc (cl := cl) B F N T.nolimit hA hf hke (N _ ho).1 rfl hcd hroom hbind hloc (fun g L' h₁ cells FG F' N' Y B' st l => by
    rw [hcs L']
    rw [hcs0 L'] at Y
    exact h g L' h₁ cells FG F' N' Y B' (X₀.keeps st) (T.keeps st) l) hco hgen hk
end
end Mine
namespace Mine
open LCg LCt
section
variable {prog : Program} {w : World} {A : Around} {s : Shared} {h₀ : Heap} {L : Addr} {m : Str → Option Value} {env : Env} {elt ct : Expr} {x : Str} {scope : Scope} {cl : List (Str × Addr)} {S : List (Addr × Obj) → Prop} {P : Nat → Value → Prop} {Fin : List Value → List (Addr × Obj) → Prop} {news : List (Addr × Obj)} {n : Nat}
/-- a comprehension with one test, by what holds between its turns -/
theorem compT_inv (J : Nat → List Value → List (Addr × Obj) → Prop) (hj : J 0 [] news)
    (turn : ∀ i ys nw v I oI C oC D m₂ h tk (E' : Value → Shared → Prop), i < n → J i ys nw → P i v → NsObj oC m₂ → m₂ x = some v → Fr h₀ L h m → News h₀ L h ((I, oI) :: (C, oC) :: (D, lst ys) :: nw) → Off3 I C D nw → ((@Ne Nat I C) ∧ (@Ne Nat I D) ∧ (@Ne Nat C D)) →
      wpAny (model prog w) A (isTrue ct (compEnvC scope cl C env) (eval ct (compEnvC scope cl C env))) (fun ok s' => if ok = true then
        wpAny (model prog w) A (eval elt (compEnvC scope cl C env)) (CompEnd h₀ L m { s with heap := h, toks := tk } I oI C oC D (lst ys) S (fun y news' => J (i + 1) (ys ++ [y]) news')) E' s'
        else CompEnd h₀ L m { s with heap := h, toks := tk } I oI C oC D (lst ys) S (fun _ news' => J (i + 1) ys news') Value.none s') E' { s with heap := h, toks := tk })
    (fin : ∀ ys nw, J n ys nw → Fin ys nw) : CompRestT prog w A h₀ L m env ct elt x scope cl s S P Fin n 0 [] news := by
  have key : ∀ (k i : Nat) (ys : List Value) (nw : List (Addr × Obj)), i + k = n → J i ys nw → CompRestT prog w A h₀ L m env ct elt x scope cl s S P Fin k i ys nw := by
    intro k
    induction k with
    | zero => intro i ys nw hi hJ; exact CompRestT.zero (fin ys nw (by rw [← show i = n by omega]; exact hJ))
    | succ k ih =>
      intro i ys nw hi hJ
      refine CompRestT.succ ?_
      intro v I oI C oC D m₂ h tk E' hv hC hx F N off ne
      refine wpAny_mono (turn i ys nw v I oI C oC D m₂ h tk E' (by omega) hJ hv hC hx F N off ne) (fun ok s' hq => ?_) fun _ _ e => e
      cases ok with
      | true =>
        simp only [if_true] at hq ⊢
        refine wpAny_mono hq (fun y s'' hy => ?_) fun _ _ e => e
        obtain ⟨h', tk', nw', e, F', N', off', hS, hJ'⟩ := hy
        exact ⟨h', tk', nw', e, F', N', off', hS, ih (i + 1) _ _ (by omega) hJ'⟩
      | false =>
        simp only [Bool.false_eq_true, if_false] at hq ⊢
        obtain ⟨h', tk', nw', e, F', N', off', hS, hJ'⟩ := hq
        exact ⟨h', tk', nw', e, F', N', off', hS, ih (i + 1) _ _ (by omega) hJ'⟩
  exact key n 0 [] news (by omega) hj

/-- a comprehension without a test, by what holds between its turns -/
theorem compU_inv (J : Nat → List Value → List (Addr × Obj) → Prop) (hj : J 0 [] news)
    (turn : ∀ i ys nw v I oI C oC D m₂ h tk (E' : Value → Shared → Prop), i < n → J i ys nw → P i v → NsObj oC m₂ → m₂ x = some v → Fr h₀ L h m → News h₀ L h ((I, oI) :: (C, oC) :: (D, lst ys) :: nw) → Off3 I C D nw → ((@Ne Nat I C) ∧ (@Ne Nat I D) ∧ (@Ne Nat C D)) →
      wpAny (model prog w) A (eval elt (compEnvC scope cl C env)) (CompEnd h₀ L m { s with heap := h, toks := tk } I oI C oC D (lst ys) S (fun y news' => J (i + 1) (ys ++ [y]) news')) E' { s with heap := h, toks := tk })
    (fin : ∀ ys nw, J n ys nw → Fin ys nw) : CompRest prog w A h₀ L m env elt x scope cl s S P Fin n 0 [] news := by
  have key : ∀ (k i : Nat) (ys : List Value) (nw : List (Addr × Obj)), i + k = n → J i ys nw → CompRest prog w A h₀ L m env elt x scope cl s S P Fin k i ys nw := by
    intro k
    induction k with
    | zero => intro i ys nw hi hJ; exact CompRest.zero (fin ys nw (by rw [← show i = n by omega]; exact hJ))
    | succ k ih =>
      intro i ys nw hi hJ
      refine CompRest.succ ?_
      intro v I oI C oC D m₂ h tk E' hv hC hx F N off ne
      refine wpAny_mono (turn i ys nw v I oI C oC D m₂ h tk E' (by omega) hJ hv hC hx F N off ne) (fun y s'' hy => ?_) fun _ _ e => e
      obtain ⟨h', tk', nw', e, F', N', off', hS, hJ'⟩ := hy
      exact ⟨h', tk', nw', e, F', N', off', hS, ih (i + 1) _ _ (by omega) hJ'⟩
  exact key n 0 [] news (by omega) hj
end
end Mine
namespace Mine
open LCg LCt
section
variable {prog : Program} {w : World} {A : Around} {s : Shared} {h₀ : Heap} {L : Addr} {m : Str → Option Value} {env : Env} {elt ct : Expr} {x : Str} {scope : Scope} {cl : List (Str × Addr)} {S : List (Addr × Obj) → Prop} {P : Nat → Value → Prop} {Fin : List Value → List (Addr × Obj) → Prop} {news : List (Addr × Obj)} {n : Nat}
/-- the same, where the turns only add to the ledger -/
theorem compT_grow (R : Nat → List Value → List (Addr × Obj) → Prop) (hj : R 0 [] [])
    (turn : ∀ i ys tl v I oI C oC D m₂ h tk (E' : Value → Shared → Prop), i < n → R i ys tl → P i v → NsObj oC m₂ → m₂ x = some v → Fr h₀ L h m → News h₀ L h ((I, oI) :: (C, oC) :: (D, lst ys) :: (news ++ tl)) → Off3 I C D (news ++ tl) → ((@Ne Nat I C) ∧ (@Ne Nat I D) ∧ (@Ne Nat C D)) →
      wpAny (model prog w) A (isTrue ct (compEnvC scope cl C env) (eval ct (compEnvC scope cl C env))) (fun ok s' => if ok = true then
        wpAny (model prog w) A (eval elt (compEnvC scope cl C env)) (CompEnd h₀ L m { s with heap := h, toks := tk } I oI C oC D (lst ys) S (fun y news' => ∃ tl', news' = news ++ tl' ∧ R (i + 1) (ys ++ [y]) tl')) E' s'
        else CompEnd h₀ L m { s with heap := h, toks := tk } I oI C oC D (lst ys) S (fun _ news' => ∃ tl', news' = news ++ tl' ∧ R (i + 1) ys tl') Value.none s') E' { s with heap := h, toks := tk })
    (fin : ∀ ys tl, R n ys tl → Fin ys (news ++ tl)) : CompRestT prog w A h₀ L m env ct elt x scope cl s S P Fin n 0 [] news := by
  refine compT_inv (fun i ys nw => ∃ tl, nw = news ++ tl ∧ R i ys tl) ⟨[], by simp, hj⟩ ?_ ?_
  · rintro i ys nw v I oI C oC D m₂ h tk E' hi ⟨tl, rfl, hR⟩ hv hC hx F N off ne
    exact turn i ys tl v I oI C oC D m₂ h tk E' hi hR hv hC hx F N off ne
  · rintro ys nw ⟨tl, rfl, hR⟩
    exact fin ys tl hR
theorem compU_grow (R : Nat → List Value → List (Addr × Obj) → Prop) (hj : R 0 [] [])
    (turn : ∀ i ys tl v I oI C oC D m₂ h tk (E' : Value → Shared → Prop), i < n → R i ys tl → P i v → NsObj oC m₂ → m₂ x = some v → Fr h₀ L h m → News h₀ L h ((I, oI) :: (C, oC) :: (D, lst ys) :: (news ++ tl)) → Off3 I C D (news ++ tl) → ((@Ne Nat I C) ∧ (@Ne Nat I D) ∧ (@Ne Nat C D)) →
      wpAny (model prog w) A (eval elt (compEnvC scope cl C env)) (CompEnd h₀ L m { s with heap := h, toks := tk } I oI C oC D (lst ys) S (fun y news' => ∃ tl', news' = news ++ tl' ∧ R (i + 1) (ys ++ [y]) tl')) E' { s with heap := h, toks := tk })
    (fin : ∀ ys tl, R n ys tl → Fin ys (news ++ tl)) : CompRest prog w A h₀ L m env elt x scope cl s S P Fin n 0 [] news := by
  refine compU_inv (fun i ys nw => ∃ tl, nw = news ++ tl ∧ R i ys tl) ⟨[], by simp, hj⟩ ?_ ?_
  · rintro i ys nw v I oI C oC D m₂ h tk E' hi ⟨tl, rfl, hR⟩ hv hC hx F N off ne
    exact turn i ys tl v I oI C oC D m₂ h tk E' hi hR hv hC hx F N off ne
  · rintro ys nw ⟨tl, rfl, hR⟩
    exact fin ys tl hR
end
end Mine
namespace Mine
open LCg LCt
section
variable {h₀ : Heap} {L : Addr} {m : Str → Option Value} {s₁ : Shared} {I C D : Addr} {oI oC oD : Obj} {S : List (Addr × Obj) → Prop} {news tl : List (Addr × Obj)} {h' : Heap} {tk : Nat}
theorem comp_same {R : Value → List (Addr × Obj) → Prop} {y : Value} (F : Fr h₀ L h' m) (N : News h₀ L h' ((I, oI) :: (C, oC) :: (D, oD) :: (news ++ tl))) (off : Off3 I C D (news ++ tl)) (hS : S (news ++ tl)) (hr : R y tl) :
    CompEnd h₀ L m s₁ I oI C oC D oD S (fun y news' => ∃ tl', news' = news ++ tl' ∧ R y tl') y { s₁ with heap := h', toks := tk } :=
  ⟨h', tk, news ++ tl, rfl, F, N, off, hS, tl, rfl, hr⟩
theorem comp_one {R : Value → List (Addr × Obj) → Prop} {y : Value} {q : Addr × Obj} (F : Fr h₀ L h' m) (N : News h₀ L h' (q :: (I, oI) :: (C, oC) :: (D, oD) :: (news ++ tl))) (off : Off3 I C D (news ++ tl)) (hq : @LT.lt Nat _ I q.1 ∧ @LT.lt Nat _ C q.1 ∧ @LT.lt Nat _ D q.1)
    (hS : S (news ++ (tl ++ [q]))) (hr : R y (tl ++ [q])) :
    CompEnd h₀ L m s₁ I oI C oC D oD S (fun y news' => ∃ tl', news' = news ++ tl' ∧ R y tl') y { s₁ with heap := h', toks := tk } := by
  refine ⟨h', tk, news ++ (tl ++ [q]), rfl, F, fun p hp => N p ?_, ?_, hS, _, rfl, hr⟩
  · simp only [List.mem_cons, List.mem_append, List.not_mem_nil, or_false] at hp ⊢
    rcases hp with h | h | h | h | h | h
    · exact .inr (.inl h)
    · exact .inr (.inr (.inl h))
    · exact .inr (.inr (.inr (.inl h)))
    · exact .inr (.inr (.inr (.inr (.inl h))))
    · exact .inr (.inr (.inr (.inr (.inr h))))
    · exact .inl h
  · refine Off3.of fun p hp => ?_
    simp only [List.mem_append, List.mem_cons, List.not_mem_nil, or_false] at hp
    rcases hp with h | h | h
    · exact off.mem p (List.mem_append_left _ h)
    · exact off.mem p (List.mem_append_right _ h)
    · rw [h]; exact ⟨Nat.ne_of_gt hq.1, Nat.ne_of_gt hq.2.1, Nat.ne_of_gt hq.2.2⟩
end
theorem datAll_add {tl tl' : List (Addr × Obj)} {vs : List Value} {ds : List Dat} {v : Value} {d : Dat} (h : DatAll tl vs ds) (hv : DatIn (tl ++ tl') v d) : DatAll (tl ++ tl') (vs ++ [v]) (ds ++ [d]) :=
  (h.mono fun _ hp => List.mem_append_left _ hp).append (.one hv)
theorem datPair {tl : List (Addr × Obj)} {a : Addr} {n : Nat} {k v : Int} {t u : Tok} : DatIn (tl ++ [(a, ({ cls := .type "tuple", data := .seq #[.int k t, .int v u] n } : Obj))]) (.ref a) (.tuple [.int k, .int v]) :=
  .tuple (vs := [.int k t, .int v u]) (n := n) (List.mem_append_right _ (.head _)) (.cons (.int k t) (.cons (.int v u) .nil))
end Mine

end
section
open PySem PySem.Calls PyProof.Rows PySem.W Builtin Builtin.ObjectAttr
set_option Elab.async false
set_option maxRecDepth 100000
namespace Mine

section
variable {prog : Program} {w : World} {A : Around} {E : Value → Shared → Prop} {s : Shared} {K : Frag} {x C : Addr} {ox : Obj} {od : Option Obj} {name : Str} {expr : Bool}

/-- the note that an AttributeError which bears name and object does not get -/
theorem note_attr {Q : Unit → Shared → Prop} {h : Heap} {e : Addr} {o : Value} (b : Bool) (v1 v2 : Value) (x1 : Heap.NewAttrErr h s.heap e o name) (hq : Q () s) : wpAny (model prog w) A (noteIf b v1 v2 (.ref e)) Q E s := by
  unfold noteIf
  cases b with
  | false => simp only [Bool.false_eq_true, if_false]; exact wpAny_pure hq
  | true =>
    simp only [if_true]
    obtain ⟨t, u, he⟩ := x1.there
    unfold noteAttr
    dsimp only
    refine wpAny_bind ?_
    unfold lacksNameAndObj
    dsimp only
    unfold isInstance typeOf
    dsimp only
    refine wpAny_bind (wpAny_bind (wpAny_bind (wpAny_load he (wpAny_pure ?_))))
    dsimp only
    rw [sub_AttributeError]
    refine wpAny_pure ?_
    simp only [Bool.not_true, Bool.false_eq_true, if_false]
    refine wpAny_bind (wpAny_load he ?_)
    dsimp only
    simp only [List.getElem?_toArray, List.getElem?_cons_succ, List.getElem?_cons_zero]
    exact wpAny_pure (wpAny_pure hq)

theorem no_such {α : Type} {Q : α → Shared → Prop} {cd : ClassData} (X : K.In s.heap) (I : InstAt s.heap x ox C od) (hc : clsIn K C = some cd) (hn : cd.name.cps.foldl (fun k c => k + (Str.utf8Of c).length) 0 ≤ 100) (hl : cd.name.toString.length ≤ 60) (hm : name.length ≤ 1000) (hh : A.handled = none)
    (h : ∀ h' tk e, Heap.NewAttrErr s.heap h' e (.ref x) name → E (.ref e) { s with heap := h', toks := tk }) : wpAny (model prog w) A (noSuchAttribute (.ref x) name : Sem α) Q E s := by
  unfold noSuchAttribute
  refine wpAny_bind ?_
  unfold typeNameOfCut shownTypeOf
  refine wpAny_bind (wpAny_bind ((InstAt.type (M := model prog w) I).here ?_))
  rw [if_neg (by simp)]
  refine wpAny_bind (wpAny_pure (wpAny_pure ?_))
  unfold typeNameCut
  refine wpAny_bind ((looks_clsIn (M := model prog w) X hc).here ?_)
  dsimp only
  rw [if_pos hn]
  refine wpAny_pure ?_
  refine wpAny_raiseAttrError hh h ?_
  refine attrMsg_fits ?_ (by rw [sizeLine_eq]; omega)
  simp only [toString, String.length_append]
  have e1 : ("'" : String).length = 1 := by decide
  have e2 : ("' object has no attribute '" : String).length = 27 := by decide
  rw [e1, e2]
  omega

/-- an attribute that an instance does not have -/
theorem get_miss {Q : Value → Shared → Prop} {cd : ClassData} (X : K.In s.heap) (I : InstAt s.heap x ox C od) (hga : findIn K (.ref C) "__getattribute__" = some (some (.builtin "object.__getattribute__"))) (hk : findIn K (.ref C) "__getattr__" = some none)
    (hf : findObj K C od name = some .missing) (hc : clsIn K C = some cd) (hn : cd.name.cps.foldl (fun k c => k + (Str.utf8Of c).length) 0 ≤ 100) (hl : cd.name.toString.length ≤ 60) (hm : name.length ≤ 1000) (hh : A.handled = none)
    (h : ∀ h' tk e, Heap.NewAttrErr s.heap h' e (.ref x) name → E (.ref e) { s with heap := h', toks := tk }) : wpAny (model prog w) A (getAttr (.ref x) name expr) Q E s := by
  refine get_open X I hga ?_
  obtain ⟨hh', g, d, t, os⟩ := s
  have L0 := I.type (M := model prog w)
  have L1 := looks_find (M := model prog w) X I hf
  have L2 := looks_findIn (M := model prog w) X hk
  refine wpAny_bind (wpAny_pure (wpAny_bind (L0.at (wpAny_bind (L1.at (wpAny_bind (L2.at ?_)))))))
  show wpAny _ _ (noSuchAttribute (.ref x) name) _ _ _
  refine no_such (s := ⟨hh', g, d, t + 1, os⟩) X I hc hn hl hm hh fun h' tk e ne => ?_
  exact note_attr (h := hh') true _ _ ne (h h' tk e ne)

theorem hasattr_miss {Q : Value → Shared → Prop} {cd : ClassData} {tn : Tok} (X : K.In s.heap) (I : InstAt s.heap x ox C od) (hga : findIn K (.ref C) "__getattribute__" = some (some (.builtin "object.__getattribute__"))) (hk : findIn K (.ref C) "__getattr__" = some none)
    (hf : findObj K C od name = some .missing) (hc : clsIn K C = some cd) (hmod : mroIn K C (.type "module") = some false) (hn : cd.name.cps.foldl (fun k c => k + (Str.utf8Of c).length) 0 ≤ 100) (hl : cd.name.toString.length ≤ 60) (hm : name.length ≤ 1000) (hh : A.handled = none)
    (h : ∀ h' tk, (∀ b o, s.heap.get? b = some o → h'.get? b = some o) → Q (.bool false) { s with heap := h', toks := tk }) : wpAny (model prog w) A (call (.builtin "hasattr") [.ref x, .str name tn]) Q E s := by
  refine Calls.call_function_entry (by decide +kernel) (by decide +kernel) (entryFor_of_fast (b := Builtin.«hasattr») (by kernel_rfl)) (by unfold argsOk; kernel_rfl) ?_
  have L0 := I.type (M := model prog w)
  unfold Builtin.«hasattr»
  refine wpAny_bind (wpAny_of_eq (a := [Value.ref x, .str name tn]) (by rfl) ?_)
  dsimp only
  refine wpAny_bind (wpAny_of_eq (a := ()) (by rfl) ?_)
  rw [if_neg (by simp)]
  refine wpAny_bind (L0.here ?_)
  dsimp only
  refine wpAny_bind ?_
  refine wpAny_bind (m := asStr? (.str name tn)) (wpAny_of_eq (a := some name) rfl ?_)
  dsimp only
  have Lm : Looks (model prog w) s.heap (isInstance (.ref x) (.type "module")) false := L0.andThen (looks_mroIn X hmod)
  refine wpAny_bind (m := isInstance (.ref x) (.type "module")) (Lm.here ?_)
  simp only [Bool.not_false, if_true]
  refine wpAny_pure ?_
  rw [if_neg (by decide)]
  refine wpAny_bind ?_
  unfold getAttrBy?
  refine wpAny_bind (wpAny_attempt ?_)
  unfold getAttrBy
  refine wpAny_holding (wpAny_bind (L0.here (wpAny_bind ((looks_findIn (M := model prog w) X hga).here ?_))))
  dsimp only
  show wpAny _ _ (getAttrEveryday _ _ _) _ _ _
  unfold getAttrEveryday
  refine wpAny_bind (wpAny_onRaise (wpAny_runValue (codeAny_builtin F.plainObj_entry_getattr_hooked ?_)))
  have L1 := looks_find (M := model prog w) X I hf
  have L2 := looks_findIn (M := model prog w) X hk
  refine wpAny_bind (wpAny_pure (wpAny_bind (L0.here (wpAny_bind (L1.here (wpAny_bind (L2.here ?_)))))))
  show wpAny _ _ (noSuchAttribute (.ref x) name) _ _ _
  refine no_such X I hc hn hl hm hh fun h' tk e ne => ?_
  refine note_attr false _ _ ne ?_
  obtain ⟨t, u, he⟩ := ne.there
  unfold isInstance typeOf
  dsimp only
  refine wpAny_bind (wpAny_bind (wpAny_bind (wpAny_load he (wpAny_pure ?_))))
  dsimp only
  rw [sub_AttributeError]
  refine wpAny_pure ?_
  simp only [if_true]
  refine wpAny_pure ?_
  rw [if_neg (by simp)]
  exact wpAny_pure ⟨_, rfl, h h' tk ne.keeps⟩
end
end Mine

end
section
open PySem PySem.Calls PyProof.Rows PySem.W
set_option Elab.async false
set_option maxRecDepth 100000
namespace Mine

theorem frames_mem {env : Env} {outer : List Env} {L b : Addr} (hf : env.frame = some L) (hm : b ∈ (env :: outer).filterMap (·.frame)) : b = L ∨ b ∈ outer.filterMap (·.frame) := by
  rw [List.filterMap_cons_some hf] at hm
  exact List.mem_cons.mp hm

section
variable {M : Model} {A : Around} {E : Value → Shared → Prop} {s' : Shared} {base g g₂ h : Heap} {outer : List Env} {L e : Addr} {m : Str → Option Value} {env : Env} {Q : Unit → Shared → Prop} {news : List (Addr × Obj)}

/-- a new exception leaves the frame in which it was raised -/
theorem leave_newX {cls : String} {ob : Obj} {vs : Array Value} {tp : Value} (hf : env.frame = some L) (hk : env.scope.kind = .function) (K : Below A base outer g) (F : Fr g L h m) (N : News g L h news)
    (hkp : ∀ b o, h.get? b = some o → s'.heap.get? b = some o) (hen : h.get? e = none) (he : s'.heap.get? e = some ob) (hcls : ob.cls = .type cls) (hd : ob.data = .fields vs) (h1 : vs[1]? = some .none) (h0 : vs[0]? = some tp)
    (hQ : ∀ h', RaisedSN base g outer e (.type cls) news h' → g.UpToSlots h' → Q () { s' with heap := h' }) :
    wpAny M (A.deeper env) (leaving env (.ref e)) Q E s' := by
  have K' := pushX K F hf hk
  generalize has : (env :: outer).filterMap (·.frame) = as
  have hin : ∀ en ∈ (env :: outer), ∀ b, en.frame = some b → b ∈ as := fun en hm b hb => has ▸ List.mem_filterMap.mpr ⟨en, hm, hb⟩
  have hsplit : ∀ b ∈ as, b = L ∨ b ∈ outer.filterMap (·.frame) := fun b hb => frames_mem hf (has ▸ hb)
  have hfr : ∀ b ∈ as, base.get? b = none := fun b hb => (K'.frames.mem (has ▸ hb)).1
  have gL : g.get? L = none := kts_self F
  have st : base.StaysIn (hideAll h as) := fun b o q => hideAll_get _ (K'.stays b o q) fun hm => by rw [hfr b hm] at q; cases q
  have sg : ∀ b o, g.get? b = some o → b ∉ outer.filterMap (·.frame) → (hideAll h as).get? b = some o := fun b o q nm => hideAll_get _ (F.keep b o q) fun hm => by
    rcases hsplit b hm with z | z
    · rw [z, gL] at q; cases q
    · exact nm z
  have hl : ∀ q ∈ news, (hideAll h as).get? q.1 = some q.2 ∧ g.get? q.1 = none ∧ base.get? q.1 = none := fun q hq => by
    refine ⟨hideAll_get _ (N q hq).1 fun hm => ?_, (N q hq).2.2, fresh_of_stays K.stays (N q hq).2.2⟩
    rcases hsplit _ hm with z | z
    · exact (N q hq).2.1 z
    · obtain ⟨o, ho, _⟩ := (K.frames.mem z).2
      rw [(N q hq).2.2] at ho; cases ho
  have hen' : (hideAll h as).get? e = none := by
    cases q : (hideAll h as).get? e with
    | none => rfl
    | some o => have := of_hideAll _ q; rw [hen] at this; cases this
  refine wpAny_leaving_firstW (base := hideAll h as) (a0 := tp) K'.stack ((funFrames_hide K'.frames hin).of_keeps fun b o hb _ => ⟨o, hkp b o hb, rfl⟩) hf he (fun b o hb => hkp b o (of_hideAll _ hb)) hen' hd h1 h0 fun h' hL => ?_
  obtain ⟨k1, ⟨_, _, k2⟩, k3, k4⟩ := hL
  refine hQ h' ⟨_, tp, st, sg, hl, k1, hen', k2, by rw [← hcls]; exact k3⟩ (((Heap.UpToSlots.of_keeps F.keep).trans (Heap.UpToSlots.of_keeps hkp)).trans k4)

/-- an exception that flies leaves a further frame -/
theorem leave_onX {cls : Value} (hf : env.frame = some L) (K : Below A base outer g) (F : Fr g L g₂ m) (R : RaisedSN base g₂ (env :: outer) e cls news s'.heap) (hsm : g₂.UpToSlots s'.heap)
    (hQ : ∀ h', RaisedSN base g outer e cls news h' → g.UpToSlots h' → Q () { s' with heap := h' }) :
    wpAny M (A.deeper env) (leaving env (.ref e)) Q E s' := by
  obtain ⟨B, a0, hB, hBG, hl, hfl⟩ := R
  have gL : g.get? L = none := kts_self F
  refine wpAny_leaves_onW (Around.frames_deeper K.stack) hf hfl fun h' x1 x2 => ?_
  refine hQ h' ⟨B, a0, hB, fun b o q nm => hBG b o (F.keep b o q) fun hm => ?_, fun q hq => ⟨(hl q hq).1, kts_none F.keep (hl q hq).2.1, (hl q hq).2.2⟩, x1⟩ ((Heap.UpToSlots.of_keeps F.keep).trans (hsm.trans x2))
  rcases frames_mem hf hm with z | z
  · rw [z, gL] at q; cases q
  · exact nm z
end

section
variable {prog : Program} {w : World} {A₀ : Around} {E : Value → Shared → Prop} {s' : Shared} {base g g₀ G : Heap} {outer : List Env} {L a e : Addr} {m : Str → Option Value} {name : Str} {scope : Scope} {cd : Value}
  {b₀ b₁ : Stmt} {suite suite₁ : List Stmt} {pos np pos₁ np₁ : Pos} {rest : List ExceptHandler} {Q : Flow → Shared → Prop} {news : List (Addr × Obj)} {KF : Frag}
  {p : Program} {loose : List Str} {mean : ExcName → Option Value} {mg mb : Str → Option Value} {x x₁ : Str} {X T' T₁ : String}

/-- an exception that the first clause does not match and the second does -/
theorem caught_next (R : RaisedSN base G (envOf name scope L a cd :: outer) e (.type X) news s'.heap) (F : Fr g L G m) (K : Below A₀ base outer g) (hsm : G.UpToSlots s'.heap) (XB : KF.In base) (TB : Top p loose mean mg mb base)
    (D : KtsDicts (outer.filterMap (·.frame)) g) (T0 : KtsTurn (outer.filterMap (·.frame)) g₀ g)
    (ex₁ : nsIn KF mainGlobals x₁ = some none) (hv₁ : bootBuiltins x₁ = some (.type T₁)) (hn₁ : x₁ ≠ "__name__")
    (hexc₁ : isSubtype (.type T₁) (.type "BaseException") = pure true) (hnt₁ : isSubtype (.type ((Manifest.find? T₁).elim "type" fun y => y.metatype)) (.type "tuple") = pure false) (hsub₁ : isSubtype (.type X) (.type T₁) = pure false)
    (ex : nsIn KF mainGlobals x = some none) (hv : bootBuiltins x = some (.type T')) (hn' : x ≠ "__name__")
    (hexc : isSubtype (.type T') (.type "BaseException") = pure true) (hnt : isSubtype (.type ((Manifest.find? T').elim "type" fun y => y.metatype)) (.type "tuple") = pure false) (hsub : isSubtype (.type X) (.type T') = pure true)
    (k : ∀ h' g', KtsTurn (outer.filterMap (·.frame)) g₀ g' → Fr g' L h' m → News g' L h' news → Below A₀ base outer g' → KF.In g' → Top p loose mean mg mb g' → KtsDicts (outer.filterMap (·.frame)) g' →
      wpAny (model prog w) ((A₀.deeper (envOf name scope L a cd)).mark (some (.ref e))) (execs (b₀ :: suite) (envOf name scope L a cd)) Q E { s' with heap := h' })
    (hk : scope.kind = .function) (hx₁ : (envOf name scope L a cd).kindOf x₁ = some .globalImplicit) (hx : (envOf name scope L a cd).kindOf x = some .globalImplicit) (hd₁ : (x₁ == ("__debug__" : Str)) = false) (hd : (x == ("__debug__" : Str)) = false)
    (hE : PassesOwnAt (model prog w) ((A₀.deeper (envOf name scope L a cd)).mark (some (.ref e))) (A₀.deeper (envOf name scope L a cd)) (envOf name scope L a cd) E) :
    wpAny (model prog w) (A₀.deeper (envOf name scope L a cd)) (noteFrame (.ref e) (envOf name scope L a cd))
      (fun _ s₂ => wpAny (model prog w) (A₀.deeper (envOf name scope L a cd)) (setFlight (.ref e) none) (fun _ s₃ =>
        wpAny (model prog w) (A₀.deeper (envOf name scope L a cd)) (handleBy (.ref e) (envOf name scope L a cd) (.ExceptHandler (some (.Name x₁ np₁)) none (b₁ :: suite₁) pos₁ :: .ExceptHandler (some (.Name x np)) none (b₀ :: suite) pos :: rest)) Q E s₃) E s₂) E s' := by
  obtain ⟨B, a0, hB, hBG, hl, hfl⟩ := R
  have hL : B.get? L = none := by
    obtain ⟨_, ⟨L', _, hf, hn', _⟩, _⟩ := hfl.2.2.1
    obtain rfl : L = L' := Option.some.inj hf
    exact hn'
  refine wpAny_looks_onW (Around.frames_deeper K.stack) rfl hfl fun h₄ hheld₄ hsm₄ => ?_
  refine wpAny_landsW hheld₄ fun h₅ hheld hsm₅' => ?_
  have hsm₅ := hsm₄.trans hsm₅'
  obtain ⟨g₅, T₅, F₅, K₅⟩ := kts_ground K F hBG hheld.1 (hsm.trans hsm₅)
  have X₅ : KF.In g₅ := XB.keeps K₅.stays
  have P₅ : TopRead p loose mg mb g₅ := topRead_of (TB.keeps K₅.stays)
  obtain ⟨ob, hob, hobc⟩ := hheld.there
  refine wpAny_handleBy_builtin (X := X) (T := T₁) (b := false) hexc₁ hnt₁ hsub₁ (name_B F₅ X₅ P₅ ex₁ hv₁ hn₁ ⟨rfl, ⟨ob, hob, hobc⟩, ?_⟩ hk hx₁ hd₁)
  simp only [Bool.false_eq_true, if_false]
  refine wpAny_handleBy_builtin (X := X) (T := T') (b := true) hexc hnt hsub (name_B F₅ X₅ P₅ ex hv hn' ⟨rfl, ⟨ob, hob, hobc⟩, ?_⟩ hk hx hd)
  refine lands_againW hheld fun h₆ hfl₆ hsm₆ => ?_
  obtain ⟨g₆, T₆, F₆, K₆⟩ := kts_ground K F hBG hfl₆.1 ((hsm.trans hsm₅).trans hsm₆)
  have Nl : News g₆ L h₆ news := fun q hq => ⟨hfl₆.1 _ _ (hl q hq).1, (fun z => by have := (hl q hq).1; rw [z, hL] at this; cases this), T₆.none_ _ (kts_none F.keep (hl q hq).2.1)⟩
  exact wpAny_passesOwnAt hE (k h₆ g₆ (T0.trans T₆) F₆ Nl K₆ (XB.keeps K₆.stays) (TB.keeps K₆.stays) (D.turn T₆))
end
end Mine

end
section
open PySem PySem.Calls PyProof.Rows PySem.W
set_option Elab.async false
set_option maxRecDepth 100000
namespace Mine

/-- the sort's questions answered by lt -/
def krun {α : Type} (lt : Nat → Nat → Bool) : KasT α → α
  | .ret a => a
  | .ask i j k => krun lt (k (lt i j))
/-- all the questions are about items of the list -/
def kok {α : Type} (n : Nat) : KasT α → Bool
  | .ret _ => true
  | .ask i j k => decide (i < n) && decide (j < n) && kok n (k true) && kok n (k false)

theorem kasWp_run {α : Type} {cmp : Nat → Nat → (Bool → Shared → Prop) → Shared → Prop} {lt : Nat → Nat → Bool} {n : Nat} {Q : α → Shared → Prop} {s : Shared}
    (hc : ∀ i j (C : Bool → Shared → Prop), i < n → j < n → C (lt i j) s → cmp i j C s) : ∀ t : KasT α, kok n t = true → Q (krun lt t) s → t.kasWp cmp Q s
  | .ret _, _, h => h
  | .ask i j k, hk, h => by
    simp only [kok, Bool.and_eq_true, decide_eq_true_eq] at hk
    obtain ⟨⟨⟨h1, h2⟩, h3⟩, h4⟩ := hk
    refine hc i j _ h1 h2 ?_
    cases hl : lt i j with
    | true => exact kasWp_run hc (k true) h3 (by rw [krun, hl] at h; exact h)
    | false => exact kasWp_run hc (k false) h4 (by rw [krun, hl] at h; exact h)

theorem kok_sort : ∀ n : Fin 5, 2 ≤ n.val → kok n.val (kas_sort n.val) = true := by decide +kernel

/-- what the sort makes of the keys -/
def kperm (ks : List Int) : List Nat := (krun (fun i j => decide (ks.getD i 0 < ks.getD j 0)) (kas_sort ks.length)).toList

def asc : List Int → Bool
  | [] => true
  | a :: r => r.all (fun b => decide (a < b)) && asc r
theorem asc_spec : ∀ {l : List Int}, asc l = true → l.Pairwise (· < ·)
  | [], _ => .nil
  | a :: r, h => by
    simp only [asc, Bool.and_eq_true, List.all_eq_true, decide_eq_true_eq] at h
    exact .cons h.1 (asc_spec h.2)
theorem asc_ext : ∀ {a b : List Int}, a.Pairwise (· < ·) → b.Pairwise (· < ·) → (∀ x, x ∈ a ↔ x ∈ b) → a = b
  | [], [], _, _, _ => rfl
  | [], y :: t, _, _, h => by have := (h y).mpr (by simp); simp at this
  | x :: r, [], _, _, h => by have := (h x).mp (by simp); simp at this
  | x :: r, y :: t, ha, hb, h => by
    have ha' := List.pairwise_cons.mp ha
    have hb' := List.pairwise_cons.mp hb
    have e : x = y := by
      rcases List.mem_cons.mp ((h x).mp (by simp)) with e | e
      · exact e
      · rcases List.mem_cons.mp ((h y).mpr (by simp)) with e' | e'
        · exact e'.symm
        · have := ha'.1 y e'; have := hb'.1 x e; omega
    subst e
    congr 1
    refine asc_ext ha'.2 hb'.2 fun z => ⟨fun hz => ?_, fun hz => ?_⟩
    · rcases List.mem_cons.mp ((h z).mp (List.mem_cons_of_mem _ hz)) with e | e
      · have := ha'.1 z hz; omega
      · exact e
    · rcases List.mem_cons.mp ((h z).mpr (List.mem_cons_of_mem _ hz)) with e | e
      · have := hb'.1 z hz; omega
      · exact e

def kgood (ks : List Int) : Bool := (kperm ks).isPerm (List.range ks.length) && asc ((kperm ks).map fun i => ks.getD i 0)

theorem kgood2 : ∀ a b : Fin 4, a ≠ b → kgood [(a.val : Int), (b.val : Int)] = true := by decide +kernel
theorem kgood3 : ∀ a b c : Fin 4, a ≠ b → a ≠ c → b ≠ c → kgood [(a.val : Int), (b.val : Int), (c.val : Int)] = true := by decide +kernel
theorem kgood4 : ∀ a b c d : Fin 4, [a, b, c, d].Nodup → kgood [(a.val : Int), (b.val : Int), (c.val : Int), (d.val : Int)] = true := by decide +kernel

theorem fin_of {k : Int} (h0 : 0 ≤ k) (h1 : k < 4) : ∃ a : Fin 4, k = (a.val : Int) := ⟨⟨k.toNat, by omega⟩, by simp; omega⟩
theorem kgood_of {ks : List Int} (hk : ∀ k ∈ ks, 0 ≤ k ∧ k < 4) (hn : ks.Nodup) (h2 : 2 ≤ ks.length) : kgood ks = true := by
  match ks, h2 with
  | [x, y], _ =>
    obtain ⟨a, rfl⟩ := fin_of (hk x (by simp)).1 (hk x (by simp)).2
    obtain ⟨b, rfl⟩ := fin_of (hk y (by simp)).1 (hk y (by simp)).2
    refine kgood2 a b ?_
    rintro rfl
    simp at hn
  | [x, y, z], _ =>
    obtain ⟨a, rfl⟩ := fin_of (hk x (by simp)).1 (hk x (by simp)).2
    obtain ⟨b, rfl⟩ := fin_of (hk y (by simp)).1 (hk y (by simp)).2
    obtain ⟨c, rfl⟩ := fin_of (hk z (by simp)).1 (hk z (by simp)).2
    refine kgood3 a b c ?_ ?_ ?_ <;> (rintro rfl; simp at hn)
  | [x, y, z, u], _ =>
    obtain ⟨a, rfl⟩ := fin_of (hk x (by simp)).1 (hk x (by simp)).2
    obtain ⟨b, rfl⟩ := fin_of (hk y (by simp)).1 (hk y (by simp)).2
    obtain ⟨c, rfl⟩ := fin_of (hk z (by simp)).1 (hk z (by simp)).2
    obtain ⟨d, rfl⟩ := fin_of (hk u (by simp)).1 (hk u (by simp)).2
    refine kgood4 a b c d ?_
    simp only [List.nodup_cons, List.mem_cons, List.not_mem_nil, or_false, not_or, not_false_eq_true, List.nodup_nil, and_true] at hn ⊢
    refine ⟨⟨?_, ?_, ?_⟩, ⟨?_, ?_⟩, ?_⟩ <;> (rintro rfl; simp at hn)
  | x :: y :: z :: u :: v :: r, _ =>
    exfalso
    have h1 := hk x (by simp)
    have h2 := hk y (by simp)
    have h3 := hk z (by simp)
    have h4 := hk u (by simp)
    have h5 := hk v (by simp)
    simp only [List.nodup_cons, List.mem_cons, not_or] at hn
    omega

/-- the pairs of a dict of the keys 0 to 3, in the order of the keys -/
def canon (c : List (Int × Int)) : List (Int × Int) := (List.range 4).filterMap fun (k : Nat) => if kdfHas c (k : Int) then some ((k : Int), kdfLook c (k : Int) 0) else none

theorem look_of : ∀ {c : List (Int × Int)} {k v : Int}, (c.map (·.1)).Nodup → (k, v) ∈ c → kdfLook c k 0 = v
  | [], _, _, _, h => by simp at h
  | (i, u) :: c, k, v, hn, h => by
    simp only [List.map_cons, List.nodup_cons] at hn
    unfold kdfLook
    rw [List.find?_cons]
    rcases List.mem_cons.mp h with e | e
    · have e1 : i = k := (Prod.mk.inj e).1.symm
      have e2 : u = v := (Prod.mk.inj e).2.symm
      simp [e1, e2]
    · have hne : i ≠ k := fun q => hn.1 (List.mem_map.mpr ⟨(k, v), e, q.symm⟩)
      simp only [hne, decide_false]
      exact look_of hn.2 e
theorem has_iff {c : List (Int × Int)} {k : Int} : kdfHas c k = true ↔ k ∈ c.map (·.1) := by
  unfold kdfHas
  simp only [List.any_eq_true, decide_eq_true_eq, List.mem_map]
theorem canon_pairs (c : List (Int × Int)) : canon c = ((canon c).map (·.1)).map fun k => (k, kdfLook c k 0) := by
  rw [List.map_map]
  refine (List.map_id _).symm.trans (List.map_congr_left fun p hp => ?_)
  simp only [canon, List.mem_filterMap] at hp
  obtain ⟨k, _, hk⟩ := hp
  split at hk
  · cases hk; rfl
  · cases hk
theorem canon_keys (c : List (Int × Int)) : (canon c).map (·.1) = ((List.range 4).filter fun (k : Nat) => kdfHas c (k : Int)).map fun (k : Nat) => (k : Int) := by
  unfold canon
  induction (List.range 4) with
  | nil => rfl
  | cons k r ih =>
    rw [List.filterMap_cons, List.filter_cons]
    cases h : kdfHas c (k : Int) with
    | true => simp [ih]
    | false => simp [ih]
theorem canon_asc (c : List (Int × Int)) : ((canon c).map (·.1)).Pairwise (· < ·) := by
  rw [canon_keys, List.pairwise_map]
  refine List.Pairwise.filter _ ?_
  decide
theorem canon_mem {c : List (Int × Int)} (hk : ∀ k ∈ c.map (·.1), 0 ≤ k ∧ k < 4) (x : Int) : x ∈ (canon c).map (·.1) ↔ x ∈ c.map (·.1) := by
  rw [canon_keys]
  simp only [List.mem_map, List.mem_filter, List.mem_range]
  constructor
  · rintro ⟨k, ⟨_, h⟩, rfl⟩
    have := has_iff.mp h
    simpa [List.mem_map] using this
  · intro h
    have hx : x ∈ c.map (·.1) := by simpa [List.mem_map] using h
    have hb := hk x hx
    refine ⟨x.toNat, ⟨by omega, ?_⟩, by omega⟩
    rw [show ((x.toNat : Nat) : Int) = x by omega]
    exact has_iff.mpr hx

theorem sorted_canon {c : List (Int × Int)} (hk : ∀ k ∈ c.map (·.1), 0 ≤ k ∧ k < 4) (hn : (c.map (·.1)).Nodup) (h2 : 2 ≤ c.length) :
    (kperm (c.map (·.1))).map (fun i => c.getD i (0, 0)) = canon c := by
  have hg := kgood_of hk hn (by simpa using h2)
  unfold kgood at hg
  simp only [Bool.and_eq_true] at hg
  obtain ⟨hp, ha⟩ := hg
  have hp := List.isPerm_iff.mp hp
  have ha := asc_spec ha
  have hin : ∀ i ∈ kperm (c.map (·.1)), i < c.length := fun i hi => by
    have := hp.mem_iff.mp hi
    simpa using this
  have hmem : ∀ i ∈ kperm (c.map (·.1)), c.getD i (0, 0) = ((c.map (·.1)).getD i 0, kdfLook c ((c.map (·.1)).getD i 0) 0) := fun i hi => by
    have hlt := hin i hi
    have e1 : c.getD i (0, 0) = c[i] := by simp [hlt]
    have e2 : (c.map (·.1)).getD i 0 = c[i].1 := by simp [hlt]
    rw [e1, e2, look_of (v := c[i].2) hn (by rw [Prod.eta]; exact List.getElem_mem hlt)]
  have hcomp : (kperm (c.map (·.1))).map (fun i => ((c.map (·.1)).getD i 0, kdfLook c ((c.map (·.1)).getD i 0) 0)) = ((kperm (c.map (·.1))).map fun i => (c.map (·.1)).getD i 0).map fun k => (k, kdfLook c k 0) := by
    rw [List.map_map]; rfl
  rw [List.map_congr_left hmem, canon_pairs c, hcomp]
  congr 1
  refine asc_ext ha (canon_asc c) fun x => ?_
  rw [canon_mem hk]
  constructor
  · intro h
    obtain ⟨i, hi, rfl⟩ := List.mem_map.mp h
    have hlt := hin i hi
    have e2 : (c.map (·.1)).getD i 0 = (c.map (·.1))[i]'(by simpa using hlt) := by simp [hlt]
    rw [e2]; exact List.getElem_mem _
  · intro h
    obtain ⟨i, hi, rfl⟩ := List.getElem_of_mem h
    refine List.mem_map.mpr ⟨i, hp.mem_iff.mpr (by simpa using hi), ?_⟩
    simp at hi
    simp [hi]
theorem short_canon {c : List (Int × Int)} (hk : ∀ k ∈ c.map (·.1), 0 ≤ k ∧ k < 4) (h2 : c.length < 2) : canon c = c := by
  match c, h2 with
  | [], _ => rfl
  | [(k, v)], _ =>
    obtain ⟨a, rfl⟩ := fin_of (hk k (by simp)).1 (hk k (by simp)).2
    have : a.val = 0 ∨ a.val = 1 ∨ a.val = 2 ∨ a.val = 3 := by have := a.isLt; omega
    rcases this with e | e | e | e <;> rw [e] <;> rfl

def pairD (p : Int × Int) : Dat := .tuple [.int p.1, .int p.2]
theorem datAll_at {tl : List (Addr × Obj)} : ∀ {vs : List Value} {c : List (Int × Int)}, DatAll tl vs (c.map pairD) → ∀ i, i < c.length →
    ∃ a n t u, vs.getD i .none = .ref a ∧ (a, ({ cls := .type "tuple", data := .seq #[.int (c.getD i (0, 0)).1 t, .int (c.getD i (0, 0)).2 u] n } : Obj)) ∈ tl
  | _, [], _, i, hi => by simp at hi
  | _, (k, v) :: c, .cons h r, i, hi => by
    cases i with
    | zero =>
      cases h with
      | tuple hm hr =>
        cases hr with
        | cons h1 hr =>
          cases hr with
          | cons h2 hr =>
            cases hr
            cases h1
            cases h2
            exact ⟨_, _, _, _, rfl, hm⟩
    | succ i =>
      obtain ⟨a, n, t, u, e, hm⟩ := datAll_at r i (by simpa using hi)
      exact ⟨a, n, t, u, by simpa using e, by simpa using hm⟩

section
variable {prog : Program} {w : World} {A : Around} {E : Value → Shared → Prop} {s : Shared} {h₀ : Heap} {L B : Addr} {m : Str → Option Value} {news tl : List (Addr × Obj)} {vs : List Value} {c : List (Int × Int)}

theorem zip_short : ∀ {vs : List Value}, vs.length < 2 → (vs.toArray.zip vs.toArray).map (·.2) = vs.toArray
  | [], _ => by simp
  | [a], _ => by simp
  | _ :: _ :: _, h => absurd h (by simp)

/-- list.sort of a list of no item or one -/
theorem sort_short {e : Nat} {Q : Value → Shared → Prop} (F : Fr h₀ L s.heap m) (N : News h₀ L s.heap ((B, listOf vs.toArray e) :: news)) (hB : ∀ q ∈ news, q.1 ≠ B) (h2 : vs.length < 2)
    (h : ∀ e' h', Fr h₀ L h' m → News h₀ L h' ((B, listOf vs.toArray e') :: news) → Q .none { s with heap := h' }) : wpAny (model prog w) A (call (.builtin "list.sort") [.ref B]) Q E s := by
  obtain ⟨ho, hBL, hB0⟩ := N _ (List.mem_cons_self ..)
  have ho : s.heap.get? B = some (seqObj "list" vs.toArray e) := ho
  have N0 : News h₀ L s.heap news := fun q hq => N q (List.mem_cons_of_mem _ hq)
  refine wpAny_call_entry slot_list_sort ⟨_, ho, rfl⟩ entry_list_sort ?_ (args_list_sort _)
  have s1 := Heap.SameBut.update s.heap B (Obj.mapSeq fun _ => (#[] : Array Value))
  obtain ⟨e1, ho1⟩ : ∃ e1, (s.heap.update B (Obj.mapSeq fun _ => (#[] : Array Value))).get? B = some (seqObj "list" #[] e1) := ⟨_, get?_update_seq ho fun _ => #[]⟩
  have F3 : Fr h₀ L (((s.heap.update B (Obj.mapSeq fun _ => (#[] : Array Value))).push (seqObj "tuple" vs.toArray 0)).push (seqObj "list" #[] 0)) m := ((kas_fr F s1 hBL hB0).push _).push _
  have N3 : News h₀ L (((s.heap.update B (Obj.mapSeq fun _ => (#[] : Array Value))).push (seqObj "tuple" vs.toArray 0)).push (seqObj "list" #[] 0)) news :=
    (kas_news N0 s1 hB).grown fun b x e => Heap.get?_push_of_some _ (Heap.get?_push_of_some _ e)
  have ho3 : (((s.heap.update B (Obj.mapSeq fun _ => (#[] : Array Value))).push (seqObj "tuple" vs.toArray 0)).push (seqObj "list" #[] 0)).get? B = some (seqObj "list" #[] e1) := Heap.get?_push_of_some _ (Heap.get?_push_of_some _ ho1)
  rw [list_sort_plain]
  refine wpAny_bind (listItems_at ho rfl ?_)
  refine wpAny_bind (listUpdate_at ho rfl ?_ (by rw [List.size_toArray, sizeLine_eq]; omega) (Nat.zero_le _))
  refine wpAny_bind (seqEpoch_at ho1 rfl ?_)
  refine wpAny_bind (wpAny_newTuple ?_ (by show vs.length ≤ _; rw [sizeLine_eq]; omega))
  refine wpAny_bind (wpAny_newList ?_ (Nat.zero_le _))
  refine wpAny_holding ?_
  show wpAny (model prog w) A.in1 _ _ E { s with heap := ((s.heap.update B (Obj.mapSeq fun _ => (#[] : Array Value))).push (seqObj "tuple" vs.toArray 0)).push (seqObj "list" #[] 0) }
  dsimp only
  have hn2 : vs.toArray.size < 2 := by rw [List.size_toArray]; exact h2
  rw [if_pos hn2, if_pos hn2]
  refine wpAny_bind (wpAny_pure ?_)
  refine wpAny_bind (wpAny_of_eq (a := ((), SortSt.mk' general' (vs.toArray.zip vs.toArray) #[] 7 none)) rfl ?_)
  dsimp only
  have hz : (arrOf (SortSt.mk' general' (vs.toArray.zip vs.toArray) #[] 7 none)).map (·.2) = vs.toArray := by
    exact zip_short h2
  rw [hz]
  refine wpAny_bind (seqEpoch_at ho3 rfl ?_)
  refine wpAny_bind (listUpdate_at ho3 rfl ?_ (Nat.zero_le _) (by rw [List.size_toArray, sizeLine_eq]; omega))
  simp only [bne_self_eq_false, Bool.false_eq_true, if_false]
  have s4 := Heap.SameBut.update (((s.heap.update B (Obj.mapSeq fun _ => (#[] : Array Value))).push (seqObj "tuple" vs.toArray 0)).push (seqObj "list" #[] 0)) B (Obj.mapSeq fun _ => vs.toArray)
  obtain ⟨e4, ho4⟩ : ∃ e4, ((((s.heap.update B (Obj.mapSeq fun _ => (#[] : Array Value))).push (seqObj "tuple" vs.toArray 0)).push (seqObj "list" #[] 0)).update B (Obj.mapSeq fun _ => vs.toArray)).get? B = some (seqObj "list" vs.toArray e4) := ⟨_, get?_update_seq ho3 fun _ => vs.toArray⟩
  refine wpAny_pure ⟨_, rfl, h e4 _ (kas_fr F3 s4 hBL hB0) fun q hq => ?_⟩
  rcases List.mem_cons.mp hq with rfl | hq
  · exact ⟨ho4, hBL, hB0⟩
  · exact kas_news N3 s4 hB q hq

/-- the order of two pairs of a dict -/
theorem ask_pairs (N : News h₀ L s.heap tl) (D : DatAll tl vs (c.map pairD)) (hn : (c.map (·.1)).Nodup) {i j : Nat} (hi : i < c.length) (hj : j < c.length) {C : Bool → Shared → Prop}
    (hC : C (decide ((c.map (·.1)).getD i 0 < (c.map (·.1)).getD j 0)) s) : kas_ask prog w A (tuples' true) vs i j C s := by
  obtain ⟨a, n, t, u, e, hm⟩ := datAll_at D i hi
  obtain ⟨a', n', t', u', e', hm'⟩ := datAll_at D j hj
  unfold kas_ask
  rw [e, e']
  refine kat_lt (N _ hm).1 rfl (N _ hm').1 rfl ?_
  have k1 : (c.map (·.1)).getD i 0 = (c.getD i (0, 0)).1 := by simp [hi]
  have k2 : (c.map (·.1)).getD j 0 = (c.getD j (0, 0)).1 := by simp [hj]
  rw [k1, k2] at hC
  refine kat_cons (wpAny_eqBool_int ?_)
  by_cases hk : (c.getD i (0, 0)).1 = (c.getD j (0, 0)).1
  · have hij : i = j := by
      have hi' : i < (c.map (·.1)).length := by simpa using hi
      have hj' : j < (c.map (·.1)).length := by simpa using hj
      exact (List.getElem_inj (h₀ := hi') (h₁ := hj') hn).mp (by simpa [hi, hj] using hk)
    subst hij
    rw [show ((c.getD i (0, 0)).1 == (c.getD i (0, 0)).1) = true from beq_self_eq_true _]
    refine kat_yes (kat_cons (wpAny_eqBool_int ?_))
    rw [show ((c.getD i (0, 0)).2 == (c.getD i (0, 0)).2) = true from beq_self_eq_true _]
    refine kat_yes (kat_nil ?_)
    simpa using hC
  · rw [show ((c.getD i (0, 0)).1 == (c.getD j (0, 0)).1) = false from beq_eq_false_iff_ne.mpr hk]
    exact kat_no (oneLt_int hC)

theorem firsts_of {h : Heap} (N : News h₀ L h tl) : ∀ {vs : List Value} {c : List (Int × Int)}, DatAll tl vs (c.map pairD) → ∃ fs, KatTups h vs fs ∧ fs.length = c.length ∧ ∀ v ∈ fs, ∃ k t, v = .int k t
  | _, [], .nil => ⟨[], .nil, rfl, fun _ h => nomatch h⟩
  | _, (k, v) :: c, .cons h1 r => by
    obtain ⟨fs, hf, hl, hi⟩ := firsts_of N r
    cases h1 with
    | tuple hm hr =>
      cases hr with
      | cons h2 hr =>
        cases h2
        rename_i tk
        refine ⟨.int k tk :: fs, .cons (N _ hm).1 rfl rfl (by simp) hf, by simp [hl], fun x hx => ?_⟩
        rcases List.mem_cons.mp hx with rfl | hx
        · exact ⟨k, tk, rfl⟩
        · exact hi x hx

theorem sort_pairs {e : Nat} {Q : Value → Shared → Prop} (F : Fr h₀ L s.heap m) (N : News h₀ L s.heap ((B, listOf vs.toArray e) :: (tl ++ news))) (hB : ∀ q ∈ tl ++ news, q.1 ≠ B) (D : DatAll tl vs (c.map pairD))
    (hk : ∀ k ∈ c.map (·.1), 0 ≤ k ∧ k < 4) (hn : (c.map (·.1)).Nodup)
    (h : ∀ vs' e' h', Fr h₀ L h' m → News h₀ L h' ((B, listOf vs'.toArray e') :: (tl ++ news)) → DatAll tl vs' ((canon c).map pairD) → Q .none { s with heap := h' }) :
    wpAny (model prog w) A (call (.builtin "list.sort") [.ref B]) Q E s := by
  have hlen : vs.length = c.length := by simpa using D.length
  by_cases h2 : c.length < 2
  · refine sort_short F N hB (by rw [hlen]; exact h2) fun e' h' F' N' => h vs e' h' F' N' ?_
    rw [short_canon hk h2]; exact D
  · have h2' : 2 ≤ c.length := by omega
    have h4 : c.length < 5 := by
      rcases Nat.lt_or_ge c.length 5 with h | h
      · exact h
      · exfalso
        match c, h with
        | x :: y :: z :: u :: v :: r, _ =>
          have h1 := hk x.1 (by simp)
          have h2 := hk y.1 (by simp)
          have h3 := hk z.1 (by simp)
          have h4 := hk u.1 (by simp)
          have h5 := hk v.1 (by simp)
          simp only [List.map_cons, List.nodup_cons, List.mem_cons, not_or] at hn
          omega
    refine kat_lsort (vs := vs) F N (.head fun q hq => hB q hq) (by simp) (by omega) (by omega) fun e1 h' F' N' => ?_
    have Nt : News h₀ L h' tl := fun q hq => N' q (List.mem_cons_of_mem _ (List.mem_append_left _ hq))
    obtain ⟨fs, hf, hfl, hfi⟩ := firsts_of Nt D
    refine kat_kind (T := .type "int") hf (by omega) (fun v hv => ?_) rfl ?_
    · obtain ⟨k, t, rfl⟩ := hfi v hv
      exact .now
    · have hlt : ∀ i j (C : Bool → Shared → Prop), i < c.length → j < c.length → C (decide ((c.map (·.1)).getD i 0 < (c.map (·.1)).getD j 0)) { s with heap := h' } →
          kas_ask prog w A.in1 (tuples' (Value.type "int" != Value.type "tuple")) vs i j C { s with heap := h' } := fun i j C hi hj hC => ask_pairs (s := { s with heap := h' }) Nt D hn hi hj hC
      refine kasWp_run (n := c.length) (lt := fun i j => decide ((c.map (·.1)).getD i 0 < (c.map (·.1)).getD j 0)) hlt _ (by rw [hlen]; exact kok_sort ⟨c.length, h4⟩ h2') ?_
      refine KasFin.intro F' N' (.head fun q hq => hB q hq) fun h'' e' F'' N'' => ?_
      refine h _ e' h'' F'' N'' ?_
      have hs := sorted_canon hk hn h2'
      have e1 : (krun (fun i j => decide ((c.map (·.1)).getD i 0 < (c.map (·.1)).getD j 0)) (kas_sort vs.length)).toList = kperm (c.map (·.1)) := by
        unfold kperm
        rw [hlen, List.length_map]
      rw [e1, ← hs, List.map_map]
      have hg := kgood_of hk hn (by simpa using h2')
      unfold kgood at hg
      simp only [Bool.and_eq_true] at hg
      have hp := List.isPerm_iff.mp hg.1
      have hin : ∀ i ∈ kperm (c.map (·.1)), i < c.length := fun i hi => by
        have := hp.mem_iff.mp hi
        simpa using this
      revert hin
      generalize kperm (c.map (·.1)) = p
      intro hin
      induction p with
      | nil => exact .nil
      | cons i p ih =>
        refine .cons ?_ (ih fun j hj => hin j (List.mem_cons_of_mem _ hj))
        obtain ⟨v, hv, hd⟩ := D.get (k := i) (by simpa using hin i (by simp))
        have hiv : vs.getD i .none = v := by simp [List.getD, hv]
        have hlt2 := hin i (by simp)
        show DatIn tl (vs.getD i .none) _
        rw [hiv]
        have : (c.map pairD)[i]'(by simpa using hlt2) = pairD (c.getD i (0, 0)) := by simp [hlt2]
        rw [← show (c.map pairD)[i]'(by simpa using hlt2) = (pairD ∘ fun i => c.getD i (0, 0)) i from this]
        exact hd

/-- the tuples that a dict's items are laid out as -/
theorem open_pairs {lo : Addr} {C : List Value → List (Addr × Obj) → Prop} : ∀ {kvs : List (Int × Value)} {c : List (Int × Int)} {vs : List Value} {tups : List (Addr × Obj)} {ds : List Dat},
    PyProof.V.FlatPairs PyData.int kvs (kdfD c) → DatAll tups vs ds → (∀ q ∈ tups, lo < q.1 ∧ ∀ p ∈ news, p.1 < q.1) →
    (∀ vs' tups', DatAll tups' vs' (ds ++ c.map pairD) → (∀ q ∈ tups', lo < q.1 ∧ ∀ p ∈ news, p.1 < q.1) → C vs' tups') →
    KdxOpen lo news (kvs.map fun p => (kyVal (PyData.int p.1), p.2)) vs tups C
  | [], [], vs, tups, ds, _, D, hb, h => h vs tups (by simpa using D) hb
  | [], (_, _) :: _, _, _, _, hf, _, _, _ => by cases hf
  | (k, x) :: kvs, [], _, _, _, hf, _, _, _ => by cases hf
  | (k, x) :: kvs, (k', v) :: c, vs, tups, ds, hf, D, hb, h => by
    cases hf with
    | cons hv hr =>
      obtain ⟨u, rfl⟩ := PyProof.V.Flat.int_inv hv
      refine KdxOpen.cons fun a t h1 h2 h3 => ?_
      refine open_pairs hr (ds := ds ++ [pairD (k', v)]) ((D.mono fun q hq => List.mem_cons_of_mem _ hq).append (.one (.tuple (vs := [.int k' t, .int v u]) (n := 0) (.head _) (.cons (.int k' t) (.cons (.int v u) .nil))))) (fun q hq => ?_) fun vs' tups' D' hb' => h vs' tups' (by simpa using D') hb'
      rcases List.mem_cons.mp hq with rfl | hq
      · exact ⟨h1, h2⟩
      · exact hb q hq

/-- sorted of the items of a dict with the keys 0 to 3 -/
theorem sorted_items {v d : Addr} {od : Obj} {kvs : List (Int × Value)} {Q : Value → Shared → Prop} (hh : A.handled = none) (F : Fr h₀ L s.heap m) (N : News h₀ L s.heap news)
    (hvw : (v, { cls := .type "dict_items", data := .fields #[.ref d] }) ∈ news) (hmd : (d, od) ∈ news) (hod : od.IsDictOf (intKind prog w) kvs) (hkv : PyProof.V.FlatPairs PyData.int kvs (kdfD c))
    (hk : ∀ k ∈ c.map (·.1), 0 ≤ k ∧ k < 4) (hn : (c.map (·.1)).Nodup) (hl : kvs.length ≤ 1000)
    (h : ∀ B vs' e tl h' tk, Fr h₀ L h' m → News h₀ L h' ((B, listOf vs'.toArray e) :: (tl ++ news)) → DatAll tl vs' ((canon c).map pairD) → (∀ q ∈ (B, listOf vs'.toArray e) :: tl, ∀ p ∈ news, p.1 < q.1) → Q (.ref B) { s with heap := h', toks := tk }) :
    wpAny (model prog w) A (call (.builtin "sorted") [.ref v]) Q E s := by
  refine kdx_sortedN (knd := intKind prog w) (enc := PyData.int) hh F N hvw hmd hod (by omega) (fun k v hkv' => ?_) rfl fun lo hlo => ?_
  · obtain ⟨t, rfl⟩ := Value.isInt_shape hkv'
    exact ⟨t, rfl⟩
  · refine open_pairs hkv .nil (fun _ h => nomatch h) fun vs' tups' D' hb' => ?_
    intro B h' tk hB F' N'
    refine sort_pairs (s := { s with heap := h', toks := tk }) F' N' (fun q hq => Nat.ne_of_lt (hB q hq)) (by simpa using D') hk hn fun vs'' e' h'' F'' N'' D'' => ?_
    refine h B vs'' e' tups' h'' tk F'' N'' D'' fun q hq p hp => ?_
    rcases List.mem_cons.mp hq with rfl | hq
    · exact hB p (List.mem_append_right _ hp)
    · exact (hb' q hq).2 p hp
end
end Mine

end
section
open PySem PySem.W PyProof.Rows PySem.Calls PyProof.V
set_option Elab.async false
set_option maxRecDepth 100000
set_option maxHeartbeats 8000000
set_option linter.unusedVariables false
namespace Mine

def defBody : Stmt → List Stmt
  | .FunctionDef _ _ b _ _ _ _ _ _ _ => b
  | _ => []
def defArgs : Stmt → Arguments
  | .FunctionDef _ a _ _ _ _ _ _ _ _ => a
  | _ => default
def defScope : Stmt → Scope
  | .FunctionDef _ _ _ _ _ _ s _ _ _ => s
  | _ => default
def jarDef : Stmt := (PySem.Challenge.pw_dn0255_02.main.body.getD 5 default)
def addDef : Stmt := ((defBody jarDef).getD 1 default)
def extDef : Stmt := ((defBody jarDef).getD 2 default)
def addFn (qual : Str) (c : Addr) (doc pm : Value) (c' : Addr) (ctv : Value) : Obj := fnMade (Str.ofString "_law_add") qual (defArgs addDef) (defBody addDef) (defScope addDef) [(Str.ofString "store", c)] doc pm c' ctv
def extFn (qual : Str) (c : Addr) (doc pm : Value) (c' : Addr) (ctv : Value) : Obj := fnMade (Str.ofString "_law_extract") qual (defArgs extDef) (defBody extDef) (defScope extDef) [(Str.ofString "store", c)] doc pm c' ctv

/-- no address of the list is a -/
def NewTo (old : List (Addr × Obj)) (a : Nat) : Prop := ∀ q ∈ old, @Ne Nat q.1 a
theorem newTo_nil {a : Nat} : NewTo [] a := fun _ h => nomatch h
theorem newTo_cons {p : Addr × Obj} {r : List (Addr × Obj)} {a : Nat} (h : @Ne Nat p.1 a) (t : NewTo r a) : NewTo (p :: r) a := List.forall_mem_cons.mpr ⟨h, t⟩
theorem newTo_lt {r : List (Addr × Obj)} {a : Nat} (h : AllLt a r) : NewTo r a := fun q hq => Nat.ne_of_lt (kst_ltOf h q hq)
theorem allLt_left {a : Nat} : ∀ {r t : List (Addr × Obj)}, AllLt a (r ++ t) → AllLt a r
  | [], _, _ => trivial
  | _ :: _, _, h => ⟨h.1, allLt_left h.2⟩
theorem allLt_right {a : Nat} : ∀ {r t : List (Addr × Obj)}, AllLt a (r ++ t) → AllLt a t
  | [], _, h => h
  | _ :: _, _, h => allLt_right h.2
theorem off1_newTo {D : Addr} : ∀ {r : List (Addr × Obj)}, LCg.Off1 D r → NewTo r D
  | [], _ => newTo_nil
  | _ :: _, h => newTo_cons h.1 (off1_newTo h.2)
theorem newTo_left {r t : List (Addr × Obj)} {a : Nat} (h : NewTo (r ++ t) a) : NewTo r a := fun q hq => h q (List.mem_append_left _ hq)

theorem news_drop2 {h₀ h : Heap} {L : Addr} {a b : Addr × Obj} {l : List (Addr × Obj)} (N : News h₀ L h (a :: b :: l)) : News h₀ L h (a :: l) := fun q hq => N q (by
  rcases List.mem_cons.mp hq with e | e
  · rw [e]; exact List.mem_cons_self ..
  · exact List.mem_cons_of_mem _ (List.mem_cons_of_mem _ e))

theorem news_swap {h₀ h : Heap} {L : Addr} (A B : List (Addr × Obj)) {C : List (Addr × Obj)} (N : News h₀ L h (A ++ (B ++ C))) : News h₀ L h (B ++ (A ++ C)) := fun q hq => N q (by
  rcases List.mem_append.mp hq with e | e
  · exact List.mem_append_right _ (List.mem_append_left _ e)
  · rcases List.mem_append.mp e with e | e
    · exact List.mem_append_left _ e
    · exact List.mem_append_right _ (List.mem_append_right _ e))

theorem newTo_swap (A B : List (Addr × Obj)) {C : List (Addr × Obj)} {a : Nat} (h : NewTo (A ++ (B ++ C)) a) : NewTo (B ++ (A ++ C)) a := fun q hq => h q (by
  simp only [List.mem_append] at hq ⊢
  rcases hq with e | e | e
  · exact .inr (.inl e)
  · exact .inl e
  · exact .inr (.inr e))
theorem news_mid {h₀ h : Heap} {L : Addr} (P A B : List (Addr × Obj)) {C : List (Addr × Obj)} (N : News h₀ L h (P ++ (A ++ (B ++ C)))) : News h₀ L h (P ++ (B ++ (A ++ C))) := fun q hq => N q (by
  simp only [List.mem_append] at hq ⊢
  rcases hq with e | e | e | e
  · exact .inl e
  · exact .inr (.inr (.inl e))
  · exact .inr (.inl e)
  · exact .inr (.inr (.inr e)))

/-- the cookies that the request shows: of the first i names -/
def ckP (c : List (Int × Int)) (site : Int) (i : Nat) : List (Int × Int) :=
  (List.range i).filterMap fun (k : Nat) => if kdfHas c (4 * site + (k : Int)) then some ((k : Int), kdfLook c (4 * site + (k : Int)) 0) else none

theorem ckP_succ_yes {c : List (Int × Int)} {site : Int} {i : Nat} (h : kdfHas c (4 * site + (i : Int)) = true) : ckP c site (i + 1) = ckP c site i ++ [((i : Int), kdfLook c (4 * site + (i : Int)) 0)] := by
  simp [ckP, List.range_succ, List.filterMap_append, h]
theorem ckP_succ_no {c : List (Int × Int)} {site : Int} {i : Nat} (h : kdfHas c (4 * site + (i : Int)) = false) : ckP c site (i + 1) = ckP c site i := by
  simp [ckP, List.range_succ, List.filterMap_append, h]
abbrev ent (w : World) (x : String) (t : Tok) (v : Value) : DictEntry := ⟨PyData.keyHash w.params (Str.ofString x), .str (Str.ofString x) t, v⟩

section
variable {w : World} {p : Program} {loose : List Str} {mean : ExcName → Option Value} {mg mb : Str → Option Value}
  {dp un : Nat} {gd : Option (List Code)} {cn : Str} {cs : Scope} {a : Addr} {ccd : Value} {cl : List (Str × Addr)} {outer : List Env} {A₀ : Around} {base h₀ : Heap} {L : Addr} {m : Str → Option Value} {s : Shared} {Q E : Value → Shared → Prop}

theorem add_ok {f c' c d x dx : Nat} {oc' oc od : Obj} {vs' : Array Value} {tq : Tok} {qual : Str} {doc pm ctv : Value} {site : Int} {ts tks : Tok} {cst : List (Int × Int)} {kvs : List (Int × Value)} {rest : List (Addr × Obj)}
    (B : Below A₀ base outer h₀) (F : Fr h₀ L s.heap m) (T : Top p loose mean mg mb h₀) (hk : cs.kind = .function) (hdp : dp + 1 < recursionLimit) (hun : un + 8 < cLine)
    (hoc' : oc'.data = .fields vs') (hq : vs'[1]? = some (.str qual tq)) (hoc : oc.data = .cell (some (.ref d)))
    (hod : od.IsDictOf (intKind (PySem.Challenge.rw_dn0255_02.row.prog) w) kvs) (hkv : FlatPairs PyData.int kvs (kdfD cst)) (hlo : (d == sysModules) = false)
    (hsite : 0 ≤ site ∧ site < 3) (hoff : NewTo rest dx) (hne : f ≠ dx ∧ c' ≠ dx ∧ c ≠ dx ∧ d ≠ dx ∧ x ≠ dx)
    (N : News h₀ L s.heap ((f, addFn qual c doc pm c' ctv) :: (c', oc') :: (c, oc) :: (d, od) :: (x, instObj 52 dx) :: (dx, dictOf [ent w "site" tks (.int site ts)] 1) :: rest))
    (hret : ∀ (D : Nat) (ys : List Value) (tl : List (Addr × Obj)) (tc : Tok) (h' : Heap) (tk' : Nat) (t : Tok), Fr h₀ L h' m →
      News h₀ L h' ((D, LCg.lst ys) :: (f, addFn qual c doc pm c' ctv) :: (c', oc') :: (c, oc) :: (d, od) :: (x, instObj 52 dx) :: (dx, dictOf [ent w "site" tks (.int site ts), ent w "cookies" tc (.ref D)] 2) :: (rest ++ tl)) →
      DatAll tl ys ((ckP cst site 4).map pairD) →
      (∀ q ∈ (D, LCg.lst ys) :: tl, NewTo ((f, addFn qual c doc pm c' ctv) :: (c', oc') :: (c, oc) :: (d, od) :: (x, instObj 52 dx) :: (dx, dictOf [ent w "site" tks (.int site ts)] 1) :: rest) q.1) →
      Q (.str (Str.ofString "added") t) { s with heap := h', toks := tk' }) (X : (hd.heap_39 w.params).In h₀) :
      wpAny (model PySem.Challenge.rw_dn0255_02.row.prog w) (ktrTop dp un gd cn cs L a ccd cl outer) (call (.ref f) [.ref x]) Q E s := by
  revert X; k_fill; intro X
  have hKst := kstMark

  obtain ⟨hs1, hs2⟩ := hsite
  obtain ⟨n1, n2, n3, n4, n5⟩ := hne
  simp only [addFn] at N hret
  have N0 := N
  simp only [defArgs, defBody, defScope, addDef, jarDef, PySem.Challenge.pw_dn0255_02, List.getD_cons_zero, List.getD_cons_succ] at N
  refine wpAny_call ?_
  k_dflt (refine' code_cc (cs := fun n => [(Str.ofString "first", n + 1), (Str.ofString "store", c)]) (cs0 := fun n => [(Str.ofString "first", n + 1)]) (hcs := fun _ => rfl) (hcs0 := fun _ => rfl) (binds := [(Str.ofString "request", .ref x)]) B F X N T rfl rfl hk (List.Mem.head _) (codeRec_news N (List.Mem.tail _ (List.Mem.head _)) hoc' hq) ?k8 ?k9 ?kB ?_ ?c2 ?c3 ?c4; (case k8 => ktr_room); (case k9 => exact BindsTo.of_eq rfl); (case kB => exact locs rfl); (case c2 => exact rfl); (case c3 => exact rfl); (case c4 => exact rfl); k_whole; intro g' L' h' cells' FG' F' N' Y' B' X' T' l')
  obtain ⟨o', rfl, d1'⟩ := CellsAre.one Y'
  clear Y'
  simp only [List.cons_append, List.nil_append] at N'
  have l' := allLt_of l'
  simp only [AllLt] at l'
  obtain ⟨l1, l2, l3, l4, l5, l6, l7⟩ := l'
  have hoc2 : OwnOff rest [L' + 1] := fun p hp b hb => by rw [List.mem_singleton.mp hb]; exact Nat.ne_of_lt (Nat.lt_succ_of_lt (kst_ltOf l7 p hp))
  (try dsimp only); (try k_lift B'); (try k_fold)
  repeat' ((fail_if_success (with_reducible show wpAny _ _ (exec (Stmt.Assign [Expr.Attribute _ _ _] (Expr.ListComp _ _ _ _) _) _) _ _ _)); (fail_if_success (with_reducible show wpAny _ _ (exec (Stmt.Raise _ _ _) _) _ _ _)); (first | (k_unfold; (try dsimp only)) | (k_end; wrow_close) | walk1 | (dsimp only; walk1) | (leave1; walk_say "STEP leave1"; try dsimp only) | fail "no step"))
  · omega
  iterate 1 (first | walk1 | (dsimp only; walk1))
  (k_dflt (refine LCt.ListComp_T (F₀ := by k_asm) (by with_unfolding_all rfl) (by decide) (by rfl) (by decide) (by rfl) ?_))
  repeat' ((fail_if_success (with_reducible show LCt.CompSrcT _ _ _ _ _ _ _ _ _ _ _ _ _ _ _));  (first | walk1 | (dsimp only; walk1)))
  (k_dflt (refine LCt.CompSrcT.range rfl (by k_asm) (by k_asm) (by assumption) (by decide) (n := 4) (by rfl) (by decide) ?_))
  intro g9
  refine compT_grow (fun i ys tl => DatAll tl ys ((ckP cst site i).map pairD) ∧ ∀ q ∈ tl, @Ne Nat f q.1 ∧ @Ne Nat c' q.1 ∧ @Ne Nat c q.1 ∧ @Ne Nat d q.1 ∧ @Ne Nat x q.1 ∧ @Ne Nat dx q.1 ∧ NewTo rest q.1) (by exact ⟨DatAll.nil, fun _ h => nomatch h⟩) ?_ ?_
  · intro i ys tl v I oI C oC D m₂ h9 tk9 E9 hi hR hv hC hx F9 N9 off ne9
    obtain ⟨tv, rfl⟩ := hv
    obtain ⟨hR, hR2⟩ := hR
    simp only [List.cons_append] at N9 off
    simp only [LCg.Off3] at off
    repeat' (first | walk1 | (dsimp only; walk1))
    · rename_i hhas t9 D8 h8 F8 N8 l8
      dsimp only
      refine comp_one (news := _ :: _ :: _ :: _ :: _ :: _ :: _ :: rest) F8 N8 (by simpa only [List.cons_append, LCg.Off3] using off) ⟨l8.1, l8.2.1, l8.2.2.1⟩ trivial ?_
      simp only [Int.zero_add] at hhas ⊢
      rw [ckP_succ_yes hhas, List.map_append]
      refine ⟨datAll_add hR datPair, fun q hq => ?_⟩
      rcases List.mem_append.mp hq with hq | hq
      · exact hR2 q hq
      · rw [List.mem_singleton.mp hq]
        obtain ⟨_, _, _, _, a1, a2, a3, a4, a5, a6, a7⟩ := l8
        exact ⟨Nat.ne_of_lt a1, Nat.ne_of_lt a2, Nat.ne_of_lt a3, Nat.ne_of_lt a4, Nat.ne_of_lt a5, Nat.ne_of_lt a6, newTo_lt (allLt_left a7)⟩
    · rename_i hhas
      dsimp only
      refine comp_same (news := _ :: _ :: _ :: _ :: _ :: _ :: _ :: rest) F9 N9 (by simpa only [List.cons_append, LCg.Off3] using off) trivial ?_
      rw [Int.zero_add] at hhas
      rw [ckP_succ_no hhas]
      exact ⟨hR, hR2⟩
  · intro ys tl hR
    intro D8 h8 tk8 F8 N8 off8
    obtain ⟨hR, hR2⟩ := hR
    simp only [List.cons_append] at N8 off8
    simp only [LCg.Off1] at off8
    obtain ⟨_, b1, b2, b3, b4, b5, b6, b7⟩ := off8
    have hoD : OwnOff (rest ++ tl) [dx] := fun p hp b hb => by
      rw [List.mem_singleton.mp hb]
      rcases List.mem_append.mp hp with hp | hp
      · exact hoff p hp
      · exact Ne.symm (hR2 p hp).2.2.2.2.2.1
    k_steps
    rename News _ _ _ _ => N7
    rename Fr _ _ _ _ => F7
    refine hret D8 ys tl _ _ _ _ F7 (news_drop2 N7) hR ?_
    intro q hq
    rcases List.mem_cons.mp hq with e | hq
    · rw [e]
      exact newTo_cons b1 (newTo_cons b2 (newTo_cons b3 (newTo_cons b4 (newTo_cons b5 (newTo_cons b6 (newTo_left (off1_newTo b7)))))))
    · obtain ⟨a1, a2, a3, a4, a5, a6, a7⟩ := hR2 q hq
      exact newTo_cons a1 (newTo_cons a2 (newTo_cons a3 (newTo_cons a4 (newTo_cons a5 (newTo_cons a6 a7)))))

end
end Mine

end
section
open PySem PySem.W PyProof.Rows PySem.Calls PyProof.V
set_option Elab.async false
set_option maxRecDepth 100000
set_option maxHeartbeats 8000000
set_option linter.unusedVariables false
namespace Mine

section
variable {w : World} {p : Program} {loose : List Str} {mean : ExcName → Option Value} {mg mb : Str → Option Value}
  {dp un : Nat} {gd : Option (List Code)} {cn : Str} {cs : Scope} {a : Addr} {ccd : Value} {cl : List (Str × Addr)} {outer : List Env} {A₀ : Around} {base h₀ : Heap} {L : Addr} {m : Str → Option Value} {s : Shared} {Q E : Value → Shared → Prop}

local macro_rules | `(tactic| walk_at "eval Name") => `(tactic| ((with_reducible show wpAny _ _ (eval (Expr.Name (Str.ofString "store") _) _) _ _ _); k_dflt (refine' nameX_F ?N ?c ?m ?d ?_ ?a ?b; (case a => rfl); (case b => rfl); (case N => k_asm); (case c => rfl); (case m => k_mem); (case d => assumption))))
theorem ext_ok {f c' c d x dx y dy : Nat} {oc' oc od : Obj} {vs' : Array Value} {tq : Tok} {qual : Str} {doc pm ctv : Value} {site nm vl : Int} {ts tks t1 t2 t3 t4 : Tok} {esr : List DictEntry} {nr : Nat} {cst : List (Int × Int)} {kvs : List (Int × Value)} {rest : List (Addr × Obj)}
    (B : Below A₀ base outer h₀) (F : Fr h₀ L s.heap m) (T : Top p loose mean mg mb h₀) (hk : cs.kind = .function) (hdp : dp + 1 < recursionLimit) (hun : un + 8 < cLine)
    (hoc' : oc'.data = .fields vs') (hq : vs'[1]? = some (.str qual tq)) (hoc : oc.data = .cell (some (.ref d)))
    (hod : od.IsDictOf (intKind (PySem.Challenge.rw_dn0255_02.row.prog) w) kvs) (hkv : FlatPairs PyData.int kvs (kdfD cst)) (hlo : (d == sysModules) = false) (hlen : cst.length ≤ 1000)
    (hr : esr = [] ∨ ∃ tc v, esr = [ent w "cookies" tc v])
    (hoff : NewTo rest d) (hne : f ≠ d ∧ c' ≠ d ∧ c ≠ d ∧ x ≠ d ∧ dx ≠ d ∧ y ≠ d ∧ dy ≠ d)
    (N : News h₀ L s.heap ((f, extFn qual c doc pm c' ctv) :: (c', oc') :: (c, oc) :: (d, od) :: (x, instObj 52 dx) :: (dx, dictOf (ent w "site" tks (.int site ts) :: esr) nr) :: (y, instObj 52 dy) :: (dy, dictOf [ent w "name" t1 (.int nm t2), ent w "value" t3 (.int vl t4)] 2) :: rest))
    (hret : ∀ (od' : Obj) (kvs' : List (Int × Value)) (h' : Heap) (tk' : Nat) (t : Tok), Fr h₀ L h' m →
      News h₀ L h' ((f, extFn qual c doc pm c' ctv) :: (c', oc') :: (c, oc) :: (d, od') :: (x, instObj 52 dx) :: (dx, dictOf (ent w "site" tks (.int site ts) :: esr) nr) :: (y, instObj 52 dy) :: (dy, dictOf [ent w "name" t1 (.int nm t2), ent w "value" t3 (.int vl t4)] 2) :: rest) →
      od'.IsDictOf (intKind (PySem.Challenge.rw_dn0255_02.row.prog) w) kvs' → FlatPairs PyData.int kvs' (kdfD (kdfPut cst (4 * site + nm) vl)) →
      Q (.str (Str.ofString "kept") t) { s with heap := h', toks := tk' }) (X : (hd.heap_39 w.params).In h₀) :
      wpAny (model PySem.Challenge.rw_dn0255_02.row.prog w) (ktrTop dp un gd cn cs L a ccd cl outer) (call (.ref f) [.ref y, .ref x]) Q E s := by
  revert X; k_fill; intro X
  have hKst := kstMark

  obtain ⟨n1, n2, n3, n4, n5, n6, n7⟩ := hne
  have hoD : OwnOff rest [d] := fun p hp b hb => by rw [List.mem_singleton.mp hb]; exact hoff p hp
  simp only [extFn] at N hret
  simp only [defArgs, defBody, defScope, extDef, jarDef, PySem.Challenge.pw_dn0255_02, List.getD_cons_zero, List.getD_cons_succ] at N
  rcases hr with rfl | ⟨tc, vc, rfl⟩
  all_goals (
    refine wpAny_call ?_
    k_dflt (refine' code_nest (binds := [(Str.ofString "answer", .ref y), (Str.ofString "request", .ref x)]) B F X N T rfl rfl hk (List.Mem.head _) (codeRec_news N (List.Mem.tail _ (List.Mem.head _)) hoc' hq) ?k8 ?k9 ?kB ?_ ?c2 ?c3 ?c4 ?c5; (case k8 => ktr_room); (case k9 => exact BindsTo.of_eq rfl); (case kB => exact locs rfl); (case c2 => exact rfl); (case c3 => exact rfl); (case c4 => exact rfl); (case c5 => decide); k_whole; intro g' L' h' FG' F' N' B' X' T')
    (try dsimp only); (try k_lift B'); (try k_fold)
    k_steps
    rename News _ _ _ _ => N7
    rename Fr _ _ _ _ => F7
    rename FlatPairs _ _ (kdfD (kdfPut _ _ _)) => hf7
    exact hret _ _ _ _ _ F7 N7 (by assumption) hf7)

end
end Mine

end
section
open PySem PySem.W PyProof.Rows PySem.Calls PyProof.V
set_option Elab.async false
set_option maxRecDepth 100000
set_option maxHeartbeats 8000000
set_option linter.unusedVariables false
namespace Mine

section
variable {w : World} {p : Program} {loose : List Str} {mean : ExcName → Option Value} {mg mb : Str → Option Value}
  {dp un : Nat} {gd : Option (List Code)} {cn : Str} {cs : Scope} {a : Addr} {ccd : Value} {cl : List (Str × Addr)} {outer : List Env} {A₀ : Around} {base h₀ : Heap} {L : Addr} {m : Str → Option Value} {s : Shared} {Q E : Value → Shared → Prop}

local macro_rules | `(tactic| walk_at "getMethod ref") => `(tactic| ((first
  | (with_reducible show wpAny _ _ (getMethod _ (Str.ofString "add_cookie_header") _) _ _ _)
  | (with_reducible show wpAny _ _ (getMethod _ (Str.ofString "extract_cookies") _) _ _ _)); (k_dflt (refine' kmu_own ?k1 ?k2 ?k3 ?k4 ?k5 ?_; (case k1 => k_asm); (case k2 => k_asm); (case k3 => k_inst); (case k4 => k_is); (case k5 => k_is); k_whole))))
local macro_rules | `(tactic| walk_at "callWith ref") => `(tactic| (k_dflt (refine' callWith_F ?k1 ?_; (case k1 => exact FnAt.of (by k_asm) (by k_mem)); k_whole)))

theorem send_ok {pr dpr j dj f fe c' c d x dx : Nat} {oc' oc od : Obj} {vs' : Array Value} {tq tj ta te : Tok} {qual : Str} {doc pm ctv : Value} {site : Int} {ts tks : Tok} {cst : List (Int × Int)} {kvs : List (Int × Value)} {rest : List (Addr × Obj)} {safe : Bool}
    (B : Below A₀ base outer h₀) (F : Fr h₀ L s.heap m) (T : Top p loose mean mg mb h₀) (hk : cs.kind = .function) (hdp : dp + 4 < recursionLimit) (hun : un + 40 < cLine)
    (hoc' : oc'.data = .fields vs') (hq : vs'[1]? = some (.str qual tq)) (hoc : oc.data = .cell (some (.ref d)))
    (hod : od.IsDictOf (intKind (PySem.Challenge.rw_dn0255_02.row.prog) w) kvs) (hkv : FlatPairs PyData.int kvs (kdfD cst)) (hlo : (d == sysModules) = false)
    (hsite : 0 ≤ site ∧ site < 3) (hoff : NewTo rest dx) (hne : f ≠ dx ∧ c' ≠ dx ∧ c ≠ dx ∧ d ≠ dx ∧ x ≠ dx ∧ pr ≠ dx ∧ dpr ≠ dx ∧ j ≠ dx ∧ dj ≠ dx)
    (N : News h₀ L s.heap ((pr, instObj 52 dpr) :: (dpr, dictOf [ent w "cookiejar" tj (.ref j)] 1) :: (j, instObj 52 dj) :: (dj, dictOf [ent w "add_cookie_header" ta (.ref f), ent w "extract_cookies" te (.ref fe)] 2) :: (f, addFn qual c doc pm c' ctv) :: (c', oc') :: (c, oc) :: (d, od) :: (x, instObj 52 dx) :: (dx, dictOf [ent w "site" tks (.int site ts)] 1) :: rest))
    (hret : ∀ (D R : Nat) (ys : List Value) (tl : List (Addr × Obj)) (tc tg : Tok) (h' : Heap) (tk' : Nat), Fr h₀ L h' m →
      News h₀ L h' ((R, { cls := .type "tuple", data := .seq #[.str (Str.ofString "gave") tg, .ref x] }) :: (D, LCg.lst ys) :: (pr, instObj 52 dpr) :: (dpr, dictOf [ent w "cookiejar" tj (.ref j)] 1) :: (j, instObj 52 dj) :: (dj, dictOf [ent w "add_cookie_header" ta (.ref f), ent w "extract_cookies" te (.ref fe)] 2) :: (f, addFn qual c doc pm c' ctv) :: (c', oc') :: (c, oc) :: (d, od) :: (x, instObj 52 dx) :: (dx, dictOf [ent w "site" tks (.int site ts), ent w "cookies" tc (.ref D)] 2) :: (rest ++ tl)) →
      DatAll tl ys ((ckP cst site 4).map pairD) →
      (∀ q ∈ (R, { cls := .type "tuple", data := .seq #[.str (Str.ofString "gave") tg, .ref x] }) :: (D, LCg.lst ys) :: tl, NewTo ((pr, instObj 52 dpr) :: (dpr, dictOf [ent w "cookiejar" tj (.ref j)] 1) :: (j, instObj 52 dj) :: (dj, dictOf [ent w "add_cookie_header" ta (.ref f), ent w "extract_cookies" te (.ref fe)] 2) :: (f, addFn qual c doc pm c' ctv) :: (c', oc') :: (c, oc) :: (d, od) :: (x, instObj 52 dx) :: (dx, dictOf [ent w "site" tks (.int site ts)] 1) :: rest) q.1) →
      Q (.ref R) { s with heap := h', toks := tk' }) (X : (hd.heap_39 w.params).In h₀) :
      wpAny (model PySem.Challenge.rw_dn0255_02.row.prog w) (ktrTop dp un gd cn cs L a ccd cl outer) (call (.ref 111) [.ref pr, .ref x, .bool safe]) Q E s := by
  revert X; k_fill; intro X
  have hKst := kstMark

  obtain ⟨hs1, hs2⟩ := hsite
  obtain ⟨n1, n2, n3, n4, n5, n6, n7, n8, n9⟩ := hne
  (refine wpAny_call ?_; k_dflt (refine' code_def (binds := [(Str.ofString "processor", .ref pr), (Str.ofString "request", .ref x), (Str.ofString "safe", .bool safe)]) B F X N T rfl rfl hk ?k6 ?k7 ?k8 ?k9 ?kB ?_ ?c2 ?c3 ?c4 ?c5; (case k6 => k_is); (case k7 => k_is); (case k8 => ktr_room); (case k9 => exact BindsTo.of_eq rfl); (case c5 => decide); (case kB => exact locs rfl); (case c2 => exact rfl); (case c3 => exact rfl); (case c4 => exact rfl); k_whole; intro g' L' h' FG' F' N' B' X' T'; (try dsimp only); (try k_lift B'); (try k_fold)))
  cases safe
  · repeat' ((fail_if_success (with_reducible show wpAny _ _ (call (Value.ref 78) _ _) _ _ _)); (first | (k_unfold; (try dsimp only)) | (k_end; wrow_close) | walk1 | (dsimp only; walk1) | (leave1; walk_say "STEP leave1"; try dsimp only) | fail "no step"))
    (refine wpAny_call ?_; k_dflt (refine' code_def (binds := [(Str.ofString "self", .ref pr), (Str.ofString "request", .ref x)]) (by k_asm) (by k_asm) (by k_asm) (by k_asm) (by k_asm) rfl rfl rfl ?k6 ?k7 ?k8 ?k9 ?kB1 ?_ ?c2 ?c3 ?c4 ?c5; (case k6 => k_is); (case k7 => k_is); (case k8 => ktr_room); (case k9 => exact BindsTo.of_eq rfl); (case c5 => decide); (case kB1 => exact locs rfl); (case c2 => exact rfl); (case c3 => exact rfl); (case c4 => exact rfl); k_whole; intro g1 L1 h1 FG1 F1 N1 B1 X1 T1; (try dsimp only); (try k_lift B1); (try k_fold)))
    repeat' ((fail_if_success (with_reducible show wpAny _ _ (call (Value.ref f) _ _) _ _ _)); (first | (k_unfold; (try dsimp only)) | (k_end; wrow_close) | walk1 | (dsimp only; walk1) | (leave1; walk_say "STEP leave1"; try dsimp only) | fail "no step"))
    (k_dflt (refine' add_ok (rest := (pr, instObj 52 dpr) :: (dpr, dictOf [ent w "cookiejar" tj (.ref j)] 1) :: (j, instObj 52 dj) :: (dj, dictOf [ent w "add_cookie_header" ta (.ref f), ent w "extract_cookies" te (.ref fe)] 2) :: rest) ?kB1 ?kF1 ?kT1 ?kh1 ?rd1 ?ru1 hoc' hq hoc hod hkv hlo ⟨hs1, hs2⟩ (newTo_cons n6 (newTo_cons n7 (newTo_cons n8 (newTo_cons n9 hoff)))) ⟨n1, n2, n3, n4, n5⟩ ?kN1 ?rr1 ?kX1; (case kh1 => rfl); (case kF1 => k_asm); (case kB1 => k_asm); (case kT1 => k_asm); (case kX1 => k_asm); (case kN1 => exact news_swap [_, _, _, _] [_, _, _, _, _, _] (by k_asm))))
    (case rd1 => ktr_room)
    (case ru1 => ktr_units)
    intro D ys tl tc h2 tk2 t F2 N2 hR hn1
    k_steps
    rename News _ _ _ _ => N7
    rename Fr _ _ _ _ => F7
    refine hret _ _ _ _ _ _ _ _ F7 (news_mid [_, _] [_, _, _, _, _, _] [_, _, _, _] N7) hR ?_
    intro q hq
    rcases List.mem_cons.mp hq with e | hq
    · rw [e]
      rename (@LT.lt Nat _ D _) ∧ _ => hal
      obtain ⟨_, a1, a2, a3, a4, a5, a6, a7, a8, a9, a10, a11⟩ := hal
      exact newTo_lt ⟨a7, a8, a9, a10, a1, a2, a3, a4, a5, a6, allLt_left a11⟩
    · exact newTo_swap [_, _, _, _, _, _] [_, _, _, _] (hn1 q hq)
  · repeat' ((fail_if_success (with_reducible show wpAny _ _ (call (Value.ref 78) _ _) _ _ _)); (first | (k_unfold; (try dsimp only)) | (k_end; wrow_close) | walk1 | (dsimp only; walk1) | (leave1; walk_say "STEP leave1"; try dsimp only) | fail "no step"))
    (refine wpAny_call ?_; k_dflt (refine' code_def (binds := [(Str.ofString "self", .ref pr), (Str.ofString "request", .ref x)]) (by k_asm) (by k_asm) (by k_asm) (by k_asm) (by k_asm) rfl rfl rfl ?k6 ?k7 ?k8 ?k9 ?kB2 ?_ ?c2 ?c3 ?c4 ?c5; (case k6 => k_is); (case k7 => k_is); (case k8 => ktr_room); (case k9 => exact BindsTo.of_eq rfl); (case c5 => decide); (case kB2 => exact locs rfl); (case c2 => exact rfl); (case c3 => exact rfl); (case c4 => exact rfl); k_whole; intro g1 L1 h1 FG1 F1 N1 B1 X1 T1; (try dsimp only); (try k_lift B1); (try k_fold)))
    repeat' ((fail_if_success (with_reducible show wpAny _ _ (call (Value.ref f) _ _) _ _ _)); (first | (k_unfold; (try dsimp only)) | (k_end; wrow_close) | walk1 | (dsimp only; walk1) | (leave1; walk_say "STEP leave1"; try dsimp only) | fail "no step"))
    (k_dflt (refine' add_ok (rest := (pr, instObj 52 dpr) :: (dpr, dictOf [ent w "cookiejar" tj (.ref j)] 1) :: (j, instObj 52 dj) :: (dj, dictOf [ent w "add_cookie_header" ta (.ref f), ent w "extract_cookies" te (.ref fe)] 2) :: rest) ?kB2 ?kF2 ?kT2 ?kh2 ?rd2 ?ru2 hoc' hq hoc hod hkv hlo ⟨hs1, hs2⟩ (newTo_cons n6 (newTo_cons n7 (newTo_cons n8 (newTo_cons n9 hoff)))) ⟨n1, n2, n3, n4, n5⟩ ?kN2 ?rr2 ?kX2; (case kh2 => rfl); (case kF2 => k_asm); (case kB2 => k_asm); (case kT2 => k_asm); (case kX2 => k_asm); (case kN2 => exact news_swap [_, _, _, _] [_, _, _, _, _, _] (by k_asm))))
    (case rd2 => ktr_room)
    (case ru2 => ktr_units)
    intro D ys tl tc h2 tk2 t F2 N2 hR hn1
    k_steps
    rename News _ _ _ _ => N7
    rename Fr _ _ _ _ => F7
    refine hret _ _ _ _ _ _ _ _ F7 (news_mid [_, _] [_, _, _, _, _, _] [_, _, _, _] N7) hR ?_
    intro q hq
    rcases List.mem_cons.mp hq with e | hq
    · rw [e]
      rename (@LT.lt Nat _ D _) ∧ _ => hal
      obtain ⟨_, a1, a2, a3, a4, a5, a6, a7, a8, a9, a10, a11⟩ := hal
      exact newTo_lt ⟨a7, a8, a9, a10, a1, a2, a3, a4, a5, a6, allLt_left a11⟩
    · exact newTo_swap [_, _, _, _, _, _] [_, _, _, _] (hn1 q hq)

end
end Mine

end
section
open PySem PySem.W PyProof.Rows PySem.Calls PyProof.V
set_option Elab.async false
set_option maxRecDepth 100000
set_option maxHeartbeats 8000000
set_option linter.unusedVariables false
namespace Mine

section
variable {w : World} {p : Program} {loose : List Str} {mean : ExcName → Option Value} {mg mb : Str → Option Value}
  {dp un : Nat} {gd : Option (List Code)} {cn : Str} {cs : Scope} {a : Addr} {ccd : Value} {cl : List (Str × Addr)} {outer : List Env} {A₀ : Around} {base h₀ : Heap} {L : Addr} {m : Str → Option Value} {s : Shared} {Q E : Value → Shared → Prop}

local macro_rules | `(tactic| walk_at "getMethod ref") => `(tactic| ((first
  | (with_reducible show wpAny _ _ (getMethod _ (Str.ofString "add_cookie_header") _) _ _ _)
  | (with_reducible show wpAny _ _ (getMethod _ (Str.ofString "extract_cookies") _) _ _ _)); (k_dflt (refine' kmu_own ?k1 ?k2 ?k3 ?k4 ?k5 ?_; (case k1 => k_asm); (case k2 => k_asm); (case k3 => k_inst); (case k4 => k_is); (case k5 => k_is); k_whole))))
local macro_rules | `(tactic| walk_at "callWith ref") => `(tactic| (k_dflt (refine' callWith_F ?k1 ?_; (case k1 => exact FnAt.of (by k_asm) (by k_mem)); k_whole)))

theorem send_attr {pr dpr x : Nat} {rest : List (Addr × Obj)} {safe : Bool}
    (B : Below A₀ h₀ [] h₀) (F : Fr h₀ L s.heap m) (T : Top p loose mean mg mb h₀) (hk : cs.kind = .function) (hdp : dp + 4 < recursionLimit) (hun : un + 40 < cLine)
    (N : News h₀ L s.heap ((pr, instObj 52 dpr) :: (dpr, dictOf [] 0) :: rest))
    (hret : ∀ (R : Nat) (tg : Tok) (h' : Heap) (tk' : Nat), Fr h₀ L h' m →
      News h₀ L h' ((R, { cls := .type "tuple", data := .seq #[.str (Str.ofString "AttributeError") tg, .none] }) :: (pr, instObj 52 dpr) :: (dpr, dictOf [] 0) :: rest) →
      NewTo ((pr, instObj 52 dpr) :: (dpr, dictOf [] 0) :: rest) R → Q (.ref R) { s with heap := h', toks := tk' }) (X : (hd.heap_39 w.params).In h₀) :
      wpAny (model PySem.Challenge.rw_dn0255_02.row.prog w) (ktrTop dp un gd cn cs L a ccd [] []) (call (.ref 111) [.ref pr, .ref x, .bool safe]) Q E s := by
  revert X; k_fill; intro X
  have hKst := kstMark

  (refine wpAny_call ?_; k_dflt (refine' code_defS0 (binds := [(Str.ofString "processor", .ref pr), (Str.ofString "request", .ref x), (Str.ofString "safe", .bool safe)]) B F X N T rfl ?k6 ?k7 ?k8 ?k9 ?kB ?_ hk ?c2 ?c3 ?c4 ?c5; (case k6 => k_is); (case k7 => k_is); (case k8 => ktr_room); (case k9 => exact BindsTo.of_eq rfl); (case c5 => decide); (case kB => exact locs rfl); (case c2 => exact rfl); (case c3 => exact rfl); (case c4 => exact rfl); k_whole; intro g' L' h' FG' F' N' B' X' T' D'; (try dsimp only); (try k_lift B'); (try k_fold)))
  cases safe
  · repeat' ((fail_if_success (with_reducible show wpAny _ _ (call (Value.ref 78) _ _) _ _ _)); (first | (k_unfold; (try dsimp only)) | (k_end; wrow_close) | walk1 | (dsimp only; walk1) | (leave1; walk_say "STEP leave1"; try dsimp only) | fail "no step"))
    (refine wpAny_call ?_; k_dflt (refine' code_def (binds := [(Str.ofString "self", .ref pr), (Str.ofString "request", .ref x)]) (by k_asm) (by k_asm) (by k_asm) (by k_asm) (by k_asm) rfl rfl rfl ?k6 ?k7 ?k8 ?k9 ?kB1 ?_ ?c2 ?c3 ?c4 ?c5; (case k6 => k_is); (case k7 => k_is); (case k8 => ktr_room); (case k9 => exact BindsTo.of_eq rfl); (case c5 => decide); (case kB1 => exact locs rfl); (case c2 => exact rfl); (case c3 => exact rfl); (case c4 => exact rfl); k_whole; intro g1 L1 h1 FG1 F1 N1 B1 X1 T1; (try dsimp only); (try k_lift B1); (try k_fold)))
    repeat' ((fail_if_success (with_reducible show wpAny _ _ (getAttr _ _ _) _ _ _)); (first | (k_unfold; (try dsimp only)) | (k_end; wrow_close) | walk1 | (dsimp only; walk1) | (leave1; walk_say "STEP leave1"; try dsimp only) | fail "no step"))
    (k_dflt (refine' get_miss (X1.keeps F1.keep) ?kI ?k1 ?k2 ?k3 ?k4 ?k5 ?k6 ?k7 ?k8 ?_; (case kI => k_inst); (case k1 => k_is); (case k2 => k_is); (case k3 => rfl); (case k4 => k_is); (case k5 => decide); (case k6 => decide); (case k7 => decide); (case k8 => rfl)))
    intro h2 tk2 e2 ne2
    obtain ⟨t3, u3, he3⟩ := ne2.there
    refine leave_newX (cls := "AttributeError") rfl rfl B1 F1 N1 ne2.keeps ne2.new he3 rfl rfl rfl rfl ?_
    intro h3 R3 U3
    (k_dflt (refine' caught_SN0 (T' := "AttributeError") R3 FG1 B' U3 X T D' KtsTurn.refl ?q1 ?q2 ?q3 ?q4 ?q5 ?q6 ?_; (case q1 => k_is); (case q2 => exact PyProof.Rows.Boot.«AttributeError»); (case q3 => decide); (case q4 => rw [isSubtype_type]; kernel_rfl); (case q5 => rw [isSubtype_type]; kernel_rfl); (case q6 => exact sub_AttributeError)))
    intro h4 g4 T4 F4 N4 B4 X4 P4 D4
    (try k_lift B4)
    k_steps
    rename News _ _ _ _ => N7
    rename Fr _ _ _ _ => F7
    rename (@LT.lt Nat _ pr _) ∧ _ => hal
    exact hret _ _ _ _ F7 N7 (newTo_lt hal)
  · repeat' ((fail_if_success (with_reducible show wpAny _ _ (call (Value.ref 78) _ _) _ _ _)); (first | (k_unfold; (try dsimp only)) | (k_end; wrow_close) | walk1 | (dsimp only; walk1) | (leave1; walk_say "STEP leave1"; try dsimp only) | fail "no step"))
    (refine wpAny_call ?_; k_dflt (refine' code_def (binds := [(Str.ofString "self", .ref pr), (Str.ofString "request", .ref x)]) (by k_asm) (by k_asm) (by k_asm) (by k_asm) (by k_asm) rfl rfl rfl ?k6 ?k7 ?k8 ?k9 ?kB2 ?_ ?c2 ?c3 ?c4 ?c5; (case k6 => k_is); (case k7 => k_is); (case k8 => ktr_room); (case k9 => exact BindsTo.of_eq rfl); (case c5 => decide); (case kB2 => exact locs rfl); (case c2 => exact rfl); (case c3 => exact rfl); (case c4 => exact rfl); k_whole; intro g1 L1 h1 FG1 F1 N1 B1 X1 T1; (try dsimp only); (try k_lift B1); (try k_fold)))
    repeat' ((fail_if_success (with_reducible show wpAny _ _ (getAttr _ _ _) _ _ _)); (first | (k_unfold; (try dsimp only)) | (k_end; wrow_close) | walk1 | (dsimp only; walk1) | (leave1; walk_say "STEP leave1"; try dsimp only) | fail "no step"))
    (k_dflt (refine' get_miss (X1.keeps F1.keep) ?kI ?k1 ?k2 ?k3 ?k4 ?k5 ?k6 ?k7 ?k8 ?_; (case kI => k_inst); (case k1 => k_is); (case k2 => k_is); (case k3 => rfl); (case k4 => k_is); (case k5 => decide); (case k6 => decide); (case k7 => decide); (case k8 => rfl)))
    intro h2 tk2 e2 ne2
    obtain ⟨t3, u3, he3⟩ := ne2.there
    refine leave_newX (cls := "AttributeError") rfl rfl B1 F1 N1 ne2.keeps ne2.new he3 rfl rfl rfl rfl ?_
    intro h3 R3 U3
    (k_dflt (refine' caught_SN0 (T' := "AttributeError") R3 FG1 B' U3 X T D' KtsTurn.refl ?q1 ?q2 ?q3 ?q4 ?q5 ?q6 ?_; (case q1 => k_is); (case q2 => exact PyProof.Rows.Boot.«AttributeError»); (case q3 => decide); (case q4 => rw [isSubtype_type]; kernel_rfl); (case q5 => rw [isSubtype_type]; kernel_rfl); (case q6 => exact sub_AttributeError)))
    intro h4 g4 T4 F4 N4 B4 X4 P4 D4
    (try k_lift B4)
    k_steps
    rename News _ _ _ _ => N7
    rename Fr _ _ _ _ => F7
    rename (@LT.lt Nat _ pr _) ∧ _ => hal
    exact hret _ _ _ _ F7 N7 (newTo_lt hal)

end
end Mine

end
section
open PySem PySem.W PyProof.Rows PySem.Calls PyProof.V
set_option Elab.async false
set_option maxRecDepth 100000
set_option maxHeartbeats 8000000
set_option linter.unusedVariables false
namespace Mine

section
variable {w : World} {p : Program} {loose : List Str} {mean : ExcName → Option Value} {mg mb : Str → Option Value}
  {dp un : Nat} {gd : Option (List Code)} {cn : Str} {cs : Scope} {a : Addr} {ccd : Value} {cl : List (Str × Addr)} {outer : List Env} {A₀ : Around} {base h₀ : Heap} {L : Addr} {m : Str → Option Value} {s : Shared} {Q E : Value → Shared → Prop}

local macro_rules | `(tactic| walk_at "getMethod ref") => `(tactic| ((first
  | (with_reducible show wpAny _ _ (getMethod _ (Str.ofString "add_cookie_header") _) _ _ _)
  | (with_reducible show wpAny _ _ (getMethod _ (Str.ofString "extract_cookies") _) _ _ _)); (k_dflt (refine' kmu_own ?k1 ?k2 ?k3 ?k4 ?k5 ?_; (case k1 => k_asm); (case k2 => k_asm); (case k3 => k_inst); (case k4 => k_is); (case k5 => k_is); k_whole))))
local macro_rules | `(tactic| walk_at "callWith ref") => `(tactic| (k_dflt (refine' callWith_F ?k1 ?_; (case k1 => exact FnAt.of (by k_asm) (by k_mem)); k_whole)))

theorem send_val {pr dpr j dj f fe c' c x dx : Nat} {oc' : Obj} {vs' : Array Value} {tq tj ta te : Tok} {qual : Str} {doc pm ctv : Value} {ts tks : Tok} {rest : List (Addr × Obj)} {safe : Bool}
    (B : Below A₀ h₀ [] h₀) (F : Fr h₀ L s.heap m) (T : Top p loose mean mg mb h₀) (hk : cs.kind = .function) (hdp : dp + 4 < recursionLimit) (hun : un + 40 < cLine)
    (hoc' : oc'.data = .fields vs') (hq : vs'[1]? = some (.str qual tq))
    (N : News h₀ L s.heap ((pr, instObj 52 dpr) :: (dpr, dictOf [ent w "cookiejar" tj (.ref j)] 1) :: (j, instObj 52 dj) :: (dj, dictOf [ent w "add_cookie_header" ta (.ref f), ent w "extract_cookies" te (.ref fe)] 2) :: (f, addFn qual c doc pm c' ctv) :: (c', oc') :: (x, instObj 52 dx) :: (dx, dictOf [ent w "site" tks (.int 3 ts)] 1) :: rest))
    (hret : ∀ (R : Nat) (tg : Tok) (h' : Heap) (tk' : Nat), Fr h₀ L h' m →
      News h₀ L h' ((R, { cls := .type "tuple", data := .seq #[.str (Str.ofString "ValueError") tg, .none] }) :: (pr, instObj 52 dpr) :: (dpr, dictOf [ent w "cookiejar" tj (.ref j)] 1) :: (j, instObj 52 dj) :: (dj, dictOf [ent w "add_cookie_header" ta (.ref f), ent w "extract_cookies" te (.ref fe)] 2) :: (f, addFn qual c doc pm c' ctv) :: (c', oc') :: (x, instObj 52 dx) :: (dx, dictOf [ent w "site" tks (.int 3 ts)] 1) :: rest) →
      NewTo ((pr, instObj 52 dpr) :: (dpr, dictOf [ent w "cookiejar" tj (.ref j)] 1) :: (j, instObj 52 dj) :: (dj, dictOf [ent w "add_cookie_header" ta (.ref f), ent w "extract_cookies" te (.ref fe)] 2) :: (f, addFn qual c doc pm c' ctv) :: (c', oc') :: (x, instObj 52 dx) :: (dx, dictOf [ent w "site" tks (.int 3 ts)] 1) :: rest) R → Q (.ref R) { s with heap := h', toks := tk' }) (X : (hd.heap_39 w.params).In h₀) :
      wpAny (model PySem.Challenge.rw_dn0255_02.row.prog w) (ktrTop dp un gd cn cs L a ccd [] []) (call (.ref 111) [.ref pr, .ref x, .bool safe]) Q E s := by
  revert X; k_fill; intro X
  have hKst := kstMark

  (refine wpAny_call ?_; k_dflt (refine' code_defS0 (binds := [(Str.ofString "processor", .ref pr), (Str.ofString "request", .ref x), (Str.ofString "safe", .bool safe)]) B F X N T rfl ?k6 ?k7 ?k8 ?k9 ?kB ?_ hk ?c2 ?c3 ?c4 ?c5; (case k6 => k_is); (case k7 => k_is); (case k8 => ktr_room); (case k9 => exact BindsTo.of_eq rfl); (case c5 => decide); (case kB => exact locs rfl); (case c2 => exact rfl); (case c3 => exact rfl); (case c4 => exact rfl); k_whole; intro g' L' h' FG' F' N' B' X' T' D'; (try dsimp only); (try k_lift B'); (try k_fold)))
  cases safe
  · repeat' ((fail_if_success (with_reducible show wpAny _ _ (call (Value.ref 78) _ _) _ _ _)); (first | (k_unfold; (try dsimp only)) | (k_end; wrow_close) | walk1 | (dsimp only; walk1) | (leave1; walk_say "STEP leave1"; try dsimp only) | fail "no step"))
    (refine wpAny_call ?_; k_dflt (refine' code_def (binds := [(Str.ofString "self", .ref pr), (Str.ofString "request", .ref x)]) (by k_asm) (by k_asm) (by k_asm) (by k_asm) (by k_asm) rfl rfl rfl ?k6 ?k7 ?k8 ?k9 ?kB1 ?_ ?c2 ?c3 ?c4 ?c5; (case k6 => k_is); (case k7 => k_is); (case k8 => ktr_room); (case k9 => exact BindsTo.of_eq rfl); (case c5 => decide); (case kB1 => exact locs rfl); (case c2 => exact rfl); (case c3 => exact rfl); (case c4 => exact rfl); k_whole; intro g1 L1 h1 FG1 F1 N1 B1 X1 T1; (try dsimp only); (try k_lift B1); (try k_fold)))
    repeat' ((fail_if_success (with_reducible show wpAny _ _ (call (Value.ref f) _ _) _ _ _)); (first | (k_unfold; (try dsimp only)) | (k_end; wrow_close) | walk1 | (dsimp only; walk1) | (leave1; walk_say "STEP leave1"; try dsimp only) | fail "no step"))
    have N0 := news_swap [_, _, _, _] [_, _, _, _] N1
    simp only [List.cons_append, List.nil_append, addFn] at N0
    simp only [defArgs, defBody, defScope, addDef, jarDef, PySem.Challenge.pw_dn0255_02, List.getD_cons_zero, List.getD_cons_succ] at N0
    refine wpAny_call ?_
    k_dflt (refine' code_cc (cs := fun n => [(Str.ofString "first", n + 1), (Str.ofString "store", c)]) (cs0 := fun n => [(Str.ofString "first", n + 1)]) (hcs := fun _ => rfl) (hcs0 := fun _ => rfl) (binds := [(Str.ofString "request", .ref x)]) B1 F1 X1 N0 T1 rfl rfl rfl (List.Mem.head _) (codeRec_news N0 (List.Mem.tail _ (List.Mem.head _)) hoc' hq) ?k8 ?k9 ?kB1 ?_ ?c2 ?c3 ?c4; (case k8 => ktr_room); (case k9 => exact BindsTo.of_eq rfl); (case kB1 => exact locs rfl); (case c2 => exact rfl); (case c3 => exact rfl); (case c4 => exact rfl); k_whole; intro g2 L2 h2 cells2 FG2 F2 N2 Y2 B2 X2 T2 l2)
    obtain ⟨o2, rfl, d2⟩ := CellsAre.one Y2
    clear Y2
    simp only [List.cons_append, List.nil_append] at N2
    (try dsimp only); (try k_lift B2); (try k_fold)
    repeat' ((fail_if_success (with_reducible show wpAny _ _ (exec (Stmt.Raise _ _ _) _) _ _ _)); (first | (k_unfold; (try dsimp only)) | (k_end; wrow_close) | walk1 | (dsimp only; walk1) | (leave1; walk_say "STEP leave1"; try dsimp only) | fail "no step"))
    refine Raise_new rfl ?_
    repeat' ((fail_if_success (with_reducible show wpAny _ _ (call (Value.type _) _ _) _ _ _)); (first | (k_unfold; (try dsimp only)) | (k_end; wrow_close) | walk1 | (dsimp only; walk1) | (leave1; walk_say "STEP leave1"; try dsimp only) | fail "no step"))
    refine call_exc_raise PyProof.Rows.excClass_ValueError (fun h3 e3 hx3 => ?_)
    obtain ⟨ob3, t3, he3, hcls3, hd3⟩ := hx3.there
    refine leave_newX (cls := "ValueError") rfl rfl B2 F2 N2 hx3.keeps hx3.new he3 hcls3 hd3 rfl rfl ?_
    intro h4 R4 U4
    refine leave_onX rfl B1 FG2 R4 U4 ?_
    intro h5 R5 U5
    (k_dflt (refine' caught_next (T₁ := "AttributeError") (T' := "ValueError") R5 FG1 B' U5 X T D' KtsTurn.refl ?p1 ?p2 ?p3 ?p4 ?p5 ?p6 ?q1 ?q2 ?q3 ?q4 ?q5 ?q6 ?_ ?v1 ?v2 ?v3 ?v4 ?v5 ?v6; (case p1 => k_is); (case p2 => exact PyProof.Rows.Boot.«AttributeError»); (case p3 => decide); (case p4 => rw [isSubtype_type]; kernel_rfl); (case p5 => rw [isSubtype_type]; kernel_rfl); (case p6 => rw [isSubtype_type]; kernel_rfl); (case q1 => k_is); (case q2 => exact PyProof.Rows.Boot.«ValueError»); (case q3 => decide); (case q4 => rw [isSubtype_type]; kernel_rfl); (case q5 => rw [isSubtype_type]; kernel_rfl); (case q6 => rw [isSubtype_type]; kernel_rfl); (case v1 => rfl); (case v2 => rfl); (case v3 => rfl); (case v4 => decide); (case v5 => decide); (case v6 => passes_own)))
    intro h6 g6 T6 F6 N6 B6 X6 P6 D6
    (try k_lift B6)
    k_steps
    rename News _ _ _ _ => N7
    rename Fr _ _ _ _ => F7
    rename (@LT.lt Nat _ (L2 + 1) _) ∧ _ => hal
    obtain ⟨_, a1, a2, a3, a4, a5, a6, a7, a8, a9⟩ := hal
    exact hret _ _ _ _ F7 (news_mid [_] [_, _, _, _] [_, _, _, _] (news_drop2 N7)) (newTo_lt ⟨a5, a6, a7, a8, a1, a2, a3, a4, a9⟩)
  · repeat' ((fail_if_success (with_reducible show wpAny _ _ (call (Value.ref 78) _ _) _ _ _)); (first | (k_unfold; (try dsimp only)) | (k_end; wrow_close) | walk1 | (dsimp only; walk1) | (leave1; walk_say "STEP leave1"; try dsimp only) | fail "no step"))
    (refine wpAny_call ?_; k_dflt (refine' code_def (binds := [(Str.ofString "self", .ref pr), (Str.ofString "request", .ref x)]) (by k_asm) (by k_asm) (by k_asm) (by k_asm) (by k_asm) rfl rfl rfl ?k6 ?k7 ?k8 ?k9 ?kB2 ?_ ?c2 ?c3 ?c4 ?c5; (case k6 => k_is); (case k7 => k_is); (case k8 => ktr_room); (case k9 => exact BindsTo.of_eq rfl); (case c5 => decide); (case kB2 => exact locs rfl); (case c2 => exact rfl); (case c3 => exact rfl); (case c4 => exact rfl); k_whole; intro g1 L1 h1 FG1 F1 N1 B1 X1 T1; (try dsimp only); (try k_lift B1); (try k_fold)))
    repeat' ((fail_if_success (with_reducible show wpAny _ _ (call (Value.ref f) _ _) _ _ _)); (first | (k_unfold; (try dsimp only)) | (k_end; wrow_close) | walk1 | (dsimp only; walk1) | (leave1; walk_say "STEP leave1"; try dsimp only) | fail "no step"))
    have N0 := news_swap [_, _, _, _] [_, _, _, _] N1
    simp only [List.cons_append, List.nil_append, addFn] at N0
    simp only [defArgs, defBody, defScope, addDef, jarDef, PySem.Challenge.pw_dn0255_02, List.getD_cons_zero, List.getD_cons_succ] at N0
    refine wpAny_call ?_
    k_dflt (refine' code_cc (cs := fun n => [(Str.ofString "first", n + 1), (Str.ofString "store", c)]) (cs0 := fun n => [(Str.ofString "first", n + 1)]) (hcs := fun _ => rfl) (hcs0 := fun _ => rfl) (binds := [(Str.ofString "request", .ref x)]) B1 F1 X1 N0 T1 rfl rfl rfl (List.Mem.head _) (codeRec_news N0 (List.Mem.tail _ (List.Mem.head _)) hoc' hq) ?k8 ?k9 ?kB2 ?_ ?c2 ?c3 ?c4; (case k8 => ktr_room); (case k9 => exact BindsTo.of_eq rfl); (case kB2 => exact locs rfl); (case c2 => exact rfl); (case c3 => exact rfl); (case c4 => exact rfl); k_whole; intro g2 L2 h2 cells2 FG2 F2 N2 Y2 B2 X2 T2 l2)
    obtain ⟨o2, rfl, d2⟩ := CellsAre.one Y2
    clear Y2
    simp only [List.cons_append, List.nil_append] at N2
    (try dsimp only); (try k_lift B2); (try k_fold)
    repeat' ((fail_if_success (with_reducible show wpAny _ _ (exec (Stmt.Raise _ _ _) _) _ _ _)); (first | (k_unfold; (try dsimp only)) | (k_end; wrow_close) | walk1 | (dsimp only; walk1) | (leave1; walk_say "STEP leave1"; try dsimp only) | fail "no step"))
    refine Raise_new rfl ?_
    repeat' ((fail_if_success (with_reducible show wpAny _ _ (call (Value.type _) _ _) _ _ _)); (first | (k_unfold; (try dsimp only)) | (k_end; wrow_close) | walk1 | (dsimp only; walk1) | (leave1; walk_say "STEP leave1"; try dsimp only) | fail "no step"))
    refine call_exc_raise PyProof.Rows.excClass_ValueError (fun h3 e3 hx3 => ?_)
    obtain ⟨ob3, t3, he3, hcls3, hd3⟩ := hx3.there
    refine leave_newX (cls := "ValueError") rfl rfl B2 F2 N2 hx3.keeps hx3.new he3 hcls3 hd3 rfl rfl ?_
    intro h4 R4 U4
    refine leave_onX rfl B1 FG2 R4 U4 ?_
    intro h5 R5 U5
    (k_dflt (refine' caught_next (T₁ := "AttributeError") (T' := "ValueError") R5 FG1 B' U5 X T D' KtsTurn.refl ?p1 ?p2 ?p3 ?p4 ?p5 ?p6 ?q1 ?q2 ?q3 ?q4 ?q5 ?q6 ?_ ?v1 ?v2 ?v3 ?v4 ?v5 ?v6; (case p1 => k_is); (case p2 => exact PyProof.Rows.Boot.«AttributeError»); (case p3 => decide); (case p4 => rw [isSubtype_type]; kernel_rfl); (case p5 => rw [isSubtype_type]; kernel_rfl); (case p6 => rw [isSubtype_type]; kernel_rfl); (case q1 => k_is); (case q2 => exact PyProof.Rows.Boot.«ValueError»); (case q3 => decide); (case q4 => rw [isSubtype_type]; kernel_rfl); (case q5 => rw [isSubtype_type]; kernel_rfl); (case q6 => rw [isSubtype_type]; kernel_rfl); (case v1 => rfl); (case v2 => rfl); (case v3 => rfl); (case v4 => decide); (case v5 => decide); (case v6 => passes_own)))
    intro h6 g6 T6 F6 N6 B6 X6 P6 D6
    (try k_lift B6)
    k_steps
    rename News _ _ _ _ => N7
    rename Fr _ _ _ _ => F7
    rename (@LT.lt Nat _ (L2 + 1) _) ∧ _ => hal
    obtain ⟨_, a1, a2, a3, a4, a5, a6, a7, a8, a9⟩ := hal
    exact hret _ _ _ _ F7 (news_mid [_] [_, _, _, _] [_, _, _, _] (news_drop2 N7)) (newTo_lt ⟨a5, a6, a7, a8, a1, a2, a3, a4, a9⟩)

end
end Mine

end
section
open PySem PySem.W PyProof.Rows PySem.Calls PyProof.V
set_option Elab.async false
set_option maxRecDepth 100000
set_option maxHeartbeats 8000000
set_option linter.unusedVariables false
namespace Mine

section
variable {w : World} {p : Program} {loose : List Str} {mean : ExcName → Option Value} {mg mb : Str → Option Value}
  {dp un : Nat} {gd : Option (List Code)} {cn : Str} {cs : Scope} {a : Addr} {ccd : Value} {cl : List (Str × Addr)} {outer : List Env} {A₀ : Around} {base h₀ : Heap} {L : Addr} {m : Str → Option Value} {s : Shared} {Q E : Value → Shared → Prop}

local macro_rules | `(tactic| walk_at "getMethod ref") => `(tactic| ((first
  | (with_reducible show wpAny _ _ (getMethod _ (Str.ofString "add_cookie_header") _) _ _ _)
  | (with_reducible show wpAny _ _ (getMethod _ (Str.ofString "extract_cookies") _) _ _ _)); (k_dflt (refine' kmu_own ?k1 ?k2 ?k3 ?k4 ?k5 ?_; (case k1 => k_asm); (case k2 => k_asm); (case k3 => k_inst); (case k4 => k_is); (case k5 => k_is); k_whole))))
local macro_rules | `(tactic| walk_at "callWith ref") => `(tactic| (k_dflt (refine' callWith_F ?k1 ?_; (case k1 => exact FnAt.of (by k_asm) (by k_mem)); k_whole)))

theorem take_ok {pr dpr j dj f fe c' c d x dx y dy : Nat} {oc' oc od : Obj} {vs' : Array Value} {tq tj ta te : Tok} {qual : Str} {doc pm ctv : Value} {site nm vl : Int} {ts tks t1 t2 t3 t4 : Tok} {esr : List DictEntry} {nr : Nat} {cst : List (Int × Int)} {kvs : List (Int × Value)} {rest : List (Addr × Obj)} {safe : Bool}
    (B : Below A₀ base outer h₀) (F : Fr h₀ L s.heap m) (T : Top p loose mean mg mb h₀) (hk : cs.kind = .function) (hdp : dp + 4 < recursionLimit) (hun : un + 40 < cLine)
    (hoc' : oc'.data = .fields vs') (hq : vs'[1]? = some (.str qual tq)) (hoc : oc.data = .cell (some (.ref d)))
    (hod : od.IsDictOf (intKind (PySem.Challenge.rw_dn0255_02.row.prog) w) kvs) (hkv : FlatPairs PyData.int kvs (kdfD cst)) (hlo : (d == sysModules) = false) (hlen : cst.length ≤ 1000)
    (hr : esr = [] ∨ ∃ tc v, esr = [ent w "cookies" tc v])
    (hoff : NewTo rest d) (hne : fe ≠ d ∧ c' ≠ d ∧ c ≠ d ∧ x ≠ d ∧ dx ≠ d ∧ y ≠ d ∧ dy ≠ d ∧ pr ≠ d ∧ dpr ≠ d ∧ j ≠ d ∧ dj ≠ d)
    (N : News h₀ L s.heap ((pr, instObj 52 dpr) :: (dpr, dictOf [ent w "cookiejar" tj (.ref j)] 1) :: (j, instObj 52 dj) :: (dj, dictOf [ent w "add_cookie_header" ta (.ref f), ent w "extract_cookies" te (.ref fe)] 2) :: (fe, extFn qual c doc pm c' ctv) :: (c', oc') :: (c, oc) :: (d, od) :: (x, instObj 52 dx) :: (dx, dictOf (ent w "site" tks (.int site ts) :: esr) nr) :: (y, instObj 52 dy) :: (dy, dictOf [ent w "name" t1 (.int nm t2), ent w "value" t3 (.int vl t4)] 2) :: rest))
    (hret : ∀ (R : Nat) (od' : Obj) (kvs' : List (Int × Value)) (tg : Tok) (h' : Heap) (tk' : Nat), Fr h₀ L h' m →
      News h₀ L h' ((R, { cls := .type "tuple", data := .seq #[.str (Str.ofString "gave") tg, .ref y] }) :: (pr, instObj 52 dpr) :: (dpr, dictOf [ent w "cookiejar" tj (.ref j)] 1) :: (j, instObj 52 dj) :: (dj, dictOf [ent w "add_cookie_header" ta (.ref f), ent w "extract_cookies" te (.ref fe)] 2) :: (fe, extFn qual c doc pm c' ctv) :: (c', oc') :: (c, oc) :: (d, od') :: (x, instObj 52 dx) :: (dx, dictOf (ent w "site" tks (.int site ts) :: esr) nr) :: (y, instObj 52 dy) :: (dy, dictOf [ent w "name" t1 (.int nm t2), ent w "value" t3 (.int vl t4)] 2) :: rest) →
      od'.IsDictOf (intKind (PySem.Challenge.rw_dn0255_02.row.prog) w) kvs' → FlatPairs PyData.int kvs' (kdfD (kdfPut cst (4 * site + nm) vl)) →
      NewTo ((pr, instObj 52 dpr) :: (dpr, dictOf [ent w "cookiejar" tj (.ref j)] 1) :: (j, instObj 52 dj) :: (dj, dictOf [ent w "add_cookie_header" ta (.ref f), ent w "extract_cookies" te (.ref fe)] 2) :: (fe, extFn qual c doc pm c' ctv) :: (c', oc') :: (c, oc) :: (d, od) :: (x, instObj 52 dx) :: (dx, dictOf (ent w "site" tks (.int site ts) :: esr) nr) :: (y, instObj 52 dy) :: (dy, dictOf [ent w "name" t1 (.int nm t2), ent w "value" t3 (.int vl t4)] 2) :: rest) R → Q (.ref R) { s with heap := h', toks := tk' }) (X : (hd.heap_39 w.params).In h₀) :
      wpAny (model PySem.Challenge.rw_dn0255_02.row.prog w) (ktrTop dp un gd cn cs L a ccd cl outer) (call (.ref 118) [.ref pr, .ref x, .ref y, .bool safe]) Q E s := by
  revert X; k_fill; intro X
  have hKst := kstMark

  obtain ⟨n1, n2, n3, n4, n5, n6, n7, n8, n9, n10, n11⟩ := hne
  (refine wpAny_call ?_; k_dflt (refine' code_def (binds := [(Str.ofString "processor", .ref pr), (Str.ofString "request", .ref x), (Str.ofString "answer", .ref y), (Str.ofString "safe", .bool safe)]) B F X N T rfl rfl hk ?k6 ?k7 ?k8 ?k9 ?kB ?_ ?c2 ?c3 ?c4 ?c5; (case k6 => k_is); (case k7 => k_is); (case k8 => ktr_room); (case k9 => exact BindsTo.of_eq rfl); (case c5 => decide); (case kB => exact locs rfl); (case c2 => exact rfl); (case c3 => exact rfl); (case c4 => exact rfl); k_whole; intro g' L' h' FG' F' N' B' X' T'; (try dsimp only); (try k_lift B'); (try k_fold)))
  cases safe
  · repeat' ((fail_if_success (with_reducible show wpAny _ _ (call (Value.ref 85) _ _) _ _ _)); (first | (k_unfold; (try dsimp only)) | (k_end; wrow_close) | walk1 | (dsimp only; walk1) | (leave1; walk_say "STEP leave1"; try dsimp only) | fail "no step"))
    (refine wpAny_call ?_; k_dflt (refine' code_def (binds := [(Str.ofString "self", .ref pr), (Str.ofString "request", .ref x), (Str.ofString "response", .ref y)]) (by k_asm) (by k_asm) (by k_asm) (by k_asm) (by k_asm) rfl rfl rfl ?k6 ?k7 ?k8 ?k9 ?kB1 ?_ ?c2 ?c3 ?c4 ?c5; (case k6 => k_is); (case k7 => k_is); (case k8 => ktr_room); (case k9 => exact BindsTo.of_eq rfl); (case c5 => decide); (case kB1 => exact locs rfl); (case c2 => exact rfl); (case c3 => exact rfl); (case c4 => exact rfl); k_whole; intro g1 L1 h1 FG1 F1 N1 B1 X1 T1; (try dsimp only); (try k_lift B1); (try k_fold)))
    repeat' ((fail_if_success (with_reducible show wpAny _ _ (call (Value.ref fe) _ _) _ _ _)); (first | (k_unfold; (try dsimp only)) | (k_end; wrow_close) | walk1 | (dsimp only; walk1) | (leave1; walk_say "STEP leave1"; try dsimp only) | fail "no step"))
    (k_dflt (refine' ext_ok (rest := (pr, instObj 52 dpr) :: (dpr, dictOf [ent w "cookiejar" tj (.ref j)] 1) :: (j, instObj 52 dj) :: (dj, dictOf [ent w "add_cookie_header" ta (.ref f), ent w "extract_cookies" te (.ref fe)] 2) :: rest) ?kB1 ?kF1 ?kT1 ?kh1 ?rd1 ?ru1 hoc' hq hoc hod hkv hlo hlen hr (newTo_cons n8 (newTo_cons n9 (newTo_cons n10 (newTo_cons n11 hoff)))) ⟨n1, n2, n3, n4, n5, n6, n7⟩ ?kN1 ?rr1 ?kX1; (case kh1 => rfl); (case kF1 => k_asm); (case kB1 => k_asm); (case kT1 => k_asm); (case kX1 => k_asm); (case kN1 => exact news_swap [_, _, _, _] [_, _, _, _, _, _, _, _] (by k_asm))))
    (case rd1 => ktr_room)
    (case ru1 => ktr_units)
    intro od' kvs' h2 tk2 t F2 N2 hd2 hf2
    k_steps
    rename News _ _ _ _ => N7
    rename Fr _ _ _ _ => F7
    rename (@LT.lt Nat _ fe _) ∧ _ => hal
    obtain ⟨a1, a2, a3, a4, a5, a6, a7, a8, a9, a10, a11, a12, a13⟩ := hal
    exact hret _ _ _ _ _ _ F7 (news_mid [_] [_, _, _, _, _, _, _, _] [_, _, _, _] N7) hd2 hf2 (newTo_lt ⟨a9, a10, a11, a12, a1, a2, a3, a4, a5, a6, a7, a8, a13⟩)
  · repeat' ((fail_if_success (with_reducible show wpAny _ _ (call (Value.ref 85) _ _) _ _ _)); (first | (k_unfold; (try dsimp only)) | (k_end; wrow_close) | walk1 | (dsimp only; walk1) | (leave1; walk_say "STEP leave1"; try dsimp only) | fail "no step"))
    (refine wpAny_call ?_; k_dflt (refine' code_def (binds := [(Str.ofString "self", .ref pr), (Str.ofString "request", .ref x), (Str.ofString "response", .ref y)]) (by k_asm) (by k_asm) (by k_asm) (by k_asm) (by k_asm) rfl rfl rfl ?k6 ?k7 ?k8 ?k9 ?kB2 ?_ ?c2 ?c3 ?c4 ?c5; (case k6 => k_is); (case k7 => k_is); (case k8 => ktr_room); (case k9 => exact BindsTo.of_eq rfl); (case c5 => decide); (case kB2 => exact locs rfl); (case c2 => exact rfl); (case c3 => exact rfl); (case c4 => exact rfl); k_whole; intro g1 L1 h1 FG1 F1 N1 B1 X1 T1; (try dsimp only); (try k_lift B1); (try k_fold)))
    repeat' ((fail_if_success (with_reducible show wpAny _ _ (call (Value.ref fe) _ _) _ _ _)); (first | (k_unfold; (try dsimp only)) | (k_end; wrow_close) | walk1 | (dsimp only; walk1) | (leave1; walk_say "STEP leave1"; try dsimp only) | fail "no step"))
    (k_dflt (refine' ext_ok (rest := (pr, instObj 52 dpr) :: (dpr, dictOf [ent w "cookiejar" tj (.ref j)] 1) :: (j, instObj 52 dj) :: (dj, dictOf [ent w "add_cookie_header" ta (.ref f), ent w "extract_cookies" te (.ref fe)] 2) :: rest) ?kB2 ?kF2 ?kT2 ?kh2 ?rd2 ?ru2 hoc' hq hoc hod hkv hlo hlen hr (newTo_cons n8 (newTo_cons n9 (newTo_cons n10 (newTo_cons n11 hoff)))) ⟨n1, n2, n3, n4, n5, n6, n7⟩ ?kN2 ?rr2 ?kX2; (case kh2 => rfl); (case kF2 => k_asm); (case kB2 => k_asm); (case kT2 => k_asm); (case kX2 => k_asm); (case kN2 => exact news_swap [_, _, _, _] [_, _, _, _, _, _, _, _] (by k_asm))))
    (case rd2 => ktr_room)
    (case ru2 => ktr_units)
    intro od' kvs' h2 tk2 t F2 N2 hd2 hf2
    k_steps
    rename News _ _ _ _ => N7
    rename Fr _ _ _ _ => F7
    rename (@LT.lt Nat _ fe _) ∧ _ => hal
    obtain ⟨a1, a2, a3, a4, a5, a6, a7, a8, a9, a10, a11, a12, a13⟩ := hal
    exact hret _ _ _ _ _ _ F7 (news_mid [_] [_, _, _, _, _, _, _, _] [_, _, _, _] N7) hd2 hf2 (newTo_lt ⟨a9, a10, a11, a12, a1, a2, a3, a4, a5, a6, a7, a8, a13⟩)

theorem take_attr {pr dpr x y : Nat} {rest : List (Addr × Obj)} {safe : Bool}
    (B : Below A₀ h₀ [] h₀) (F : Fr h₀ L s.heap m) (T : Top p loose mean mg mb h₀) (hk : cs.kind = .function) (hdp : dp + 4 < recursionLimit) (hun : un + 40 < cLine)
    (N : News h₀ L s.heap ((pr, instObj 52 dpr) :: (dpr, dictOf [] 0) :: rest))
    (hret : ∀ (R : Nat) (tg : Tok) (h' : Heap) (tk' : Nat), Fr h₀ L h' m →
      News h₀ L h' ((R, { cls := .type "tuple", data := .seq #[.str (Str.ofString "AttributeError") tg, .none] }) :: (pr, instObj 52 dpr) :: (dpr, dictOf [] 0) :: rest) →
      NewTo ((pr, instObj 52 dpr) :: (dpr, dictOf [] 0) :: rest) R → Q (.ref R) { s with heap := h', toks := tk' }) (X : (hd.heap_39 w.params).In h₀) :
      wpAny (model PySem.Challenge.rw_dn0255_02.row.prog w) (ktrTop dp un gd cn cs L a ccd [] []) (call (.ref 118) [.ref pr, .ref x, .ref y, .bool safe]) Q E s := by
  revert X; k_fill; intro X
  have hKst := kstMark

  (refine wpAny_call ?_; k_dflt (refine' code_defS0 (binds := [(Str.ofString "processor", .ref pr), (Str.ofString "request", .ref x), (Str.ofString "answer", .ref y), (Str.ofString "safe", .bool safe)]) B F X N T rfl ?k6 ?k7 ?k8 ?k9 ?kB ?_ hk ?c2 ?c3 ?c4 ?c5; (case k6 => k_is); (case k7 => k_is); (case k8 => ktr_room); (case k9 => exact BindsTo.of_eq rfl); (case c5 => decide); (case kB => exact locs rfl); (case c2 => exact rfl); (case c3 => exact rfl); (case c4 => exact rfl); k_whole; intro g' L' h' FG' F' N' B' X' T' D'; (try dsimp only); (try k_lift B'); (try k_fold)))
  cases safe
  · repeat' ((fail_if_success (with_reducible show wpAny _ _ (call (Value.ref 85) _ _) _ _ _)); (first | (k_unfold; (try dsimp only)) | (k_end; wrow_close) | walk1 | (dsimp only; walk1) | (leave1; walk_say "STEP leave1"; try dsimp only) | fail "no step"))
    (refine wpAny_call ?_; k_dflt (refine' code_def (binds := [(Str.ofString "self", .ref pr), (Str.ofString "request", .ref x), (Str.ofString "response", .ref y)]) (by k_asm) (by k_asm) (by k_asm) (by k_asm) (by k_asm) rfl rfl rfl ?k6 ?k7 ?k8 ?k9 ?kB1 ?_ ?c2 ?c3 ?c4 ?c5; (case k6 => k_is); (case k7 => k_is); (case k8 => ktr_room); (case k9 => exact BindsTo.of_eq rfl); (case c5 => decide); (case kB1 => exact locs rfl); (case c2 => exact rfl); (case c3 => exact rfl); (case c4 => exact rfl); k_whole; intro g1 L1 h1 FG1 F1 N1 B1 X1 T1; (try dsimp only); (try k_lift B1); (try k_fold)))
    repeat' ((fail_if_success (with_reducible show wpAny _ _ (getAttr _ _ _) _ _ _)); (first | (k_unfold; (try dsimp only)) | (k_end; wrow_close) | walk1 | (dsimp only; walk1) | (leave1; walk_say "STEP leave1"; try dsimp only) | fail "no step"))
    (k_dflt (refine' get_miss (X1.keeps F1.keep) ?kI ?k1 ?k2 ?k3 ?k4 ?k5 ?k6 ?k7 ?k8 ?_; (case kI => k_inst); (case k1 => k_is); (case k2 => k_is); (case k3 => rfl); (case k4 => k_is); (case k5 => decide); (case k6 => decide); (case k7 => decide); (case k8 => rfl)))
    intro h2 tk2 e2 ne2
    obtain ⟨t3, u3, he3⟩ := ne2.there
    refine leave_newX (cls := "AttributeError") rfl rfl B1 F1 N1 ne2.keeps ne2.new he3 rfl rfl rfl rfl ?_
    intro h3 R3 U3
    (k_dflt (refine' caught_SN0 (T' := "AttributeError") R3 FG1 B' U3 X T D' KtsTurn.refl ?q1 ?q2 ?q3 ?q4 ?q5 ?q6 ?_; (case q1 => k_is); (case q2 => exact PyProof.Rows.Boot.«AttributeError»); (case q3 => decide); (case q4 => rw [isSubtype_type]; kernel_rfl); (case q5 => rw [isSubtype_type]; kernel_rfl); (case q6 => exact sub_AttributeError)))
    intro h4 g4 T4 F4 N4 B4 X4 P4 D4
    (try k_lift B4)
    k_steps
    rename News _ _ _ _ => N7
    rename Fr _ _ _ _ => F7
    rename (@LT.lt Nat _ pr _) ∧ _ => hal
    exact hret _ _ _ _ F7 N7 (newTo_lt hal)
  · repeat' ((fail_if_success (with_reducible show wpAny _ _ (call (Value.ref 85) _ _) _ _ _)); (first | (k_unfold; (try dsimp only)) | (k_end; wrow_close) | walk1 | (dsimp only; walk1) | (leave1; walk_say "STEP leave1"; try dsimp only) | fail "no step"))
    (refine wpAny_call ?_; k_dflt (refine' code_def (binds := [(Str.ofString "self", .ref pr), (Str.ofString "request", .ref x), (Str.ofString "response", .ref y)]) (by k_asm) (by k_asm) (by k_asm) (by k_asm) (by k_asm) rfl rfl rfl ?k6 ?k7 ?k8 ?k9 ?kB2 ?_ ?c2 ?c3 ?c4 ?c5; (case k6 => k_is); (case k7 => k_is); (case k8 => ktr_room); (case k9 => exact BindsTo.of_eq rfl); (case c5 => decide); (case kB2 => exact locs rfl); (case c2 => exact rfl); (case c3 => exact rfl); (case c4 => exact rfl); k_whole; intro g1 L1 h1 FG1 F1 N1 B1 X1 T1; (try dsimp only); (try k_lift B1); (try k_fold)))
    repeat' ((fail_if_success (with_reducible show wpAny _ _ (getAttr _ _ _) _ _ _)); (first | (k_unfold; (try dsimp only)) | (k_end; wrow_close) | walk1 | (dsimp only; walk1) | (leave1; walk_say "STEP leave1"; try dsimp only) | fail "no step"))
    (k_dflt (refine' get_miss (X1.keeps F1.keep) ?kI ?k1 ?k2 ?k3 ?k4 ?k5 ?k6 ?k7 ?k8 ?_; (case kI => k_inst); (case k1 => k_is); (case k2 => k_is); (case k3 => rfl); (case k4 => k_is); (case k5 => decide); (case k6 => decide); (case k7 => decide); (case k8 => rfl)))
    intro h2 tk2 e2 ne2
    obtain ⟨t3, u3, he3⟩ := ne2.there
    refine leave_newX (cls := "AttributeError") rfl rfl B1 F1 N1 ne2.keeps ne2.new he3 rfl rfl rfl rfl ?_
    intro h3 R3 U3
    (k_dflt (refine' caught_SN0 (T' := "AttributeError") R3 FG1 B' U3 X T D' KtsTurn.refl ?q1 ?q2 ?q3 ?q4 ?q5 ?q6 ?_; (case q1 => k_is); (case q2 => exact PyProof.Rows.Boot.«AttributeError»); (case q3 => decide); (case q4 => rw [isSubtype_type]; kernel_rfl); (case q5 => rw [isSubtype_type]; kernel_rfl); (case q6 => exact sub_AttributeError)))
    intro h4 g4 T4 F4 N4 B4 X4 P4 D4
    (try k_lift B4)
    k_steps
    rename News _ _ _ _ => N7
    rename Fr _ _ _ _ => F7
    rename (@LT.lt Nat _ pr _) ∧ _ => hal
    exact hret _ _ _ _ F7 N7 (newTo_lt hal)

end
end Mine

end
section
open PySem PySem.W PyProof.Rows PySem.Calls PyProof.V
set_option Elab.async false
set_option maxRecDepth 100000
set_option maxHeartbeats 8000000
set_option linter.unusedVariables false
namespace Mine


/-- an entry of the list of past answers: the jar's number, the site, the name, the value -/
abbrev Ent := Int × Int × Int × Int
def entD (e : Ent) : Dat := .tuple [.int e.1, .int e.2.1, .int e.2.2.1, .int e.2.2.2]
def seenS (j site : Int) (c : List (Int × Int)) (e : Ent) : List (Int × Int) := if e.1 = j ∧ e.2.1 = site then kdfPut c e.2.2.1 e.2.2.2 else c
def seenC (past : List Ent) (j site : Int) : List (Int × Int) := past.foldl (seenS j site) []
theorem seenC_snoc (past : List Ent) (e : Ent) (j site : Int) : seenC (past ++ [e]) j site = seenS j site (seenC past j site) e := by simp [seenC]
theorem put_keys (c : List (Int × Int)) (k v : Int) : (kdfPut c k v).map (·.1) = if kdfHas c k then c.map (·.1) else c.map (·.1) ++ [k] := by
  unfold kdfPut kdfHas
  split
  · rw [List.map_map]
    refine List.map_congr_left fun p _ => ?_
    show (if decide (p.1 = k) = true then (p.1, v) else p).1 = p.1
    split <;> rfl
  · simp
theorem put_nodup {c : List (Int × Int)} {k v : Int} (h : (c.map (·.1)).Nodup) : ((kdfPut c k v).map (·.1)).Nodup := by
  rw [put_keys]
  cases hh : kdfHas c k with
  | true => simpa using h
  | false =>
    simp only [Bool.false_eq_true, if_false]
    refine List.nodup_append.mpr ⟨h, by simp, fun x hx y hy => ?_⟩
    rw [List.mem_singleton.mp hy]
    rintro rfl
    rw [has_iff.mpr hx] at hh
    cases hh
theorem seenC_len (past : List Ent) (j site : Int) : (seenC past j site).length ≤ past.length := by
  have key : ∀ (l : List Ent) (c : List (Int × Int)), (l.foldl (seenS j site) c).length ≤ c.length + l.length := by
    intro l
    induction l with
    | nil => intro c; simp
    | cons e l ih =>
      intro c
      have h1 := ih (seenS j site c e)
      have h2 : (seenS j site c e).length ≤ c.length + 1 := by
        unfold seenS
        split
        · exact kdfPut_len _ _ _
        · omega
      simp only [List.foldl_cons, List.length_cons]
      omega
  simpa [seenC] using key past []
theorem seenC_ok {past : List Ent} {j site : Int} (hp : ∀ e ∈ past, 0 ≤ e.2.2.1 ∧ e.2.2.1 < 4) : ((seenC past j site).map (·.1)).Nodup ∧ ∀ k ∈ (seenC past j site).map (·.1), 0 ≤ k ∧ k < 4 := by
  have key : ∀ (l : List Ent) (c : List (Int × Int)), (∀ e ∈ l, 0 ≤ e.2.2.1 ∧ e.2.2.1 < 4) → (c.map (·.1)).Nodup → (∀ k ∈ c.map (·.1), 0 ≤ k ∧ k < 4) →
      ((l.foldl (seenS j site) c).map (·.1)).Nodup ∧ ∀ k ∈ (l.foldl (seenS j site) c).map (·.1), 0 ≤ k ∧ k < 4 := by
    intro l
    induction l with
    | nil => intro c _ h1 h2; exact ⟨h1, h2⟩
    | cons e l ih =>
      intro c hl h1 h2
      refine ih _ (fun x hx => hl x (List.mem_cons_of_mem _ hx)) ?_ ?_
      · unfold seenS
        split
        · exact put_nodup h1
        · exact h1
      · unfold seenS
        split
        · intro k hk
          rw [put_keys] at hk
          split at hk
          · exact h2 k hk
          · rcases List.mem_append.mp hk with hk | hk
            · exact h2 k hk
            · rw [List.mem_singleton.mp hk]; exact hl e (List.mem_cons_self ..)
        · exact h2
  exact key past [] hp (by simp) (by simp)

theorem kst_self {m : Str → Option Value} {ps : List (Str × Value)} (h : ∀ p ∈ ps, m p.1 = some p.2) : m = kstB m ps := by
  funext z
  exact (kstB_eq h fun _ => rfl).symm
section
variable {w : World} {p : Program} {loose : List Str} {mean : ExcName → Option Value} {mg mb : Str → Option Value}
  {dp un : Nat} {gd : Option (List Code)} {cn : Str} {cs : Scope} {a : Addr} {ccd : Value} {cl : List (Str × Addr)} {outer : List Env} {A₀ : Around} {base h₀ : Heap} {L : Addr} {m : Str → Option Value} {s : Shared} {Q E : Value → Shared → Prop}

theorem shown_c {lp np : Nat} {vs : List Value} {past : List Ent} {j site : Int} {tj ts : Tok} {rest : List (Addr × Obj)}
    (B : Below A₀ base outer h₀) (F : Fr h₀ L s.heap m) (T : Top p loose mean mg mb h₀) (hk : cs.kind = .function) (hdp : dp + 2 < recursionLimit) (hun : un + 40 < cLine)
    (hP : DatAll rest vs (past.map entD)) (hlen : past.length ≤ 64) (hnm : ∀ e ∈ past, 0 ≤ e.2.2.1 ∧ e.2.2.1 < 4)
    (N : News h₀ L s.heap ((lp, listOf vs.toArray np) :: rest))
    (hret : ∀ (R : Nat) (ys : List Value) (e : Nat) (tl : List (Addr × Obj)) (h' : Heap) (tk' : Nat), Fr h₀ L h' m →
      News h₀ L h' ((R, listOf ys.toArray e) :: (lp, listOf vs.toArray np) :: (rest ++ tl)) → DatAll tl ys ((canon (seenC past j site)).map pairD) →
      (∀ q ∈ (R, listOf ys.toArray e) :: tl, NewTo ((lp, listOf vs.toArray np) :: rest) q.1) → Q (.ref R) { s with heap := h', toks := tk' }) (X : (hd.heap_39 w.params).In h₀) :
      wpAny (model PySem.Challenge.rw_dn0255_02.row.prog w) (ktrTop dp un gd cn cs L a ccd cl outer) (call (.ref 104) [.ref lp, .int j tj, .int site ts]) Q E s := by
  revert X; k_fill; intro X
  have hKst := kstMark

  (refine wpAny_call ?_; k_dflt (refine' code_def (binds := [(Str.ofString "past", .ref lp), (Str.ofString "number", .int j tj), (Str.ofString "site", .int site ts)]) B F X N T rfl rfl hk ?k6 ?k7 ?k8 ?k9 ?kB ?_ ?c2 ?c3 ?c4 ?c5; (case k6 => k_is); (case k7 => k_is); (case k8 => ktr_room); (case k9 => exact BindsTo.of_eq rfl); (case c5 => decide); (case kB => exact locs rfl); (case c2 => exact rfl); (case c3 => exact rfl); (case c4 => exact rfl); k_whole; intro g' L' h' FG' F' N' B' X' T'; (try dsimp only); (try k_lift B'); (try k_fold)))
  repeat' ((fail_if_success (with_reducible show wpAny _ _ (exec (Stmt.For _ _ _ _ _) _) _ _ _)); (first | (k_unfold; (try dsimp only)) | (k_end; wrow_close) | walk1 | (dsimp only; walk1) | (leave1; walk_say "STEP leave1"; try dsimp only) | fail "no step"))
  rename_i d h1' o lo hs fs hi fi l1 h1 F1 N1
  obtain ⟨l1a, l1b⟩ := l1
  (k_dflt (refine' For_invVF F1 ?kx ?kp ?_; (case kx => rfl); (case kp => rfl)))
  iterate 1 (first | walk1 | (dsimp only; walk1))
  refine loop_list (fun i m nx => (∀ p ∈ [(Str.ofString "seen", Value.ref d), (Str.ofString "number", .int j tj), (Str.ofString "site", .int site ts)], m p.1 = some p.2) ∧
      ∃ o kvs, nx = (d, o) :: (lp, listOf vs.toArray np) :: rest ∧ o.IsDictOf (intKind (PySem.Challenge.rw_dn0255_02.row.prog) w) kvs ∧ FlatPairs PyData.int kvs (kdfD (seenC (past.take i) j site)))
    rfl (List.Mem.tail _ (List.Mem.head _)) ?fix F1 N1 ?start ?turn ?done
  case fix =>
    rintro i m nx ⟨_, o', kvs', rfl, _, _⟩
    exact List.Mem.tail _ (List.Mem.head _)
  case start =>
    refine ⟨?_, o, [], rfl, hi, fi⟩
    intro p hp
    simp only [List.mem_cons, List.not_mem_nil, or_false] at hp
    rcases hp with rfl | rfl | rfl <;> rfl
  case turn =>
    rintro i v m₁ nx h2 tk2 I oI hv ⟨hm, o2, kvs2, rfl, hd2, hf2⟩ hnI F2 N2
    have hlt : i < past.length := by
      have := (List.getElem?_eq_some_iff.mp hv).1
      have := hP.length
      simp only [List.length_map] at this
      omega
    obtain ⟨v', hv', hdv⟩ := hP.get (k := i) (by simpa using hlt)
    rw [hv] at hv'
    obtain rfl := Option.some.inj hv'
    rw [take_one hlt, seenC_snoc]
    rw [List.getElem_map] at hdv
    have hlc := seenC_len (past.take i) j site
    have htl : (past.take i).length ≤ 64 := by rw [List.length_take]; omega
    generalize hc : seenC (past.take i) j site = cc at hf2 hlc ⊢
    generalize hpi : past[i] = ee at hdv ⊢
    obtain ⟨e1, e2, e3, e4⟩ := ee
    unfold entD at hdv
    cases hdv with
    | tuple hm1 hr1 =>
      cases hr1 with
      | cons q1 hr1 => cases hr1 with
        | cons q2 hr1 => cases hr1 with
          | cons q3 hr1 => cases hr1 with
            | cons q4 hr1 =>
              cases hr1
              cases q1
              cases q2
              cases q3
              cases q4
              rw [kst_self hm] at F2
              rename_i av nv ta tb tc td
              replace F2 : Fr g' L' _ _ := F2
              replace N2 : News g' L' _ (_ :: (I, oI) :: (d, o2) :: (lp, listOf vs.toArray np) :: rest) := List.forall_mem_cons.mpr ⟨N2 _ (List.mem_cons_of_mem _ (List.mem_cons_of_mem _ (List.mem_cons_of_mem _ hm1))), N2⟩
              have hoD : OwnOff rest [d] := fun p hp b hb => by rw [List.mem_singleton.mp hb]; exact Nat.ne_of_lt (kst_ltOf l1b p hp)
              have hId : @Ne Nat d I := hnI _ (List.Mem.head _)
              have had : @Ne Nat av d := Nat.ne_of_lt (kst_ltOf l1b _ hm1)
              have hnI' : ∀ o' : Obj, ∀ p ∈ (d, o') :: (lp, listOf vs.toArray np) :: rest, p.1 ≠ I := fun o' => List.forall_mem_cons.mpr ⟨hnI (d, o2) (List.Mem.head _), fun p hp => hnI p (List.mem_cons_of_mem _ hp)⟩
              dsimp only at N2 ⊢
              repeat' ((fail_if_success (with_reducible show TurnEnd _ _ _ _ _ _ _ _ _)); (first | (k_unfold; (try dsimp only)) | (k_end; wrow_close) | walk1 | (dsimp only; walk1) | (leave1; walk_say "STEP leave1"; try dsimp only) | fail "no step"))
              · rename_i hj hs2 h9 o9 kvs9 F9 N9 hd9 hf9
                refine turn_next F9 (news_tail N9) (hnI' _) ⟨?_, o9, kvs9, rfl, hd9, ?_⟩
                · intro p hp
                  simp only [List.mem_cons, List.not_mem_nil, or_false] at hp
                  rcases hp with rfl | rfl | rfl <;> rfl
                · have e : seenS j site cc (e1, e2, e3, e4) = kdfPut cc e3 e4 := by unfold seenS; exact if_pos ⟨hj, hs2⟩
                  rw [e]; exact hf9
              · rename_i hj hs2
                refine turn_next F2 (news_tail N2) (hnI' _) ⟨?_, o2, kvs2, rfl, hd2, ?_⟩
                · intro p hp
                  simp only [List.mem_cons, List.not_mem_nil, or_false] at hp
                  rcases hp with rfl | rfl | rfl <;> rfl
                · have e : seenS j site cc (e1, e2, e3, e4) = cc := by unfold seenS; exact if_neg fun q => hs2 q.2
                  rw [e]; exact hf2
              · rename_i hj
                refine turn_next F2 (news_tail N2) (hnI' _) ⟨?_, o2, kvs2, rfl, hd2, ?_⟩
                · intro p hp
                  simp only [List.mem_cons, List.not_mem_nil, or_false] at hp
                  rcases hp with rfl | rfl | rfl <;> rfl
                · have e : seenS j site cc (e1, e2, e3, e4) = cc := by unfold seenS; exact if_neg fun q => hj q.1
                  rw [e]; exact hf2
  case done =>
    rintro m₁ nx h2 tk2 ⟨hm, o2, kvs2, rfl, hd2, hf2⟩ F2 N2
    replace F2 : Fr g' L' _ _ := F2
    replace N2 : News g' L' _ ((d, o2) :: (lp, listOf vs.toArray np) :: rest) := N2
    rw [kst_self hm] at F2
    have hvl : vs.length = past.length := by have := hP.length; simpa using this
    rw [hvl, List.take_length] at hf2
    dsimp only
    repeat' ((fail_if_success (with_reducible show wpAny _ _ (call (Value.builtin "sorted") _ _) _ _ _)); (first | (k_unfold; (try dsimp only)) | (k_end; wrow_close) | walk1 | (dsimp only; walk1) | (leave1; walk_say "STEP leave1"; try dsimp only) | fail "no step"))
    rename_i D3 h3 F3 N3 l3
    obtain ⟨l3a, l3b, l3c⟩ := l3
    obtain ⟨hnd, hrg⟩ := seenC_ok (j := j) (site := site) hnm
    have hkl : kvs2.length ≤ 1000 := by
      have h1 := hf2.length
      have h2 := seenC_len past j site
      rw [kdfD_length] at h1
      omega
    refine sorted_items rfl F3 N3 (List.Mem.head _) (List.Mem.tail _ (List.Mem.head _)) hd2 hf2 hrg hnd hkl ?_
    intro B4 vs4 e4 tl4 h4 tk4 F4 N4 D4 hb4
    k_steps
    rename News _ _ _ _ => N7
    rename Fr _ _ _ _ => F7
    refine hret B4 vs4 e4 tl4 _ _ F7 (fun q hq => N7 q ?_) D4 (fun q hq => ?_)
    · simp only [List.mem_cons, List.mem_append] at hq ⊢
      rcases hq with h | h | h | h
      · exact .inl h
      · exact .inr (.inr (.inr (.inr (.inl h))))
      · exact .inr (.inr (.inr (.inr (.inr h))))
      · exact .inr (.inl h)
    · refine newTo_cons (Nat.ne_of_lt (hb4 q hq _ (List.Mem.tail _ (List.Mem.tail _ (List.Mem.head _))))) fun p hp => Nat.ne_of_lt (hb4 q hq p (List.Mem.tail _ (List.Mem.tail _ (List.Mem.tail _ hp))))

end
end Mine

end
section
open PySem PySem.W PyProof.Rows PySem.Calls PyProof.V
set_option Elab.async false
set_option maxRecDepth 100000
set_option maxHeartbeats 8000000
set_option linter.unusedVariables false
namespace Mine


def lawDef : Stmt := (PySem.Challenge.pw_dn0255_02.main.body.getD 9 default)
def forBody : Stmt → List Stmt
  | .For _ _ b _ _ => b
  | _ => []
def turnBody : List Stmt := forBody ((defBody lawDef).getD 7 default)
def turnRest : List Stmt := turnBody.tail
theorem set_any {prog : Program} {w : World} {A : Around} {E : Value → Shared → Prop} {s : Shared} {h₀ : Heap} {L D : Addr} {m : Str → Option Value} {news news' : List (Addr × Obj)} {vs : List Value} {n : Nat} {k : Int} {t : Tok} {v : Value}
    {Q : Unit → Shared → Prop} (F : Fr h₀ L s.heap m) (N : News h₀ L s.heap news) (U : Upd D (listOf vs.toArray n) (listOf (vs.set k.toNat v).toArray n) news news') (h0 : 0 ≤ k) (h1 : k < vs.length) (hfit : k < 2 ^ 63)
    (h : ∀ h', Fr h₀ L h' m → News h₀ L h' news' → Q () { s with heap := h' }) : wpAny (model prog w) A (setItem (.ref D) (.int k t) v) Q E s := by
  obtain ⟨pre, post, rfl, rfl, a, b⟩ := U.split
  have z := N (D, listOf vs.toArray n) (List.mem_append.mpr (.inr (.head _)))
  refine ki_setAt z.1 h0 hfit (by rw [List.size_toArray]; exact h1) (h _ (F.change (Heap.SameBut.update ..) z.2.1 z.2.2) (ki_turn _ N a b ?_ ?_))
  · show vs.toArray.setIfInBounds k.toNat v = (vs.set k.toNat v).toArray
    apply Array.toList_inj.mp
    simp
  · simp
section
variable {w : World} {p : Program} {loose : List Str} {mean : ExcName → Option Value} {mg mb : Str → Option Value}
  {dp un : Nat} {gd : Option (List Code)} {cn : Str} {cs : Scope} {a : Addr} {ccd : Value} {cl : List (Str × Addr)} {outer : List Env} {A₀ : Around} {base h₀ : Heap} {L : Addr} {m : Str → Option Value} {s : Shared} {Q E : Value → Shared → Prop}

theorem turn_head {news : List (Addr × Obj)} {m₁ : Str → Option Value} {n : Int} {tn : Tok} {ls lj lp lw la : Nat} {Qf : Flow → Shared → Prop} {Ef : Value → Shared → Prop}
    (B : Below A₀ h₀ [] h₀) (F : Fr h₀ L s.heap (fun y => if y = Str.ofString "n" then some (.int n tn) else kstB m₁ [(Str.ofString "stores", Value.ref ls), (Str.ofString "jars", Value.ref lj), (Str.ofString "processors", Value.ref lp), (Str.ofString "which", Value.ref lw), (Str.ofString "past", Value.ref la)] y)) (T : Top p loose mean mg mb h₀) (hdp : dp + 8 < recursionLimit) (hun : un + 200 < cLine) (N : News h₀ L s.heap news)
    (hcont : ∀ (h' : Heap) (tk' : Nat) (t1 t2 t3 t4 : Tok), Fr h₀ L h' (fun y => if y = Str.ofString "m" then some (.int (n.fdiv 48) t4) else if y = Str.ofString "site" then some (.int ((n.fdiv 12).fmod 4) t3) else if y = Str.ofString "who" then some (.int ((n.fdiv 4).fmod 3) t2) else if y = Str.ofString "kind" then some (.int (n.fmod 4) t1) else if y = Str.ofString "n" then some (.int n tn) else kstB m₁ [(Str.ofString "stores", Value.ref ls), (Str.ofString "jars", Value.ref lj), (Str.ofString "processors", Value.ref lp), (Str.ofString "which", Value.ref lw), (Str.ofString "past", Value.ref la)] y) → News h₀ L h' news →
      wpAny (model PySem.Challenge.rw_dn0255_02.row.prog w) (ktrTop dp un gd (Str.ofString "law") (defScope lawDef) L a ccd [] []) (execs turnRest (envOf (Str.ofString "law") (defScope lawDef) L a ccd)) Qf Ef { s with heap := h', toks := tk' }) (X : (hd.heap_39 w.params).In h₀) :
    wpAny (model PySem.Challenge.rw_dn0255_02.row.prog w) (ktrTop dp un gd (Str.ofString "law") (defScope lawDef) L a ccd [] []) (execs turnBody (envOf (Str.ofString "law") (defScope lawDef) L a ccd)) Qf Ef s := by
  revert X; k_fill; intro X
  have hKst := kstMark

  simp only [turnRest, turnBody, forBody, defBody, defScope, lawDef, PySem.Challenge.pw_dn0255_02, List.getD_cons_zero, List.getD_cons_succ, List.tail_cons] at hcont ⊢
  repeat' ((fail_if_success (with_reducible show wpAny _ _ (execs (Stmt.Assign [Expr.Name (Str.ofString "processor") _] _ _ :: _) _) _ _ _)); (first | (k_unfold; (try dsimp only)) | (k_end; wrow_close) | walk1 | (dsimp only; walk1) | (leave1; walk_say "STEP leave1"; try dsimp only) | fail "no step"))
  rename News _ _ _ _ => N7
  rename Fr _ _ _ _ => F7
  exact hcont _ _ _ _ _ _ F7 (news_tail N7)

end
end Mine

end
section
open PySem PySem.W PyProof.Rows PySem.Calls PyProof.V
set_option Elab.async false
set_option maxRecDepth 100000
set_option maxHeartbeats 8000000
set_option linter.unusedVariables false
namespace Mine

section
variable {w : World} {p : Program} {loose : List Str} {mean : ExcName → Option Value} {mg mb : Str → Option Value}
  {dp un : Nat} {gd : Option (List Code)} {cn : Str} {cs : Scope} {a : Addr} {ccd : Value} {cl : List (Str × Addr)} {outer : List Env} {A₀ : Around} {base h₀ : Heap} {L : Addr} {m : Str → Option Value} {s : Shared} {Q E : Value → Shared → Prop}

local macro_rules | `(tactic| walk_at "subscriptTail") => `(tactic| (k_here; (with_reducible show wpAny _ _ (subscriptTail _ _ (Value.ref _) (Value.int _ _)) _ _ _); k_dflt (refine' item_litK ?k1 ?k2 ?k3 ?k4 ?_ ?k6; (case k1 => is_list); (case k2 => omega); (case k3 => omega); (case k4 => assumption); (case k6 => with_unfolding_all rfl); k_whole)))
local macro_rules | `(tactic| walk_at "setItem ref int") => `(tactic| (k_here; k_dflt (refine' set_any ?k1 ?k2 ?k3 ?k4 ?k5 ?k6 ?_; (case k1 => k_asm); (case k2 => k_asm); (case k3 => k_upd); (case k4 => omega); (case k5 => omega); (case k6 => omega); k_whole); intro h' F' N'; (try k_sweep)))

theorem turn2 {es : List DictEntry} {ne nj : Nat} {j0 j1 jb : Nat} {kd wh st mm : Int} {t1 t2 t3 t4 : Tok} {ws ps : List Value} {xw dw : Nat} {rest : List (Addr × Obj)} {m₁ : Str → Option Value} {n : Int} {tn : Tok} {ls lj lp lw la : Nat} {Qf : Flow → Shared → Prop} {Ef : Value → Shared → Prop}
    (B : Below A₀ h₀ [] h₀) (F : Fr h₀ L s.heap (fun y => if y = Str.ofString "m" then some (.int mm t4) else if y = Str.ofString "site" then some (.int st t3) else if y = Str.ofString "who" then some (.int wh t2) else if y = Str.ofString "kind" then some (.int kd t1) else if y = Str.ofString "n" then some (.int n tn) else kstB m₁ [(Str.ofString "stores", Value.ref ls), (Str.ofString "jars", Value.ref lj), (Str.ofString "processors", Value.ref lp), (Str.ofString "which", Value.ref lw), (Str.ofString "past", Value.ref la)] y)) (T : Top p loose mean mg mb h₀) (hdp : dp + 8 < recursionLimit) (hun : un + 200 < cLine)
    (hkd : kd = 2) (hw0 : 0 ≤ wh) (hw3 : wh < 3) (hs0 : 0 ≤ st) (hs4 : st < 4) (hps : ps.length = 3) (hws : ws.length = 3) (hpx : ps[wh.toNat]? = some (.ref xw)) (hjb : [Value.ref j0, Value.ref j1][(st.fmod 2).toNat]? = some (.ref jb)) (hes : (es = [] ∧ ne = 0) ∨ ∃ t v, es = [ent w "cookiejar" t v] ∧ ne = 1)
    (hne : lw ≠ lp ∧ lw ≠ lj ∧ lw ≠ xw ∧ lw ≠ dw ∧ dw ≠ lp ∧ dw ≠ lj ∧ dw ≠ xw) (hr1 : NewTo rest lw) (hr2 : NewTo rest dw)
    (N : News h₀ L s.heap ((lw, listOf ws.toArray 0) :: (lp, listOf ps.toArray 0) :: (lj, listOf #[.ref j0, .ref j1] nj) :: (xw, instObj 52 dw) :: (dw, dictOf es ne) :: rest))
    (hret : ∀ (h' : Heap) (tk' : Nat) (m' : Str → Option Value) (t t' : Tok), (∀ p ∈ [(Str.ofString "stores", Value.ref ls), (Str.ofString "jars", Value.ref lj), (Str.ofString "processors", Value.ref lp), (Str.ofString "which", Value.ref lw), (Str.ofString "past", Value.ref la)], m' p.1 = some p.2) → Fr h₀ L h' m' →
      News h₀ L h' ((lw, listOf (ws.set wh.toNat (.int (st.fmod 2) t)).toArray 0) :: (lp, listOf ps.toArray 0) :: (lj, listOf #[.ref j0, .ref j1] nj) :: (xw, instObj 52 dw) :: (dw, dictOf [ent w "cookiejar" t' (.ref jb)] 1) :: rest) →
      Qf .cont { s with heap := h', toks := tk' }) (X : (hd.heap_39 w.params).In h₀) :
    wpAny (model PySem.Challenge.rw_dn0255_02.row.prog w) (ktrTop dp un gd (Str.ofString "law") (defScope lawDef) L a ccd [] []) (execs turnRest (envOf (Str.ofString "law") (defScope lawDef) L a ccd)) Qf Ef s := by
  revert X; k_fill; intro X
  have hKst := kstMark
  simp only [turnRest, turnBody, forBody, defBody, defScope, lawDef, PySem.Challenge.pw_dn0255_02, List.getD_cons_zero, List.getD_cons_succ, List.tail_cons]

  obtain ⟨n1, n2, n3, n4, n5, n6, n7⟩ := hne
  have ho : OwnOff rest [lw, dw] := fun p hp b hb => by
    simp only [List.mem_cons, List.not_mem_nil, or_false] at hb
    rcases hb with rfl | rfl
    · exact hr1 p hp
    · exact hr2 p hp
  have hm2 := fdiv_fmod_facts st 2
  subst hkd
  rcases hes with ⟨rfl, rfl⟩ | ⟨te, ve, rfl, rfl⟩
  all_goals (
    repeat' ((fail_if_success (with_reducible show Qf _ _)); (first | (k_unfold; (try dsimp only)) | (k_end; wrow_close) | walk1 | (dsimp only; walk1) | (leave1; walk_say "STEP leave1"; try dsimp only) | fail "no step"))
    rename News _ _ _ _ => N7
    rename Fr _ _ _ _ => F7
    exact hret _ _ _ _ _ (by simp only [List.forall_mem_cons]; exact ⟨rfl, rfl, rfl, rfl, rfl, fun _ h => nomatch h⟩) F7 N7)

theorem turn3 {wv : Value} {kd wh st mm : Int} {t1 t2 t3 t4 : Tok} {ws ps : List Value} {xw dw : Nat} {rest : List (Addr × Obj)} {m₁ : Str → Option Value} {n : Int} {tn : Tok} {ls lj lp lw la : Nat} {Qf : Flow → Shared → Prop} {Ef : Value → Shared → Prop}
    (B : Below A₀ h₀ [] h₀) (F : Fr h₀ L s.heap (fun y => if y = Str.ofString "m" then some (.int mm t4) else if y = Str.ofString "site" then some (.int st t3) else if y = Str.ofString "who" then some (.int wh t2) else if y = Str.ofString "kind" then some (.int kd t1) else if y = Str.ofString "n" then some (.int n tn) else kstB m₁ [(Str.ofString "stores", Value.ref ls), (Str.ofString "jars", Value.ref lj), (Str.ofString "processors", Value.ref lp), (Str.ofString "which", Value.ref lw), (Str.ofString "past", Value.ref la)] y)) (T : Top p loose mean mg mb h₀) (hdp : dp + 8 < recursionLimit) (hun : un + 200 < cLine)
    (hkd : kd = 3) (hw0 : 0 ≤ wh) (hw3 : wh < 3) (hs0 : 0 ≤ st) (hs4 : st < 4) (hps : ps.length = 3) (hws : ws.length = 3) (hpx : ps[wh.toNat]? = some (.ref xw))
    (hne : lw ≠ lp) (hr1 : NewTo rest lw) (hr2 : NewTo rest lp)
    (N : News h₀ L s.heap ((lw, listOf ws.toArray 0) :: (lp, listOf ps.toArray 0) :: rest))
    (hret : ∀ (h' : Heap) (tk' : Nat) (m' : Str → Option Value) (x' d' : Nat), (∀ p ∈ [(Str.ofString "stores", Value.ref ls), (Str.ofString "jars", Value.ref lj), (Str.ofString "processors", Value.ref lp), (Str.ofString "which", Value.ref lw), (Str.ofString "past", Value.ref la)], m' p.1 = some p.2) → Fr h₀ L h' m' →
      News h₀ L h' ((x', instObj 52 d') :: (d', dictOf [] 0) :: (lw, listOf (ws.set wh.toNat .none).toArray 0) :: (lp, listOf (ps.set wh.toNat (.ref x')).toArray 0) :: rest) →
      (d' < x' ∧ AllLt d' ((lw, listOf ws.toArray 0) :: (lp, listOf ps.toArray 0) :: rest)) → Qf .cont { s with heap := h', toks := tk' }) (X : (hd.heap_39 w.params).In h₀) :
    wpAny (model PySem.Challenge.rw_dn0255_02.row.prog w) (ktrTop dp un gd (Str.ofString "law") (defScope lawDef) L a ccd [] []) (execs turnRest (envOf (Str.ofString "law") (defScope lawDef) L a ccd)) Qf Ef s := by
  revert X; k_fill; intro X
  have hKst := kstMark
  simp only [turnRest, turnBody, forBody, defBody, defScope, lawDef, PySem.Challenge.pw_dn0255_02, List.getD_cons_zero, List.getD_cons_succ, List.tail_cons]

  have ho : OwnOff rest [lw, lp] := fun p hp b hb => by
    simp only [List.mem_cons, List.not_mem_nil, or_false] at hb
    rcases hb with rfl | rfl
    · exact hr1 p hp
    · exact hr2 p hp
  subst hkd
  repeat' ((fail_if_success (with_reducible show Qf _ _)); (first | (k_unfold; (try dsimp only)) | (k_end; wrow_close) | walk1 | (dsimp only; walk1) | (leave1; walk_say "STEP leave1"; try dsimp only) | fail "no step"))
  rename News _ _ _ _ => N7
  rename Fr _ _ _ _ => F7
  rename (@LT.lt Nat _ lw _) ∧ _ => ha
  exact hret _ _ _ _ _ (by simp only [List.forall_mem_cons]; exact ⟨rfl, rfl, rfl, rfl, rfl, fun _ h => nomatch h⟩) F7 N7 ⟨by assumption, ha⟩

end
end Mine

end
section
open PySem PySem.W PyProof.Rows PySem.Calls PyProof.V
set_option Elab.async false
set_option maxRecDepth 100000
set_option maxHeartbeats 8000000
set_option linter.unusedVariables false
namespace Mine
local macro_rules | `(tactic| walk_at "mem_go") => `(tactic| first | (with_reducible exact List.mem_cons_self) | (with_reducible assumption) | (refine List.mem_cons_of_mem _ ?_; walk_at "mem_go") | (refine List.mem_append_left _ ?_; walk_at "mem_go") | (refine List.mem_append_right _ ?_; walk_at "mem_go"))
local macro_rules | `(tactic| walk_at "led_sub") => `(tactic| first | (refine List.forall_mem_cons.mpr ⟨by walk_at "mem_go", ?_⟩; walk_at "led_sub") | (intro q hq; first | walk_at "mem_go" | (exact nomatch hq)))


theorem news_sub {h₀ h : Heap} {L : Addr} {l l' : List (Addr × Obj)} (N : News h₀ L h l) (hs : ∀ q ∈ l', q ∈ l) : News h₀ L h l' := fun q hq => N q (hs q hq)
theorem hasattr_F {prog : Program} {w : World} {A : Around} {E : Value → Shared → Prop} {s : Shared} {h₀ : Heap} {L : Addr} {m : Str → Option Value} {news : List (Addr × Obj)} {K : Frag} {x C : Addr} {ox : Obj} {od : Option Obj} {name : Str}
    {Q : Value → Shared → Prop} {cd : ClassData} {tn : Tok} (F : Fr h₀ L s.heap m) (N : News h₀ L s.heap news) (X : K.In h₀) (I : W.InstAt s.heap x ox C od)
    (hga : findIn K (.ref C) "__getattribute__" = some (some (.builtin "object.__getattribute__"))) (hk : findIn K (.ref C) "__getattr__" = some none)
    (hf : findObj K C od name = some .missing) (hc : clsIn K C = some cd) (hmod : mroIn K C (.type "module") = some false) (hn : cd.name.cps.foldl (fun k c => k + (Str.utf8Of c).length) 0 ≤ 100) (hl : cd.name.toString.length ≤ 60) (hm : name.length ≤ 1000) (hh : A.handled = none)
    (h : ∀ h' tk, Fr h₀ L h' m → News h₀ L h' news → Q (.bool false) { s with heap := h', toks := tk }) : wpAny (model prog w) A (call (.builtin "hasattr") [.ref x, .str name tn]) Q E s :=
  hasattr_miss (X.keeps F.keep) I hga hk hf hc hmod hn hl hm hh fun h' tk k => h h' tk (F.keeps k) (N.keeps k)
section
variable {w : World} {p : Program} {loose : List Str} {mean : ExcName → Option Value} {mg mb : Str → Option Value}
  {dp un : Nat} {gd : Option (List Code)} {cn : Str} {cs : Scope} {a : Addr} {ccd : Value} {cl : List (Str × Addr)} {outer : List Env} {A₀ : Around} {base h₀ : Heap} {L : Addr} {m : Str → Option Value} {s : Shared} {Q E : Value → Shared → Prop}

local macro_rules | `(tactic| walk_at "subscriptTail") => `(tactic| (k_here; (with_reducible show wpAny _ _ (subscriptTail _ _ (Value.ref _) (Value.int _ _)) _ _ _); k_dflt (refine' item_litK ?k1 ?k2 ?k3 ?k4 ?_ ?k6; (case k1 => is_list); (case k2 => omega); (case k3 => omega); (case k4 => assumption); (case k6 => with_unfolding_all rfl); k_whole)))
local macro_rules | `(tactic| walk_at "setItem ref int") => `(tactic| (k_here; k_dflt (refine' set_any ?k1 ?k2 ?k3 ?k4 ?k5 ?k6 ?_; (case k1 => k_asm); (case k2 => k_asm); (case k3 => k_upd); (case k4 => omega); (case k5 => omega); (case k6 => omega); k_whole); intro h' F' N'; (try k_sweep)))

theorem turnN {kd wh st mm : Int} {t1 t2 t3 t4 : Tok} {ws ps : List Value} {xw dw : Nat} {rest : List (Addr × Obj)} {m₁ : Str → Option Value} {n : Int} {tn : Tok} {ls lj lp lw la : Nat} {Qf : Flow → Shared → Prop} {Ef : Value → Shared → Prop}
    (B : Below A₀ h₀ [] h₀) (F : Fr h₀ L s.heap (fun y => if y = Str.ofString "m" then some (.int mm t4) else if y = Str.ofString "site" then some (.int st t3) else if y = Str.ofString "who" then some (.int wh t2) else if y = Str.ofString "kind" then some (.int kd t1) else if y = Str.ofString "n" then some (.int n tn) else kstB m₁ [(Str.ofString "stores", Value.ref ls), (Str.ofString "jars", Value.ref lj), (Str.ofString "processors", Value.ref lp), (Str.ofString "which", Value.ref lw), (Str.ofString "past", Value.ref la)] y)) (T : Top p loose mean mg mb h₀) (hdp : dp + 8 < recursionLimit) (hun : un + 200 < cLine)
    (hkd : kd = 0 ∨ kd = 1) (hw0 : 0 ≤ wh) (hw3 : wh < 3) (hs0 : 0 ≤ st) (hs4 : st < 4) (hps : ps.length = 3) (hws : ws.length = 3) (hpx : ps[wh.toNat]? = some (.ref xw)) (hwv : ws[wh.toNat]? = some .none)
    (N : News h₀ L s.heap ((lw, listOf ws.toArray 0) :: (lp, listOf ps.toArray 0) :: (xw, instObj 52 dw) :: (dw, dictOf [] 0) :: rest))
    (hret : ∀ (h' : Heap) (tk' : Nat) (m' : Str → Option Value), (∀ p ∈ [(Str.ofString "stores", Value.ref ls), (Str.ofString "jars", Value.ref lj), (Str.ofString "processors", Value.ref lp), (Str.ofString "which", Value.ref lw), (Str.ofString "past", Value.ref la)], m' p.1 = some p.2) → Fr h₀ L h' m' →
      News h₀ L h' ((lw, listOf ws.toArray 0) :: (lp, listOf ps.toArray 0) :: (xw, instObj 52 dw) :: (dw, dictOf [] 0) :: rest) →
      Qf .next { s with heap := h', toks := tk' }) (X : (hd.heap_39 w.params).In h₀) :
    wpAny (model PySem.Challenge.rw_dn0255_02.row.prog w) (ktrTop dp un gd (Str.ofString "law") (defScope lawDef) L a ccd [] []) (execs turnRest (envOf (Str.ofString "law") (defScope lawDef) L a ccd)) Qf Ef s := by
  revert X; k_fill; intro X
  have hKst := kstMark
  simp only [turnRest, turnBody, forBody, defBody, defScope, lawDef, PySem.Challenge.pw_dn0255_02, List.getD_cons_zero, List.getD_cons_succ, List.tail_cons]

  rcases hkd with rfl | rfl
  · repeat' ((fail_if_success (with_reducible show wpAny _ _ (call (Value.ref 111) _ _) _ _ _)); (first | (k_unfold; (try dsimp only)) | (k_end; wrow_close) | walk1 | (dsimp only; walk1) | (leave1; walk_say "STEP leave1"; try dsimp only) | fail "no step"))
    (k_dflt (refine' send_attr ?kB_QA1 ?kF_QA1 ?kT_QA1 ?kh_QA1 ?rd_QA1 ?ru_QA1 ?kN_QA1 ?rr_QA1 ?kX_QA1; (case kh_QA1 => rfl); (case kF_QA1 => k_asm); (case kB_QA1 => k_asm); (case kT_QA1 => k_asm); (case kX_QA1 => k_asm); (case kN_QA1 => exact news_swap [_, _, _, _, _, _] [_, _] (by k_asm)); (case rd_QA1 => ktr_room); (case ru_QA1 => ktr_units)))
    intro R tg h2 tk2 F2 N2 hR
    simp only [List.append_eq, List.cons_append, List.nil_append] at N2
    repeat' ((fail_if_success (with_reducible show wpAny _ _ (call (Value.builtin "hasattr") _ _) _ _ _)); (first | (k_unfold; (try dsimp only)) | (k_end; wrow_close) | walk1 | (dsimp only; walk1) | (leave1; walk_say "STEP leave1"; try dsimp only) | fail "no step"))
    (k_dflt (refine' hasattr_F ?k1_QA2 ?k2_QA2 ?k3_QA2 ?k4_QA2 ?k5_QA2 ?k6_QA2 ?k7_QA2 ?k8_QA2 ?k9_QA2 ?k0_QA2 ?kB_QA2 ?kF_QA2 ?kT_QA2 ?rr_QA2; (case k1_QA2 => k_asm); (case k2_QA2 => k_asm); (case k3_QA2 => k_asm); (case k4_QA2 => k_inst); (case k5_QA2 => k_is); (case k6_QA2 => k_is); (case k7_QA2 => rfl); (case k8_QA2 => k_is); (case k9_QA2 => k_is); (case k0_QA2 => decide); (case kB_QA2 => decide); (case kF_QA2 => decide); (case kT_QA2 => rfl)))
    intro h3 tk3 F3 N3
    repeat' ((fail_if_success (with_reducible show wpAny _ _ (call (Value.ref 118) _ _) _ _ _)); (first | (k_unfold; (try dsimp only)) | (k_end; wrow_close) | walk1 | (dsimp only; walk1) | (leave1; walk_say "STEP leave1"; try dsimp only) | fail "no step"))
    (k_dflt (refine' take_attr ?kB_QA3 ?kF_QA3 ?kT_QA3 ?kh_QA3 ?rd_QA3 ?ru_QA3 ?kN_QA3 ?rr_QA3 ?kX_QA3; (case kh_QA3 => rfl); (case kF_QA3 => k_asm); (case kB_QA3 => k_asm); (case kT_QA3 => k_asm); (case kX_QA3 => k_asm); (case kN_QA3 => exact news_swap [_] [_, _] (by k_asm)); (case rd_QA3 => ktr_room); (case ru_QA3 => ktr_units)))
    intro R2 tg2 h4 tk4 F4 N4 hR2
    simp only [List.append_eq, List.cons_append, List.nil_append] at N4
    repeat' ((fail_if_success (with_reducible show Qf _ _)); (first | (k_unfold; (try dsimp only)) | (k_end; wrow_close) | walk1 | (dsimp only; walk1) | (leave1; walk_say "STEP leave1"; try dsimp only) | fail "no step"))
    rename News _ _ _ _ => N7
    rename Fr _ _ _ _ => F7
    exact hret _ _ _ (by simp only [List.forall_mem_cons]; exact ⟨rfl, rfl, rfl, rfl, rfl, fun _ h => nomatch h⟩) F7 (news_sub N7 (by walk_at "led_sub"))
  · repeat' ((fail_if_success (with_reducible show wpAny _ _ (call (Value.ref 111) _ _) _ _ _)); (first | (k_unfold; (try dsimp only)) | (k_end; wrow_close) | walk1 | (dsimp only; walk1) | (leave1; walk_say "STEP leave1"; try dsimp only) | fail "no step"))
    (k_dflt (refine' send_attr ?kB_QB21 ?kF_QB21 ?kT_QB21 ?kh_QB21 ?rd_QB21 ?ru_QB21 ?kN_QB21 ?rr_QB21 ?kX_QB21; (case kh_QB21 => rfl); (case kF_QB21 => k_asm); (case kB_QB21 => k_asm); (case kT_QB21 => k_asm); (case kX_QB21 => k_asm); (case kN_QB21 => exact news_swap [_, _, _, _, _, _] [_, _] (by k_asm)); (case rd_QB21 => ktr_room); (case ru_QB21 => ktr_units)))
    intro R tg h2 tk2 F2 N2 hR
    simp only [List.append_eq, List.cons_append, List.nil_append] at N2
    repeat' ((fail_if_success (with_reducible show wpAny _ _ (call (Value.builtin "hasattr") _ _) _ _ _)); (first | (k_unfold; (try dsimp only)) | (k_end; wrow_close) | walk1 | (dsimp only; walk1) | (leave1; walk_say "STEP leave1"; try dsimp only) | fail "no step"))
    (k_dflt (refine' hasattr_F ?k1_QB22 ?k2_QB22 ?k3_QB22 ?k4_QB22 ?k5_QB22 ?k6_QB22 ?k7_QB22 ?k8_QB22 ?k9_QB22 ?k0_QB22 ?kB_QB22 ?kF_QB22 ?kT_QB22 ?rr_QB22; (case k1_QB22 => k_asm); (case k2_QB22 => k_asm); (case k3_QB22 => k_asm); (case k4_QB22 => k_inst); (case k5_QB22 => k_is); (case k6_QB22 => k_is); (case k7_QB22 => rfl); (case k8_QB22 => k_is); (case k9_QB22 => k_is); (case k0_QB22 => decide); (case kB_QB22 => decide); (case kF_QB22 => decide); (case kT_QB22 => rfl)))
    intro h3 tk3 F3 N3
    repeat' ((fail_if_success (with_reducible show wpAny _ _ (call (Value.ref 118) _ _) _ _ _)); (first | (k_unfold; (try dsimp only)) | (k_end; wrow_close) | walk1 | (dsimp only; walk1) | (leave1; walk_say "STEP leave1"; try dsimp only) | fail "no step"))
    (k_dflt (refine' take_attr ?kB_QB23 ?kF_QB23 ?kT_QB23 ?kh_QB23 ?rd_QB23 ?ru_QB23 ?kN_QB23 ?rr_QB23 ?kX_QB23; (case kh_QB23 => rfl); (case kF_QB23 => k_asm); (case kB_QB23 => k_asm); (case kT_QB23 => k_asm); (case kX_QB23 => k_asm); (case kN_QB23 => exact news_swap [_] [_, _] (by k_asm)); (case rd_QB23 => ktr_room); (case ru_QB23 => ktr_units)))
    intro R2 tg2 h4 tk4 F4 N4 hR2
    simp only [List.append_eq, List.cons_append, List.nil_append] at N4
    repeat' ((fail_if_success (with_reducible show Qf _ _)); (first | (k_unfold; (try dsimp only)) | (k_end; wrow_close) | walk1 | (dsimp only; walk1) | (leave1; walk_say "STEP leave1"; try dsimp only) | fail "no step"))
    rename News _ _ _ _ => N7
    rename Fr _ _ _ _ => F7
    exact hret _ _ _ (by simp only [List.forall_mem_cons]; exact ⟨rfl, rfl, rfl, rfl, rfl, fun _ h => nomatch h⟩) F7 (news_sub N7 (by walk_at "led_sub"))

end
end Mine

end
section
open PySem PySem.W PyProof.Rows PySem.Calls PyProof.V
set_option Elab.async false
set_option maxRecDepth 100000
set_option maxHeartbeats 8000000
set_option linter.unusedVariables false
namespace Mine


def exRest : List Stmt := turnRest.drop 8
def exTail : List Stmt := turnRest.drop 10
theorem fr_self {h₀ h : Heap} {L : Addr} {m : Str → Option Value} (ps : List (Str × Value)) (hp : ∀ p ∈ ps, m p.1 = some p.2) (F : Fr h₀ L h m) : Fr h₀ L h (kstB m ps) := by
  rw [← kst_self hp]; exact F
section
variable {w : World} {p : Program} {loose : List Str} {mean : ExcName → Option Value} {mg mb : Str → Option Value}
  {dp un : Nat} {gd : Option (List Code)} {cn : Str} {cs : Scope} {a : Addr} {ccd : Value} {cl : List (Str × Addr)} {outer : List Env} {A₀ : Around} {base h₀ : Heap} {L : Addr} {m : Str → Option Value} {s : Shared} {Q E : Value → Shared → Prop}

local macro_rules | `(tactic| walk_at "subscriptTail") => `(tactic| (k_here; (with_reducible show wpAny _ _ (subscriptTail _ _ (Value.ref _) (Value.int _ _)) _ _ _); k_dflt (refine' item_litK ?k1 ?k2 ?k3 ?k4 ?_ ?k6; (case k1 => is_list); (case k2 => omega); (case k3 => omega); (case k4 => assumption); (case k6 => with_unfolding_all rfl); k_whole)))
local macro_rules | `(tactic| walk_at "setItem ref int") => `(tactic| (k_here; k_dflt (refine' set_any ?k1 ?k2 ?k3 ?k4 ?k5 ?k6 ?_; (case k1 => k_asm); (case k2 => k_asm); (case k3 => k_upd); (case k4 => omega); (case k5 => omega); (case k6 => omega); k_whole); intro h' F' N'; (try k_sweep)))

theorem ex_head {kd wh st mm : Int} {t1 t2 t3 t4 : Tok} {ws ps : List Value} {xw dw : Nat} {rest : List (Addr × Obj)} {m₁ : Str → Option Value} {n : Int} {tn : Tok} {ls lj lp lw la : Nat} {Qf : Flow → Shared → Prop} {Ef : Value → Shared → Prop}
    (B : Below A₀ h₀ [] h₀) (F : Fr h₀ L s.heap (fun y => if y = Str.ofString "m" then some (.int mm t4) else if y = Str.ofString "site" then some (.int st t3) else if y = Str.ofString "who" then some (.int wh t2) else if y = Str.ofString "kind" then some (.int kd t1) else if y = Str.ofString "n" then some (.int n tn) else kstB m₁ [(Str.ofString "stores", Value.ref ls), (Str.ofString "jars", Value.ref lj), (Str.ofString "processors", Value.ref lp), (Str.ofString "which", Value.ref lw), (Str.ofString "past", Value.ref la)] y)) (T : Top p loose mean mg mb h₀) (hdp : dp + 8 < recursionLimit) (hun : un + 200 < cLine)
    (hkd : kd = 0 ∨ kd = 1) (hw0 : 0 ≤ wh) (hw3 : wh < 3) (hs0 : 0 ≤ st) (hs4 : st < 4) (hps : ps.length = 3) (hws : ws.length = 3) (hpx : ps[wh.toNat]? = some (.ref xw))
    (N : News h₀ L s.heap ((lp, listOf ps.toArray 0) :: rest))
    (hcont : ∀ (x dx y dy : Nat) (h' : Heap) (tk' : Nat) (m' : Str → Option Value) (ta tb tc td te : Tok), Fr h₀ L h' (kstB m' [(Str.ofString "processor", Value.ref xw), (Str.ofString "request", Value.ref x), (Str.ofString "answer", Value.ref y), (Str.ofString "kind", Value.int kd t1), (Str.ofString "who", Value.int wh t2), (Str.ofString "site", Value.int st t3), (Str.ofString "m", Value.int mm t4), (Str.ofString "stores", Value.ref ls), (Str.ofString "jars", Value.ref lj), (Str.ofString "processors", Value.ref lp), (Str.ofString "which", Value.ref lw), (Str.ofString "past", Value.ref la)]) →
      News h₀ L h' ((y, instObj 52 dy) :: (dy, dictOf [ent w "name" ta (.int (mm.fmod 4) tb), ent w "value" tc (.int (mm.fdiv 4) td)] 2) :: (x, instObj 52 dx) :: (dx, dictOf [ent w "site" te (.int st t3)] 1) :: (lp, listOf ps.toArray 0) :: rest) →
      (dx < x ∧ x < dy ∧ dy < y ∧ AllLt dx ((lp, listOf ps.toArray 0) :: rest)) →
      wpAny (model PySem.Challenge.rw_dn0255_02.row.prog w) (ktrTop dp un gd (Str.ofString "law") (defScope lawDef) L a ccd [] []) (execs exRest (envOf (Str.ofString "law") (defScope lawDef) L a ccd)) Qf Ef { s with heap := h', toks := tk' }) (X : (hd.heap_39 w.params).In h₀) :
    wpAny (model PySem.Challenge.rw_dn0255_02.row.prog w) (ktrTop dp un gd (Str.ofString "law") (defScope lawDef) L a ccd [] []) (execs turnRest (envOf (Str.ofString "law") (defScope lawDef) L a ccd)) Qf Ef s := by
  revert X; k_fill; intro X
  have hKst := kstMark
  simp only [exTail, exRest, turnRest, turnBody, forBody, defBody, defScope, lawDef, PySem.Challenge.pw_dn0255_02, List.getD_cons_zero, List.getD_cons_succ, List.tail_cons, List.drop_succ_cons, List.drop_zero] at hcont ⊢
  rcases hkd with rfl | rfl
  all_goals (
    repeat' ((fail_if_success (with_reducible show wpAny _ _ (execs (Stmt.Assign [Expr.Tuple _ _ _] _ _ :: _) _) _ _ _)); (first | (k_unfold; (try dsimp only)) | (k_end; wrow_close) | walk1 | (dsimp only; walk1) | (leave1; walk_say "STEP leave1"; try dsimp only) | fail "no step"))
    rename News _ _ _ _ => N7
    rename Fr _ _ _ _ => F7
    rename (@LT.lt Nat _ lp _) ∧ _ => ha
    rename (@LT.lt Nat _ _ _) ∧ _ => hb
    exact hcont _ _ _ _ _ _ _ _ _ _ _ _ (fr_self _ (by simp only [List.forall_mem_cons]; exact ⟨rfl, rfl, rfl, rfl, rfl, rfl, rfl, rfl, rfl, rfl, rfl, rfl, fun _ h => nomatch h⟩) F7) N7 ⟨by assumption, hb.1, by assumption, ha⟩)

end
end Mine

end
section
open PySem PySem.W PyProof.Rows PySem.Calls PyProof.V
set_option Elab.async false
set_option maxRecDepth 100000
set_option maxHeartbeats 8000000
set_option linter.unusedVariables false
namespace Mine
local macro_rules | `(tactic| walk_at "mem_go") => `(tactic| first | (with_reducible exact List.mem_cons_self) | (with_reducible assumption) | (refine List.mem_cons_of_mem _ ?_; walk_at "mem_go") | (refine List.mem_append_left _ ?_; walk_at "mem_go") | (refine List.mem_append_right _ ?_; walk_at "mem_go"))
local macro_rules | `(tactic| walk_at "led_sub") => `(tactic| first | (refine List.forall_mem_cons.mpr ⟨by walk_at "mem_go", ?_⟩; walk_at "led_sub") | (intro q hq; first | walk_at "mem_go" | (exact nomatch hq)))

section
variable {w : World} {p : Program} {loose : List Str} {mean : ExcName → Option Value} {mg mb : Str → Option Value}
  {dp un : Nat} {gd : Option (List Code)} {cn : Str} {cs : Scope} {a : Addr} {ccd : Value} {cl : List (Str × Addr)} {outer : List Env} {A₀ : Around} {base h₀ : Heap} {L : Addr} {m : Str → Option Value} {s : Shared} {Q E : Value → Shared → Prop}

local macro_rules | `(tactic| walk_at "subscriptTail") => `(tactic| (k_here; (with_reducible show wpAny _ _ (subscriptTail _ _ (Value.ref _) (Value.int _ _)) _ _ _); k_dflt (refine' item_litK ?k1 ?k2 ?k3 ?k4 ?_ ?k6; (case k1 => is_list); (case k2 => omega); (case k3 => omega); (case k4 => assumption); (case k6 => with_unfolding_all rfl); k_whole)))
local macro_rules | `(tactic| walk_at "setItem ref int") => `(tactic| (k_here; k_dflt (refine' set_any ?k1 ?k2 ?k3 ?k4 ?k5 ?k6 ?_; (case k1 => k_asm); (case k2 => k_asm); (case k3 => k_upd); (case k4 => omega); (case k5 => omega); (case k6 => omega); k_whole); intro h' F' N'; (try k_sweep)))

theorem ex_tail {x dx y dy : Nat} {esr : List DictEntry} {nr : Nat} {j dj f fe ca ce c d : Nat} {oca oce oc od : Obj} {vsa vse : Array Value} {tqa tqe tj ta te tb y1 y2 y3 y4 y5 : Tok} {qa qe : Str} {doa doe pma pme cta cte : Value} {b : Int} {cst : List (Int × Int)} {kvs : List (Int × Value)} {vs : List Value} {na : Nat} {kd wh st mm : Int} {t1 t2 t3 t4 : Tok} {ws ps : List Value} {xw dw : Nat} {rest : List (Addr × Obj)} {m₁ : Str → Option Value} {ls lj lp lw la : Nat} {Qf : Flow → Shared → Prop} {Ef : Value → Shared → Prop}
    (B : Below A₀ h₀ [] h₀) (F : Fr h₀ L s.heap (kstB m₁ [(Str.ofString "processor", Value.ref xw), (Str.ofString "request", Value.ref x), (Str.ofString "answer", Value.ref y), (Str.ofString "kind", Value.int kd t1), (Str.ofString "who", Value.int wh t2), (Str.ofString "site", Value.int st t3), (Str.ofString "m", Value.int mm t4), (Str.ofString "stores", Value.ref ls), (Str.ofString "jars", Value.ref lj), (Str.ofString "processors", Value.ref lp), (Str.ofString "which", Value.ref lw), (Str.ofString "past", Value.ref la)])) (T : Top p loose mean mg mb h₀) (hdp : dp + 8 < recursionLimit) (hun : un + 200 < cLine)
    (hw0 : 0 ≤ wh) (hw3 : wh < 3) (hs0 : 0 ≤ st) (hs4 : st < 4) (hps : ps.length = 3) (hws : ws.length = 3) (hpx : ps[wh.toNat]? = some (.ref xw))(hwv : ws[wh.toNat]? = some (.int b tb)) (hca : oca.data = .fields vsa) (hqa : vsa[1]? = some (.str qa tqa)) (hce : oce.data = .fields vse) (hqe : vse[1]? = some (.str qe tqe)) (hoc : oc.data = .cell (some (.ref d)))
    (hod : od.IsDictOf (intKind (PySem.Challenge.rw_dn0255_02.row.prog) w) kvs) (hkv : FlatPairs PyData.int kvs (kdfD cst)) (hlo : (d == sysModules) = false) (hlen : cst.length ≤ 1000) (hvl : vs.length ≤ 64) 
    (hesr : esr = [] ∨ ∃ tc v, esr = [ent w "cookies" tc v])
    (hdA : NewTo ((y, instObj 52 dy) :: (dy, dictOf [ent w "name" y1 (.int (mm.fmod 4) y2), ent w "value" y3 (.int (mm.fdiv 4) y4)] 2) :: (x, instObj 52 dx) :: (dx, dictOf (ent w "site" y5 (.int st t3) :: esr) nr) :: (la, listOf vs.toArray na) :: (lw, listOf ws.toArray 0) :: (lp, listOf ps.toArray 0) :: (xw, instObj 52 dw) :: (dw, dictOf [ent w "cookiejar" tj (.ref j)] 1) :: (j, instObj 52 dj) :: (dj, dictOf [ent w "add_cookie_header" ta (.ref f), ent w "extract_cookies" te (.ref fe)] 2) :: (f, addFn qa c doa pma ca cta) :: (ca, oca) :: (fe, extFn qe c doe pme ce cte) :: (ce, oce) :: (c, oc) :: rest) d) (hlaA : NewTo ((y, instObj 52 dy) :: (dy, dictOf [ent w "name" y1 (.int (mm.fmod 4) y2), ent w "value" y3 (.int (mm.fdiv 4) y4)] 2) :: (x, instObj 52 dx) :: (dx, dictOf (ent w "site" y5 (.int st t3) :: esr) nr) :: (lw, listOf ws.toArray 0) :: (lp, listOf ps.toArray 0) :: (xw, instObj 52 dw) :: (dw, dictOf [ent w "cookiejar" tj (.ref j)] 1) :: (j, instObj 52 dj) :: (dj, dictOf [ent w "add_cookie_header" ta (.ref f), ent w "extract_cookies" te (.ref fe)] 2) :: (f, addFn qa c doa pma ca cta) :: (ca, oca) :: (fe, extFn qe c doe pme ce cte) :: (ce, oce) :: (c, oc) :: (d, od) :: rest) la)
    (N : News h₀ L s.heap ((y, instObj 52 dy) :: (dy, dictOf [ent w "name" y1 (.int (mm.fmod 4) y2), ent w "value" y3 (.int (mm.fdiv 4) y4)] 2) :: (x, instObj 52 dx) :: (dx, dictOf (ent w "site" y5 (.int st t3) :: esr) nr) :: (la, listOf vs.toArray na) :: (lw, listOf ws.toArray 0) :: (lp, listOf ps.toArray 0) :: (xw, instObj 52 dw) :: (dw, dictOf [ent w "cookiejar" tj (.ref j)] 1) :: (j, instObj 52 dj) :: (dj, dictOf [ent w "add_cookie_header" ta (.ref f), ent w "extract_cookies" te (.ref fe)] 2) :: (f, addFn qa c doa pma ca cta) :: (ca, oca) :: (fe, extFn qe c doe pme ce cte) :: (ce, oce) :: (c, oc) :: (d, od) :: rest))
    (hret : ∀ (T na' : Nat) (od' : Obj) (kvs' : List (Int × Value)) (h' : Heap) (tk' : Nat) (m' : Str → Option Value) (z2 z3 : Tok), (∀ p ∈ [(Str.ofString "stores", Value.ref ls), (Str.ofString "jars", Value.ref lj), (Str.ofString "processors", Value.ref lp), (Str.ofString "which", Value.ref lw), (Str.ofString "past", Value.ref la)], m' p.1 = some p.2) → Fr h₀ L h' m' →
      News h₀ L h' ((T, { cls := .type "tuple", data := .seq #[.int b tb, .int st t3, .int (mm.fmod 4) z2, .int (mm.fdiv 4) z3] }) :: (la, listOf (vs ++ [Value.ref T] : List Value).toArray na') :: (lw, listOf ws.toArray 0) :: (lp, listOf ps.toArray 0) :: (xw, instObj 52 dw) :: (dw, dictOf [ent w "cookiejar" tj (.ref j)] 1) :: (j, instObj 52 dj) :: (dj, dictOf [ent w "add_cookie_header" ta (.ref f), ent w "extract_cookies" te (.ref fe)] 2) :: (f, addFn qa c doa pma ca cta) :: (ca, oca) :: (fe, extFn qe c doe pme ce cte) :: (ce, oce) :: (c, oc) :: (d, od') :: rest) →
      od'.IsDictOf (intKind (PySem.Challenge.rw_dn0255_02.row.prog) w) kvs' → FlatPairs PyData.int kvs' (kdfD (kdfPut cst (4 * st + mm.fmod 4) (mm.fdiv 4))) →
      NewTo ((la, listOf vs.toArray na) :: (lw, listOf ws.toArray 0) :: (lp, listOf ps.toArray 0) :: (xw, instObj 52 dw) :: (dw, dictOf [ent w "cookiejar" tj (.ref j)] 1) :: (j, instObj 52 dj) :: (dj, dictOf [ent w "add_cookie_header" ta (.ref f), ent w "extract_cookies" te (.ref fe)] 2) :: (f, addFn qa c doa pma ca cta) :: (ca, oca) :: (fe, extFn qe c doe pme ce cte) :: (ce, oce) :: (c, oc) :: (d, od) :: rest) T → Qf .next { s with heap := h', toks := tk' }) (X : (hd.heap_39 w.params).In h₀) :
    wpAny (model PySem.Challenge.rw_dn0255_02.row.prog w) (ktrTop dp un gd (Str.ofString "law") (defScope lawDef) L a ccd [] []) (execs exTail (envOf (Str.ofString "law") (defScope lawDef) L a ccd)) Qf Ef s := by
  revert X; k_fill; intro X
  have hKst := kstMark
  simp only [exTail, exRest, turnRest, turnBody, forBody, defBody, defScope, lawDef, PySem.Challenge.pw_dn0255_02, List.getD_cons_zero, List.getD_cons_succ, List.tail_cons, List.drop_succ_cons, List.drop_zero]
  have ho : OwnOff rest [la] := fun p hp b hb => by
    rw [List.mem_singleton.mp hb]
    exact hlaA p (by walk_at "mem_go")
  simp only [NewTo, List.forall_mem_cons] at hdA hlaA
  obtain ⟨y1', y2', x1', x2', la', lw', lp', xw', dw', j', dj', f', ca', fe', ce', c', hdR⟩ := hdA
  obtain ⟨b1, b2, b3, b4, a1, a2, a3, a4, a5, a6, a7, a8, a9, a10, a11, a12, hlR⟩ := hlaA
  repeat' ((fail_if_success (with_reducible show wpAny _ _ (call (Value.ref 118) _ _) _ _ _)); (first | (k_unfold; (try dsimp only)) | (k_end; wrow_close) | walk1 | (dsimp only; walk1) | (leave1; walk_say "STEP leave1"; try dsimp only) | fail "no step"))
  (k_dflt (refine' take_ok (esr := esr) (rest := (la, listOf vs.toArray na) :: (lw, listOf ws.toArray 0) :: (lp, listOf ps.toArray 0) :: (f, addFn qa c doa pma ca cta) :: (ca, oca) :: rest) (site := st) (nm := mm.fmod 4) (vl := mm.fdiv 4) ?kB_QA4 ?kF_QA4 ?kT_QA4 ?kh_QA4 ?rd_QA4 ?ru_QA4 hce hqe hoc hod hkv hlo hlen hesr ?k1_QA4 ?k2_QA4 ?kN_QA4 ?rr_QA4 ?kX_QA4; (case kh_QA4 => rfl); (case kF_QA4 => k_asm); (case kB_QA4 => k_asm); (case kT_QA4 => k_asm); (case kX_QA4 => k_asm); (case kN_QA4 => exact news_sub (by k_asm) (by walk_at "led_sub")); (case rd_QA4 => ktr_room); (case ru_QA4 => ktr_units)))
  (case k1_QA4 => exact newTo_cons la' (newTo_cons lw' (newTo_cons lp' (newTo_cons f' (newTo_cons ca' hdR)))))
  (case k2_QA4 => exact ⟨fe', ce', c', x1', x2', y1', y2', xw', dw', j', dj'⟩)
  intro R od' kvs' tg h2 tk2 F2 N2 hod' hkv' hR
  simp only [NewTo, List.forall_mem_cons] at hR
  obtain ⟨r1, r2, r3, r4, r5, r6, r7, r8, r9, r10, r11, r12, r13, r14, r15, r16, r17, hRr⟩ := hR
  have hsz : vs.toArray.size ≤ sizeLine := by simp [sizeLine]; omega
  repeat' ((fail_if_success (with_reducible show wpAny _ _ (call (Value.builtin "list.append") _ _) _ _ _)); (first | (k_unfold; (try dsimp only)) | (k_end; wrow_close) | walk1 | (dsimp only; walk1) | (leave1; walk_say "STEP leave1"; try dsimp only) | fail "no step"))
  rename (@LT.lt Nat _ R _) ∧ _ => hal
  (k_dflt (refine' append_K ?k1_QA5 ?k2_QA5 ?k3_QA5 ?rr_QA5 ?kZ_QA5; (case k1_QA5 => k_asm); (case k2_QA5 => k_asm); (case k3_QA5 => k_upd); (case kZ_QA5 => exact hsz)))
  intro h3 F3 N3
  rw [List.push_toArray] at N3
  repeat' ((fail_if_success (with_reducible show Qf _ _)); (first | (k_unfold; (try dsimp only)) | (k_end; wrow_close) | walk1 | (dsimp only; walk1) | (leave1; walk_say "STEP leave1"; try dsimp only) | fail "no step"))
  rename News _ _ _ _ => N7
  rename Fr _ _ _ _ => F7
  obtain ⟨_, g1, g2, g3, g4, g5, g6, g7, g8, g9, g10, g11, g12, g13, g14, g15, g16, g17, g18⟩ := hal
  exact hret _ _ _ _ _ _ _ _ _ (by simp only [List.forall_mem_cons]; exact ⟨rfl, rfl, rfl, rfl, rfl, fun _ h => nomatch h⟩) F7 (news_sub N7 (by walk_at "led_sub")) hod' hkv' (newTo_lt ⟨g13, g14, g15, g1, g2, g3, g4, g16, g17, g5, g6, g7, g8, g18⟩)

end
end Mine

end
section
open PySem PySem.W PyProof.Rows PySem.Calls PyProof.V
set_option Elab.async false
set_option maxRecDepth 100000
set_option maxHeartbeats 8000000
set_option linter.unusedVariables false
namespace Mine
local macro_rules | `(tactic| walk_at "mem_go") => `(tactic| first | (with_reducible exact List.mem_cons_self) | (with_reducible assumption) | (refine List.mem_cons_of_mem _ ?_; walk_at "mem_go") | (refine List.mem_append_left _ ?_; walk_at "mem_go") | (refine List.mem_append_right _ ?_; walk_at "mem_go"))
local macro_rules | `(tactic| walk_at "led_sub") => `(tactic| first | (refine List.forall_mem_cons.mpr ⟨by walk_at "mem_go", ?_⟩; walk_at "led_sub") | (intro q hq; first | walk_at "mem_go" | (exact nomatch hq)))

section
variable {w : World} {p : Program} {loose : List Str} {mean : ExcName → Option Value} {mg mb : Str → Option Value}
  {dp un : Nat} {gd : Option (List Code)} {cn : Str} {cs : Scope} {a : Addr} {ccd : Value} {cl : List (Str × Addr)} {outer : List Env} {A₀ : Around} {base h₀ : Heap} {L : Addr} {m : Str → Option Value} {s : Shared} {Q E : Value → Shared → Prop}

local macro_rules | `(tactic| walk_at "subscriptTail") => `(tactic| (k_here; (with_reducible show wpAny _ _ (subscriptTail _ _ (Value.ref _) (Value.int _ _)) _ _ _); k_dflt (refine' item_litK ?k1 ?k2 ?k3 ?k4 ?_ ?k6; (case k1 => is_list); (case k2 => omega); (case k3 => omega); (case k4 => assumption); (case k6 => with_unfolding_all rfl); k_whole)))
local macro_rules | `(tactic| walk_at "setItem ref int") => `(tactic| (k_here; k_dflt (refine' set_any ?k1 ?k2 ?k3 ?k4 ?k5 ?k6 ?_; (case k1 => k_asm); (case k2 => k_asm); (case k3 => k_upd); (case k4 => omega); (case k5 => omega); (case k6 => omega); k_whole); intro h' F' N'; (try k_sweep)))

theorem ex_val {x dx y dy : Nat} {j dj f fe ca ce c d : Nat} {oca oce oc od : Obj} {vsa vse : Array Value} {tqa tqe tj ta te tb y1 y2 y3 y4 y5 : Tok} {qa qe : Str} {doa doe pma pme cta cte : Value} {b : Int} {cst : List (Int × Int)} {kvs : List (Int × Value)} {vs : List Value} {na : Nat} {kd wh st mm : Int} {t1 t2 t3 t4 : Tok} {ws ps : List Value} {xw dw : Nat} {rest : List (Addr × Obj)} {m₁ : Str → Option Value} {ls lj lp lw la : Nat} {Qf : Flow → Shared → Prop} {Ef : Value → Shared → Prop}
    (B : Below A₀ h₀ [] h₀) (F : Fr h₀ L s.heap (kstB m₁ [(Str.ofString "processor", Value.ref xw), (Str.ofString "request", Value.ref x), (Str.ofString "answer", Value.ref y), (Str.ofString "kind", Value.int kd t1), (Str.ofString "who", Value.int wh t2), (Str.ofString "site", Value.int st t3), (Str.ofString "m", Value.int mm t4), (Str.ofString "stores", Value.ref ls), (Str.ofString "jars", Value.ref lj), (Str.ofString "processors", Value.ref lp), (Str.ofString "which", Value.ref lw), (Str.ofString "past", Value.ref la)])) (T : Top p loose mean mg mb h₀) (hdp : dp + 8 < recursionLimit) (hun : un + 200 < cLine)
    (hst : st = 3) (hw0 : 0 ≤ wh) (hw3 : wh < 3) (hs0 : 0 ≤ st) (hs4 : st < 4) (hps : ps.length = 3) (hws : ws.length = 3) (hpx : ps[wh.toNat]? = some (.ref xw))(hwv : ws[wh.toNat]? = some (.int b tb)) (hca : oca.data = .fields vsa) (hqa : vsa[1]? = some (.str qa tqa)) (hce : oce.data = .fields vse) (hqe : vse[1]? = some (.str qe tqe)) (hoc : oc.data = .cell (some (.ref d)))
    (hod : od.IsDictOf (intKind (PySem.Challenge.rw_dn0255_02.row.prog) w) kvs) (hkv : FlatPairs PyData.int kvs (kdfD cst)) (hlo : (d == sysModules) = false) (hlen : cst.length ≤ 1000) (hvl : vs.length ≤ 64) 
    (hdA : NewTo ((y, instObj 52 dy) :: (dy, dictOf [ent w "name" y1 (.int (mm.fmod 4) y2), ent w "value" y3 (.int (mm.fdiv 4) y4)] 2) :: (x, instObj 52 dx) :: (dx, dictOf (ent w "site" y5 (.int st t3) :: []) 1) :: (la, listOf vs.toArray na) :: (lw, listOf ws.toArray 0) :: (lp, listOf ps.toArray 0) :: (xw, instObj 52 dw) :: (dw, dictOf [ent w "cookiejar" tj (.ref j)] 1) :: (j, instObj 52 dj) :: (dj, dictOf [ent w "add_cookie_header" ta (.ref f), ent w "extract_cookies" te (.ref fe)] 2) :: (f, addFn qa c doa pma ca cta) :: (ca, oca) :: (fe, extFn qe c doe pme ce cte) :: (ce, oce) :: (c, oc) :: rest) d) (hlaA : NewTo ((y, instObj 52 dy) :: (dy, dictOf [ent w "name" y1 (.int (mm.fmod 4) y2), ent w "value" y3 (.int (mm.fdiv 4) y4)] 2) :: (x, instObj 52 dx) :: (dx, dictOf (ent w "site" y5 (.int st t3) :: []) 1) :: (lw, listOf ws.toArray 0) :: (lp, listOf ps.toArray 0) :: (xw, instObj 52 dw) :: (dw, dictOf [ent w "cookiejar" tj (.ref j)] 1) :: (j, instObj 52 dj) :: (dj, dictOf [ent w "add_cookie_header" ta (.ref f), ent w "extract_cookies" te (.ref fe)] 2) :: (f, addFn qa c doa pma ca cta) :: (ca, oca) :: (fe, extFn qe c doe pme ce cte) :: (ce, oce) :: (c, oc) :: (d, od) :: rest) la)
    (N : News h₀ L s.heap ((y, instObj 52 dy) :: (dy, dictOf [ent w "name" y1 (.int (mm.fmod 4) y2), ent w "value" y3 (.int (mm.fdiv 4) y4)] 2) :: (x, instObj 52 dx) :: (dx, dictOf (ent w "site" y5 (.int st t3) :: []) 1) :: (la, listOf vs.toArray na) :: (lw, listOf ws.toArray 0) :: (lp, listOf ps.toArray 0) :: (xw, instObj 52 dw) :: (dw, dictOf [ent w "cookiejar" tj (.ref j)] 1) :: (j, instObj 52 dj) :: (dj, dictOf [ent w "add_cookie_header" ta (.ref f), ent w "extract_cookies" te (.ref fe)] 2) :: (f, addFn qa c doa pma ca cta) :: (ca, oca) :: (fe, extFn qe c doe pme ce cte) :: (ce, oce) :: (c, oc) :: (d, od) :: rest))
    (hret : ∀ (T na' : Nat) (od' : Obj) (kvs' : List (Int × Value)) (h' : Heap) (tk' : Nat) (m' : Str → Option Value) (z2 z3 : Tok), (∀ p ∈ [(Str.ofString "stores", Value.ref ls), (Str.ofString "jars", Value.ref lj), (Str.ofString "processors", Value.ref lp), (Str.ofString "which", Value.ref lw), (Str.ofString "past", Value.ref la)], m' p.1 = some p.2) → Fr h₀ L h' m' →
      News h₀ L h' ((T, { cls := .type "tuple", data := .seq #[.int b tb, .int st t3, .int (mm.fmod 4) z2, .int (mm.fdiv 4) z3] }) :: (la, listOf (vs ++ [Value.ref T] : List Value).toArray na') :: (lw, listOf ws.toArray 0) :: (lp, listOf ps.toArray 0) :: (xw, instObj 52 dw) :: (dw, dictOf [ent w "cookiejar" tj (.ref j)] 1) :: (j, instObj 52 dj) :: (dj, dictOf [ent w "add_cookie_header" ta (.ref f), ent w "extract_cookies" te (.ref fe)] 2) :: (f, addFn qa c doa pma ca cta) :: (ca, oca) :: (fe, extFn qe c doe pme ce cte) :: (ce, oce) :: (c, oc) :: (d, od') :: rest) →
      od'.IsDictOf (intKind (PySem.Challenge.rw_dn0255_02.row.prog) w) kvs' → FlatPairs PyData.int kvs' (kdfD (kdfPut cst (4 * st + mm.fmod 4) (mm.fdiv 4))) →
      NewTo ((la, listOf vs.toArray na) :: (lw, listOf ws.toArray 0) :: (lp, listOf ps.toArray 0) :: (xw, instObj 52 dw) :: (dw, dictOf [ent w "cookiejar" tj (.ref j)] 1) :: (j, instObj 52 dj) :: (dj, dictOf [ent w "add_cookie_header" ta (.ref f), ent w "extract_cookies" te (.ref fe)] 2) :: (f, addFn qa c doa pma ca cta) :: (ca, oca) :: (fe, extFn qe c doe pme ce cte) :: (ce, oce) :: (c, oc) :: (d, od) :: rest) T → Qf .next { s with heap := h', toks := tk' }) (X : (hd.heap_39 w.params).In h₀) :
    wpAny (model PySem.Challenge.rw_dn0255_02.row.prog w) (ktrTop dp un gd (Str.ofString "law") (defScope lawDef) L a ccd [] []) (execs exRest (envOf (Str.ofString "law") (defScope lawDef) L a ccd)) Qf Ef s := by
  revert X; k_fill; intro X
  have hKst := kstMark
  rw [show exRest = exRest.getD 0 default :: exRest.getD 1 default :: exTail from rfl]
  simp only [exRest, turnRest, turnBody, forBody, defBody, defScope, lawDef, PySem.Challenge.pw_dn0255_02, List.getD_cons_zero, List.getD_cons_succ, List.tail_cons, List.drop_succ_cons, List.drop_zero]
  subst hst
  repeat' ((fail_if_success (with_reducible show wpAny _ _ (call (Value.ref 111) _ _) _ _ _)); (first | (k_unfold; (try dsimp only)) | (k_end; wrow_close) | walk1 | (dsimp only; walk1) | (leave1; walk_say "STEP leave1"; try dsimp only) | fail "no step"))
  (k_dflt (refine' send_val (rest := (y, instObj 52 dy) :: (dy, dictOf [ent w "name" y1 (.int (mm.fmod 4) y2), ent w "value" y3 (.int (mm.fdiv 4) y4)] 2) :: (la, listOf vs.toArray na) :: (lw, listOf ws.toArray 0) :: (lp, listOf ps.toArray 0) :: (fe, extFn qe c doe pme ce cte) :: (ce, oce) :: (c, oc) :: (d, od) :: rest) ?kB_QA6 ?kF_QA6 ?kT_QA6 ?kh_QA6 ?rd_QA6 ?ru_QA6 hca hqa ?kN_QA6 ?rr_QA6 ?kX_QA6; (case kh_QA6 => rfl); (case kF_QA6 => k_asm); (case kB_QA6 => k_asm); (case kT_QA6 => k_asm); (case kX_QA6 => k_asm); (case kN_QA6 => exact news_sub (by k_asm) (by walk_at "led_sub")); (case rd_QA6 => ktr_room); (case ru_QA6 => ktr_units)))
  intro R tg h2 tk2 F2 N2 hR
  repeat' ((fail_if_success (with_reducible show wpAny _ _ (call (Value.builtin "hasattr") _ _) _ _ _)); (first | (k_unfold; (try dsimp only)) | (k_end; wrow_close) | walk1 | (dsimp only; walk1) | (leave1; walk_say "STEP leave1"; try dsimp only) | fail "no step"))
  (k_dflt (refine' hasattr_F ?k1_QA7 ?k2_QA7 ?k3_QA7 ?k4_QA7 ?k5_QA7 ?k6_QA7 ?k7_QA7 ?k8_QA7 ?k9_QA7 ?k0_QA7 ?kB_QA7 ?kF_QA7 ?kT_QA7 ?rr_QA7; (case k1_QA7 => k_asm); (case k2_QA7 => k_asm); (case k3_QA7 => k_asm); (case k4_QA7 => k_inst); (case k5_QA7 => k_is); (case k6_QA7 => k_is); (case k7_QA7 => rfl); (case k8_QA7 => k_is); (case k9_QA7 => k_is); (case k0_QA7 => decide); (case kB_QA7 => decide); (case kF_QA7 => decide); (case kT_QA7 => rfl)))
  intro h3 tk3 F3 N3
  repeat' ((fail_if_success (with_reducible show wpAny _ _ (execs exTail _) _ _ _)); (first | (k_unfold; (try dsimp only)) | (k_end; wrow_close) | walk1 | (dsimp only; walk1) | (leave1; walk_say "STEP leave1"; try dsimp only) | fail "no step"))
  rename News _ _ _ _ => N7
  rename Fr _ _ _ _ => F7
  (refine' ex_tail (esr := []) (nr := 1) (od := od) (rest := rest) B ?kF_QA8 T hdp hun hw0 hw3 hs0 hs4 hps hws hpx hwv hca hqa hce hqe hoc hod hkv hlo hlen hvl ?k1_QA8 hdA hlaA ?kN_QA8 hret X)
  (case kF_QA8 => exact fr_self _ (by simp only [List.forall_mem_cons]; exact ⟨rfl, rfl, rfl, rfl, rfl, rfl, rfl, rfl, rfl, rfl, rfl, rfl, fun _ h => nomatch h⟩) F7)
  (case kN_QA8 => exact news_sub N7 (by walk_at "led_sub"))
  (case k1_QA8 => exact .inl rfl)

end
end Mine

end
section
open PySem PySem.W PyProof.Rows PySem.Calls PyProof.V
set_option Elab.async false
set_option maxRecDepth 100000
set_option maxHeartbeats 8000000
set_option linter.unusedVariables false
namespace Mine
local macro_rules | `(tactic| walk_at "mem_go") => `(tactic| first | (with_reducible exact List.mem_cons_self) | (with_reducible assumption) | (refine List.mem_cons_of_mem _ ?_; walk_at "mem_go") | (refine List.mem_append_left _ ?_; walk_at "mem_go") | (refine List.mem_append_right _ ?_; walk_at "mem_go"))
local macro_rules | `(tactic| walk_at "led_sub") => `(tactic| first | (refine List.forall_mem_cons.mpr ⟨by walk_at "mem_go", ?_⟩; walk_at "led_sub") | (intro q hq; first | walk_at "mem_go" | (exact nomatch hq)))

section
variable {w : World} {p : Program} {loose : List Str} {mean : ExcName → Option Value} {mg mb : Str → Option Value}
  {dp un : Nat} {gd : Option (List Code)} {cn : Str} {cs : Scope} {a : Addr} {ccd : Value} {cl : List (Str × Addr)} {outer : List Env} {A₀ : Around} {base h₀ : Heap} {L : Addr} {m : Str → Option Value} {s : Shared} {Q E : Value → Shared → Prop}

local macro_rules | `(tactic| walk_at "subscriptTail") => `(tactic| (k_here; (with_reducible show wpAny _ _ (subscriptTail _ _ (Value.ref _) (Value.int _ _)) _ _ _); k_dflt (refine' item_litK ?k1 ?k2 ?k3 ?k4 ?_ ?k6; (case k1 => is_list); (case k2 => omega); (case k3 => omega); (case k4 => assumption); (case k6 => with_unfolding_all rfl); k_whole)))
local macro_rules | `(tactic| walk_at "setItem ref int") => `(tactic| (k_here; k_dflt (refine' set_any ?k1 ?k2 ?k3 ?k4 ?k5 ?k6 ?_; (case k1 => k_asm); (case k2 => k_asm); (case k3 => k_upd); (case k4 => omega); (case k5 => omega); (case k6 => omega); k_whole); intro h' F' N'; (try k_sweep)))

theorem ex_ok {x dx y dy : Nat} {past : List Ent} {j dj f fe ca ce c d : Nat} {oca oce oc od : Obj} {vsa vse : Array Value} {tqa tqe tj ta te tb y1 y2 y3 y4 y5 : Tok} {qa qe : Str} {doa doe pma pme cta cte : Value} {b : Int} {cst : List (Int × Int)} {kvs : List (Int × Value)} {vs : List Value} {na : Nat} {kd wh st mm : Int} {t1 t2 t3 t4 : Tok} {ws ps : List Value} {xw dw : Nat} {rest : List (Addr × Obj)} {m₁ : Str → Option Value} {ls lj lp lw la : Nat} {Qf : Flow → Shared → Prop} {Ef : Value → Shared → Prop}
    (B : Below A₀ h₀ [] h₀) (F : Fr h₀ L s.heap (kstB m₁ [(Str.ofString "processor", Value.ref xw), (Str.ofString "request", Value.ref x), (Str.ofString "answer", Value.ref y), (Str.ofString "kind", Value.int kd t1), (Str.ofString "who", Value.int wh t2), (Str.ofString "site", Value.int st t3), (Str.ofString "m", Value.int mm t4), (Str.ofString "stores", Value.ref ls), (Str.ofString "jars", Value.ref lj), (Str.ofString "processors", Value.ref lp), (Str.ofString "which", Value.ref lw), (Str.ofString "past", Value.ref la)])) (T : Top p loose mean mg mb h₀) (hdp : dp + 8 < recursionLimit) (hun : un + 200 < cLine)
    (hst : st < 3) (hP : DatAll rest vs (past.map entD)) (hpl : past.length ≤ 64) (hnm : ∀ e ∈ past, 0 ≤ e.2.2.1 ∧ e.2.2.1 < 4) (hlaw : ckP cst st 4 = canon (seenC past b st)) (hw0 : 0 ≤ wh) (hw3 : wh < 3) (hs0 : 0 ≤ st) (hs4 : st < 4) (hps : ps.length = 3) (hws : ws.length = 3) (hpx : ps[wh.toNat]? = some (.ref xw))(hwv : ws[wh.toNat]? = some (.int b tb)) (hca : oca.data = .fields vsa) (hqa : vsa[1]? = some (.str qa tqa)) (hce : oce.data = .fields vse) (hqe : vse[1]? = some (.str qe tqe)) (hoc : oc.data = .cell (some (.ref d)))
    (hod : od.IsDictOf (intKind (PySem.Challenge.rw_dn0255_02.row.prog) w) kvs) (hkv : FlatPairs PyData.int kvs (kdfD cst)) (hlo : (d == sysModules) = false) (hlen : cst.length ≤ 1000) (hvl : vs.length ≤ 64) 
    (hdA : NewTo ((y, instObj 52 dy) :: (dy, dictOf [ent w "name" y1 (.int (mm.fmod 4) y2), ent w "value" y3 (.int (mm.fdiv 4) y4)] 2) :: (x, instObj 52 dx) :: (dx, dictOf (ent w "site" y5 (.int st t3) :: []) 1) :: (la, listOf vs.toArray na) :: (lw, listOf ws.toArray 0) :: (lp, listOf ps.toArray 0) :: (xw, instObj 52 dw) :: (dw, dictOf [ent w "cookiejar" tj (.ref j)] 1) :: (j, instObj 52 dj) :: (dj, dictOf [ent w "add_cookie_header" ta (.ref f), ent w "extract_cookies" te (.ref fe)] 2) :: (f, addFn qa c doa pma ca cta) :: (ca, oca) :: (fe, extFn qe c doe pme ce cte) :: (ce, oce) :: (c, oc) :: rest) d) (hlaA : NewTo ((y, instObj 52 dy) :: (dy, dictOf [ent w "name" y1 (.int (mm.fmod 4) y2), ent w "value" y3 (.int (mm.fdiv 4) y4)] 2) :: (x, instObj 52 dx) :: (dx, dictOf (ent w "site" y5 (.int st t3) :: []) 1) :: (lw, listOf ws.toArray 0) :: (lp, listOf ps.toArray 0) :: (xw, instObj 52 dw) :: (dw, dictOf [ent w "cookiejar" tj (.ref j)] 1) :: (j, instObj 52 dj) :: (dj, dictOf [ent w "add_cookie_header" ta (.ref f), ent w "extract_cookies" te (.ref fe)] 2) :: (f, addFn qa c doa pma ca cta) :: (ca, oca) :: (fe, extFn qe c doe pme ce cte) :: (ce, oce) :: (c, oc) :: (d, od) :: rest) la)
    (hxA : NewTo ((y, instObj 52 dy) :: (dy, dictOf [ent w "name" y1 (.int (mm.fmod 4) y2), ent w "value" y3 (.int (mm.fdiv 4) y4)] 2) :: (x, instObj 52 dx) :: (la, listOf vs.toArray na) :: (lw, listOf ws.toArray 0) :: (lp, listOf ps.toArray 0) :: (xw, instObj 52 dw) :: (dw, dictOf [ent w "cookiejar" tj (.ref j)] 1) :: (j, instObj 52 dj) :: (dj, dictOf [ent w "add_cookie_header" ta (.ref f), ent w "extract_cookies" te (.ref fe)] 2) :: (f, addFn qa c doa pma ca cta) :: (ca, oca) :: (fe, extFn qe c doe pme ce cte) :: (ce, oce) :: (c, oc) :: (d, od) :: rest) dx)
    (N : News h₀ L s.heap ((y, instObj 52 dy) :: (dy, dictOf [ent w "name" y1 (.int (mm.fmod 4) y2), ent w "value" y3 (.int (mm.fdiv 4) y4)] 2) :: (x, instObj 52 dx) :: (dx, dictOf (ent w "site" y5 (.int st t3) :: []) 1) :: (la, listOf vs.toArray na) :: (lw, listOf ws.toArray 0) :: (lp, listOf ps.toArray 0) :: (xw, instObj 52 dw) :: (dw, dictOf [ent w "cookiejar" tj (.ref j)] 1) :: (j, instObj 52 dj) :: (dj, dictOf [ent w "add_cookie_header" ta (.ref f), ent w "extract_cookies" te (.ref fe)] 2) :: (f, addFn qa c doa pma ca cta) :: (ca, oca) :: (fe, extFn qe c doe pme ce cte) :: (ce, oce) :: (c, oc) :: (d, od) :: rest))
    (hret : ∀ (T na' : Nat) (od' : Obj) (kvs' : List (Int × Value)) (h' : Heap) (tk' : Nat) (m' : Str → Option Value) (z2 z3 : Tok), (∀ p ∈ [(Str.ofString "stores", Value.ref ls), (Str.ofString "jars", Value.ref lj), (Str.ofString "processors", Value.ref lp), (Str.ofString "which", Value.ref lw), (Str.ofString "past", Value.ref la)], m' p.1 = some p.2) → Fr h₀ L h' m' →
      News h₀ L h' ((T, { cls := .type "tuple", data := .seq #[.int b tb, .int st t3, .int (mm.fmod 4) z2, .int (mm.fdiv 4) z3] }) :: (la, listOf (vs ++ [Value.ref T] : List Value).toArray na') :: (lw, listOf ws.toArray 0) :: (lp, listOf ps.toArray 0) :: (xw, instObj 52 dw) :: (dw, dictOf [ent w "cookiejar" tj (.ref j)] 1) :: (j, instObj 52 dj) :: (dj, dictOf [ent w "add_cookie_header" ta (.ref f), ent w "extract_cookies" te (.ref fe)] 2) :: (f, addFn qa c doa pma ca cta) :: (ca, oca) :: (fe, extFn qe c doe pme ce cte) :: (ce, oce) :: (c, oc) :: (d, od') :: rest) →
      od'.IsDictOf (intKind (PySem.Challenge.rw_dn0255_02.row.prog) w) kvs' → FlatPairs PyData.int kvs' (kdfD (kdfPut cst (4 * st + mm.fmod 4) (mm.fdiv 4))) →
      NewTo ((la, listOf vs.toArray na) :: (lw, listOf ws.toArray 0) :: (lp, listOf ps.toArray 0) :: (xw, instObj 52 dw) :: (dw, dictOf [ent w "cookiejar" tj (.ref j)] 1) :: (j, instObj 52 dj) :: (dj, dictOf [ent w "add_cookie_header" ta (.ref f), ent w "extract_cookies" te (.ref fe)] 2) :: (f, addFn qa c doa pma ca cta) :: (ca, oca) :: (fe, extFn qe c doe pme ce cte) :: (ce, oce) :: (c, oc) :: (d, od) :: rest) T → Qf .next { s with heap := h', toks := tk' }) (X : (hd.heap_39 w.params).In h₀) :
    wpAny (model PySem.Challenge.rw_dn0255_02.row.prog w) (ktrTop dp un gd (Str.ofString "law") (defScope lawDef) L a ccd [] []) (execs exRest (envOf (Str.ofString "law") (defScope lawDef) L a ccd)) Qf Ef s := by
  revert X; k_fill; intro X
  have hKst := kstMark
  rw [show exRest = exRest.getD 0 default :: exRest.getD 1 default :: exTail from rfl]
  simp only [exRest, turnRest, turnBody, forBody, defBody, defScope, lawDef, PySem.Challenge.pw_dn0255_02, List.getD_cons_zero, List.getD_cons_succ, List.tail_cons, List.drop_succ_cons, List.drop_zero]
  simp only [NewTo, List.forall_mem_cons] at hxA
  obtain ⟨x1, x2, x3, x4, x5, x6, x7, x8, x9, x10, x11, x12, x13, x14, x15, x16, hxR⟩ := hxA
  repeat' ((fail_if_success (with_reducible show wpAny _ _ (call (Value.ref 111) _ _) _ _ _)); (first | (k_unfold; (try dsimp only)) | (k_end; wrow_close) | walk1 | (dsimp only; walk1) | (leave1; walk_say "STEP leave1"; try dsimp only) | fail "no step"))
  (k_dflt (refine' send_ok (rest := (y, instObj 52 dy) :: (dy, dictOf [ent w "name" y1 (.int (mm.fmod 4) y2), ent w "value" y3 (.int (mm.fdiv 4) y4)] 2) :: (la, listOf vs.toArray na) :: (lw, listOf ws.toArray 0) :: (lp, listOf ps.toArray 0) :: (fe, extFn qe c doe pme ce cte) :: (ce, oce) :: rest) ?kB_QA9 ?kF_QA9 ?kT_QA9 ?kh_QA9 ?rd_QA9 ?ru_QA9 hca hqa hoc hod hkv hlo ⟨hs0, hst⟩ ?k1_QA9 ?k2_QA9 ?kN_QA9 ?rr_QA9 ?kX_QA9; (case kh_QA9 => rfl); (case kF_QA9 => k_asm); (case kB_QA9 => k_asm); (case kT_QA9 => k_asm); (case kX_QA9 => k_asm); (case kN_QA9 => exact news_sub (by k_asm) (by walk_at "led_sub")); (case rd_QA9 => ktr_room); (case ru_QA9 => ktr_units)))
  (case k1_QA9 => exact newTo_cons x1 (newTo_cons x2 (newTo_cons x4 (newTo_cons x5 (newTo_cons x6 (newTo_cons x13 (newTo_cons x14 hxR)))))))
  (case k2_QA9 => exact ⟨x11, x12, x15, x16, x3, x7, x8, x9, x10⟩)

  intro D R ys tl tc tg h2 tk2 F2 N2 hdat hnew
  simp only [List.append_eq, List.cons_append, List.nil_append] at N2
  have hne3 : st ≠ 3 := by omega
  repeat' ((fail_if_success (with_reducible show wpAny _ _ (call (Value.ref 104) _ _) _ _ _)); (first | (k_unfold; (try dsimp only)) | (k_end; wrow_close) | walk1 | (dsimp only; walk1) | (leave1; walk_say "STEP leave1"; try dsimp only) | fail "no step"))
  all_goals (try (exfalso; omega))
  (k_dflt (refine' shown_c (past := past) ?kB_QA10 ?kF_QA10 ?kT_QA10 ?kh_QA10 ?rd_QA10 ?ru_QA10 ?k1_QA10 ?k2_QA10 ?k3_QA10 ?kN_QA10 ?rr_QA10 ?kX_QA10; (case kh_QA10 => rfl); (case kF_QA10 => k_asm); (case kB_QA10 => k_asm); (case kT_QA10 => k_asm); (case kX_QA10 => k_asm); (case kN_QA10 => exact news_swap [_, _, _, _, _, _, _, _, _, _, _, _, _, _] [_] (by k_asm)); (case rd_QA10 => ktr_room); (case ru_QA10 => ktr_units)))
  (case k1_QA10 => exact DatAll.mono (by intro q hq; walk_at "mem_go") hP)
  (case k2_QA10 => exact hpl)
  (case k3_QA10 => exact hnm)

  intro R2 ys2 e2 tl2 h3 tk3 F3 N3 hdat2 hnew2
  simp only [List.append_eq, List.cons_append, List.nil_append] at N3
  repeat' ((fail_if_success (with_reducible show wpAny _ _ (compareOp CmpOp.NotEq (Value.ref D) _) _ _ _)); (first | (k_unfold; (try dsimp only)) | (k_end; wrow_close) | walk1 | (dsimp only; walk1) | (leave1; walk_say "STEP leave1"; try dsimp only) | fail "no step"))
  refine kqd_ne (oa := LCg.lst ys) (ob := listOf ys2.toArray e2) N3 (by walk_at "mem_go") rfl rfl hdat (by intro q hq; walk_at "mem_go") (by walk_at "mem_go") rfl rfl hdat2 (by intro q hq; walk_at "mem_go") (by intro d hd; obtain ⟨p, _, rfl⟩ := List.mem_map.mp hd; rfl) (by intro d hd; obtain ⟨p, _, rfl⟩ := List.mem_map.mp hd; rfl) (by ktr_units) ?_
  have hf : ∀ {p : Prop} (inst : Decidable p), p → (!@decide p inst) = false := fun inst h => by rw [@decide_eq_true _ inst h]; rfl
  rw [hlaw, hf _ rfl]
  repeat' ((fail_if_success (with_reducible show wpAny _ _ (execs exTail _) _ _ _)); (first | (k_unfold; (try dsimp only)) | (k_end; wrow_close) | walk1 | (dsimp only; walk1) | (leave1; walk_say "STEP leave1"; try dsimp only) | fail "no step"))
  rename News _ _ _ _ => N7
  rename Fr _ _ _ _ => F7
  (refine' ex_tail (esr := [ent w "cookies" tc (.ref D)]) (nr := 2) (od := od) (rest := rest) B ?kF_QA11 T hdp hun hw0 hw3 hs0 hs4 hps hws hpx hwv hca hqa hce hqe hoc hod hkv hlo hlen hvl ?k1_QA11 ?k2_QA11 ?k3_QA11 ?kN_QA11 hret X)
  (case kF_QA11 => exact fr_self _ (by simp only [List.forall_mem_cons]; exact ⟨rfl, rfl, rfl, rfl, rfl, rfl, rfl, rfl, rfl, rfl, rfl, rfl, fun _ h => nomatch h⟩) F7)
  (case kN_QA11 => exact news_sub N7 (by walk_at "led_sub"))
  (case k1_QA11 => exact .inr ⟨_, _, rfl⟩)
  (case k2_QA11 => simp only [NewTo, List.forall_mem_cons] at hdA ⊢; exact hdA)
  (case k3_QA11 => simp only [NewTo, List.forall_mem_cons] at hlaA ⊢; exact hlaA)

end
end Mine

end
section
open PySem PySem.W PyProof.Rows PySem.Calls PyProof.V
set_option Elab.async false
namespace Mine
theorem has_put (c : List (Int × Int)) (k v j : Int) : kdfHas (kdfPut c k v) j = (decide (j = k) || kdfHas c j) := kdyHas_put c k j v
theorem look_put (c : List (Int × Int)) (k v j : Int) : kdfLook (kdfPut c k v) j 0 = if j = k then v else kdfLook c j 0 := by
  unfold kdfLook kdfPut
  split
  · rename_i h
    induction c with
    | nil => simp at h
    | cons p c ih =>
      simp only [List.map_cons, List.find?_cons]
      by_cases e : p.1 = k
      · simp only [e, decide_true, if_true]
        by_cases e2 : k = j
        · subst e2; simp
        · have e3 : ¬ j = k := fun q => e2 q.symm
          simp only [e2, e3, decide_false, if_false]
          clear ih h
          induction c with
          | nil => rfl
          | cons q c ih =>
            simp only [List.map_cons, List.find?_cons]
            by_cases f : q.1 = k
            · simp only [f, decide_true, if_true, e2, decide_false]; exact ih
            · simp only [f, decide_false, Bool.false_eq_true, if_false]
              by_cases g : q.1 = j
              · simp [g]
              · simp only [g, decide_false]; exact ih
      · simp only [e, decide_false, Bool.false_eq_true, if_false]
        have h' : (c.any fun p => decide (p.1 = k)) = true := by simpa [List.any_cons, e] using h
        by_cases g : p.1 = j
        · have : ¬ j = k := fun q => e (g.trans q)
          simp [g, this]
        · simp only [g, decide_false]; exact ih h'
  · rename_i h
    rw [List.find?_append]
    by_cases e : j = k
    · subst e
      have : c.find? (fun p => decide (p.1 = j)) = none := by
        rw [List.find?_eq_none]
        intro x hx hh
        exact h (List.any_eq_true.mpr ⟨x, hx, hh⟩)
      simp [this]
    · have e' : ¬ k = j := fun q => e q.symm
      simp [e, e']

def storeS (j : Int) (c : List (Int × Int)) (e : Ent) : List (Int × Int) := if e.1 = j then kdfPut c (4 * e.2.1 + e.2.2.1) e.2.2.2 else c
def storeC (past : List Ent) (j : Int) : List (Int × Int) := past.foldl (storeS j) []
theorem storeC_snoc (past : List Ent) (e : Ent) (j : Int) : storeC (past ++ [e]) j = storeS j (storeC past j) e := by simp [storeC]
theorem storeC_len (past : List Ent) (j : Int) : (storeC past j).length ≤ past.length := by
  have key : ∀ (l : List Ent) (c : List (Int × Int)), (l.foldl (storeS j) c).length ≤ c.length + l.length := by
    intro l
    induction l with
    | nil => intro c; simp
    | cons e l ih =>
      intro c
      have h1 := ih (storeS j c e)
      have h2 : (storeS j c e).length ≤ c.length + 1 := by
        unfold storeS
        split
        · exact kdfPut_len _ _ _
        · omega
      simp only [List.foldl_cons, List.length_cons]
      omega
  simpa [storeC] using key past []
theorem storeC_nodup (past : List Ent) (j : Int) : ((storeC past j).map (·.1)).Nodup := by
  have key : ∀ (l : List Ent) (c : List (Int × Int)), (c.map (·.1)).Nodup → ((l.foldl (storeS j) c).map (·.1)).Nodup := by
    intro l
    induction l with
    | nil => intro c h; exact h
    | cons e l ih =>
      intro c h
      refine ih _ ?_
      unfold storeS
      split
      · exact put_nodup h
      · exact h
  exact key past [] (by simp)
theorem law_seen {past : List Ent} {j site : Int} (hp : ∀ e ∈ past, 0 ≤ e.2.2.1 ∧ e.2.2.1 < 4) : ckP (storeC past j) site 4 = canon (seenC past j site) := by
  have key : ∀ (l : List Ent) (c c' : List (Int × Int)), (∀ e ∈ l, 0 ≤ e.2.2.1 ∧ e.2.2.1 < 4) → (∀ k : Int, 0 ≤ k → k < 4 → kdfHas c (4 * site + k) = kdfHas c' k ∧ kdfLook c (4 * site + k) 0 = kdfLook c' k 0) →
      ∀ k : Int, 0 ≤ k → k < 4 → kdfHas (l.foldl (storeS j) c) (4 * site + k) = kdfHas (l.foldl (seenS j site) c') k ∧ kdfLook (l.foldl (storeS j) c) (4 * site + k) 0 = kdfLook (l.foldl (seenS j site) c') k 0 := by
    intro l
    induction l with
    | nil => intro c c' _ h; exact h
    | cons e l ih =>
      intro c c' hl h
      refine ih _ _ (fun x hx => hl x (List.mem_cons_of_mem _ hx)) fun k h0 h4 => ?_
      obtain ⟨n0, n4⟩ := hl e (List.mem_cons_self ..)
      obtain ⟨i1, i2⟩ := h k h0 h4
      unfold storeS seenS
      by_cases e1 : e.1 = j
      · by_cases e2 : e.2.1 = site
        · simp only [e1, e2, and_self, if_true]
          rw [has_put, has_put, look_put, look_put, i1, i2]
          by_cases e3 : k = e.2.2.1
          · simp [e3]
          · have : ¬ (4 * site + k = 4 * site + e.2.2.1) := by omega
            simp [e3, this]
        · simp only [e1, e2, and_false, if_true, if_false]
          rw [has_put, look_put, i1, i2]
          have : ¬ (4 * site + k = 4 * e.2.1 + e.2.2.1) := by omega
          simp [this]
      · simp only [e1, false_and, if_false]; exact ⟨i1, i2⟩
  have h := key past [] [] hp (fun k _ _ => ⟨rfl, rfl⟩)
  unfold ckP canon
  have hext : ∀ (r : List Nat), (∀ k ∈ r, k < 4) → (r.filterMap fun (k : Nat) => if kdfHas (storeC past j) (4 * site + (k : Int)) then some ((k : Int), kdfLook (storeC past j) (4 * site + (k : Int)) 0) else none) =
      r.filterMap fun (k : Nat) => if kdfHas (seenC past j site) (k : Int) then some ((k : Int), kdfLook (seenC past j site) (k : Int) 0) else none := by
    intro r
    induction r with
    | nil => intro _; rfl
    | cons k r ih =>
      intro hr
      have hk := hr k (List.mem_cons_self ..)
      obtain ⟨a1, a2⟩ := h (k : Int) (by omega) (by omega)
      rw [List.filterMap_cons, List.filterMap_cons, ih fun x hx => hr x (List.mem_cons_of_mem _ hx)]
      have b1 : kdfHas (storeC past j) (4 * site + (k : Int)) = kdfHas (seenC past j site) (k : Int) := a1
      have b2 : kdfLook (storeC past j) (4 * site + (k : Int)) 0 = kdfLook (seenC past j site) (k : Int) 0 := a2
      rw [b1, b2]
  exact hext _ fun k hk => List.mem_range.mp hk
end Mine

end
section
open PySem PySem.W PyProof.Rows PySem.Calls PyProof.V
set_option Elab.async false
set_option maxRecDepth 100000
set_option maxHeartbeats 8000000
set_option linter.unusedVariables false
set_option linter.unusedSimpArgs false
namespace Mine
theorem blocks_perm {α : Type} (B : List (List α)) {σ τ : List Nat} (h : σ.Perm τ) : ((σ.map fun k => B.getD k []).flatten).Perm ((τ.map fun k => B.getD k []).flatten) := (h.map _).flatten

theorem perm_news {h₀ h : Heap} {L : Addr} {l l' : List (Addr × Obj)} (N : News h₀ L h l) (hp : l.Perm l') : News h₀ L h l' := fun q hq => N q (hp.mem_iff.mpr hq)
def Sep (l : List (Addr × Obj)) : Prop := (l.map fun p => (p.1 : Nat)).Nodup
theorem Sep.perm {l l' : List (Addr × Obj)} (h : Sep l) (hp : l.Perm l') : Sep l' := (hp.map _).nodup_iff.mp h
theorem Sep.head {p : Addr × Obj} {l : List (Addr × Obj)} (h : Sep (p :: l)) : NewTo l p.1 := fun q hq e => (List.nodup_cons.mp h).1 (List.mem_map.mpr ⟨q, hq, e⟩)
theorem Sep.tail {p : Addr × Obj} {l : List (Addr × Obj)} (h : Sep (p :: l)) : Sep l := (List.nodup_cons.mp h).2
theorem Sep.cons {p : Addr × Obj} {l : List (Addr × Obj)} (h : Sep l) (hn : NewTo l p.1) : Sep (p :: l) := List.nodup_cons.mpr ⟨fun hm => by obtain ⟨q, hq, e⟩ := List.mem_map.mp hm; exact hn q hq e, h⟩
theorem Sep.same {l l' : List (Addr × Obj)} (h : Sep l) (e : l.map (fun p => (p.1 : Nat)) = l'.map fun p => (p.1 : Nat)) : Sep l' := by unfold Sep; rw [← e]; exact h

structure JarC where
  (j dj f fe c d : Nat)
  (oc : Obj)
  (ta te : Tok)
  (qa qe : Str)
  (doa pma cta doe pme cte : Value)
def jarL (w : World) (ca ce : Nat) (q : JarC) (od : Obj) : List (Addr × Obj) :=
  [(q.j, instObj 52 q.dj), (q.dj, dictOf [ent w "add_cookie_header" q.ta (.ref q.f), ent w "extract_cookies" q.te (.ref q.fe)] 2), (q.f, addFn q.qa q.c q.doa q.pma ca q.cta), (q.fe, extFn q.qe q.c q.doe q.pme ce q.cte), (q.c, q.oc), (q.d, od)]
def JarOk (w : World) (vsa vse : Array Value) (q : JarC) (od : Obj) (cst : List (Int × Int)) : Prop :=
  (∃ t, vsa[1]? = some (.str q.qa t)) ∧ (∃ t, vse[1]? = some (.str q.qe t)) ∧ q.oc.data = .cell (some (.ref q.d)) ∧ (q.d == sysModules) = false ∧
    ∃ kvs, od.IsDictOf (intKind (PySem.Challenge.rw_dn0255_02.row.prog) w) kvs ∧ FlatPairs PyData.int kvs (kdfD cst)
def PrIs (w : World) (j0 j1 : Nat) (v wv : Value) (l : List (Addr × Obj)) : Prop :=
  ∃ x d : Nat, v = .ref x ∧ ((wv = .none ∧ l = [(x, instObj 52 d), (d, dictOf [] 0)]) ∨
    ∃ (b : Int) (t t' : Tok) (j : Nat), wv = .int b t ∧ (b = 0 ∧ j = j0 ∨ b = 1 ∧ j = j1) ∧ l = [(x, instObj 52 d), (d, dictOf [ent w "cookiejar" t' (.ref j)] 1)])

theorem focusP {w : World} {j0 j1 : Nat} {v0 v1 v2 w0 w1 w2 : Value} {l0 l1 l2 : List (Addr × Obj)} {wh : Int} (p0 : PrIs w j0 j1 v0 w0 l0) (p1 : PrIs w j0 j1 v1 w1 l1) (p2 : PrIs w j0 j1 v2 w2 l2) (h0 : 0 ≤ wh) (h3 : wh < 3) :
    ∃ v wv l oth, PrIs w j0 j1 v wv l ∧ [v0, v1, v2][wh.toNat]? = some v ∧ [w0, w1, w2][wh.toNat]? = some wv ∧ (l0 ++ (l1 ++ l2)).Perm (l ++ oth) ∧
      ∀ v' wv' l', PrIs w j0 j1 v' wv' l' → ∃ v0' v1' v2' w0' w1' w2' l0' l1' l2', PrIs w j0 j1 v0' w0' l0' ∧ PrIs w j0 j1 v1' w1' l1' ∧ PrIs w j0 j1 v2' w2' l2' ∧
        [v0, v1, v2].set wh.toNat v' = [v0', v1', v2'] ∧ [w0, w1, w2].set wh.toNat wv' = [w0', w1', w2'] ∧ (l' ++ oth).Perm (l0' ++ (l1' ++ l2')) := by
  have : wh = 0 ∨ wh = 1 ∨ wh = 2 := by omega
  rcases this with rfl | rfl | rfl
  · exact ⟨v0, w0, l0, l1 ++ l2, p0, rfl, rfl, .refl _, fun v' wv' l' p => ⟨v', v1, v2, wv', w1, w2, l', l1, l2, p, p1, p2, rfl, rfl, .refl _⟩⟩
  · refine ⟨v1, w1, l1, l0 ++ l2, p1, rfl, rfl, ?_, fun v' wv' l' p => ⟨v0, v', v2, w0, wv', w2, l0, l', l2, p0, p, p2, rfl, rfl, ?_⟩⟩
    · (have hbp := blocks_perm [l0, l1, l2] (show List.Perm [0, 1, 2] [1, 0, 2] by decide); simpa only [List.map_cons, List.map_nil, List.flatten_cons, List.flatten_nil, List.getD_cons_zero, List.getD_cons_succ, List.cons_append, List.nil_append, List.append_nil, List.append_assoc] using hbp)
    · (have hbp := blocks_perm [l0, l', l2] (show List.Perm [1, 0, 2] [0, 1, 2] by decide); simpa only [List.map_cons, List.map_nil, List.flatten_cons, List.flatten_nil, List.getD_cons_zero, List.getD_cons_succ, List.cons_append, List.nil_append, List.append_nil, List.append_assoc] using hbp)
  · refine ⟨v2, w2, l2, l0 ++ l1, p2, rfl, rfl, ?_, fun v' wv' l' p => ⟨v0, v1, v', w0, w1, wv', l0, l1, l', p0, p1, p, rfl, rfl, ?_⟩⟩
    · (have hbp := blocks_perm [l0, l1, l2] (show List.Perm [0, 1, 2] [2, 0, 1] by decide); simpa only [List.map_cons, List.map_nil, List.flatten_cons, List.flatten_nil, List.getD_cons_zero, List.getD_cons_succ, List.cons_append, List.nil_append, List.append_nil, List.append_assoc] using hbp)
    · (have hbp := blocks_perm [l0, l1, l'] (show List.Perm [2, 0, 1] [0, 1, 2] by decide); simpa only [List.map_cons, List.map_nil, List.flatten_cons, List.flatten_nil, List.getD_cons_zero, List.getD_cons_succ, List.cons_append, List.nil_append, List.append_nil, List.append_assoc] using hbp)

theorem focusJ {w : World} {ca ce : Nat} {vsa vse : Array Value} {q0 q1 : JarC} {od0 od1 : Obj} {past : List Ent} {b : Int} {j : Nat} (k0 : JarOk w vsa vse q0 od0 (storeC past 0)) (k1 : JarOk w vsa vse q1 od1 (storeC past 1)) (hb : b = 0 ∧ j = q0.j ∨ b = 1 ∧ j = q1.j) :
    ∃ q od oth, j = q.j ∧ JarOk w vsa vse q od (storeC past b) ∧ (jarL w ca ce q0 od0 ++ jarL w ca ce q1 od1).Perm (jarL w ca ce q od ++ oth) ∧
      ∀ od' past', JarOk w vsa vse q od' (storeC past' b) → (∀ b', b' ≠ b → storeC past' b' = storeC past b') → ∃ od0' od1', JarOk w vsa vse q0 od0' (storeC past' 0) ∧ JarOk w vsa vse q1 od1' (storeC past' 1) ∧
        (jarL w ca ce q od' ++ oth).Perm (jarL w ca ce q0 od0' ++ jarL w ca ce q1 od1') := by
  rcases hb with ⟨rfl, rfl⟩ | ⟨rfl, rfl⟩
  · exact ⟨q0, od0, jarL w ca ce q1 od1, rfl, k0, .refl _, fun od' past' h1 h2 => ⟨od', od1, h1, by rw [h2 1 (by decide)]; exact k1, .refl _⟩⟩
  · refine ⟨q1, od1, jarL w ca ce q0 od0, rfl, k1, ?_, fun od' past' h1 h2 => ⟨od0, od', by rw [h2 0 (by decide)]; exact k0, h1, ?_⟩⟩
    · exact List.perm_append_comm
    · exact List.perm_append_comm

section
variable (w : World) (D ls lj lp lw la ca ce : Nat) (sv : List Value) (ns : Nat) (oca oce : Obj) (vsa vse : Array Value) (q0 q1 : JarC) (tab : Addr × Obj)
def headL (vs ws ps : List Value) (na : Nat) : List (Addr × Obj) :=
  [(D, listOf sv.toArray ns), (ls, listOf #[.ref q0.d, .ref q1.d] 0), (lj, listOf #[.ref q0.j, .ref q1.j] 0), (lp, listOf ps.toArray 0), (lw, listOf ws.toArray 0), (la, listOf vs.toArray na), (ca, oca), (ce, oce)]
def Inv (i : Nat) (m : Str → Option Value) (nx : List (Addr × Obj)) : Prop :=
  (∀ p ∈ [(Str.ofString "stores", Value.ref ls), (Str.ofString "jars", Value.ref lj), (Str.ofString "processors", Value.ref lp), (Str.ofString "which", Value.ref lw), (Str.ofString "past", Value.ref la)], m p.1 = some p.2) ∧
  Sep nx ∧ ∃ v0 v1 v2 w0 w1 w2 l0 l1 l2 od0 od1 past vs na tl, PrIs w q0.j q1.j v0 w0 l0 ∧ PrIs w q0.j q1.j v1 w1 l1 ∧ PrIs w q0.j q1.j v2 w2 l2 ∧
    JarOk w vsa vse q0 od0 (storeC past 0) ∧ JarOk w vsa vse q1 od1 (storeC past 1) ∧ DatAll (tab :: tl) vs (past.map entD) ∧ past.length ≤ i ∧ (∀ e ∈ past, 0 ≤ e.2.2.1 ∧ e.2.2.1 < 4) ∧
    nx.Perm (headL D ls lj lp lw la ca ce sv ns oca oce q0 q1 vs [w0, w1, w2] [v0, v1, v2] na ++ ((l0 ++ (l1 ++ l2)) ++ ((jarL w ca ce q0 od0 ++ jarL w ca ce q1 od1) ++ (tab :: tl))))
end
end Mine

end
section
open PySem PySem.W PyProof.Rows PySem.Calls PyProof.V
set_option Elab.async false
set_option maxRecDepth 100000
set_option maxHeartbeats 8000000
set_option linter.unusedVariables false
set_option linter.unusedSimpArgs false
namespace Mine
local macro_rules | `(tactic| walk_at "mem_go") => `(tactic| first | (with_reducible exact List.mem_cons_self) | (with_reducible assumption) | (refine List.mem_cons_of_mem _ ?_; walk_at "mem_go") | (refine List.mem_append_left _ ?_; walk_at "mem_go") | (refine List.mem_append_right _ ?_; walk_at "mem_go"))
local macro_rules | `(tactic| walk_at "led_sub") => `(tactic| first | (refine List.forall_mem_cons.mpr ⟨by walk_at "mem_go", ?_⟩; walk_at "led_sub") | (intro q hq; first | walk_at "mem_go" | (exact nomatch hq)))

theorem arrP {eD els elj elp elw ela eca ece : Addr × Obj} {L3 l oth J2 tl : List (Addr × Obj)} (h : L3.Perm (l ++ oth)) :
    ([eD, els, elj, elp, elw, ela, eca, ece] ++ (L3 ++ (J2 ++ tl))).Perm (elw :: elp :: elj :: (l ++ (eD :: els :: ela :: eca :: ece :: (oth ++ (J2 ++ tl))))) := by
  refine ((h.append_right _).append_left _).trans ?_
  (have hbp := blocks_perm [[eD], [els], [elj], [elp], [elw], [ela], [eca], [ece], l, oth, J2, tl] (show List.Perm [0, 1, 2, 3, 4, 5, 6, 7, 8, 9, 10, 11] [4, 3, 2, 8, 0, 1, 5, 6, 7, 9, 10, 11] by decide); simpa only [List.map_cons, List.map_nil, List.flatten_cons, List.flatten_nil, List.getD_cons_zero, List.getD_cons_succ, List.cons_append, List.nil_append, List.append_nil, List.append_assoc] using hbp)
theorem arrX {eD els elj elp elw ela eca ece a b c d e f : Addr × Obj} {L3 l oth J2 othJ tl : List (Addr × Obj)} (h : L3.Perm (l ++ oth)) (hj : J2.Perm ([a, b, c, d, e, f] ++ othJ)) :
    ([eD, els, elj, elp, elw, ela, eca, ece] ++ (L3 ++ (J2 ++ tl))).Perm (ela :: elw :: elp :: (l ++ (a :: b :: c :: eca :: d :: ece :: e :: f :: (eD :: els :: elj :: (oth ++ (othJ ++ tl)))))) := by
  refine (((h.append_right _).trans ((hj.append_right _).append_left _)).append_left _).trans ?_
  (have hbp := blocks_perm [[eD], [els], [elj], [elp], [elw], [ela], [eca], [ece], l, oth, [a], [b], [c], [d], [e], [f], othJ, tl] (show List.Perm [0, 1, 2, 3, 4, 5, 6, 7, 8, 9, 10, 11, 12, 13, 14, 15, 16, 17] [5, 4, 3, 8, 10, 11, 12, 6, 13, 7, 14, 15, 0, 1, 2, 9, 16, 17] by decide); simpa only [List.map_cons, List.map_nil, List.flatten_cons, List.flatten_nil, List.getD_cons_zero, List.getD_cons_succ, List.cons_append, List.nil_append, List.append_nil, List.append_assoc] using hbp)
theorem set_same {α : Type} : ∀ {l : List α} {k : Nat} {v : α}, l[k]? = some v → l.set k v = l
  | [], _, _, h => by simp at h
  | _ :: _, 0, _, h => by simp at h; simp [h]
  | _ :: l, k + 1, _, h => by
    simp only [List.getElem?_cons_succ] at h
    rw [List.set_cons_succ, set_same h]
theorem swapI {I e1 e2 e3 e4 e5 : Addr × Obj} {R : List (Addr × Obj)} : (I :: e1 :: e2 :: e3 :: e4 :: e5 :: R).Perm (e1 :: e2 :: e3 :: e4 :: e5 :: I :: R) := by
  (have hbp := blocks_perm [[I], [e1, e2, e3, e4, e5], R] (show List.Perm [0, 1, 2] [1, 0, 2] by decide); simpa only [List.map_cons, List.map_nil, List.flatten_cons, List.flatten_nil, List.getD_cons_zero, List.getD_cons_succ, List.cons_append, List.nil_append, List.append_nil, List.append_assoc] using hbp)
section
variable {w : World} {p : Program} {loose : List Str} {mean : ExcName → Option Value} {mg mb : Str → Option Value}
  {dp un : Nat} {gd : Option (List Code)} {cn : Str} {cs : Scope} {a : Addr} {ccd : Value} {cl : List (Str × Addr)} {outer : List Env} {A₀ : Around} {base h₀ : Heap} {L : Addr} {m : Str → Option Value} {s : Shared} {Q E : Value → Shared → Prop}

theorem t2 {D ls lj lp lw la ca ce ns i I : Nat} {sv : List Value} {oca oce oI : Obj} {vsa vse : Array Value} {q0 q1 : JarC} {kd wh st mm n : Int} {t1 t2 t3 t4 tn : Tok} {m₁ : Str → Option Value} {tab : Addr × Obj} {nx : List (Addr × Obj)} {Qf : Flow → Shared → Prop} {Ef : Value → Shared → Prop}
    (B : Below A₀ h₀ [] h₀) (F : Fr h₀ L s.heap (fun y => if y = Str.ofString "m" then some (.int mm t4) else if y = Str.ofString "site" then some (.int st t3) else if y = Str.ofString "who" then some (.int wh t2) else if y = Str.ofString "kind" then some (.int kd t1) else if y = Str.ofString "n" then some (.int n tn) else kstB m₁ [(Str.ofString "stores", Value.ref ls), (Str.ofString "jars", Value.ref lj), (Str.ofString "processors", Value.ref lp), (Str.ofString "which", Value.ref lw), (Str.ofString "past", Value.ref la)] y)) (T : Top p loose mean mg mb h₀) (hdp : dp + 8 < recursionLimit) (hun : un + 200 < cLine)
    (hw0 : 0 ≤ wh) (hw3 : wh < 3) (hs0 : 0 ≤ st) (hs4 : st < 4) (hi : i < 64) (hoca : oca.data = .fields vsa) (hoce : oce.data = .fields vse)
    (hJ : (Inv w D ls lj lp lw la ca ce sv ns oca oce vsa vse q0 q1 tab i m₁ nx)) (hI : ∀ p ∈ nx, @Ne Nat p.1 I) (N : News h₀ L s.heap ((I, oI) :: nx))
    (hfin : ∀ fl h' tk' m' nx', fl = Flow.next ∨ fl = Flow.cont → Fr h₀ L h' m' → News h₀ L h' ((I, oI) :: nx') → (∀ p ∈ nx', @Ne Nat p.1 I) → (Inv w D ls lj lp lw la ca ce sv ns oca oce vsa vse q0 q1 tab (i + 1) m' nx') → Qf fl { s with heap := h', toks := tk' })
    (hkd : kd = 2) (X : (hd.heap_39 w.params).In h₀) :
    wpAny (model PySem.Challenge.rw_dn0255_02.row.prog w) (ktrTop dp un gd (Str.ofString "law") (defScope lawDef) L a ccd [] []) (execs turnRest (envOf (Str.ofString "law") (defScope lawDef) L a ccd)) Qf Ef s := by
  obtain ⟨hm, hsep, v0, v1, v2, w0, w1, w2, l0, l1, l2, od0, od1, past, vs, na, tl, p0, p1, p2, k0, k1, hdat, hpl, hnm, hperm⟩ := hJ
  obtain ⟨v, wv, l, oth, ⟨x, d, rfl, hcase⟩, hv, hwv, hL, hback⟩ := focusP p0 p1 p2 hw0 hw3
  have hl : ∃ es ne, l = [(x, instObj 52 d), (d, dictOf es ne)] ∧ ((es = [] ∧ ne = 0) ∨ ∃ t v, es = [ent w "cookiejar" t v] ∧ ne = 1) := by
    rcases hcase with ⟨_, h⟩ | ⟨b, t, t', j, _, _, h⟩
    · exact ⟨_, _, h, .inl ⟨rfl, rfl⟩⟩
    · exact ⟨_, _, h, .inr ⟨_, _, rfl, rfl⟩⟩
  obtain ⟨es, ne, rfl, hes⟩ := hl
  have hm2 := fdiv_fmod_facts st 2
  have hjb : ∃ jb, [Value.ref q0.j, Value.ref q1.j][(st.fmod 2).toNat]? = some (.ref jb) ∧ (st.fmod 2 = 0 ∧ jb = q0.j ∨ st.fmod 2 = 1 ∧ jb = q1.j) := by
    have : st.fmod 2 = 0 ∨ st.fmod 2 = 1 := by omega
    rcases this with e | e
    · rw [e]; exact ⟨_, rfl, .inl ⟨rfl, rfl⟩⟩
    · rw [e]; exact ⟨_, rfl, .inr ⟨rfl, rfl⟩⟩
  obtain ⟨jb, hjb, hb⟩ := hjb
  have P := hperm.trans (arrP (J2 := jarL w ca ce q0 od0 ++ jarL w ca ce q1 od1) (tl := tab :: tl) hL)
  simp only [List.cons_append, List.nil_append] at P
  have N2 := perm_news N ((P.cons _).trans swapI)
  have S2 := (hsep.cons (p := (I, oI)) hI).perm (P.cons _)
  have S3 := (hsep.cons (p := (I, oI)) hI).perm ((P.cons _).trans swapI)
  have a1 := S3.head
  have a2 := S3.tail.head
  have a3 := S3.tail.tail.head
  have a4 := S3.tail.tail.tail.head
  have a5 := S3.tail.tail.tail.tail.head
  simp only [NewTo, List.forall_mem_cons] at a1 a2 a3 a4
  refine turn2 (ws := [w0, w1, w2]) (ps := [v0, v1, v2]) B F T hdp hun hkd hw0 hw3 hs0 hs4 rfl rfl hv hjb hes ⟨?_, ?_, ?_, ?_, ?_, ?_, ?_⟩ ?_ a5 N2 ?_ X
  · exact Ne.symm a1.1
  · exact Ne.symm a1.2.1
  · exact Ne.symm a1.2.2.1
  · exact Ne.symm a1.2.2.2.1
  · exact a2.2.2.1
  · exact a3.2.1
  · exact a4.1
  · exact fun q hq => S3.head q (List.mem_cons_of_mem _ (List.mem_cons_of_mem _ (List.mem_cons_of_mem _ (List.mem_cons_of_mem _ hq))))
  · intro h' tk' m' t t' hm' F' N'
    obtain ⟨v0', v1', v2', w0', w1', w2', l0', l1', l2', p0', p1', p2', e1, e2, hL'⟩ := hback (.ref x) (.int (st.fmod 2) t) [(x, instObj 52 d), (d, dictOf [ent w "cookiejar" t' (.ref jb)] 1)] ⟨x, d, rfl, .inr ⟨_, _, _, _, rfl, hb, rfl⟩⟩
    rw [set_same hv] at e1
    rw [e1, e2] at N'
    have P' := (arrP (eD := (D, listOf sv.toArray ns)) (els := (ls, listOf #[.ref q0.d, .ref q1.d] 0)) (elj := (lj, listOf #[.ref q0.j, .ref q1.j] 0)) (elp := (lp, listOf [v0', v1', v2'].toArray 0)) (elw := (lw, listOf [w0', w1', w2'].toArray 0)) (ela := (la, listOf vs.toArray na)) (eca := (ca, oca)) (ece := (ce, oce)) (J2 := jarL w ca ce q0 od0 ++ jarL w ca ce q1 od1) (tl := tab :: tl) hL'.symm).symm
    simp only [List.cons_append, List.nil_append] at P'
    have S4 := S2.same (l' := (I, oI) :: (lw, listOf [w0', w1', w2'].toArray 0) :: (lp, listOf [v0', v1', v2'].toArray 0) :: _ :: _ :: (d, dictOf [ent w "cookiejar" t' (.ref jb)] 1) :: _) (by rfl)
    exact hfin _ _ _ _ _ (.inr rfl) F' (perm_news N' swapI.symm) S4.head ⟨hm', S4.tail, v0', v1', v2', w0', w1', w2', l0', l1', l2', od0, od1, past, vs, na, tl, p0', p1', p2', k0, k1, hdat, by omega, hnm, P'⟩

theorem arrQ {x d e1 e2 e3 I : Addr × Obj} {R : List (Addr × Obj)} : (x :: d :: e1 :: e2 :: e3 :: I :: R).Perm (I :: e1 :: e2 :: e3 :: x :: d :: R) := by
  (have hbp := blocks_perm [[x, d], [e1, e2, e3], [I], R] (show List.Perm [0, 1, 2, 3] [2, 1, 0, 3] by decide); simpa only [List.map_cons, List.map_nil, List.flatten_cons, List.flatten_nil, List.getD_cons_zero, List.getD_cons_succ, List.cons_append, List.nil_append, List.append_nil, List.append_assoc] using hbp)
theorem arrN {x d e1 e2 e3 I : Addr × Obj} {R : List (Addr × Obj)} : (e1 :: e2 :: x :: d :: e3 :: I :: R).Perm (I :: e1 :: e2 :: e3 :: x :: d :: R) := by
  (have hbp := blocks_perm [[e1, e2], [x, d], [e3], [I], R] (show List.Perm [0, 1, 2, 3, 4] [3, 0, 2, 1, 4] by decide); simpa only [List.map_cons, List.map_nil, List.flatten_cons, List.flatten_nil, List.getD_cons_zero, List.getD_cons_succ, List.cons_append, List.nil_append, List.append_nil, List.append_assoc] using hbp)

theorem Sep.sub {l l' : List (Addr × Obj)} (h : Sep l) (hs : l'.Sublist l) : Sep l' := List.Sublist.nodup (hs.map _) h
theorem t3 {D ls lj lp lw la ca ce ns i I : Nat} {sv : List Value} {oca oce oI : Obj} {vsa vse : Array Value} {q0 q1 : JarC} {kd wh st mm n : Int} {t1 t2 t3 t4 tn : Tok} {m₁ : Str → Option Value} {tab : Addr × Obj} {nx : List (Addr × Obj)} {Qf : Flow → Shared → Prop} {Ef : Value → Shared → Prop}
    (B : Below A₀ h₀ [] h₀) (F : Fr h₀ L s.heap (fun y => if y = Str.ofString "m" then some (.int mm t4) else if y = Str.ofString "site" then some (.int st t3) else if y = Str.ofString "who" then some (.int wh t2) else if y = Str.ofString "kind" then some (.int kd t1) else if y = Str.ofString "n" then some (.int n tn) else kstB m₁ [(Str.ofString "stores", Value.ref ls), (Str.ofString "jars", Value.ref lj), (Str.ofString "processors", Value.ref lp), (Str.ofString "which", Value.ref lw), (Str.ofString "past", Value.ref la)] y)) (T : Top p loose mean mg mb h₀) (hdp : dp + 8 < recursionLimit) (hun : un + 200 < cLine)
    (hw0 : 0 ≤ wh) (hw3 : wh < 3) (hs0 : 0 ≤ st) (hs4 : st < 4) (hi : i < 64) (hoca : oca.data = .fields vsa) (hoce : oce.data = .fields vse)
    (hJ : (Inv w D ls lj lp lw la ca ce sv ns oca oce vsa vse q0 q1 tab i m₁ nx)) (hI : ∀ p ∈ nx, @Ne Nat p.1 I) (N : News h₀ L s.heap ((I, oI) :: nx))
    (hfin : ∀ fl h' tk' m' nx', fl = Flow.next ∨ fl = Flow.cont → Fr h₀ L h' m' → News h₀ L h' ((I, oI) :: nx') → (∀ p ∈ nx', @Ne Nat p.1 I) → (Inv w D ls lj lp lw la ca ce sv ns oca oce vsa vse q0 q1 tab (i + 1) m' nx') → Qf fl { s with heap := h', toks := tk' })
    (hkd : kd = 3) (X : (hd.heap_39 w.params).In h₀) :
    wpAny (model PySem.Challenge.rw_dn0255_02.row.prog w) (ktrTop dp un gd (Str.ofString "law") (defScope lawDef) L a ccd [] []) (execs turnRest (envOf (Str.ofString "law") (defScope lawDef) L a ccd)) Qf Ef s := by
  obtain ⟨hm, hsep, v0, v1, v2, w0, w1, w2, l0, l1, l2, od0, od1, past, vs, na, tl, p0, p1, p2, k0, k1, hdat, hpl, hnm, hperm⟩ := hJ
  obtain ⟨v, wv, l, oth, ⟨x, d, rfl, hcase⟩, hv, hwv, hL, hback⟩ := focusP p0 p1 p2 hw0 hw3
  have hl : ∃ o, l = [(x, instObj 52 d), (d, o)] := by
    rcases hcase with ⟨_, h⟩ | ⟨b, t, t', j, _, _, h⟩
    · exact ⟨_, h⟩
    · exact ⟨_, h⟩
  obtain ⟨o, rfl⟩ := hl
  have P := hperm.trans (arrP (J2 := jarL w ca ce q0 od0 ++ jarL w ca ce q1 od1) (tl := tab :: tl) hL)
  simp only [List.cons_append, List.nil_append] at P
  have N2 := perm_news N ((P.cons _).trans swapI)
  have S2 := (hsep.cons (p := (I, oI)) hI).perm (P.cons _)
  have S3 := S2.perm swapI
  refine turn3 (dw := 0) (wv := .none) (ws := [w0, w1, w2]) (ps := [v0, v1, v2]) B F T hdp hun hkd hw0 hw3 hs0 hs4 rfl rfl hv ?_ ?_ S3.tail.head N2 ?_ X
  · exact Ne.symm (S3.head _ (List.mem_cons_self ..))
  · exact fun q hq => S3.head q (List.mem_cons_of_mem _ hq)
  · intro h' tk' m' x' d' hm' F' N' hlt
    obtain ⟨v0', v1', v2', w0', w1', w2', l0', l1', l2', p0', p1', p2', e1, e2, hL'⟩ := hback (.ref x') .none [(x', instObj 52 d'), (d', dictOf [] 0)] ⟨x', d', rfl, .inl ⟨rfl, rfl⟩⟩
    rw [e1, e2] at N'
    have P' := (arrP (eD := (D, listOf sv.toArray ns)) (els := (ls, listOf #[.ref q0.d, .ref q1.d] 0)) (elj := (lj, listOf #[.ref q0.j, .ref q1.j] 0)) (elp := (lp, listOf [v0', v1', v2'].toArray 0)) (elw := (lw, listOf [w0', w1', w2'].toArray 0)) (ela := (la, listOf vs.toArray na)) (eca := (ca, oca)) (ece := (ce, oce)) (J2 := jarL w ca ce q0 od0 ++ jarL w ca ce q1 od1) (tl := tab :: tl) hL'.symm).symm
    simp only [List.cons_append, List.nil_append] at P'
    have hA : ∀ q ∈ (lw, listOf [w0, w1, w2].toArray 0) :: (lp, listOf [v0, v1, v2].toArray 0) :: _, q.1 < d' := kst_ltOf hlt.2
    have S4 : Sep ((d', dictOf [] 0) :: _) := S3.cons (p := (d', dictOf [] 0)) fun q hq => Nat.ne_of_lt (hA q hq)
    have S5 : Sep ((x', instObj 52 d') :: _) := S4.cons (p := (x', instObj 52 d')) (newTo_cons (Nat.ne_of_lt hlt.1) fun q hq => Nat.ne_of_lt (Nat.lt_trans (hA q hq) hlt.1))
    have S6 := (S5.sub (l' := (x', instObj 52 d') :: (d', dictOf [] 0) :: (lw, listOf [w0, w1, w2].toArray 0) :: (lp, listOf [v0, v1, v2].toArray 0) :: (lj, listOf #[.ref q0.j, .ref q1.j] 0) :: (I, oI) :: _) (((((List.Sublist.refl _).cons _).cons _).cons₂ _ |>.cons₂ _ |>.cons₂ _ |>.cons₂ _ |>.cons₂ _)))
    have S7 := S6.same (l' := (x', instObj 52 d') :: (d', dictOf [] 0) :: (lw, listOf [w0', w1', w2'].toArray 0) :: (lp, listOf [v0', v1', v2'].toArray 0) :: (lj, listOf #[.ref q0.j, .ref q1.j] 0) :: (I, oI) :: _) rfl
    have hq : ((x', instObj 52 d') :: (d', dictOf [] 0) :: (lw, listOf [w0', w1', w2'].toArray 0) :: (lp, listOf [v0', v1', v2'].toArray 0) :: (lj, listOf #[.ref q0.j, .ref q1.j] 0) :: (I, oI) :: ((D, listOf sv.toArray ns) :: (ls, listOf #[.ref q0.d, .ref q1.d] 0) :: (la, listOf vs.toArray na) :: (ca, oca) :: (ce, oce) :: (oth ++ ((jarL w ca ce q0 od0 ++ jarL w ca ce q1 od1) ++ (tab :: tl))))).Perm
        ((I, oI) :: (lw, listOf [w0', w1', w2'].toArray 0) :: (lp, listOf [v0', v1', v2'].toArray 0) :: (lj, listOf #[.ref q0.j, .ref q1.j] 0) :: (x', instObj 52 d') :: (d', dictOf [] 0) :: ((D, listOf sv.toArray ns) :: (ls, listOf #[.ref q0.d, .ref q1.d] 0) :: (la, listOf vs.toArray na) :: (ca, oca) :: (ce, oce) :: (oth ++ ((jarL w ca ce q0 od0 ++ jarL w ca ce q1 od1) ++ (tab :: tl))))) := arrQ
    have S8 := S7.perm hq
    exact hfin _ _ _ _ _ (.inr rfl) F' (news_sub N' (by walk_at "led_sub")) S8.head ⟨hm', S8.tail, v0', v1', v2', w0', w1', w2', l0', l1', l2', od0, od1, past, vs, na, tl, p0', p1', p2', k0, k1, hdat, by omega, hnm, P'⟩

theorem tN {D ls lj lp lw la ca ce ns i I : Nat} {sv : List Value} {oca oce oI : Obj} {vsa vse : Array Value} {q0 q1 : JarC} {kd wh st mm n : Int} {t1 t2 t3 t4 tn : Tok} {m₁ : Str → Option Value} {tab : Addr × Obj} {nx : List (Addr × Obj)} {Qf : Flow → Shared → Prop} {Ef : Value → Shared → Prop}
    (B : Below A₀ h₀ [] h₀) (F : Fr h₀ L s.heap (fun y => if y = Str.ofString "m" then some (.int mm t4) else if y = Str.ofString "site" then some (.int st t3) else if y = Str.ofString "who" then some (.int wh t2) else if y = Str.ofString "kind" then some (.int kd t1) else if y = Str.ofString "n" then some (.int n tn) else kstB m₁ [(Str.ofString "stores", Value.ref ls), (Str.ofString "jars", Value.ref lj), (Str.ofString "processors", Value.ref lp), (Str.ofString "which", Value.ref lw), (Str.ofString "past", Value.ref la)] y)) (T : Top p loose mean mg mb h₀) (hdp : dp + 8 < recursionLimit) (hun : un + 200 < cLine)
    (hw0 : 0 ≤ wh) (hw3 : wh < 3) (hs0 : 0 ≤ st) (hs4 : st < 4) (hi : i < 64) (hoca : oca.data = .fields vsa) (hoce : oce.data = .fields vse)
    (hJ : (Inv w D ls lj lp lw la ca ce sv ns oca oce vsa vse q0 q1 tab i m₁ nx)) (hI : ∀ p ∈ nx, @Ne Nat p.1 I) (N : News h₀ L s.heap ((I, oI) :: nx))
    (hfin : ∀ fl h' tk' m' nx', fl = Flow.next ∨ fl = Flow.cont → Fr h₀ L h' m' → News h₀ L h' ((I, oI) :: nx') → (∀ p ∈ nx', @Ne Nat p.1 I) → (Inv w D ls lj lp lw la ca ce sv ns oca oce vsa vse q0 q1 tab (i + 1) m' nx') → Qf fl { s with heap := h', toks := tk' })
    (hkd : kd = 0 ∨ kd = 1) {x d : Nat} {v0 v1 v2 w0 w1 w2 : Value} {vs : List Value} {na : Nat} {R : List (Addr × Obj)} {els elj : Addr × Obj}
    (hv : [v0, v1, v2][wh.toNat]? = some (.ref x)) (hwv : [w0, w1, w2][wh.toNat]? = some .none)
    (P : nx.Perm ((lw, listOf [w0, w1, w2].toArray 0) :: (lp, listOf [v0, v1, v2].toArray 0) :: elj :: (x, instObj 52 d) :: (d, dictOf [] 0) :: R)) (X : (hd.heap_39 w.params).In h₀) :
    wpAny (model PySem.Challenge.rw_dn0255_02.row.prog w) (ktrTop dp un gd (Str.ofString "law") (defScope lawDef) L a ccd [] []) (execs turnRest (envOf (Str.ofString "law") (defScope lawDef) L a ccd)) Qf Ef s := by
  have N2 := perm_news N ((P.cons _).trans arrN.symm)
  refine turnN (ws := [w0, w1, w2]) (ps := [v0, v1, v2]) B F T hdp hun hkd hw0 hw3 hs0 hs4 rfl rfl hv hwv N2 ?_ X
  intro h' tk' m' hm' F' N'
  obtain ⟨hm, hsep, v0, v1, v2, w0, w1, w2, l0, l1, l2, od0, od1, past, vs, na, tl, p0, p1, p2, k0, k1, hdat, hpl, hnm, hperm⟩ := hJ
  exact hfin _ _ _ _ _ (.inl rfl) F' (perm_news N' (arrN.trans (P.cons _).symm)) hI ⟨hm', hsep, v0, v1, v2, w0, w1, w2, l0, l1, l2, od0, od1, past, vs, na, tl, p0, p1, p2, k0, k1, hdat, by omega, hnm, hperm⟩
end
end Mine

end
section
open PySem PySem.W PyProof.Rows PySem.Calls PyProof.V
set_option Elab.async false
set_option maxRecDepth 100000
set_option maxHeartbeats 8000000
set_option linter.unusedVariables false
set_option linter.unusedSimpArgs false
namespace Mine
local macro_rules | `(tactic| walk_at "mem_go") => `(tactic| first | (with_reducible exact List.mem_cons_self) | (with_reducible assumption) | (refine List.mem_cons_of_mem _ ?_; walk_at "mem_go") | (refine List.mem_append_left _ ?_; walk_at "mem_go") | (refine List.mem_append_right _ ?_; walk_at "mem_go"))
local macro_rules | `(tactic| walk_at "led_sub") => `(tactic| first | (refine List.forall_mem_cons.mpr ⟨by walk_at "mem_go", ?_⟩; walk_at "led_sub") | (intro q hq; first | walk_at "mem_go" | (exact nomatch hq)))
section
variable {w : World} {p : Program} {loose : List Str} {mean : ExcName → Option Value} {mg mb : Str → Option Value}
  {dp un : Nat} {gd : Option (List Code)} {cn : Str} {cs : Scope} {a : Addr} {ccd : Value} {cl : List (Str × Addr)} {outer : List Env} {A₀ : Around} {base h₀ : Heap} {L : Addr} {m : Str → Option Value} {s : Shared} {Q E : Value → Shared → Prop}

theorem arrT {T I eD els elj : Addr × Obj} {A oth othJ tl : List (Addr × Obj)} : (T :: (A ++ (I :: eD :: els :: elj :: (oth ++ (othJ ++ tl))))).Perm (I :: (A ++ (eD :: els :: elj :: (oth ++ (othJ ++ (tl ++ [T])))))) := by
  (have hbp := blocks_perm [[T], A, [I], [eD, els, elj], oth, othJ, tl] (show List.Perm [0, 1, 2, 3, 4, 5, 6] [2, 1, 3, 4, 5, 6, 0] by decide); simpa only [List.map_cons, List.map_nil, List.flatten_cons, List.flatten_nil, List.getD_cons_zero, List.getD_cons_succ, List.cons_append, List.nil_append, List.append_nil, List.append_assoc] using hbp)
theorem swapA {I : Addr × Obj} {A R : List (Addr × Obj)} : (I :: (A ++ R)).Perm (A ++ (I :: R)) := List.perm_middle.symm
theorem tX {D ls lj lp lw la ca ce ns i I : Nat} {sv : List Value} {oca oce oI : Obj} {vsa vse : Array Value} {q0 q1 : JarC} {kd wh st mm n : Int} {t1 t2 t3 t4 tn : Tok} {m₁ : Str → Option Value} {tab : Addr × Obj} {nx : List (Addr × Obj)} {Qf : Flow → Shared → Prop} {Ef : Value → Shared → Prop}
    (B : Below A₀ h₀ [] h₀) (F : Fr h₀ L s.heap (fun y => if y = Str.ofString "m" then some (.int mm t4) else if y = Str.ofString "site" then some (.int st t3) else if y = Str.ofString "who" then some (.int wh t2) else if y = Str.ofString "kind" then some (.int kd t1) else if y = Str.ofString "n" then some (.int n tn) else kstB m₁ [(Str.ofString "stores", Value.ref ls), (Str.ofString "jars", Value.ref lj), (Str.ofString "processors", Value.ref lp), (Str.ofString "which", Value.ref lw), (Str.ofString "past", Value.ref la)] y)) (T : Top p loose mean mg mb h₀) (hdp : dp + 8 < recursionLimit) (hun : un + 200 < cLine)
    (hw0 : 0 ≤ wh) (hw3 : wh < 3) (hs0 : 0 ≤ st) (hs4 : st < 4) (hi : i < 64) (hoca : oca.data = .fields vsa) (hoce : oce.data = .fields vse)
    (hJ : (Inv w D ls lj lp lw la ca ce sv ns oca oce vsa vse q0 q1 tab i m₁ nx)) (hI : ∀ p ∈ nx, @Ne Nat p.1 I) (N : News h₀ L s.heap ((I, oI) :: nx))
    (hfin : ∀ fl h' tk' m' nx', fl = Flow.next ∨ fl = Flow.cont → Fr h₀ L h' m' → News h₀ L h' ((I, oI) :: nx') → (∀ p ∈ nx', @Ne Nat p.1 I) → (Inv w D ls lj lp lw la ca ce sv ns oca oce vsa vse q0 q1 tab (i + 1) m' nx') → Qf fl { s with heap := h', toks := tk' })
    (hkd : kd = 0 ∨ kd = 1) {x d j : Nat} {b : Int} {tb tj : Tok} {v0 v1 v2 w0 w1 w2 : Value} {l0 l1 l2 oth : List (Addr × Obj)} {od0 od1 : Obj} {past : List Ent} {vs : List Value} {na : Nat} {tl : List (Addr × Obj)}
    (p0 : PrIs w q0.j q1.j v0 w0 l0) (p1 : PrIs w q0.j q1.j v1 w1 l1) (p2 : PrIs w q0.j q1.j v2 w2 l2) (k0 : JarOk w vsa vse q0 od0 (storeC past 0)) (k1 : JarOk w vsa vse q1 od1 (storeC past 1)) (hdat : DatAll (tab :: tl) vs (past.map entD)) (hpl : past.length ≤ i) (hnm : ∀ e ∈ past, 0 ≤ e.2.2.1 ∧ e.2.2.1 < 4) (hsep : Sep nx)
    (hperm : nx.Perm (headL D ls lj lp lw la ca ce sv ns oca oce q0 q1 vs [w0, w1, w2] [v0, v1, v2] na ++ ((l0 ++ (l1 ++ l2)) ++ ((jarL w ca ce q0 od0 ++ jarL w ca ce q1 od1) ++ (tab :: tl)))))
    (hL : (l0 ++ (l1 ++ l2)).Perm ([(x, instObj 52 d), (d, dictOf [ent w "cookiejar" tj (.ref j)] 1)] ++ oth))
    (hv : [v0, v1, v2][wh.toNat]? = some (.ref x)) (hwv : [w0, w1, w2][wh.toNat]? = some (.int b tb)) (hb : b = 0 ∧ j = q0.j ∨ b = 1 ∧ j = q1.j) (X : (hd.heap_39 w.params).In h₀) :
    wpAny (model PySem.Challenge.rw_dn0255_02.row.prog w) (ktrTop dp un gd (Str.ofString "law") (defScope lawDef) L a ccd [] []) (execs turnRest (envOf (Str.ofString "law") (defScope lawDef) L a ccd)) Qf Ef s := by
  obtain ⟨q, od, othJ, rfl, kq, hJP, hbackJ⟩ := focusJ (ca := ca) (ce := ce) k0 k1 hb
  have P := hperm.trans (arrX (tl := tab :: tl) hL hJP)
  simp only [List.cons_append, List.nil_append] at P
  obtain ⟨⟨tqa, hqa⟩, ⟨tqe, hqe⟩, hoc, hlo, kvs, hod, hkv⟩ := kq
  have S0 := (hsep.cons (p := (I, oI)) hI).perm (P.cons _)
  have S1 := S0.perm (swapA (A := [_, _, _, _, _, _, _, _, _, _, _, _, _]))
  have N1 := perm_news N ((P.cons _).trans (swapA (A := [_, _, _, _, _, _, _, _, _, _, _, _, _])))
  simp only [List.cons_append, List.nil_append] at N1 S1
  have hvl : vs.length ≤ 64 := by rw [hdat.length, List.length_map]; omega
  have hcl := storeC_len past b
  have hmm := fdiv_fmod_facts mm 4
  refine ex_head (dw := d) (ws := [w0, w1, w2]) (ps := [v0, v1, v2]) (rest := (la, listOf vs.toArray na) :: (lw, listOf [w0, w1, w2].toArray 0) :: (x, instObj 52 d) :: (d, dictOf [ent w "cookiejar" tj (.ref q.j)] 1) :: (q.j, instObj 52 q.dj) :: (q.dj, dictOf [ent w "add_cookie_header" q.ta (.ref q.f), ent w "extract_cookies" q.te (.ref q.fe)] 2) :: (q.f, addFn q.qa q.c q.doa q.pma ca q.cta) :: (ca, oca) :: (q.fe, extFn q.qe q.c q.doe q.pme ce q.cte) :: (ce, oce) :: (q.c, q.oc) :: (q.d, od) :: (I, oI) :: (D, listOf sv.toArray ns) :: (ls, listOf #[.ref q0.d, .ref q1.d] 0) :: (lj, listOf #[.ref q0.j, .ref q1.j] 0) :: (oth ++ (othJ ++ (tab :: tl)))) B F T hdp hun hkd hw0 hw3 hs0 hs4 rfl rfl hv (news_sub N1 (by walk_at "led_sub")) ?_ X
  intro x1 dx y dy h2 tk2 m2 y1 y2 y3 y4 y5 F2 N2 hlt
  obtain ⟨c1, c2, c3, hA'⟩ := hlt
  have hA0 : ∀ r ∈ (la, listOf vs.toArray na) :: (lw, listOf [w0, w1, w2].toArray 0) :: (lp, listOf [v0, v1, v2].toArray 0) :: (x, instObj 52 d) :: (d, dictOf [ent w "cookiejar" tj (.ref q.j)] 1) :: (q.j, instObj 52 q.dj) :: (q.dj, dictOf [ent w "add_cookie_header" q.ta (.ref q.f), ent w "extract_cookies" q.te (.ref q.fe)] 2) :: (q.f, addFn q.qa q.c q.doa q.pma ca q.cta) :: (ca, oca) :: (q.fe, extFn q.qe q.c q.doe q.pme ce q.cte) :: (ce, oce) :: (q.c, q.oc) :: (q.d, od) :: (I, oI) :: (D, listOf sv.toArray ns) :: (ls, listOf #[.ref q0.d, .ref q1.d] 0) :: (lj, listOf #[.ref q0.j, .ref q1.j] 0) :: (oth ++ (othJ ++ (tab :: tl))), r ∈ (lp, listOf [v0, v1, v2].toArray 0) :: (la, listOf vs.toArray na) :: (lw, listOf [w0, w1, w2].toArray 0) :: (x, instObj 52 d) :: (d, dictOf [ent w "cookiejar" tj (.ref q.j)] 1) :: (q.j, instObj 52 q.dj) :: (q.dj, dictOf [ent w "add_cookie_header" q.ta (.ref q.f), ent w "extract_cookies" q.te (.ref q.fe)] 2) :: (q.f, addFn q.qa q.c q.doa q.pma ca q.cta) :: (ca, oca) :: (q.fe, extFn q.qe q.c q.doe q.pme ce q.cte) :: (ce, oce) :: (q.c, q.oc) :: (q.d, od) :: (I, oI) :: (D, listOf sv.toArray ns) :: (ls, listOf #[.ref q0.d, .ref q1.d] 0) :: (lj, listOf #[.ref q0.j, .ref q1.j] 0) :: (oth ++ (othJ ++ (tab :: tl))) := by walk_at "led_sub"
  have hA : ∀ r ∈ (la, listOf vs.toArray na) :: (lw, listOf [w0, w1, w2].toArray 0) :: (lp, listOf [v0, v1, v2].toArray 0) :: (x, instObj 52 d) :: (d, dictOf [ent w "cookiejar" tj (.ref q.j)] 1) :: (q.j, instObj 52 q.dj) :: (q.dj, dictOf [ent w "add_cookie_header" q.ta (.ref q.f), ent w "extract_cookies" q.te (.ref q.fe)] 2) :: (q.f, addFn q.qa q.c q.doa q.pma ca q.cta) :: (ca, oca) :: (q.fe, extFn q.qe q.c q.doe q.pme ce q.cte) :: (ce, oce) :: (q.c, q.oc) :: (q.d, od) :: (I, oI) :: (D, listOf sv.toArray ns) :: (ls, listOf #[.ref q0.d, .ref q1.d] 0) :: (lj, listOf #[.ref q0.j, .ref q1.j] 0) :: (oth ++ (othJ ++ (tab :: tl))), (r.1 : Nat) < dx := fun r hr => kst_ltOf hA' r (hA0 r hr)
  have T1 := S1.cons (p := (dx, dictOf [ent w "site" y5 (.int st t3)] 1)) fun q hq => Nat.ne_of_lt (hA q hq)
  have T2 := T1.cons (p := (x1, instObj 52 dx)) (newTo_cons (Nat.ne_of_lt c1) fun q hq => Nat.ne_of_lt (Nat.lt_trans (hA q hq) c1))
  have T3 := T2.cons (p := (dy, dictOf [ent w "name" y1 (.int (mm.fmod 4) y2), ent w "value" y3 (.int (mm.fdiv 4) y4)] 2)) (newTo_cons (Nat.ne_of_lt c2) (newTo_cons (Nat.ne_of_lt (Nat.lt_trans c1 c2)) fun q hq => Nat.ne_of_lt (Nat.lt_trans (hA q hq) (Nat.lt_trans c1 c2))))
  have T4 := T3.cons (p := (y, instObj 52 dy)) (newTo_cons (Nat.ne_of_lt c3) (newTo_cons (Nat.ne_of_lt (Nat.lt_trans c2 c3)) (newTo_cons (Nat.ne_of_lt (Nat.lt_trans c1 (Nat.lt_trans c2 c3))) fun q hq => Nat.ne_of_lt (Nat.lt_trans (hA q hq) (Nat.lt_trans c1 (Nat.lt_trans c2 c3))))))
  have hdA := (T4.perm (List.perm_middle (l₁ := [_, _, _, _, _, _, _, _, _, _, _, _, _, _, _, _]))).head
  have hlaA := (T4.perm (List.perm_middle (l₁ := [_, _, _, _]))).head
  have hxA := (T4.perm (List.perm_middle (l₁ := [_, _, _]))).head
  simp only [List.cons_append, List.nil_append] at hdA hlaA hxA
  have hret : ∀ (T na' : Nat) (od' : Obj) (kvs' : List (Int × Value)) (h' : Heap) (tk' : Nat) (m' : Str → Option Value) (z2 z3 : Tok), (∀ p ∈ [(Str.ofString "stores", Value.ref ls), (Str.ofString "jars", Value.ref lj), (Str.ofString "processors", Value.ref lp), (Str.ofString "which", Value.ref lw), (Str.ofString "past", Value.ref la)], m' p.1 = some p.2) → Fr h₀ L h' m' →
      News h₀ L h' ((T, { cls := .type "tuple", data := .seq #[.int b tb, .int st t3, .int (mm.fmod 4) z2, .int (mm.fdiv 4) z3] }) :: (la, listOf (vs ++ [Value.ref T] : List Value).toArray na') :: (lw, listOf [w0, w1, w2].toArray 0) :: (lp, listOf [v0, v1, v2].toArray 0) :: (x, instObj 52 d) :: (d, dictOf [ent w "cookiejar" tj (.ref q.j)] 1) :: (q.j, instObj 52 q.dj) :: (q.dj, dictOf [ent w "add_cookie_header" q.ta (.ref q.f), ent w "extract_cookies" q.te (.ref q.fe)] 2) :: (q.f, addFn q.qa q.c q.doa q.pma ca q.cta) :: (ca, oca) :: (q.fe, extFn q.qe q.c q.doe q.pme ce q.cte) :: (ce, oce) :: (q.c, q.oc) :: (q.d, od') :: (I, oI) :: (D, listOf sv.toArray ns) :: (ls, listOf #[.ref q0.d, .ref q1.d] 0) :: (lj, listOf #[.ref q0.j, .ref q1.j] 0) :: (oth ++ (othJ ++ (tab :: tl)))) →
      od'.IsDictOf (intKind (PySem.Challenge.rw_dn0255_02.row.prog) w) kvs' → FlatPairs PyData.int kvs' (kdfD (kdfPut (storeC past b) (4 * st + mm.fmod 4) (mm.fdiv 4))) →
      NewTo ((la, listOf vs.toArray na) :: (lw, listOf [w0, w1, w2].toArray 0) :: (lp, listOf [v0, v1, v2].toArray 0) :: (x, instObj 52 d) :: (d, dictOf [ent w "cookiejar" tj (.ref q.j)] 1) :: (q.j, instObj 52 q.dj) :: (q.dj, dictOf [ent w "add_cookie_header" q.ta (.ref q.f), ent w "extract_cookies" q.te (.ref q.fe)] 2) :: (q.f, addFn q.qa q.c q.doa q.pma ca q.cta) :: (ca, oca) :: (q.fe, extFn q.qe q.c q.doe q.pme ce q.cte) :: (ce, oce) :: (q.c, q.oc) :: (q.d, od) :: (I, oI) :: (D, listOf sv.toArray ns) :: (ls, listOf #[.ref q0.d, .ref q1.d] 0) :: (lj, listOf #[.ref q0.j, .ref q1.j] 0) :: (oth ++ (othJ ++ (tab :: tl)))) T → Qf .next { s with heap := h', toks := tk' } := by
    intro T na' od' kvs' h' tk' m' z2 z3 hm' F' N' hod' hkv' hT
    have hst' : storeC (past ++ [(b, st, mm.fmod 4, mm.fdiv 4)]) b = kdfPut (storeC past b) (4 * st + mm.fmod 4) (mm.fdiv 4) := by rw [storeC_snoc]; exact if_pos rfl
    obtain ⟨od0', od1', k0', k1', hJ'⟩ := hbackJ od' (past ++ [(b, st, mm.fmod 4, mm.fdiv 4)]) ⟨⟨tqa, hqa⟩, ⟨tqe, hqe⟩, hoc, hlo, kvs', hod', by rw [hst']; exact hkv'⟩ (fun b' hb' => by rw [storeC_snoc]; exact if_neg (Ne.symm hb'))
    have P' := (arrX (eD := (D, listOf sv.toArray ns)) (els := (ls, listOf #[.ref q0.d, .ref q1.d] 0)) (elj := (lj, listOf #[.ref q0.j, .ref q1.j] 0)) (elp := (lp, listOf [v0, v1, v2].toArray 0)) (elw := (lw, listOf [w0, w1, w2].toArray 0)) (ela := (la, listOf (vs ++ [Value.ref T] : List Value).toArray na')) (eca := (ca, oca)) (ece := (ce, oce)) (tl := tab :: (tl ++ [(T, { cls := .type "tuple", data := .seq #[.int b tb, .int st t3, .int (mm.fmod 4) z2, .int (mm.fdiv 4) z3] })])) hL hJ'.symm).symm
    simp only [List.cons_append, List.nil_append] at P'
    have U1 := S1.cons (p := (T, { cls := .type "tuple", data := .seq #[.int b tb, .int st t3, .int (mm.fmod 4) z2, .int (mm.fdiv 4) z3] })) hT
    have U2 := U1.same (l' := _ :: (la, listOf (vs ++ [Value.ref T] : List Value).toArray na') :: _ :: _ :: _ :: _ :: _ :: _ :: _ :: _ :: _ :: _ :: _ :: (q.d, od') :: _) (by rfl)
    have U3 := U2.perm (arrT (A := [_, _, _, _, _, _, _, _, _, _, _, _, _]))
    have N3 := perm_news N' (arrT (A := [_, _, _, _, _, _, _, _, _, _, _, _, _]))
    simp only [List.cons_append, List.nil_append] at U3 N3
    refine hfin _ _ _ _ _ (.inl rfl) F' N3 U3.head ⟨hm', U3.tail, v0, v1, v2, w0, w1, w2, l0, l1, l2, od0', od1', past ++ [(b, st, mm.fmod 4, mm.fdiv 4)], vs ++ [Value.ref T], na', tl ++ [_], p0, p1, p2, k0', k1', ?_, ?_, ?_, P'⟩
    · rw [List.map_append]
      exact datAll_add hdat (.tuple (vs := [.int b tb, .int st t3, .int (mm.fmod 4) z2, .int (mm.fdiv 4) z3]) (List.mem_append_right _ (.head _)) (.cons (.int _ _) (.cons (.int _ _) (.cons (.int _ _) (.cons (.int _ _) .nil)))))
    · rw [List.length_append]; simp only [List.length_cons, List.length_nil]; omega
    · intro e he
      rcases List.mem_append.mp he with he | he
      · exact hnm e he
      · rw [List.mem_singleton.mp he]
        exact ⟨(hmm.2.2.1 (by decide)).1, (hmm.2.2.1 (by decide)).2⟩
  rcases (show st = 3 ∨ st < 3 by omega) with h3 | h3
  · refine ex_val (ws := [w0, w1, w2]) (ps := [v0, v1, v2]) (dw := d) (j := q.j) (y1 := y1) (y2 := y2) (y3 := y3) (y4 := y4) (y5 := y5) (tj := tj) B F2 T hdp hun h3 hw0 hw3 hs0 hs4 rfl rfl hv hwv hoca hqa hoce hqe hoc hod hkv hlo (by omega) hvl hdA hlaA (news_sub N2 (by walk_at "led_sub")) hret X
  · refine ex_ok (past := past) (ws := [w0, w1, w2]) (ps := [v0, v1, v2]) (dw := d) (j := q.j) (y1 := y1) (y2 := y2) (y3 := y3) (y4 := y4) (y5 := y5) (tj := tj) B F2 T hdp hun h3 (hdat.mono (by intro p hp; walk_at "mem_go")) (by omega) hnm (law_seen hnm) hw0 hw3 hs0 hs4 rfl rfl hv hwv hoca hqa hoce hqe hoc hod hkv hlo (by omega) hvl hdA hlaA hxA (news_sub N2 (by walk_at "led_sub")) hret X
end
end Mine

end
section
open PySem PySem.W PyProof.Rows PySem.Calls PyProof.V
set_option Elab.async false
set_option maxRecDepth 100000
set_option maxHeartbeats 8000000
set_option linter.unusedVariables false
set_option linter.unusedSimpArgs false
namespace Mine
section
variable {w : World} {p : Program} {loose : List Str} {mean : ExcName → Option Value} {mg mb : Str → Option Value}
  {dp un : Nat} {gd : Option (List Code)} {cn : Str} {cs : Scope} {a : Addr} {ccd : Value} {cl : List (Str × Addr)} {outer : List Env} {A₀ : Around} {base h₀ : Heap} {L : Addr} {m : Str → Option Value} {s : Shared} {Q E : Value → Shared → Prop}

theorem turn_all {D ls lj lp lw la ca ce ns i I : Nat} {sv : List Value} {oca oce oI : Obj} {vsa vse : Array Value} {q0 q1 : JarC} {n : Int} {tn : Tok} {m₁ : Str → Option Value} {tab : Addr × Obj} {nx : List (Addr × Obj)} {Qf : Flow → Shared → Prop} {Ef : Value → Shared → Prop}
    (B : Below A₀ h₀ [] h₀) (F : Fr h₀ L s.heap (fun y => if y = Str.ofString "n" then some (.int n tn) else m₁ y)) (T : Top p loose mean mg mb h₀) (hdp : dp + 8 < recursionLimit) (hun : un + 200 < cLine)
    (hi : i < 64) (hoca : oca.data = .fields vsa) (hoce : oce.data = .fields vse)
    (hJ : (Inv w D ls lj lp lw la ca ce sv ns oca oce vsa vse q0 q1 tab i m₁ nx)) (hI : ∀ p ∈ nx, @Ne Nat p.1 I) (N : News h₀ L s.heap ((I, oI) :: nx))
    (hfin : ∀ fl h' tk' m' nx', fl = Flow.next ∨ fl = Flow.cont → Fr h₀ L h' m' → News h₀ L h' ((I, oI) :: nx') → (∀ p ∈ nx', @Ne Nat p.1 I) → (Inv w D ls lj lp lw la ca ce sv ns oca oce vsa vse q0 q1 tab (i + 1) m' nx') → Qf fl { s with heap := h', toks := tk' }) (X : (hd.heap_39 w.params).In h₀) :
    wpAny (model PySem.Challenge.rw_dn0255_02.row.prog w) (ktrTop dp un gd (Str.ofString "law") (defScope lawDef) L a ccd [] []) (execs turnBody (envOf (Str.ofString "law") (defScope lawDef) L a ccd)) Qf Ef s := by
  have hJ0 := hJ
  have hm := hJ.1
  have F0 := F
  rw [kst_self hm] at F0
  refine turn_head B F0 T hdp hun N ?_ X
  intro h1 tk1 t1 t2 t3 t4 F1 N1
  have b1 := (fdiv_fmod_facts n 4).2.2.1 (by decide)
  have b2 := (fdiv_fmod_facts (n.fdiv 4) 3).2.2.1 (by decide)
  have b3 := (fdiv_fmod_facts (n.fdiv 12) 4).2.2.1 (by decide)
  generalize n.fmod 4 = kd at F1 b1
  generalize (n.fdiv 4).fmod 3 = wh at F1 b2
  generalize (n.fdiv 12).fmod 4 = st at F1 b3
  generalize n.fdiv 48 = mm at F1
  obtain ⟨hw0, hw3⟩ := b2
  obtain ⟨hs0, hs4⟩ := b3
  rcases (show kd = 2 ∨ kd = 3 ∨ (kd = 0 ∨ kd = 1) by omega) with hkd | hkd | hkd
  · exact Mine.t2 (s := { s with heap := h1, toks := tk1 }) B F1 T hdp hun hw0 hw3 hs0 hs4 hi hoca hoce hJ hI N1 hfin hkd X
  · exact Mine.t3 (s := { s with heap := h1, toks := tk1 }) B F1 T hdp hun hw0 hw3 hs0 hs4 hi hoca hoce hJ hI N1 hfin hkd X
  · obtain ⟨hm, hsep, v0, v1, v2, w0, w1, w2, l0, l1, l2, od0, od1, past, vs, na, tl, p0, p1, p2, k0, k1, hdat, hpl, hnm, hperm⟩ := hJ
    obtain ⟨v, wv, l, oth, ⟨x, d, rfl, hcase⟩, hv, hwv, hL, hback⟩ := focusP p0 p1 p2 hw0 hw3
    rcases hcase with ⟨rfl, rfl⟩ | ⟨b, tb, tj, j, rfl, hb, rfl⟩
    · have P := hperm.trans (arrP (J2 := jarL w ca ce q0 od0 ++ jarL w ca ce q1 od1) (tl := tab :: tl) hL)
      simp only [List.cons_append, List.nil_append] at P
      exact tN (els := (0, oI)) (vs := vs) (na := na) (s := { s with heap := h1, toks := tk1 }) B F1 T hdp hun hw0 hw3 hs0 hs4 hi hoca hoce hJ0 hI N1 hfin hkd hv hwv P X
    · exact tX (s := { s with heap := h1, toks := tk1 }) B F1 T hdp hun hw0 hw3 hs0 hs4 hi hoca hoce hJ0 hI N1 hfin hkd p0 p1 p2 k0 k1 hdat hpl hnm hsep hperm hL hv hwv hb X
end
end Mine

end
section
open PySem PySem.W PyProof.Rows PySem.Calls PyProof.V
set_option Elab.async false
set_option maxRecDepth 100000
set_option maxHeartbeats 8000000
set_option linter.unusedVariables false
namespace Mine
local macro_rules | `(tactic| walk_at "mem_go") => `(tactic| first | (with_reducible exact List.mem_cons_self) | (with_reducible assumption) | (refine List.mem_cons_of_mem _ ?_; walk_at "mem_go") | (refine List.mem_append_left _ ?_; walk_at "mem_go") | (refine List.mem_append_right _ ?_; walk_at "mem_go"))
local macro_rules | `(tactic| walk_at "led_sub") => `(tactic| first | (refine List.forall_mem_cons.mpr ⟨by walk_at "mem_go", ?_⟩; walk_at "led_sub") | (intro q hq; first | walk_at "mem_go" | (exact nomatch hq)))


def numBody : List Stmt := forBody ((defBody lawDef).getD 8 default)
theorem rows_self {c : List (Int × Int)} (hn : (c.map (·.1)).Nodup) : ∀ {c' : List (Int × Int)}, (∀ p ∈ c', p ∈ c) → KeqRows (kdfD c) (kdfD c') true
  | [], _ => .nil
  | (k, v) :: c', h => by
    have h1 : (k, v) ∈ c := h _ (List.mem_cons_self ..)
    have h2 : kdfHas c k = true := has_iff.mpr (List.mem_map.mpr ⟨_, h1, rfl⟩)
    have h3 := kdfD_item h2
    rw [look_of hn h1] at h3
    have h4 := rows_self hn (c' := c') fun p hp => h p (List.mem_cons_of_mem _ hp)
    have h5 := KeqRows.hit (v := PyData.int v) h3 h4
    rw [show (PyData.eqv (PyData.int v) (PyData.int v) && true) = true by simp [PyData.eqv]] at h5
    exact h5
section
variable {w : World} {p : Program} {loose : List Str} {mean : ExcName → Option Value} {mg mb : Str → Option Value}
  {dp un : Nat} {gd : Option (List Code)} {cn : Str} {cs : Scope} {a : Addr} {ccd : Value} {cl : List (Str × Addr)} {outer : List Env} {A₀ : Around} {base h₀ : Heap} {L : Addr} {m : Str → Option Value} {s : Shared} {Q E : Value → Shared → Prop}

local macro_rules | `(tactic| walk_at "subscriptTail") => `(tactic| (k_here; (with_reducible show wpAny _ _ (subscriptTail _ _ (Value.ref _) (Value.int _ _)) _ _ _); k_dflt (refine' item_litK ?k1 ?k2 ?k3 ?k4 ?_ ?k6; (case k1 => is_list); (case k2 => omega); (case k3 => omega); (case k4 => assumption); (case k6 => with_unfolding_all rfl); k_whole)))
local macro_rules | `(tactic| walk_at "setItem ref int") => `(tactic| (k_here; k_dflt (refine' set_any ?k1 ?k2 ?k3 ?k4 ?k5 ?k6 ?_; (case k1 => k_asm); (case k2 => k_asm); (case k3 => k_upd); (case k4 => omega); (case k5 => omega); (case k6 => omega); k_whole); intro h' F' N'; (try k_sweep)))

theorem due_turn {b : Int} {tb : Tok} {s0 s1 sd na : Nat} {od : Obj} {kvs : List (Int × Value)} {past : List Ent} {vs : List Value} {rest : List (Addr × Obj)} {m₁ : Str → Option Value} {ls lj lp lw la : Nat} {Qf : Flow → Shared → Prop}
    (B : Below A₀ h₀ [] h₀) (F : Fr h₀ L s.heap (kstB m₁ [(Str.ofString "number", Value.int b tb), (Str.ofString "stores", Value.ref ls), (Str.ofString "jars", Value.ref lj), (Str.ofString "processors", Value.ref lp), (Str.ofString "which", Value.ref lw), (Str.ofString "past", Value.ref la)])) (T : Top p loose mean mg mb h₀) (hdp : dp + 8 < recursionLimit) (hun : un + 200 < cLine)
    (hb0 : 0 ≤ b) (hb2 : b < 2) (hsd : [Value.ref s0, Value.ref s1][b.toNat]? = some (.ref sd)) (hlo : (sd == sysModules) = false)
    (hod : od.IsDictOf (intKind (PySem.Challenge.rw_dn0255_02.row.prog) w) kvs) (hkv : FlatPairs PyData.int kvs (kdfD (storeC past b)))
    (hP : DatAll rest vs (past.map entD)) (hpl : past.length ≤ 64)
    (N : News h₀ L s.heap ((la, listOf vs.toArray na) :: (ls, listOf #[.ref s0, .ref s1] 0) :: (sd, od) :: rest))
    (hret : ∀ (h' : Heap) (tk' : Nat) (m' : Str → Option Value), (∀ p ∈ [(Str.ofString "stores", Value.ref ls), (Str.ofString "jars", Value.ref lj), (Str.ofString "processors", Value.ref lp), (Str.ofString "which", Value.ref lw), (Str.ofString "past", Value.ref la)], m' p.1 = some p.2) → Fr h₀ L h' m' →
      News h₀ L h' ((la, listOf vs.toArray na) :: (ls, listOf #[.ref s0, .ref s1] 0) :: (sd, od) :: rest) → Qf .next { s with heap := h', toks := tk' }) (X : (hd.heap_39 w.params).In h₀) :
    wpAny (model PySem.Challenge.rw_dn0255_02.row.prog w) (ktrTop dp un gd (Str.ofString "law") (defScope lawDef) L a ccd [] []) (execs numBody (envOf (Str.ofString "law") (defScope lawDef) L a ccd)) Qf (fun _ _ => False) s := by
  revert X; k_fill; intro X
  have hKst := kstMark
  simp only [numBody, forBody, defBody, defScope, lawDef, PySem.Challenge.pw_dn0255_02, List.getD_cons_zero, List.getD_cons_succ]
  repeat' ((fail_if_success (with_reducible show wpAny _ _ (exec (Stmt.For _ _ _ _ _) _) _ _ _)); (first | (k_unfold; (try dsimp only)) | (k_end; wrow_close) | walk1 | (dsimp only; walk1) | (leave1; walk_say "STEP leave1"; try dsimp only) | fail "no step"))
  rename_i d h1' o lo hs fs hi fi l1 h1 F1 N1
  obtain ⟨l1a, l1c, l1d, l1b⟩ := l1
  (k_dflt (refine' For_invVF F1 ?kx ?kp ?_; (case kx => rfl); (case kp => rfl)))
  iterate 1 (first | walk1 | (dsimp only; walk1))
  refine loop_list (fun i m nx => (∀ p ∈ [(Str.ofString "due", Value.ref d), (Str.ofString "number", Value.int b tb), (Str.ofString "stores", Value.ref ls), (Str.ofString "jars", Value.ref lj), (Str.ofString "processors", Value.ref lp), (Str.ofString "which", Value.ref lw), (Str.ofString "past", Value.ref la)], m p.1 = some p.2) ∧
      ∃ o kvs, nx = (d, o) :: (la, listOf vs.toArray na) :: (ls, listOf #[.ref s0, .ref s1] 0) :: (sd, od) :: rest ∧ o.IsDictOf (intKind (PySem.Challenge.rw_dn0255_02.row.prog) w) kvs ∧ FlatPairs PyData.int kvs (kdfD (storeC (past.take i) b)))
    rfl (List.Mem.tail _ (List.Mem.head _)) ?fix F1 N1 ?start ?turn ?done
  case fix =>
    rintro i m nx ⟨_, o', kvs', rfl, _, _⟩
    exact List.Mem.tail _ (List.Mem.head _)
  case start =>
    refine ⟨?_, o, [], rfl, hi, fi⟩
    (intro p hp; simp only [List.mem_cons, List.not_mem_nil, or_false] at hp; rcases hp with rfl | rfl | rfl | rfl | rfl | rfl | rfl <;> rfl)
  case turn =>
    rintro i v m₁ nx h2 tk2 I oI hv ⟨hm, o2, kvs2, rfl, hd2, hf2⟩ hnI F2 N2
    have hlt : i < past.length := by
      have := (List.getElem?_eq_some_iff.mp hv).1
      have := hP.length
      simp only [List.length_map] at this
      omega
    obtain ⟨v', hv', hdv⟩ := hP.get (k := i) (by simpa using hlt)
    rw [hv] at hv'
    obtain rfl := Option.some.inj hv'
    rw [take_one hlt, storeC_snoc]
    rw [List.getElem_map] at hdv
    have hlc := storeC_len (past.take i) b
    have htl : (past.take i).length ≤ 64 := by rw [List.length_take]; omega
    generalize hc : storeC (past.take i) b = cc at hf2 hlc ⊢
    generalize hpi : past[i] = ee at hdv ⊢
    obtain ⟨e1, e2, e3, e4⟩ := ee
    unfold entD at hdv
    cases hdv with
    | tuple hm1 hr1 =>
      cases hr1 with
      | cons q1 hr1 => cases hr1 with
        | cons q2 hr1 => cases hr1 with
          | cons q3 hr1 => cases hr1 with
            | cons q4 hr1 =>
              cases hr1
              cases q1
              cases q2
              cases q3
              cases q4
              rw [kst_self hm] at F2
              rename_i av nv ta tb tc td
              replace F2 : Fr h₀ L _ _ := F2
              replace N2 : News h₀ L _ (_ :: (I, oI) :: (d, o2) :: (la, listOf vs.toArray na) :: (ls, listOf #[.ref s0, .ref s1] 0) :: (sd, od) :: rest) := List.forall_mem_cons.mpr ⟨N2 _ (List.mem_cons_of_mem _ (List.mem_cons_of_mem _ (List.mem_cons_of_mem _ (List.mem_cons_of_mem _ (List.mem_cons_of_mem _ hm1))))), N2⟩
              have hoD : OwnOff rest [d] := fun p hp b hb => by rw [List.mem_singleton.mp hb]; exact Nat.ne_of_lt (kst_ltOf l1b p hp)
              have hId : @Ne Nat d I := hnI _ (List.Mem.head _)
              have had : @Ne Nat av d := Nat.ne_of_lt (kst_ltOf l1b _ hm1)
              have hnI' : ∀ o' : Obj, ∀ p ∈ (d, o') :: (la, listOf vs.toArray na) :: (ls, listOf #[.ref s0, .ref s1] 0) :: (sd, od) :: rest, p.1 ≠ I := fun o' => List.forall_mem_cons.mpr ⟨hnI (d, o2) (List.Mem.head _), fun p hp => hnI p (List.mem_cons_of_mem _ hp)⟩
              dsimp only at N2 ⊢
              repeat' ((fail_if_success (with_reducible show TurnEnd _ _ _ _ _ _ _ _ _)); (first | (k_unfold; (try dsimp only)) | (k_end; wrow_close) | walk1 | (dsimp only; walk1) | (leave1; walk_say "STEP leave1"; try dsimp only) | fail "no step"))
              · rename_i hj h9 o9 kvs9 F9 N9 hd9 hf9
                refine turn_next F9 (news_tail N9) (hnI' _) ⟨?_, o9, kvs9, rfl, hd9, ?_⟩
                · (intro p hp; simp only [List.mem_cons, List.not_mem_nil, or_false] at hp; rcases hp with rfl | rfl | rfl | rfl | rfl | rfl | rfl <;> rfl)
                · have e : storeS b cc (e1, e2, e3, e4) = kdfPut cc (4 * e2 + e3) e4 := by unfold storeS; exact if_pos hj
                  rw [e]; exact hf9
              · rename_i hj
                refine turn_next F2 (news_tail N2) (hnI' _) ⟨?_, o2, kvs2, rfl, hd2, ?_⟩
                · (intro p hp; simp only [List.mem_cons, List.not_mem_nil, or_false] at hp; rcases hp with rfl | rfl | rfl | rfl | rfl | rfl | rfl <;> rfl)
                · have e : storeS b cc (e1, e2, e3, e4) = cc := by unfold storeS; exact if_neg hj
                  rw [e]; exact hf2
  case done =>
    rintro m₁ nx h2 tk2 ⟨hm, o2, kvs2, rfl, hd2, hf2⟩ F2 N2
    replace F2 : Fr h₀ L _ _ := F2
    replace N2 : News h₀ L _ ((d, o2) :: (la, listOf vs.toArray na) :: (ls, listOf #[.ref s0, .ref s1] 0) :: (sd, od) :: rest) := N2
    rw [kst_self hm] at F2
    have hvl : vs.length = past.length := by have := hP.length; simpa using this
    rw [hvl, List.take_length] at hf2
    dsimp only
    repeat' ((fail_if_success (with_reducible show wpAny _ _ (compareOp CmpOp.NotEq (Value.ref sd) _) _ _ _)); (first | (k_unfold; (try dsimp only)) | (k_end; wrow_close) | walk1 | (dsimp only; walk1) | (leave1; walk_say "STEP leave1"; try dsimp only) | fail "no step"))
    refine kne_tabs (knd := intKind _ _) (enc := PyData.int) (r := true) PyProof.V.same_int ⟨hlo, kvs, Heap.dictOf_iff.mpr ⟨od, (N2 (sd, od) (by walk_at "mem_go")).1, hod⟩, hkv⟩ ⟨lo, kvs2, Heap.dictOf_iff.mpr ⟨o2, (N2 (d, o2) (by walk_at "mem_go")).1, hd2⟩, hf2⟩ rfl (by ktr_units) (rows_self (storeC_nodup _ _) fun _ h => h) ?_
    repeat' ((fail_if_success (with_reducible show Qf _ _)); (first | (k_unfold; (try dsimp only)) | (k_end; wrow_close) | walk1 | (dsimp only; walk1) | (leave1; walk_say "STEP leave1"; try dsimp only) | fail "no step"))
    rename News _ _ _ _ => N7
    rename Fr _ _ _ _ => F7
    exact hret _ _ _ (by simp only [List.forall_mem_cons]; exact ⟨rfl, rfl, rfl, rfl, rfl, fun _ h => nomatch h⟩) F7 (news_sub N7 (by walk_at "led_sub"))

end
end Mine

end
section
open PySem PySem.W PyProof.Rows PySem.Calls PyProof.V
set_option Elab.async false
set_option maxRecDepth 100000
set_option maxHeartbeats 8000000
set_option linter.unusedVariables false
namespace Mine
local macro_rules | `(tactic| walk_at "mem_go") => `(tactic| first | (with_reducible exact List.mem_cons_self) | (with_reducible assumption) | (refine List.mem_cons_of_mem _ ?_; walk_at "mem_go") | (refine List.mem_append_left _ ?_; walk_at "mem_go") | (refine List.mem_append_right _ ?_; walk_at "mem_go"))
local macro_rules | `(tactic| walk_at "led_sub") => `(tactic| first | (refine List.forall_mem_cons.mpr ⟨by walk_at "mem_go", ?_⟩; walk_at "led_sub") | (intro q hq; first | walk_at "mem_go" | (exact nomatch hq)))


def lawEnd : List Stmt := (defBody lawDef).drop 8
theorem permA {a b c i d : Addr × Obj} {R : List (Addr × Obj)} : (a :: b :: c :: i :: d :: R).Perm (i :: a :: b :: c :: d :: R) := by
  (have hbp := blocks_perm [[a, b, c], [i], [d], R] (show List.Perm [0, 1, 2, 3] [1, 0, 2, 3] by decide); simpa only [List.map_cons, List.map_nil, List.flatten_cons, List.flatten_nil, List.getD_cons_zero, List.getD_cons_succ, List.cons_append, List.nil_append, List.append_nil, List.append_assoc] using hbp)
theorem permB {a b c i d : Addr × Obj} {R : List (Addr × Obj)} : (a :: b :: c :: i :: d :: R).Perm (i :: a :: b :: d :: c :: R) := by
  (have hbp := blocks_perm [[a, b], [c], [i], [d], R] (show List.Perm [0, 1, 2, 3, 4] [2, 0, 3, 1, 4] by decide); simpa only [List.map_cons, List.map_nil, List.flatten_cons, List.flatten_nil, List.getD_cons_zero, List.getD_cons_succ, List.cons_append, List.nil_append, List.append_nil, List.append_assoc] using hbp)
section
variable {w : World} {p : Program} {loose : List Str} {mean : ExcName → Option Value} {mg mb : Str → Option Value}
  {dp un : Nat} {gd : Option (List Code)} {cn : Str} {cs : Scope} {a : Addr} {ccd : Value} {cl : List (Str × Addr)} {outer : List Env} {A₀ : Around} {base h₀ : Heap} {L : Addr} {m : Str → Option Value} {s : Shared} {Q E : Value → Shared → Prop}

local macro_rules | `(tactic| walk_at "subscriptTail") => `(tactic| (k_here; (with_reducible show wpAny _ _ (subscriptTail _ _ (Value.ref _) (Value.int _ _)) _ _ _); k_dflt (refine' item_litK ?k1 ?k2 ?k3 ?k4 ?_ ?k6; (case k1 => is_list); (case k2 => omega); (case k3 => omega); (case k4 => assumption); (case k6 => with_unfolding_all rfl); k_whole)))
local macro_rules | `(tactic| walk_at "setItem ref int") => `(tactic| (k_here; k_dflt (refine' set_any ?k1 ?k2 ?k3 ?k4 ?k5 ?k6 ?_; (case k1 => k_asm); (case k2 => k_asm); (case k3 => k_upd); (case k4 => omega); (case k5 => omega); (case k6 => omega); k_whole); intro h' F' N'; (try k_sweep)))

theorem law_end {s0 s1 na : Nat} {od0 od1 : Obj} {kvs0 kvs1 : List (Int × Value)} {past : List Ent} {vs : List Value} {rest : List (Addr × Obj)} {m₁ : Str → Option Value} {ls lj lp lw la : Nat} {Qf : Flow → Shared → Prop}
    (B : Below A₀ h₀ [] h₀) (F : Fr h₀ L s.heap (kstB m₁ [(Str.ofString "stores", Value.ref ls), (Str.ofString "jars", Value.ref lj), (Str.ofString "processors", Value.ref lp), (Str.ofString "which", Value.ref lw), (Str.ofString "past", Value.ref la)])) (T : Top p loose mean mg mb h₀) (hdp : dp + 8 < recursionLimit) (hun : un + 200 < cLine)
    (hlo0 : (s0 == sysModules) = false) (hod0 : od0.IsDictOf (intKind (PySem.Challenge.rw_dn0255_02.row.prog) w) kvs0) (hkv0 : FlatPairs PyData.int kvs0 (kdfD (storeC past 0)))
    (hlo1 : (s1 == sysModules) = false) (hod1 : od1.IsDictOf (intKind (PySem.Challenge.rw_dn0255_02.row.prog) w) kvs1) (hkv1 : FlatPairs PyData.int kvs1 (kdfD (storeC past 1)))
    (hP : DatAll rest vs (past.map entD)) (hpl : past.length ≤ 64)
    (N : News h₀ L s.heap ((la, listOf vs.toArray na) :: (ls, listOf #[.ref s0, .ref s1] 0) :: (s0, od0) :: (s1, od1) :: rest))
    (hret : ∀ (h' : Heap) (tk' : Nat) (m' : Str → Option Value), Fr h₀ L h' m' → News h₀ L h' rest → Qf (.ret (.bool true)) { s with heap := h', toks := tk' }) (X : (hd.heap_39 w.params).In h₀) :
    wpAny (model PySem.Challenge.rw_dn0255_02.row.prog w) (ktrTop dp un gd (Str.ofString "law") (defScope lawDef) L a ccd [] []) (execs lawEnd (envOf (Str.ofString "law") (defScope lawDef) L a ccd)) Qf (fun _ _ => False) s := by
  revert X; k_fill; intro X
  have hKst := kstMark
  simp only [lawEnd, defBody, defScope, lawDef, PySem.Challenge.pw_dn0255_02, List.getD_cons_zero, List.getD_cons_succ, List.drop_succ_cons, List.drop_zero]
  repeat' ((fail_if_success (with_reducible show wpAny _ _ (execs (Stmt.Assign _ _ _ :: _) _) _ _ _)); (first | (k_unfold; (try dsimp only)) | (k_end; wrow_close) | walk1 | (dsimp only; walk1) | (leave1; walk_say "STEP leave1"; try dsimp only) | fail "no step"))
  rename News _ _ _ _ => N7
  rename Fr _ _ _ _ => F7
  have hNx := news_sub N7 (l' := (la, listOf vs.toArray na) :: (ls, listOf #[.ref s0, .ref s1] 0) :: (s0, od0) :: _ :: (s1, od1) :: rest) (by walk_at "led_sub")
  refine wpAny_noRaise (due_turn (b := 0) (s0 := s0) (s1 := s1) (sd := s0) (od := od0) B (fr_self _ (by simp only [List.forall_mem_cons]; exact ⟨rfl, rfl, rfl, rfl, rfl, rfl, fun _ h => nomatch h⟩) F7) T hdp hun (by decide) (by decide) rfl hlo0 hod0 hkv0 (hP.mono (by intro q hq; walk_at "mem_go")) hpl hNx ?_ X)
  intro h2 tk2 m2 hm2 F2 N2
  rw [kst_self hm2] at F2
  replace N2 := perm_news N2 permA
  clear N7 F7 hNx
  repeat' ((fail_if_success (with_reducible show UnrEnd _ _ _ _ _ _ _)); (first | (k_unfold; (try dsimp only)) | (k_end; wrow_close) | walk1 | (dsimp only; walk1) | (leave1; walk_say "STEP leave1"; try dsimp only) | fail "no step"))
  rename (@LT.lt Nat _ la _) ∧ _ => hal
  refine UnrEnd.intro F2 N2 ((la, listOf vs.toArray na) :: (ls, listOf #[.ref s0, .ref s1] 0) :: (s0, od0) :: (s1, od1) :: rest) (fun p hp => hp) (newTo_lt hal) ?_
  repeat' ((fail_if_success (with_reducible show wpAny _ _ (execs (Stmt.Assign _ _ _ :: _) _) _ _ _)); (first | (k_unfold; (try dsimp only)) | (k_end; wrow_close) | walk1 | (dsimp only; walk1) | (leave1; walk_say "STEP leave1"; try dsimp only) | fail "no step"))
  rename News _ _ _ _ => N7
  rename Fr _ _ _ _ => F7
  have hNx := news_sub N7 (l' := (la, listOf vs.toArray na) :: (ls, listOf #[.ref s0, .ref s1] 0) :: (s1, od1) :: _ :: (s0, od0) :: rest) (by walk_at "led_sub")
  refine wpAny_noRaise (due_turn (b := 1) (s0 := s0) (s1 := s1) (sd := s1) (od := od1) B (fr_self _ (by simp only [List.forall_mem_cons]; exact ⟨rfl, rfl, rfl, rfl, rfl, rfl, fun _ h => nomatch h⟩) F7) T hdp hun (by decide) (by decide) rfl hlo1 hod1 hkv1 (hP.mono (by intro q hq; walk_at "mem_go")) hpl hNx ?_ X)
  intro h3 tk3 m3 hm3 F3 N3
  rw [kst_self hm3] at F3
  replace N3 := perm_news N3 permB
  clear N7 F7 hNx
  repeat' ((fail_if_success (with_reducible show UnrEnd _ _ _ _ _ _ _)); (first | (k_unfold; (try dsimp only)) | (k_end; wrow_close) | walk1 | (dsimp only; walk1) | (leave1; walk_say "STEP leave1"; try dsimp only) | fail "no step"))
  rename (@LT.lt Nat _ la _) ∧ _ => hal
  refine UnrEnd.intro F3 N3 ((la, listOf vs.toArray na) :: (ls, listOf #[.ref s0, .ref s1] 0) :: (s0, od0) :: (s1, od1) :: rest) (fun p hp => hp) (newTo_lt hal) ?_
  repeat' ((fail_if_success (with_reducible show Qf _ _)); (first | (k_unfold; (try dsimp only)) | (k_end; wrow_close) | walk1 | (dsimp only; walk1) | (leave1; walk_say "STEP leave1"; try dsimp only) | fail "no step"))
  rename News _ _ _ _ => N7
  rename Fr _ _ _ _ => F7
  exact hret _ _ _ F7 (news_sub N7 (by walk_at "led_sub"))

end
end Mine

end
section
open PySem PySem.W PyProof.Rows PySem.Calls PyProof.V
set_option Elab.async false
set_option maxRecDepth 100000
set_option maxHeartbeats 8000000
set_option linter.unusedVariables false
namespace Mine
local macro_rules | `(tactic| walk_at "mem_go") => `(tactic| first | (with_reducible exact List.mem_cons_self) | (with_reducible assumption) | (refine List.mem_cons_of_mem _ ?_; walk_at "mem_go") | (refine List.mem_append_left _ ?_; walk_at "mem_go") | (refine List.mem_append_right _ ?_; walk_at "mem_go"))
local macro_rules | `(tactic| walk_at "led_sub") => `(tactic| first | (refine List.forall_mem_cons.mpr ⟨by walk_at "mem_go", ?_⟩; walk_at "led_sub") | (intro q hq; first | walk_at "mem_go" | (exact nomatch hq)))


def lawTail : List Stmt := (defBody lawDef).drop 7
section
variable {w : World} {p : Program} {loose : List Str} {mean : ExcName → Option Value} {mg mb : Str → Option Value}
  {dp un : Nat} {gd : Option (List Code)} {cn : Str} {cs : Scope} {a : Addr} {ccd : Value} {cl : List (Str × Addr)} {outer : List Env} {A₀ : Around} {base h₀ : Heap} {L : Addr} {m : Str → Option Value} {s : Shared} {Q E : Value → Shared → Prop}

local macro_rules | `(tactic| walk_at "subscriptTail") => `(tactic| (k_here; (with_reducible show wpAny _ _ (subscriptTail _ _ (Value.ref _) (Value.int _ _)) _ _ _); k_dflt (refine' item_litK ?k1 ?k2 ?k3 ?k4 ?_ ?k6; (case k1 => is_list); (case k2 => omega); (case k3 => omega); (case k4 => assumption); (case k6 => with_unfolding_all rfl); k_whole)))
local macro_rules | `(tactic| walk_at "setItem ref int") => `(tactic| (k_here; k_dflt (refine' set_any ?k1 ?k2 ?k3 ?k4 ?k5 ?k6 ?_; (case k1 => k_asm); (case k2 => k_asm); (case k3 => k_upd); (case k4 => omega); (case k5 => omega); (case k6 => omega); k_whole); intro h' F' N'; (try k_sweep)))

theorem law_tail {D ls lj lp lw la ca ce ns : Nat} {sv : List Value} {oca oce : Obj} {vsa vse : Array Value} {q0 q1 : JarC} {m₁ : Str → Option Value} {tab : Addr × Obj} {nx : List (Addr × Obj)} {Qf : Flow → Shared → Prop}
    (B : Below A₀ h₀ [] h₀) (F : Fr h₀ L s.heap (kstB m₁ [(Str.ofString "script", Value.ref D), (Str.ofString "stores", Value.ref ls), (Str.ofString "jars", Value.ref lj), (Str.ofString "processors", Value.ref lp), (Str.ofString "which", Value.ref lw), (Str.ofString "past", Value.ref la)])) (T : Top p loose mean mg mb h₀) (hdp : dp + 8 < recursionLimit) (hun : un + 200 < cLine)
    (hoca : oca.data = .fields vsa) (hoce : oce.data = .fields vse) (hsv : ∀ v ∈ sv, ∃ n t, v = Value.int n t) (hsl : sv.length ≤ 32)
    (hJ : (Inv w D ls lj lp lw la ca ce sv ns oca oce vsa vse q0 q1 tab 0 (kstB m₁ [(Str.ofString "script", Value.ref D), (Str.ofString "stores", Value.ref ls), (Str.ofString "jars", Value.ref lj), (Str.ofString "processors", Value.ref lp), (Str.ofString "which", Value.ref lw), (Str.ofString "past", Value.ref la)]) nx)) (N : News h₀ L s.heap nx)
    (hret : ∀ (h' : Heap) (tk' : Nat) (m' : Str → Option Value), Fr h₀ L h' m' → News h₀ L h' [tab] → Qf (.ret (.bool true)) { s with heap := h', toks := tk' }) (X : (hd.heap_39 w.params).In h₀) :
    wpAny (model PySem.Challenge.rw_dn0255_02.row.prog w) (ktrTop dp un gd (Str.ofString "law") (defScope lawDef) L a ccd [] []) (execs lawTail (envOf (Str.ofString "law") (defScope lawDef) L a ccd)) Qf (fun _ _ => False) s := by
  revert X; k_fill; intro X
  have hKst := kstMark
  simp only [lawTail, defBody, defScope, lawDef, PySem.Challenge.pw_dn0255_02, List.getD_cons_zero, List.getD_cons_succ, List.drop_succ_cons, List.drop_zero]
  repeat' ((fail_if_success (with_reducible show wpAny _ _ (exec (Stmt.For _ _ _ _ _) _) _ _ _)); (first | (k_unfold; (try dsimp only)) | (k_end; wrow_close) | walk1 | (dsimp only; walk1) | (leave1; walk_say "STEP leave1"; try dsimp only) | fail "no step"))
  (k_dflt (refine' For_invVF F ?kx ?kp ?_; (case kx => rfl); (case kp => rfl)))
  iterate 1 (first | walk1 | (dsimp only; walk1))
  have hD : ∀ i m nx, (Inv w D ls lj lp lw la ca ce sv ns oca oce vsa vse q0 q1 tab i m nx) → (D, listOf sv.toArray ns) ∈ nx := by
    rintro i m nx ⟨_, _, v0, v1, v2, w0, w1, w2, l0, l1, l2, od0, od1, past, vs, na, tl, p0, p1, p2, k0, k1, hdat, hpl, hnm, hperm⟩
    exact hperm.mem_iff.mpr (List.mem_append_left _ (List.mem_cons_self ..))
  refine loop_list (l := D) (vs := sv) (nn := ns) (fun i m nx => (Inv w D ls lj lp lw la ca ce sv ns oca oce vsa vse q0 q1 tab i m nx)) rfl (hD _ _ _ hJ) hD F N hJ ?turn ?done
  case turn =>
    intro i v m₁ nx h2 tk2 I oI hv hJ hnI F2 N2
    obtain ⟨n, t, rfl⟩ := hsv v (List.mem_of_getElem? hv)
    have hlt := (List.getElem?_eq_some_iff.mp hv).1
    exact turn_all B F2 T hdp hun (by omega) hoca hoce hJ hnI N2 (fun fl h' tk' m' nx' hfl F' N' hI' hJ' => by
      rcases hfl with rfl | rfl
      · exact turn_next F' N' hI' hJ'
      · exact turn_cont F' N' hI' hJ') X
  case done =>
    rintro m₁ nx h2 tk2 ⟨hm, _, v0, v1, v2, w0, w1, w2, l0, l1, l2, od0, od1, past, vs, na, tl, p0, p1, p2, ⟨_, _, _, hlo0, kvs0, hod0, hkv0⟩, ⟨_, _, _, hlo1, kvs1, hod1, hkv1⟩, hdat, hpl, hnm, hperm⟩ F2 N2
    have N3 := perm_news N2 hperm
    have F3 : Fr h₀ L _ _ := F2
    rw [kst_self hm] at F3
    dsimp only
    refine wpAny_noRaise (law_end (s0 := q0.d) (s1 := q1.d) (od0 := od0) (od1 := od1) (na := na) (rest := tab :: tl) B F3 T hdp hun hlo0 hod0 hkv0 hlo1 hod1 hkv1 hdat (by omega) (news_sub N3 ?_) ?_ X)
    · simp only [headL, jarL]
      walk_at "led_sub"
    · intro h' tk' m' F' N'
      exact hret _ _ _ F' (news_sub N' (by walk_at "led_sub"))

end
end Mine

end
section
open PySem PySem.W PyProof.Rows PySem.Calls PyProof.V
set_option Elab.async false
set_option maxRecDepth 100000
set_option maxHeartbeats 8000000
set_option linter.unusedVariables false
namespace Mine


def Desc : List (Addr × Obj) → Prop
  | [] => True
  | [_] => True
  | a :: b :: l => @LT.lt Nat _ b.1 a.1 ∧ Desc (b :: l)
theorem desc_lt : ∀ {a : Addr × Obj} {l : List (Addr × Obj)}, Desc (a :: l) → ∀ q ∈ l, @LT.lt Nat _ q.1 a.1
  | _, [], _ => fun _ h => nomatch h
  | _, b :: l, h => List.forall_mem_cons.mpr ⟨h.1, fun q hq => Nat.lt_trans (desc_lt h.2 q hq) h.1⟩
theorem desc_sep : ∀ {l : List (Addr × Obj)}, Desc l → Sep l
  | [], _ => List.nodup_nil
  | [a], _ => by unfold Sep; simp
  | a :: b :: l, h => (desc_sep h.2).cons fun q hq => Nat.ne_of_lt (desc_lt h q hq)
theorem arrS {v0 v1 v2 v3 v4 v5 v6 v7 v8 v9 v10 v11 v12 v13 v14 v15 v16 v17 v18 v19 v20 v21 v22 v23 v24 v25 v26 : Addr × Obj} : [v0, v1, v2, v3, v4, v5, v6, v7, v8, v9, v10, v11, v12, v13, v14, v15, v16, v17, v18, v19, v20, v21, v22, v23, v24, v25, v26].Perm [v5, v4, v3, v12, v13, v10, v11, v8, v9, v2, v23, v22, v20, v21, v24, v17, v7, v16, v6, v14, v15, v18, v1, v25, v19, v0, v26] := by
  (have hbp := blocks_perm [[v0], [v1], [v2], [v3], [v4], [v5], [v6], [v7], [v8], [v9], [v10], [v11], [v12], [v13], [v14], [v15], [v16], [v17], [v18], [v19], [v20], [v21], [v22], [v23], [v24], [v25], [v26]] (show List.Perm [0, 1, 2, 3, 4, 5, 6, 7, 8, 9, 10, 11, 12, 13, 14, 15, 16, 17, 18, 19, 20, 21, 22, 23, 24, 25, 26] [5, 4, 3, 12, 13, 10, 11, 8, 9, 2, 23, 22, 20, 21, 24, 17, 7, 16, 6, 14, 15, 18, 1, 25, 19, 0, 26] by decide); simpa only [List.map_cons, List.map_nil, List.flatten_cons, List.flatten_nil, List.getD_cons_zero, List.getD_cons_succ, List.cons_append, List.nil_append, List.append_nil, List.append_assoc] using hbp)
theorem ints_all : ∀ {vs : List Value} {is : List Int}, IntsAre vs is → (∀ v ∈ vs, ∃ n t, v = Value.int n t) ∧ vs.length = is.length
  | _, _, .nil => ⟨(fun _ h => nomatch h), rfl⟩
  | _, _, .cons n t h => ⟨List.forall_mem_cons.mpr ⟨⟨n, t, rfl⟩, (ints_all h).1⟩, by simp [(ints_all h).2]⟩
section
variable {w : World} {p : Program} {loose : List Str} {mean : ExcName → Option Value} {mg mb : Str → Option Value}
  {dp un : Nat} {gd : Option (List Code)} {cn : Str} {cs : Scope} {a : Addr} {ccd : Value} {cl : List (Str × Addr)} {outer : List Env} {A₀ : Around} {base h₀ : Heap} {L : Addr} {m : Str → Option Value} {s : Shared} {Q E : Value → Shared → Prop}

theorem law_start {D ls lj lp lw la ca ce ns x0 x1 x2 e0 e1 e2 j0 dj0 f0 fe0 c0 d0 j1 dj1 f1 fe1 c1 d1 : Nat} {sv : List Value} {oca oce oc0 oc1 od0 od1 : Obj} {vsa vse : Array Value} {tqa tqe tw0 tw1 tw2 tj0 tj1 tj2 ta0 te0 ta1 te1 tqa' tqe' : Tok} {qa0 qe0 qa1 qe1 : Str}
    {doa0 pma0 cta0 doe0 pme0 cte0 doa1 pma1 cta1 doe1 pme1 cte1 : Value} {tab : Addr × Obj} {mF : Str → Option Value} {is : List Int} {Qf : Flow → Shared → Prop}
    (B : Below A₀ h₀ [] h₀) (F : Fr h₀ L s.heap mF) (T : Top p loose mean mg mb h₀) (N : News h₀ L s.heap [(la, listOf #[] 0), (lw, listOf #[.int 0 tw0, .int 1 tw1, .int 0 tw2] 0), (lp, listOf #[.ref x0, .ref x1, .ref x2] 0), (x2, instObj 52 e2), (e2, dictOf [ent w "cookiejar" tj2 (.ref j0)] 1), (x1, instObj 52 e1), (e1, dictOf [ent w "cookiejar" tj1 (.ref j1)] 1), (x0, instObj 52 e0), (e0, dictOf [ent w "cookiejar" tj0 (.ref j0)] 1), (lj, listOf #[.ref j0, .ref j1] 0), (fe1, extFn qe1 c1 doe1 pme1 ce cte1), (f1, addFn qa1 c1 doa1 pma1 ca cta1), (j1, instObj 52 dj1), (dj1, dictOf [ent w "add_cookie_header" ta1 (.ref f1), ent w "extract_cookies" te1 (.ref fe1)] 2), (c1, oc1), (fe0, extFn qe0 c0 doe0 pme0 ce cte0), (ce, oce), (f0, addFn qa0 c0 doa0 pma0 ca cta0), (ca, oca), (j0, instObj 52 dj0), (dj0, dictOf [ent w "add_cookie_header" ta0 (.ref f0), ent w "extract_cookies" te0 (.ref fe0)] 2), (c0, oc0), (ls, listOf #[.ref d0, .ref d1] 0), (d1, od1), (d0, od0), (D, listOf sv.toArray ns), tab]) (hdp : dp + 8 < recursionLimit) (hun : un + 200 < cLine)
    (hmF : ∀ p ∈ [(Str.ofString "script", Value.ref D), (Str.ofString "stores", Value.ref ls), (Str.ofString "jars", Value.ref lj), (Str.ofString "processors", Value.ref lp), (Str.ofString "which", Value.ref lw), (Str.ofString "past", Value.ref la)], mF p.1 = some p.2) (hS : Desc [(la, listOf #[] 0), (lw, listOf #[.int 0 tw0, .int 1 tw1, .int 0 tw2] 0), (lp, listOf #[.ref x0, .ref x1, .ref x2] 0), (x2, instObj 52 e2), (e2, dictOf [ent w "cookiejar" tj2 (.ref j0)] 1), (x1, instObj 52 e1), (e1, dictOf [ent w "cookiejar" tj1 (.ref j1)] 1), (x0, instObj 52 e0), (e0, dictOf [ent w "cookiejar" tj0 (.ref j0)] 1), (lj, listOf #[.ref j0, .ref j1] 0), (fe1, extFn qe1 c1 doe1 pme1 ce cte1), (f1, addFn qa1 c1 doa1 pma1 ca cta1), (j1, instObj 52 dj1), (dj1, dictOf [ent w "add_cookie_header" ta1 (.ref f1), ent w "extract_cookies" te1 (.ref fe1)] 2), (c1, oc1), (fe0, extFn qe0 c0 doe0 pme0 ce cte0), (ce, oce), (f0, addFn qa0 c0 doa0 pma0 ca cta0), (ca, oca), (j0, instObj 52 dj0), (dj0, dictOf [ent w "add_cookie_header" ta0 (.ref f0), ent w "extract_cookies" te0 (.ref fe0)] 2), (c0, oc0), (ls, listOf #[.ref d0, .ref d1] 0), (d1, od1), (d0, od0), (D, listOf sv.toArray ns), tab])
    (hoca : oca.data = .fields vsa) (hoce : oce.data = .fields vse) (hq1 : vsa[1]? = some (.str qa0 tqa)) (hq2 : vse[1]? = some (.str qe0 tqe)) (hq3 : vsa[1]? = some (.str qa1 tqa')) (hq4 : vse[1]? = some (.str qe1 tqe'))
    (hc0 : oc0.data = .cell (some (.ref d0))) (hc1 : oc1.data = .cell (some (.ref d1)))
    (hl0 : (d0 == sysModules) = false) (hl1 : (d1 == sysModules) = false) (hd0 : od0.IsDictOf (intKind (PySem.Challenge.rw_dn0255_02.row.prog) w) []) (hd1 : od1.IsDictOf (intKind (PySem.Challenge.rw_dn0255_02.row.prog) w) [])
    (hsv : IntsAre sv is) (hsl : is.length ≤ 32)
    (hret : ∀ (h' : Heap) (tk' : Nat) (m' : Str → Option Value), Fr h₀ L h' m' → News h₀ L h' [tab] → Qf (.ret (.bool true)) { s with heap := h', toks := tk' }) (X : (hd.heap_39 w.params).In h₀) :
    wpAny (model PySem.Challenge.rw_dn0255_02.row.prog w) (ktrTop dp un gd (Str.ofString "law") (defScope lawDef) L a ccd [] []) (execs lawTail (envOf (Str.ofString "law") (defScope lawDef) L a ccd)) Qf (fun _ _ => False) s := by
  have S := desc_sep hS
  have hPm : ∀ p ∈ [(Str.ofString "stores", Value.ref ls), (Str.ofString "jars", Value.ref lj), (Str.ofString "processors", Value.ref lp), (Str.ofString "which", Value.ref lw), (Str.ofString "past", Value.ref la)], mF p.1 = some p.2 := fun p hp => hmF p (List.mem_cons_of_mem _ hp)
  have F1 := F
  rw [kst_self hmF] at F1
  let q0 : JarC := ⟨j0, dj0, f0, fe0, c0, d0, oc0, ta0, te0, qa0, qe0, doa0, pma0, cta0, doe0, pme0, cte0⟩
  let q1 : JarC := ⟨j1, dj1, f1, fe1, c1, d1, oc1, ta1, te1, qa1, qe1, doa1, pma1, cta1, doe1, pme1, cte1⟩
  obtain ⟨hv1, hv2⟩ := ints_all hsv
  have P : (headL D ls lj lp lw la ca ce sv ns oca oce q0 q1 [] [.int 0 tw0, .int 1 tw1, .int 0 tw2] [.ref x0, .ref x1, .ref x2] 0 ++ (([(x0, instObj 52 e0), (e0, dictOf [ent w "cookiejar" tj0 (.ref j0)] 1)] ++ ([(x1, instObj 52 e1), (e1, dictOf [ent w "cookiejar" tj1 (.ref j1)] 1)] ++ [(x2, instObj 52 e2), (e2, dictOf [ent w "cookiejar" tj2 (.ref j0)] 1)])) ++ ((jarL w ca ce q0 od0 ++ jarL w ca ce q1 od1) ++ [tab]))).Perm [(la, listOf #[] 0), (lw, listOf #[.int 0 tw0, .int 1 tw1, .int 0 tw2] 0), (lp, listOf #[.ref x0, .ref x1, .ref x2] 0), (x2, instObj 52 e2), (e2, dictOf [ent w "cookiejar" tj2 (.ref j0)] 1), (x1, instObj 52 e1), (e1, dictOf [ent w "cookiejar" tj1 (.ref j1)] 1), (x0, instObj 52 e0), (e0, dictOf [ent w "cookiejar" tj0 (.ref j0)] 1), (lj, listOf #[.ref j0, .ref j1] 0), (fe1, extFn qe1 c1 doe1 pme1 ce cte1), (f1, addFn qa1 c1 doa1 pma1 ca cta1), (j1, instObj 52 dj1), (dj1, dictOf [ent w "add_cookie_header" ta1 (.ref f1), ent w "extract_cookies" te1 (.ref fe1)] 2), (c1, oc1), (fe0, extFn qe0 c0 doe0 pme0 ce cte0), (ce, oce), (f0, addFn qa0 c0 doa0 pma0 ca cta0), (ca, oca), (j0, instObj 52 dj0), (dj0, dictOf [ent w "add_cookie_header" ta0 (.ref f0), ent w "extract_cookies" te0 (.ref fe0)] 2), (c0, oc0), (ls, listOf #[.ref d0, .ref d1] 0), (d1, od1), (d0, od0), (D, listOf sv.toArray ns), tab] := arrS
  have N2 := perm_news N P.symm
  have S2 := S.perm P.symm
  exact law_tail (q0 := q0) (q1 := q1) B F1 T hdp hun hoca hoce hv1 (by omega) ⟨by rw [← kst_self hmF]; exact hPm, S2, _, _, _, _, _, _, _, _, _, od0, od1, [], [], 0, [], ⟨x0, e0, rfl, .inr ⟨0, tw0, tj0, j0, rfl, .inl ⟨rfl, rfl⟩, rfl⟩⟩, ⟨x1, e1, rfl, .inr ⟨1, tw1, tj1, j1, rfl, .inr ⟨rfl, rfl⟩, rfl⟩⟩, ⟨x2, e2, rfl, .inr ⟨0, tw2, tj2, j0, rfl, .inl ⟨rfl, rfl⟩, rfl⟩⟩,
    ⟨⟨_, hq1⟩, ⟨_, hq2⟩, hc0, hl0, [], hd0, .nil⟩, ⟨⟨_, hq3⟩, ⟨_, hq4⟩, hc1, hl1, [], hd1, .nil⟩, .nil, by simp, by simp, .refl _⟩ N2 hret X

end
end Mine

end
section
open PySem PySem.W PyProof.Rows PySem.Calls PyProof.V
set_option Elab.async false
set_option maxRecDepth 100000
set_option maxHeartbeats 8000000
set_option linter.unusedVariables false
namespace Mine


theorem row : PySem.Challenge.rw_dn0255_02.Holds := hd (by
  k_go0
  (all_goals try k_fold)
  repeat' ((fail_if_success (with_reducible show wpAny _ _ (execs (Stmt.For (Expr.Name (Str.ofString "n") _) _ _ _ _ :: _) _) _ _ _)); (first | (k_unfold; (try dsimp only)) | (k_end; wrow_close) | walk1 | (dsimp only; walk1) | (leave1; walk_say "STEP leave1"; try dsimp only) | fail "no step"))
  rename News _ _ _ _ => N7
  rename Fr _ _ _ _ => F7
  refine wpAny_noRaise ?_
  refine' law_start (by assumption) F7 (by assumption) N7 ?rd ?ru ?km ?kS (by assumption) (by assumption) (by assumption) (by assumption) (by assumption) (by assumption) ?k5 ?k6 (by assumption) (by assumption) (by assumption) (by assumption) (by assumption) ?kl ?kr (by assumption)
  case rd => decide
  case ru => decide
  case km => simp only [List.forall_mem_cons]; exact ⟨rfl, rfl, rfl, rfl, rfl, rfl, fun _ h => nomatch h⟩
  case kS => simp only [Desc]; refine ⟨?_, ?_, ?_, ?_, ?_, ?_, ?_, ?_, ?_, ?_, ?_, ?_, ?_, ?_, ?_, ?_, ?_, ?_, ?_, ?_, ?_, ?_, ?_, ?_, ?_, ?_, trivial⟩ <;> omega
  case k5 => refine Eq.trans (by assumption) ?_; rfl
  case k6 => refine Eq.trans (by assumption) ?_; rfl
  case kl => omega
  case kr =>
    intro h9 tk9 m9 F9 N9
    refine And.intro ?g1 ?g2
    case g2 => exact ⟨GrownAt.of N9 (List.mem_cons_self ..), trivial⟩
    case g1 =>
      show GoodW _ _ _ _ _ (.ok (.ret (.bool true))) _
      refine goodW_bool F9 (by with_reducible assumption) (raisesW_false ?_) ?_
      · wrow_none_raised
      · wrow_post)
end Mine

end
theorem PySem.Challenge.cw_dn0255_02_holds : PySem.Challenge.rw_dn0255_02.Holds :=
  Mine.row
