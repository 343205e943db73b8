import PyProof.Rows.All
import Wide.All
import OpenK.AllK
import Wide.FinOn
import PySem.Challenge.RW_vo0020_01
set_option Elab.async false
set_option maxRecDepth 100000
section
open PySem PySem.W PyProof.Rows
set_option maxHeartbeats 8000000
local macro_rules | `(tactic| o_head (kHook $k $a $p)) => `(tactic| o_head (kmHook $k $a $p [405]))
namespace Mine
open_top hd for PySem.Challenge.rw_vo0020_01
end Mine
end
section
open PySem PySem.W PyProof.Rows PySem.Calls
namespace Mine
section

section
variable {prog : Program} {w : World} {A₀ A : Around} {s : Shared} {base h₀ : Heap} {outer : List Env} {L : Addr} {m mg mb : Str → Option Value} {env : Env} {objs rest : List (Addr × Obj)} {K : Frag} {p : Program} {loose : List Str}
  {R : Result → Shared → Prop} {name qual : Str} {params : Arguments} {body : List Stmt} {scope : Scope} {dV kV doc pm cdv ct oc : Value} {an od : Option Addr} {osl : Array (Option Value)} {f : Addr} {args : Args} {binds : List (Str × Value)}
/-- what a callee's end must bring: its own ledger, the rest of the caller's being part of its ground -/
def LeaveR (h₀ : Heap) (L : Addr) (m : Str → Option Value) (rest : List (Addr × Obj)) (g : Heap) (R : Result → Shared → Prop) (v : Value) (s' : Shared) : Prop :=
  ∃ L' m' objs', Fr g L' s'.heap m' ∧ News g L' s'.heap objs' ∧ (Fr h₀ L s'.heap m → News h₀ L s'.heap (objs' ++ rest) → (∀ q ∈ rest, ∀ b ∈ objs', q.1 ≠ b.1) → R (.ok (.ret v)) s')
theorem leaveR_ {h₀ g : Heap} {L L' : Addr} {m m' : Str → Option Value} {rest objs' : List (Addr × Obj)} {R : Result → Shared → Prop} {v : Value} {s' : Shared} (F' : Fr g L' s'.heap m') (N' : News g L' s'.heap objs')
    (k : Fr h₀ L s'.heap m → News h₀ L s'.heap (objs' ++ rest) → (∀ q ∈ rest, ∀ b ∈ objs', q.1 ≠ b.1) → R (.ok (.ret v)) s') : LeaveR h₀ L m rest g R v s' := ⟨L', m', objs', F', N', k⟩
theorem enterR (B : Below A₀ base outer h₀) (F : Fr h₀ L s.heap m) (X : K.In h₀) (N : News h₀ L s.heap (objs ++ rest)) (T : TopRead p loose mg mb h₀) (hA : A.frames = some (env :: outer)) (hf : env.frame = some L) (hke : env.scope.kind = .function)
    (hap : ∀ q ∈ rest, ∀ b ∈ objs, q.1 ≠ b.1)
    (ho : K.lookup f = some ⟨oc, od, .func (fnOf name qual params body scope dV kV doc pm an cdv ct), osl⟩) (hcd : codeIn K cdv qual = true) (hroom : A.depth < recursionLimit)
    (hbind : BindsTo s (fnOf name qual params body scope dV kV doc pm an cdv ct) args binds) (hloc : ∀ y ∈ binds, scope.names.lookup y.1 = some .local)
    (h : ∀ g L' h₁, Fr g L' h₁ (fun y => binds.reverse.lookup y) → News g L' h₁ objs → Below A base (env :: outer) g → K.In g → TopRead p loose mg mb g → (∀ q ∈ rest, g.get? q.1 = some q.2) → (∀ q ∈ objs, q.1 < L') → Fr h₀ L g m →
      wpAny (model prog w) (A.deeper (envOf qual scope L' f cdv)) (execs body (envOf qual scope L' f cdv))
        (fun fl s' => LeaveR h₀ L m rest g R (match fl with | .ret v => v | _ => .none) s')
        (fun e s' => wpAny (model prog w) (A.deeper (envOf qual scope L' f cdv)) (leaving (envOf qual scope L' f cdv) e) (fun _ s'' => R (.error e) s'') (fun e' s'' => R (.error e') s'') s')
        { s with heap := h₁, toks := s.toks + binds.length })
    (hco : scope.isCoroutine = false) (hgen : scope.isGenerator = false) (hk : scope.kind = .function)
    (hcell : ∀ x ∈ scope.names, x.2 ≠ .cell) : codeAny (model prog w) A (.call (.ref f) args) R s := by
  have No : News h₀ L s.heap objs := fun q hq => N q (List.mem_append_left _ hq)
  obtain ⟨FG, BG, st, -⟩ := groundX (R := R) B F No hA hf hke
  have Xg : K.In (hideAll s.heap (objs.map (·.1))) := X.keeps st
  refine codeAny_call_def (fd := fnOf name qual params body scope dV kV doc pm an cdv ct) (body := body) (binds := binds) hroom ((X.keeps F.keep) _ _ ho) rfl (T.nolimit.keeps F.keep) (codeRec_of (X.keeps F.keep) hcd) rfl hbind hcell hloc (fun h₁ hns hk₁ => ?_) hco hgen hk
  have nr : ∀ q ∈ rest, q.1 ∉ objs.map (·.1) := fun q hq hm => by
    obtain ⟨b, hb, e⟩ := List.mem_map.mp hm
    exact hap q hq b hb e.symm
  have hr : ∀ q ∈ rest, (hideAll s.heap (objs.map (·.1))).get? q.1 = some q.2 := fun q hq => hideAll_get _ (N q (List.mem_append_right _ hq)).1 (nr q hq)
  refine wpAny_mono (h _ s.heap.objs.size h₁ ⟨hns, fun b o e => hk₁ b o (of_hideAll _ e), Nat.le_of_eq (hideAll_size _ _)⟩
    (fun q hq => ⟨hk₁ _ _ (No q hq).1, Nat.ne_of_lt (Heap.lt_size (No q hq).1), hideAll_none _ (List.mem_map_of_mem hq)⟩) BG Xg (T.keeps st) hr (fun q hq => Heap.lt_size (No q hq).1) FG) (fun fl s' hl => ?_) fun _ _ y => y
  obtain ⟨L', m', objs', F', N', k⟩ := hl
  obtain ⟨oL, es, ep, hLg, hLd, hLk, hLf⟩ := FG.ns
  refine k ⟨⟨oL, es, ep, F'.keep L oL hLg, hLd, hLk, hLf⟩, fun b o e => F'.keep b o (st b o e), F.above⟩ (fun q hq => ?_) (fun q hq b hb e => by have := (N' b hb).2.2; rw [← e, hr q hq] at this; cases this)
  rcases List.mem_append.mp hq with hq | hq
  · refine ⟨(N' q hq).1, fun z => ?_, ?_⟩
    · have := (N' q hq).2.2; rw [z, hLg] at this; cases this
    · cases z : h₀.get? q.1 with
      | none => rfl
      | some o => have := (N' q hq).2.2; rw [st _ _ z] at this; cases this
  · exact ⟨F'.keep _ _ (hr q hq), (N q (List.mem_append_right _ hq)).2⟩
end
section
variable {prog : Program} {w : World} {A₀ A : Around} {s : Shared} {base h₀ : Heap} {outer : List Env} {L : Addr} {m mg mb : Str → Option Value} {env : Env} {objs rest : List (Addr × Obj)} {K : Frag} {p : Program} {loose : List Str}
  {R : Result → Shared → Prop} {name qual : Str} {params : Arguments} {body : List Stmt} {scope : Scope} {dV kV doc pm cdv ct oc : Value} {an od : Option Addr} {osl : Array (Option Value)} {f : Addr} {args : Args} {binds : List (Str × Value)}
/-- entering a def some of whose names are cells -/
theorem enterRC (B : Below A₀ base outer h₀) (F : Fr h₀ L s.heap m) (X : K.In h₀) (N : News h₀ L s.heap (objs ++ rest)) (T : TopRead p loose mg mb h₀) (hA : A.frames = some (env :: outer)) (hf : env.frame = some L) (hke : env.scope.kind = .function)
    (hap : ∀ q ∈ rest, ∀ b ∈ objs, q.1 ≠ b.1)
    (ho : K.lookup f = some ⟨oc, od, .func (fnOf name qual params body scope dV kV doc pm an cdv ct), osl⟩) (hcd : codeIn K cdv qual = true) (hroom : A.depth < recursionLimit)
    (hbind : BindsTo s (fnOf name qual params body scope dV kV doc pm an cdv ct) args binds) (hkind : (binds.all fun y => scope.names.lookup y.1 == some .local || scope.names.lookup y.1 == some .cell) = true)
    (hnd : ((cellsFrom 0 scope.names []).map (·.1)).Nodup)
    (h : ∀ g L' h₁ tk cells, Fr g L' h₁ (bindL (envOfC qual scope L' f cdv).kindOf binds fun _ => none) → News g L' h₁ (cells ++ objs) →
      CellsAre (bindC (envOfC qual scope L' f cdv).kindOf binds fun _ => none) (cellsFrom (L' + 1) scope.names []) cells → Below A base (env :: outer) g → K.In g → TopRead p loose mg mb g → (∀ q ∈ rest, g.get? q.1 = some q.2) → (∀ q ∈ objs, q.1 < L') → Fr h₀ L g m →
      wpAny (model prog w) (A.deeper (envOfC qual scope L' f cdv)) (execs body (envOfC qual scope L' f cdv))
        (fun fl s' => LeaveR h₀ L m rest g R (match fl with | .ret v => v | _ => .none) s')
        (fun e s' => wpAny (model prog w) (A.deeper (envOfC qual scope L' f cdv)) (leaving (envOfC qual scope L' f cdv) e) (fun _ s'' => R (.error e) s'') (fun e' s'' => R (.error e') s'') s')
        { s with heap := h₁, toks := tk })
    (hco : scope.isCoroutine = false) (hgen : scope.isGenerator = false) (hk : scope.kind = .function) : codeAny (model prog w) A (.call (.ref f) args) R s := by
  have No : News h₀ L s.heap objs := fun q hq => N q (List.mem_append_left _ hq)
  obtain ⟨FG, BG, st, -⟩ := groundX (R := R) B F No hA hf hke
  have Xg : K.In (hideAll s.heap (objs.map (·.1))) := X.keeps st
  refine codeAny_call_function hroom ((X.keeps F.keep) _ _ ho) rfl hco hgen rfl (codeRec_of (X.keeps F.keep) hcd) (hbind _ _ _ _ ?_)
  refine wpAny_newFunctionEnv_cells hk (kindsX hkind _) fun env' he s' x => ?_
  subst he
  refine ⟨(T.nolimit.keeps F.keep).keeps x.toInCall.keep, codeAny_func ?_⟩
  obtain ⟨h₁, tk, rfl, _⟩ := x.done
  have hk₁ := x.toInCall.keep
  obtain ⟨cells, NC, Y⟩ := Cl.news (h₀ := s.heap) (Nat.le_refl _) fun n c hm => ⟨x.cell n c (lookup_of_mem_nodup (cellsFrom_names scope.names 0 (s.heap.objs.size + 1) [] [] rfl ▸ hnd) hm), x.above n c hm⟩
  have nr : ∀ q ∈ rest, q.1 ∉ objs.map (·.1) := fun q hq hm => by
    obtain ⟨b, hb, e⟩ := List.mem_map.mp hm
    exact hap q hq b hb e.symm
  have hr : ∀ q ∈ rest, (hideAll s.heap (objs.map (·.1))).get? q.1 = some q.2 := fun q hq => hideAll_get _ (N q (List.mem_append_right _ hq)).1 (nr q hq)
  refine wpAny_mono (h _ s.heap.objs.size h₁ tk cells ⟨x.toInCall.ns, fun b o e => hk₁ b o (of_hideAll _ e), Nat.le_of_eq (hideAll_size _ _)⟩ (fun q hq => ?_) Y BG Xg (T.keeps st) hr (fun q hq => Heap.lt_size (No q hq).1) FG) (fun fl s' hl => ?_) fun _ _ y => y
  · rcases List.mem_append.mp hq with hq | hq
    · refine ⟨(NC q hq).1, (NC q hq).2.1, ?_⟩
      cases z : (hideAll s.heap (objs.map (·.1))).get? q.1 with
      | none => rfl
      | some o => have := of_hideAll _ z; rw [(NC q hq).2.2] at this; cases this
    · exact ⟨hk₁ _ _ (No q hq).1, Nat.ne_of_lt (Heap.lt_size (No q hq).1), hideAll_none _ (List.mem_map_of_mem hq)⟩
  · obtain ⟨L', m', objs', F', N', k⟩ := hl
    obtain ⟨oL, es, ep, hLg, hLd, hLk, hLf⟩ := FG.ns
    refine k ⟨⟨oL, es, ep, F'.keep L oL hLg, hLd, hLk, hLf⟩, fun b o e => F'.keep b o (st b o e), F.above⟩ (fun q hq => ?_) (fun q hq b hb e => by have := (N' b hb).2.2; rw [← e, hr q hq] at this; cases this)
    rcases List.mem_append.mp hq with hq | hq
    · refine ⟨(N' q hq).1, fun z => ?_, ?_⟩
      · have := (N' q hq).2.2; rw [z, hLg] at this; cases this
      · cases z : h₀.get? q.1 with
        | none => rfl
        | some o => have := (N' q hq).2.2; rw [st _ _ z] at this; cases this
    · exact ⟨F'.keep _ _ (hr q hq), (N q (List.mem_append_right _ hq)).2⟩
end
section
variable {M : Model} {A : Around} {E : Value → Shared → Prop} {s : Shared} {K : Frag} {h₀ : Heap} {L C : Addr} {m mg mb : Str → Option Value} {scope : Scope} {cl : List (Str × Addr)} {env : Env} {p : Program} {loose : List Str}
  {x : Str} {pos : Pos} {v : Value} {Q : Value → Shared → Prop}
/-- within a comprehension's block: a name of the text's top -/
theorem inBlock_global (F : Fr h₀ L s.heap m) (X : K.In h₀) (T : TopRead p loose mg mb h₀) (e : nsIn K mainGlobals x = some (some v)) (h : Q v s) (hg : env.globals = mainGlobals := by rfl)
    (hk : (compEnvC scope cl C env).scope.kind = .function := by rfl) (hx : (compEnvC scope cl C env).kindOf x = some .globalImplicit := by rfl) (hd : (x == ("__debug__" : Str)) = false := by decide) :
    wpAny M A (eval (.Name x pos) (compEnvC scope cl C env)) Q E s := by
  have hn : s.heap.Ns env.globals mg := by rw [hg]; exact T.g.keeps F.keep
  exact Name_function_global hk hx (loadGlobal_global (env := compEnvC scope cl C env) hn (mg_of X T.g e) h) hd
/-- within a comprehension's block: a built-in's name -/
theorem inBlock_built (F : Fr h₀ L s.heap m) (X : K.In h₀) (T : TopRead p loose mg mb h₀) (e : nsIn K mainGlobals x = some none) (hv : bootBuiltins x = some v) (hn : x ≠ "__name__") (h : Q v s) (hg : env.globals = mainGlobals := by rfl) (hb : env.builtins = builtinsNs := by rfl)
    (hk : (compEnvC scope cl C env).scope.kind = .function := by rfl) (hx : (compEnvC scope cl C env).kindOf x = some .globalImplicit := by rfl) (hd : (x == ("__debug__" : Str)) = false := by decide) :
    wpAny M A (eval (.Name x pos) (compEnvC scope cl C env)) Q E s := by
  have hn1 : s.heap.Ns env.globals mg := by rw [hg]; exact T.g.keeps F.keep
  have hn2 : s.heap.Ns env.builtins mb := by rw [hb]; exact T.b.keeps F.keep
  exact Name_function_global hk hx (loadGlobal_builtin (env := compEnvC scope cl C env) hn1 (mg_none_of X T.g e) hn2 ((T.builtins x hn).trans hv) h) hd
end
theorem lenN {prog : Program} {w : World} {A : Around} {E : Value → Shared → Prop} {s : Shared} {h₀ : Heap} {L l : Addr} {news : List (Addr × Obj)} {its : List Value} {n : Nat} {Q : Value → Shared → Prop}
    (N : News h₀ L s.heap news) (hm : (l, listOf its.toArray n) ∈ news) (hfit : its.length < 2 ^ 62) (h : Q (.int its.length (s.toks + 1)) { s with toks := s.toks + 1 + 1 }) :
    wpAny (model prog w) A (call (.builtin "len") [.ref l]) Q E s :=
  len_list (items := its.toArray) ⟨_, N.get hm, rfl, _, rfl⟩ (by rw [List.size_toArray]; omega) (by rw [List.size_toArray]; exact h)
theorem slice1 (its : List Value) : slicePick its.toArray (some 1) none none = (its.drop 1).toArray := by
  have := slicePick_from' its.toArray 1
  simpa using this
theorem addN {prog : Program} {w : World} {A : Around} {E : Value → Shared → Prop} {s : Shared} {h₀ : Heap} {L a b : Addr} {m : Str → Option Value} {news : List (Addr × Obj)} {xs ys : List Value} {na nb : Nat} {Q : Value → Shared → Prop}
    (F : Fr h₀ L s.heap m) (N : News h₀ L s.heap news) (ha : (a, listOf xs.toArray na) ∈ news) (hb : (b, listOf ys.toArray nb) ∈ news) (hsz : xs.length + ys.length ≤ 1000)
    (h : ∀ D h', Fr h₀ L h' m → News h₀ L h' ((D, listOf (xs ++ ys).toArray 0) :: news) → (∀ p ∈ news, p.1 < D) → Q (.ref D) { s with heap := h' }) :
    wpAny (model prog w) A (binaryOp .Add (.ref a) (.ref b)) Q E s :=
  add_lists (vs := xs) (ws := ys) F N ⟨_, N.get ha, rfl, _, rfl⟩ ⟨_, N.get hb, rfl, _, rfl⟩ (fun h' F' N' => h _ h' F' N' fun p hp => Heap.lt_size (N p hp).1) (by rw [sizeLine_eq]; omega)
theorem takeN {h₀ h : Heap} {L : Addr} {all rest objs : List (Addr × Obj)} (N : News h₀ L h (all ++ rest)) (hs : ∀ q ∈ objs, q ∈ all) : News h₀ L h (objs ++ rest) := fun q hq =>
  N q ((List.mem_append.mp hq).elim (fun x => List.mem_append_left _ (hs q x)) (fun x => List.mem_append_right _ x))
theorem takeA {all rest objs : List (Addr × Obj)} (A : ∀ q ∈ rest, ∀ b ∈ all, q.1 ≠ b.1) (hs : ∀ q ∈ objs, q ∈ all) : ∀ q ∈ rest, ∀ b ∈ objs, q.1 ≠ b.1 := fun q hq b hb => A q hq b (hs b hb)
theorem subN {h₀ h : Heap} {L : Addr} {a b : List (Addr × Obj)} (N : News h₀ L h a) (hs : ∀ q ∈ b, q ∈ a) : News h₀ L h b := fun q hq => N q (hs q hq)
theorem intsEq {x : List Value} {a b : List Int} (e : a = b) (h : IntsAre x a) : IntsAre x b := e ▸ h
theorem flatten_replicate_one {α : Type} (n : Nat) (a : α) : (List.replicate n [a]).flatten = List.replicate n a := by
  induction n with
  | zero => rfl
  | succ n ih => rw [List.replicate_succ, List.flatten_cons, ih, List.replicate_succ]; rfl
abbrev tupOf (its : List Value) : Obj := { cls := .type "tuple", data := .seq its.toArray }
/-- what a call may leave changed beside heap and tokens: generators that are done -/
def Noisy (s s' : Shared) : Prop := s'.os = s.os ∧ AllBare s'.gens
theorem Noisy.put (s₀ : Shared) : ∀ s h tk, Noisy s₀ s → Noisy s₀ { s with heap := h, toks := tk } := fun _ _ _ x => x
/-- nothing but heap and tokens -/
def Quiet (s s' : Shared) : Prop := s'.os = s.os ∧ s'.gens = s.gens ∧ s'.drawn = s.drawn
theorem Quiet.put (s₀ : Shared) : ∀ s h tk, Quiet s₀ s → Quiet s₀ { s with heap := h, toks := tk } := fun _ _ _ x => x
theorem Quiet.eq {s s' : Shared} (x : Quiet s s') : s' = { s with heap := s'.heap, toks := s'.toks } := by
  obtain ⟨h, g, d, t, o⟩ := s'
  obtain ⟨a, b, c⟩ := x
  dsimp only at a b c
  subst a b c
  rfl
/-- the end of a turn of a loop over a list: the iterator stands, the state's word holds -/
def TurnEnd (h₀ : Heap) (L : Addr) (Z : Shared → Prop) (I : Addr) (io : Obj) (Jn : (Str → Option Value) → List (Addr × Obj) → Prop) (Q : Flow → Shared → Prop) (f : Flow) (s₃ : Shared) : Prop :=
  match f with
  | .ret v => Q (.ret v) s₃
  | .brk => Q .next s₃
  | _ => Z s₃ ∧ ∃ m' news', Fr h₀ L s₃.heap m' ∧ News h₀ L s₃.heap ((I, io) :: news') ∧ (∀ q ∈ news', q.1 ≠ I) ∧ Jn m' news'
section
variable {prog : Program} {w : World} {A : Around} {E : Value → Shared → Prop} {s : Shared} {env : Env} {h₀ : Heap} {target : Expr} {body : List Stmt} {Q : Flow → Shared → Prop}
theorem iterListS {l : Addr} {vs : List Value} {m : Str → Option Value} {news : List (Addr × Obj)} (hh : A.handled = none) (F : Fr h₀ env.locals s.heap m) (N : News h₀ env.locals s.heap news) (hl : s.heap.IsList l vs.toArray) (Z : Shared → Prop) (hZ : ∀ s h tk, Z s → Z { s with heap := h, toks := tk }) (hZ0 : Z s)
    (J : Nat → (Str → Option Value) → List (Addr × Obj) → Prop) (h0 : J 0 m news)
    (hlist : ∀ i m' news' (h' : Heap), J i m' news' → Fr h₀ env.locals h' m' → News h₀ env.locals h' news' → h'.IsList l vs.toArray)
    (turn : ∀ i v I io m₁ news₁ s₁, vs[i]? = some v → J i m₁ news₁ → Z s₁ → Fr h₀ env.locals s₁.heap m₁ → News h₀ env.locals s₁.heap ((I, io) :: news₁) → (∀ q ∈ news₁, q.1 ≠ I) →
      wpAny (model prog w) A (assign target env v) (fun _ s₂ => wpAny (model prog w) A (execs body env) (TurnEnd h₀ env.locals Z I io (J (i + 1)) Q) E s₂) E s₁)
    (done : ∀ m' news' s', J vs.length m' news' → Z s' → Fr h₀ env.locals s'.heap m' → News h₀ env.locals s'.heap news' → Q .next s')
    (hE : PassesOwn (model prog w) A env E) :
    wpAny (model prog w) A (pyIter (.ref l)) (fun it s₂ => codeAny (model prog w) A (.forLoop target it body [] env) (fun r s' => match r with | .ok f => Q f s' | .error e => cameBackBy (model prog w) A env E e s') s₂) E s := by
  refine wpAny_pyIter_list hl ?_
  have hlt : env.locals < s.heap.objs.size := F.ns.lt
  have hLI : env.locals ≠ s.heap.objs.size := Nat.ne_of_lt hlt
  have hlI : l ≠ s.heap.objs.size := by obtain ⟨o, ho, _⟩ := hl; exact Nat.ne_of_lt (Heap.lt_size ho)
  have hI0 : h₀.get? s.heap.objs.size = none := next_is_new F
  refine codeAny_forLoop_any (fun k s' => ∃ i m' news' io, k = vs.length + 1 - i ∧ i ≤ vs.length ∧ Z s' ∧ s'.heap.IsListIter s.heap.objs.size l i ∧ s'.heap.get? s.heap.objs.size = some io ∧
    Fr h₀ env.locals s'.heap m' ∧ News h₀ env.locals s'.heap news' ∧ (∀ q ∈ news', q.1 ≠ s.heap.objs.size) ∧ J i m' news') ?_ (vs.length + 1)
    ⟨0, m, news, { cls := .type "list_iterator", data := .fields #[.ref l, .int 0 0] }, rfl, Nat.zero_le _, hZ _ _ _ hZ0, ⟨_, Heap.get?_push_size _ rfl, rfl, rfl⟩, Heap.get?_push_size _ rfl, F.push _, fun q hq => ⟨Heap.get?_push_of_some _ (N q hq).1, (N q hq).2⟩, fun q hq => Nat.ne_of_lt (Heap.lt_size (N q hq).1), h0⟩
  rintro k s' ⟨i, m', news', io, rfl, hi, hz, hit, hio, F', N', hne, hJ⟩
  have hl' : s'.heap.IsList l vs.toArray := hlist i m' news' _ hJ F' N'
  by_cases hlt' : i < vs.length
  · refine wpAny_pyNext_list_item (x := vs[i]) hit hl' (by simp [hlt']) fun h₁ hit₁ hs₁ => ?_
    obtain ⟨io₁, hio₁, hr₁⟩ := id hit₁
    have F₁ : Fr h₀ env.locals h₁ m' := ⟨F'.ns.sameBut hs₁ hLI, fun b o e => (hs₁.2 b (fun z => by rw [z, hI0] at e; cases e)).trans (F'.keep b o e), F'.above⟩
    have N₁ : News h₀ env.locals h₁ ((s.heap.objs.size, io₁) :: news') := fun q hq => by
      rcases List.mem_cons.mp hq with rfl | hq
      · exact ⟨hio₁, fun z => hLI z.symm, hI0⟩
      · exact ⟨(hs₁.2 _ (hne q hq)).trans (N' q hq).1, (N' q hq).2⟩
    refine letGo_listiter hit₁ ?_
    refine wpAny_passesOwn hE (wpAny_mono (turn i vs[i] _ io₁ m' news' { s' with heap := h₁ } (by simp [hlt']) hJ (hZ _ _ _ hz) F₁ N₁ hne) (fun _ s₂ h₂ => wpAny_passesOwn hE (wpAny_mono h₂ (fun f s₃ h₃ => ?_) fun _ _ e => e)) fun _ _ e => e)
    have fin : (Z s₃ ∧ ∃ m' news', Fr h₀ env.locals s₃.heap m' ∧ News h₀ env.locals s₃.heap ((s.heap.objs.size, io₁) :: news') ∧ (∀ q ∈ news', q.1 ≠ s.heap.objs.size) ∧ J (i + 1) m' news') →
        ∃ m, m < vs.length + 1 - i ∧ ∃ i m' news' io, m = vs.length + 1 - i ∧ i ≤ vs.length ∧ Z s₃ ∧ s₃.heap.IsListIter s.heap.objs.size l i ∧ s₃.heap.get? s.heap.objs.size = some io ∧
          Fr h₀ env.locals s₃.heap m' ∧ News h₀ env.locals s₃.heap news' ∧ (∀ q ∈ news', q.1 ≠ s.heap.objs.size) ∧ J i m' news' := by
      rintro ⟨hz₃, m₃, news₃, F₃, N₃, hne₃, hJ₃⟩
      have hio₃ := (N₃ _ (.head _)).1
      exact ⟨vs.length + 1 - (i + 1), by omega, i + 1, m₃, news₃, io₁, rfl, hlt', hz₃, ⟨io₁, hio₃, hr₁⟩, hio₃, F₃, fun q hq => N₃ q (.tail _ hq), hne₃, hJ₃⟩
    cases f with
    | ret v => exact h₃
    | brk => exact h₃
    | next => exact fin h₃
    | cont => exact fin h₃
  · have hin : i = vs.length := by omega
    subst hin
    refine wpAny_pyNext_list_end hh hit hl' (by simp) fun h₁ he₁ => wpAny_execs_nil ?_
    have F₁ : Fr h₀ env.locals h₁ m' := ⟨F'.ns.at' fun o e => he₁ _ _ hLI e, fun b o e => he₁ b o (fun z => by rw [z, hI0] at e; cases e) (F'.keep b o e), F'.above⟩
    exact done m' news' { s' with heap := h₁ } hJ (hZ _ _ _ hz) F₁ fun q hq => ⟨he₁ _ _ (hne q hq) (N' q hq).1, (N' q hq).2⟩
end
theorem bindNone {x : Str} {m : Str → Option Value} (h : m x = none) : m = (fun z => if z = x then none else m z) := by
  funext z
  by_cases e : z = x
  · rw [if_pos e, e, h]
  · rw [if_neg e]
theorem bindTwice {x : Str} {m : Str → Option Value} {u v : Option Value} : (fun z => if z = x then v else if z = x then u else m z) = fun z => if z = x then v else m z := by
  funext z
  by_cases e : z = x
  · rw [if_pos e, if_pos e]
  · rw [if_neg e, if_neg e, if_neg e]
theorem memOf {α : Type} {a : α} {l : List α} (h : a ∈ l) : List.Mem a l := h
theorem flatNe {l : List (Addr × Obj)} {b c : Addr} (h : ∀ q ∈ l, q.1 < b) (hbc : @LE.le Nat _ b c) : ∀ q ∈ l, q.1 ≠ c := fun q hq => Nat.ne_of_lt (Nat.lt_of_lt_of_le (h q hq) hbc)
theorem itemInts {prog : Program} {w : World} {A : Around} {E : Value → Shared → Prop} {s : Shared} {h₀ : Heap} {L a : Addr} {news : List (Addr × Obj)} {its : List Value} {ns : List Int} {n : Nat} {k : Int} {u : Tok} {value slice : Expr} {Q : Value → Shared → Prop}
    (N : News h₀ L s.heap news) (hm : (a, listOf its.toArray n) ∈ news) (hi : IntsAre its ns) (h0 : 0 ≤ k) (hk : k < (ns.length : Int)) (hfit : ns.length < 2 ^ 62) (h : ∀ t, Q (.int (ns.getD k.toNat 0) t) s)
    (hs : subscripted slice false (.ref a) (.int k u) = operate [.ref a, .int k u] (getItem (.ref a) (.int k u)) := by with_unfolding_all rfl) (hg : ∀ r, letTemporaryGo value (.ref a) r = pure () := by intro _; with_unfolding_all rfl) :
    wpAny (model prog w) A (subscriptTail value slice (.ref a) (.int k u)) Q E s := by
  have hlt : k.toNat < ns.length := by omega
  obtain ⟨t, ht⟩ := hi.get k.toNat ns[k.toNat] (by simp [hlt])
  refine item_listL (l := its) ⟨_, N.get hm, rfl, _, rfl⟩ h0 (by omega) ht ?_ hs hg
  have := h t
  rwa [List.getD_eq_getElem?_getD, List.getElem?_eq_getElem hlt] at this
section
variable {prog : Program} {w : World} {A A₀ : Around} {E : Value → Shared → Prop} {s : Shared} {K : Frag} {C L : Addr} {h₀ base : Heap} {m mg mb : Str → Option Value} {news : List (Addr × Obj)} {p : Program} {loose : List Str} {Q : Value → Shared → Prop}
/-- a call met on the way: entered with the whole ledger; the top's facts as they are read -/
theorem inlineT {env : Env} {outer : List Env} {R : Result → Shared → Prop} {name qual : Str} {params : Arguments} {body : List Stmt} {scope : Scope} {dV kV doc pm cdv ct oc : Value} {an od : Option Addr} {osl : Array (Option Value)} {f : Addr} {args : Args} {binds : List (Str × Value)}
    (B : Below A₀ base outer h₀) (F : Fr h₀ L s.heap m) (X₀ : K.In h₀) (N : News h₀ L s.heap news) (T : TopRead p loose mg mb h₀) (hA : A.frames = some (env :: outer)) (hf : env.frame = some L) (hke : env.scope.kind = .function)
    (ho : K.lookup f = some ⟨oc, od, .func (fnOf name qual params body scope dV kV doc pm an cdv ct), osl⟩) (hcd : codeIn K cdv qual = true) (hroom : A.depth < recursionLimit)
    (hbind : BindsTo s (fnOf name qual params body scope dV kV doc pm an cdv ct) args binds) (hloc : ∀ y ∈ binds, scope.names.lookup y.1 = some .local)
    (h : ∀ g L' h₁, Fr h₀ L g m → Fr g L' h₁ (fun y => binds.reverse.lookup y) → News g L' h₁ news → Below A base (env :: outer) g → K.In g → TopRead p loose mg mb g → (∀ q ∈ news, q.1 < L') →
      wpAny (model prog w) (A.deeper (envOf qual scope L' f cdv)) (execs body (envOf qual scope L' f cdv))
        (fun fl s' => LeaveK h₀ L m g R (match fl with | .ret v => v | _ => .none) s')
        (fun e s' => wpAny (model prog w) (A.deeper (envOf qual scope L' f cdv)) (leaving (envOf qual scope L' f cdv) e) (fun _ s'' => R (.error e) s'') (fun e' s'' => R (.error e') s'') s')
        { s with heap := h₁, toks := s.toks + binds.length })
    (hco : scope.isCoroutine = false) (hgen : scope.isGenerator = false) (hk : scope.kind = .function)
    (hcell : ∀ x ∈ scope.names, x.2 ≠ .cell) : codeAny (model prog w) A (.call (.ref f) args) R s :=
  callX_plain (cl := []) B F N T.nolimit hA hf hke ((X₀.keeps F.keep) _ _ ho) rfl (codeRec_of (X₀.keeps F.keep) hcd) hroom hbind hloc (fun g L' h₁ FG F' N' B' st lt => h g L' h₁ FG F' N' B' (X₀.keeps st) (T.keeps st) lt) hcell hco hgen hk
end
theorem pow1016 {prog : Program} {w : World} {A : Around} {E : Value → Shared → Prop} {s : Shared} {t u : Tok} {Q : Value → Shared → Prop} (h : Q (.int 10000000000000000 s.toks) { s with toks := s.toks + 1 }) :
    wpAny (model prog w) A (binaryOp .Pow (.int 10 t) (.int 16 u)) Q E s := by
  refine pow_int_small (by decide) (by decide) (by decide) ?_
  have e : (10 : Int) ^ (16 : Int).toNat = 10000000000000000 := by decide +kernel
  rw [e]
  exact h
theorem fdivEq {prog : Program} {w : World} {A : Around} {E : Value → Shared → Prop} {s : Shared} {t u : Tok} {a b r : Int} {Q : Value → Shared → Prop} (hb : b ≠ 0) (e : a.fdiv b = r) (hp : Builtin.divisionGoesByPylong a b = false) (h : Q (.int r s.toks) { s with toks := s.toks + 1 }) :
    wpAny (model prog w) A (binaryOp .FloorDiv (.int a t) (.int b u)) Q E s := by
  refine floordiv_int hb ?_ (.inl hp)
  rw [e]
  exact h
/-- the words of a filter's own dict that nothing asks: hashes, tokens -/
structure DH where
  (h0 h1 h2 h3 h4 h5 h6 h7 h8 h9 h10 : Int)
  (t0 t1 t2 t3 t4 t5 t6 t7 t8 t9 t10 : Tok)
  (v1 v2 v3 v4 v5 v6 v7 v8 : Tok)
abbrev bloomDict (bits wanted r : Int) (z : DH) (cnt : Int) (l : Addr) : List DictEntry :=
  [⟨z.h0, .str (Str.ofString "_on_disk") z.t0, .bool false⟩,
   ⟨z.h1, .str (Str.ofString "_type") z.t1, .str (Str.ofString "regular") z.v1⟩,
   ⟨z.h2, .str (Str.ofString "_typecode") z.t2, .str (Str.ofString "B") z.v2⟩,
   ⟨z.h3, .str (Str.ofString "_bloom_length") z.t3, .int (-(-bits).fdiv 8) z.v3⟩,
   ⟨z.h4, .str (Str.ofString "_est_elements") z.t4, .int wanted z.v4⟩,
   ⟨z.h5, .str (Str.ofString "_els_added") z.t5, .int cnt z.v5⟩,
   ⟨z.h6, .str (Str.ofString "_number_hashes") z.t6, .int r z.v6⟩,
   ⟨z.h7, .str (Str.ofString "_num_bits") z.t7, .int bits z.v7⟩,
   ⟨z.h8, .str (Str.ofString "_fpr") z.t8, .int bits z.v8⟩,
   ⟨z.h9, .str (Str.ofString "_hash_func") z.t9, .ref 534⟩,
   ⟨z.h10, .str (Str.ofString "_bloom") z.t10, .ref l⟩]
/-- a filter as it stands in the heap -/
structure BR where
  x : Addr
  d : Addr
  l : Addr
  its : List Value
  oct : List Int
  cnt : Int
  z : DH
  n : Nat
  k : Nat
abbrev BR.objs (bits wanted r : Int) (b : BR) : List (Addr × Obj) :=
  [(b.x, instObj 323 b.d), (b.d, dictOf (bloomDict bits wanted r b.z b.cnt b.l) b.n), (b.l, listOf b.its.toArray b.k)]
section
variable {prog : Program} {w : World} {A : Around} {E : Value → Shared → Prop} {s : Shared} {env : Env} {h₀ : Heap} {target : Expr} {body : List Stmt} {Q : Flow → Shared → Prop}
/-- a loop over an iterator that is its own footprint (a range's, a text's) -/
theorem loopW {I : Addr} {n : Nat} {P : Nat → Value → Prop} {St : Nat → Heap → Prop} {m : Str → Option Value} {news : List (Addr × Obj)} (W : Walks prog w A I [I] [I] n P St)
    (hex : ∀ i h, St i h → ∃ io, h.get? I = some io) (hst : St 0 s.heap) (hI0 : h₀.get? I = none) (hLI : env.locals ≠ I) (F : Fr h₀ env.locals s.heap m) (N : News h₀ env.locals s.heap news) (hne : ∀ q ∈ news, q.1 ≠ I) (Z : Shared → Prop) (hZ : ∀ s h tk, Z s → Z { s with heap := h, toks := tk }) (hZ0 : Z s)
    (hgo : ∀ v, letOwnedTupleGo target (.ref I) v = pure ())
    (J : Nat → (Str → Option Value) → List (Addr × Obj) → Prop) (h0 : J 0 m news)
    (turn : ∀ i v io m₁ news₁ s₁, i < n → P i v → J i m₁ news₁ → Z s₁ → Fr h₀ env.locals s₁.heap m₁ → News h₀ env.locals s₁.heap ((I, io) :: news₁) → (∀ q ∈ news₁, q.1 ≠ I) →
      wpAny (model prog w) A (assign target env v) (fun _ s₂ => wpAny (model prog w) A (execs body env) (TurnEnd h₀ env.locals Z I io (J (i + 1)) Q) E s₂) E s₁)
    (done : ∀ m' news' s', J n m' news' → Z s' → Fr h₀ env.locals s'.heap m' → News h₀ env.locals s'.heap news' → Q .next s')
    (hE : PassesOwn (model prog w) A env E) :
    codeAny (model prog w) A (.forLoop target (.ref I) body [] env) (fun r s' => match r with | .ok f => Q f s' | .error e => cameBackBy (model prog w) A env E e s') s := by
  refine codeAny_forLoop_any (fun k s' => ∃ i m' news', k = n + 1 - i ∧ i ≤ n ∧ Z s' ∧ St i s'.heap ∧
    Fr h₀ env.locals s'.heap m' ∧ News h₀ env.locals s'.heap news' ∧ (∀ q ∈ news', q.1 ≠ I) ∧ J i m' news') ?_ (n + 1)
    ⟨0, m, news, rfl, Nat.zero_le _, hZ0, hst, F, N, hne, h0⟩
  rintro k s' ⟨i, m', news', rfl, hi, hz, hst', F', N', hne', hJ⟩
  have keep : ∀ h₁ : Heap, (∀ b o, b ∉ [I] → s'.heap.get? b = some o → h₁.get? b = some o) → Fr h₀ env.locals h₁ m' ∧ News h₀ env.locals h₁ news' := fun h₁ hk₁ =>
    ⟨⟨F'.ns.at' fun o e => hk₁ _ o (by simpa using hLI) e, fun b o e => hk₁ b o (fun z => by rw [List.mem_singleton.mp z, hI0] at e; cases e) (F'.keep b o e), F'.above⟩,
      fun q hq => ⟨hk₁ _ _ (by simpa using hne' q hq) (N' q hq).1, (N' q hq).2⟩⟩
  by_cases hlt : i < n
  · refine W.item i s' _ _ hlt hst' fun v h₁ tk₁ hP hst₁ hk₁ => ?_
    obtain ⟨F₁, N₁⟩ := keep h₁ hk₁
    obtain ⟨io₁, hio₁⟩ := hex _ _ hst₁
    have N₂ : News h₀ env.locals h₁ ((I, io₁) :: news') := fun q hq => by
      rcases List.mem_cons.mp hq with rfl | hq
      · exact ⟨hio₁, fun z => hLI z.symm, hI0⟩
      · exact N₁ q hq
    dsimp only
    rw [hgo v]
    refine wpAny_pure ?_
    refine wpAny_passesOwn hE (wpAny_mono (turn i v io₁ m' news' { s' with heap := h₁, toks := tk₁ } hlt hP hJ (hZ _ _ _ hz) F₁ N₂ hne') (fun _ s₂ h₂ => wpAny_passesOwn hE (wpAny_mono h₂ (fun f s₃ h₃ => ?_) fun _ _ e => e)) fun _ _ e => e)
    have fin : (Z s₃ ∧ ∃ m' news', Fr h₀ env.locals s₃.heap m' ∧ News h₀ env.locals s₃.heap ((I, io₁) :: news') ∧ (∀ q ∈ news', q.1 ≠ I) ∧ J (i + 1) m' news') →
        ∃ m, m < n + 1 - i ∧ ∃ i m' news', m = n + 1 - i ∧ i ≤ n ∧ Z s₃ ∧ St i s₃.heap ∧
          Fr h₀ env.locals s₃.heap m' ∧ News h₀ env.locals s₃.heap news' ∧ (∀ q ∈ news', q.1 ≠ I) ∧ J i m' news' := by
      rintro ⟨hz₃, m₃, news₃, F₃, N₃, hne₃, hJ₃⟩
      have hio₃ := (N₃ _ (.head _)).1
      refine ⟨n + 1 - (i + 1), by omega, i + 1, m₃, news₃, rfl, hlt, hz₃, W.frame _ _ _ hst₁ (fun b hb o e => ?_), F₃, fun q hq => N₃ q (.tail _ hq), hne₃, hJ₃⟩
      rw [List.mem_singleton.mp hb] at e ⊢
      rw [hio₁] at e
      cases e
      exact hio₃
    cases f with
    | ret v => exact h₃
    | brk => exact h₃
    | next => exact fin h₃
    | cont => exact fin h₃
  · have hin : i = n := by omega
    subst hin
    refine W.done s' _ _ hst' fun h₁ tk₁ hk₁ => wpAny_execs_nil ?_
    obtain ⟨F₁, N₁⟩ := keep h₁ hk₁
    exact done m' news' { s' with heap := h₁, toks := tk₁ } hJ (hZ _ _ _ hz) F₁ N₁
theorem iterRangeS {x : Str} {px : Pos} {r : Addr} {a₀ b₀ : Int} {t₀ u₀ v₀ : Tok} {n : Nat} {m : Str → Option Value} {news : List (Addr × Obj)} (hh : A.handled = none) (hr : IsRange s.heap r a₀ b₀ 1 t₀ u₀ v₀) (hsmall : Builtin.Range.small a₀ b₀ 1 = true) (hn : Builtin.Range.rangeSize a₀ b₀ 1 = (n : Int))
    (F : Fr h₀ env.locals s.heap m) (N : News h₀ env.locals s.heap news) (Z : Shared → Prop) (hZ : ∀ s h tk, Z s → Z { s with heap := h, toks := tk }) (hZ0 : Z s)
    (J : Nat → (Str → Option Value) → List (Addr × Obj) → Prop) (h0 : J 0 m news)
    (turn : ∀ i t I io m₁ news₁ s₁, i < n → J i m₁ news₁ → Z s₁ → Fr h₀ env.locals s₁.heap m₁ → News h₀ env.locals s₁.heap ((I, io) :: news₁) → (∀ q ∈ news₁, q.1 ≠ I) →
      wpAny (model prog w) A (assign (.Name x px) env (.int (a₀ + (i : Int)) t)) (fun _ s₂ => wpAny (model prog w) A (execs body env) (TurnEnd h₀ env.locals Z I io (J (i + 1)) Q) E s₂) E s₁)
    (done : ∀ m' news' s', J n m' news' → Z s' → Fr h₀ env.locals s'.heap m' → News h₀ env.locals s'.heap news' → Q .next s')
    (hE : PassesOwn (model prog w) A env E) :
    wpAny (model prog w) A (pyIter (.ref r)) (fun it s₂ => codeAny (model prog w) A (.forLoop (.Name x px) it body [] env) (fun r s' => match r with | .ok f => Q f s' | .error e => cameBackBy (model prog w) A env E e s') s₂) E s := by
  refine wpAny_pyIter_range hr hsmall ?_
  have W := Walks.range (prog := prog) (w := w) hh s.heap.objs.size a₀ 1 n
  refine loopW (target := .Name x px) W (fun i h st => ⟨_, st⟩) (by show IsRangeIter _ _ _ _ _; rw [hn]; simpa using Heap.get?_push_size _ rfl) (next_is_new F) (Nat.ne_of_lt F.ns.lt) (F.push _) (fun q hq => ⟨Heap.get?_push_of_some _ (N q hq).1, (N q hq).2⟩)
    (fun q hq => Nat.ne_of_lt (Heap.lt_size (N q hq).1)) Z hZ (hZ _ _ _ hZ0) (fun _ => rfl) J h0 (fun i v io m₁ news₁ s₁ hi hP hJ hz F₁ N₁ hne => ?_) done hE
  obtain ⟨t, rfl⟩ := hP
  rw [Int.mul_one]
  exact turn i t _ io m₁ news₁ s₁ hi hJ hz F₁ N₁ hne
end
/-- two to the place within an octet -/
def pow8 (x : Int) : Int := 2 ^ (x.fmod 8).toNat
theorem fmod8 (x : Int) : 0 ≤ x.fmod 8 ∧ x.fmod 8 < 8 := by
  rw [Int.fmod_eq_emod_of_nonneg _ (by omega)]
  omega
theorem shift1 {prog : Program} {w : World} {A : Around} {E : Value → Shared → Prop} {s : Shared} {t u : Tok} {x : Int} {Q : Value → Shared → Prop} (h : Q (.int (pow8 x) s.toks) { s with toks := s.toks + 1 }) :
    wpAny (model prog w) A (binaryOp .LShift (.int 1 t) (.int (x.fmod 8) u)) Q E s := by
  have := fmod8 x
  refine lshift_int_small this.1 (by omega) (by decide) ?_
  rw [Int.one_mul]
  exact h
/-- is the place set among the octets -/
def bitAt (oct : List Int) (j : Int) : Bool := !(Builtin.bitAnd (oct.getD (j.fdiv 8).toNat 0) (pow8 j) == 0)
/-- a fact kept out of the closers' sight -/
def Kept (p : Prop) : Prop := p
theorem iteBoth {c : Prop} [Decidable c] {a b : Prop} (h1 : Kept c → a) (h2 : Kept (¬ c) → b) : if c then a else b := by
  by_cases h : c
  · rw [if_pos h]; exact h1 h
  · rw [if_neg h]; exact h2 h
theorem bindFour {x y : Str} {m : Str → Option Value} {u v u' v' : Option Value} :
    (fun z => if z = x then u else if z = y then v else if z = x then u' else if z = y then v' else m z) = fun z => if z = x then u else if z = y then v else m z := by
  funext z
  by_cases e : z = x
  · simp [e]
  · by_cases e' : z = y
    · simp [e, e']
    · simp [e, e']
theorem bindSix {x y a : Str} {m : Str → Option Value} {u v c u' v' c' : Option Value} :
    (fun z => if z = x then u else if z = y then v else if z = a then c else if z = x then u' else if z = y then v' else if z = a then c' else m z) = fun z => if z = x then u else if z = y then v else if z = a then c else m z := by
  funext z
  by_cases e : z = x
  · simp [e]
  · by_cases e' : z = y
    · simp [e, e']
    · by_cases e'' : z = a
      · simp [e, e', e'']
      · simp [e, e', e'']
/-- an entry of a written dict gets another value -/
inductive PutL (name : Str) (v : Value) : List DictEntry → List DictEntry → Prop
  | head {h : Int} {t : Tok} {u : Value} {r : List DictEntry} : PutL name v (⟨h, .str name t, u⟩ :: r) (⟨h, .str name t, v⟩ :: r)
  | tail {e : DictEntry} {r r' : List DictEntry} (hne : e.key.isStr name = false) : PutL name v r r' → PutL name v (e :: r) (e :: r')
theorem PutL.eq {name : Str} {v : Value} {es es' : List DictEntry} (p : PutL name v es es') (hsh : Int) (key : Value) (n : Nat) : (putL name hsh key v es, putN name es n) = (es', n) := by
  have h : putL name hsh key v es = es' ∧ es.any (·.key.isStr name) = true := by
    induction p with
    | head => exact ⟨by simp [putL, Value.isStr], by simp [Value.isStr]⟩
    | tail hne _ ih => exact ⟨by rw [putL, if_neg (by rw [hne]; decide), ih.1], by rw [List.any_cons, ih.2, Bool.or_true]⟩
  rw [h.1, putN, if_pos h.2]
section
variable {prog : Program} {w : World} {A : Around} {s : Shared} {h₀ : Heap} {mg mb : Str → Option Value} {objs : List (Addr × Obj)} {K : Frag} {p : Program} {loose : List Str}
  {R : Result → Shared → Prop} {name qual : Str} {params : Arguments} {body : List Stmt} {scope : Scope} {dV kV doc pm cdv ct oc : Value} {an od : Option Addr} {osl : Array (Option Value)} {f : Addr} {args : Args} {binds : List (Str × Value)}
/-- the end of a def that changes nothing that stood before it -/
def LeaveH (h : Heap) (objs : List (Addr × Obj)) (g : Heap) (R : Result → Shared → Prop) (v : Value) (s' : Shared) : Prop :=
  ∃ L' m', Fr g L' s'.heap m' ∧ News g L' s'.heap objs ∧ ((∀ b o, h.get? b = some o → s'.heap.get? b = some o) → R (.ok (.ret v)) s')
theorem leaveH_ {h g : Heap} {objs : List (Addr × Obj)} {L' : Addr} {m' : Str → Option Value} {R : Result → Shared → Prop} {v : Value} {s' : Shared} (F' : Fr g L' s'.heap m') (N' : News g L' s'.heap objs)
    (k : (∀ b o, h.get? b = some o → s'.heap.get? b = some o) → R (.ok (.ret v)) s') : LeaveH h objs g R v s' := ⟨L', m', F', N', k⟩
/-- entering a def by the heap alone, whatever stands around the call -/
theorem enterH (hst : h₀.StaysIn s.heap) (hobjs : ∀ q ∈ objs, s.heap.get? q.1 = some q.2 ∧ h₀.get? q.1 = none) (X : K.In h₀) (T : TopRead p loose mg mb h₀)
    (ho : K.lookup f = some ⟨oc, od, .func (fnOf name qual params body scope dV kV doc pm an cdv ct), osl⟩) (hcd : codeIn K cdv qual = true) (hroom : A.depth < recursionLimit)
    (hbind : BindsTo s (fnOf name qual params body scope dV kV doc pm an cdv ct) args binds) (hloc : ∀ y ∈ binds, scope.names.lookup y.1 = some .local)
    (h : ∀ g L' h₁, Fr g L' h₁ (fun y => binds.reverse.lookup y) → News g L' h₁ objs → K.In g → TopRead p loose mg mb g → (∀ q ∈ objs, q.1 < L') →
      wpAny (model prog w) (A.deeper (envOf qual scope L' f cdv)) (execs body (envOf qual scope L' f cdv))
        (fun fl s' => LeaveH s.heap objs g R (match fl with | .ret v => v | _ => .none) s')
        (fun e s' => wpAny (model prog w) (A.deeper (envOf qual scope L' f cdv)) (leaving (envOf qual scope L' f cdv) e) (fun _ s'' => R (.error e) s'') (fun e' s'' => R (.error e') s'') s')
        { s with heap := h₁, toks := s.toks + binds.length })
    (hco : scope.isCoroutine = false) (hgen : scope.isGenerator = false) (hk : scope.kind = .function)
    (hcell : ∀ x ∈ scope.names, x.2 ≠ .cell) : codeAny (model prog w) A (.call (.ref f) args) R s := by
  have nm : ∀ b o, h₀.get? b = some o → b ∉ objs.map (·.1) := fun b o e q => by
    obtain ⟨p, hp, rfl⟩ := List.mem_map.mp q
    rw [(hobjs p hp).2] at e; cases e
  have st : h₀.StaysIn (hideAll s.heap (objs.map (·.1))) := fun b o e => hideAll_get _ (hst b o e) (nm b o e)
  refine codeAny_call_def (fd := fnOf name qual params body scope dV kV doc pm an cdv ct) (body := body) (binds := binds) hroom ((X.keeps hst) _ _ ho) rfl (T.nolimit.keeps hst) (codeRec_of (X.keeps hst) hcd) rfl hbind hcell hloc (fun h₁ hns hk₁ => ?_) hco hgen hk
  refine wpAny_mono (h _ s.heap.objs.size h₁ ⟨hns, fun b o e => hk₁ b o (of_hideAll _ e), Nat.le_of_eq (hideAll_size _ _)⟩
    (fun q hq => ⟨hk₁ _ _ (hobjs q hq).1, Nat.ne_of_lt (Heap.lt_size (hobjs q hq).1), hideAll_none _ (List.mem_map_of_mem hq)⟩) (X.keeps st) (T.keeps st) (fun q hq => Heap.lt_size (hobjs q hq).1)) (fun fl s' hl => ?_) fun _ _ y => y
  obtain ⟨L', m', F', N', k⟩ := hl
  refine k fun b o e => ?_
  by_cases hb : b ∈ objs.map (·.1)
  · obtain ⟨q, hq, rfl⟩ := List.mem_map.mp hb
    rw [(hobjs q hq).1] at e
    cases e
    exact (N' q hq).1
  · exact F'.keep b o (hideAll_get _ e hb)
end
abbrev PR : Program := PySem.Challenge.rw_vo0020_01.row.prog
/-- the module of the built-ins, as the text's own names tell it -/
def BM (mg : Str → Option Value) (h : Heap) : Prop := ∃ bm ob, BMod h mainGlobals mg bm ob
theorem BM.keeps {mg : Str → Option Value} {h h' : Heap} (M : BM mg h) (k : ∀ b o, h.get? b = some o → h'.get? b = some o) : BM mg h' := let ⟨bm, ob, x⟩ := M; ⟨bm, ob, x.keeps k⟩
/-- a contract of a def: its objects, how deep it goes, what it hands back -/
abbrev Con (w : World) (D : Nat) (f : Addr) (args : List Value) (kw : List (Str × Value)) (objs : List (Addr × Obj)) (Post : Value → List (Addr × Obj) → Prop) : Prop :=
  ∀ (dp un : Nat) (gd : Option (List Code)) (cn : Str) (cs : Scope) (a : Addr) (ccd : Value) (cl : List (Str × Addr)) (outer : List Env) (A₀ : Around) (base h₀ : Heap) (L : Addr) (m : Str → Option Value) (rest : List (Addr × Obj))
    (p : Program) (loose : List Str) (mg mb : Str → Option Value) (s : Shared) (Q E : Value → Shared → Prop),
    Below A₀ base outer h₀ → Fr h₀ L s.heap m → (Mine.hd.heap_39 w.params).In h₀ → News h₀ L s.heap (objs ++ rest) → TopRead p loose mg mb h₀ → BM mg h₀ → cs.kind = .function → (∀ q ∈ rest, ∀ b ∈ objs, q.1 ≠ b.1) →
    dp + D < recursionLimit → un + 8 * D < cLine → AllBare s.gens →
    (∀ v objs' s', s'.os = s.os → AllBare s'.gens → Fr h₀ L s'.heap m → News h₀ L s'.heap (objs' ++ rest) → (∀ q ∈ rest, ∀ b ∈ objs', q.1 ≠ b.1) → Post v objs' → Q v s') →
    wpAny (model PySem.Challenge.rw_vo0020_01.row.prog w) (ktrTop dp un gd cn cs L a ccd cl outer) (call (.ref f) args kw) Q E s
section
variable {w : World} {D : Nat} {f : Addr} {args : List Value} {kw : List (Str × Value)} {objs news : List (Addr × Obj)} {Post : Value → List (Addr × Obj) → Prop}
  {dp un : Nat} {gd : Option (List Code)} {cn : Str} {cs : Scope} {a : Addr} {ccd : Value} {cl : List (Str × Addr)} {outer : List Env} {A A₀ : Around} {base h₀ : Heap} {L : Addr} {m : Str → Option Value}
  {p : Program} {loose : List Str} {mg mb : Str → Option Value} {s : Shared} {Q E : Value → Shared → Prop}
/-- a contract used where a call stands -/
theorem useCon (C : Con w D f args kw objs Post) (hA : A = ktrTop dp un gd cn cs L a ccd cl outer) (B : Below A₀ base outer h₀) (F : Fr h₀ L s.heap m) (X : (Mine.hd.heap_39 w.params).In h₀) (N : News h₀ L s.heap news) (T : TopRead p loose mg mb h₀) (M : BM mg h₀)
    (hk : cs.kind = .function) (rest : List (Addr × Obj)) (hsub : ∀ q ∈ objs, q ∈ news) (hrest : ∀ q ∈ rest, q ∈ news) (hap : ∀ q ∈ rest, ∀ b ∈ objs, q.1 ≠ b.1) (hd : dp + D < recursionLimit) (hu : un + 8 * D < cLine) (hb : AllBare s.gens)
    (ret : ∀ v objs' s', s'.os = s.os → AllBare s'.gens → Fr h₀ L s'.heap m → News h₀ L s'.heap (objs' ++ rest) → (∀ q ∈ rest, ∀ b ∈ objs', q.1 ≠ b.1) → Post v objs' → Q v s') :
    wpAny (model PySem.Challenge.rw_vo0020_01.row.prog w) A (call (.ref f) args kw) Q E s := by
  subst hA
  exact C dp un gd cn cs a ccd cl outer A₀ base h₀ L m rest p loose mg mb s Q E B F X (subN N fun q hq => (List.mem_append.mp hq).elim (hsub q) (hrest q)) T M hk hap hd hu hb ret
/-- the same, of a def that wants nothing of the ledger -/
theorem useCon0 (C : Con w D f args kw [] Post) (hA : A = ktrTop dp un gd cn cs L a ccd cl outer) (B : Below A₀ base outer h₀) (F : Fr h₀ L s.heap m) (X : (Mine.hd.heap_39 w.params).In h₀) (N : News h₀ L s.heap news) (T : TopRead p loose mg mb h₀) (M : BM mg h₀)
    (hk : cs.kind = .function) (hd : dp + D < recursionLimit) (hu : un + 8 * D < cLine) (hb : AllBare s.gens)
    (ret : ∀ v objs' s', s'.os = s.os → AllBare s'.gens → Fr h₀ L s'.heap m → News h₀ L s'.heap (objs' ++ news) → (∀ q ∈ news, ∀ b ∈ objs', q.1 ≠ b.1) → Post v objs' → Q v s') :
    wpAny (model PySem.Challenge.rw_vo0020_01.row.prog w) A (call (.ref f) args kw) Q E s :=
  useCon C hA B F X N T M hk news (fun _ h => nomatch h) (fun _ h => h) (fun _ _ _ h => nomatch h) hd hu hb ret
end
end
section
section
variable {prog : Program} {w : World} {A : Around} {E : Value → Shared → Prop} {s : Shared} {h₀ : Heap} {c P L : Addr} {mg mb : Str → Option Value} {p : Program} {loose : List Str}
/-- the code of a generator expression, made or found -/
theorem genCode {M : Model} {env : Env} {pos : Pos} {qualname : Str} {scope : Scope} {ps : Array Value} {Q : Value → Shared → Prop} (hc : env.code = .ref c) (C : CodeHd s.heap c P) (hP : s.heap.get? P = some (tabObj ps)) (ht : TriplesOk ps.toList)
    (hQ : ∀ code h' tk ps', Heap.ExtBut P s.heap h' → s.heap.objs.size ≤ h'.objs.size → h'.get? P = some (tabObj ps') → TriplesOk ps'.toList → Q code { s with heap := h', toks := tk }) :
    wpAny M A (genexprCode env pos qualname scope) Q E s := by
  cases hf : codeAmong pos ps.toList with
  | some c' => exact wpAny_genexprCode_hit hc (C.code hP ht) hf (hQ c' s.heap s.toks ps (fun _ _ _ e => e) (Nat.le_refl _) hP ht)
  | none =>
    refine wpAny_genexprCodeX hc (C.code hP ht) (C.tab hP) hf fun c' h' tk hx hge hlt hcode _ htab _ => ?_
    obtain ⟨o, vs, file, tf, flags, tg, inF, text, tt, op, _, _, _, _, _, _, _, h1, h2, h3, _⟩ := hcode
    exact hQ _ h' tk _ hx (Nat.le_trans hge (Nat.le_of_lt hlt)) htab.2 h3
/-- a generator expression over a list, each element's value a bool that a call reckons; the code's table in the ledger -/
theorem genExp {env : Env} {elt iter : Expr} {x : Str} {px : Pos} {scope : Scope} {cl : List (Str × Addr)} {pos : Pos} {Q : Value → Shared → Prop}
    (hh : A.handled = none) (hco : scope.isCoroutine = false) (hclos : closureFor scope env = pure cl) (hcell : ∀ y ∈ scope.names, y.2 ≠ .cell) (h0 : scope.names.lookup (".0" : Str) = some NameKind.local)
    (hx : scope.names.lookup x = some .local) (hkind : scope.kind = .function) (hroom : A.depth < recursionLimit) (hcode : env.code = .ref c) (hge : env.globals = mainGlobals)
    (h : wpAny (model prog w) A (eval iter env) (fun xv s₁ => ∃ l items m news ps, xv = .ref l ∧ s₁.heap.IsList l items ∧ Fr h₀ L s₁.heap m ∧ News h₀ L s₁.heap news ∧ (P, tabObj ps) ∈ news ∧ TriplesOk ps.toList ∧ CodeHd h₀ c P ∧ TopRead p loose mg mb h₀ ∧ BM mg h₀ ∧ AllBare s₁.gens ∧
      ∃ tr : Nat → Bool,
        (∀ (C : Addr) (code : Value) (A' : Around) (E' : Value → Shared → Prop) (i : Nat) (v : Value) (s₂ : Shared) (m₂ : Str → Option Value), A'.handled = none → A'.depth ≤ A.depth + 1 → A'.units ≤ A.units + 8 → items[i]? = some v → s₂.heap.Ns C m₂ → m₂ x = some v → s₁.heap.objs.size ≤ C →
          (∀ b o, b ≠ P → s₁.heap.get? b = some o → s₂.heap.get? b = some o) → wpAny (model prog w) A' (eval elt (genEnv scope cl C code builtinsNs env)) (fun y s₃ => y = .bool (tr i) ∧ Keeps s₂ s₃) E' s₂) ∧
        (∀ (a : Addr) (s₅ : Shared) (ps' : Array Value), Fr h₀ L s₅.heap m → (∀ b o, b ≠ P → s₁.heap.get? b = some o → s₅.heap.get? b = some o) → s₅.heap.get? P = some (tabObj ps') → TriplesOk ps'.toList → AllBare s₅.gens → s₅.os = s₁.os →
          Gen prog w A (s₁.heap.objs.size - 1) a items.size (fun j y => y = .bool (tr j)) s₅ → Q (.ref a) s₅)) E s)
    (hs : ∀ x, genFold iter env x = pure x) :
    wpAny (model prog w) A (eval (.GeneratorExp elt [⟨.Name x px, iter, [], 0⟩] scope pos) env) Q E s := by
  refine wpAny_GeneratorExp_walksQD hh hco hclos hcell h0 hx hkind hroom (wpAny_mono h (fun xv s₁ h₁ => ?_) fun _ _ e => e) hs
  obtain ⟨l, items, m, news, ps, rfl, hl, F₁, N₁, hPm, htri, hC, T, Mb, G₁, tr, helt, hQ⟩ := h₁
  have hlt : l < s₁.heap.objs.size := by obtain ⟨_, e, _⟩ := hl; exact Heap.lt_size e
  have hPg : s₁.heap.get? P = some (tabObj ps) := (N₁ _ hPm).1
  have hPlt : P < s₁.heap.objs.size := Heap.lt_size hPg
  have hP0 : h₀.get? P = none := (N₁ _ hPm).2.2
  have hPL : P ≠ L := (N₁ _ hPm).2.1
  have hlP : l ≠ P := fun e => by
    obtain ⟨o, ho, hc, _⟩ := hl
    rw [e, hPg] at ho; cases ho; exact absurd hc (by simp)
  have hLlt : L < s₁.heap.objs.size := F₁.ns.lt
  have hstP : cStatics ≠ P := fun e => by
    obtain ⟨_, hns, _⟩ := T.nolimit
    obtain ⟨o, es, ep, ho, hd, _⟩ := hns
    rw [e, hP0] at ho; cases ho
  refine wpAny_pyIter_list hl ?_
  have k₂ : ∀ b o, s₁.heap.get? b = some o → (s₁.heap.push { cls := .type "list_iterator", data := .fields #[.ref l, .int 0 0] }).get? b = some o := fun b o e => Heap.get?_push_of_some _ e
  refine ⟨(T.nolimit.keeps F₁.keep).keeps k₂, ?_⟩
  refine genCode hcode ((hC.keeps F₁.keep).keeps k₂) (k₂ _ _ hPg) htri fun code h₃ tk₃ ps₃ hx₃ hsz₃ hP₃ htri₃ => ?_
  have k₃ : ∀ b o, b ≠ P → s₁.heap.get? b = some o → h₃.get? b = some o := fun b o hb e => hx₃ b o hb (k₂ b o e)
  have hsz₃' : s₁.heap.objs.size + 1 ≤ h₃.objs.size := by
    have h9 : (s₁.heap.push { cls := .type "list_iterator", data := .fields #[.ref l, .int 0 0] }).objs.size ≤ h₃.objs.size := hsz₃
    rwa [Heap.size_push] at h9
  have F₃ : Fr h₀ L h₃ m := ⟨F₁.ns.at' fun o e => k₃ _ _ (Ne.symm hPL) e, fun b o e => k₃ b o (fun z => by rw [z, hP0] at e; cases e) (F₁.keep b o e), F₁.above⟩
  obtain ⟨bm, ob, M₀⟩ := Mb
  have M₃ : BMod h₃ mainGlobals mg bm ob := M₀.keeps F₃.keep
  have hl₃ : h₃.NoLimit := T.nolimit.keeps F₃.keep
  rw [hge]
  refine wpAny_builtinsFor M₃.ns M₃.name M₃.ne M₃.obj M₃.cls M₃.dict M₃.data ?_
  have hit₃ : h₃.get? s₁.heap.objs.size = some { cls := .type "list_iterator", data := .fields #[.ref l, .int 0 0] } := hx₃ _ _ (fun z => Nat.lt_irrefl _ (z ▸ hPlt)) (Heap.get?_push_size _ rfl)
  have pas : ∀ n, passing (fun _ => true) n 0 = List.range n := fun n => by simp [passing]
  refine ⟨s₁.heap.objs.size, [s₁.heap.objs.size, l], [s₁.heap.objs.size], items.size, _, _, fun _ => true, fun i y => y = .bool (tr i), rfl, fun A' hA => Walks.list hA _ _ (Nat.ne_of_lt hlt) items,
    ⟨⟨_, hit₃, rfl, rfl⟩, hl.at fun o e => k₃ _ _ hlP e⟩, ?_, hl₃, ?_, ?_, ?_⟩
  · intro b hb
    show b < h₃.objs.size
    rcases List.mem_cons.mp hb with rfl | hb
    · exact hsz₃'
    · rcases List.mem_cons.mp hb with rfl | hb
      · exact Nat.lt_of_lt_of_le (Nat.lt_succ_of_lt hlt) hsz₃'
      · cases hb
  · intro hb
    have e : cStatics = s₁.heap.objs.size := List.mem_singleton.mp hb
    obtain ⟨_, hns, _⟩ := T.nolimit.keeps F₁.keep
    exact absurd hns.lt (by rw [e]; exact Nat.lt_irrefl _)
  · intro href hhref
    have old : ∀ s₂ : Shared, (∀ b ∈ List.range h₃.objs.size, b ∉ [s₁.heap.objs.size] → ∀ o, href.get? b = some o → s₂.heap.get? b = some o) → ∀ b o, b ≠ P → s₁.heap.get? b = some o → s₂.heap.get? b = some o := fun s₂ hk b o hb e => by
      have hb1 : b < s₁.heap.objs.size := Heap.lt_size e
      exact hk b (List.mem_range.mpr (Nat.lt_of_lt_of_le (Nat.lt_succ_of_lt hb1) hsz₃')) (by simp; exact Nat.ne_of_lt hb1) o (hhref b o (k₃ b o hb e))
    refine ⟨fun A' E' i v s₂ m₂ _ _ _ _ _ _ _ => ?_, fun A' E' i v s₂ m₂ hA hD hU hv _ hn hm hk => ?_⟩
    · exact wpAny_pure ⟨rfl, s₂.heap, s₂.toks, rfl, fun _ _ e => e⟩
    · exact helt _ code A' E' i v s₂ m₂ hA hD hU hv hn hm (Nat.le_trans (Nat.le_succ _) hsz₃') (old s₂ hk)
  · intro a h₅ tk gs hgb hag hsz₅ hk₅ W hat
    rw [pas, List.length_range] at W
    have W' := WalksS.imp (P' := fun j y => y = Value.bool (tr j)) W fun j y hy => by
      obtain ⟨i, hi, hy⟩ := hy
      have hlt9 : j < items.size := by
        have := (List.getElem?_eq_some_iff.mp hi).1
        simpa using this
      rw [List.getElem?_range hlt9] at hi
      cases hi
      exact hy
    refine hQ a _ ps₃ (F₃.keeps hk₅) (fun b o hb e => hk₅ b o (k₃ b o hb e)) (hk₅ _ _ hP₃) htri₃ (G₁.push hgb) rfl ⟨_, _, _, _, W', hat, (fun i s' st => st.1.typeIs), List.mem_cons_self, ?_, ?_⟩
    · intro b hb
      show b < h₅.objs.size
      rw [hsz₅]
      rcases List.mem_cons.mp hb with rfl | hb
      · exact Nat.lt_succ_self _
      · rcases List.mem_cons.mp hb with rfl | hb
        · exact Nat.lt_succ_of_lt hag
        · exact Nat.lt_succ_of_lt (Nat.lt_trans (List.mem_range.mp hb) hag)
    · intro b hb
      have hb9 : s₁.heap.objs.size ≤ b := by
        rcases List.mem_cons.mp hb with rfl | hb
        · exact Nat.le_trans (Nat.le_succ _) hsz₃'
        · exact Nat.le_of_eq (List.mem_singleton.mp hb).symm
      exact Nat.lt_of_lt_of_le (Nat.sub_lt (Nat.lt_of_le_of_lt (Nat.zero_le _) hLlt) Nat.one_pos) hb9
end
end
section
section
variable {prog : Program} {w : World} {A₀ A : Around} {s : Shared} {base h₀ : Heap} {outer : List Env} {L : Addr} {m mg mb : Str → Option Value} {env : Env} {news : List (Addr × Obj)} {K : Frag} {p : Program} {loose : List Str}
/-- the call of a def that asks super(), by what of the top is read -/
theorem superT {R : Result → Shared → Prop} {name qual : Str} {params : Arguments} {body : List Stmt} {scope : Scope} {dV kV doc pm cdv ct oc : Value} {an od : Option Addr} {osl : Array (Option Value)} {f cc : Addr} {args : Args} {binds : List (Str × Value)}
    (B : Below A₀ base outer h₀) (F : Fr h₀ L s.heap m) (X : K.In h₀) (N : News h₀ L s.heap news) (T : TopRead p loose mg mb h₀) (hA : A.frames = some (env :: outer)) (hf : env.frame = some L) (hke : env.scope.kind = .function)
    (ho : K.lookup f = some ⟨oc, od, .func (ksFn name qual params body scope dV kV doc pm an cdv ct cc), osl⟩) (hcd : codeIn K cdv qual = true) (hroom : A.depth < recursionLimit)
    (hbind : BindsTo s (ksFn name qual params body scope dV kV doc pm an cdv ct cc) args binds) (hloc : ∀ y ∈ binds, scope.names.lookup y.1 = some .local)
    (go : ∀ g L' h₁, Fr h₀ L g m → Fr g L' h₁ (fun y => binds.reverse.lookup y) → News g L' h₁ news → Below A base (env :: outer) g → K.In g → TopRead p loose mg mb g → (∀ q ∈ news, q.1 < L') →
      _root_.PySem.wpAt (model prog w) (A.deeper (ksEnv qual scope L' f cdv cc)) (.func body (ksEnv qual scope L' f cdv cc)) (execs body (ksEnv qual scope L' f cdv cc))
        (fun fl s' => LeaveK h₀ L m g R (match fl with | .ret v => v | _ => .none) s')
        (fun e s' => wpAny (model prog w) (A.deeper (ksEnv qual scope L' f cdv cc)) (leaving (ksEnv qual scope L' f cdv cc) e) (fun _ s'' => R (.error e) s'') (fun e' s'' => R (.error e') s'') s')
        { s with heap := h₁, toks := s.toks + binds.length })
    (hcell : ∀ x ∈ scope.names, x.2 ≠ .cell) (hco : scope.isCoroutine = false) (hgen : scope.isGenerator = false) (hk : scope.kind = .function) : codeAny (model prog w) A (.call (.ref f) args) R s := by
  have XS := X.keeps F.keep
  obtain ⟨F1, B1, st, back⟩ := groundX (R := R) B F N hA hf hke
  refine ks_codeAny_call_defAt (body := body) (binds := binds) hroom (XS _ _ ho) rfl (T.nolimit.keeps F.keep) (codeRec_of XS hcd) rfl hbind hcell hloc (fun h₁ ns keep => ?_) hco hgen hk
  have F2 : Fr (hideAll s.heap (news.map (·.1))) s.heap.objs.size h₁ (fun y => binds.reverse.lookup y) := ⟨ns, fun b o e => keep b o (of_hideAll _ e), Nat.le_of_eq (hideAll_size _ _)⟩
  have N2 : News (hideAll s.heap (news.map (·.1))) s.heap.objs.size h₁ news := fun q hq => ⟨keep _ _ (N q hq).1, Nat.ne_of_lt (Heap.lt_size (N q hq).1), hideAll_none _ (List.mem_map_of_mem hq)⟩
  exact ks_wpAt_mono (go _ _ h₁ F1 F2 N2 B1 (X.keeps st) (T.keeps st) fun q hq => Heap.lt_size (N q hq).1) (fun _ _ hl => back _ _ hl) fun _ _ he => he
/-- super() itself -/
theorem superNode {E : Value → Shared → Prop} {x C D f cc cda : Addr} {ox : Obj} {odx : Option Obj} {body : List Stmt} {q : Str} {scope : Scope} {p0 p1 : Pos} {attr : Str} {whole : Sem Value} {fd : FuncData} {ar : Arg} {vs : Array Value} {file : Str} {tf : Tok} {oc ccl cl : Value} {od cdd cld : Option Addr} {osl ccs csl : Array (Option Value)} {cdD : ClassData} {Q : Value → Shared → Prop}
    (F : Fr h₀ L s.heap m) (X : K.In h₀) (N : News h₀ L s.heap news) (T : TopRead p loose mg mb h₀)
    (hf : K.lookup f = some ⟨oc, od, .func fd, osl⟩) (hp : (fd.params.posonlyargs ++ fd.params.args).head? = some ar) (hv : m ar.arg = some (.ref x)) (I : InstAt s.heap x ox C odx)
    (hcode : K.lookup cda = some ⟨ccl, cdd, .fields vs, ccs⟩) (hvs : vs[2]? = some (.str file tf)) (hfile : ((prog.main.file : Str) == file) = true)
    (hcell : K.lookup cc = some ⟨cl, cld, .cell (some (.ref D)), csl⟩) (hD : clsIn K D = some cdD) (hsub : mroIn K C (.ref D) = some true) (hsuper : nsIn K mainGlobals "super" = some none)
    (hat : (attr == ("__class__" : Str)) = false) (hks : scope.names.lookup ("super" : Str) = some .globalImplicit) (hkc : scope.names.lookup ("__class__" : Str) = some .free) (hka : scope.names.lookup ar.arg = some .local) (hk : scope.kind = .function)
    (htop : (prog.main.scope.names.lookup ("super" : Str)).isSome = false) (hboot : bootBuiltins "super" = some (.type "super"))
    (go : ∀ so h', Fr h₀ L h' m → News h₀ L h' ((so, ks_superObj D x C) :: news) → (∀ p ∈ news, p.1 < so) → Q (.ref so) { s with heap := h' }) :
    _root_.PySem.wpAt (model prog w) A (.func body (ksEnv q scope L f (.ref cda) cc)) (attributeBase (.Call (.Name "super" p0) [] [] p1) attr (ksEnv q scope L f (.ref cda) cc) whole) Q E s := by
  have XS : K.In s.heap := X.keeps F.keep
  have hDo : ∃ oD, s.heap.get? D = some oD ∧ oD.data = .cls cdD := by
    unfold clsIn at hD
    split at hD
    · rename_i c d cd' sl ho
      cases hD
      exact ⟨_, XS _ _ ho, rfl⟩
    · cases hD
  obtain ⟨oD, hD1, hD2⟩ := hDo
  refine ks_wpAt_super_base (env := ksEnv q scope L f (.ref cda) cc) hks hkc hat rfl (XS _ _ hf) rfl hp rfl (XS _ _ hcode) rfl hvs hfile htop ?_
  have hg := T.g.keeps F.keep
  have hb := T.b.keeps F.keep
  refine ks_loadName_global hk hks (loadGlobal_builtin (env := ksEnv q scope L f (.ref cda) cc) hg (mg_none_of X T.g hsuper) hb ((T.builtins _ (by decide +kernel)).trans hboot) ⟨rfl, ?_⟩)
  refine wpAny_loadName_free hk hkc rfl ⟨_, XS _ _ hcell, rfl⟩ (wpAny_loadName_local hk hka F.ns hv (ks_wpAny_isType_cls hD1 hD2 ⟨rfl, ks_wpAny_call_super hD1 hD2 I.at_ I.cls (fun c e => ?_) (looks_mroIn XS hsub) fun h' e k => ?_⟩))
  · have h9 := I.no
    unfold notCls at h9
    rw [e] at h9
    cases h9
  · obtain ⟨F3, N3, l3⟩ := ks_newsPush F N rfl e k
    exact go _ _ F3 N3 l3
end
/-- super().name(…, key=…) -/
theorem superKw {M : Model} {A : Around} {c : Code} {E : Value → Shared → Prop} {s : Shared} {env : Env} {o : Expr} {name : Str} {apos pos : Pos} {args : List Expr} {kws : List Keyword} {pl : Sem Bool} {Q : Value → Shared → Prop}
    (h : _root_.PySem.wpAt M A c (attributeBase o name env (eval o env)) (fun ov s₁ => wpAny M A (getMethod ov name pl) (fun fx s₂ => wpAny M A (callWith pos fx.1 fx.2 (backTo pos (starEach args env)) (backToKw pos (keywordEach kws env))) Q E s₂) E s₁) E s)
    (he : eval (.Call (.Attribute o name apos) args kws pos) env = (do
      let ov ← attributeBase o name env (eval o env)
      standAt apos.atName
      let (f, first) ← holding [ov] (getMethod ov name pl)
      callWith pos f first (backTo pos (starEach args env)) (backToKw pos (keywordEach kws env))) := by rfl) :
    _root_.PySem.wpAt M A c (eval (.Call (.Attribute o name apos) args kws pos) env) Q E s := by
  rw [he]
  exact _root_.PySem.wpAt_bind (ks_wpAt_mono h (fun ov s₁ h₁ => _root_.PySem.wpAt_of_wpAny (wpAny_bind (wpAny_standAt (wpAny_bind (wpAny_holding (wpAny_mono h₁ (fun _ _ h₂ => h₂) fun _ _ x => x)))))) fun _ _ x => x)
/-- a bound method called by keys alone -/
theorem boundKw {M : Model} {A : Around} {E : Value → Shared → Prop} {s : Shared} {h₀ : Heap} {L : Addr} {news : List (Addr × Obj)} {K : Frag} {env : Env} {pos : Pos} {q g : Addr} {self : Value} {first : List Value} {Q : Value → Shared → Prop} {kws : List Keyword}
    (_X : K.In h₀) (_N : News h₀ L s.heap news) (_hq : (q, methodObj (.ref g) self) ∈ news) (hf : fnIn K g = true) (hall : (backToKw pos (keywordEach kws env)).all (·.1.isSome) = true)
    (h : wpAny M A (evalAll ((backToKw pos (keywordEach kws env)).map (·.2))) (fun ks s₂ => MethP K q g self s₂.heap ∧ wpAny M A (call (.ref q) (first ++ []) (((backToKw pos (keywordEach kws env)).filterMap (·.1)).zip ks)) Q E s₂) E s)
    (hplain : ((backTo pos (starEach [] env)).any (·.1) || (backToKw pos (keywordEach kws env)).any (·.1.isNone)) = false := by rfl) :
    wpAny M A (callWith pos (.ref q) first (backTo pos (starEach [] env)) (backToKw pos (keywordEach kws env))) Q E s :=
  callWith_of hplain (keeps_M hf) (evalArgs_kw2_nil hall h)
end
section
open PySem PySem.W PyProof.Rows PySem.Calls Builtin Builtin.ObjectAttr
/-- an exception of one of the text's own classes, as it stands in the heap -/
abbrev excObj (C t : Addr) (d : Option Addr) : Obj := { cls := .ref C, dict := d, data := .fields #[.ref t, .none, .none, .none, .bool false, .none] }
/-- the built-in rest of such a class's row of classes -/
abbrev excTl : List Value := [.type "Exception", .type "BaseException", .type "object"]
section
variable {prog : Program} {w : World} {A : Around} {E : Value → Shared → Prop} {s : Shared} {K : Frag} {x C L : Addr} {h₀ : Heap} {m : Str → Option Value} {news : List (Addr × Obj)} {name : Str} {v : Value} {t : Addr}
theorem exc_at0 {h : Heap} (e : h.get? x = some (excObj C t none)) : InstAt h x (excObj C t none) C none := ⟨e, rfl, rfl, trivial⟩
theorem exc_at1 {h : Heap} {dx : Addr} {q : Obj} (e : h.get? x = some (excObj C t (some dx))) (hd : h.get? dx = some q) : InstAt h x (excObj C t (some dx)) C (some q) := ⟨e, rfl, rfl, hd⟩
/-- a field of such an exception is set: what is left to do is the store into its own dict -/
theorem exc_store {R : Result → Shared → Prop} {ox : Obj} {od : Option Obj} {tk : Tok} {C' : Addr} {cd : ClassData} (X : K.In s.heap) (I : InstAt s.heap x ox C od) (hc : clsIn K C = some cd) (hm : cd.mro = .ref C :: .ref C' :: excTl) (ht : findIn K (.ref C) name = some none)
    (h : wpAny (model prog w) A.in1 (storeInOwnDict (.ref x) (.ref C) (.str name tk) name v false)
      (fun fin s' => match fin with | .done f => R (.ok f) s' | .again c' => c'.quiet = true ∧ codeAny (model prog w) A c' R s') (fun e s' => R (.error e) s') s) :
    codeAny (model prog w) A (.call (.builtin "object.__setattr__") ⟨[.ref x, .str name tk, v], []⟩) R s := by
  have SO := PySem.F.store_object
  have ty : Looks (model prog w) s.heap (typeOf (.ref x)) (.ref C) := I.type
  have mr : Looks (model prog w) s.heap (mroOf (.ref C)) cd.mro := (looks_clsIn X hc).andThen .now
  have sub : Looks (model prog w) s.heap (isInstance (.ref x) (.type "object")) true := ty.andThen (looks_mroIn X (by unfold mroIn; rw [hc, Option.bind_some, hm]; rfl))
  refine codeAny_call_builtin SO.slot.plain SO.entry (@check_slot (model prog w) _ _ s "object.__setattr__" "object" "__setattr__" (.ref x) [.str name tk, v] [] _ SO.kind SO.split sub (SO.args (.ref x) (.str name tk) v) ?_)
  rw [osa_eq, refuse_eq]
  refine wpAny_bind (wpAny_bind (ty.here (wpAny_bind (mr.here ?_))))
  rw [hm, refuseLoop_ref, refuseLoop_ref, PySem.F.store_Exception.passes]
  refine wpAny_pure (wpAny_bind (ty.here (wpAny_bind ((looks_findIn X ht).here ?_))))
  exact wpAny_bind (wpAny_pure h)
/-- a text key is put into a dict of the ledger -/
theorem exc_put {Q : Fin → Shared → Prop} {news' : List (Addr × Obj)} {dx : Addr} {es es' : List DictEntry} {n n' : Nat} {tk : Tok} (F : Fr h₀ L s.heap m) (N : News h₀ L s.heap news) (hl : (getL name es).isSome = true)
    (e : (putL name (PyData.keyHash w.params name) (.str name s.toks) v es, putN name es n) = (es', n')) (U : Upd dx (dictOf es n) (dictOf es' n') news news') (hz : es'.length ≤ 1000)
    (h : ∀ h', Fr h₀ L h' m → News h₀ L h' news' → Q (.done (.ret .none)) { s with heap := h', toks := s.toks + 1 }) :
    wpAny (model prog w) A (storeInDict dx (.str name tk) name v) Q E s := by
  obtain ⟨pre, post, rfl, rfl, a, b⟩ := U.split
  obtain ⟨e1, e2⟩ := Prod.mk.inj e
  obtain ⟨U1, U2⟩ := news_upd (f := Obj.putName name (PyData.keyHash w.params name) (.str name s.toks) v) F N a b (o' := dictOf es' n') (by rw [putName_dict, e1, e2]) rfl
  have D := (N (dx, dictOf es n) (by simp)).1
  have D' := (U2 (dx, dictOf es' n') (by simp)).1
  have c : (!es.toArray.any (·.key.isStr name) && es.toArray.any (·.refKey)) = false := by
    simp only [List.any_toArray]
    unfold getL at hl
    split at hl
    · rename_i en he
      rw [List.any_eq_true.mpr ⟨en, List.mem_of_find?_eq_some he, List.find?_some he⟩]; rfl
    · split at hl
      · cases hl
      · rename_i z; rw [Bool.not_eq_true] at z; rw [z, Bool.and_false]
  refine wpAny_bind (wpAny_pure (wpAny_bind ?_))
  unfold nsSet
  refine wpAny_bind (wpAny_bind (wpAny_askSetting (wpAny_pure (wpAny_bind (wpAny_mkText (wpAny_bind (wpAny_loadPart D ?_)))))))
  dsimp only
  rw [aRefKeyMayBeTheName_at, c]
  refine wpAny_updatePart D ?_
  refine wpAny_bind (wpAny_lookBehind D' (pastItsLine_dict (by rw [List.size_toArray, sizeLine_eq]; omega)) ?_)
  exact wpAny_pure (h _ U1 U2)
/-- the first field: the exception gets its dict -/
theorem exc_set0 {Q : Unit → Shared → Prop} {C' : Addr} {cd : ClassData} (F : Fr h₀ L s.heap m) (X₀ : K.In h₀) (N : News h₀ L s.heap ((x, excObj C t none) :: news)) (hne : ∀ q ∈ news, q.1 ≠ x) (hc : clsIn K C = some cd) (hm : cd.mro = .ref C :: .ref C' :: excTl) (hh : cd.hasDict = true)
    (ht : findIn K (.ref C) name = some none) (hs : findIn K (.ref C) "__setattr__" = some (some (.builtin "object.__setattr__")))
    (go : ∀ d h' tk hsh n, Fr h₀ L h' m → News h₀ L h' ((x, excObj C t (some d)) :: (d, dictOf [⟨hsh, .str name tk, v⟩] n) :: news) → (∀ q ∈ news, q.1 < d) → x < d → Q () { s with heap := h', toks := s.toks + 2 }) :
    wpAny (model prog w) A (setAttr (.ref x) name v) Q E s := by
  have X := X₀.keeps F.keep
  have I := exc_at0 (N _ (.head _)).1
  refine set_plain X I hs (exc_store (s := { s with toks := s.toks + 1 }) X I hc hm ht ?_)
  obtain ⟨hp, g, dr, tk, os⟩ := s
  have hx : hp.get? x = some (excObj C t none) := (N _ (.head _)).1
  have LC : Looks (model prog w) hp (classData C) cd := looks_clsIn X hc
  refine wpAny_bind (wpAny_pure (wpAny_bind (wpAny_bind (wpAny_loadPart hx (wpAny_bind (LC.at ?_))))))
  rw [hh]
  have F1 : Fr h₀ L (hp.push emptyDict) m := F.push _
  have N1 : News h₀ L (hp.push emptyDict) ((hp.objs.size, emptyDict) :: (x, excObj C t none) :: news) := N.push F _
  have hlx : x < hp.objs.size := Heap.lt_size hx
  obtain ⟨F2, N2⟩ := news_upd (f := fun o => { cls := o.cls, dict := some hp.objs.size, data := o.data, slots := o.slots }) (pre := [(hp.objs.size, emptyDict)]) (o' := excObj C t (some hp.objs.size)) F1 N1 (fun q hq => by rw [List.mem_singleton.mp hq]; exact Nat.ne_of_gt hlx) hne rfl rfl
  refine wpAny_bind (wpAny_alloc' ?_)
  refine wpAny_bind (wpAny_update' (N1 _ (.tail _ (.head _))).1 ?_)
  refine wpAny_pure ?_
  refine exc_put (es := []) (n := 0) F2 N2 rfl rfl (.head fun q hq => ?_) (show 1 ≤ 1000 by decide) fun h' F3 N3 => ?_
  · rcases List.mem_cons.mp hq with rfl | hq
    · exact Nat.ne_of_lt hlx
    · exact Nat.ne_of_lt (Heap.lt_size (N q (.tail _ hq)).1)
  · exact go _ h' _ _ _ F3 (fun q hq => N3 q ((List.mem_cons.mp hq).elim (fun e => e ▸ .tail _ (.head _)) fun hq => (List.mem_cons.mp hq).elim (fun e => e ▸ .head _) fun hq => .tail _ (.tail _ hq))) (fun q hq => Heap.lt_size (N q (.tail _ hq)).1) hlx
/-- the same field once more -/
theorem exc_set1 {Q : Unit → Shared → Prop} {news' : List (Addr × Obj)} {C' d : Addr} {cd : ClassData} {hsh : Int} {tk : Tok} {n : Nat} {v₀ : Value} (F : Fr h₀ L s.heap m) (X₀ : K.In h₀) (N : News h₀ L s.heap news) (h1 : (x, excObj C t (some d)) ∈ news) (h2 : (d, dictOf [⟨hsh, .str name tk, v₀⟩] n) ∈ news)
    (hc : clsIn K C = some cd) (hm : cd.mro = .ref C :: .ref C' :: excTl) (hh : cd.hasDict = true)
    (ht : findIn K (.ref C) name = some none) (hs : findIn K (.ref C) "__setattr__" = some (some (.builtin "object.__setattr__"))) (U : Upd d (dictOf [⟨hsh, .str name tk, v₀⟩] n) (dictOf [⟨hsh, .str name tk, v⟩] n) news news')
    (go : ∀ h', Fr h₀ L h' m → News h₀ L h' news' → Q () { s with heap := h', toks := s.toks + 2 }) :
    wpAny (model prog w) A (setAttr (.ref x) name v) Q E s := by
  have X := X₀.keeps F.keep
  have I := exc_at1 (N _ h1).1 (N _ h2).1
  refine set_plain X I hs (exc_store (s := { s with toks := s.toks + 1 }) X I hc hm ht ?_)
  obtain ⟨hp, g, dr, tk', os⟩ := s
  have hx : hp.get? x = some (excObj C t (some d)) := (N _ h1).1
  have LC : Looks (model prog w) hp (classData C) cd := looks_clsIn X hc
  refine wpAny_bind (wpAny_pure (wpAny_bind (wpAny_bind (wpAny_loadPart hx (wpAny_bind (LC.at ?_))))))
  rw [hh]
  refine wpAny_pure ?_
  have h3 : (Value.str name tk).isStr name = true := by simp [Value.isStr]
  exact exc_put F N (by unfold getL; simp [h3]) (e := PutL.eq .head _ _ _) U (by simp) go
end
theorem exc_has {C C' : Addr} {T : String} {b : Bool} (h : excTl.contains (.type T) = b) : (Value.ref C :: .ref C' :: excTl).contains (.type T) = b := by
  rw [List.contains_cons, List.contains_cons, h]; rfl
section
open PySem.F
variable {prog : Program} {w : World} {A : Around} {E : Value → Shared → Prop} {R : Result → Shared → Prop} {h : Heap} {g : Array GenState} {d : Drawn} {t : Nat} {os : OsState}
  {nm q : Str} {C C' NS : Addr} {bs : List Value} {hdct : Bool} {sn : List Str} {sub : List Value} {ab : Bool} {col : Option Bool} {dd : Option Addr} {k0 k1 k2 k3 k5 : Option Value}
abbrev excCls (nm q : Str) (C C' N : Addr) (bs : List Value) (hdct : Bool) (sn : List Str) (sub : List Value) (ab : Bool) (col : Option Bool) (dd : Option Addr) (k0 k1 k2 k3 k5 : Option Value) : Obj :=
  excClassObj nm q C N bs (.ref C' :: excTl) hdct sn sub ab col dd k0 k1 k2 k3 k5 "Exception.__new__"
/-- the class's own new one -/
theorem exc_new {v : Value} (hC : h.get? C = some (excCls nm q C C' NS bs hdct sn sub ab col dd k0 k1 k2 k3 k5))
    (go : R (.ok (.ret (.ref (h.objs.size + 1)))) ⟨(h.push { cls := .type "tuple", data := .seq [v].toArray }).push (excObj C h.objs.size none), g, d, t, os⟩) :
    codeAny (model prog w) A (.builtin "Exception.__new__" ⟨.ref C :: [v], []⟩) R ⟨h, g, d, t, os⟩ := by
  have FE := excBase_Exception
  have e1 : (Value.ref C :: .ref C' :: excTl).contains (.type "Exception") = true := exc_has FE.hasB
  have e2 : (Value.ref C :: .ref C' :: excTl).contains (.type "AttributeError") = false := exc_has FE.noAttr
  have e3 : (Value.ref C :: .ref C' :: excTl).contains (.type "NameError") = false := exc_has FE.noName
  have e4 := FE.ends
  refine codeAny_builtinAt FE.entry ?_
  unfold Builtin.«BaseException.__new__»
  refine _root_.PySem.wpAt_bind ?_
  show _root_.PySem.wpAt _ _ _ (stack >>= _) _ _ _
  refine _root_.PySem.wpAt_bind (_root_.PySem.wpAt_stack fun p below => _root_.PySem.wpAt_of_wpAny ?_)
  wp_walk
  refine _root_.PySem.wpAt_of_wpAny ?_
  rw [FE.owner]
  have hr : [v].length ≤ sizeLine := by size_fits
  repeat (first | with_reducible refine wpAny_madeHere_exc FE.canon hC ?_ | with_reducible refine wpAny_loadPart_at hC ?_ | (with_reducible refine wpAny_isSubtype_exc hC ?_; first | rw [e1] | rw [e2] | rw [e3]) | wp_step)
  show R _ _
  rw [Heap.size_push]
  exact go
theorem exc_check {M : Model} {v : Value} {Q : Unit → Shared → Prop} (hC : h.get? C = some (excCls nm q C C' NS bs hdct sn sub ab col dd k0 k1 k2 k3 k5)) (go : Q () ⟨h, g, d, t, os⟩) :
    wpAny M A (checkBuiltinCall "Exception.__new__" ⟨.ref C :: [v], []⟩) Q E ⟨h, g, d, t, os⟩ := by
  have FE := excBase_Exception
  have e1 : (Value.ref C :: .ref C' :: excTl).contains (.type "Exception") = true := exc_has FE.hasB
  have e4 := FE.noStar
  simp only [checkBuiltinCall, FE.newKind, FE.newSplit, FE.newRow]
  repeat (first | refine wpAny_loadPart_at hC ?_ | (refine wpAny_isSubtype_exc hC ?_; rw [e1]) | refine wpAny_staticBase_exc hC ?_ | refine wpAny_madeBy_exc hC ?_ | simp only [bne_self_eq_false, Bool.false_eq_true, if_false] | wp_step)
  exact go
/-- the class is called: a new one of it, then its own __init__ -/
theorem exc_make {K : Frag} {s : Shared} {h₀ : Heap} {L : Addr} {m : Str → Option Value} {news : List (Addr × Obj)} {v : Value} {fI : Addr} {Q : Value → Shared → Prop} (F : Fr h₀ L s.heap m) (N : News h₀ L s.heap news) (X : K.In s.heap)
    (hK : K.lookup C = some (excCls nm q C C' NS bs hdct sn sub ab col dd k0 k1 k2 k3 k5)) (hi : findIn K (.ref C) "__init__" = some (some (.ref fI))) (hf : typeIn K (.ref fI) = some (.type "function"))
    (go : ∀ x t h', Fr h₀ L h' m → News h₀ L h' ((x, excObj C t none) :: (t, tupOf [v]) :: news) → (∀ p ∈ news, p.1 < t) → t < x →
      codeAny (model prog w) (A.under (.builtin "type.__call__" ⟨.ref C :: [v], []⟩)) (.call (.ref fI) ⟨.ref x :: [v], []⟩) (InitBack x fun r s' => match r with | .ok (.ret v) => Q v s' | .ok _ => False | .error e => E e s') { s with heap := h' }) :
    wpAny (model prog w) A (call (.ref C) [v] []) Q E s := by
  obtain ⟨hh, g, d, t, os⟩ := s
  have FE := excBase_Exception
  have hC := X _ _ hK
  dsimp only at hC
  have f1 := tc_lookup
  have f2 := tc_bind (.ref C)
  have hT : (⟨hh, g, d, t, os⟩ : Shared).TypeIs (.ref C) "type" := ⟨_, hC, rfl⟩
  refine wpAny_call (codeAny_of_tree ?_)
  show wpAny _ _ (callAny (.ref C) _) _ _ _
  repeat (any_goals (first | assumption | with_reducible refine wpAny_loadPart_at hC ?_ | wp_step))
  refine ⟨rfl, ?_⟩
  refine codeAny_call_builtin_at (Code.quiet_builtin _ (by decide +kernel)) entry_typeCall (wpAny_check_type_call_sub hC ?_)
  repeat (first | with_reducible refine wpAny_loadPart_at hC ?_ | with_reducible refine wpAny_madeBy_exc hC ?_ | wp_step)
  refine codeAny_call_builtin_code (Code.quiet_builtin _ FE.quiet) (exc_check hC ?_)
  refine exc_new hC ?_
  show wpAny _ _ _ _ _ _
  have N1 := (N.push F (tupOf [v])).push (F.push _) (excObj C hh.objs.size none)
  have F1 := (F.push (tupOf [v])).push (excObj C hh.objs.size none)
  dsimp only at N1 F1
  have k1 : ∀ b o, hh.get? b = some o → ((hh.push (tupOf [v])).push (excObj C hh.objs.size none)).get? b = some o := fun b o e => Heap.get?_push_of_some _ (Heap.get?_push_of_some _ e)
  rw [Heap.size_push] at N1
  have hx := (N1 _ (.head _)).1
  have hC1 := k1 _ _ hC
  have ec : (Value.ref C :: .ref C' :: excTl).contains (.ref C) = true := by simp
  unfold isInstance
  repeat (first | with_reducible refine wpAny_loadPart_at hx ?_ | (with_reducible refine wpAny_isSubtype_exc hC1 ?_; rw [ec]) | wp_step)
  have X1 : K.In ((hh.push (tupOf [v])).push (excObj C hh.objs.size none)) := fun b o e => k1 b o (X b o e)
  show wpAny _ _ (typeLookup (.ref C) _) _ _ _
  refine (looks_findIn X1 hi).at ?_
  dsimp only
  refine wpAny_holding (wpAny_bind ((bind_fn X1 _ hf).at (wpAny_bind ?_)))
  refine wpAny_call (codeAny_mono (go _ _ _ F1 N1 (fun p hp => Heap.lt_size (N p hp).1) (Nat.lt_succ_self _)) fun r s' z => ?_)
  rcases r with e | (v | _ | _ | _) <;> first | exact z | exact z.elim | skip
  obtain ⟨rfl, z⟩ := z
  exact wpAny_pure (wpAny_pure z)
end
end
section
theorem wd_slot : Slot "wrapper_descriptor" "__get__" "wrapper_descriptor.__get__" := .of (owner := "wrapper_descriptor") (n := "__get__") (by rw [typeLookup_type, builtinLookup_eq_fast]; kernel_rfl) (by decide +kernel) (by decide +kernel) (by decide +kernel)
  (by first | exact .inl (by decide +kernel) | exact .inr (by decide +kernel)) (by rw [isSubtype_type]; kernel_rfl)
theorem wd_entry : entryFor table "wrapper_descriptor.__get__" = some Builtin.«wrapper_descriptor.__get__» := entryFor_of_tree (by kernel_rfl)
theorem wd_args (a b c : Value) : argsOk "wrapper_descriptor.__get__" ⟨[a, b, c], []⟩ := by unfold argsOk; kernel_rfl
theorem ei_type : typeOf (.builtin "Exception.__init__") = pure (.type "wrapper_descriptor") := by kernel_rfl
/-- a built-in's own method, bound -/
abbrev wrapObj (i : String) (x : Addr) : Obj := { cls := .type "method-wrapper", data := .fields #[.builtin i, .ref x] }
section
variable {prog : Program} {w : World} {A : Around} {E : Value → Shared → Prop} {h : Heap} {g : Array GenState} {d : Drawn} {t : Nat} {os : OsState}
theorem wd_get {x C : Addr} {Q : Fin → Shared → Prop} (hsub : Looks (model prog w) h (isInstance (.ref x) (.type "Exception")) true)
    (go : Q (.done (.ret (.ref h.objs.size))) ⟨h.push (wrapObj "Exception.__init__" x), g, d, t, os⟩) :
    wpAny (model prog w) A (Builtin.«wrapper_descriptor.__get__» ⟨[.builtin "Exception.__init__", .ref x, .ref C], []⟩) Q E ⟨h, g, d, t, os⟩ := by
  unfold Builtin.«wrapper_descriptor.__get__»
  refine wpAny_bind (wpAny_of_eq (a := (Value.builtin "Exception.__init__", some (.ref x), some (.ref C))) (by kernel_rfl) ?_)
  refine wpAny_bind (wpAny_bind (wpAny_of_eq (a := ((Str.ofString "__init__"), Value.type "Exception")) (by kernel_rfl) ?_))
  dsimp only
  refine wpAny_bind (hsub.at ?_)
  rw [if_neg (by decide)]
  refine wpAny_pure ?_
  unfold newFields
  refine wpAny_bind (wpAny_newObj_type ?_ (by size_fits))
  exact wpAny_pure go
theorem super_ga {so D x C : Addr} {l₀ l : List Value} {K : Frag} {tk : Tok} {Q : Fin → Shared → Prop}
    (hso : h.get? so = some (ks_superObj D x C)) (hno : Looks (model prog w) h (opaqueClassAbove (.ref C)) none)
    (hC : Looks (model prog w) h (mroOf (.ref C)) l₀) (hl : (l₀.dropWhile (· != .ref D)).drop 1 = l) (X : K.In h)
    (hf : alongIn K "__init__" l = some (some (.builtin "Exception.__init__"))) (hxC : x ≠ C) (hsub : Looks (model prog w) h (isInstance (.ref x) (.type "Exception")) true)
    (go : Q (.done (.ret (.ref h.objs.size))) ⟨h.push (wrapObj "Exception.__init__" x), g, d, t, os⟩) :
    wpAny (model prog w) A (Builtin.«super.__getattribute__» ⟨[.ref so, .str "__init__" tk], []⟩) Q E ⟨h, g, d, t, os⟩ := by
  have hne : (Value.ref x == Value.ref C) = false := by simp [hxC]
  have hn : ((Str.ofString "__init__") == ("__class__" : Str)) = false := by decide
  have hdt : (ks_superObj D x C).data = .fields #[.ref D, .ref x, .ref C] := rfl
  have f0 : (#[.ref D, .ref x, .ref C] : Array Value)[0]? = some (.ref D) := rfl
  have f1 : (#[.ref D, .ref x, .ref C] : Array Value)[1]? = some (.ref x) := rfl
  have f2 : (#[.ref D, .ref x, .ref C] : Array Value)[2]? = some (.ref C) := rfl
  have hlk := wd_slot.lookup
  have hT : (⟨h, g, d, t, os⟩ : Shared).TypeIs (.builtin "Exception.__init__") "wrapper_descriptor" := ei_type
  unfold Builtin.«super.__getattribute__»
  repeat (first
    | (with_reducible refine wpAny_field hso hdt f0 ?_) | (with_reducible refine wpAny_field hso hdt f1 ?_) | (with_reducible refine wpAny_field hso hdt f2 ?_)
    | (with_reducible refine ks_wpAny_notOpaque hno ?_)
    | (with_reducible refine Looks.at hC ?_; rw [hl])
    | (refine ks_forIn_along X (fun _ _ => rfl) rfl ?_ hf)
    | (with_reducible refine wpAny_typeOf hT ?_)
    | (with_reducible refine wpAny_call_entry wd_slot hT wd_entry ?_ (wd_args _ _ _))
    | (with_reducible refine ⟨_, rfl, ?_⟩)
    | (simp only [hn, hne, Bool.or_false, Bool.false_eq_true, if_false])
    | (with_reducible refine wd_get hsub ?_)
    | wp_step
    | dsimp only)
  all_goals exact go
theorem wrap_check {M : Model} {x C t0 C' NS : Addr} {od : Option Addr} {v : Value} {Q : Unit → Shared → Prop} {nm q : Str} {bs : List Value} {hdct : Bool} {sn : List Str} {sub : List Value} {ab : Bool} {col : Option Bool} {dd : Option Addr} {k0 k1 k2 k3 k5 : Option Value}
    (hC : h.get? C = some (excCls nm q C C' NS bs hdct sn sub ab col dd k0 k1 k2 k3 k5)) (hx : h.get? x = some (excObj C t0 od)) (go : Q () ⟨h, g, d, t, os⟩) :
    wpAny M A (checkBoundCall "Exception.__init__" ⟨[.ref x, v], []⟩) Q E ⟨h, g, d, t, os⟩ := by
  have FE := PySem.F.excBase_Exception
  have e5 := FE.noStar
  simp only [checkBoundCall, FE.initRow, FE.initKind]
  rw [if_pos (by decide)]
  repeat (first | with_reducible refine wpAny_loadPart_at hx ?_ | with_reducible refine wpAny_loadPart_at hC ?_ | wp_step)
  exact go
theorem wrap_code {x q : Addr} {v : Value} {R : Result → Shared → Prop} {t0 C C' NS : Addr} {od : Option Addr} {nm q' : Str} {bs : List Value} {hdct : Bool} {sn : List Str} {sub : List Value} {ab : Bool} {col : Option Bool} {dd : Option Addr} {k0 k1 k2 k3 k5 : Option Value}
    (hC : h.get? C = some (excCls nm q' C C' NS bs hdct sn sub ab col dd k0 k1 k2 k3 k5)) (hq : h.get? q = some (wrapObj "Exception.__init__" x)) (hx : h.get? x = some (excObj C t0 od))
    (go : R (.ok (.ret .none)) ⟨(h.push (tupOf [v])).update x (Obj.mapFields (·.setIfInBounds 0 (.ref h.objs.size))), g, d, t, os⟩) :
    codeAny (model prog w) A (.call (.ref q) ⟨[v], []⟩) R ⟨h, g, d, t, os⟩ := by
  have FE := PySem.F.excBase_Exception
  refine codeAny_of_tree ?_
  show wpAny _ _ (callAny (.ref q) _) _ _ _
  unfold callAny
  refine wpAny_bind (wpAny_load hq ?_)
  dsimp only
  rw [if_pos (by decide)]
  refine wpAny_bind (wrap_check hC hx (wpAny_pure ⟨plainId_quiet FE.init.plain _, codeAny_builtin FE.initEntry ?_⟩))
  unfold Builtin.«BaseException.__init__»
  dsimp only
  rw [if_neg (by simp)]
  unfold newTuple Builtin.BaseException.bexcPut
  have hx1 := Heap.get?_push_of_some (h := h) (tupOf [v]) hx
  refine wpAny_bind (wpAny_newObj_type (wpAny_bind (wpAny_bind (wpAny_field hx1 rfl rfl (wpAny_bind (wpAny_setField hx1 rfl (Nat.zero_lt_succ _) ?_))))) (by size_fits))
  exact wpAny_letGo (wpAny_pure go)
end
end
section
section
variable {prog : Program} {w : World} {A : Around} {E : Value → Shared → Prop} {s : Shared} {K : Frag} {x C L t0 q so D : Addr} {h₀ : Heap} {m : Str → Option Value} {news : List (Addr × Obj)} {v : Value} {od : Option Addr}
  {C' NS : Addr} {nm q' : Str} {bs : List Value} {hdct : Bool} {sn : List Str} {sub : List Value} {ab : Bool} {col : Option Bool} {dd : Option Addr} {k0 k1 k2 k3 k5 : Option Value}
/-- the built-in's __init__, called through its bound form -/
theorem wrap_call {Q : Value → Shared → Prop} {pre post : List (Addr × Obj)} (F : Fr h₀ L s.heap m) (X₀ : K.In h₀) (N : News h₀ L s.heap (pre ++ (x, excObj C t0 od) :: post)) (hK : K.lookup C = some (excCls nm q' C C' NS bs hdct sn sub ab col dd k0 k1 k2 k3 k5))
    (hq : (q, wrapObj "Exception.__init__" x) ∈ pre ++ (x, excObj C t0 od) :: post) (h1 : ∀ p ∈ pre, p.1 ≠ x) (h2 : ∀ p ∈ post, p.1 ≠ x)
    (go : ∀ t' h', Fr h₀ L h' m → News h₀ L h' ((t', tupOf [v]) :: (pre ++ (x, excObj C t' od) :: post)) → (∀ p ∈ pre ++ (x, excObj C t0 od) :: post, p.1 < t') → Q .none { s with heap := h' }) :
    wpAny (model prog w) A (call (.ref q) [v] []) Q E s := by
  obtain ⟨hh, g, d, t, os⟩ := s
  have X := X₀.keeps F.keep
  have N1 := N.push F (tupOf [v])
  have lt : ∀ p ∈ pre ++ (x, excObj C t0 od) :: post, p.1 < hh.objs.size := fun p hp => Heap.lt_size (N p hp).1
  obtain ⟨U1, U2⟩ := news_upd (pre := (hh.objs.size, tupOf [v]) :: pre) (f := Obj.mapFields (·.setIfInBounds 0 (.ref hh.objs.size))) (o' := excObj C hh.objs.size od) (F.push (tupOf [v])) N1 (fun p hp => by
    rcases List.mem_cons.mp hp with rfl | hp
    · exact Nat.ne_of_gt (lt _ (List.mem_append_right _ (.head _)))
    · exact h1 p hp) h2 rfl rfl
  exact wpAny_call (wrap_code (X _ _ hK) (N _ hq).1 (N (x, excObj C t0 od) (List.mem_append_right _ (.head _))).1 (go _ _ U1 U2 lt))
/-- super().__init__ where the next class is built in -/
theorem super_method {pl : Sem Bool} {Q : Value × List Value → Shared → Prop} (F : Fr h₀ L s.heap m) (X₀ : K.In h₀) (N : News h₀ L s.heap news) (hK : K.lookup C = some (excCls nm q' C C' NS bs hdct sn sub ab col dd k0 k1 k2 k3 k5))
    (hso : (so, ks_superObj D x C) ∈ news) (hx : (x, excObj C t0 od) ∈ news) (ho : nsIn K cStatics "thirdparty.any" = some none)
    (hm : ks_superIn K C D "__init__" = some (some (.builtin "Exception.__init__")))
    (go : ∀ q h', Fr h₀ L h' m → News h₀ L h' ((q, wrapObj "Exception.__init__" x) :: news) → (∀ p ∈ news, p.1 < q) → Q (.ref q, []) { s with heap := h', toks := s.toks + 1 }) :
    wpAny (model prog w) A (getMethod (.ref so) "__init__" pl) Q E s := by
  obtain ⟨hh, g, d, t, os⟩ := s
  have X := X₀.keeps F.keep
  have hso' := (N _ hso).1
  have hx' := (N _ hx).1
  have hC := X _ _ hK
  dsimp only at hso' hx' hC
  have hxC : x ≠ C := by
    rintro rfl
    rw [hC] at hx'
    cases hx'
  have hc : clsIn K C = some { name := nm, bases := bs, mro := .ref C :: .ref C' :: excTl, ns := NS, qualname := q', hasDict := hdct, slotNames := sn, subclasses := sub, abstract := ab, collection := col, hasDel := false } := by unfold clsIn; rw [hK]
  have hCm : Looks (model prog w) hh (mroOf (.ref C)) (.ref C :: .ref C' :: excTl) := (looks_clsIn X hc).andThen .now
  have hsub : Looks (model prog w) hh (isInstance (.ref x) (.type "Exception")) true := (Looks.ld hx').andThen (looks_mroIn X (by unfold mroIn; rw [hc, Option.bind_some]; rfl))
  have hno : Looks (model prog w) hh (opaqueClassAbove (.ref C)) none := looks_opaque X ho
  unfold ks_superIn at hm
  rw [hc, Option.bind_some] at hm
  have hT : ∀ t', (⟨hh, g, d, t', os⟩ : Shared).TypeIs (.ref so) "super" := fun _ => ⟨_, hso', rfl⟩
  have hlk := PySem.F.ks_slot_super_ga.lookup
  unfold getMethod
  refine wpAny_bind (wpAny_specialOf (hT _) hlk ?_)
  have hcan := PySem.F.ks_canon_super_ga
  show wpAny _ _ (if (Manifest.canonical "super.__getattribute__" != "object.__getattribute__") = true then _ else _) _ _ _
  rw [if_pos hcan]
  unfold getAttr getAttrBy
  refine wpAny_bind (wpAny_bind (wpAny_mkText (wpAny_holding (wpAny_bind (wpAny_typeOf (hT _) (wpAny_bind (wpAny_of_eq hlk ?_)))))))
  show wpAny _ _ (getAttrByItsOwn (.ref so) (.str "__init__" t) (.type "super") (.builtin "super.__getattribute__") true false) _ _ _
  unfold getAttrByItsOwn hookBefore callGetattribute boundAndCalled
  refine wpAny_bind (wpAny_of_eq (show (if onTheHeap (.type "super") then typeLookup (.type "super") "__getattr__" else pure none) = pure none from rfl) ?_)
  refine wpAny_bind (wpAny_attempt (wpAny_holding ?_))
  show wpAny _ _ (bindSpecial (.builtin "super.__getattribute__") (.ref so) >>= _) _ _ _
  refine wpAny_bind (wpAny_of_eq (PySem.F.ks_slot_super_ga.bind _) ?_)
  refine wpAny_mono (Q := fun v s' => v = .ref hh.objs.size ∧ s' = ⟨hh.push (wrapObj "Exception.__init__" x), g, d, t + 1, os⟩) (E := fun _ _ => False)
    (wpAny_call_entry PySem.F.ks_slot_super_ga (hT _) PySem.F.ks_entry_super_ga (super_ga hso' hno hCm rfl X hm hxC hsub ⟨_, rfl, rfl, rfl⟩) (PySem.F.ks_gaArgs_super _ _)) (fun v s' hv => ?_) fun _ _ z => z.elim
  obtain ⟨rfl, rfl⟩ := hv
  exact wpAny_pure (wpAny_pure (go _ _ (F.push _) (N.push F _) fun p hp => Heap.lt_size (N p hp).1))
/-- the bound form of a built-in's method, called -/
theorem wrap_with {i : String} {pos : Pos} {e : Expr} {env : Env} {Q : Value → Shared → Prop}
    (h : wpAny (model prog w) A (spliced (backTo pos (starEach [e] env))) (fun vs s₁ => s₁.heap.get? q = some (wrapObj i x) ∧ wpAny (model prog w) A (call (.ref q) vs []) Q E s₁) E s)
    (he : starEach [e] env = (false, eval e env) :: starEach [] env := by rfl) :
    wpAny (model prog w) A (callWith pos (.ref q) [] (backTo pos (starEach [e] env)) []) Q E s := by
  rw [he] at h ⊢
  refine callWith_of (P := fun h => h.get? q = some (wrapObj i x)) rfl (fun h X => ⟨.machine, .inr (.inl rfl), (Looks.ld (part := none) X).andThen .now⟩) (evalArgs_plain h)
end
end
section
open PySem PySem.W PyProof.Rows PySem.Calls Builtin Builtin.ObjectAttr
theorem bg_kind : builtinKind "BaseException.__getattribute__" = some .slot := by decide +kernel
theorem bg_split : splitId "BaseException.__getattribute__" = some ("BaseException", "__getattribute__") := by decide +kernel
section
variable {prog : Program} {w : World} {A : Around} {E : Value → Shared → Prop} {s : Shared} {K : Frag} {x C C' L : Addr} {h₀ : Heap} {m : Str → Option Value} {ox : Obj} {od : Option Obj} {name : Str} {v : Value} {cd : ClassData}
/-- a field of an exception of the text's own is read -/
theorem exc_get {expr : Bool} {Q : Value → Shared → Prop} (F : Fr h₀ L s.heap m) (X₀ : K.In h₀) (I : InstAt s.heap x ox C od) (hc : clsIn K C = some cd) (hm : cd.mro = .ref C :: .ref C' :: excTl)
    (hga : findIn K (.ref C) "__getattribute__" = some (some (.builtin "BaseException.__getattribute__"))) (hgh : findIn K (.ref C) "__getattr__" = some none) (hf : findObj K C od name = some (.value v)) (hv : handedIn v = true) (go : Q v { s with toks := s.toks + 1 }) :
    wpAny (model prog w) A (getAttr (.ref x) name expr) Q E s := by
  obtain ⟨hh, g, d, t, os⟩ := s
  have X : K.In hh := X₀.keeps F.keep
  have FB := PySem.F.attr_Exception
  have L0 : Looks (model prog w) hh (typeOf (.ref x)) (.ref C) := I.type
  have L1 := looks_findIn (M := model prog w) X hga
  have L2 := looks_findIn (M := model prog w) X hgh
  have L3 : Looks (model prog w) hh (find (.ref x) (.ref C) name) (.value v) := looks_find X I hf
  have L4 : Looks (model prog w) hh (isInstance (.ref x) (.type "BaseException")) true := L0.andThen (looks_mroIn X (by unfold mroIn; rw [hc, Option.bind_some, hm]; rfl))
  unfold getAttr getAttrBy
  refine wpAny_bind (wpAny_mkText (wpAny_holding (wpAny_bind (L0.at (wpAny_bind (L1.at ?_))))))
  show wpAny _ _ (getAttrByItsOwn (.ref x) (.str name t) (.ref C) (.builtin "BaseException.__getattribute__") true expr) _ _ _
  unfold getAttrByItsOwn hookBefore callGetattribute boundAndCalled
  refine wpAny_bind (L2.at ?_)
  refine wpAny_bind (wpAny_attempt (wpAny_holding ?_))
  have e1 : (expr && onTheHeap (Value.builtin "BaseException.__getattribute__")) = false := by cases expr <;> rfl
  rw [e1, if_neg (by decide)]
  refine wpAny_bind (wpAny_of_eq (FB.ga.bind _) ?_)
  show wpAny (model prog w) A (call (.builtin "BaseException.__getattribute__") [.ref x, .str name t]) _ _ ⟨hh, g, d, t + 1, os⟩
  refine wpAny_mono (Q := fun v' s' => v' = v ∧ s' = ⟨hh, g, d, t + 1, os⟩) (E := fun _ _ => False) (wpAny_call ?_) (fun v' s' h9 => ?_) fun _ _ z => z.elim
  · refine codeAny_call_builtin FB.ga.plain PySem.F.entry_bexc_ga ?_
    refine @check_slot (model prog w) _ _ ⟨hh, g, d, t + 1, os⟩ "BaseException.__getattribute__" "BaseException" "__getattribute__" (.ref x) [.str name t] [] _ bg_kind bg_split L4 (PySem.F.args_bexc_ga _ _) ?_
    unfold Builtin.«object.__getattribute__»
    refine wpAny_bind (wpAny_of_eq (a := (.ref x, [.str name t])) (by kernel_rfl) ?_)
    dsimp only
    refine wpAny_bind (wpAny_of_eq (a := name) (by kernel_rfl) ?_)
    refine wpAny_bind (L0.at (wpAny_bind (L3.at ?_)))
    exact wpAny_pure ⟨rfl, rfl⟩
  · obtain ⟨rfl, rfl⟩ := h9
    show wpAny _ _ (handedOut v') _ _ _
    rw [handedOut_of hv]
    exact wpAny_pure go
end
end
end Mine
end
section
open PySem PySem.W PyProof.Rows PySem.Calls
namespace Mine
local macro_rules | `(tactic| walk_at "LeaveR") => `(tactic| (refine' leaveR_ ?kF ?kN ?_; (case kF => k_asm); (case kN => k_asm); intro zF zN zA; (try dsimp only)))
local macro_rules | `(tactic| walk_at "eval Name") => `(tactic| (k_here; (with_reducible show wpAny _ _ (eval (Expr.Name _ _) (compEnvC _ _ _ _)) _ _ _); k_dflt (first
  | refine inBlock_global (by k_asm) (by k_asm) (by k_asm) (by k_is) ?_
  | refine inBlock_built (by k_asm) (by k_asm) (by k_asm) (by k_is) (by boot_by_name) (by decide) ?_)))
local macro_rules | `(tactic| walk_at "binaryOp Add") => `(tactic| (k_here; (with_reducible show wpAny _ _ (binaryOp _ (Value.ref _) (Value.ref _)) _ _ _); (with_reducible rename News _ _ _ _ => kN); simp only [slice1] at kN))
local macro_rules | `(tactic| walk_at "binaryOp Add ref ref") => `(tactic| (k_here; (with_reducible show wpAny _ _ (binaryOp _ (Value.ref _) (Value.ref _)) _ _ _); k_dflt (refine' addN ?F ?N ?a ?b ?z ?_; (case F => k_asm); (case N => k_asm); (case a => k_mem); (case b => k_mem); (case z => first | omega | (simp only [List.length_append, List.length_drop, List.length_cons, List.length_nil]; omega)); k_whole); intro D' h' F' N' l1; (try k_lt l1); (try k_sweep)))
local macro_rules | `(tactic| walk_at "my subset") => `(tactic| first | exact List.forall_mem_nil _ | (refine' List.forall_mem_cons.mpr ⟨?za, ?zb⟩; (case za => k_mem); (case zb => walk_at "my subset")) | (intro q9 hq9; walk_at "my tail"))
local macro_rules | `(tactic| walk_at "my tail") => `(tactic| first | assumption | (refine' List.Mem.tail _ ?_; walk_at "my tail"))
local macro_rules | `(tactic| walk_at "assign Tuple") => `(tactic| (k_here; (with_reducible show wpAny _ _ (assign (Expr.Tuple _ _ _) _ (Value.ref _)) _ _ _); k_dflt (refine' unpackN_ ?F ?N ⟨_, News.get ?N2 ?m, rfl, _, rfl⟩ rfl rfl rfl ?_; (case F => k_asm); (case N => k_asm); (case N2 => k_asm); (case m => k_mem); k_whole); intro h' F' N'; (try dsimp only); (try k_sweep)))
local macro_rules | `(tactic| k_mem) => `(tactic| ((with_reducible show List.Mem _ (List.flatMap _ _)); refine memOf ?_; assumption))
local macro_rules | `(tactic| k_all) => `(tactic| ((with_reducible show ∀ q ∈ List.flatMap _ _, _); refine' flatNe ?h ?z; (case h => assumption); (case z => (try dsimp only); omega)))
local macro_rules | `(tactic| walk_at "my bound") => do
  let a := Lean.mkIdent `hq0
  let b := Lean.mkIdent `hq1
  let c := Lean.mkIdent `hz0
  let d := Lean.mkIdent `hz1
  let e := Lean.mkIdent `hq2
  `(tactic| first | with_reducible assumption | exact $a _ | exact $b _ | exact $e _ | exact $c _ (by assumption) | exact $d _ (by assumption) | omega)
local macro_rules | `(tactic| walk_at "subscriptTail") => `(tactic| (k_here; (with_reducible show wpAny _ _ (subscriptTail _ _ (Value.ref _) (Value.int _ _)) _ _ _); k_dflt (refine' itemInts ?N ?m ?i ?z ?y ?x ?_ ?s ?g; (case s => with_unfolding_all rfl); (case g => intro _; with_unfolding_all rfl); (case N => k_asm); (case m => k_mem); (case i => assumption); (case z => walk_at "my bound"); (case y => walk_at "my bound"); (case x => (try simp only [List.length_map, List.length_range]); omega); k_whole); intro t'))
local macro_rules | `(tactic| k_enter) => `(tactic| (refine' inlineT ?k1 ?k2 ?k3 ?k4 ?k5 ?kA ?kF ?kK ?k6 ?k7 ?k8 ?k9 ?kB ?_ ?c2 ?c3 ?c4 ?c5; (case kA => exact rfl); (case kF => exact rfl); (case kK => first | exact rfl | assumption); (case k1 => k_asm); (case k2 => k_asm); (case k3 => k_asm); (case k4 => k_asm); (case k5 => k_asm); (case k6 => k_is); (case k7 => k_is); (case k8 => ktr_room); (case k9 => first | exact BindsTo.of_eq rfl | exact binds_K (by k_in) rfl (by k_is) rfl rfl rfl); (case c5 => decide); (case kB => exact locs rfl); (case c2 => exact rfl); (case c3 => exact rfl); (case c4 => exact rfl); k_whole; intro g' L' h' FG' F' N' B' X' T' l1; (try k_lt l1); (try dsimp only); (try k_lift B'); (try k_fold)))
local macro_rules | `(tactic| walk_at "my step") => `(tactic| first | (k_unfold; (try dsimp only)) | (k_end; wrow_close) | walk1 | (dsimp only; walk1) | (leave1; walk_say "STEP leave1"; try dsimp only))
local macro_rules | `(tactic| walk_at "ite") => `(tactic| (k_here; first | (refine PySem.W.ite_neg (by (try simp only [decide_eq_true_eq, beq_iff_eq, bne_iff_ne, ne_eq, Bool.not_eq_true', decide_eq_false_iff_not]); omega) ?_) | (refine PySem.W.ite_pos (by (try simp only [decide_eq_true_eq, beq_iff_eq, bne_iff_ne, ne_eq, Bool.not_eq_true', decide_eq_false_iff_not]); omega) ?_)))
local macro_rules | `(tactic| walk_at "binaryOp LShift int int") => `(tactic| (k_here; k_dflt (refine shift1 ?_)))
local macro_rules | `(tactic| walk_at "setItem ref int") => `(tactic| (k_here; (with_reducible show wpAny _ _ (setItem (Value.ref _) (Value.int _ _) (Value.int _ _)) _ _ _); k_dflt (refine' ksa_set ?k1 ?k2 ?k3 ?k4 ?k5 ?k6 ?k7 ?_; (case k1 => k_asm); (case k2 => k_asm); (case k3 => k_upd); (case k4 => with_reducible assumption); (case k5 => walk_at "my bound"); (case k6 => walk_at "my bound"); (case k7 => walk_at "my bound"); k_whole); intro h' F' N' hi' hl' hsum'))
local macro_rules | `(tactic| walk_at "my put") => `(tactic| first | exact PutL.head | (refine' PutL.tail ?za ?zb; (case za => rfl); (case zb => walk_at "my put")))
local macro_rules | `(tactic| walk_at "setAttr ref") => `(tactic| (k_here; k_dflt (refine' set_dict ?k1 ?k2 ?k3 ?k4 ?k5 ?k6 ?k7 ?k8 ?k9 ?k10 ?k11 ?k12 ?k13 ?_; (case k1 => k_asm); (case k2 => k_asm); (case k3 => k_asm); (case k4 => k_inst); (case k5 => exact rfl); (case k6 => k_is); (case k7 => k_is); (case k8 => k_is); (case k9 => k_is); (case k10 => k_get); (case k11 => (refine' PutL.eq ?zp _ _ _; (case zp => walk_at "my put"))); (case k12 => k_upd); (case k13 => exact Nat.le_of_ble_eq_true rfl); k_whole; intro h' F' N'; (try k_sweep))))
local macro_rules | `(tactic| walk_at "getAttr ref") => `(tactic| (k_here; k_dflt (refine' get_own ?k1 ?k2 ?k3 ?k4 ?k5 ?k6 ?k7 ?k8 ?k9 ?_; (case k1 => k_asm); (case k2 => k_asm); (case k3 => k_inst); (case k4 => k_is); (case k5 => k_is); (case k6 => k_is); (case k7 => k_is); (case k8 => k_get); (case k9 => k_handed); k_whole)))
local macro_rules | `(tactic| walk_at "getMethod ref") => `(tactic| (k_here; k_dflt (refine' method_inst ?k1 ?k2 ?k3 ?k4 ?k5 ?k6 ?k7 ?_; (case k1 => k_asm); (case k2 => k_asm); (case k3 => k_inst); (case k4 => k_is); (case k5 => k_is); (case k6 => k_is); (case k7 => k_get); k_whole)))
local macro_rules | `(tactic| walk_at "getMethod ref") => `(tactic| (k_here; (with_reducible show wpAny _ _ (getMethod (Value.ref _) (Str.ofString "_hash_func") _) _ _ _); k_dflt (refine' kmu_own ?k1 ?k2 ?k3 ?k4 ?k5 ?_; (case k1 => k_asm); (case k2 => k_asm); (case k3 => k_inst); (case k4 => k_is); (case k5 => k_is); k_whole)))
local macro_rules | `(tactic| walk_at "getMethod ref") => `(tactic| (k_here; (with_reducible show wpAny _ _ (getMethod (Value.ref _) (Str.ofString "_get_optimized_params") _) _ _ _); k_dflt (refine' kmu_cm ?k1 ?k2 ?k3 ?k4 ?k5 ?k6 ?k7 ?k8 ?k9 ?k10 ?k11 ?k12 ?k13 ?_; (case k1 => k_asm); (case k2 => k_asm); (case k3 => k_asm); (case k4 => k_inst); (case k5 => k_is); (case k6 => k_is); (case k7 => k_is); (case k8 => k_is); (case k9 => k_is); (case k10 => k_is); (case k11 => decide +kernel); (case k12 => k_get); (case k13 => k_is); k_whole; intro q' h' F' N' l1; (try k_lt l1); (try k_sweep))))
local macro_rules | `(tactic| walk_at "call builtin:len") => `(tactic| (k_here; (with_reducible show wpAny _ _ (call (Value.builtin _) [Value.ref _]) _ _ _); k_dflt (refine' lenN ?N ?m ?f ?_; (case N => k_asm); (case m => k_mem); (case f => first | assumption | omega | (simp only [List.length_append, List.length_cons, List.length_nil]; omega)); k_whole)))
section
def enough (bits wanted k : Int) : Bool := decide ((2 * k + 1) * wanted * 1000000000000000 ≤ 2 * bits * 693147180559945)
set_option maxHeartbeats 8000000 in
theorem c_rounds (w : World) (bits wanted : Int) (t1 t2 : Tok) (hb : 4 ≤ bits) (hb' : bits ≤ 19) (hw : 1 ≤ wanted) (hw' : wanted ≤ 4) :
    Con w 4 529 [.int bits t1, .int wanted t2] [] [] (fun v objs' => objs' = [] ∧ ∃ r t, v = .int r t ∧ 0 ≤ r ∧ r ≤ 13 ∧ enough bits wanted r = false ∧ ∀ j, 0 ≤ j → j < r → enough bits wanted j = true) := by
  unfold Con
  w_on
  k_fill
  intro dp un gd cn cs a ccd cl outer A₀ base h₀ L m rest p loose mg mb s Q E B F X N T M hk hap hdp hun hbare hret
  w_top on
  refine wpAny_call ?_
  refine' enterR B F X N T ?kA ?kF ?kK hap ?k6 ?k7 ?k8 ?k9 ?kB ?_ ?c2 ?c3 ?c4 ?c5
  case kA => exact rfl
  case kF => exact rfl
  case kK => assumption
  case k6 => k_is
  case k7 => k_is
  case k8 => ktr_room
  case k9 => first | exact BindsTo.of_eq rfl | exact binds_K (X.keeps F.keep) rfl (by k_is) rfl rfl rfl
  case c5 => decide
  case kB => exact locs rfl
  case c2 => exact rfl
  case c3 => exact rfl
  case c4 => exact rfl
  intro g' L' h' F' N' B' X' T' hr' hlt' FG'
  have M' := M.keeps FG'.keep
  clear B F X N T FG' M
  try dsimp only
  try k_fold
  k_steps
  case K => exact 13
  case stop => exact ⟨by decide, by simp only [decide_eq_false_iff_not]; intro h9; rcases (by omega : wanted = 1 ∨ wanted = 2 ∨ wanted = 3 ∨ wanted = 4) with rfl | rfl | rfl | rfl <;> omega⟩
  all_goals (refine hret _ [] _ rfl hbare (by assumption) (by assumption) (by assumption) ⟨rfl, _, _, rfl, ?_, ?_, ?_, ?_⟩ <;> assumption)
end
section
def placesOf (c : Nat) (depth : Nat) : List Int := (List.range depth).map fun (i : Nat) => ((c : Int) - 97) * 3 + (i : Int)
set_option maxHeartbeats 8000000 in
theorem c_places (w : World) (c : Nat) (depth : Int) (t1 t2 : Tok) (hc : 97 ≤ c) (hc' : c ≤ 104) (hd : 0 ≤ depth) (hd' : depth ≤ 13) :
    Con w 4 534 [.str (Str.mk #[c]) t1, .int depth t2] [] [] (fun v objs' => ∃ l its, objs' = [(l, LCg.lst its)] ∧ v = .ref l ∧ IntsAre its (placesOf c depth.toNat)) := by
  unfold Con
  w_on
  k_fill
  intro dp un gd cn cs a ccd cl outer A₀ base h₀ L m rest p loose mg mb s Q E B F X N T M hk hap hdp hun hbare hret
  w_top on
  refine wpAny_call ?_
  refine' enterRC B F X N T ?kA ?kF ?kK hap ?k6 ?k7 ?k8 ?k9 ?kB ?kD ?_ ?c2 ?c3 ?c4
  case kA => exact rfl
  case kF => exact rfl
  case kK => assumption
  case k6 => k_is
  case k7 => k_is
  case k8 => ktr_room
  case k9 => first | exact BindsTo.of_eq rfl | exact binds_K (X.keeps F.keep) rfl (by k_is) rfl rfl rfl
  case kD => decide +kernel
  case kB => exact rfl
  case c2 => exact rfl
  case c3 => exact rfl
  case c4 => exact rfl
  intro g' L' h' tk' cells' F' N' Y' B' X' T' hr' hlt' FG'
  have M' := M.keeps FG'.keep
  clear B F X N T FG' M
  k_cells Y'
  (try simp only [List.cons_append, List.nil_append] at N')
  try dsimp only
  try k_fold
  k_steps
  all_goals (
    rename_i zF zN zA
    rename IntsAre _ _ => zI
    rename List Value => ys9
    refine' hret _ [(_, LCg.lst ys9)] _ rfl hbare (by assumption) (subN (by assumption) ?hs) ?ha ⟨_, _, rfl, rfl, ?hi⟩
    case hi =>
      refine intsEq ?_ zI
      have e1 : Txt.item (Str.mk #[c]) 0 = Str.mk #[c] := by simp [Txt.item, Txt.charAt, seqIndex?, Str.length]
      simp only [e1, rangeKs, placesOf, List.map_map, Int.sub_zero]
      refine List.map_congr_left fun i _ => ?_
      simp [Str.length]
    case hs => intro q hq; rcases List.mem_append.mp hq with hq | hq; exact List.mem_append_left _ (by rcases List.mem_singleton.mp hq with rfl; exact .head _); exact List.mem_append_right _ hq
    case ha => intro q hq b hb; exact zA q hq b (by rcases List.mem_singleton.mp hb with rfl; exact .head _))
end
section
def longer {α : Type} (limit : Int) (l : List α) : List α := if 0 < limit ∧ limit ≤ l.length then l.drop 1 else l
set_option maxHeartbeats 8000000 in
theorem c_longer (w : World) (ch : Addr) (its : List Value) (nch : Nat) (bits limit : Int) (t1 t2 : Tok) (hb : 4 ≤ bits) (hb' : bits ≤ 19) (hl : 0 ≤ limit) (hl' : limit ≤ 4) (hits : its.length ≤ 60) (hne : 1 ≤ its.length) :
    Con w 4 546 [.ref ch, .int bits t1, .int limit t2] [] [(ch, listOf its.toArray nch)] (fun v objs' => ∃ l t r rs tk,
      v = .ref l ∧ objs' = [(l, listOf (longer limit its ++ [Value.ref t] : List Value).toArray 0), (t, tupOf [.ref r, .int 0 tk]), (r, listOf rs.toArray 0), (ch, listOf its.toArray nch)] ∧ IntsAre rs (List.replicate bits.toNat 0) ∧ (@Ne Nat ch l) ∧ (@Ne Nat ch t) ∧ @Ne Nat ch r) := by
  unfold Con
  w_on
  k_fill
  intro dp un gd cn cs a ccd cl outer A₀ base h₀ L m rest p loose mg mb s Q E B F X N T M hk hap hdp hun hbare hret
  w_top on
  refine wpAny_call ?_
  refine' enterR B F X N T ?kA ?kF ?kK hap ?k6 ?k7 ?k8 ?k9 ?kB ?_ ?c2 ?c3 ?c4 ?c5
  case kA => exact rfl
  case kF => exact rfl
  case kK => assumption
  case k6 => k_is
  case k7 => k_is
  case k8 => ktr_room
  case k9 => first | exact BindsTo.of_eq rfl | exact binds_K (X.keeps F.keep) rfl (by k_is) rfl rfl rfl
  case c5 => decide
  case kB => exact locs rfl
  case c2 => exact rfl
  case c3 => exact rfl
  case c4 => exact rfl
  intro g' L' h' F' N' B' X' T' hr' hlt' FG'
  have M' := M.keeps FG'.keep
  clear B F X N T FG' M
  try dsimp only
  try k_fold
  k_steps
  all_goals (
    rename IntsAre _ _ => zI
    simp only [flatten_replicate_one] at zI
    rename_i zF zN zA
    simp only [flatten_replicate_one] at zN zA
    first
    | (rw [show longer limit its = its.drop 1 from if_pos ⟨by assumption, by assumption⟩] at hret
       exact hret _ _ _ rfl hbare (by assumption) (takeN zN (by walk_at "my subset")) (takeA zA (by walk_at "my subset")) ⟨_, _, _, _, _, rfl, rfl, zI, by k_ne, by k_ne, by k_ne⟩)
    | (rw [show longer limit its = its from if_neg (by omega)] at hret
       exact hret _ _ _ rfl hbare (by assumption) (takeN zN (by walk_at "my subset")) (takeA zA (by walk_at "my subset")) ⟨_, _, _, _, _, rfl, rfl, zI, by k_ne, by k_ne, by k_ne⟩))
end
section
local macro_rules | `(tactic| walk_at "exec For Tuple Name cons nil") => `(tactic| (k_here; k_dflt (refine wpAny_For ?_ (by intro _; rfl))))
/-- one filter of the law's own row: its tuple, its list of bits, its count -/
structure CR where
  t : Addr
  r : Addr
  its : List Value
  row : List Int
  cnt : Int
  tk : Tok
  n : Nat
abbrev CR.objs (x : CR) : List (Addr × Obj) := [(x.t, tupOf [.ref x.r, .int x.cnt x.tk]), (x.r, listOf x.its.toArray x.n)]
structure CR.Ok (bits : Nat) (x : CR) : Prop where
  isI : IntsAre x.its x.row
  len : x.row.length = bits
  two : ∀ v ∈ x.row, v = 0 ∨ v = 1
/-- all the places of a row are set -/
def allIn (row : List Int) (ps : List Int) : Bool := ps.all fun q => row.getD q.toNat 0 == 1
theorem allIn_false {row ps : List Int} (h : ((ps.map fun (k : Int) => row.getD k.toNat 0).any fun x => x == 0) = true) : allIn row ps = false := by
  obtain ⟨v, hv, h0⟩ := List.any_eq_true.mp h
  obtain ⟨k, hk, rfl⟩ := List.mem_map.mp hv
  refine List.all_eq_false.mpr ⟨k, hk, ?_⟩
  rw [beq_iff_eq.mp h0]
  decide
theorem allIn_true {row ps : List Int} (two : ∀ v ∈ row, v = 0 ∨ v = 1) (h0 : ∀ q, q ∈ ps → 0 ≤ q) (h1 : ∀ q, q ∈ ps → q < (row.length : Int)) (h : ∀ q ∈ ps, ¬ row.getD q.toNat 0 = 0) : allIn row ps = true := by
  refine List.all_eq_true.mpr fun k hk => ?_
  have hlt : k.toNat < row.length := by have := h0 k hk; have := h1 k hk; omega
  have hm : row.getD k.toNat 0 ∈ row := by rw [List.getD_eq_getElem?_getD, List.getElem?_eq_getElem hlt]; exact List.getElem_mem hlt
  rcases two _ hm with e | e
  · exact absurd e (h k hk)
  · rw [e]; rfl
set_option maxHeartbeats 8000000 in
theorem c_inside (w : World) (ch pl : Addr) (rs : List CR) (nch : Nat) (pits : List Value) (ps : List Int) (bits : Nat) (hrs : ∀ x ∈ rs, x.Ok bits) (hlen : rs.length ≤ 60) (hp : IntsAre pits ps) (hpl : ps.length ≤ 13) (hps : ∀ q ∈ ps, 0 ≤ q ∧ q < (bits : Int)) (hbits : bits ≤ 19) :
    Con w 4 539 [.ref ch, .ref pl] [] ((ch, listOf (rs.map fun x => Value.ref x.t).toArray nch) :: (pl, LCg.lst pits) :: rs.flatMap CR.objs)
      (fun v objs' => v = .bool (rs.any fun x => allIn x.row ps) ∧ objs' = (ch, listOf (rs.map fun x => Value.ref x.t).toArray nch) :: (pl, LCg.lst pits) :: rs.flatMap CR.objs) := by
  unfold Con
  w_on
  k_fill
  intro dp un gd cn cs a ccd cl outer A₀ base h₀ L m rest p loose mg mb s Q E B F X N T M hk hap hdp hun hbare hret
  w_top on
  refine wpAny_call ?_
  refine' enterRC B F X N T ?kA ?kF ?kK hap ?k6 ?k7 ?k8 ?k9 ?kB ?kD ?_ ?c2 ?c3 ?c4
  case kA => exact rfl
  case kF => exact rfl
  case kK => assumption
  case k6 => k_is
  case k7 => k_is
  case k8 => ktr_room
  case k9 => first | exact BindsTo.of_eq rfl | exact binds_K (X.keeps F.keep) rfl (by k_is) rfl rfl rfl
  case kD => decide +kernel
  case kB => exact rfl
  case c2 => exact rfl
  case c3 => exact rfl
  case c4 => exact rfl
  intro g' L' h' tk' cells' F' N' Y' B' X' T' hr' hlt' FG'
  have M' := M.keeps FG'.keep
  clear B F X N T FG' M
  k_cells Y'
  (try simp only [List.cons_append, List.nil_append] at N')
  try dsimp only
  try k_fold
  have F0 : Fr g' L' h' (fun y => if y = Str.ofString "places" then some (Value.ref pl) else if y = Str.ofString "chain" then some (Value.ref ch) else none) := F'
  clear F'
  k_steps
  rename_i o' d'
  have hlen' : (rs.map fun x => Value.ref x.t).length = rs.length := List.length_map _
  refine iterListS (m := fun y => if y = Str.ofString "places" then some (Value.ref pl) else if y = Str.ofString "chain" then some (Value.ref ch) else none) rfl F0 N' (News.isList N' (by k_mem)) (Noisy s) (Noisy.put s) ⟨rfl, hbare⟩
    (fun i m' news' => ∃ cv o', m' = (fun z => if z = Str.ofString "count" then cv else if z = Str.ofString "places" then some (Value.ref pl) else if z = Str.ofString "chain" then some (Value.ref ch) else none) ∧
      news' = (L' + 1, o') :: (ch, W.listOf (List.map (fun x => Value.ref x.t) rs).toArray nch) :: (pl, LCg.lst pits) :: List.flatMap CR.objs rs ∧ (∃ v, o'.data = .cell v) ∧ ∀ x ∈ rs.take i, allIn x.row ps = false)
    ⟨none, o', bindNone rfl, rfl, ⟨_, d'⟩, fun x hx => by simp at hx⟩ ?_ ?_ ?_ (by passes_own)
  · rintro i m' news' h1 ⟨cv, o1, rfl, rfl, -, -⟩ F1 N1
    exact News.isList N1 (by k_mem)
  · rintro i v I io m₁ news₁ s₁ hv ⟨cv, o1, rfl, rfl, ⟨v1, hd1⟩, hno⟩ ⟨hos1, hb1⟩ F1 N1 hne1
    obtain ⟨x, hx, rfl⟩ : ∃ x, rs[i]? = some x ∧ v = Value.ref x.t := by
      rw [List.getElem?_map] at hv
      obtain ⟨x, hx, rfl⟩ := Option.map_eq_some_iff.mp hv
      exact ⟨x, hx, rfl⟩
    have hxm : x ∈ rs := List.mem_of_getElem? hx
    have hmt : (x.t, tupOf [.ref x.r, .int x.cnt x.tk]) ∈ List.flatMap CR.objs rs := List.mem_flatMap.mpr ⟨x, hxm, .head _⟩
    have hmr : (x.r, listOf x.its.toArray x.n) ∈ List.flatMap CR.objs rs := List.mem_flatMap.mpr ⟨x, hxm, .tail _ (.head _)⟩
    have hok := hrs x hxm
    have hI : IntsAre x.its x.row := hok.isI
    have hch : @LT.lt Nat _ ch L' := hlt' _ (.head _)
    have hpl' : @LT.lt Nat _ pl L' := hlt' _ (.tail _ (.head _))
    have hfl : ∀ q ∈ List.flatMap CR.objs rs, q.1 < L' := fun q hq => hlt' q (.tail _ (.tail _ hq))
    have hI1 : @Ne Nat (L' + 1) I := hne1 _ (.head _)
    have hz0 : ∀ q, q ∈ ps → 0 ≤ q := fun q hq => (hps q hq).1
    have hz1 : ∀ q, q ∈ ps → q < (x.row.length : Int) := fun q hq => by rw [hok.len]; exact (hps q hq).2
    have hz2 : x.row.length < 2 ^ 62 := by rw [hok.len]; omega
    k_steps
    · rename_i o' d' h1' F1' nD' hkl' g1' hI8' hL8' D' h' tk' F' N' o1' hl' hi' hany
      refine ⟨⟨hos1, hb1⟩, _, _, F', subN N' (fun q hq => .tail _ hq), fun q hq => ?_, _, o', bindTwice, rfl, ⟨_, d'⟩, fun y hy => ?_⟩
      · rcases List.mem_cons.mp hq with rfl | hq
        · exact hI1
        · exact hne1 q (.tail _ hq)
      · rw [List.take_add_one, hx] at hy
        rcases List.mem_append.mp hy with hy | hy
        · exact hno y hy
        · rcases List.mem_singleton.mp hy with rfl
          exact allIn_false hany
    · rename_i hany
      dsimp only [TurnEnd]
      walk1
      rename_i zF zN zA
      refine hret _ _ _ hos1 hb1 zF (takeN zN ?hs) (takeA zA ?hs) ⟨?hv, rfl⟩
      case hs => exact fun q hq => .tail _ (.tail _ (.tail _ hq))
      case hv =>
        rw [List.any_eq_true.mpr ⟨x, hxm, allIn_true hok.two hz0 hz1 (by simpa using hany)⟩]
  · rintro m' news' s' ⟨cv, o1, rfl, rfl, -, hno⟩ ⟨hos1, hb1⟩ F1 N1
    dsimp only
    k_steps
    rename_i zF zN zA
    refine hret _ _ _ hos1 hb1 zF (takeN zN ?hs) (takeA zA ?hs) ⟨?hv, rfl⟩
    case hs => exact fun q hq => .tail _ hq
    case hv =>
      rw [hlen', List.take_length] at hno
      rw [List.any_eq_false.mpr fun x hx => by simp [hno x hx]]
end
section
local macro_rules | `(tactic| walk_at "binaryOp FloorDiv int int") => `(tactic| (k_here; k_dflt (refine fdivEq (by decide) (by assumption) (PyProof.noPylong_of_log2 (by decide +kernel)) ?_)))
local macro_rules | `(tactic| walk_at "binaryOp Pow int int") => `(tactic| (k_here; k_dflt (refine pow1016 ?_)))
set_option maxHeartbeats 8000000 in
theorem c_bloom (w : World) (bits wanted : Int) (t1 t2 : Tok) (hb : 4 ≤ bits) (hb' : bits ≤ 19) (hw : 1 ≤ wanted) (hw' : wanted ≤ 4) (r : Int) (hr : ((13862943611198906 * bits).fdiv wanted + 10000000000000000).fdiv (2 * 10000000000000000) = r) (hr1 : 1 ≤ r) (hr2 : r ≤ 13) :
    Con w 10 323 [] [(Str.ofString "est_elements", .int wanted t1), (Str.ofString "false_positive_rate", .int bits t2), (Str.ofString "hash_function", .ref 534)] []
      (fun v objs' => ∃ b : BR, v = .ref b.x ∧ objs' = b.objs bits wanted r ∧ b.cnt = 0 ∧ IntsAre b.its b.oct ∧ b.oct = List.replicate (-(-bits).fdiv 8).toNat 0) := by
  unfold Con
  w_on
  k_fill
  intro dp un gd cn cs a ccd cl outer A₀ base h₀ L m rest p loose mg mb s Q E B F X N T M hk hap hdp hun hbare hret
  w_top on
  (try simp only [List.nil_append] at N)
  iterate 420 (try walk_at "my step")
  rename (∀ q ∈ rest, _) => zR
  with_reducible rename News _ _ _ _ => zN
  with_reducible rename Fr _ _ _ _ => zF
  with_reducible rename IntsAre _ _ => zI
  simp only [flatten_replicate_one] at zI zN
  exact hret _ _ _ rfl hbare zF (subN zN (by walk_at "my subset")) (by
    intro q hq b hb
    have h1 := ltN (zR q hq)
    simp only [List.mem_cons, List.not_mem_nil, or_false] at hb
    rcases hb with rfl | rfl | rfl <;> k_ne) ⟨⟨_, _, _, _, _, 0, ⟨_, _, _, _, _, _, _, _, _, _, _, _, _, _, _, _, _, _, _, _, _, _, _, _, _, _, _, _, _, _⟩, _, _⟩, rfl, rfl, rfl, zI, rfl⟩
end
section
local macro_rules | `(tactic| walk_at "no such key") => `(tactic| fail)
local macro_rules | `(tactic| walk_at "no such key") => `(tactic| fail)
local macro_rules | `(tactic| walk_at "exec For Name Call cons nil") => `(tactic| (k_here; k_dflt (refine wpAny_For ?_ (by intro _; rfl))))
/-- a filter's octets are as its making says -/
structure BR.Ok (bits : Int) (b : BR) : Prop where
  isI : IntsAre b.its b.oct
  len : (b.oct.length : Int) = -(-bits).fdiv 8
  two : ∀ v ∈ b.oct, 0 ≤ v ∧ v < 256
theorem fmodBits {bits : Int} (hb : 4 ≤ bits) (x : Int) : 0 ≤ x.fmod bits ∧ x.fmod bits < bits := by
  rw [Int.fmod_eq_emod_of_nonneg _ (by omega)]
  exact ⟨Int.emod_nonneg _ (by omega), Int.emod_lt_of_pos _ (by omega)⟩
theorem idxBits {bits n : Int} (hb : 4 ≤ bits) (hn : n = -(-bits).fdiv 8) (x : Int) : 0 ≤ (x.fmod bits).fdiv 8 ∧ (x.fmod bits).fdiv 8 < n := by
  obtain ⟨h1, h2⟩ := fmodBits hb x
  rw [Int.fdiv_eq_ediv_of_nonneg _ (by omega)] at hn ⊢
  omega
set_option maxHeartbeats 8000000 in
theorem c_bcheck (w : World) (bits wanted r : Int) (hb : 4 ≤ bits) (hb' : bits ≤ 19) (hr1 : 1 ≤ r) (hr2 : r ≤ 13) (b : BR) (hok : b.Ok bits) (hl : Addr) (hits : List Value) (hs : List Int) (nh : Nat) (hi : IntsAre hits hs) (hlen : (hs.length : Int) = r)
    (dp un : Nat) (gd : Option (List Code)) (fr : Option (List Env)) (h₀ : Heap) (p : Program) (loose : List Str) (mg mb : Str → Option Value) (s : Shared) (Q E : Value → Shared → Prop)
    (hst : h₀.StaysIn s.heap) (X : (Mine.hd.heap_39 w.params).In h₀) (T : TopRead p loose mg mb h₀) (hobjs : ∀ q ∈ (hl, listOf hits.toArray nh) :: b.objs bits wanted r, s.heap.get? q.1 = some q.2 ∧ h₀.get? q.1 = none)
    (hdp : dp + 4 < recursionLimit) (hun : un + 32 < cLine)
    (hret : ∀ h' tk', (∀ b o, s.heap.get? b = some o → h'.get? b = some o) → Q (.bool (hs.all fun x => bitAt b.oct (x.fmod bits))) { s with heap := h', toks := tk' }) :
    wpAny (model PySem.Challenge.rw_vo0020_01.row.prog w) { handled := none, depth := dp, frames := fr, guards := gd, units := un } (call (.ref 261) [.ref b.x, .ref hl] []) Q E s := by
  w_on
  revert X
  k_fill
  intro X
  w_top on
  refine wpAny_call ?_
  refine' enterH hst hobjs X T ?k6 ?k7 ?k8 ?k9 ?kB ?_ ?c2 ?c3 ?c4 ?c5
  case k6 => k_is
  case k7 => k_is
  case k8 => exact Nat.lt_of_le_of_lt (Nat.le_add_right _ _) hdp
  case k9 => exact BindsTo.of_eq rfl
  case c5 => decide
  case kB => exact locs rfl
  case c2 => exact rfl
  case c3 => exact rfl
  case c4 => exact rfl
  intro g' L' h' F' N' X' T' hlt'
  try dsimp only
  try k_fold
  have F0 : Fr g' L' h' (fun y => List.lookup y [(Str.ofString "hashes", Value.ref hl), (Str.ofString "self", Value.ref b.x)]) := F'
  clear F'
  have hn1 : (b.oct.length : Int) < 2 ^ 62 := by rw [hok.len, Int.fdiv_eq_ediv_of_nonneg _ (by omega)]; omega
  have hn2 : b.oct.length < 2 ^ 62 := by omega
  have hn3 : hs.length < 2 ^ 62 := by omega
  have hq0 : Kept (∀ x : Int, 0 ≤ (x.fmod bits).fdiv 8) := fun x => (idxBits hb hok.len x).1
  have hq1 : Kept (∀ x : Int, (x.fmod bits).fdiv 8 < (b.oct.length : Int)) := fun x => (idxBits hb hok.len x).2
  have hoct := hok.isI
  have hst' : Kept (h₀.StaysIn s.heap) := hst
  have X0 : Kept ((Mine.hd.heap_39 w.params).In h₀) := X
  have T0 : Kept (TopRead p loose mg mb h₀) := T
  clear hst X T hobjs
  iterate 12 (try walk_at "my step")
  rename_i tr ur vr R1 F1 N1 hk1
  refine iterRangeS (n := (r - 0).toNat) rfl R1 (by first | rfl | decide | exact small_one (by omega) (by omega) (by omega) (by omega)) (rangeSize_nat _ _) F1 N1 (Quiet s) (Quiet.put s) ⟨rfl, rfl, rfl⟩
    (fun i m' news' => ∃ cv ck, m' = (fun z => if z = Str.ofString "k" then ck else if z = Str.ofString "i" then cv else List.lookup z [(Str.ofString "hashes", Value.ref hl), (Str.ofString "self", Value.ref b.x)]) ∧
      news' = (hl, listOf hits.toArray nh) :: b.objs bits wanted r ∧ ∀ x ∈ hs.take i, bitAt b.oct (x.fmod bits) = true)
    ⟨none, none, (bindNone (x := Str.ofString "i") rfl).trans (bindNone (x := Str.ofString "k") rfl), rfl, fun x hx => by simp at hx⟩ ?_ ?_ (by passes_own)
  · rintro i t I io m₁ news₁ s₁ hi1 ⟨cv, ck, rfl, rfl, hno⟩ hz1 F1 N1 hne1
    iterate 40 (try walk_at "my step")
    have hil : i < hs.length := by omega
    have hx : hs[i]? = some (hs.getD (0 + (i : Int)).toNat 0) := by
      have e : (0 + (i : Int)).toNat = i := by omega
      rw [e, List.getD_eq_getElem?_getD, List.getElem?_eq_getElem hil]; rfl
    refine iteBoth (fun hc => ?_) (fun hc => ?_)
    · dsimp only
      k_steps
      dsimp only [TurnEnd]
      with_reducible rename Fr _ _ _ _ => zF
      with_reducible rename News _ _ _ _ => zN
      refine leaveH_ zF (subN zN fun q hq => .tail _ hq) fun zK => ?_
      dsimp only
      have h0 : bitAt b.oct ((hs.getD (0 + (i : Int)).toNat 0).fmod bits) = false := by
        unfold bitAt
        rw [show (_ == (0 : Int)) = true from hc]
        rfl
      rw [List.all_eq_false.mpr ⟨_, List.mem_of_getElem? hx, by rw [h0]; decide⟩] at hret
      rw [Quiet.eq (Quiet.put s _ _ _ hz1)]
      exact hret _ _ zK
    · dsimp only
      k_steps
      with_reducible rename Fr _ _ _ _ => zF
      with_reducible rename News _ _ _ _ => zN
      refine ⟨Quiet.put s _ _ _ hz1, _, _, zF, zN, hne1, _, _, bindFour, rfl, fun y hy => ?_⟩
      rw [List.take_add_one, hx] at hy
      rcases List.mem_append.mp hy with hy | hy
      · exact hno y hy
      · rcases List.mem_singleton.mp hy with rfl
        unfold bitAt
        rw [show (_ == (0 : Int)) = false from Bool.eq_false_iff.mpr hc]
        rfl
  · rintro m' news' s' ⟨cv, ck, rfl, rfl, hno⟩ hz1 F1 N1
    dsimp only
    k_steps
    refine leaveH_ F1 N1 fun zK => ?_
    dsimp only
    rw [List.take_of_length_le (by omega)] at hno
    rw [List.all_eq_true.mpr hno] at hret
    rw [Quiet.eq hz1]
    exact hret _ _ zK
end
section
local macro_rules | `(tactic| walk_at "no such key") => `(tactic| fail)
local macro_rules | `(tactic| walk_at "no such key") => `(tactic| fail)
local macro_rules | `(tactic| walk_at "no such key") => `(tactic| fail)
local macro_rules | `(tactic| walk_at "exec For Name Call cons nil") => `(tactic| (k_here; k_dflt (refine wpAny_For ?_ (by intro _; rfl))))
def setBit (oct : List Int) (k : Int) : List Int := oct.set (k.fdiv 8).toNat (Builtin.bitOr (oct.getD (k.fdiv 8).toNat 0) (pow8 k))
def setAll (bits : Int) (oct hs : List Int) : List Int := hs.foldl (fun o h => setBit o (h.fmod bits)) oct
theorem setBit_length (oct : List Int) (k : Int) : (setBit oct k).length = oct.length := List.length_set
theorem setAll_length (bits : Int) : ∀ (hs oct : List Int), (setAll bits oct hs).length = oct.length
  | [], _ => rfl
  | h :: r, oct => (setAll_length bits r _).trans (setBit_length _ _)
theorem setAll_snoc (bits : Int) (oct hs : List Int) (h : Int) : setAll bits oct (hs ++ [h]) = setBit (setAll bits oct hs) (h.fmod bits) := by
  unfold setAll
  rw [List.foldl_append]
  rfl
set_option maxHeartbeats 8000000 in
theorem c_badd (w : World) (bits wanted r : Int) (hb : 4 ≤ bits) (hb' : bits ≤ 19) (hr1 : 1 ≤ r) (hr2 : r ≤ 13) (b : BR) (hok : b.Ok bits) (hc0 : 0 ≤ b.cnt) (hc1 : b.cnt ≤ 1000) (hl : Addr) (hits : List Value) (hs : List Int) (nh : Nat) (hi : IntsAre hits hs) (hlen : (hs.length : Int) = r)
    (hne1 : @Ne Nat hl b.x) (hne2 : @Ne Nat hl b.d) (hne3 : @Ne Nat hl b.l) (hne4 : @Ne Nat b.x b.d) (hne5 : @Ne Nat b.x b.l) (hne6 : @Ne Nat b.d b.l) :
    Con w 4 247 [.ref b.x, .ref hl] [] ((hl, listOf hits.toArray nh) :: b.objs bits wanted r)
      (fun v objs' => ∃ b' : BR, v = .none ∧ objs' = (hl, listOf hits.toArray nh) :: b'.objs bits wanted r ∧ b'.x = b.x ∧ b'.d = b.d ∧ b'.l = b.l ∧ b'.cnt = b.cnt + 1 ∧ IntsAre b'.its b'.oct ∧ b'.oct = setAll bits b.oct hs) := by
  unfold Con
  w_on
  k_fill
  intro dp un gd cn cs a ccd cl outer A₀ base h₀ L m rest p loose mg mb s Q E B F X N T M hk hap hdp hun hbare hret
  w_top on
  refine wpAny_call ?_
  refine' enterR B F X N T ?kA ?kF ?kK hap ?k6 ?k7 ?k8 ?k9 ?kB ?_ ?c2 ?c3 ?c4 ?c5
  case kA => exact rfl
  case kF => exact rfl
  case kK => assumption
  case k6 => k_is
  case k7 => k_is
  case k8 => ktr_room
  case k9 => first | exact BindsTo.of_eq rfl | exact binds_K (X.keeps F.keep) rfl (by k_is) rfl rfl rfl
  case c5 => decide
  case kB => exact locs rfl
  case c2 => exact rfl
  case c3 => exact rfl
  case c4 => exact rfl
  intro g' L' h' F' N' B' X' T' hr' hlt' FG'
  have M' := M.keeps FG'.keep
  clear B F X N T FG' M
  try dsimp only
  try k_fold
  have F0 : Fr g' L' h' (fun y => List.lookup y [(Str.ofString "hashes", Value.ref hl), (Str.ofString "self", Value.ref b.x)]) := F'
  clear F'
  have hn1 : (b.oct.length : Int) < 2 ^ 62 := by rw [hok.len, Int.fdiv_eq_ediv_of_nonneg _ (by omega)]; omega
  have hn2 : b.oct.length < 2 ^ 62 := by omega
  have hn3 : hs.length < 2 ^ 62 := by omega
  have hoct := hok.isI
  iterate 13 (try walk_at "my step")
  rename_i tr ur vr R1 F1 N1 hk1
  refine iterRangeS (n := (r - 0).toNat) rfl R1 (by first | rfl | decide | exact small_one (by omega) (by omega) (by omega) (by omega)) (rangeSize_nat _ _) F1 N1 (Noisy s) (Noisy.put s) ⟨rfl, hbare⟩
    (fun i m' news' => ∃ cv ck ci its k, m' = (fun z => if z = Str.ofString "idx" then ci else if z = Str.ofString "k" then ck else if z = Str.ofString "i" then cv else List.lookup z [(Str.ofString "hashes", Value.ref hl), (Str.ofString "self", Value.ref b.x)]) ∧
      news' = [(hl, listOf hits.toArray nh), (b.x, instObj 323 b.d), (b.d, dictOf (bloomDict bits wanted r b.z b.cnt b.l) b.n), (b.l, listOf its.toArray k)] ∧ IntsAre its (setAll bits b.oct (hs.take i)))
    ⟨none, none, none, b.its, b.k, ((bindNone (x := Str.ofString "i") rfl).trans (bindNone (x := Str.ofString "k") rfl)).trans (bindNone (x := Str.ofString "idx") rfl), rfl, hoct⟩ ?_ ?_ (by passes_own)
  · rintro i t I io m₁ news₁ s₁ hi1 ⟨cv, ck, ci, its, kk, rfl, rfl, hits1⟩ ⟨hos1, hb1⟩ F1 N1 hne1'
    have hil : i < hs.length := by omega
    have hx : hs[i]? = some (hs.getD (0 + (i : Int)).toNat 0) := by
      have e : (0 + (i : Int)).toNat = i := by omega
      rw [e, List.getD_eq_getElem?_getD, List.getElem?_eq_getElem hil]; rfl
    generalize hoc : setAll bits b.oct (hs.take i) = oc at hits1
    have hlo : oc.length = b.oct.length := by rw [← hoc, setAll_length]
    have hq0 : Kept (∀ x : Int, 0 ≤ (x.fmod bits).fdiv 8) := fun x => (idxBits hb hok.len x).1
    have hq1 : Kept (∀ x : Int, (x.fmod bits).fdiv 8 < (oc.length : Int)) := fun x => by rw [hlo]; exact (idxBits hb hok.len x).2
    have hn4 : oc.length < 2 ^ 62 := by omega
    have hq2 : Kept (∀ x : Int, (x.fmod bits).fdiv 8 < 2 ^ 63) := fun x => by have h9 := (idxBits hb rfl x).2; rw [← hok.len] at h9; omega
    have hI1 : @Ne Nat hl I := hne1' _ (.head _)
    have hI2 : @Ne Nat b.x I := hne1' _ (.tail _ (.head _))
    have hI3 : @Ne Nat b.d I := hne1' _ (.tail _ (.tail _ (.head _)))
    have hI4 : @Ne Nat b.l I := hne1' _ (.tail _ (.tail _ (.tail _ (.head _))))
    k_steps
    rename_i h1 F2 N2 hi2 hl2 hs2
    refine ⟨⟨hos1, hb1⟩, _, _, F2, N2, fun q hq => ?_, _, _, _, _, _, bindSix, rfl, ?_⟩
    · simp only [List.mem_cons, List.not_mem_nil, or_false] at hq
      rcases hq with rfl | rfl | rfl | rfl
      · exact hI1
      · exact hI2
      · exact hI3
      · exact hI4
    · rw [List.take_add_one, hx]
      show IntsAre _ (setAll bits b.oct (hs.take i ++ [_]))
      rw [setAll_snoc, hoc]
      exact hi2
  · rintro m' news' s' ⟨cv, ck, ci, its, kk, rfl, rfl, hits1⟩ ⟨hos1, hb1⟩ F1 N1
    rw [List.take_of_length_le (by omega)] at hits1
    dsimp only
    k_steps
    rename_i zF zN zA
    exact hret _ _ _ hos1 hb1 zF (takeN zN (by walk_at "my subset")) (takeA zA (by walk_at "my subset")) ⟨⟨b.x, b.d, b.l, its, setAll bits b.oct hs, b.cnt + 1, { b.z with v5 := s'.toks + 1 + 1 }, b.n, kk⟩, rfl, rfl, rfl, rfl, rfl, rfl, hits1, rfl⟩
end
section
set_option maxHeartbeats 8000000 in
theorem c_hashes (w : World) (bits wanted r : Int) (hb : 4 ≤ bits) (hb' : bits ≤ 19) (hr1 : 1 ≤ r) (hr2 : r ≤ 13) (b : BR) (c : Nat) (t1 : Tok) (hc : 97 ≤ c) (hc' : c ≤ 104) :
    Con w 6 233 [.ref b.x, .str (Str.mk #[c]) t1] [] (b.objs bits wanted r)
      (fun v objs' => ∃ l its, v = .ref l ∧ objs' = (l, LCg.lst its) :: b.objs bits wanted r ∧ IntsAre its (placesOf c r.toNat) ∧ ∀ q ∈ b.objs bits wanted r, q.1 ≠ l) := by
  unfold Con
  w_on
  k_fill
  intro dp un gd cn cs a ccd cl outer A₀ base h₀ L m rest p loose mg mb s Q E B F X N T M hk hap hdp hun hbare hret
  w_top on
  refine wpAny_call ?_
  refine' enterR B F X N T ?kA ?kF ?kK hap ?k6 ?k7 ?k8 ?k9 ?kB ?_ ?c2 ?c3 ?c4 ?c5
  case kA => exact rfl
  case kF => exact rfl
  case kK => assumption
  case k6 => k_is
  case k7 => k_is
  case k8 => ktr_room
  case k9 => first | exact BindsTo.of_eq rfl | exact binds_K (X.keeps F.keep) rfl (by k_is) rfl rfl rfl
  case c5 => decide
  case kB => exact locs rfl
  case c2 => exact rfl
  case c3 => exact rfl
  case c4 => exact rfl
  intro g' L' h' F' N' B' X' T' hr' hlt' FG'
  have M' := M.keeps FG'.keep
  clear B F X N T FG' M
  try dsimp only
  try k_fold
  k_steps
  with_reducible rename Fr _ _ _ _ => F1
  with_reducible rename News _ _ _ _ => N1
  have C := c_places w c r t1 b.z.v6 hc hc' (by omega) hr2
  k_dflt (refine useCon0 C rfl B' F1 X' N1 T' M' rfl (by ktr_room) (by ktr_units) hbare ?_)
  rintro v objs' s' hos1 hb1 F2 N2 A2 ⟨l, its, rfl, rfl, hI⟩
  have A3 : ∀ q ∈ b.objs bits wanted r, q.1 ≠ l := fun q hq => A2 q hq _ (.head _)
  k_steps
  rename_i zF zN zA
  refine hret _ _ _ hos1 hb1 zF (takeN zN ?hs) (takeA zA ?hs) ⟨l, its, rfl, rfl, hI, A3⟩
  case hs => exact fun q hq => hq
end
end Mine
end
section
open PySem PySem.W PyProof.Rows PySem.Calls
namespace Mine
section
/-- the words of the filters' own dict that nothing asks -/
structure DE where
  (h0 h1 h2 h3 h4 h5 : Int)
  (t0 t1 t2 t3 t4 t5 : Tok)
  (v1 v2 v3 v5 : Tok)
abbrev eDict (bits wanted _lim : Int) (z : DE) (tot : Int) (bl : Addr) : List DictEntry :=
  [⟨z.h0, .str (Str.ofString "_blooms") z.t0, .ref bl⟩,
   ⟨z.h1, .str (Str.ofString "_ExpandingBloomFilter__fpr") z.t1, .int bits z.v1⟩,
   ⟨z.h2, .str (Str.ofString "_ExpandingBloomFilter__est_elements") z.t2, .int wanted z.v2⟩,
   ⟨z.h3, .str (Str.ofString "_added_elements") z.t3, .int tot z.v3⟩,
   ⟨z.h4, .str (Str.ofString "_ExpandingBloomFilter__hash_func") z.t4, .ref 534⟩]
abbrev rDict (bits wanted lim : Int) (z : DE) (tot : Int) (bl : Addr) : List DictEntry :=
  [⟨z.h0, .str (Str.ofString "_blooms") z.t0, .ref bl⟩,
   ⟨z.h1, .str (Str.ofString "_ExpandingBloomFilter__fpr") z.t1, .int bits z.v1⟩,
   ⟨z.h2, .str (Str.ofString "_ExpandingBloomFilter__est_elements") z.t2, .int wanted z.v2⟩,
   ⟨z.h3, .str (Str.ofString "_added_elements") z.t3, .int tot z.v3⟩,
   ⟨z.h4, .str (Str.ofString "_ExpandingBloomFilter__hash_func") z.t4, .ref 534⟩,
   ⟨z.h5, .str (Str.ofString "_queue_size") z.t5, .int lim z.v5⟩]
/-- the row of filters and its owner, as they stand in the heap -/
structure OR where
  o : Addr
  d : Addr
  l : Addr
  z : DE
  n : Nat
  k : Nat
  bs : List BR
abbrev refsOf (bs : List BR) : List Value := bs.map fun b => .ref b.x
abbrev blObjs (bits wanted r : Int) (bs : List BR) : List (Addr × Obj) := bs.flatMap (BR.objs bits wanted r)
abbrev OR.objsE (bits wanted r lim tot : Int) (x : OR) : List (Addr × Obj) :=
  (x.o, instObj 443 x.d) :: (x.d, dictOf (eDict bits wanted lim x.z tot x.l) x.n) :: (x.l, listOf (refsOf x.bs).toArray x.k) :: blObjs bits wanted r x.bs
abbrev OR.objsR (bits wanted r lim tot : Int) (x : OR) : List (Addr × Obj) :=
  (x.o, instObj 520 x.d) :: (x.d, dictOf (rDict bits wanted lim x.z tot x.l) x.n) :: (x.l, listOf (refsOf x.bs).toArray x.k) :: blObjs bits wanted r x.bs
/-- is a key told as there -/
def hit (bits : Int) (hs oct : List Int) : Bool := hs.all fun x => bitAt oct (x.fmod bits)
section
variable {w : World} {D : Nat} {f : Addr} {args : List Value} {kw : List (Str × Value)} {objs news : List (Addr × Obj)} {Post : Value → List (Addr × Obj) → Prop}
  {dp un : Nat} {gd : Option (List Code)} {cn : Str} {cs : Scope} {a : Addr} {ccd : Value} {cl : List (Str × Addr)} {outer : List Env} {A A₀ : Around} {base h₀ : Heap} {L : Addr} {m : Str → Option Value}
  {p : Program} {loose : List Str} {mg mb : Str → Option Value} {s : Shared} {Q E : Value → Shared → Prop}
/-- a contract whose def leaves its objects as they were -/
theorem useConK (C : Con w D f args kw objs Post) (hA : A = ktrTop dp un gd cn cs L a ccd cl outer) (B : Below A₀ base outer h₀) (F : Fr h₀ L s.heap m) (X : (Mine.hd.heap_39 w.params).In h₀) (N : News h₀ L s.heap news) (T : TopRead p loose mg mb h₀) (M : BM mg h₀)
    (hk : cs.kind = .function) (hsub : ∀ q ∈ objs, q ∈ news) (hkeep : ∀ v objs', Post v objs' → ∀ q ∈ objs, q ∈ objs') (hd : dp + D < recursionLimit) (hu : un + 8 * D < cLine) (hb : AllBare s.gens)
    (ret : ∀ v objs' s', s'.os = s.os → AllBare s'.gens → Fr h₀ L s'.heap m → News h₀ L s'.heap (objs' ++ news) → (∀ q ∈ news, q.1 ∉ objs.map (·.1) → ∀ b ∈ objs', q.1 ≠ b.1) → Post v objs' → Q v s') :
    wpAny (model PySem.Challenge.rw_vo0020_01.row.prog w) A (call (.ref f) args kw) Q E s := by
  refine useCon C hA B F X N T M hk (news.filter fun q => decide (q.1 ∉ objs.map (·.1))) hsub (fun q hq => (List.mem_filter.mp hq).1) (fun q hq b hb e => ?_) hd hu hb fun v objs' s' h1 h2 h3 h4 h5 h6 => ret v objs' s' h1 h2 h3 (fun q hq => ?_) (fun q hq hn b hb => h5 q (List.mem_filter.mpr ⟨hq, decide_eq_true hn⟩) b hb) h6
  · exact of_decide_eq_true (List.mem_filter.mp hq).2 (e ▸ List.mem_map_of_mem hb)
  · rcases List.mem_append.mp hq with hq | hq
    · exact h4 q (List.mem_append_left _ hq)
    · by_cases hn : q.1 ∈ objs.map (·.1)
      · obtain ⟨b, hb, e⟩ := List.mem_map.mp hn
        have e2 : q = b := by
          have h9 := (N q hq).1
          have h8 := (N b (hsub b hb)).1
          rw [e, h9] at h8
          exact Prod.ext e.symm (Option.some.inj h8)
        rw [e2]
        exact h4 b (List.mem_append_left _ (hkeep v objs' h6 b hb))
      · exact h4 q (List.mem_append_right _ (List.mem_filter.mpr ⟨hq, decide_eq_true hn⟩))
end
section
variable {prog : Program} {w : World} {A : Around} {E : Value → Shared → Prop} {s : Shared} {h₀ : Heap} {L a : Addr} {news : List (Addr × Obj)} {n : Nat} {u : Tok} {value slice : Expr} {Q : Value → Shared → Prop} {bs tl : List BR} {b : BR}
theorem itemFirst (N : News h₀ L s.heap news) (hm : (a, listOf (refsOf bs).toArray n) ∈ news) (e : bs = b :: tl) (h : Q (.ref b.x) s)
    (hs : subscripted slice false (.ref a) (.int 0 u) = operate [.ref a, .int 0 u] (getItem (.ref a) (.int 0 u)) := by with_unfolding_all rfl) :
    wpAny (model prog w) A (subscriptTail value slice (.ref a) (.int 0 u)) Q E s :=
  item_listR (News.isList N hm) (Int.le_refl _) (by decide) (by rw [e]; rfl) h hs
theorem itemLast (N : News h₀ L s.heap news) (hm : (a, listOf (refsOf bs).toArray n) ∈ news) (e : bs = tl ++ [b]) (h : Q (.ref b.x) s)
    (hs : subscripted slice false (.ref a) (.int (-1) u) = operate [.ref a, .int (-1) u] (getItem (.ref a) (.int (-1) u)) := by with_unfolding_all rfl) :
    wpAny (model prog w) A (subscriptTail value slice (.ref a) (.int (-1) u)) Q E s := by
  have hsz : (refsOf bs).toArray.size = tl.length + 1 := by rw [e]; simp
  have hx : (refsOf bs).toArray[(-1 + ((refsOf bs).toArray.size : Int)).toNat]? = some (.ref b.x) := by
    rw [hsz, show (-1 + ((tl.length + 1 : Nat) : Int)).toNat = tl.length by omega, e]
    simp
  exact subscriptTail_builtinR (News.isList N hm).typeIs slot_list_getitem.lookup (wpAny_getItem_list_neg (Q := fun r s' => r = .ref b.x ∧ Q r s') (News.isList N hm) (by decide) (by rw [hsz]; omega) (by decide) hx ⟨rfl, h⟩) hs
end
/-- the filters' addresses, all apart -/
def OR.adr (x : OR) : List Addr := x.o :: x.d :: x.l :: x.bs.flatMap fun b => [b.x, b.d, b.l]
def OR.Sep (x : OR) : Prop := x.adr.Nodup
theorem adrE {bits wanted r lim tot : Int} (x : OR) : (x.objsE bits wanted r lim tot).map (·.1) = x.adr := by
  simp only [OR.objsE, OR.adr, List.map_cons, List.map_flatMap, List.map_nil]
theorem adrR {bits wanted r lim tot : Int} (x : OR) : (x.objsR bits wanted r lim tot).map (·.1) = x.adr := by
  simp only [OR.objsR, OR.adr, List.map_cons, List.map_flatMap, List.map_nil]
theorem blAdr {bits wanted r : Int} (bs : List BR) : (blObjs bits wanted r bs).map (·.1) = bs.flatMap fun b => [b.x, b.d, b.l] := by
  simp only [List.map_flatMap, List.map_cons, List.map_nil]
/-- three entries of three kinds are apart -/
theorem bloomApart {h₀ h : Heap} {L : Addr} {bits wanted r : Int} {b : BR} {rest : List (Addr × Obj)} (N : News h₀ L h (b.objs bits wanted r ++ rest)) : [b.x, b.d, b.l].Nodup := by
  have h1 := (N _ (.head _)).1
  have h2 := (N _ (.tail _ (.head _))).1
  have h3 := (N _ (.tail _ (.tail _ (.head _)))).1
  dsimp only at h1 h2 h3
  refine List.nodup_cons.mpr ⟨?_, List.nodup_cons.mpr ⟨?_, List.nodup_cons.mpr ⟨List.not_mem_nil, List.nodup_nil⟩⟩⟩
  · intro h
    rcases List.mem_cons.mp h with e | h
    · rw [e, h2] at h1; cases h1
    · rw [List.mem_singleton.mp h, h3] at h1; cases h1
  · intro h
    rw [List.mem_singleton.mp h, h3] at h2
    have h9 := congrArg (fun o => o.map Obj.cls) h2
    simp at h9
theorem OR.Sep.add {x x' : OR} {b : BR} (h : x.Sep) (e1 : x'.o = x.o) (e2 : x'.d = x.d) (e3 : x'.l = x.l) (e4 : x'.bs = x.bs ++ [b]) (hb : [b.x, b.d, b.l].Nodup) (ha : ∀ a ∈ x.adr, ∀ c ∈ [b.x, b.d, b.l], a ≠ c) : x'.Sep := by
  have e : x'.adr = x.adr ++ [b.x, b.d, b.l] := by
    unfold OR.adr
    rw [e1, e2, e3, e4, List.flatMap_append]
    rfl
  unfold OR.Sep
  rw [e]
  exact List.nodup_append.mpr ⟨h, hb, ha⟩
theorem OR.Sep.lNe {x : OR} (h : x.Sep) : (@Ne Nat x.o x.l) ∧ (@Ne Nat x.d x.l) ∧ ∀ a ∈ x.bs.flatMap (fun b => [b.x, b.d, b.l]), a ≠ x.l := by
  unfold OR.Sep OR.adr at h
  have h1 := List.nodup_cons.mp h
  have h2 := List.nodup_cons.mp h1.2
  have h3 := List.nodup_cons.mp h2.2
  exact ⟨fun e => h1.1 (e ▸ .tail _ (.head _)), fun e => h2.1 (e ▸ .head _), fun a ha e => h3.1 (e ▸ ha)⟩
/-- addresses all apart -/
def Sep (l : List (Addr × Obj)) : Prop := (l.map (·.1)).Nodup
theorem Sep.app {a b : List (Addr × Obj)} (h : Sep (a ++ b)) : ∀ q ∈ b, ∀ p ∈ a, q.1 ≠ p.1 := fun q hq p hp e => by
  unfold Sep at h
  rw [List.map_append] at h
  exact (List.nodup_append.mp h).2.2 p.1 (List.mem_map_of_mem hp) q.1 (List.mem_map_of_mem hq) e.symm
theorem blObjs_app (bits wanted r : Int) (a b : List BR) : blObjs bits wanted r (a ++ b) = blObjs bits wanted r a ++ blObjs bits wanted r b := List.flatMap_append
end
end Mine
end
section
open PySem PySem.W PyProof.Rows PySem.Calls
namespace Mine
local macro_rules | `(tactic| walk_at "LeaveR") => `(tactic| (refine' leaveR_ ?kF ?kN ?_; (case kF => k_asm); (case kN => k_asm); intro zF zN zA; (try dsimp only)))
local macro_rules | `(tactic| walk_at "eval Name") => `(tactic| (k_here; (with_reducible show wpAny _ _ (eval (Expr.Name _ _) (compEnvC _ _ _ _)) _ _ _); k_dflt (first
  | refine inBlock_global (by k_asm) (by k_asm) (by k_asm) (by k_is) ?_
  | refine inBlock_built (by k_asm) (by k_asm) (by k_asm) (by k_is) (by boot_by_name) (by decide) ?_)))
local macro_rules | `(tactic| walk_at "binaryOp Add") => `(tactic| (k_here; (with_reducible show wpAny _ _ (binaryOp _ (Value.ref _) (Value.ref _)) _ _ _); (with_reducible rename News _ _ _ _ => kN); simp only [slice1] at kN))
local macro_rules | `(tactic| walk_at "binaryOp Add ref ref") => `(tactic| (k_here; (with_reducible show wpAny _ _ (binaryOp _ (Value.ref _) (Value.ref _)) _ _ _); k_dflt (refine' addN ?F ?N ?a ?b ?z ?_; (case F => k_asm); (case N => k_asm); (case a => k_mem); (case b => k_mem); (case z => first | omega | (simp only [List.length_append, List.length_drop, List.length_cons, List.length_nil]; omega)); k_whole); intro D' h' F' N' l1; (try k_lt l1); (try k_sweep)))
local macro_rules | `(tactic| walk_at "my subset") => `(tactic| first | exact List.forall_mem_nil _ | (refine' List.forall_mem_cons.mpr ⟨?za, ?zb⟩; (case za => k_mem); (case zb => walk_at "my subset")) | (intro q9 hq9; walk_at "my tail"))
local macro_rules | `(tactic| walk_at "my tail") => `(tactic| first | assumption | (refine' List.Mem.tail _ ?_; walk_at "my tail"))
local macro_rules | `(tactic| walk_at "assign Tuple") => `(tactic| (k_here; (with_reducible show wpAny _ _ (assign (Expr.Tuple _ _ _) _ (Value.ref _)) _ _ _); k_dflt (refine' unpackN_ ?F ?N ⟨_, News.get ?N2 ?m, rfl, _, rfl⟩ rfl rfl rfl ?_; (case F => k_asm); (case N => k_asm); (case N2 => k_asm); (case m => k_mem); k_whole); intro h' F' N'; (try dsimp only); (try k_sweep)))
local macro_rules | `(tactic| k_mem) => `(tactic| ((with_reducible show List.Mem _ (List.flatMap _ _)); refine memOf ?_; assumption))
local macro_rules | `(tactic| k_all) => `(tactic| ((with_reducible show ∀ q ∈ List.flatMap _ _, _); refine' flatNe ?h ?z; (case h => assumption); (case z => (try dsimp only); omega)))
local macro_rules | `(tactic| walk_at "my bound") => do
  let a := Lean.mkIdent `hq0
  let b := Lean.mkIdent `hq1
  let c := Lean.mkIdent `hz0
  let d := Lean.mkIdent `hz1
  let e := Lean.mkIdent `hq2
  `(tactic| first | with_reducible assumption | exact $a _ | exact $b _ | exact $e _ | exact $c _ (by assumption) | exact $d _ (by assumption) | omega)
local macro_rules | `(tactic| walk_at "subscriptTail") => `(tactic| (k_here; (with_reducible show wpAny _ _ (subscriptTail _ _ (Value.ref _) (Value.int _ _)) _ _ _); k_dflt (refine' itemInts ?N ?m ?i ?z ?y ?x ?_ ?s ?g; (case s => with_unfolding_all rfl); (case g => intro _; with_unfolding_all rfl); (case N => k_asm); (case m => k_mem); (case i => assumption); (case z => walk_at "my bound"); (case y => walk_at "my bound"); (case x => (try simp only [List.length_map, List.length_range]); omega); k_whole); intro t'))
local macro_rules | `(tactic| k_enter) => `(tactic| (refine' inlineT ?k1 ?k2 ?k3 ?k4 ?k5 ?kA ?kF ?kK ?k6 ?k7 ?k8 ?k9 ?kB ?_ ?c2 ?c3 ?c4 ?c5; (case kA => exact rfl); (case kF => exact rfl); (case kK => first | exact rfl | assumption); (case k1 => k_asm); (case k2 => k_asm); (case k3 => k_asm); (case k4 => k_asm); (case k5 => k_asm); (case k6 => k_is); (case k7 => k_is); (case k8 => ktr_room); (case k9 => first | exact BindsTo.of_eq rfl | exact binds_K (by k_in) rfl (by k_is) rfl rfl rfl); (case c5 => decide); (case kB => exact locs rfl); (case c2 => exact rfl); (case c3 => exact rfl); (case c4 => exact rfl); k_whole; intro g' L' h' FG' F' N' B' X' T' l1; (try k_lt l1); (try dsimp only); (try k_lift B'); (try k_fold)))
local macro_rules | `(tactic| walk_at "my step") => `(tactic| first | (k_unfold; (try dsimp only)) | (k_end; wrow_close) | walk1 | (dsimp only; walk1) | (leave1; walk_say "STEP leave1"; try dsimp only))
local macro_rules | `(tactic| walk_at "ite") => `(tactic| (k_here; first | (refine PySem.W.ite_neg (by (try simp only [decide_eq_true_eq, beq_iff_eq, bne_iff_ne, ne_eq, Bool.not_eq_true', decide_eq_false_iff_not]); omega) ?_) | (refine PySem.W.ite_pos (by (try simp only [decide_eq_true_eq, beq_iff_eq, bne_iff_ne, ne_eq, Bool.not_eq_true', decide_eq_false_iff_not]); omega) ?_)))
local macro_rules | `(tactic| walk_at "binaryOp LShift int int") => `(tactic| (k_here; k_dflt (refine shift1 ?_)))
local macro_rules | `(tactic| walk_at "setItem ref int") => `(tactic| (k_here; (with_reducible show wpAny _ _ (setItem (Value.ref _) (Value.int _ _) (Value.int _ _)) _ _ _); k_dflt (refine' ksa_set ?k1 ?k2 ?k3 ?k4 ?k5 ?k6 ?k7 ?_; (case k1 => k_asm); (case k2 => k_asm); (case k3 => k_upd); (case k4 => with_reducible assumption); (case k5 => walk_at "my bound"); (case k6 => walk_at "my bound"); (case k7 => walk_at "my bound"); k_whole); intro h' F' N' hi' hl' hsum'))
local macro_rules | `(tactic| walk_at "my put") => `(tactic| first | exact PutL.head | (refine' PutL.tail ?za ?zb; (case za => rfl); (case zb => walk_at "my put")))
local macro_rules | `(tactic| walk_at "setAttr ref") => `(tactic| (k_here; k_dflt (refine' set_dict ?k1 ?k2 ?k3 ?k4 ?k5 ?k6 ?k7 ?k8 ?k9 ?k10 ?k11 ?k12 ?k13 ?_; (case k1 => k_asm); (case k2 => k_asm); (case k3 => k_asm); (case k4 => k_inst); (case k5 => exact rfl); (case k6 => k_is); (case k7 => k_is); (case k8 => k_is); (case k9 => k_is); (case k10 => k_get); (case k11 => (refine' PutL.eq ?zp _ _ _; (case zp => walk_at "my put"))); (case k12 => k_upd); (case k13 => exact Nat.le_of_ble_eq_true rfl); k_whole; intro h' F' N'; (try k_sweep))))
local macro_rules | `(tactic| walk_at "getAttr ref") => `(tactic| (k_here; k_dflt (refine' get_own ?k1 ?k2 ?k3 ?k4 ?k5 ?k6 ?k7 ?k8 ?k9 ?_; (case k1 => k_asm); (case k2 => k_asm); (case k3 => k_inst); (case k4 => k_is); (case k5 => k_is); (case k6 => k_is); (case k7 => k_is); (case k8 => k_get); (case k9 => k_handed); k_whole)))
local macro_rules | `(tactic| walk_at "getMethod ref") => `(tactic| (k_here; k_dflt (refine' method_inst ?k1 ?k2 ?k3 ?k4 ?k5 ?k6 ?k7 ?_; (case k1 => k_asm); (case k2 => k_asm); (case k3 => k_inst); (case k4 => k_is); (case k5 => k_is); (case k6 => k_is); (case k7 => k_get); k_whole)))
local macro_rules | `(tactic| walk_at "getMethod ref") => `(tactic| (k_here; (with_reducible show wpAny _ _ (getMethod (Value.ref _) (Str.ofString "_hash_func") _) _ _ _); k_dflt (refine' kmu_own ?k1 ?k2 ?k3 ?k4 ?k5 ?_; (case k1 => k_asm); (case k2 => k_asm); (case k3 => k_inst); (case k4 => k_is); (case k5 => k_is); k_whole)))
local macro_rules | `(tactic| walk_at "getMethod ref") => `(tactic| (k_here; (with_reducible show wpAny _ _ (getMethod (Value.ref _) (Str.ofString "_get_optimized_params") _) _ _ _); k_dflt (refine' kmu_cm ?k1 ?k2 ?k3 ?k4 ?k5 ?k6 ?k7 ?k8 ?k9 ?k10 ?k11 ?k12 ?k13 ?_; (case k1 => k_asm); (case k2 => k_asm); (case k3 => k_asm); (case k4 => k_inst); (case k5 => k_is); (case k6 => k_is); (case k7 => k_is); (case k8 => k_is); (case k9 => k_is); (case k10 => k_is); (case k11 => decide +kernel); (case k12 => k_get); (case k13 => k_is); k_whole; intro q' h' F' N' l1; (try k_lt l1); (try k_sweep))))
local macro_rules | `(tactic| walk_at "call builtin:len") => `(tactic| (k_here; (with_reducible show wpAny _ _ (call (Value.builtin _) [Value.ref _]) _ _ _); k_dflt (refine' lenN ?N ?m ?f ?_; (case N => k_asm); (case m => k_mem); (case f => first | assumption | omega | (simp only [List.length_append, List.length_cons, List.length_nil]; omega)); k_whole)))
section
theorem codeHd409 {w : World} {h : Heap} (X : (Mine.hd.heap_39 w.params).In h) : CodeHd h 409 405 := codeHd_of_K X (by kernel_rfl)
set_option maxHeartbeats 8000000 in
theorem eltHit (w : World) (bits wanted r : Int) (hb : 4 ≤ bits) (hb' : bits ≤ 19) (hr1 : 1 ≤ r) (hr2 : r ≤ 13) (b : BR) (hok : b.Ok bits) (hl : Addr) (hits : List Value) (hs : List Int) (nh : Nat) (hi : IntsAre hits hs) (hlen : (hs.length : Int) = r)
    (A' : Around) (hA : A'.handled = none) (dp un : Nat) (hD : A'.depth ≤ dp + 1) (hU : A'.units ≤ un + 8) (hdp : dp + 5 < recursionLimit) (hun : un + 40 < cLine)
    (g' : Heap) (C cc : Addr) (code : Value) (env : Env) (p : Program) (loose : List Str) (mg mb : Str → Option Value) (s₂ : Shared) (m₂ : Str → Option Value) (E' : Value → Shared → Prop)
    (F2 : Fr g' C s₂.heap m₂) (X' : (Mine.hd.heap_39 w.params).In g') (T' : TopRead p loose mg mb g') (N2 : News g' C s₂.heap ((hl, listOf hits.toArray nh) :: b.objs bits wanted r))
    (hm : m₂ (Str.ofString "blm") = some (.ref b.x)) (hcell : s₂.heap.IsCell cc (some (.ref hl))) :
    wpAny (model PySem.Challenge.rw_vo0020_01.row.prog w) A' (eval (.Call (.Attribute (.Name (Str.ofString "blm") ⟨220, 20, 220, 23⟩) (Str.ofString "check_alt") ⟨220, 20, 220, 33⟩) [.Name (Str.ofString "hashes") ⟨220, 34, 220, 40⟩] [] ⟨220, 20, 220, 41⟩) (genEnv { kind := ScopeKind.function, names := [(Str.ofString ".0", NameKind.local), (Str.ofString "blm", NameKind.local), (Str.ofString "hashes", NameKind.free)], isGenerator := true, isCoroutine := false } [(Str.ofString "hashes", cc)] C code builtinsNs env))
      (fun y s₃ => y = .bool (hit bits hs b.oct) ∧ Keeps s₂ s₃) E' s₂ := by
  obtain ⟨a1, a2, a3, a4, a5⟩ := A'
  dsimp only at hA hD hU
  subst hA
  w_on
  revert X'
  k_fill
  intro X'
  w_top on
  refine MethodCall_ ?_
  refine wpAny_Name (wpAny_loadName_local rfl rfl F2.ns hm ?_) (by decide)
  walk_at "my step"
  dsimp only
  walk1
  walk1
  refine wpAny_Name (wpAny_loadName_free rfl rfl rfl hcell ?_) (by decide)
  try dsimp only
  walk1
  refine ⟨X'.keeps F2.keep, ?_⟩
  refine c_bcheck w bits wanted r hb hb' hr1 hr2 b hok hl hits hs nh hi hlen a2 a5 a4 a3 g' p loose mg mb s₂ _ _ F2.keep X' T' (fun q hq => ⟨(N2 q hq).1, (N2 q hq).2.2⟩) (by omega) (by omega) fun h' tk' hk => ?_
  exact ⟨rfl, h', tk', rfl, hk⟩
theorem anyRange {α : Type} (l : List α) (f : α → Bool) (d : Nat → Bool) (h : ∀ i (hi : i < l.length), d i = f l[i]) : (List.range l.length).any d = l.any f := by
  rw [Bool.eq_iff_iff, List.any_eq_true, List.any_eq_true]
  constructor
  · rintro ⟨i, hi, e⟩
    have hi := List.mem_range.mp hi
    exact ⟨l[i], List.getElem_mem hi, (h i hi).symm.trans e⟩
  · rintro ⟨a, ha, e⟩
    obtain ⟨i, hi, rfl⟩ := List.getElem_of_mem ha
    exact ⟨i, List.mem_range.mpr hi, (h i hi).trans e⟩
end
section
set_option maxHeartbeats 8000000 in
theorem c_hasE (w : World) (bits wanted r lim tot : Int) (hb : 4 ≤ bits) (hb' : bits ≤ 19) (hr1 : 1 ≤ r) (hr2 : r ≤ 13) (x : OR) (hx : ∀ b ∈ x.bs, b.Ok bits) (hn : x.bs.length ≤ 60) (ps : Array Value) (hps : TriplesOk ps.toList)
    (hl : Addr) (hits : List Value) (hs : List Int) (nh : Nat) (hi : IntsAre hits hs) (hlen : (hs.length : Int) = r) :
    Con w 10 410 [.ref x.o, .ref hl] [] ((405, tabObj ps) :: (hl, listOf hits.toArray nh) :: x.objsE bits wanted r lim tot)
      (fun v objs' => ∃ ps' : Array Value, TriplesOk ps'.toList ∧ v = .bool (x.bs.any fun b => hit bits hs b.oct) ∧ objs' = (405, tabObj ps') :: (hl, listOf hits.toArray nh) :: x.objsE bits wanted r lim tot) := by
  unfold Con
  w_on
  k_fill
  intro dp un gd cn cs a ccd cl outer A₀ base h₀ L m rest p loose mg mb s Q E B F X N T M hk hap hdp hun hbare hret
  w_top on
  refine wpAny_call ?_
  refine' enterRC B F X N T ?kA ?kF ?kK hap ?k6 ?k7 ?k8 ?k9 ?kB ?kD ?_ ?c2 ?c3 ?c4
  case kA => exact rfl
  case kF => exact rfl
  case kK => assumption
  case k6 => k_is
  case k7 => k_is
  case k8 => ktr_room
  case k9 => first | exact BindsTo.of_eq rfl | exact binds_K (X.keeps F.keep) rfl (by k_is) rfl rfl rfl
  case kD => decide +kernel
  case kB => exact rfl
  case c2 => exact rfl
  case c3 => exact rfl
  case c4 => exact rfl
  intro g' L' h' tk' cells' F' N' Y' B' X' T' hr' hlt' FG'
  have M' := M.keeps FG'.keep
  clear B F X N T FG' M
  k_cells Y'
  (try simp only [List.cons_append, List.nil_append] at N')
  try dsimp only
  try k_fold
  have F0 : Fr g' L' h' (fun y => if y = Str.ofString "self" then some (Value.ref x.o) else none) := F'
  clear F'
  k_steps
  rename_i o9 d9
  refine genExp (L := L') (h₀ := g') (c := 409) (P := 405) (p := p) (loose := loose) (mg := mg) (mb := mb) rfl rfl rfl (by decide) rfl rfl rfl (by ktr_room) rfl rfl ?_ (by intro _; rfl)
  iterate 3 (try walk_at "my step")
  have hlen2 : (refsOf x.bs).toArray.size = x.bs.length := by simp
  refine ⟨x.l, (refsOf x.bs).toArray, _, _, ps, rfl, News.isList N' (by k_mem), F0, N', by k_mem, hps, codeHd409 X', T', M', hbare, fun i => hit bits hs ((x.bs.map fun b => b.oct).getD i []), ?_, ?_⟩
  · intro C code A' E' i v s₂ m₂ hA hD hU hv hn2 hm hC hk2
    obtain ⟨b, hbi, rfl⟩ : ∃ b, x.bs[i]? = some b ∧ v = Value.ref b.x := by
      rw [List.getElem?_toArray, List.getElem?_map] at hv
      obtain ⟨b, hbi, rfl⟩ := Option.map_eq_some_iff.mp hv
      exact ⟨b, hbi, rfl⟩
    have hbm : b ∈ x.bs := List.mem_of_getElem? hbi
    have hoc : (x.bs.map fun b => b.oct).getD i [] = b.oct := by rw [List.getD_eq_getElem?_getD, List.getElem?_map, hbi]; rfl
    have hne : ∀ q ∈ (hl, listOf hits.toArray nh) :: b.objs bits wanted r, q.1 ≠ 405 := by
      intro q hq e
      have hq9 : q ∈ (hl, listOf hits.toArray nh) :: x.objsE bits wanted r lim tot := by
        rcases List.mem_cons.mp hq with rfl | hq
        · exact .head _
        · exact .tail _ (.tail _ (.tail _ (.tail _ (List.mem_flatMap.mpr ⟨b, hbm, hq⟩))))
      have h1 := (N' _ (.tail _ (.tail _ hq9))).1
      have h2 := (N' (405, tabObj ps) (.tail _ (.head _))).1
      rw [e, h2] at h1
      simp only [List.mem_cons, List.not_mem_nil, or_false] at hq
      rcases hq with rfl | rfl | rfl | rfl <;> cases h1
    have hof : ∀ q ∈ (hl, listOf hits.toArray nh) :: b.objs bits wanted r, q ∈ (L' + 1, o9) :: (405, tabObj ps) :: (hl, listOf hits.toArray nh) :: x.objsE bits wanted r lim tot := by
      intro q hq
      rcases List.mem_cons.mp hq with rfl | hq
      · exact .tail _ (.tail _ (.head _))
      · exact .tail _ (.tail _ (.tail _ (.tail _ (.tail _ (.tail _ (List.mem_flatMap.mpr ⟨b, hbm, hq⟩))))))
    have hL9 : @Ne Nat (L' + 1) 405 := fun e => by
      have h1 := (N' _ (.head _)).1
      have h2 := (N' (405, tabObj ps) (.tail _ (.head _))).1
      have h3 : o9 = tabObj ps := Option.some.inj (h1.symm.trans (by rw [show L' + 1 = (405 : Addr) from e]; exact h2))
      rw [h3] at d9
      cases d9
    have F2 : Fr g' C s₂.heap m₂ := ⟨hn2, fun b o e => hk2 b o (fun z => by rw [z, (N' (405, tabObj ps) (.tail _ (.head _))).2.2] at e; cases e) (F0.keep b o e), Nat.le_trans F0.above (Nat.le_trans (Nat.le_of_lt F0.ns.lt) hC)⟩
    have N2 : News g' C s₂.heap ((hl, listOf hits.toArray nh) :: b.objs bits wanted r) := fun q hq => ⟨hk2 _ _ (hne q hq) (N' q (hof q hq)).1, fun z => absurd (Heap.lt_size (N' q (hof q hq)).1) (Nat.not_lt.mpr (z ▸ hC)), (N' q (hof q hq)).2.2⟩
    have hcell : s₂.heap.IsCell (L' + 1) (some (.ref hl)) := ⟨o9, hk2 _ _ hL9 (N' _ (.head _)).1, d9⟩
    refine wpAny_mono (eltHit w bits wanted r hb hb' hr1 hr2 b (hx b hbm) hl hits hs nh hi hlen A' hA (dp + 1) (un + 3) hD hU (by omega) (by omega) g' C (L' + 1) code _ p loose mg mb s₂ m₂ E' F2 X' T' N2 hm hcell) (fun y s₃ h9 => ?_) fun _ _ e => e
    rw [← hoc] at h9
    exact h9
  · intro a₉ s₅ ps' F5 hk5 hP5 ht5 hb5 hos5 G5
    have hne : ∀ q ∈ (hl, listOf hits.toArray nh) :: x.objsE bits wanted r lim tot, q.1 ≠ 405 := by
      intro q hq e
      have h1 := (N' _ (.tail _ (.tail _ hq))).1
      have h2 := (N' (405, tabObj ps) (.tail _ (.head _))).1
      rw [e, h2] at h1
      rcases List.mem_cons.mp hq with rfl | hq
      · cases h1
      rcases List.mem_cons.mp hq with rfl | hq
      · cases h1
      rcases List.mem_cons.mp hq with rfl | hq
      · cases h1
      rcases List.mem_cons.mp hq with rfl | hq
      · cases h1
      obtain ⟨b, _, hq⟩ := List.mem_flatMap.mp hq
      simp only [List.mem_cons, List.not_mem_nil, or_false] at hq
      rcases hq with rfl | rfl | rfl <;> cases h1
    have N5 : News g' L' s₅.heap ((405, tabObj ps') :: (hl, listOf hits.toArray nh) :: x.objsE bits wanted r lim tot) := by
      intro q hq
      rcases List.mem_cons.mp hq with rfl | hq
      · exact ⟨hP5, (N' (405, tabObj ps) (.tail _ (.head _))).2⟩
      · exact ⟨hk5 _ _ (hne q hq) (N' q (.tail _ (.tail _ hq))).1, (N' q (.tail _ (.tail _ hq))).2⟩
    have hlow : ∀ q ∈ (405, tabObj ps') :: (hl, listOf hits.toArray nh) :: x.objsE bits wanted r lim tot, q.1 ≤ h'.objs.size - 1 := by
      intro q hq
      rcases List.mem_cons.mp hq with rfl | hq
      · exact Nat.le_sub_one_of_lt (Heap.lt_size (N' (405, tabObj ps) (.tail _ (.head _))).1)
      · exact Nat.le_sub_one_of_lt (Heap.lt_size (N' q (.tail _ (.tail _ hq))).1)
    try dsimp only
    walk1
    refine any_rowsK F5 hb5 G5 (Nat.le_sub_one_of_lt F0.ns.lt) (fun i => hit bits hs ((x.bs.map fun b => b.oct).getD i [])) ?_ fun s₆ F6 hb6 hos6 hk6 => ?_
    · rintro i v s Q E rfl hq
      exact wpAny_pure hq
    · have N6 : News g' L' s₆.heap ((405, tabObj ps') :: (hl, listOf hits.toArray nh) :: x.objsE bits wanted r lim tot) := fun q hq => ⟨hk6 _ _ (hlow q hq) (N5 q hq).1, (N5 q hq).2⟩
      walk1
      rename_i zF zN zA
      refine hret _ _ _ (hos6.trans hos5) hb6 zF (takeN zN fun q hq => hq) (takeA zA fun q hq => hq) ⟨ps', ht5, ?_, rfl⟩
      rw [hlen2, anyRange x.bs (fun b => hit bits hs b.oct) _ fun i hi => by rw [List.getD_eq_getElem?_getD, List.getElem?_map, List.getElem?_eq_getElem hi]; rfl]
end
section
set_option maxHeartbeats 8000000 in
theorem c_hasR (w : World) (bits wanted r lim tot : Int) (hb : 4 ≤ bits) (hb' : bits ≤ 19) (hr1 : 1 ≤ r) (hr2 : r ≤ 13) (x : OR) (hx : ∀ b ∈ x.bs, b.Ok bits) (hn : x.bs.length ≤ 60) (ps : Array Value) (hps : TriplesOk ps.toList)
    (hl : Addr) (hits : List Value) (hs : List Int) (nh : Nat) (hi : IntsAre hits hs) (hlen : (hs.length : Int) = r) :
    Con w 10 410 [.ref x.o, .ref hl] [] ((405, tabObj ps) :: (hl, listOf hits.toArray nh) :: x.objsR bits wanted r lim tot)
      (fun v objs' => ∃ ps' : Array Value, TriplesOk ps'.toList ∧ v = .bool (x.bs.any fun b => hit bits hs b.oct) ∧ objs' = (405, tabObj ps') :: (hl, listOf hits.toArray nh) :: x.objsR bits wanted r lim tot) := by
  unfold Con
  w_on
  k_fill
  intro dp un gd cn cs a ccd cl outer A₀ base h₀ L m rest p loose mg mb s Q E B F X N T M hk hap hdp hun hbare hret
  w_top on
  refine wpAny_call ?_
  refine' enterRC B F X N T ?kA ?kF ?kK hap ?k6 ?k7 ?k8 ?k9 ?kB ?kD ?_ ?c2 ?c3 ?c4
  case kA => exact rfl
  case kF => exact rfl
  case kK => assumption
  case k6 => k_is
  case k7 => k_is
  case k8 => ktr_room
  case k9 => first | exact BindsTo.of_eq rfl | exact binds_K (X.keeps F.keep) rfl (by k_is) rfl rfl rfl
  case kD => decide +kernel
  case kB => exact rfl
  case c2 => exact rfl
  case c3 => exact rfl
  case c4 => exact rfl
  intro g' L' h' tk' cells' F' N' Y' B' X' T' hr' hlt' FG'
  have M' := M.keeps FG'.keep
  clear B F X N T FG' M
  k_cells Y'
  (try simp only [List.cons_append, List.nil_append] at N')
  try dsimp only
  try k_fold
  have F0 : Fr g' L' h' (fun y => if y = Str.ofString "self" then some (Value.ref x.o) else none) := F'
  clear F'
  k_steps
  rename_i o9 d9
  refine genExp (L := L') (h₀ := g') (c := 409) (P := 405) (p := p) (loose := loose) (mg := mg) (mb := mb) rfl rfl rfl (by decide) rfl rfl rfl (by ktr_room) rfl rfl ?_ (by intro _; rfl)
  iterate 3 (try walk_at "my step")
  have hlen2 : (refsOf x.bs).toArray.size = x.bs.length := by simp
  refine ⟨x.l, (refsOf x.bs).toArray, _, _, ps, rfl, News.isList N' (by k_mem), F0, N', by k_mem, hps, codeHd409 X', T', M', hbare, fun i => hit bits hs ((x.bs.map fun b => b.oct).getD i []), ?_, ?_⟩
  · intro C code A' E' i v s₂ m₂ hA hD hU hv hn2 hm hC hk2
    obtain ⟨b, hbi, rfl⟩ : ∃ b, x.bs[i]? = some b ∧ v = Value.ref b.x := by
      rw [List.getElem?_toArray, List.getElem?_map] at hv
      obtain ⟨b, hbi, rfl⟩ := Option.map_eq_some_iff.mp hv
      exact ⟨b, hbi, rfl⟩
    have hbm : b ∈ x.bs := List.mem_of_getElem? hbi
    have hoc : (x.bs.map fun b => b.oct).getD i [] = b.oct := by rw [List.getD_eq_getElem?_getD, List.getElem?_map, hbi]; rfl
    have hne : ∀ q ∈ (hl, listOf hits.toArray nh) :: b.objs bits wanted r, q.1 ≠ 405 := by
      intro q hq e
      have hq9 : q ∈ (hl, listOf hits.toArray nh) :: x.objsR bits wanted r lim tot := by
        rcases List.mem_cons.mp hq with rfl | hq
        · exact .head _
        · exact .tail _ (.tail _ (.tail _ (.tail _ (List.mem_flatMap.mpr ⟨b, hbm, hq⟩))))
      have h1 := (N' _ (.tail _ (.tail _ hq9))).1
      have h2 := (N' (405, tabObj ps) (.tail _ (.head _))).1
      rw [e, h2] at h1
      simp only [List.mem_cons, List.not_mem_nil, or_false] at hq
      rcases hq with rfl | rfl | rfl | rfl <;> cases h1
    have hof : ∀ q ∈ (hl, listOf hits.toArray nh) :: b.objs bits wanted r, q ∈ (L' + 1, o9) :: (405, tabObj ps) :: (hl, listOf hits.toArray nh) :: x.objsR bits wanted r lim tot := by
      intro q hq
      rcases List.mem_cons.mp hq with rfl | hq
      · exact .tail _ (.tail _ (.head _))
      · exact .tail _ (.tail _ (.tail _ (.tail _ (.tail _ (.tail _ (List.mem_flatMap.mpr ⟨b, hbm, hq⟩))))))
    have hL9 : @Ne Nat (L' + 1) 405 := fun e => by
      have h1 := (N' _ (.head _)).1
      have h2 := (N' (405, tabObj ps) (.tail _ (.head _))).1
      have h3 : o9 = tabObj ps := Option.some.inj (h1.symm.trans (by rw [show L' + 1 = (405 : Addr) from e]; exact h2))
      rw [h3] at d9
      cases d9
    have F2 : Fr g' C s₂.heap m₂ := ⟨hn2, fun b o e => hk2 b o (fun z => by rw [z, (N' (405, tabObj ps) (.tail _ (.head _))).2.2] at e; cases e) (F0.keep b o e), Nat.le_trans F0.above (Nat.le_trans (Nat.le_of_lt F0.ns.lt) hC)⟩
    have N2 : News g' C s₂.heap ((hl, listOf hits.toArray nh) :: b.objs bits wanted r) := fun q hq => ⟨hk2 _ _ (hne q hq) (N' q (hof q hq)).1, fun z => absurd (Heap.lt_size (N' q (hof q hq)).1) (Nat.not_lt.mpr (z ▸ hC)), (N' q (hof q hq)).2.2⟩
    have hcell : s₂.heap.IsCell (L' + 1) (some (.ref hl)) := ⟨o9, hk2 _ _ hL9 (N' _ (.head _)).1, d9⟩
    refine wpAny_mono (eltHit w bits wanted r hb hb' hr1 hr2 b (hx b hbm) hl hits hs nh hi hlen A' hA (dp + 1) (un + 3) hD hU (by omega) (by omega) g' C (L' + 1) code _ p loose mg mb s₂ m₂ E' F2 X' T' N2 hm hcell) (fun y s₃ h9 => ?_) fun _ _ e => e
    rw [← hoc] at h9
    exact h9
  · intro a₉ s₅ ps' F5 hk5 hP5 ht5 hb5 hos5 G5
    have hne : ∀ q ∈ (hl, listOf hits.toArray nh) :: x.objsR bits wanted r lim tot, q.1 ≠ 405 := by
      intro q hq e
      have h1 := (N' _ (.tail _ (.tail _ hq))).1
      have h2 := (N' (405, tabObj ps) (.tail _ (.head _))).1
      rw [e, h2] at h1
      rcases List.mem_cons.mp hq with rfl | hq
      · cases h1
      rcases List.mem_cons.mp hq with rfl | hq
      · cases h1
      rcases List.mem_cons.mp hq with rfl | hq
      · cases h1
      rcases List.mem_cons.mp hq with rfl | hq
      · cases h1
      obtain ⟨b, _, hq⟩ := List.mem_flatMap.mp hq
      simp only [List.mem_cons, List.not_mem_nil, or_false] at hq
      rcases hq with rfl | rfl | rfl <;> cases h1
    have N5 : News g' L' s₅.heap ((405, tabObj ps') :: (hl, listOf hits.toArray nh) :: x.objsR bits wanted r lim tot) := by
      intro q hq
      rcases List.mem_cons.mp hq with rfl | hq
      · exact ⟨hP5, (N' (405, tabObj ps) (.tail _ (.head _))).2⟩
      · exact ⟨hk5 _ _ (hne q hq) (N' q (.tail _ (.tail _ hq))).1, (N' q (.tail _ (.tail _ hq))).2⟩
    have hlow : ∀ q ∈ (405, tabObj ps') :: (hl, listOf hits.toArray nh) :: x.objsR bits wanted r lim tot, q.1 ≤ h'.objs.size - 1 := by
      intro q hq
      rcases List.mem_cons.mp hq with rfl | hq
      · exact Nat.le_sub_one_of_lt (Heap.lt_size (N' (405, tabObj ps) (.tail _ (.head _))).1)
      · exact Nat.le_sub_one_of_lt (Heap.lt_size (N' q (.tail _ (.tail _ hq))).1)
    try dsimp only
    walk1
    refine any_rowsK F5 hb5 G5 (Nat.le_sub_one_of_lt F0.ns.lt) (fun i => hit bits hs ((x.bs.map fun b => b.oct).getD i [])) ?_ fun s₆ F6 hb6 hos6 hk6 => ?_
    · rintro i v s Q E rfl hq
      exact wpAny_pure hq
    · have N6 : News g' L' s₆.heap ((405, tabObj ps') :: (hl, listOf hits.toArray nh) :: x.objsR bits wanted r lim tot) := fun q hq => ⟨hk6 _ _ (hlow q hq) (N5 q hq).1, (N5 q hq).2⟩
      walk1
      rename_i zF zN zA
      refine hret _ _ _ (hos6.trans hos5) hb6 zF (takeN zN fun q hq => hq) (takeA zA fun q hq => hq) ⟨ps', ht5, ?_, rfl⟩
      rw [hlen2, anyRange x.bs (fun b => hit bits hs b.oct) _ fun i hi => by rw [List.getD_eq_getElem?_getD, List.getElem?_map, List.getElem?_eq_getElem hi]; rfl]
end
section
set_option maxHeartbeats 8000000 in
theorem c_askE (w : World) (bits wanted r lim tot : Int) (hb : 4 ≤ bits) (hb' : bits ≤ 19) (hr1 : 1 ≤ r) (hr2 : r ≤ 13) (x : OR) (hx : ∀ b ∈ x.bs, b.Ok bits) (hn : x.bs.length ≤ 60) (hn0 : x.bs ≠ []) (ps : Array Value) (hps : TriplesOk ps.toList)
    (c : Nat) (t1 : Tok) (hc : 97 ≤ c) (hc' : c ≤ 104) :
    Con w 12 403 [.ref x.o, .str (Str.mk #[c]) t1] [] ((405, tabObj ps) :: x.objsE bits wanted r lim tot)
      (fun v objs' => ∃ ps' : Array Value, TriplesOk ps'.toList ∧ v = .bool (x.bs.any fun b => hit bits (placesOf c r.toNat) b.oct) ∧ objs' = (405, tabObj ps') :: x.objsE bits wanted r lim tot) := by
  obtain ⟨b0, tl, hbs⟩ : ∃ b0 tl, x.bs = b0 :: tl := List.exists_cons_of_ne_nil hn0
  unfold Con
  w_on
  k_fill
  intro dp un gd cn cs a ccd cl outer A₀ base h₀ L m rest p loose mg mb s Q E B F X N T M hk hap hdp hun hbare hret
  w_top on
  refine wpAny_call ?_
  refine' enterR B F X N T ?kA ?kF ?kK hap ?k6 ?k7 ?k8 ?k9 ?kB ?_ ?c2 ?c3 ?c4 ?c5
  case kA => exact rfl
  case kF => exact rfl
  case kK => assumption
  case k6 => k_is
  case k7 => k_is
  case k8 => ktr_room
  case k9 => first | exact BindsTo.of_eq rfl | exact binds_K (X.keeps F.keep) rfl (by k_is) rfl rfl rfl
  case c5 => decide
  case kB => exact locs rfl
  case c2 => exact rfl
  case c3 => exact rfl
  case c4 => exact rfl
  intro g' L' h' F' N' B' X' T' hr' hlt' FG'
  have M' := M.keeps FG'.keep
  clear B F X N T FG' M
  try dsimp only
  try k_fold
  have hm1 : (b0.x, instObj 323 b0.d) ∈ List.flatMap (BR.objs bits wanted r) x.bs := List.mem_flatMap.mpr ⟨b0, by rw [hbs]; exact .head _, .head _⟩
  have hm2 : (b0.d, dictOf (bloomDict bits wanted r b0.z b0.cnt b0.l) b0.n) ∈ List.flatMap (BR.objs bits wanted r) x.bs := List.mem_flatMap.mpr ⟨b0, by rw [hbs]; exact .head _, .tail _ (.head _)⟩
  have hm3 : ∀ q ∈ b0.objs bits wanted r, q ∈ (405, tabObj ps) :: x.objsE bits wanted r lim tot := fun q hq => .tail _ (.tail _ (.tail _ (.tail _ (List.mem_flatMap.mpr ⟨b0, by rw [hbs]; exact .head _, hq⟩))))
  iterate 8 (try walk_at "my step")
  dsimp only
  refine itemFirst N' (by k_mem) hbs ?_
  iterate 6 (try walk_at "my step")
  with_reducible rename Fr _ _ _ _ => F1
  with_reducible rename News _ _ _ _ => N1
  have C := c_hashes w bits wanted r hb hb' hr1 hr2 b0 c t1 hc hc'
  k_dflt (refine useConK C rfl B' F1 X' N1 T' M' rfl hm3 (fun v objs' h q hq => by obtain ⟨l, its, _, e, _⟩ := h; rw [e]; exact .tail _ hq) (by ktr_room) (by ktr_units) hbare ?_)
  rintro v objs' s' hos1 hb1 F2 N2' A2 ⟨l, its, rfl, rfl, hI, hA3⟩
  have N2 : News g' L' s'.heap ((l, listOf its.toArray its.length) :: (405, tabObj ps) :: x.objsE bits wanted r lim tot) := subN N2' fun q hq => (List.mem_cons.mp hq).elim (fun e => by rw [e]; exact .head _) fun hq => List.mem_append_right _ hq
  clear N2'
  iterate 13 (try walk_at "my step")
  with_reducible rename Fr _ _ _ _ => F3
  with_reducible rename News _ _ _ _ => N3
  have C2 := c_hasE w bits wanted r lim tot hb hb' hr1 hr2 x hx hn ps hps l its (placesOf c r.toNat) its.length hI (by simp only [placesOf, List.length_map, List.length_range]; omega)
  k_dflt (refine useCon C2 rfl B' F3 X' N3 T' M' rfl [] (by walk_at "my subset") (fun _ h => nomatch h) (fun _ h => nomatch h) (by ktr_room) (by ktr_units) hb1 ?_)
  rintro v objs' s2 hos2 hb2 F4 N4 - ⟨ps', hps', rfl, rfl⟩
  iterate 2 (try walk_at "my step")
  rename_i zF zN zA
  refine hret _ _ _ (hos2.trans hos1) hb2 zF (takeN zN ?hs) (takeA zA ?hs) ⟨ps', hps', rfl, rfl⟩
  case hs => exact fun q hq => (List.mem_append.mpr (.inl ((List.mem_cons.mp hq).elim (fun e => by rw [e]; exact .head _) fun hq => .tail _ (.tail _ hq))))
end
section
set_option maxHeartbeats 8000000 in
theorem c_askR (w : World) (bits wanted r lim tot : Int) (hb : 4 ≤ bits) (hb' : bits ≤ 19) (hr1 : 1 ≤ r) (hr2 : r ≤ 13) (x : OR) (hx : ∀ b ∈ x.bs, b.Ok bits) (hn : x.bs.length ≤ 60) (hn0 : x.bs ≠ []) (ps : Array Value) (hps : TriplesOk ps.toList)
    (c : Nat) (t1 : Tok) (hc : 97 ≤ c) (hc' : c ≤ 104) :
    Con w 12 403 [.ref x.o, .str (Str.mk #[c]) t1] [] ((405, tabObj ps) :: x.objsR bits wanted r lim tot)
      (fun v objs' => ∃ ps' : Array Value, TriplesOk ps'.toList ∧ v = .bool (x.bs.any fun b => hit bits (placesOf c r.toNat) b.oct) ∧ objs' = (405, tabObj ps') :: x.objsR bits wanted r lim tot) := by
  obtain ⟨b0, tl, hbs⟩ : ∃ b0 tl, x.bs = b0 :: tl := List.exists_cons_of_ne_nil hn0
  unfold Con
  w_on
  k_fill
  intro dp un gd cn cs a ccd cl outer A₀ base h₀ L m rest p loose mg mb s Q E B F X N T M hk hap hdp hun hbare hret
  w_top on
  refine wpAny_call ?_
  refine' enterR B F X N T ?kA ?kF ?kK hap ?k6 ?k7 ?k8 ?k9 ?kB ?_ ?c2 ?c3 ?c4 ?c5
  case kA => exact rfl
  case kF => exact rfl
  case kK => assumption
  case k6 => k_is
  case k7 => k_is
  case k8 => ktr_room
  case k9 => first | exact BindsTo.of_eq rfl | exact binds_K (X.keeps F.keep) rfl (by k_is) rfl rfl rfl
  case c5 => decide
  case kB => exact locs rfl
  case c2 => exact rfl
  case c3 => exact rfl
  case c4 => exact rfl
  intro g' L' h' F' N' B' X' T' hr' hlt' FG'
  have M' := M.keeps FG'.keep
  clear B F X N T FG' M
  try dsimp only
  try k_fold
  have hm1 : (b0.x, instObj 323 b0.d) ∈ List.flatMap (BR.objs bits wanted r) x.bs := List.mem_flatMap.mpr ⟨b0, by rw [hbs]; exact .head _, .head _⟩
  have hm2 : (b0.d, dictOf (bloomDict bits wanted r b0.z b0.cnt b0.l) b0.n) ∈ List.flatMap (BR.objs bits wanted r) x.bs := List.mem_flatMap.mpr ⟨b0, by rw [hbs]; exact .head _, .tail _ (.head _)⟩
  have hm3 : ∀ q ∈ b0.objs bits wanted r, q ∈ (405, tabObj ps) :: x.objsR bits wanted r lim tot := fun q hq => .tail _ (.tail _ (.tail _ (.tail _ (List.mem_flatMap.mpr ⟨b0, by rw [hbs]; exact .head _, hq⟩))))
  iterate 8 (try walk_at "my step")
  dsimp only
  refine itemFirst N' (by k_mem) hbs ?_
  iterate 6 (try walk_at "my step")
  with_reducible rename Fr _ _ _ _ => F1
  with_reducible rename News _ _ _ _ => N1
  have C := c_hashes w bits wanted r hb hb' hr1 hr2 b0 c t1 hc hc'
  k_dflt (refine useConK C rfl B' F1 X' N1 T' M' rfl hm3 (fun v objs' h q hq => by obtain ⟨l, its, _, e, _⟩ := h; rw [e]; exact .tail _ hq) (by ktr_room) (by ktr_units) hbare ?_)
  rintro v objs' s' hos1 hb1 F2 N2' A2 ⟨l, its, rfl, rfl, hI, hA3⟩
  have N2 : News g' L' s'.heap ((l, listOf its.toArray its.length) :: (405, tabObj ps) :: x.objsR bits wanted r lim tot) := subN N2' fun q hq => (List.mem_cons.mp hq).elim (fun e => by rw [e]; exact .head _) fun hq => List.mem_append_right _ hq
  clear N2'
  iterate 13 (try walk_at "my step")
  with_reducible rename Fr _ _ _ _ => F3
  with_reducible rename News _ _ _ _ => N3
  have C2 := c_hasR w bits wanted r lim tot hb hb' hr1 hr2 x hx hn ps hps l its (placesOf c r.toNat) its.length hI (by simp only [placesOf, List.length_map, List.length_range]; omega)
  k_dflt (refine useCon C2 rfl B' F3 X' N3 T' M' rfl [] (by walk_at "my subset") (fun _ h => nomatch h) (fun _ h => nomatch h) (by ktr_room) (by ktr_units) hb1 ?_)
  rintro v objs' s2 hos2 hb2 F4 N4 - ⟨ps', hps', rfl, rfl⟩
  iterate 2 (try walk_at "my step")
  rename_i zF zN zA
  refine hret _ _ _ (hos2.trans hos1) hb2 zF (takeN zN ?hs) (takeA zA ?hs) ⟨ps', hps', rfl, rfl⟩
  case hs => exact fun q hq => (List.mem_append.mpr (.inl ((List.mem_cons.mp hq).elim (fun e => by rw [e]; exact .head _) fun hq => .tail _ (.tail _ hq))))
end
section
set_option maxHeartbeats 8000000 in
theorem c_inE (w : World) (bits wanted r lim tot : Int) (hb : 4 ≤ bits) (hb' : bits ≤ 19) (hr1 : 1 ≤ r) (hr2 : r ≤ 13) (x : OR) (hx : ∀ b ∈ x.bs, b.Ok bits) (hn : x.bs.length ≤ 60) (hn0 : x.bs ≠ []) (ps : Array Value) (hps : TriplesOk ps.toList)
    (c : Nat) (t1 : Tok) (hc : 97 ≤ c) (hc' : c ≤ 104) :
    Con w 14 349 [.ref x.o, .str (Str.mk #[c]) t1] [] ((405, tabObj ps) :: x.objsE bits wanted r lim tot)
      (fun v objs' => ∃ ps' : Array Value, TriplesOk ps'.toList ∧ v = .bool (x.bs.any fun b => hit bits (placesOf c r.toNat) b.oct) ∧ objs' = (405, tabObj ps') :: x.objsE bits wanted r lim tot) := by
  unfold Con
  w_on
  k_fill
  intro dp un gd cn cs a ccd cl outer A₀ base h₀ L m rest p loose mg mb s Q E B F X N T M hk hap hdp hun hbare hret
  w_top on
  refine wpAny_call ?_
  refine' enterR B F X N T ?kA ?kF ?kK hap ?k6 ?k7 ?k8 ?k9 ?kB ?_ ?c2 ?c3 ?c4 ?c5
  case kA => exact rfl
  case kF => exact rfl
  case kK => assumption
  case k6 => k_is
  case k7 => k_is
  case k8 => ktr_room
  case k9 => first | exact BindsTo.of_eq rfl | exact binds_K (X.keeps F.keep) rfl (by k_is) rfl rfl rfl
  case c5 => decide
  case kB => exact locs rfl
  case c2 => exact rfl
  case c3 => exact rfl
  case c4 => exact rfl
  intro g' L' h' F' N' B' X' T' hr' hlt' FG'
  have M' := M.keeps FG'.keep
  clear B F X N T FG' M
  try dsimp only
  try k_fold
  iterate 10 (try walk_at "my step")
  with_reducible rename Fr _ _ _ _ => F3
  with_reducible rename News _ _ _ _ => N3
  have C2 := c_askE w bits wanted r lim tot hb hb' hr1 hr2 x hx hn hn0 ps hps c t1 hc hc'
  k_dflt (refine useCon C2 rfl B' F3 X' N3 T' M' rfl [] (fun _ h => h) (fun _ h => nomatch h) (fun _ h => nomatch h) (by ktr_room) (by ktr_units) hbare ?_)
  rintro v objs' s2 hos2 hb2 F4 N4 - ⟨ps', hps', rfl, rfl⟩
  iterate 2 (try walk_at "my step")
  rename_i zF zN zA
  refine hret _ _ _ hos2 hb2 zF (takeN zN ?hs) (takeA zA ?hs) ⟨ps', hps', rfl, rfl⟩
  case hs => exact fun q hq => List.mem_append.mpr (.inl hq)
end
section
set_option maxHeartbeats 8000000 in
theorem c_inR (w : World) (bits wanted r lim tot : Int) (hb : 4 ≤ bits) (hb' : bits ≤ 19) (hr1 : 1 ≤ r) (hr2 : r ≤ 13) (x : OR) (hx : ∀ b ∈ x.bs, b.Ok bits) (hn : x.bs.length ≤ 60) (hn0 : x.bs ≠ []) (ps : Array Value) (hps : TriplesOk ps.toList)
    (c : Nat) (t1 : Tok) (hc : 97 ≤ c) (hc' : c ≤ 104) :
    Con w 14 349 [.ref x.o, .str (Str.mk #[c]) t1] [] ((405, tabObj ps) :: x.objsR bits wanted r lim tot)
      (fun v objs' => ∃ ps' : Array Value, TriplesOk ps'.toList ∧ v = .bool (x.bs.any fun b => hit bits (placesOf c r.toNat) b.oct) ∧ objs' = (405, tabObj ps') :: x.objsR bits wanted r lim tot) := by
  unfold Con
  w_on
  k_fill
  intro dp un gd cn cs a ccd cl outer A₀ base h₀ L m rest p loose mg mb s Q E B F X N T M hk hap hdp hun hbare hret
  w_top on
  refine wpAny_call ?_
  refine' enterR B F X N T ?kA ?kF ?kK hap ?k6 ?k7 ?k8 ?k9 ?kB ?_ ?c2 ?c3 ?c4 ?c5
  case kA => exact rfl
  case kF => exact rfl
  case kK => assumption
  case k6 => k_is
  case k7 => k_is
  case k8 => ktr_room
  case k9 => first | exact BindsTo.of_eq rfl | exact binds_K (X.keeps F.keep) rfl (by k_is) rfl rfl rfl
  case c5 => decide
  case kB => exact locs rfl
  case c2 => exact rfl
  case c3 => exact rfl
  case c4 => exact rfl
  intro g' L' h' F' N' B' X' T' hr' hlt' FG'
  have M' := M.keeps FG'.keep
  clear B F X N T FG' M
  try dsimp only
  try k_fold
  iterate 10 (try walk_at "my step")
  with_reducible rename Fr _ _ _ _ => F3
  with_reducible rename News _ _ _ _ => N3
  have C2 := c_askR w bits wanted r lim tot hb hb' hr1 hr2 x hx hn hn0 ps hps c t1 hc hc'
  k_dflt (refine useCon C2 rfl B' F3 X' N3 T' M' rfl [] (fun _ h => h) (fun _ h => nomatch h) (fun _ h => nomatch h) (by ktr_room) (by ktr_units) hbare ?_)
  rintro v objs' s2 hos2 hb2 F4 N4 - ⟨ps', hps', rfl, rfl⟩
  iterate 2 (try walk_at "my step")
  rename_i zF zN zA
  refine hret _ _ _ hos2 hb2 zF (takeN zN ?hs) (takeA zA ?hs) ⟨ps', hps', rfl, rfl⟩
  case hs => exact fun q hq => List.mem_append.mpr (.inl hq)
end
section
set_option maxHeartbeats 8000000 in
theorem c_newE (w : World) (bits wanted r lim tot : Int) (hb : 4 ≤ bits) (hb' : bits ≤ 19) (hw : 1 ≤ wanted) (hw' : wanted ≤ 4) (hr : ((13862943611198906 * bits).fdiv wanted + 10000000000000000).fdiv (2 * 10000000000000000) = r) (hr1 : 1 ≤ r) (hr2 : r ≤ 13) (x : OR) (hn : x.bs.length ≤ 60) (hsep : x.Sep) :
    Con w 12 433 [.ref x.o] [] (x.objsE bits wanted r lim tot)
      (fun v objs' => ∃ (b : BR) (x' : OR), v = .none ∧ b.cnt = 0 ∧ IntsAre b.its b.oct ∧ b.oct = List.replicate (-(-bits).fdiv 8).toNat 0 ∧ x'.o = x.o ∧ x'.d = x.d ∧ x'.l = x.l ∧ x'.bs = x.bs ++ [b] ∧ objs' = x'.objsE bits wanted r lim tot ∧ x'.Sep) := by
  unfold Con
  w_on
  k_fill
  intro dp un gd cn cs a ccd cl outer A₀ base h₀ L m rest p loose mg mb s Q E B F X N T M hk hap hdp hun hbare hret
  w_top on
  refine wpAny_call ?_
  refine' enterR B F X N T ?kA ?kF ?kK hap ?k6 ?k7 ?k8 ?k9 ?kB ?_ ?c2 ?c3 ?c4 ?c5
  case kA => exact rfl
  case kF => exact rfl
  case kK => assumption
  case k6 => k_is
  case k7 => k_is
  case k8 => ktr_room
  case k9 => first | exact BindsTo.of_eq rfl | exact binds_K (X.keeps F.keep) rfl (by k_is) rfl rfl rfl
  case c5 => decide
  case kB => exact locs rfl
  case c2 => exact rfl
  case c3 => exact rfl
  case c4 => exact rfl
  intro g' L' h' F' N' B' X' T' hr' hlt' FG'
  have M' := M.keeps FG'.keep
  clear B F X N T FG' M
  try dsimp only
  try k_fold
  iterate 19 (try walk_at "my step")
  with_reducible rename Fr _ _ _ _ => F1
  with_reducible rename News _ _ _ _ => N1
  have C := c_bloom w bits wanted x.z.v2 x.z.v1 hb hb' hw hw' r hr hr1 hr2
  k_dflt (refine useCon0 C rfl B' F1 X' N1 T' M' rfl (by ktr_room) (by ktr_units) hbare ?_)
  rintro v objs' s' hos1 hb1 F2 N2 A2 ⟨b, rfl, rfl, hc, hI, ho⟩
  simp only [List.cons_append, List.nil_append] at N2
  have hb3 := bloomApart (rest := x.objsE bits wanted r lim tot) N2
  obtain ⟨hs1, hs2, hs3⟩ := hsep.lNe
  have hsep' : ∀ (x' : OR), x'.o = x.o → x'.d = x.d → x'.l = x.l → x'.bs = x.bs ++ [b] → x'.Sep := fun x' e1 e2 e3 e4 => hsep.add e1 e2 e3 e4 hb3 fun a9 ha c9 hc e => by
    rw [← adrE (bits := bits) (wanted := wanted) (r := r) (lim := lim) (tot := tot)] at ha
    obtain ⟨q, hq, rfl⟩ := List.mem_map.mp ha
    rcases List.mem_cons.mp hc with rfl | hc
    · exact A2 q hq _ (.head _) e
    rcases List.mem_cons.mp hc with rfl | hc
    · exact A2 q hq _ (.tail _ (.head _)) e
    · exact A2 q hq _ (.tail _ (.tail _ (.head _))) (e.trans (List.mem_singleton.mp hc))
  have hap3 : ∀ q ∈ b.objs bits wanted r ++ (x.o, instObj 443 x.d) :: (x.d, dictOf (eDict bits wanted lim x.z tot x.l) x.n) :: blObjs bits wanted r x.bs, q.1 ≠ x.l := by
    intro q hq e
    rcases List.mem_append.mp hq with hq | hq
    · exact A2 (x.l, listOf (refsOf x.bs).toArray x.k) (.tail _ (.tail _ (.head _))) q hq e.symm
    rcases List.mem_cons.mp hq with rfl | hq
    · exact hs1 e
    rcases List.mem_cons.mp hq with rfl | hq
    · exact hs2 e
    · exact hs3 q.1 (by rw [← blAdr (bits := bits) (wanted := wanted) (r := r)]; exact List.mem_map_of_mem hq) e
  iterate 14 (try walk_at "my step")
  with_reducible rename Fr _ _ _ _ => F3
  with_reducible rename News _ _ _ _ => N3
  have N4 := subN (b := (x.l, listOf (refsOf x.bs).toArray x.k) :: (b.objs bits wanted r ++ (x.o, instObj 443 x.d) :: (x.d, dictOf (eDict bits wanted lim x.z tot x.l) x.n) :: blObjs bits wanted r x.bs)) N3 (fun q hq => by
    simp only [List.mem_cons, List.mem_append, List.not_mem_nil, or_false] at hq ⊢
    grind)
  have harr : (refsOf x.bs).toArray.push (.ref b.x) = (refsOf (x.bs ++ [b])).toArray := by simp [refsOf]
  k_dflt (refine append_head F3 N4 hap3 (fun h9 F5 N5 => ?_) (by rw [sizeLine_eq]; simp [refsOf]; omega))
  rw [harr] at N5
  have N6 := subN (b := OR.objsE bits wanted r lim tot ⟨x.o, x.d, x.l, x.z, x.n, x.k + 1, x.bs ++ [b]⟩) N5 (fun q hq => by
    simp only [OR.objsE, blObjs, List.flatMap_append, List.mem_cons, List.mem_append, List.flatMap_cons, List.flatMap_nil, List.not_mem_nil, or_false] at hq ⊢
    grind)
  clear N5 N4 N3 F3
  dsimp only
  iterate 3 (try walk_at "my step")
  rename_i zF zN zA
  refine hret _ _ _ hos1 hb1 zF (takeN zN ?hs) (takeA zA ?hs) ⟨b, ⟨x.o, x.d, x.l, x.z, x.n, x.k + 1, x.bs ++ [b]⟩, rfl, hc, hI, ho, rfl, rfl, rfl, rfl, rfl, hsep' _ rfl rfl rfl rfl⟩
  case hs => exact fun q hq => hq
end
section
set_option maxHeartbeats 8000000 in
theorem c_newR (w : World) (bits wanted r lim tot : Int) (hb : 4 ≤ bits) (hb' : bits ≤ 19) (hw : 1 ≤ wanted) (hw' : wanted ≤ 4) (hr : ((13862943611198906 * bits).fdiv wanted + 10000000000000000).fdiv (2 * 10000000000000000) = r) (hr1 : 1 ≤ r) (hr2 : r ≤ 13) (x : OR) (hn : x.bs.length ≤ 60) (hsep : x.Sep) :
    Con w 12 517 [.ref x.o] [] (x.objsR bits wanted r lim tot)
      (fun v objs' => ∃ (b : BR) (x' : OR), v = .none ∧ b.cnt = 0 ∧ IntsAre b.its b.oct ∧ b.oct = List.replicate (-(-bits).fdiv 8).toNat 0 ∧ x'.o = x.o ∧ x'.d = x.d ∧ x'.l = x.l ∧ x'.bs = x.bs ++ [b] ∧ objs' = x'.objsR bits wanted r lim tot ∧ x'.Sep) := by
  unfold Con
  w_on
  k_fill
  intro dp un gd cn cs a ccd cl outer A₀ base h₀ L m rest p loose mg mb s Q E B F X N T M hk hap hdp hun hbare hret
  w_top on
  refine wpAny_call ?_
  refine' enterR B F X N T ?kA ?kF ?kK hap ?k6 ?k7 ?k8 ?k9 ?kB ?_ ?c2 ?c3 ?c4 ?c5
  case kA => exact rfl
  case kF => exact rfl
  case kK => assumption
  case k6 => k_is
  case k7 => k_is
  case k8 => ktr_room
  case k9 => first | exact BindsTo.of_eq rfl | exact binds_K (X.keeps F.keep) rfl (by k_is) rfl rfl rfl
  case c5 => decide
  case kB => exact locs rfl
  case c2 => exact rfl
  case c3 => exact rfl
  case c4 => exact rfl
  intro g' L' h' F' N' B' X' T' hr' hlt' FG'
  have M' := M.keeps FG'.keep
  clear B F X N T FG' M
  try dsimp only
  try k_fold
  iterate 37 (try walk_at "my step")
  with_reducible rename Fr _ _ _ _ => F1
  with_reducible rename News _ _ _ _ => N1
  have C := c_bloom w bits wanted x.z.v2 x.z.v1 hb hb' hw hw' r hr hr1 hr2
  k_dflt (refine useCon0 C rfl B' F1 X' N1 T' M' rfl (by ktr_room) (by ktr_units) hbare ?_)
  rintro v objs' s' hos1 hb1 F2 N2 A2 ⟨b, rfl, rfl, hc, hI, ho⟩
  simp only [List.cons_append, List.nil_append] at N2
  have hb3 := bloomApart (rest := x.objsR bits wanted r lim tot) N2
  obtain ⟨hs1, hs2, hs3⟩ := hsep.lNe
  have hsep' : ∀ (x' : OR), x'.o = x.o → x'.d = x.d → x'.l = x.l → x'.bs = x.bs ++ [b] → x'.Sep := fun x' e1 e2 e3 e4 => hsep.add e1 e2 e3 e4 hb3 fun a9 ha c9 hc e => by
    rw [← adrR (bits := bits) (wanted := wanted) (r := r) (lim := lim) (tot := tot)] at ha
    obtain ⟨q, hq, rfl⟩ := List.mem_map.mp ha
    rcases List.mem_cons.mp hc with rfl | hc
    · exact A2 q hq _ (.head _) e
    rcases List.mem_cons.mp hc with rfl | hc
    · exact A2 q hq _ (.tail _ (.head _)) e
    · exact A2 q hq _ (.tail _ (.tail _ (.head _))) (e.trans (List.mem_singleton.mp hc))
  have hap3 : ∀ q ∈ b.objs bits wanted r ++ (x.o, instObj 520 x.d) :: (x.d, dictOf (rDict bits wanted lim x.z tot x.l) x.n) :: blObjs bits wanted r x.bs, q.1 ≠ x.l := by
    intro q hq e
    rcases List.mem_append.mp hq with hq | hq
    · exact A2 (x.l, listOf (refsOf x.bs).toArray x.k) (.tail _ (.tail _ (.head _))) q hq e.symm
    rcases List.mem_cons.mp hq with rfl | hq
    · exact hs1 e
    rcases List.mem_cons.mp hq with rfl | hq
    · exact hs2 e
    · exact hs3 q.1 (by rw [← blAdr (bits := bits) (wanted := wanted) (r := r)]; exact List.mem_map_of_mem hq) e
  iterate 14 (try walk_at "my step")
  with_reducible rename Fr _ _ _ _ => F3
  with_reducible rename News _ _ _ _ => N3
  have N4 := subN (b := (x.l, listOf (refsOf x.bs).toArray x.k) :: (b.objs bits wanted r ++ (x.o, instObj 520 x.d) :: (x.d, dictOf (rDict bits wanted lim x.z tot x.l) x.n) :: blObjs bits wanted r x.bs)) N3 (fun q hq => by
    simp only [List.mem_cons, List.mem_append, List.not_mem_nil, or_false] at hq ⊢
    grind)
  have harr : (refsOf x.bs).toArray.push (.ref b.x) = (refsOf (x.bs ++ [b])).toArray := by simp [refsOf]
  k_dflt (refine append_head F3 N4 hap3 (fun h9 F5 N5 => ?_) (by rw [sizeLine_eq]; simp [refsOf]; omega))
  rw [harr] at N5
  have N6 := subN (b := OR.objsR bits wanted r lim tot ⟨x.o, x.d, x.l, x.z, x.n, x.k + 1, x.bs ++ [b]⟩) N5 (fun q hq => by
    simp only [OR.objsR, blObjs, List.flatMap_append, List.mem_cons, List.mem_append, List.flatMap_cons, List.flatMap_nil, List.not_mem_nil, or_false] at hq ⊢
    grind)
  clear N5 N4 N3 F3
  dsimp only
  iterate 3 (try walk_at "my step")
  rename_i zF zN zA
  refine hret _ _ _ hos1 hb1 zF (takeN zN ?hs) (takeA zA ?hs) ⟨b, ⟨x.o, x.d, x.l, x.z, x.n, x.k + 1, x.bs ++ [b]⟩, rfl, hc, hI, ho, rfl, rfl, rfl, rfl, rfl, hsep' _ rfl rfl rfl rfl⟩
  case hs => exact fun q hq => hq
end
section
set_option maxHeartbeats 8000000 in
theorem c_growE (w : World) (bits wanted r lim tot : Int) (hb : 4 ≤ bits) (hb' : bits ≤ 19) (hw : 1 ≤ wanted) (hw' : wanted ≤ 4) (hr : ((13862943611198906 * bits).fdiv wanted + 10000000000000000).fdiv (2 * 10000000000000000) = r) (hr1 : 1 ≤ r) (hr2 : r ≤ 13) (x : OR) (hn : x.bs.length ≤ 60) (hsep : x.Sep) (tl : List BR) (bl : BR) (hbs : x.bs = tl ++ [bl]) :
    Con w 14 440 [.ref x.o] [] (x.objsE bits wanted r lim tot)
      (fun v objs' => ∃ (x' : OR), v = .none ∧ x'.o = x.o ∧ x'.d = x.d ∧ x'.l = x.l ∧ objs' = x'.objsE bits wanted r lim tot ∧ x'.Sep ∧
        ((bl.cnt < wanted ∧ x'.bs = x.bs) ∨ (wanted ≤ bl.cnt ∧ ∃ b : BR, b.cnt = 0 ∧ IntsAre b.its b.oct ∧ b.oct = List.replicate (-(-bits).fdiv 8).toNat 0 ∧ x'.bs = x.bs ++ [b]))) := by
  unfold Con
  w_on
  k_fill
  intro dp un gd cn cs a ccd cl outer A₀ base h₀ L m rest p loose mg mb s Q E B F X N T M hk hap hdp hun hbare hret
  w_top on
  refine wpAny_call ?_
  refine' enterR B F X N T ?kA ?kF ?kK hap ?k6 ?k7 ?k8 ?k9 ?kB ?_ ?c2 ?c3 ?c4 ?c5
  case kA => exact rfl
  case kF => exact rfl
  case kK => assumption
  case k6 => k_is
  case k7 => k_is
  case k8 => ktr_room
  case k9 => first | exact BindsTo.of_eq rfl | exact binds_K (X.keeps F.keep) rfl (by k_is) rfl rfl rfl
  case c5 => decide
  case kB => exact locs rfl
  case c2 => exact rfl
  case c3 => exact rfl
  case c4 => exact rfl
  intro g' L' h' F' N' B' X' T' hr' hlt' FG'
  have M' := M.keeps FG'.keep
  clear B F X N T FG' M
  try dsimp only
  try k_fold
  have hm1 : (bl.x, instObj 323 bl.d) ∈ List.flatMap (BR.objs bits wanted r) x.bs := List.mem_flatMap.mpr ⟨bl, by rw [hbs]; simp, .head _⟩
  have hm2 : (bl.d, dictOf (bloomDict bits wanted r bl.z bl.cnt bl.l) bl.n) ∈ List.flatMap (BR.objs bits wanted r) x.bs := List.mem_flatMap.mpr ⟨bl, by rw [hbs]; simp, .tail _ (.head _)⟩
  iterate 12 (try walk_at "my step")
  dsimp only
  refine itemLast N' (by k_mem) hbs ?_
  iterate 12 (try walk_at "my step")
  refine iteBoth (fun hc => ?_) (fun hc => ?_)
  · have hc : wanted ≤ bl.cnt := of_decide_eq_true hc
    try dsimp only
    iterate 6 (try walk_at "my step")
    try dsimp only
    with_reducible rename Fr _ _ _ _ => F3
    with_reducible rename News _ _ _ _ => N3
    have C2 := c_newE w bits wanted r lim tot hb hb' hw hw' hr hr1 hr2 x hn hsep
    k_dflt (refine useCon C2 rfl B' F3 X' N3 T' M' rfl [] (fun _ h => h) (fun _ h => nomatch h) (fun _ h => nomatch h) (by ktr_room) (by ktr_units) hbare ?_)
    rintro v objs' s2 hos2 hb2 F4 N4 - ⟨b, x', rfl, h1, h2, h3, h4, h5, h6, h7, rfl, h8⟩
    try dsimp only
    iterate 4 (try walk_at "my step")
    rename_i zF zN zA
    refine hret _ _ _ hos2 hb2 zF (takeN zN ?hs) (takeA zA ?hs) ⟨x', rfl, h4, h5, h6, rfl, h8, .inr ⟨hc, b, h1, h2, h3, h7⟩⟩
    case hs => exact fun q hq => List.mem_append.mpr (.inl hq)
  · have hc : bl.cnt < wanted := Int.lt_of_not_ge fun h => hc (decide_eq_true h)
    try dsimp only
    iterate 4 (try walk_at "my step")
    rename_i zF zN zA
    refine hret _ _ _ rfl hbare zF (takeN zN ?hs) (takeA zA ?hs) ⟨x, rfl, rfl, rfl, rfl, rfl, hsep, .inl ⟨hc, rfl⟩⟩
    case hs => exact fun q hq => hq
end
end Mine
end
section
open PySem PySem.W PyProof.Rows PySem.Calls
namespace Mine
section
abbrev OR.objsM (bits wanted r lim tot : Int) (x : OR) : List (Addr × Obj) :=
  (x.o, instObj 520 x.d) :: (x.d, dictOf (eDict bits wanted lim x.z tot x.l) x.n) :: (x.l, listOf (refsOf x.bs).toArray x.k) :: blObjs bits wanted r x.bs
theorem adrM {bits wanted r lim tot : Int} (x : OR) : (x.objsM bits wanted r lim tot).map (·.1) = x.adr := by
  simp only [OR.objsM, OR.adr, List.map_cons, List.map_flatMap, List.map_nil]
theorem threeApart {h₀ h : Heap} {L o d l C : Addr} {es : List DictEntry} {n k : Nat} {its : Array Value} {all : List (Addr × Obj)} (N : News h₀ L h all) (h1 : (o, instObj C d) ∈ all) (h2 : (d, dictOf es n) ∈ all) (h3 : (l, listOf its k) ∈ all) : [o, d, l].Nodup := by
  have h1 := (N _ h1).1
  have h2 := (N _ h2).1
  have h3 := (N _ h3).1
  dsimp only at h1 h2 h3
  refine List.nodup_cons.mpr ⟨?_, List.nodup_cons.mpr ⟨?_, List.nodup_cons.mpr ⟨List.not_mem_nil, List.nodup_nil⟩⟩⟩
  · intro h
    rcases List.mem_cons.mp h with e | h
    · rw [e, h2] at h1; cases h1
    · rw [List.mem_singleton.mp h, h3] at h1; cases h1
  · intro h
    rw [List.mem_singleton.mp h, h3] at h2
    have h9 := congrArg (fun o => o.map Obj.cls) h2
    simp at h9
section
variable {h₀ h : Heap} {L o d l : Addr} {rest : List (Addr × Obj)} {bits wanted r : Int} {h0 h1 h2 h3 h4 : Int} {t0 t1 t2 t3 t4 v1 v2 v3 : Tok} {n : Nat}
theorem packNewE (N : News h₀ L h ((l, listOf #[] 0) :: (o, instObj 443 d) :: (d, dictOf
    [⟨h0, .str (Str.ofString "_blooms") t0, .ref l⟩,
     ⟨h1, .str (Str.ofString "_ExpandingBloomFilter__fpr") t1, .int bits v1⟩,
     ⟨h2, .str (Str.ofString "_ExpandingBloomFilter__est_elements") t2, .int wanted v2⟩,
     ⟨h3, .str (Str.ofString "_added_elements") t3, .int 0 v3⟩,
     ⟨h4, .str (Str.ofString "_ExpandingBloomFilter__hash_func") t4, .ref 534⟩] n) :: rest)) :
    ∃ (z : DE), OR.Sep ⟨o, d, l, z, n, 0, []⟩ ∧ News h₀ L h (OR.objsE bits wanted r 0 0 ⟨o, d, l, z, n, 0, []⟩ ++ rest) :=
  ⟨⟨h0, h1, h2, h3, h4, h4, t0, t1, t2, t3, t4, t4, v1, v2, v3, v3⟩, threeApart N (.tail _ (.head _)) (.tail _ (.tail _ (.head _))) (.head _), subN N fun q hq => by
    simp only [OR.objsE, List.mem_cons, List.mem_append, blObjs, List.flatMap_nil, List.not_mem_nil, or_false, List.map_nil, refsOf] at hq ⊢
    grind⟩
theorem packNewM (N : News h₀ L h ((l, listOf #[] 0) :: (o, instObj 520 d) :: (d, dictOf
    [⟨h0, .str (Str.ofString "_blooms") t0, .ref l⟩,
     ⟨h1, .str (Str.ofString "_ExpandingBloomFilter__fpr") t1, .int bits v1⟩,
     ⟨h2, .str (Str.ofString "_ExpandingBloomFilter__est_elements") t2, .int wanted v2⟩,
     ⟨h3, .str (Str.ofString "_added_elements") t3, .int 0 v3⟩,
     ⟨h4, .str (Str.ofString "_ExpandingBloomFilter__hash_func") t4, .ref 534⟩] n) :: rest)) :
    ∃ (z : DE), OR.Sep ⟨o, d, l, z, n, 0, []⟩ ∧ News h₀ L h (OR.objsM bits wanted r 0 0 ⟨o, d, l, z, n, 0, []⟩ ++ rest) :=
  ⟨⟨h0, h1, h2, h3, h4, h4, t0, t1, t2, t3, t4, t4, v1, v2, v3, v3⟩, threeApart N (.tail _ (.head _)) (.tail _ (.tail _ (.head _))) (.head _), subN N fun q hq => by
    simp only [OR.objsM, List.mem_cons, List.mem_append, blObjs, List.flatMap_nil, List.not_mem_nil, or_false, List.map_nil, refsOf] at hq ⊢
    grind⟩
end
section
variable {h₀ h : Heap} {L : Addr} {x : OR} {rest : List (Addr × Obj)} {bits wanted r lim tot : Int} {h5 : Int} {t5 v5 : Tok} {n : Nat}
theorem packFull (N : News h₀ L h ((x.o, instObj 520 x.d) :: (x.d, dictOf
    [⟨x.z.h0, .str (Str.ofString "_blooms") x.z.t0, .ref x.l⟩,
     ⟨x.z.h1, .str (Str.ofString "_ExpandingBloomFilter__fpr") x.z.t1, .int bits x.z.v1⟩,
     ⟨x.z.h2, .str (Str.ofString "_ExpandingBloomFilter__est_elements") x.z.t2, .int wanted x.z.v2⟩,
     ⟨x.z.h3, .str (Str.ofString "_added_elements") x.z.t3, .int tot x.z.v3⟩,
     ⟨x.z.h4, .str (Str.ofString "_ExpandingBloomFilter__hash_func") x.z.t4, .ref 534⟩,
     ⟨h5, .str (Str.ofString "_queue_size") t5, .int lim v5⟩] n) :: (x.l, listOf (refsOf x.bs).toArray x.k) :: (blObjs bits wanted r x.bs ++ rest))) :
    ∃ z : DE, News h₀ L h (OR.objsR bits wanted r lim tot ⟨x.o, x.d, x.l, z, n, x.k, x.bs⟩ ++ rest) :=
  ⟨⟨x.z.h0, x.z.h1, x.z.h2, x.z.h3, x.z.h4, h5, x.z.t0, x.z.t1, x.z.t2, x.z.t3, x.z.t4, t5, x.z.v1, x.z.v2, x.z.v3, v5⟩, N⟩
end
theorem updFull {x : OR} {bits wanted r : Int} {i : Obj} {rest : List (Addr × Obj)} (hsep : x.Sep) (hap : ∀ q ∈ rest, q.1 ≠ x.d) (o o' : Obj) :
    Upd x.d o o' ((x.o, i) :: (x.d, o) :: (x.l, listOf (refsOf x.bs).toArray x.k) :: (blObjs bits wanted r x.bs ++ rest)) ((x.o, i) :: (x.d, o') :: (x.l, listOf (refsOf x.bs).toArray x.k) :: (blObjs bits wanted r x.bs ++ rest)) := by
  unfold OR.Sep OR.adr at hsep
  have h1 := List.nodup_cons.mp hsep
  have h2 := List.nodup_cons.mp h1.2
  refine Upd.tail (fun e => h1.1 ?_) (Upd.head fun q hq e => ?_)
  · exact (show x.o = x.d from e) ▸ .head _
  · rcases List.mem_cons.mp hq with rfl | hq
    · exact h2.1 ((show x.l = x.d from e) ▸ .head _)
    · rcases List.mem_append.mp hq with hq | hq
      · refine h2.1 (.tail _ (e ▸ ?_))
        rw [← blAdr (bits := bits) (wanted := wanted) (r := r)]
        exact List.mem_map_of_mem hq
      · exact hap q hq e
end
section
section
variable {h₀ h : Heap} {L : Addr} {a b : Addr × Obj} {x : OR} {bits wanted r lim tot : Int} {t : Tok}
theorem packE (N : News h₀ L h (a :: b :: (x.o, instObj 443 x.d) :: (x.d, dictOf
    [⟨x.z.h0, .str (Str.ofString "_blooms") x.z.t0, .ref x.l⟩,
     ⟨x.z.h1, .str (Str.ofString "_ExpandingBloomFilter__fpr") x.z.t1, .int bits x.z.v1⟩,
     ⟨x.z.h2, .str (Str.ofString "_ExpandingBloomFilter__est_elements") x.z.t2, .int wanted x.z.v2⟩,
     ⟨x.z.h3, .str (Str.ofString "_added_elements") x.z.t3, .int tot t⟩,
     ⟨x.z.h4, .str (Str.ofString "_ExpandingBloomFilter__hash_func") x.z.t4, .ref 534⟩] x.n) :: (x.l, listOf (refsOf x.bs).toArray x.k) :: blObjs bits wanted r x.bs)) :
    ∃ z : DE, News h₀ L h (a :: b :: OR.objsE bits wanted r lim tot ⟨x.o, x.d, x.l, z, x.n, x.k, x.bs⟩) :=
  ⟨⟨x.z.h0, x.z.h1, x.z.h2, x.z.h3, x.z.h4, x.z.h5, x.z.t0, x.z.t1, x.z.t2, x.z.t3, x.z.t4, x.z.t5, x.z.v1, x.z.v2, t, x.z.v5⟩, N⟩
theorem packR (N : News h₀ L h (a :: b :: (x.o, instObj 520 x.d) :: (x.d, dictOf
    [⟨x.z.h0, .str (Str.ofString "_blooms") x.z.t0, .ref x.l⟩,
     ⟨x.z.h1, .str (Str.ofString "_ExpandingBloomFilter__fpr") x.z.t1, .int bits x.z.v1⟩,
     ⟨x.z.h2, .str (Str.ofString "_ExpandingBloomFilter__est_elements") x.z.t2, .int wanted x.z.v2⟩,
     ⟨x.z.h3, .str (Str.ofString "_added_elements") x.z.t3, .int tot t⟩,
     ⟨x.z.h4, .str (Str.ofString "_ExpandingBloomFilter__hash_func") x.z.t4, .ref 534⟩,
     ⟨x.z.h5, .str (Str.ofString "_queue_size") x.z.t5, .int lim x.z.v5⟩] x.n) :: (x.l, listOf (refsOf x.bs).toArray x.k) :: blObjs bits wanted r x.bs)) :
    ∃ z : DE, News h₀ L h (a :: b :: OR.objsR bits wanted r lim tot ⟨x.o, x.d, x.l, z, x.n, x.k, x.bs⟩) :=
  ⟨⟨x.z.h0, x.z.h1, x.z.h2, x.z.h3, x.z.h4, x.z.h5, x.z.t0, x.z.t1, x.z.t2, x.z.t3, x.z.t4, x.z.t5, x.z.v1, x.z.v2, t, x.z.v5⟩, N⟩
end
/-- the dict of the row may be written -/
theorem updRow {x : OR} {bits wanted r : Int} {hl : Addr} {i : Obj} {ps : Array Value} {its : Array Value} {nh : Nat} (hsep : x.Sep) (hhl : hl ∉ x.adr) (h405 : (405 : Addr) ∉ x.adr) (o o' : Obj) :
    Upd x.d o o' ((405, tabObj ps) :: (hl, listOf its nh) :: (x.o, i) :: (x.d, o) :: (x.l, listOf (refsOf x.bs).toArray x.k) :: blObjs bits wanted r x.bs) ((405, tabObj ps) :: (hl, listOf its nh) :: (x.o, i) :: (x.d, o') :: (x.l, listOf (refsOf x.bs).toArray x.k) :: blObjs bits wanted r x.bs) := by
  unfold OR.Sep OR.adr at hsep
  have h1 := List.nodup_cons.mp hsep
  have h2 := List.nodup_cons.mp h1.2
  refine Upd.tail (fun e => h405 ?_) (Upd.tail (fun e => hhl ?_) (Upd.tail (fun e => h1.1 ?_) (Upd.head fun q hq e => h2.1 ?_)))
  · exact (show (405 : Addr) = x.d from e) ▸ .tail _ (.head _)
  · exact (show hl = x.d from e) ▸ .tail _ (.head _)
  · exact (show x.o = x.d from e) ▸ .head _
  · rcases List.mem_cons.mp hq with rfl | hq
    · exact (show x.l = x.d from e) ▸ .head _
    · refine .tail _ (e ▸ ?_)
      rw [← blAdr (bits := bits) (wanted := wanted) (r := r)]
      exact List.mem_map_of_mem hq
/-- the code table lies nowhere in the row -/
theorem tabNotE {h₀ h : Heap} {L : Addr} {x : OR} {bits wanted r lim tot : Int} {ps : Array Value} {rest : List (Addr × Obj)} (N : News h₀ L h ((405, tabObj ps) :: rest)) (hs : ∀ q ∈ x.objsE bits wanted r lim tot, q ∈ rest) : (405 : Addr) ∉ x.adr := fun hm => by
  rw [← adrE (bits := bits) (wanted := wanted) (r := r) (lim := lim) (tot := tot)] at hm
  obtain ⟨q, hq, e⟩ := List.mem_map.mp hm
  have h1 := (N _ (.head _)).1
  have h2 := (N q (.tail _ (hs q hq))).1
  rw [e] at h2
  dsimp only at h1
  rw [h1] at h2
  simp only [OR.objsE, blObjs, List.mem_cons, List.mem_flatMap, BR.objs, List.not_mem_nil, or_false] at hq
  rcases hq with rfl | rfl | rfl | ⟨b, hb, rfl | rfl | rfl⟩ <;> cases h2
theorem tabNotR {h₀ h : Heap} {L : Addr} {x : OR} {bits wanted r lim tot : Int} {ps : Array Value} {rest : List (Addr × Obj)} (N : News h₀ L h ((405, tabObj ps) :: rest)) (hs : ∀ q ∈ x.objsR bits wanted r lim tot, q ∈ rest) : (405 : Addr) ∉ x.adr := fun hm => by
  rw [← adrR (bits := bits) (wanted := wanted) (r := r) (lim := lim) (tot := tot)] at hm
  obtain ⟨q, hq, e⟩ := List.mem_map.mp hm
  have h1 := (N _ (.head _)).1
  have h2 := (N q (.tail _ (hs q hq))).1
  rw [e] at h2
  dsimp only at h1
  rw [h1] at h2
  simp only [OR.objsR, blObjs, List.mem_cons, List.mem_flatMap, BR.objs, List.not_mem_nil, or_false] at hq
  rcases hq with rfl | rfl | rfl | ⟨b, hb, rfl | rfl | rfl⟩ <;> cases h2
theorem freshOk {bits : Int} {b : BR} (hb : 0 ≤ bits) (h1 : IntsAre b.its b.oct) (h2 : b.oct = List.replicate (-(-bits).fdiv 8).toNat 0) : b.Ok bits := by
  refine ⟨h1, ?_, ?_⟩
  · rw [h2, List.length_replicate, Int.fdiv_eq_ediv_of_nonneg _ (by omega)]
    omega
  · intro v hv
    rw [h2] at hv
    rw [(List.mem_replicate.mp hv).2]
    decide
theorem adrLast {o d l : Addr} {z z' : DE} {n k n' k' : Nat} {tl : List BR} {b b' : BR} (e1 : b'.x = b.x) (e2 : b'.d = b.d) (e3 : b'.l = b.l) : OR.adr ⟨o, d, l, z, n, k, tl ++ [b']⟩ = OR.adr ⟨o, d, l, z', n', k', tl ++ [b]⟩ := by
  simp only [OR.adr, List.flatMap_append, List.flatMap_cons, List.flatMap_nil, e1, e2, e3]
/-- what an add leaves of the row -/
structure Added (bits wanted : Int) (hs : List Int) (x x' : OR) (tl : List BR) (bl : BR) (kept : List BR) (sto : Bool) : Prop where
  o : x'.o = x.o
  d : x'.d = x.d
  l : x'.l = x.l
  sep : x'.Sep
  no : sto = false → x'.bs = x.bs
  yes : sto = true → ∃ bl' : BR, IntsAre bl'.its bl'.oct ∧
    ((bl.cnt < wanted ∧ x'.bs = tl ++ [bl'] ∧ bl'.oct = setAll bits bl.oct hs ∧ bl'.cnt = bl.cnt + 1) ∨
     (wanted ≤ bl.cnt ∧ x'.bs = kept ++ [bl'] ∧ bl'.oct = setAll bits (List.replicate (-(-bits).fdiv 8).toNat 0) hs ∧ bl'.cnt = 1))
end
section
theorem tabNe {h₀ h : Heap} {L a : Addr} {ps its : Array Value} {n : Nat} {rest : List (Addr × Obj)} (N : News h₀ L h ((405, tabObj ps) :: rest)) (hs : (a, listOf its n) ∈ rest) : (405 : Addr) ≠ a := fun e => by
  have h1 := (N _ (.head _)).1
  have h2 := (N _ (.tail _ hs)).1
  dsimp only at h1 h2
  rw [← e, h1] at h2
  cases h2
/-- the adding to the last filter, on the row's ledger -/
theorem useLastE {w : World} {dp un : Nat} {gd : Option (List Code)} {cn : Str} {cs : Scope} {a : Addr} {ccd : Value} {cl : List (Str × Addr)} {outer : List Env} {A A₀ : Around} {base h₀ : Heap} {L : Addr} {m : Str → Option Value}
    {p : Program} {loose : List Str} {mg mb : Str → Option Value} {s : Shared} {Q E : Value → Shared → Prop} {bits wanted r lim tot : Int} (hb : 4 ≤ bits) (hb' : bits ≤ 19) (hr1 : 1 ≤ r) (hr2 : r ≤ 13)
    {x : OR} {tl : List BR} {bl : BR} {ps : Array Value} {hl : Addr} {hits : List Value} {hs : List Int} {nh : Nat} (hsep : x.Sep) (hhl : hl ∉ x.adr) (hbs : x.bs = tl ++ [bl]) (hok : bl.Ok bits) (hc0 : 0 ≤ bl.cnt) (hc1 : bl.cnt ≤ 1000) (hi : IntsAre hits hs) (hlen : (hs.length : Int) = r)
    (hA : A = ktrTop dp un gd cn cs L a ccd cl outer) (B : Below A₀ base outer h₀) (F : Fr h₀ L s.heap m) (X : (Mine.hd.heap_39 w.params).In h₀) (N : News h₀ L s.heap ((405, tabObj ps) :: (hl, listOf hits.toArray nh) :: x.objsE bits wanted r lim tot)) (T : TopRead p loose mg mb h₀) (M : BM mg h₀)
    (hk : cs.kind = .function) (hd : dp + 4 < recursionLimit) (hu : un + 8 * 4 < cLine) (hbare : AllBare s.gens)
    (ret : ∀ (bl' : BR) s', s'.os = s.os → AllBare s'.gens → Fr h₀ L s'.heap m → News h₀ L s'.heap ((405, tabObj ps) :: (hl, listOf hits.toArray nh) :: OR.objsE bits wanted r lim tot ⟨x.o, x.d, x.l, x.z, x.n, x.k, tl ++ [bl']⟩) →
      bl'.x = bl.x → bl'.d = bl.d → bl'.l = bl.l → bl'.cnt = bl.cnt + 1 → IntsAre bl'.its bl'.oct → bl'.oct = setAll bits bl.oct hs → Q .none s') :
    wpAny (model PySem.Challenge.rw_vo0020_01.row.prog w) A (call (.ref 247) [.ref bl.x, .ref hl] []) Q E s := by
  have h405 := tabNotE (x := x) (bits := bits) (wanted := wanted) (r := r) (lim := lim) (tot := tot) N (fun q hq => .tail _ hq)
  have h405l := tabNe N (.head _)
  have hbm : ∀ c ∈ [bl.x, bl.d, bl.l], c ∈ x.bs.flatMap fun b => [b.x, b.d, b.l] := fun c hc => List.mem_flatMap.mpr ⟨bl, by rw [hbs]; simp, hc⟩
  have hbm' : ∀ c ∈ [bl.x, bl.d, bl.l], c ∈ x.adr := fun c hc => .tail _ (.tail _ (.tail _ (hbm c hc)))
  have hhne : ∀ c ∈ [bl.x, bl.d, bl.l], hl ≠ c := fun c hc e => hhl (e ▸ hbm' c hc)
  have hsepb : [bl.x, bl.d, bl.l].Nodup := bloomApart (bits := bits) (wanted := wanted) (r := r) (rest := []) (subN N fun q hq => by
    rw [List.append_nil] at hq
    exact .tail _ (.tail _ (.tail _ (.tail _ (.tail _ (List.mem_flatMap.mpr ⟨bl, by rw [hbs]; simp, hq⟩))))))
  have C := c_badd w bits wanted r hb hb' hr1 hr2 bl hok hc0 hc1 hl hits hs nh hi hlen (hhne _ (by simp)) (hhne _ (by simp)) (hhne _ (by simp))
    (fun e => (List.nodup_cons.mp hsepb).1 (by rw [e]; simp)) (fun e => (List.nodup_cons.mp hsepb).1 (by rw [e]; simp)) (fun e => (List.nodup_cons.mp (List.nodup_cons.mp hsepb).2).1 (by rw [e]; simp))
  unfold OR.Sep OR.adr at hsep
  rw [hbs, List.flatMap_append] at hsep
  have hap : ∀ q ∈ (405, tabObj ps) :: (x.o, instObj 443 x.d) :: (x.d, dictOf (eDict bits wanted lim x.z tot x.l) x.n) :: (x.l, listOf (refsOf x.bs).toArray x.k) :: blObjs bits wanted r tl, ∀ b ∈ (hl, listOf hits.toArray nh) :: bl.objs bits wanted r, q.1 ≠ b.1 := by
    intro q hq b hb e
    have hb2 : b.1 = hl ∨ b.1 ∈ [bl.x, bl.d, bl.l] := by
      rcases List.mem_cons.mp hb with rfl | hb
      · exact .inl rfl
      · exact .inr (List.mem_map_of_mem (f := (·.1)) hb)
    have hq2 : q.1 = 405 ∨ (q.1 ∈ x.adr ∧ q.1 ∈ x.o :: x.d :: x.l :: tl.flatMap fun b => [b.x, b.d, b.l]) := by
      rcases List.mem_cons.mp hq with rfl | hq
      · exact .inl rfl
      · have h7 : q.1 ∈ x.o :: x.d :: x.l :: tl.flatMap fun b => [b.x, b.d, b.l] := by
          rw [← blAdr (bits := bits) (wanted := wanted) (r := r)]
          exact List.mem_map_of_mem (f := (·.1)) hq
        refine .inr ⟨?_, h7⟩
        unfold OR.adr
        rw [hbs, List.flatMap_append]
        simp only [List.mem_cons, List.mem_append] at h7 ⊢
        grind
    rcases hq2 with h1 | ⟨h1, h2⟩
    · rcases hb2 with h3 | h3
      · exact h405l (h1.symm.trans (e.trans h3))
      · exact h405 (h1 ▸ e ▸ hbm' _ h3)
    · rcases hb2 with h3 | h3
      · exact hhl (h3 ▸ e ▸ h1)
      · refine (List.nodup_append.mp (show (( x.o :: x.d :: x.l :: tl.flatMap fun b => [b.x, b.d, b.l]) ++ ([bl].flatMap fun b => [b.x, b.d, b.l])).Nodup from hsep)).2.2 q.1 h2 b.1 ?_ e
        rw [List.flatMap_cons, List.flatMap_nil, List.append_nil]
        exact h3
  refine useCon C hA B F X N T M hk ((405, tabObj ps) :: (x.o, instObj 443 x.d) :: (x.d, dictOf (eDict bits wanted lim x.z tot x.l) x.n) :: (x.l, listOf (refsOf x.bs).toArray x.k) :: blObjs bits wanted r tl) ?_ ?_ hap hd hu hbare ?_
  · intro q hq
    rcases List.mem_cons.mp hq with rfl | hq
    · exact .tail _ (.head _)
    · exact .tail _ (.tail _ (.tail _ (.tail _ (.tail _ (List.mem_flatMap.mpr ⟨bl, by rw [hbs]; simp, hq⟩)))))
  · intro q hq
    have h8 : ∀ q ∈ blObjs bits wanted r tl, q ∈ blObjs bits wanted r x.bs := fun q hq => by rw [hbs, blObjs_app]; exact List.mem_append_left _ hq
    simp only [OR.objsE, List.mem_cons] at hq ⊢
    grind
  rintro v objs' s' h1 h2 F2 N2 - ⟨b', rfl, rfl, e1, e2, e3, e4, e5, e6⟩
  refine ret b' s' h1 h2 F2 (subN N2 fun q hq => ?_) e1 e2 e3 e4 e5 e6
  have e7 : refsOf x.bs = refsOf (tl ++ [b']) := by rw [hbs]; simp [refsOf, e1]
  rw [e7]
  simp only [OR.objsE, blObjs, List.flatMap_append, List.mem_cons, List.mem_append, List.flatMap_cons, List.flatMap_nil, List.not_mem_nil, or_false] at hq ⊢
  grind
end
section
/-- the adding to the last filter, on the row's ledger -/
theorem useLastR {w : World} {dp un : Nat} {gd : Option (List Code)} {cn : Str} {cs : Scope} {a : Addr} {ccd : Value} {cl : List (Str × Addr)} {outer : List Env} {A A₀ : Around} {base h₀ : Heap} {L : Addr} {m : Str → Option Value}
    {p : Program} {loose : List Str} {mg mb : Str → Option Value} {s : Shared} {Q E : Value → Shared → Prop} {bits wanted r lim tot : Int} (hb : 4 ≤ bits) (hb' : bits ≤ 19) (hr1 : 1 ≤ r) (hr2 : r ≤ 13)
    {x : OR} {tl : List BR} {bl : BR} {ps : Array Value} {hl : Addr} {hits : List Value} {hs : List Int} {nh : Nat} (hsep : x.Sep) (hhl : hl ∉ x.adr) (hbs : x.bs = tl ++ [bl]) (hok : bl.Ok bits) (hc0 : 0 ≤ bl.cnt) (hc1 : bl.cnt ≤ 1000) (hi : IntsAre hits hs) (hlen : (hs.length : Int) = r)
    (hA : A = ktrTop dp un gd cn cs L a ccd cl outer) (B : Below A₀ base outer h₀) (F : Fr h₀ L s.heap m) (X : (Mine.hd.heap_39 w.params).In h₀) (N : News h₀ L s.heap ((405, tabObj ps) :: (hl, listOf hits.toArray nh) :: x.objsR bits wanted r lim tot)) (T : TopRead p loose mg mb h₀) (M : BM mg h₀)
    (hk : cs.kind = .function) (hd : dp + 4 < recursionLimit) (hu : un + 8 * 4 < cLine) (hbare : AllBare s.gens)
    (ret : ∀ (bl' : BR) s', s'.os = s.os → AllBare s'.gens → Fr h₀ L s'.heap m → News h₀ L s'.heap ((405, tabObj ps) :: (hl, listOf hits.toArray nh) :: OR.objsR bits wanted r lim tot ⟨x.o, x.d, x.l, x.z, x.n, x.k, tl ++ [bl']⟩) →
      bl'.x = bl.x → bl'.d = bl.d → bl'.l = bl.l → bl'.cnt = bl.cnt + 1 → IntsAre bl'.its bl'.oct → bl'.oct = setAll bits bl.oct hs → Q .none s') :
    wpAny (model PySem.Challenge.rw_vo0020_01.row.prog w) A (call (.ref 247) [.ref bl.x, .ref hl] []) Q E s := by
  have h405 := tabNotR (x := x) (bits := bits) (wanted := wanted) (r := r) (lim := lim) (tot := tot) N (fun q hq => .tail _ hq)
  have h405l := tabNe N (.head _)
  have hbm : ∀ c ∈ [bl.x, bl.d, bl.l], c ∈ x.bs.flatMap fun b => [b.x, b.d, b.l] := fun c hc => List.mem_flatMap.mpr ⟨bl, by rw [hbs]; simp, hc⟩
  have hbm' : ∀ c ∈ [bl.x, bl.d, bl.l], c ∈ x.adr := fun c hc => .tail _ (.tail _ (.tail _ (hbm c hc)))
  have hhne : ∀ c ∈ [bl.x, bl.d, bl.l], hl ≠ c := fun c hc e => hhl (e ▸ hbm' c hc)
  have hsepb : [bl.x, bl.d, bl.l].Nodup := bloomApart (bits := bits) (wanted := wanted) (r := r) (rest := []) (subN N fun q hq => by
    rw [List.append_nil] at hq
    exact .tail _ (.tail _ (.tail _ (.tail _ (.tail _ (List.mem_flatMap.mpr ⟨bl, by rw [hbs]; simp, hq⟩))))))
  have C := c_badd w bits wanted r hb hb' hr1 hr2 bl hok hc0 hc1 hl hits hs nh hi hlen (hhne _ (by simp)) (hhne _ (by simp)) (hhne _ (by simp))
    (fun e => (List.nodup_cons.mp hsepb).1 (by rw [e]; simp)) (fun e => (List.nodup_cons.mp hsepb).1 (by rw [e]; simp)) (fun e => (List.nodup_cons.mp (List.nodup_cons.mp hsepb).2).1 (by rw [e]; simp))
  unfold OR.Sep OR.adr at hsep
  rw [hbs, List.flatMap_append] at hsep
  have hap : ∀ q ∈ (405, tabObj ps) :: (x.o, instObj 520 x.d) :: (x.d, dictOf (rDict bits wanted lim x.z tot x.l) x.n) :: (x.l, listOf (refsOf x.bs).toArray x.k) :: blObjs bits wanted r tl, ∀ b ∈ (hl, listOf hits.toArray nh) :: bl.objs bits wanted r, q.1 ≠ b.1 := by
    intro q hq b hb e
    have hb2 : b.1 = hl ∨ b.1 ∈ [bl.x, bl.d, bl.l] := by
      rcases List.mem_cons.mp hb with rfl | hb
      · exact .inl rfl
      · exact .inr (List.mem_map_of_mem (f := (·.1)) hb)
    have hq2 : q.1 = 405 ∨ (q.1 ∈ x.adr ∧ q.1 ∈ x.o :: x.d :: x.l :: tl.flatMap fun b => [b.x, b.d, b.l]) := by
      rcases List.mem_cons.mp hq with rfl | hq
      · exact .inl rfl
      · have h7 : q.1 ∈ x.o :: x.d :: x.l :: tl.flatMap fun b => [b.x, b.d, b.l] := by
          rw [← blAdr (bits := bits) (wanted := wanted) (r := r)]
          exact List.mem_map_of_mem (f := (·.1)) hq
        refine .inr ⟨?_, h7⟩
        unfold OR.adr
        rw [hbs, List.flatMap_append]
        simp only [List.mem_cons, List.mem_append] at h7 ⊢
        grind
    rcases hq2 with h1 | ⟨h1, h2⟩
    · rcases hb2 with h3 | h3
      · exact h405l (h1.symm.trans (e.trans h3))
      · exact h405 (h1 ▸ e ▸ hbm' _ h3)
    · rcases hb2 with h3 | h3
      · exact hhl (h3 ▸ e ▸ h1)
      · refine (List.nodup_append.mp (show (( x.o :: x.d :: x.l :: tl.flatMap fun b => [b.x, b.d, b.l]) ++ ([bl].flatMap fun b => [b.x, b.d, b.l])).Nodup from hsep)).2.2 q.1 h2 b.1 ?_ e
        rw [List.flatMap_cons, List.flatMap_nil, List.append_nil]
        exact h3
  refine useCon C hA B F X N T M hk ((405, tabObj ps) :: (x.o, instObj 520 x.d) :: (x.d, dictOf (rDict bits wanted lim x.z tot x.l) x.n) :: (x.l, listOf (refsOf x.bs).toArray x.k) :: blObjs bits wanted r tl) ?_ ?_ hap hd hu hbare ?_
  · intro q hq
    rcases List.mem_cons.mp hq with rfl | hq
    · exact .tail _ (.head _)
    · exact .tail _ (.tail _ (.tail _ (.tail _ (.tail _ (List.mem_flatMap.mpr ⟨bl, by rw [hbs]; simp, hq⟩)))))
  · intro q hq
    have h8 : ∀ q ∈ blObjs bits wanted r tl, q ∈ blObjs bits wanted r x.bs := fun q hq => by rw [hbs, blObjs_app]; exact List.mem_append_left _ hq
    simp only [OR.objsR, List.mem_cons] at hq ⊢
    grind
  rintro v objs' s' h1 h2 F2 N2 - ⟨b', rfl, rfl, e1, e2, e3, e4, e5, e6⟩
  refine ret b' s' h1 h2 F2 (subN N2 fun q hq => ?_) e1 e2 e3 e4 e5 e6
  have e7 : refsOf x.bs = refsOf (tl ++ [b']) := by rw [hbs]; simp [refsOf, e1]
  rw [e7]
  simp only [OR.objsR, blObjs, List.flatMap_append, List.mem_cons, List.mem_append, List.flatMap_cons, List.flatMap_nil, List.not_mem_nil, or_false] at hq ⊢
  grind
end
section
theorem popRow {prog : Program} {w : World} {A : Around} {E : Value → Shared → Prop} {s : Shared} {h₀ : Heap} {L : Addr} {m : Str → Option Value} {Q : Value → Shared → Prop} {x : OR} {bits wanted r lim tot : Int} {b0 : BR} {tl : List BR} {u : Tok}
    (hsep : x.Sep) (hbs : x.bs = b0 :: tl) (hn : x.bs.length ≤ 60) (F : Fr h₀ L s.heap m) (N : News h₀ L s.heap (x.objsR bits wanted r lim tot))
    (h : ∀ h', Fr h₀ L h' m → News h₀ L h' (OR.objsR bits wanted r lim tot ⟨x.o, x.d, x.l, x.z, x.n, x.k + 1, tl⟩) → Q (.ref b0.x) { s with heap := h' }) :
    wpAny (model prog w) A (call (.builtin "list.pop") [.ref x.l, .int 0 u]) Q E s := by
  have hU : Upd x.l (listOf (refsOf x.bs).toArray x.k) (listOf ([] ++ refsOf tl).toArray (x.k + 1)) (x.objsR bits wanted r lim tot) ((x.o, instObj 520 x.d) :: (x.d, dictOf (rDict bits wanted lim x.z tot x.l) x.n) :: (x.l, listOf ([] ++ refsOf tl).toArray (x.k + 1)) :: blObjs bits wanted r x.bs) := by
    obtain ⟨h1, h2, h3⟩ := hsep.lNe
    refine Upd.tail h1 (Upd.tail h2 (Upd.head fun q hq => ?_))
    refine h3 q.1 ?_
    rw [← blAdr (bits := bits) (wanted := wanted) (r := r)]
    exact List.mem_map_of_mem hq
  have hlen : (refsOf x.bs).toArray.size = tl.length + 1 := by rw [hbs]; simp [refsOf]
  refine kl_popAt (k := 0) (p := []) (q := refsOf tl) (y := .ref b0.x) F N (by decide) ?_ ?_ hU ?_ fun h' F' N' => h h' F' (subN N' fun q hq => ?_)
  · rw [hlen]; unfold seqIndex?; simp
  · rw [hbs]; rfl
  · rw [sizeLine_eq, List.length_map]; omega
  · have h8 : ∀ q ∈ blObjs bits wanted r tl, q ∈ blObjs bits wanted r x.bs := fun q hq => by rw [hbs]; exact List.mem_append_right _ hq
    simp only [OR.objsR, List.mem_cons, List.nil_append] at hq ⊢
    grind
/-- the row that a push leaves, but for the new one -/
def keptR (lim : Int) (bs : List BR) : List BR := if lim ≤ bs.length then bs.tail else bs
theorem OR.Sep.pop {o d l : Addr} {z z' : DE} {n k n' k' : Nat} {b0 : BR} {tl : List BR} (h : OR.Sep ⟨o, d, l, z, n, k, b0 :: tl⟩) : OR.Sep ⟨o, d, l, z', n', k', tl⟩ := by
  unfold OR.Sep OR.adr at h ⊢
  refine h.sublist ?_
  refine List.Sublist.cons_cons _ (List.Sublist.cons_cons _ (List.Sublist.cons_cons _ ?_))
  rw [List.flatMap_cons]
  exact List.sublist_append_right _ _
end
section
theorem nsAt {h g : Heap} {a : Addr} {m : Str → Option Value} (n : h.Ns a m) (k : ∀ o, h.get? a = some o → g.get? a = some o) : g.Ns a m := let ⟨o, es, ep, e, r⟩ := n; ⟨o, es, ep, k o e, r⟩
/-- the law's ground with the code table taken into the ledger -/
theorem hide405 {w : World} {h h₁ : Heap} {L : Addr} {m mg mb : Str → Option Value} {cells : List (Addr × Obj)} {p : Program} {loose : List Str}
    (F : Fr h L h₁ m) (N : News h L h₁ cells) (X : (Mine.hd.heap_39 w.params).In h) (T : TopRead p loose mg mb h) (M : BM mg h) (hT : h.get? 405 = some (tabObj #[])) :
    ∃ g, Fr g L h₁ m ∧ News g L h₁ ((405, tabObj #[]) :: cells) ∧ (Mine.hd.heap_39 w.params).In g ∧ TopRead p loose mg mb g ∧ BM mg g ∧
      (∀ b o, g.get? b = some o → h.get? b = some o) ∧ ∀ b o, h.get? b = some o → b ≠ 405 → g.get? b = some o := by
  have of : ∀ b o, (hideAll h [405]).get? b = some o → h.get? b = some o := fun b o e => of_hideAll _ e
  have to : ∀ b o, h.get? b = some o → b ≠ 405 → (hideAll h [405]).get? b = some o := fun b o e n => hideAll_get _ e (fun z => n (List.mem_singleton.mp z))
  have hK : (Mine.hd.heap_39 w.params).lookup 405 = none := by kernel_rfl
  refine ⟨hideAll h [405], ⟨F.ns, fun b o e => F.keep b o (of b o e), by rw [hideAll_size]; exact F.above⟩, ?_, ?_, ?_, ?_, of, to⟩
  · intro q hq
    rcases List.mem_cons.mp hq with rfl | hq
    · exact ⟨F.keep _ _ hT, Nat.ne_of_lt (Nat.lt_of_lt_of_le (Heap.lt_size hT) F.above), hideAll_none _ (.head _)⟩
    · refine ⟨(N q hq).1, (N q hq).2.1, ?_⟩
      cases e : (hideAll h [405]).get? q.1 with
      | none => rfl
      | some o => have h9 := of _ _ e; rw [(N q hq).2.2] at h9; cases h9
  · intro a o e
    refine to a o (X a o e) fun z => ?_
    rw [z, hK] at e
    cases e
  · refine ⟨nsAt T.g fun o e => to _ _ e (by decide), nsAt T.b fun o e => to _ _ e (by decide), ?_, T.builtins, T.free⟩
    obtain ⟨mc, n, e⟩ := T.nolimit
    exact ⟨mc, nsAt n fun o e => to _ _ e (by decide), e⟩
  · obtain ⟨bm, ob, x⟩ := M
    refine ⟨bm, ob, ⟨nsAt x.ns fun o e => to _ _ e (by decide), x.name, x.ne, to _ _ x.obj fun z => ?_, x.cls, x.dict, x.data⟩⟩
    have h9 := x.obj
    rw [z, hT] at h9
    have h8 := x.cls
    rw [← Option.some.inj h9] at h8
    cases h8
/-- at the end all stands as it stood, the table grown -/
theorem old405 {w : World} {h g h' : Heap} {L : Addr} {m : Str → Option Value} {news : List (Addr × Obj)} {ps : Array Value} (X : (Mine.hd.heap_39 w.params).In h) (hT : h.get? 405 = some (tabObj #[]))
    (to : ∀ b o, h.get? b = some o → b ≠ 405 → g.get? b = some o) (F : Fr g L h' m) (N : News g L h' ((405, tabObj ps) :: news)) : OldK h h' := by
  have hP := (N _ (.head _)).1
  dsimp only at hP
  obtain ⟨o9, vs9, file, tf, flags, tg, inF, text, tt, c1, c2, c3, c4, -⟩ := codeHd409 X
  have hc : isCodeTable h 405 := Heap.TableAt.isCodeTable (c := 409) (ps := #[]) ⟨⟨o9, vs9, c1, c2, c3, c4⟩, hT⟩
  refine ⟨fun b o e => ?_, fun b o e => ?_⟩
  · by_cases hb : b = 405
    · subst hb
      have e2 : o = tabObj #[] := Option.some.inj (e.symm.trans hT)
      subst e2
      refine .inr (.inl ⟨hc, rfl, #[], ps, rfl, ?_⟩)
      rw [hP]
      simp
    · exact .inl (F.keep b o (to b o e hb))
  · by_cases hb : b = 405
    · exact ⟨_, hb ▸ hP⟩
    · exact ⟨o, F.keep b o (to b o e hb)⟩
end
section
theorem orNat (a b : Nat) : Builtin.bitOr (a : Int) (b : Int) = ((a ||| b : Nat) : Int) := by
  have h1 : Builtin.bitNot (Builtin.bitNot (a : Int)) = a := by simp only [Builtin.bitNot]; omega
  have h2 : Builtin.bitNot (Builtin.bitNot (b : Int)) = b := by simp only [Builtin.bitNot]; omega
  have n1 : ¬ (0 ≤ Builtin.bitNot (a : Int)) := by simp only [Builtin.bitNot]; omega
  have n2 : ¬ (0 ≤ Builtin.bitNot (b : Int)) := by simp only [Builtin.bitNot]; omega
  unfold Builtin.bitOr
  rw [bitAnd_nn n1 n2, h1, h2]
  simp only [Int.toNat_natCast, Builtin.bitNot]
  omega
theorem andNat (a b : Nat) : Builtin.bitAnd (a : Int) (b : Int) = ((a &&& b : Nat) : Int) := by
  rw [bitAnd_pp (by omega) (by omega)]
  simp
/-- bit k of an octet -/
theorem bitTest (v k : Nat) : (!(Builtin.bitAnd (v : Int) ((2 ^ k : Nat) : Int) == 0)) = v.testBit k := by
  rw [andNat]
  cases e : v.testBit k with
  | false =>
    have h : v &&& 2 ^ k = 0 := Nat.eq_of_testBit_eq fun i => by
      rw [Nat.testBit_and, Nat.testBit_two_pow, Nat.zero_testBit]
      by_cases hi : k = i
      · subst hi; simp [e]
      · simp [hi]
    rw [h]
    rfl
  | true =>
    have h : v &&& 2 ^ k ≠ 0 := fun h => by
      have h2 := congrArg (fun n => n.testBit k) h
      simp [Nat.testBit_and, Nat.testBit_two_pow, e] at h2
    simp [h]
theorem pow8Nat (x : Int) : pow8 x = ((2 ^ (x.fmod 8).toNat : Nat) : Int) := by
  unfold pow8
  push_cast
  rfl
def Octets (oct : List Int) : Prop := ∀ v ∈ oct, 0 ≤ v ∧ v < 256
theorem octGet {oct : List Int} (h : Octets oct) (i : Nat) : ∃ v : Nat, oct.getD i 0 = (v : Int) ∧ v < 256 := by
  rw [List.getD_eq_getElem?_getD]
  cases e : oct[i]? with
  | none => exact ⟨0, rfl, by decide⟩
  | some v =>
    obtain ⟨h1, h2⟩ := h v (List.mem_of_getElem? e)
    exact ⟨v.toNat, by simp; omega, by omega⟩
theorem setBit_octets {oct : List Int} (h : Octets oct) (k : Int) : Octets (setBit oct k) := by
  intro v hv
  unfold setBit at hv
  rcases List.mem_or_eq_of_mem_set hv with hv | rfl
  · exact h v hv
  · obtain ⟨u, e, hu⟩ := octGet h (k.fdiv 8).toNat
    rw [e, pow8Nat, orNat]
    have h8 := fmod8 k
    have : u ||| 2 ^ (k.fmod 8).toNat < 2 ^ 8 := Nat.or_lt_two_pow (by omega) (Nat.pow_lt_pow_right (by decide) (by omega))
    omega
theorem setAll_octets {bits : Int} : ∀ (hs oct : List Int), Octets oct → Octets (setAll bits oct hs)
  | [], _, h => h
  | _ :: r, _, h => setAll_octets r _ (setBit_octets h _)
theorem bitAt_eq {oct : List Int} {j : Int} {v : Nat} (e : oct.getD (j.fdiv 8).toNat 0 = (v : Int)) : bitAt oct j = v.testBit (j.fmod 8).toNat := by
  unfold bitAt
  rw [e, pow8Nat, bitTest]
/-- a set place, asked -/
theorem bitAt_setBit {oct : List Int} (h : Octets oct) {k j : Int} (hk : 0 ≤ k) (hj : 0 ≤ j) (hlen : (k.fdiv 8).toNat < oct.length) : bitAt (setBit oct k) j = (decide (j = k) || bitAt oct j) := by
  have d1 : k.fdiv 8 = k / 8 := Int.fdiv_eq_ediv_of_nonneg _ (by omega)
  have d2 : j.fdiv 8 = j / 8 := Int.fdiv_eq_ediv_of_nonneg _ (by omega)
  have m1 : k.fmod 8 = k % 8 := Int.fmod_eq_emod_of_nonneg _ (by omega)
  have m2 : j.fmod 8 = j % 8 := Int.fmod_eq_emod_of_nonneg _ (by omega)
  obtain ⟨u, eu, -⟩ := octGet h (k.fdiv 8).toNat
  by_cases hd : (j.fdiv 8).toNat = (k.fdiv 8).toNat
  · have e1 : (setBit oct k).getD (j.fdiv 8).toNat 0 = ((u ||| 2 ^ (k.fmod 8).toNat : Nat) : Int) := by
      unfold setBit
      rw [hd, List.getD_eq_getElem?_getD, List.getElem?_set_self hlen, eu, pow8Nat, orNat]
      rfl
    have e2 : oct.getD (j.fdiv 8).toNat 0 = (u : Int) := by rw [hd, eu]
    rw [bitAt_eq e1, bitAt_eq e2, Nat.testBit_or, Nat.testBit_two_pow, Bool.or_comm]
    congr 1
    rw [d1, d2] at hd
    rw [m1, m2]
    exact decide_eq_decide.mpr ⟨fun e => by omega, fun e => by subst e; rfl⟩
  · obtain ⟨v, ev, -⟩ := octGet h (j.fdiv 8).toNat
    have e1 : (setBit oct k).getD (j.fdiv 8).toNat 0 = (v : Int) := by
      unfold setBit
      rw [List.getD_eq_getElem?_getD, List.getElem?_set_ne (fun e => hd e.symm), ← List.getD_eq_getElem?_getD, ev]
    rw [bitAt_eq e1, bitAt_eq ev]
    have : j ≠ k := fun e => hd (by rw [e])
    simp [this]
theorem bitAt_setAll {bits : Int} (hb : 4 ≤ bits) {j : Int} (hj : 0 ≤ j) : ∀ (hs oct : List Int), Octets oct → (oct.length : Int) = -(-bits).fdiv 8 →
    bitAt (setAll bits oct hs) j = (bitAt oct j || hs.any fun h => decide (j = h.fmod bits))
  | [], oct, _, _ => by simp [setAll]
  | h :: r, oct, ho, hl => by
    have hi := idxBits hb hl h
    have hf := fmodBits hb h
    have e := bitAt_setAll hb hj r (setBit oct (h.fmod bits)) (setBit_octets ho _) (by rw [setBit_length]; exact hl)
    show bitAt (setAll bits (setBit oct (h.fmod bits)) r) j = _
    rw [e, bitAt_setBit ho hf.1 hj (by omega), List.any_cons]
    cases decide (j = h.fmod bits) <;> cases bitAt oct j <;> rfl
/-- the law's row and the program's octets say the same -/
def Same (bits : Int) (oct row : List Int) : Prop := ∀ j : Int, 0 ≤ j → j < bits → bitAt oct j = (row.getD j.toNat 0 == 1)
/-- the row that the law makes of a row and places -/
def rowSet (bits : Int) (row ps : List Int) : List Int := (List.range bits.toNat).map fun (i : Nat) => if ps.any (fun p => decide ((i : Int) = p)) then 1 else row.getD i 0
theorem rowSet_length (bits : Int) (row ps : List Int) : (rowSet bits row ps).length = bits.toNat := by simp [rowSet]
theorem rowSet_two {bits : Int} {row ps : List Int} (h : ∀ v ∈ row, v = 0 ∨ v = 1) : ∀ v ∈ rowSet bits row ps, v = 0 ∨ v = 1 := by
  intro v hv
  obtain ⟨i, -, rfl⟩ := List.mem_map.mp hv
  split
  · exact .inr rfl
  · rw [List.getD_eq_getElem?_getD]
    cases e : row[i]? with
    | none => exact .inl rfl
    | some u => exact h u (List.mem_of_getElem? e)
theorem Same.set {bits : Int} (hb : 4 ≤ bits) {oct row hs : List Int} (ho : Octets oct) (hl : (oct.length : Int) = -(-bits).fdiv 8) (h : Same bits oct row) : Same bits (setAll bits oct hs) (rowSet bits row (hs.map fun x => x.fmod bits)) := by
  intro j h0 h1
  rw [bitAt_setAll hb h0 hs oct ho hl, h j h0 h1]
  have e : (rowSet bits row (hs.map fun x => x.fmod bits)).getD j.toNat 0 = if hs.any (fun h => decide (j = h.fmod bits)) then 1 else row.getD j.toNat 0 := by
    unfold rowSet
    rw [List.getD_eq_getElem?_getD, List.getElem?_map, List.getElem?_range (by omega)]
    simp only [Option.map_some, Option.getD_some, List.any_map, Function.comp_def]
    rw [show ((j.toNat : Nat) : Int) = j by omega]
  rw [e]
  cases hs.any (fun h => decide (j = h.fmod bits)) <;> simp
theorem Same.hit {bits : Int} (hb : 4 ≤ bits) {oct row : List Int} (h : Same bits oct row) (hs : List Int) : hit bits hs oct = allIn row (hs.map fun x => x.fmod bits) := by
  unfold Mine.hit allIn
  rw [List.all_map]
  refine congrArg (fun f => hs.all f) (funext fun x => ?_)
  have hf := fmodBits hb x
  exact h _ hf.1 hf.2
theorem Same.fresh {bits : Int} (n : Nat) : Same bits (List.replicate n 0) (List.replicate bits.toNat 0) := by
  intro j _ _
  have e0 : ∀ (n i : Nat), (List.replicate n (0 : Int)).getD i 0 = ((0 : Nat) : Int) := fun n i => by
    rw [List.getD_eq_getElem?_getD, List.getElem?_replicate]
    split <;> rfl
  rw [bitAt_eq (e0 _ _), e0]
  simp
/-- the rounds that the law counts are the program's -/
theorem roundsTab : ∀ b : Fin 20, ∀ w : Fin 5, ∀ k : Fin 15, decide ((2 * (k.val : Int) + 1) * (w.val : Int) * 1000000000000000 ≤ 2 * (b.val : Int) * 693147180559945) = decide ((2 * (k.val : Int) + 1) * (w.val : Int) * 10000000000000000 ≤ 13862943611198906 * (b.val : Int)) := by decide +kernel
theorem enough_eq {bits wanted k : Int} (hb : 0 ≤ bits) (hb' : bits ≤ 19) (hw : 0 ≤ wanted) (hw' : wanted ≤ 4) (hk : 0 ≤ k) (hk' : k ≤ 14) : enough bits wanted k = decide ((2 * k + 1) * wanted * 10000000000000000 ≤ 13862943611198906 * bits) := by
  have h := roundsTab ⟨bits.toNat, by omega⟩ ⟨wanted.toNat, by omega⟩ ⟨k.toNat, by omega⟩
  dsimp only at h
  rw [Int.toNat_of_nonneg hb, Int.toNat_of_nonneg hw, Int.toNat_of_nonneg hk] at h
  exact h
theorem rounds_ok {bits wanted r : Int} (hb : 4 ≤ bits) (hb' : bits ≤ 19) (hw : 1 ≤ wanted) (hw' : wanted ≤ 4) (h0 : 0 ≤ r) (h13 : r ≤ 13) (hn : enough bits wanted r = false) (hy : ∀ j, 0 ≤ j → j < r → enough bits wanted j = true) :
    1 ≤ r ∧ ((13862943611198906 * bits).fdiv wanted + 10000000000000000).fdiv (2 * 10000000000000000) = r := by
  have h1 : 1 ≤ r := by
    refine Decidable.byContradiction fun h => ?_
    have : r = 0 := by omega
    subst this
    unfold enough at hn
    have := of_decide_eq_false hn
    omega
  refine ⟨h1, ?_⟩
  have hy' := hy (r - 1) (by omega) (by omega)
  rw [enough_eq (by omega) (by omega) (by omega) (by omega) (by omega) (by omega)] at hn hy'
  have hn := of_decide_eq_false hn
  have hy' := of_decide_eq_true hy'
  rw [Int.fdiv_eq_ediv_of_nonneg _ (by omega), Int.fdiv_eq_ediv_of_nonneg _ (by omega)]
  have hc : wanted = 1 ∨ wanted = 2 ∨ wanted = 3 ∨ wanted = 4 := by omega
  rcases hc with rfl | rfl | rfl | rfl <;> omega
end
section
/-- a filter and the law's row of it -/
structure Pair (bits wanted : Int) (b : BR) (c : CR) : Prop where
  ok : b.Ok bits
  rok : c.Ok bits.toNat
  same : Same bits b.oct c.row
  cnt : b.cnt = c.cnt
  lo : 0 ≤ b.cnt
  hi : b.cnt ≤ wanted
inductive Pairs (bits wanted : Int) : List BR → List CR → Prop
  | nil : Pairs bits wanted [] []
  | cons {b c bs cs} : Pair bits wanted b c → Pairs bits wanted bs cs → Pairs bits wanted (b :: bs) (c :: cs)
variable {bits wanted : Int}
theorem Pairs.length {bs : List BR} {cs : List CR} (h : Pairs bits wanted bs cs) : bs.length = cs.length := by
  induction h with
  | nil => rfl
  | cons _ _ ih => simp only [List.length_cons, ih]
theorem Pairs.okB {bs : List BR} {cs : List CR} (h : Pairs bits wanted bs cs) : ∀ b ∈ bs, b.Ok bits := by
  induction h with
  | nil => exact fun _ h => nomatch h
  | cons p _ ih => exact List.forall_mem_cons.mpr ⟨p.ok, ih⟩
theorem Pairs.okC {bs : List BR} {cs : List CR} (h : Pairs bits wanted bs cs) : ∀ c ∈ cs, c.Ok bits.toNat := by
  induction h with
  | nil => exact fun _ h => nomatch h
  | cons p _ ih => exact List.forall_mem_cons.mpr ⟨p.rok, ih⟩
theorem Pairs.any (hb : 4 ≤ bits) {bs : List BR} {cs : List CR} (h : Pairs bits wanted bs cs) (hs : List Int) : (bs.any fun b => hit bits hs b.oct) = cs.any fun c => allIn c.row (hs.map fun x => x.fmod bits) := by
  induction h with
  | nil => rfl
  | cons p _ ih => rw [List.any_cons, List.any_cons, ih, p.same.hit hb]
theorem Pairs.append {a b : List BR} {c d : List CR} (h : Pairs bits wanted a c) (h' : Pairs bits wanted b d) : Pairs bits wanted (a ++ b) (c ++ d) := by
  induction h with
  | nil => exact h'
  | cons p _ ih => exact .cons p ih
theorem Pairs.one {b : BR} {c : CR} (p : Pair bits wanted b c) : Pairs bits wanted [b] [c] := .cons p .nil
theorem Pairs.tail {bs : List BR} {cs : List CR} (h : Pairs bits wanted bs cs) : Pairs bits wanted bs.tail cs.tail := by
  cases h with
  | nil => exact .nil
  | cons _ h => exact h
theorem Pairs.last {ctl : List CR} {cl : CR} : ∀ {bs : List BR}, Pairs bits wanted bs (ctl ++ [cl]) → ∃ tl bl, bs = tl ++ [bl] ∧ Pairs bits wanted tl ctl ∧ Pair bits wanted bl cl := by
  induction ctl with
  | nil =>
    intro bs h
    cases h with
    | cons p h => cases h with
      | nil => exact ⟨[], _, rfl, .nil, p⟩
  | cons c r ih =>
    intro bs h
    cases h with
    | cons p h =>
      obtain ⟨tl, bl, rfl, h1, h2⟩ := ih h
      exact ⟨_ :: tl, bl, rfl, .cons p h1, h2⟩
/-- a fresh filter and a fresh row -/
theorem Pair.fresh (hb : 4 ≤ bits) (hw : 1 ≤ wanted) {b : BR} {c : CR} (h0 : b.cnt = 0) (h1 : IntsAre b.its b.oct) (h2 : b.oct = List.replicate (-(-bits).fdiv 8).toNat 0) (h3 : c.cnt = 0) (h4 : IntsAre c.its (List.replicate bits.toNat 0)) (h5 : c.row = List.replicate bits.toNat 0) : Pair bits wanted b c where
  ok := freshOk (by omega) h1 h2
  rok := ⟨h5 ▸ h4, by rw [h5, List.length_replicate], fun v hv => by rw [h5] at hv; exact .inl (List.mem_replicate.mp hv).2⟩
  same := by rw [h2, h5]; exact Same.fresh _
  cnt := by rw [h0, h3]
  lo := by omega
  hi := by omega
/-- an add on both sides -/
theorem Pair.add (hb : 4 ≤ bits) {b b' : BR} {c c' : CR} {hs : List Int} (p : Pair bits wanted b c) (hlt : b.cnt < wanted) (h1 : IntsAre b'.its b'.oct) (h2 : b'.oct = setAll bits b.oct hs) (h3 : b'.cnt = b.cnt + 1)
    (h4 : IntsAre c'.its c'.row) (h5 : c'.row = rowSet bits c.row (hs.map fun x => x.fmod bits)) (h6 : c'.cnt = c.cnt + 1) : Pair bits wanted b' c' where
  ok := ⟨h1, by rw [h2, setAll_length]; exact p.ok.len, h2 ▸ setAll_octets hs b.oct p.ok.two⟩
  rok := ⟨h4, by rw [h5, rowSet_length], h5 ▸ rowSet_two p.rok.two⟩
  same := by rw [h2, h5]; exact p.same.set hb p.ok.two p.ok.len
  cnt := by rw [h3, h6, p.cnt]
  lo := by have := p.lo; omega
  hi := by omega
theorem longer_kept {lim : Int} (h : 1 ≤ lim) {α : Type} (l : List α) : longer lim l = if lim ≤ l.length then l.tail else l := by
  unfold longer
  by_cases h2 : lim ≤ l.length
  · rw [if_pos ⟨by omega, h2⟩, if_pos h2, List.drop_one]
  · rw [if_neg (fun z => h2 z.2), if_neg h2]
theorem longer_zero {α : Type} (l : List α) : longer 0 l = l := if_neg fun z => by omega
theorem Pairs.kept {lim : Int} (hl : 1 ≤ lim) {bs : List BR} {cs : List CR} (h : Pairs bits wanted bs cs) : Pairs bits wanted (keptR lim bs) (longer lim cs) := by
  rw [longer_kept hl, keptR, h.length]
  split
  · exact h.tail
  · exact h
end
end Mine
end
section
open PySem PySem.W PyProof.Rows PySem.Calls
namespace Mine
local macro_rules | `(tactic| walk_at "LeaveR") => `(tactic| (refine' leaveR_ ?kF ?kN ?_; (case kF => k_asm); (case kN => k_asm); intro zF zN zA; (try dsimp only)))
local macro_rules | `(tactic| walk_at "eval Name") => `(tactic| (k_here; (with_reducible show wpAny _ _ (eval (Expr.Name _ _) (compEnvC _ _ _ _)) _ _ _); k_dflt (first
  | refine inBlock_global (by k_asm) (by k_asm) (by k_asm) (by k_is) ?_
  | refine inBlock_built (by k_asm) (by k_asm) (by k_asm) (by k_is) (by boot_by_name) (by decide) ?_)))
local macro_rules | `(tactic| walk_at "binaryOp Add") => `(tactic| (k_here; (with_reducible show wpAny _ _ (binaryOp _ (Value.ref _) (Value.ref _)) _ _ _); (with_reducible rename News _ _ _ _ => kN); simp only [slice1] at kN))
local macro_rules | `(tactic| walk_at "binaryOp Add ref ref") => `(tactic| (k_here; (with_reducible show wpAny _ _ (binaryOp _ (Value.ref _) (Value.ref _)) _ _ _); k_dflt (refine' addN ?F ?N ?a ?b ?z ?_; (case F => k_asm); (case N => k_asm); (case a => k_mem); (case b => k_mem); (case z => first | omega | (simp only [List.length_append, List.length_drop, List.length_cons, List.length_nil]; omega)); k_whole); intro D' h' F' N' l1; (try k_lt l1); (try k_sweep)))
local macro_rules | `(tactic| walk_at "my subset") => `(tactic| first | exact List.forall_mem_nil _ | (refine' List.forall_mem_cons.mpr ⟨?za, ?zb⟩; (case za => k_mem); (case zb => walk_at "my subset")) | (intro q9 hq9; walk_at "my tail"))
local macro_rules | `(tactic| walk_at "my tail") => `(tactic| first | assumption | (refine' List.Mem.tail _ ?_; walk_at "my tail"))
local macro_rules | `(tactic| walk_at "assign Tuple") => `(tactic| (k_here; (with_reducible show wpAny _ _ (assign (Expr.Tuple _ _ _) _ (Value.ref _)) _ _ _); k_dflt (refine' unpackN_ ?F ?N ⟨_, News.get ?N2 ?m, rfl, _, rfl⟩ rfl rfl rfl ?_; (case F => k_asm); (case N => k_asm); (case N2 => k_asm); (case m => k_mem); k_whole); intro h' F' N'; (try dsimp only); (try k_sweep)))
local macro_rules | `(tactic| k_mem) => `(tactic| ((with_reducible show List.Mem _ (List.flatMap _ _)); refine memOf ?_; assumption))
local macro_rules | `(tactic| k_all) => `(tactic| ((with_reducible show ∀ q ∈ List.flatMap _ _, _); refine' flatNe ?h ?z; (case h => assumption); (case z => (try dsimp only); omega)))
local macro_rules | `(tactic| walk_at "my bound") => do
  let a := Lean.mkIdent `hq0
  let b := Lean.mkIdent `hq1
  let c := Lean.mkIdent `hz0
  let d := Lean.mkIdent `hz1
  let e := Lean.mkIdent `hq2
  `(tactic| first | with_reducible assumption | exact $a _ | exact $b _ | exact $e _ | exact $c _ (by assumption) | exact $d _ (by assumption) | omega)
local macro_rules | `(tactic| walk_at "subscriptTail") => `(tactic| (k_here; (with_reducible show wpAny _ _ (subscriptTail _ _ (Value.ref _) (Value.int _ _)) _ _ _); k_dflt (refine' itemInts ?N ?m ?i ?z ?y ?x ?_ ?s ?g; (case s => with_unfolding_all rfl); (case g => intro _; with_unfolding_all rfl); (case N => k_asm); (case m => k_mem); (case i => assumption); (case z => walk_at "my bound"); (case y => walk_at "my bound"); (case x => (try simp only [List.length_map, List.length_range]); omega); k_whole); intro t'))
local macro_rules | `(tactic| k_enter) => `(tactic| (refine' inlineT ?k1 ?k2 ?k3 ?k4 ?k5 ?kA ?kF ?kK ?k6 ?k7 ?k8 ?k9 ?kB ?_ ?c2 ?c3 ?c4 ?c5; (case kA => exact rfl); (case kF => exact rfl); (case kK => first | exact rfl | assumption); (case k1 => k_asm); (case k2 => k_asm); (case k3 => k_asm); (case k4 => k_asm); (case k5 => k_asm); (case k6 => k_is); (case k7 => k_is); (case k8 => ktr_room); (case k9 => first | exact BindsTo.of_eq rfl | exact binds_K (by k_in) rfl (by k_is) rfl rfl rfl); (case c5 => decide); (case kB => exact locs rfl); (case c2 => exact rfl); (case c3 => exact rfl); (case c4 => exact rfl); k_whole; intro g' L' h' FG' F' N' B' X' T' l1; (try k_lt l1); (try dsimp only); (try k_lift B'); (try k_fold)))
local macro_rules | `(tactic| walk_at "my step") => `(tactic| first | (k_unfold; (try dsimp only)) | (k_end; wrow_close) | walk1 | (dsimp only; walk1) | (leave1; walk_say "STEP leave1"; try dsimp only))
local macro_rules | `(tactic| walk_at "ite") => `(tactic| (k_here; first | (refine PySem.W.ite_neg (by (try simp only [decide_eq_true_eq, beq_iff_eq, bne_iff_ne, ne_eq, Bool.not_eq_true', decide_eq_false_iff_not]); omega) ?_) | (refine PySem.W.ite_pos (by (try simp only [decide_eq_true_eq, beq_iff_eq, bne_iff_ne, ne_eq, Bool.not_eq_true', decide_eq_false_iff_not]); omega) ?_)))
local macro_rules | `(tactic| walk_at "binaryOp LShift int int") => `(tactic| (k_here; k_dflt (refine shift1 ?_)))
local macro_rules | `(tactic| walk_at "setItem ref int") => `(tactic| (k_here; (with_reducible show wpAny _ _ (setItem (Value.ref _) (Value.int _ _) (Value.int _ _)) _ _ _); k_dflt (refine' ksa_set ?k1 ?k2 ?k3 ?k4 ?k5 ?k6 ?k7 ?_; (case k1 => k_asm); (case k2 => k_asm); (case k3 => k_upd); (case k4 => with_reducible assumption); (case k5 => walk_at "my bound"); (case k6 => walk_at "my bound"); (case k7 => walk_at "my bound"); k_whole); intro h' F' N' hi' hl' hsum'))
local macro_rules | `(tactic| walk_at "my put") => `(tactic| first | exact PutL.head | (refine' PutL.tail ?za ?zb; (case za => rfl); (case zb => walk_at "my put")))
local macro_rules | `(tactic| walk_at "setAttr ref") => `(tactic| (k_here; k_dflt (refine' set_dict ?k1 ?k2 ?k3 ?k4 ?k5 ?k6 ?k7 ?k8 ?k9 ?k10 ?k11 ?k12 ?k13 ?_; (case k1 => k_asm); (case k2 => k_asm); (case k3 => k_asm); (case k4 => k_inst); (case k5 => exact rfl); (case k6 => k_is); (case k7 => k_is); (case k8 => k_is); (case k9 => k_is); (case k10 => k_get); (case k11 => (refine' PutL.eq ?zp _ _ _; (case zp => walk_at "my put"))); (case k12 => k_upd); (case k13 => exact Nat.le_of_ble_eq_true rfl); k_whole; intro h' F' N'; (try k_sweep))))
local macro_rules | `(tactic| walk_at "getAttr ref") => `(tactic| (k_here; k_dflt (refine' get_own ?k1 ?k2 ?k3 ?k4 ?k5 ?k6 ?k7 ?k8 ?k9 ?_; (case k1 => k_asm); (case k2 => k_asm); (case k3 => k_inst); (case k4 => k_is); (case k5 => k_is); (case k6 => k_is); (case k7 => k_is); (case k8 => k_get); (case k9 => k_handed); k_whole)))
local macro_rules | `(tactic| walk_at "getMethod ref") => `(tactic| (k_here; k_dflt (refine' method_inst ?k1 ?k2 ?k3 ?k4 ?k5 ?k6 ?k7 ?_; (case k1 => k_asm); (case k2 => k_asm); (case k3 => k_inst); (case k4 => k_is); (case k5 => k_is); (case k6 => k_is); (case k7 => k_get); k_whole)))
local macro_rules | `(tactic| walk_at "getMethod ref") => `(tactic| (k_here; (with_reducible show wpAny _ _ (getMethod (Value.ref _) (Str.ofString "_hash_func") _) _ _ _); k_dflt (refine' kmu_own ?k1 ?k2 ?k3 ?k4 ?k5 ?_; (case k1 => k_asm); (case k2 => k_asm); (case k3 => k_inst); (case k4 => k_is); (case k5 => k_is); k_whole)))
local macro_rules | `(tactic| walk_at "getMethod ref") => `(tactic| (k_here; (with_reducible show wpAny _ _ (getMethod (Value.ref _) (Str.ofString "_get_optimized_params") _) _ _ _); k_dflt (refine' kmu_cm ?k1 ?k2 ?k3 ?k4 ?k5 ?k6 ?k7 ?k8 ?k9 ?k10 ?k11 ?k12 ?k13 ?_; (case k1 => k_asm); (case k2 => k_asm); (case k3 => k_asm); (case k4 => k_inst); (case k5 => k_is); (case k6 => k_is); (case k7 => k_is); (case k8 => k_is); (case k9 => k_is); (case k10 => k_is); (case k11 => decide +kernel); (case k12 => k_get); (case k13 => k_is); k_whole; intro q' h' F' N' l1; (try k_lt l1); (try k_sweep))))
local macro_rules | `(tactic| walk_at "call builtin:len") => `(tactic| (k_here; (with_reducible show wpAny _ _ (call (Value.builtin _) [Value.ref _]) _ _ _); k_dflt (refine' lenN ?N ?m ?f ?_; (case N => k_asm); (case m => k_mem); (case f => first | assumption | omega | (simp only [List.length_append, List.length_cons, List.length_nil]; omega)); k_whole)))
section
set_option maxHeartbeats 8000000 in
theorem c_newM (w : World) (bits wanted r lim tot : Int) (hb : 4 ≤ bits) (hb' : bits ≤ 19) (hw : 1 ≤ wanted) (hw' : wanted ≤ 4) (hr : ((13862943611198906 * bits).fdiv wanted + 10000000000000000).fdiv (2 * 10000000000000000) = r) (hr1 : 1 ≤ r) (hr2 : r ≤ 13) (x : OR) (hn : x.bs.length ≤ 60) (hsep : x.Sep) :
    Con w 12 433 [.ref x.o] [] (x.objsM bits wanted r lim tot)
      (fun v objs' => ∃ (b : BR) (x' : OR), v = .none ∧ b.cnt = 0 ∧ IntsAre b.its b.oct ∧ b.oct = List.replicate (-(-bits).fdiv 8).toNat 0 ∧ x'.o = x.o ∧ x'.d = x.d ∧ x'.l = x.l ∧ x'.bs = x.bs ++ [b] ∧ objs' = x'.objsM bits wanted r lim tot ∧ x'.Sep) := by
  unfold Con
  w_on
  k_fill
  intro dp un gd cn cs a ccd cl outer A₀ base h₀ L m rest p loose mg mb s Q E B F X N T M hk hap hdp hun hbare hret
  w_top on
  refine wpAny_call ?_
  refine' enterR B F X N T ?kA ?kF ?kK hap ?k6 ?k7 ?k8 ?k9 ?kB ?_ ?c2 ?c3 ?c4 ?c5
  case kA => exact rfl
  case kF => exact rfl
  case kK => assumption
  case k6 => k_is
  case k7 => k_is
  case k8 => ktr_room
  case k9 => first | exact BindsTo.of_eq rfl | exact binds_K (X.keeps F.keep) rfl (by k_is) rfl rfl rfl
  case c5 => decide
  case kB => exact locs rfl
  case c2 => exact rfl
  case c3 => exact rfl
  case c4 => exact rfl
  intro g' L' h' F' N' B' X' T' hr' hlt' FG'
  have M' := M.keeps FG'.keep
  clear B F X N T FG' M
  try dsimp only
  try k_fold
  iterate 19 (try walk_at "my step")
  with_reducible rename Fr _ _ _ _ => F1
  with_reducible rename News _ _ _ _ => N1
  have C := c_bloom w bits wanted x.z.v2 x.z.v1 hb hb' hw hw' r hr hr1 hr2
  k_dflt (refine useCon0 C rfl B' F1 X' N1 T' M' rfl (by ktr_room) (by ktr_units) hbare ?_)
  rintro v objs' s' hos1 hb1 F2 N2 A2 ⟨b, rfl, rfl, hc, hI, ho⟩
  simp only [List.cons_append, List.nil_append] at N2
  have hb3 := bloomApart (rest := x.objsM bits wanted r lim tot) N2
  obtain ⟨hs1, hs2, hs3⟩ := hsep.lNe
  have hsep' : ∀ (x' : OR), x'.o = x.o → x'.d = x.d → x'.l = x.l → x'.bs = x.bs ++ [b] → x'.Sep := fun x' e1 e2 e3 e4 => hsep.add e1 e2 e3 e4 hb3 fun a9 ha c9 hc e => by
    rw [← adrM (bits := bits) (wanted := wanted) (r := r) (lim := lim) (tot := tot)] at ha
    obtain ⟨q, hq, rfl⟩ := List.mem_map.mp ha
    rcases List.mem_cons.mp hc with rfl | hc
    · exact A2 q hq _ (.head _) e
    rcases List.mem_cons.mp hc with rfl | hc
    · exact A2 q hq _ (.tail _ (.head _)) e
    · exact A2 q hq _ (.tail _ (.tail _ (.head _))) (e.trans (List.mem_singleton.mp hc))
  have hap3 : ∀ q ∈ b.objs bits wanted r ++ (x.o, instObj 520 x.d) :: (x.d, dictOf (eDict bits wanted lim x.z tot x.l) x.n) :: blObjs bits wanted r x.bs, q.1 ≠ x.l := by
    intro q hq e
    rcases List.mem_append.mp hq with hq | hq
    · exact A2 (x.l, listOf (refsOf x.bs).toArray x.k) (.tail _ (.tail _ (.head _))) q hq e.symm
    rcases List.mem_cons.mp hq with rfl | hq
    · exact hs1 e
    rcases List.mem_cons.mp hq with rfl | hq
    · exact hs2 e
    · exact hs3 q.1 (by rw [← blAdr (bits := bits) (wanted := wanted) (r := r)]; exact List.mem_map_of_mem hq) e
  iterate 14 (try walk_at "my step")
  with_reducible rename Fr _ _ _ _ => F3
  with_reducible rename News _ _ _ _ => N3
  have N4 := subN (b := (x.l, listOf (refsOf x.bs).toArray x.k) :: (b.objs bits wanted r ++ (x.o, instObj 520 x.d) :: (x.d, dictOf (eDict bits wanted lim x.z tot x.l) x.n) :: blObjs bits wanted r x.bs)) N3 (fun q hq => by
    simp only [List.mem_cons, List.mem_append, List.not_mem_nil, or_false] at hq ⊢
    grind)
  have harr : (refsOf x.bs).toArray.push (.ref b.x) = (refsOf (x.bs ++ [b])).toArray := by simp [refsOf]
  k_dflt (refine append_head F3 N4 hap3 (fun h9 F5 N5 => ?_) (by rw [sizeLine_eq]; simp [refsOf]; omega))
  rw [harr] at N5
  have N6 := subN (b := OR.objsM bits wanted r lim tot ⟨x.o, x.d, x.l, x.z, x.n, x.k + 1, x.bs ++ [b]⟩) N5 (fun q hq => by
    simp only [OR.objsM, blObjs, List.flatMap_append, List.mem_cons, List.mem_append, List.flatMap_cons, List.flatMap_nil, List.not_mem_nil, or_false] at hq ⊢
    grind)
  clear N5 N4 N3 F3
  dsimp only
  iterate 3 (try walk_at "my step")
  rename_i zF zN zA
  refine hret _ _ _ hos1 hb1 zF (takeN zN ?hs) (takeA zA ?hs) ⟨b, ⟨x.o, x.d, x.l, x.z, x.n, x.k + 1, x.bs ++ [b]⟩, rfl, hc, hI, ho, rfl, rfl, rfl, rfl, rfl, hsep' _ rfl rfl rfl rfl⟩
  case hs => exact fun q hq => hq
end
section
set_option maxHeartbeats 8000000 in
theorem c_rowE (w : World) (bits wanted r : Int) (t1 t2 : Tok) (hb : 4 ≤ bits) (hb' : bits ≤ 19) (hw : 1 ≤ wanted) (hw' : wanted ≤ 4) (hr : ((13862943611198906 * bits).fdiv wanted + 10000000000000000).fdiv (2 * 10000000000000000) = r) (hr1 : 1 ≤ r) (hr2 : r ≤ 13) :
    Con w 16 443 [.int wanted t1, .int bits t2] [(Str.ofString "hash_function", .ref 534)] []
      (fun v objs' => ∃ (b : BR) (x : OR), v = .ref x.o ∧ objs' = x.objsE bits wanted r 0 0 ∧ x.Sep ∧ x.bs = [b] ∧ b.cnt = 0 ∧ IntsAre b.its b.oct ∧ b.oct = List.replicate (-(-bits).fdiv 8).toNat 0) := by
  unfold Con
  w_on
  k_fill
  intro dp un gd cn cs a ccd cl outer A₀ base h₀ L m rest p loose mg mb s Q E B F X N T M hk hap hdp hun hbare hret
  w_top on
  (try simp only [List.nil_append] at N)
  iterate 58 (try walk_at "my step")
  rename_i x' d' h7 F1 N1 l12 l2 g' L' h6 FG' B' X' T' l11 l' h5 l1 h4 tk1 h3 h2 h1 h0 F9 N9
  have M' := M.keeps FG'.keep
  have hz9 := packNewE (r := r) N9
  clear N9
  obtain ⟨z9, hsep, N3⟩ := hz9
  have hapr : ∀ q ∈ rest, ∀ b ∈ OR.objsE bits wanted r 0 0 ⟨x', d', l', z9, 5, 0, []⟩, q.1 ≠ b.1 := by
    intro q hq b hb
    have e1 := l12 q hq
    have e2 := ktn_ltOf l1.2.2 q hq
    have e3 := l2
    simp only [OR.objsE, blObjs, List.flatMap_nil, List.mem_cons, List.not_mem_nil, or_false] at hb
    rcases hb with rfl | rfl | rfl
    · exact Nat.ne_of_lt (Nat.lt_trans e1 e3)
    · exact Nat.ne_of_lt e1
    · exact Nat.ne_of_lt e2
  iterate 1 (try walk_at "my step")
  try dsimp only
  with_reducible rename Fr _ _ _ _ => F3
  with_reducible rename News _ _ _ _ => N3
  have C := c_newE w bits wanted r 0 0 hb hb' hw hw' hr hr1 hr2 ⟨x', d', l', z9, 5, 0, []⟩ (Nat.zero_le _) hsep
  k_dflt (refine useCon C rfl B' F3 X' N3 T' M' rfl rest (fun _ h => List.mem_append_left _ h) (fun _ h => List.mem_append_right _ h) hapr (show dp + 1 + 1 + 12 < recursionLimit by omega) (show un + 1 + 3 + 8 * 12 < cLine by omega) hbare ?_)
  rintro v objs' s2 hos2 hb2 F4 N4 A4 ⟨b, x1, rfl, e1, e2, e3, e4, e5, e6, e7, rfl, e8⟩
  iterate 10 (try walk_at "my step")
  rename_i zF zN zX
  have e4' : x1.o = x' := e4
  subst e4'
  exact hret _ _ _ hos2 hb2 zF zN A4 ⟨b, x1, rfl, rfl, e8, e7, e1, e2, e3⟩
end
section
local macro_rules | `(tactic| walk_at "no such key") => `(tactic| fail)
local macro_rules | `(tactic| walk_at "no such key") => `(tactic| fail)
local macro_rules | `(tactic| walk_at "no such key") => `(tactic| fail)
local macro_rules | `(tactic| walk_at "no such key") => `(tactic| fail)
local macro_rules | `(tactic| walk_at "setAttr ref") => do
  let u := Lean.mkIdent `hUd
  `(tactic| (k_here; k_dflt (refine' set_dict ?k1 ?k2 ?k3 ?k4 ?k5 ?k6 ?k7 ?k8 ?k9 ?k10 ?k11 ?k12 ?k13 ?_; (case k1 => k_asm); (case k2 => k_asm); (case k3 => k_asm); (case k4 => k_inst); (case k5 => exact rfl); (case k6 => k_is); (case k7 => k_is); (case k8 => k_is); (case k9 => k_is); (case k10 => k_get); (case k11 => (refine' PutL.eq ?zp _ _ _; (case zp => walk_at "my put"))); (case k12 => exact $u _ _); (case k13 => exact Nat.le_of_ble_eq_true rfl); k_whole; intro h' F' N'; (try k_sweep))))
set_option maxHeartbeats 8000000 in
theorem c_altE (w : World) (bits wanted r lim tot : Int) (hb : 4 ≤ bits) (hb' : bits ≤ 19) (hw : 1 ≤ wanted) (hw' : wanted ≤ 4) (hr : ((13862943611198906 * bits).fdiv wanted + 10000000000000000).fdiv (2 * 10000000000000000) = r) (hr1 : 1 ≤ r) (hr2 : r ≤ 13) (x : OR) (hn : x.bs.length ≤ 59) (hsep : x.Sep) (tl : List BR) (bl : BR) (hbs : x.bs = tl ++ [bl])
    (hx : ∀ b ∈ x.bs, b.Ok bits) (hc0 : 0 ≤ bl.cnt) (hc1 : bl.cnt ≤ 999) (ps : Array Value) (hps : TriplesOk ps.toList) (hl : Addr) (hits : List Value) (hs : List Int) (nh : Nat) (hi : IntsAre hits hs) (hlen : (hs.length : Int) = r) (hhl : hl ∉ x.adr) (fo : Bool) :
    Con w 18 426 [.ref x.o, .ref hl, .bool fo] [] ((405, tabObj ps) :: (hl, listOf hits.toArray nh) :: x.objsE bits wanted r lim tot)
      (fun v objs' => ∃ (ps' : Array Value) (x' : OR), TriplesOk ps'.toList ∧ v = .none ∧ objs' = (405, tabObj ps') :: (hl, listOf hits.toArray nh) :: x'.objsE bits wanted r lim (tot + 1) ∧ hl ∉ x'.adr ∧
        Added bits wanted hs x x' tl bl x.bs (fo || !(x.bs.any fun b => hit bits hs b.oct))) := by
  unfold Con
  w_on
  k_fill
  intro dp un gd cn cs a ccd cl outer A₀ base h₀ L m rest p loose mg mb s Q E B F X N T M hk hap hdp hun hbare hret
  w_top on
  refine wpAny_call ?_
  refine' enterR B F X N T ?kA ?kF ?kK hap ?k6 ?k7 ?k8 ?k9 ?kB ?_ ?c2 ?c3 ?c4 ?c5
  case kA => exact rfl
  case kF => exact rfl
  case kK => assumption
  case k6 => k_is
  case k7 => k_is
  case k8 => ktr_room
  case k9 => first | exact BindsTo.of_eq rfl | exact binds_K (X.keeps F.keep) rfl (by k_is) rfl rfl rfl
  case c5 => decide
  case kB => exact locs rfl
  case c2 => exact rfl
  case c3 => exact rfl
  case c4 => exact rfl
  intro g' L' h' F' N' B' X' T' hr' hlt' FG'
  have M' := M.keeps FG'.keep
  clear B F X N T FG' M
  try dsimp only
  try k_fold
  have h405 := tabNotE (x := x) (bits := bits) (wanted := wanted) (r := r) (lim := lim) (tot := tot) N' (fun q hq => .tail _ hq)
  have hUd : ∀ o o' : Obj, Upd x.d o o' ((405, tabObj ps) :: (hl, listOf hits.toArray nh) :: (x.o, instObj 443 x.d) :: (x.d, o) :: (x.l, listOf (refsOf x.bs).toArray x.k) :: blObjs bits wanted r x.bs) ((405, tabObj ps) :: (hl, listOf hits.toArray nh) :: (x.o, instObj 443 x.d) :: (x.d, o') :: (x.l, listOf (refsOf x.bs).toArray x.k) :: blObjs bits wanted r x.bs) := updRow hsep hhl h405
  cases fo with
  | true =>
    iterate 13 (try walk_at "my step")
    with_reducible rename News _ _ _ _ => N2
    have hz9 := packE (lim := lim) N2
    clear N2
    obtain ⟨z9, N3⟩ := hz9
    iterate 1 (try walk_at "my step")
    refine PySem.W.ite_pos rfl ?_
    iterate 7 (try walk_at "my step")
    try dsimp only
    with_reducible rename Fr _ _ _ _ => F3
    with_reducible rename News _ _ _ _ => N3
    have C2 := c_growE w bits wanted r lim (tot + 1) hb hb' hw hw' hr hr1 hr2 ⟨x.o, x.d, x.l, z9, x.n, x.k, x.bs⟩ (Nat.le_succ_of_le hn) hsep tl bl hbs
    k_dflt (refine useCon C2 rfl B' F3 X' N3 T' M' rfl [(405, tabObj ps), (hl, listOf hits.toArray nh)] (fun q hq => .tail _ (.tail _ hq)) (by walk_at "my subset") ?_ (by ktr_room) (by ktr_units) hbare ?_)
    · intro q hq b hb e
      have h7 : b.1 ∈ x.adr := (adrE (bits := bits) (wanted := wanted) (r := r) (lim := lim) (tot := tot + 1) ⟨x.o, x.d, x.l, z9, x.n, x.k, x.bs⟩) ▸ List.mem_map_of_mem (f := (·.1)) hb
      rcases List.mem_cons.mp hq with rfl | hq
      · exact h405 ((show (405 : Addr) = b.1 from e) ▸ h7)
      · rw [List.mem_singleton.mp hq] at e
        exact hhl ((show hl = b.1 from e) ▸ h7)
    rintro v objs' s2 hos2 hb2 F4 N4 hA4 ⟨⟨o2, d2, l2, z2, n2, k2, bs2⟩, rfl, ho, hd2, hl2, rfl, hs2, hcase⟩
    dsimp only at ho hd2 hl2 hcase
    subst ho hd2 hl2
    have hh2 : hl ∉ (⟨x.o, x.d, x.l, z2, n2, k2, bs2⟩ : OR).adr := by
      rw [← adrE (bits := bits) (wanted := wanted) (r := r) (lim := lim) (tot := tot + 1)]
      intro h
      obtain ⟨q, hq, e⟩ := List.mem_map.mp h
      exact hA4 (hl, listOf hits.toArray nh) (by simp) q hq e.symm
    have N5 : News g' L' s2.heap ((405, tabObj ps) :: (hl, listOf hits.toArray nh) :: OR.objsE bits wanted r lim (tot + 1) ⟨x.o, x.d, x.l, z2, n2, k2, bs2⟩) := subN N4 fun q hq => by
      simp only [List.mem_cons, List.mem_append, List.not_mem_nil, or_false] at hq ⊢
      grind
    clear N4
    obtain ⟨tl2, bl2, hbs2, hok2, hc2, hc3, hfin⟩ : ∃ tl2 bl2, bs2 = tl2 ++ [bl2] ∧ bl2.Ok bits ∧ 0 ≤ bl2.cnt ∧ bl2.cnt ≤ 1000 ∧ ∀ bl' : BR, bl'.cnt = bl2.cnt + 1 → bl'.oct = setAll bits bl2.oct hs →
        ((bl.cnt < wanted ∧ tl2 ++ [bl'] = tl ++ [bl'] ∧ bl'.oct = setAll bits bl.oct hs ∧ bl'.cnt = bl.cnt + 1) ∨
        (wanted ≤ bl.cnt ∧ tl2 ++ [bl'] = x.bs ++ [bl'] ∧ bl'.oct = setAll bits (List.replicate (-(-bits).fdiv 8).toNat 0) hs ∧ bl'.cnt = 1)) := by
      rcases hcase with ⟨h8, h9⟩ | ⟨h8, b, h9, h10, h11, h12⟩
      · exact ⟨tl, bl, h9.trans hbs, hx bl (by rw [hbs]; simp), hc0, by omega, fun bl' e1 e2 => .inl ⟨h8, rfl, e2, e1⟩⟩
      · exact ⟨x.bs, b, h12, freshOk (by omega) h10 h11, by omega, by omega, fun bl' e1 e2 => .inr ⟨h8, rfl, by rw [e2, h11], by omega⟩⟩
    have hm1 : (bl2.x, instObj 323 bl2.d) ∈ List.flatMap (BR.objs bits wanted r) bs2 := List.mem_flatMap.mpr ⟨bl2, by rw [hbs2]; simp, .head _⟩
    have hm2 : (bl2.d, dictOf (bloomDict bits wanted r bl2.z bl2.cnt bl2.l) bl2.n) ∈ List.flatMap (BR.objs bits wanted r) bs2 := List.mem_flatMap.mpr ⟨bl2, by rw [hbs2]; simp, .tail _ (.head _)⟩
    iterate 12 (try walk_at "my step")
    try dsimp only
    refine itemLast N5 (by k_mem) hbs2 ?_
    iterate 6 (try walk_at "my step")
    try dsimp only
    with_reducible rename Fr _ _ _ _ => F6
    with_reducible rename News _ _ _ _ => N6
    k_dflt (refine useLastE (x := ⟨x.o, x.d, x.l, z2, n2, k2, bs2⟩) (lim := lim) (tot := tot + 1) hb hb' hr1 hr2 hs2 hh2 hbs2 hok2 hc2 hc3 hi hlen rfl B' F6 X' N6 T' M' rfl (by ktr_room) (by ktr_units) hb2 ?_)
    rintro bl' s9 hos9 hb9 F9 N9 e1 e2 e3 e4 e5 e6
    iterate 6 (try walk_at "my step")
    rename_i zF zN zA
    refine hret _ _ _ (hos9.trans hos2) hb9 zF (takeN zN ?hs) (takeA zA ?hs) ⟨ps, ⟨x.o, x.d, x.l, z2, n2, k2, tl2 ++ [bl']⟩, hps, rfl, rfl, ?hh, ⟨rfl, rfl, rfl, ?hz, fun h => by simp  at h, fun _ => ⟨bl', e5, hfin bl' e4 e6⟩⟩⟩
    case hs => exact fun q hq => hq
    case hh => rw [adrLast e1 e2 e3, ← hbs2]; exact hh2
    case hz => unfold OR.Sep; rw [adrLast e1 e2 e3, ← hbs2]; exact hs2
  | false =>
    iterate 13 (try walk_at "my step")
    with_reducible rename News _ _ _ _ => N2
    have hz9 := packE (lim := lim) N2
    clear N2
    obtain ⟨z9, N3⟩ := hz9
    iterate 13 (try walk_at "my step")
    try dsimp only
    with_reducible rename Fr _ _ _ _ => F3
    with_reducible rename News _ _ _ _ => N3
    have C1 := c_hasE w bits wanted r lim (tot + 1) hb hb' hr1 hr2 ⟨x.o, x.d, x.l, z9, x.n, x.k, x.bs⟩ hx (by dsimp only; omega) ps hps hl hits hs nh hi hlen
    k_dflt (refine useCon C1 rfl B' F3 X' N3 T' M' rfl [] (fun _ h => h) (fun _ h => nomatch h) (fun _ h => nomatch h) (by ktr_room) (by ktr_units) hbare ?_)
    rintro v objs' s1 hos1 hb1 F4 N4 - ⟨ps', hps', rfl, rfl⟩
    rw [List.append_nil] at N4
    iterate 2 (try walk_at "my step")
    refine iteBoth (fun hc => ?_) (fun hc => ?_)
    · have hc : (x.bs.any fun b => hit bits hs b.oct) = true := hc
      iterate 12 (try walk_at "my step")
      rename_i zF zN zA
      refine hret _ _ _ hos1 hb1 zF (takeN zN ?hs) (takeA zA ?hs) ⟨ps', ⟨x.o, x.d, x.l, z9, x.n, x.k, x.bs⟩, hps', rfl, rfl, hhl, ⟨rfl, rfl, rfl, hsep, fun _ => rfl, fun h => by simp [hc] at h⟩⟩
      case hs => exact fun q hq => hq
    · have hc : (x.bs.any fun b => hit bits hs b.oct) = false := Bool.eq_false_iff.mpr hc
      iterate 7 (try walk_at "my step")
      try dsimp only
      with_reducible rename Fr _ _ _ _ => F3
      with_reducible rename News _ _ _ _ => N3
      have C2 := c_growE w bits wanted r lim (tot + 1) hb hb' hw hw' hr hr1 hr2 ⟨x.o, x.d, x.l, z9, x.n, x.k, x.bs⟩ (Nat.le_succ_of_le hn) hsep tl bl hbs
      k_dflt (refine useCon C2 rfl B' F3 X' N3 T' M' rfl [(405, tabObj ps'), (hl, listOf hits.toArray nh)] (fun q hq => .tail _ (.tail _ hq)) (by walk_at "my subset") ?_ (by ktr_room) (by ktr_units) hb1 ?_)
      · intro q hq b hb e
        have h7 : b.1 ∈ x.adr := (adrE (bits := bits) (wanted := wanted) (r := r) (lim := lim) (tot := tot + 1) ⟨x.o, x.d, x.l, z9, x.n, x.k, x.bs⟩) ▸ List.mem_map_of_mem (f := (·.1)) hb
        rcases List.mem_cons.mp hq with rfl | hq
        · exact h405 ((show (405 : Addr) = b.1 from e) ▸ h7)
        · rw [List.mem_singleton.mp hq] at e
          exact hhl ((show hl = b.1 from e) ▸ h7)
      rintro v objs' s2 hos2 hb2 F4 N4 hA4 ⟨⟨o2, d2, l2, z2, n2, k2, bs2⟩, rfl, ho, hd2, hl2, rfl, hs2, hcase⟩
      dsimp only at ho hd2 hl2 hcase
      subst ho hd2 hl2
      have hh2 : hl ∉ (⟨x.o, x.d, x.l, z2, n2, k2, bs2⟩ : OR).adr := by
        rw [← adrE (bits := bits) (wanted := wanted) (r := r) (lim := lim) (tot := tot + 1)]
        intro h
        obtain ⟨q, hq, e⟩ := List.mem_map.mp h
        exact hA4 (hl, listOf hits.toArray nh) (by simp) q hq e.symm
      have N5 : News g' L' s2.heap ((405, tabObj ps') :: (hl, listOf hits.toArray nh) :: OR.objsE bits wanted r lim (tot + 1) ⟨x.o, x.d, x.l, z2, n2, k2, bs2⟩) := subN N4 fun q hq => by
        simp only [List.mem_cons, List.mem_append, List.not_mem_nil, or_false] at hq ⊢
        grind
      clear N4
      obtain ⟨tl2, bl2, hbs2, hok2, hc2, hc3, hfin⟩ : ∃ tl2 bl2, bs2 = tl2 ++ [bl2] ∧ bl2.Ok bits ∧ 0 ≤ bl2.cnt ∧ bl2.cnt ≤ 1000 ∧ ∀ bl' : BR, bl'.cnt = bl2.cnt + 1 → bl'.oct = setAll bits bl2.oct hs →
          ((bl.cnt < wanted ∧ tl2 ++ [bl'] = tl ++ [bl'] ∧ bl'.oct = setAll bits bl.oct hs ∧ bl'.cnt = bl.cnt + 1) ∨
          (wanted ≤ bl.cnt ∧ tl2 ++ [bl'] = x.bs ++ [bl'] ∧ bl'.oct = setAll bits (List.replicate (-(-bits).fdiv 8).toNat 0) hs ∧ bl'.cnt = 1)) := by
        rcases hcase with ⟨h8, h9⟩ | ⟨h8, b, h9, h10, h11, h12⟩
        · exact ⟨tl, bl, h9.trans hbs, hx bl (by rw [hbs]; simp), hc0, by omega, fun bl' e1 e2 => .inl ⟨h8, rfl, e2, e1⟩⟩
        · exact ⟨x.bs, b, h12, freshOk (by omega) h10 h11, by omega, by omega, fun bl' e1 e2 => .inr ⟨h8, rfl, by rw [e2, h11], by omega⟩⟩
      have hm1 : (bl2.x, instObj 323 bl2.d) ∈ List.flatMap (BR.objs bits wanted r) bs2 := List.mem_flatMap.mpr ⟨bl2, by rw [hbs2]; simp, .head _⟩
      have hm2 : (bl2.d, dictOf (bloomDict bits wanted r bl2.z bl2.cnt bl2.l) bl2.n) ∈ List.flatMap (BR.objs bits wanted r) bs2 := List.mem_flatMap.mpr ⟨bl2, by rw [hbs2]; simp, .tail _ (.head _)⟩
      iterate 12 (try walk_at "my step")
      try dsimp only
      refine itemLast N5 (by k_mem) hbs2 ?_
      iterate 6 (try walk_at "my step")
      try dsimp only
      with_reducible rename Fr _ _ _ _ => F6
      with_reducible rename News _ _ _ _ => N6
      k_dflt (refine useLastE (x := ⟨x.o, x.d, x.l, z2, n2, k2, bs2⟩) (lim := lim) (tot := tot + 1) hb hb' hr1 hr2 hs2 hh2 hbs2 hok2 hc2 hc3 hi hlen rfl B' F6 X' N6 T' M' rfl (by ktr_room) (by ktr_units) hb2 ?_)
      rintro bl' s9 hos9 hb9 F9 N9 e1 e2 e3 e4 e5 e6
      iterate 6 (try walk_at "my step")
      rename_i zF zN zA
      refine hret _ _ _ (hos9.trans (hos2.trans hos1)) hb9 zF (takeN zN ?hs) (takeA zA ?hs) ⟨ps', ⟨x.o, x.d, x.l, z2, n2, k2, tl2 ++ [bl']⟩, hps', rfl, rfl, ?hh, ⟨rfl, rfl, rfl, ?hz, fun h => by simp [hc] at h, fun _ => ⟨bl', e5, hfin bl' e4 e6⟩⟩⟩
      case hs => exact fun q hq => hq
      case hh => rw [adrLast e1 e2 e3, ← hbs2]; exact hh2
      case hz => unfold OR.Sep; rw [adrLast e1 e2 e3, ← hbs2]; exact hs2
end
section
set_option maxHeartbeats 8000000 in
theorem c_rotR (w : World) (bits wanted r lim tot : Int) (hb : 4 ≤ bits) (hb' : bits ≤ 19) (hw : 1 ≤ wanted) (hw' : wanted ≤ 4) (hr : ((13862943611198906 * bits).fdiv wanted + 10000000000000000).fdiv (2 * 10000000000000000) = r) (hr1 : 1 ≤ r) (hr2 : r ≤ 13) (x : OR) (hn : x.bs.length ≤ 60) (hsep : x.Sep) (tl : List BR) (bl : BR) (hbs : x.bs = tl ++ [bl]) :
    Con w 14 510 [.ref x.o] [] (x.objsR bits wanted r lim tot)
      (fun v objs' => ∃ (x' : OR), v = .none ∧ x'.o = x.o ∧ x'.d = x.d ∧ x'.l = x.l ∧ objs' = x'.objsR bits wanted r lim tot ∧ x'.Sep ∧
        ((bl.cnt ≠ wanted ∧ x'.bs = x.bs) ∨ (bl.cnt = wanted ∧ ∃ b : BR, b.cnt = 0 ∧ IntsAre b.its b.oct ∧ b.oct = List.replicate (-(-bits).fdiv 8).toNat 0 ∧ x'.bs = keptR lim x.bs ++ [b]))) := by
  unfold Con
  w_on
  k_fill
  intro dp un gd cn cs a ccd cl outer A₀ base h₀ L m rest p loose mg mb s Q E B F X N T M hk hap hdp hun hbare hret
  w_top on
  refine wpAny_call ?_
  refine' enterR B F X N T ?kA ?kF ?kK hap ?k6 ?k7 ?k8 ?k9 ?kB ?_ ?c2 ?c3 ?c4 ?c5
  case kA => exact rfl
  case kF => exact rfl
  case kK => assumption
  case k6 => k_is
  case k7 => k_is
  case k8 => ktr_room
  case k9 => first | exact BindsTo.of_eq rfl | exact binds_K (X.keeps F.keep) rfl (by k_is) rfl rfl rfl
  case c5 => decide
  case kB => exact locs rfl
  case c2 => exact rfl
  case c3 => exact rfl
  case c4 => exact rfl
  intro g' L' h' F' N' B' X' T' hr' hlt' FG'
  have M' := M.keeps FG'.keep
  clear B F X N T FG' M
  try dsimp only
  try k_fold
  have hm1 : (bl.x, instObj 323 bl.d) ∈ List.flatMap (BR.objs bits wanted r) x.bs := List.mem_flatMap.mpr ⟨bl, by rw [hbs]; simp, .head _⟩
  have hm2 : (bl.d, dictOf (bloomDict bits wanted r bl.z bl.cnt bl.l) bl.n) ∈ List.flatMap (BR.objs bits wanted r) x.bs := List.mem_flatMap.mpr ⟨bl, by rw [hbs]; simp, .tail _ (.head _)⟩
  iterate 9 (try walk_at "my step")
  dsimp only
  refine itemLast N' (by k_mem) hbs ?_
  have hlenq : (refsOf x.bs).length < 2 ^ 62 := by rw [List.length_map]; omega
  iterate 48 (try walk_at "my step")
  by_cases hc : bl.cnt = wanted
  · by_cases hq : ((refsOf x.bs).length : Int) < lim
    · iterate 36 (try walk_at "my step")
      try dsimp only
      with_reducible rename Fr _ _ _ _ => F3
      with_reducible rename News _ _ _ _ => N3
      have C2 := c_newR w bits wanted r lim tot hb hb' hw hw' hr hr1 hr2 x hn hsep
      k_dflt (refine useCon C2 rfl B' F3 X' N3 T' M' rfl [] (fun _ h => h) (fun _ h => nomatch h) (fun _ h => nomatch h) (by ktr_room) (by ktr_units) hbare ?_)
      rintro v objs' s2 hos2 hb2 F4 N4 - ⟨b, x', rfl, h1, h2, h3, h4, h5, h6, h7, rfl, h8⟩
      try dsimp only
      iterate 10 (try walk_at "my step")
      rename_i zF zN zA
      refine hret _ _ _ hos2 hb2 zF (takeN zN ?hs) (takeA zA ?hs) ⟨x', rfl, h4, h5, h6, rfl, h8, .inr ⟨hc, b, h1, h2, h3, ?hk⟩⟩
      case hs => exact fun q hq => List.mem_append.mpr (.inl hq)
      case hk =>
        rw [h7, keptR, if_neg (by rw [List.length_map] at hq; omega)]
    · obtain ⟨b0, tl0, hbs0⟩ : ∃ b0 tl0, x.bs = b0 :: tl0 := List.exists_cons_of_ne_nil (by rw [hbs]; simp)
      iterate 46 (try walk_at "my step")
      try dsimp only
      with_reducible rename Fr _ _ _ _ => F5
      with_reducible rename News _ _ _ _ => N5
      k_dflt (refine popRow hsep hbs0 hn F5 N5 ?_)
      clear F5 N5
      intro h' F5 N5
      have hsep5 : OR.Sep ⟨x.o, x.d, x.l, x.z, x.n, x.k + 1, tl0⟩ := OR.Sep.pop (z := x.z) (n := x.n) (k := x.k) (b0 := b0) (hbs0 ▸ hsep)
      have hn5 : tl0.length ≤ 60 := by rw [hbs0] at hn; simp only [List.length_cons] at hn; omega
      iterate 8 (try walk_at "my step")
      try dsimp only
      with_reducible rename Fr _ _ _ _ => F3
      with_reducible rename News _ _ _ _ => N3
      have C2 := c_newR w bits wanted r lim tot hb hb' hw hw' hr hr1 hr2 ⟨x.o, x.d, x.l, x.z, x.n, x.k + 1, tl0⟩ hn5 hsep5
      k_dflt (refine useCon C2 rfl B' F3 X' N3 T' M' rfl [] (fun _ h => h) (fun _ h => nomatch h) (fun _ h => nomatch h) (by ktr_room) (by ktr_units) hbare ?_)
      rintro v objs' s2 hos2 hb2 F4 N4 - ⟨b, x', rfl, h1, h2, h3, h4, h5, h6, h7, rfl, h8⟩
      try dsimp only
      iterate 10 (try walk_at "my step")
      rename_i zF zN zA
      refine hret _ _ _ hos2 hb2 zF (takeN zN ?hs) (takeA zA ?hs) ⟨x', rfl, h4, h5, h6, rfl, h8, .inr ⟨hc, b, h1, h2, h3, ?hk⟩⟩
      case hs => exact fun q hq => List.mem_append.mpr (.inl hq)
      case hk =>
        rw [h7, keptR, if_pos (by rw [List.length_map] at hq; omega), hbs0]
        rfl
  · iterate 40 (try walk_at "my step")
    rename_i zF zN zA
    refine hret _ _ _ rfl hbare zF (takeN zN ?hs) (takeA zA ?hs) ⟨x, rfl, rfl, rfl, rfl, rfl, hsep, .inl ⟨hc, rfl⟩⟩
    case hs => exact fun q hq => hq
end
section
local macro_rules | `(tactic| walk_at "no such key") => `(tactic| fail)
local macro_rules | `(tactic| walk_at "no such key") => `(tactic| fail)
local macro_rules | `(tactic| walk_at "no such key") => `(tactic| fail)
local macro_rules | `(tactic| walk_at "no such key") => `(tactic| fail)
local macro_rules | `(tactic| walk_at "no such key") => `(tactic| fail)
local macro_rules | `(tactic| walk_at "setAttr ref") => do
  let u := Lean.mkIdent `hUd
  `(tactic| (k_here; k_dflt (refine' set_dict ?k1 ?k2 ?k3 ?k4 ?k5 ?k6 ?k7 ?k8 ?k9 ?k10 ?k11 ?k12 ?k13 ?_; (case k1 => k_asm); (case k2 => k_asm); (case k3 => k_asm); (case k4 => k_inst); (case k5 => exact rfl); (case k6 => k_is); (case k7 => k_is); (case k8 => k_is); (case k9 => k_is); (case k10 => k_get); (case k11 => (refine' PutL.eq ?zp _ _ _; (case zp => walk_at "my put"))); (case k12 => exact $u _ _); (case k13 => exact Nat.le_of_ble_eq_true rfl); k_whole; intro h' F' N'; (try k_sweep))))
set_option maxHeartbeats 8000000 in
theorem c_altR (w : World) (bits wanted r lim tot : Int) (hb : 4 ≤ bits) (hb' : bits ≤ 19) (hw : 1 ≤ wanted) (hw' : wanted ≤ 4) (hr : ((13862943611198906 * bits).fdiv wanted + 10000000000000000).fdiv (2 * 10000000000000000) = r) (hr1 : 1 ≤ r) (hr2 : r ≤ 13) (x : OR) (hn : x.bs.length ≤ 59) (hsep : x.Sep) (tl : List BR) (bl : BR) (hbs : x.bs = tl ++ [bl])
    (hx : ∀ b ∈ x.bs, b.Ok bits) (hc0 : 0 ≤ bl.cnt) (hc1 : bl.cnt ≤ wanted) (ps : Array Value) (hps : TriplesOk ps.toList) (hl : Addr) (hits : List Value) (hs : List Int) (nh : Nat) (hi : IntsAre hits hs) (hlen : (hs.length : Int) = r) (hhl : hl ∉ x.adr) (fo : Bool) :
    Con w 18 488 [.ref x.o, .ref hl, .bool fo] [] ((405, tabObj ps) :: (hl, listOf hits.toArray nh) :: x.objsR bits wanted r lim tot)
      (fun v objs' => ∃ (ps' : Array Value) (x' : OR), TriplesOk ps'.toList ∧ v = .none ∧ objs' = (405, tabObj ps') :: (hl, listOf hits.toArray nh) :: x'.objsR bits wanted r lim (tot + 1) ∧ hl ∉ x'.adr ∧
        Added bits wanted hs x x' tl bl (keptR lim x.bs) (fo || !(x.bs.any fun b => hit bits hs b.oct))) := by
  unfold Con
  w_on
  k_fill
  intro dp un gd cn cs a ccd cl outer A₀ base h₀ L m rest p loose mg mb s Q E B F X N T M hk hap hdp hun hbare hret
  w_top on
  refine wpAny_call ?_
  refine' enterR B F X N T ?kA ?kF ?kK hap ?k6 ?k7 ?k8 ?k9 ?kB ?_ ?c2 ?c3 ?c4 ?c5
  case kA => exact rfl
  case kF => exact rfl
  case kK => assumption
  case k6 => k_is
  case k7 => k_is
  case k8 => ktr_room
  case k9 => first | exact BindsTo.of_eq rfl | exact binds_K (X.keeps F.keep) rfl (by k_is) rfl rfl rfl
  case c5 => decide
  case kB => exact locs rfl
  case c2 => exact rfl
  case c3 => exact rfl
  case c4 => exact rfl
  intro g' L' h' F' N' B' X' T' hr' hlt' FG'
  have M' := M.keeps FG'.keep
  clear B F X N T FG' M
  try dsimp only
  try k_fold
  have h405 := tabNotR (x := x) (bits := bits) (wanted := wanted) (r := r) (lim := lim) (tot := tot) N' (fun q hq => .tail _ hq)
  have hUd : ∀ o o' : Obj, Upd x.d o o' ((405, tabObj ps) :: (hl, listOf hits.toArray nh) :: (x.o, instObj 520 x.d) :: (x.d, o) :: (x.l, listOf (refsOf x.bs).toArray x.k) :: blObjs bits wanted r x.bs) ((405, tabObj ps) :: (hl, listOf hits.toArray nh) :: (x.o, instObj 520 x.d) :: (x.d, o') :: (x.l, listOf (refsOf x.bs).toArray x.k) :: blObjs bits wanted r x.bs) := updRow hsep hhl h405
  cases fo with
  | true =>
    iterate 13 (try walk_at "my step")
    with_reducible rename News _ _ _ _ => N2
    have hz9 := packR (lim := lim) N2
    clear N2
    obtain ⟨z9, N3⟩ := hz9
    iterate 1 (try walk_at "my step")
    refine PySem.W.ite_pos rfl ?_
    iterate 7 (try walk_at "my step")
    try dsimp only
    with_reducible rename Fr _ _ _ _ => F3
    with_reducible rename News _ _ _ _ => N3
    have C2 := c_rotR w bits wanted r lim (tot + 1) hb hb' hw hw' hr hr1 hr2 ⟨x.o, x.d, x.l, z9, x.n, x.k, x.bs⟩ (Nat.le_succ_of_le hn) hsep tl bl hbs
    k_dflt (refine useCon C2 rfl B' F3 X' N3 T' M' rfl [(405, tabObj ps), (hl, listOf hits.toArray nh)] (fun q hq => .tail _ (.tail _ hq)) (by walk_at "my subset") ?_ (by ktr_room) (by ktr_units) hbare ?_)
    · intro q hq b hb e
      have h7 : b.1 ∈ x.adr := (adrR (bits := bits) (wanted := wanted) (r := r) (lim := lim) (tot := tot + 1) ⟨x.o, x.d, x.l, z9, x.n, x.k, x.bs⟩) ▸ List.mem_map_of_mem (f := (·.1)) hb
      rcases List.mem_cons.mp hq with rfl | hq
      · exact h405 ((show (405 : Addr) = b.1 from e) ▸ h7)
      · rw [List.mem_singleton.mp hq] at e
        exact hhl ((show hl = b.1 from e) ▸ h7)
    rintro v objs' s2 hos2 hb2 F4 N4 hA4 ⟨⟨o2, d2, l2, z2, n2, k2, bs2⟩, rfl, ho, hd2, hl2, rfl, hs2, hcase⟩
    dsimp only at ho hd2 hl2 hcase
    subst ho hd2 hl2
    have hh2 : hl ∉ (⟨x.o, x.d, x.l, z2, n2, k2, bs2⟩ : OR).adr := by
      rw [← adrR (bits := bits) (wanted := wanted) (r := r) (lim := lim) (tot := tot + 1)]
      intro h
      obtain ⟨q, hq, e⟩ := List.mem_map.mp h
      exact hA4 (hl, listOf hits.toArray nh) (by simp) q hq e.symm
    have N5 : News g' L' s2.heap ((405, tabObj ps) :: (hl, listOf hits.toArray nh) :: OR.objsR bits wanted r lim (tot + 1) ⟨x.o, x.d, x.l, z2, n2, k2, bs2⟩) := subN N4 fun q hq => by
      simp only [List.mem_cons, List.mem_append, List.not_mem_nil, or_false] at hq ⊢
      grind
    clear N4
    obtain ⟨tl2, bl2, hbs2, hok2, hc2, hc3, hfin⟩ : ∃ tl2 bl2, bs2 = tl2 ++ [bl2] ∧ bl2.Ok bits ∧ 0 ≤ bl2.cnt ∧ bl2.cnt ≤ 1000 ∧ ∀ bl' : BR, bl'.cnt = bl2.cnt + 1 → bl'.oct = setAll bits bl2.oct hs →
        ((bl.cnt < wanted ∧ tl2 ++ [bl'] = tl ++ [bl'] ∧ bl'.oct = setAll bits bl.oct hs ∧ bl'.cnt = bl.cnt + 1) ∨
        (wanted ≤ bl.cnt ∧ tl2 ++ [bl'] = keptR lim x.bs ++ [bl'] ∧ bl'.oct = setAll bits (List.replicate (-(-bits).fdiv 8).toNat 0) hs ∧ bl'.cnt = 1)) := by
      rcases hcase with ⟨h8, h9⟩ | ⟨h8, b, h9, h10, h11, h12⟩
      · exact ⟨tl, bl, h9.trans hbs, hx bl (by rw [hbs]; simp), hc0, by omega, fun bl' e1 e2 => .inl ⟨by omega, rfl, e2, e1⟩⟩
      · exact ⟨keptR lim x.bs, b, h12, freshOk (by omega) h10 h11, by omega, by omega, fun bl' e1 e2 => .inr ⟨by omega, rfl, by rw [e2, h11], by omega⟩⟩
    have hm1 : (bl2.x, instObj 323 bl2.d) ∈ List.flatMap (BR.objs bits wanted r) bs2 := List.mem_flatMap.mpr ⟨bl2, by rw [hbs2]; simp, .head _⟩
    have hm2 : (bl2.d, dictOf (bloomDict bits wanted r bl2.z bl2.cnt bl2.l) bl2.n) ∈ List.flatMap (BR.objs bits wanted r) bs2 := List.mem_flatMap.mpr ⟨bl2, by rw [hbs2]; simp, .tail _ (.head _)⟩
    iterate 12 (try walk_at "my step")
    try dsimp only
    refine itemLast N5 (by k_mem) hbs2 ?_
    iterate 6 (try walk_at "my step")
    try dsimp only
    with_reducible rename Fr _ _ _ _ => F6
    with_reducible rename News _ _ _ _ => N6
    k_dflt (refine useLastR (x := ⟨x.o, x.d, x.l, z2, n2, k2, bs2⟩) (lim := lim) (tot := tot + 1) hb hb' hr1 hr2 hs2 hh2 hbs2 hok2 hc2 hc3 hi hlen rfl B' F6 X' N6 T' M' rfl (by ktr_room) (by ktr_units) hb2 ?_)
    rintro bl' s9 hos9 hb9 F9 N9 e1 e2 e3 e4 e5 e6
    iterate 6 (try walk_at "my step")
    rename_i zF zN zA
    refine hret _ _ _ (hos9.trans hos2) hb9 zF (takeN zN ?hs) (takeA zA ?hs) ⟨ps, ⟨x.o, x.d, x.l, z2, n2, k2, tl2 ++ [bl']⟩, hps, rfl, rfl, ?hh, ⟨rfl, rfl, rfl, ?hz, fun h => by simp  at h, fun _ => ⟨bl', e5, hfin bl' e4 e6⟩⟩⟩
    case hs => exact fun q hq => hq
    case hh => rw [adrLast e1 e2 e3, ← hbs2]; exact hh2
    case hz => unfold OR.Sep; rw [adrLast e1 e2 e3, ← hbs2]; exact hs2
  | false =>
    iterate 13 (try walk_at "my step")
    with_reducible rename News _ _ _ _ => N2
    have hz9 := packR (lim := lim) N2
    clear N2
    obtain ⟨z9, N3⟩ := hz9
    iterate 13 (try walk_at "my step")
    try dsimp only
    with_reducible rename Fr _ _ _ _ => F3
    with_reducible rename News _ _ _ _ => N3
    have C1 := c_hasR w bits wanted r lim (tot + 1) hb hb' hr1 hr2 ⟨x.o, x.d, x.l, z9, x.n, x.k, x.bs⟩ hx (by dsimp only; omega) ps hps hl hits hs nh hi hlen
    k_dflt (refine useCon C1 rfl B' F3 X' N3 T' M' rfl [] (fun _ h => h) (fun _ h => nomatch h) (fun _ h => nomatch h) (by ktr_room) (by ktr_units) hbare ?_)
    rintro v objs' s1 hos1 hb1 F4 N4 - ⟨ps', hps', rfl, rfl⟩
    rw [List.append_nil] at N4
    iterate 2 (try walk_at "my step")
    refine iteBoth (fun hc => ?_) (fun hc => ?_)
    · have hc : (x.bs.any fun b => hit bits hs b.oct) = true := hc
      iterate 12 (try walk_at "my step")
      rename_i zF zN zA
      refine hret _ _ _ hos1 hb1 zF (takeN zN ?hs) (takeA zA ?hs) ⟨ps', ⟨x.o, x.d, x.l, z9, x.n, x.k, x.bs⟩, hps', rfl, rfl, hhl, ⟨rfl, rfl, rfl, hsep, fun _ => rfl, fun h => by simp [hc] at h⟩⟩
      case hs => exact fun q hq => hq
    · have hc : (x.bs.any fun b => hit bits hs b.oct) = false := Bool.eq_false_iff.mpr hc
      iterate 7 (try walk_at "my step")
      try dsimp only
      with_reducible rename Fr _ _ _ _ => F3
      with_reducible rename News _ _ _ _ => N3
      have C2 := c_rotR w bits wanted r lim (tot + 1) hb hb' hw hw' hr hr1 hr2 ⟨x.o, x.d, x.l, z9, x.n, x.k, x.bs⟩ (Nat.le_succ_of_le hn) hsep tl bl hbs
      k_dflt (refine useCon C2 rfl B' F3 X' N3 T' M' rfl [(405, tabObj ps'), (hl, listOf hits.toArray nh)] (fun q hq => .tail _ (.tail _ hq)) (by walk_at "my subset") ?_ (by ktr_room) (by ktr_units) hb1 ?_)
      · intro q hq b hb e
        have h7 : b.1 ∈ x.adr := (adrR (bits := bits) (wanted := wanted) (r := r) (lim := lim) (tot := tot + 1) ⟨x.o, x.d, x.l, z9, x.n, x.k, x.bs⟩) ▸ List.mem_map_of_mem (f := (·.1)) hb
        rcases List.mem_cons.mp hq with rfl | hq
        · exact h405 ((show (405 : Addr) = b.1 from e) ▸ h7)
        · rw [List.mem_singleton.mp hq] at e
          exact hhl ((show hl = b.1 from e) ▸ h7)
      rintro v objs' s2 hos2 hb2 F4 N4 hA4 ⟨⟨o2, d2, l2, z2, n2, k2, bs2⟩, rfl, ho, hd2, hl2, rfl, hs2, hcase⟩
      dsimp only at ho hd2 hl2 hcase
      subst ho hd2 hl2
      have hh2 : hl ∉ (⟨x.o, x.d, x.l, z2, n2, k2, bs2⟩ : OR).adr := by
        rw [← adrR (bits := bits) (wanted := wanted) (r := r) (lim := lim) (tot := tot + 1)]
        intro h
        obtain ⟨q, hq, e⟩ := List.mem_map.mp h
        exact hA4 (hl, listOf hits.toArray nh) (by simp) q hq e.symm
      have N5 : News g' L' s2.heap ((405, tabObj ps') :: (hl, listOf hits.toArray nh) :: OR.objsR bits wanted r lim (tot + 1) ⟨x.o, x.d, x.l, z2, n2, k2, bs2⟩) := subN N4 fun q hq => by
        simp only [List.mem_cons, List.mem_append, List.not_mem_nil, or_false] at hq ⊢
        grind
      clear N4
      obtain ⟨tl2, bl2, hbs2, hok2, hc2, hc3, hfin⟩ : ∃ tl2 bl2, bs2 = tl2 ++ [bl2] ∧ bl2.Ok bits ∧ 0 ≤ bl2.cnt ∧ bl2.cnt ≤ 1000 ∧ ∀ bl' : BR, bl'.cnt = bl2.cnt + 1 → bl'.oct = setAll bits bl2.oct hs →
          ((bl.cnt < wanted ∧ tl2 ++ [bl'] = tl ++ [bl'] ∧ bl'.oct = setAll bits bl.oct hs ∧ bl'.cnt = bl.cnt + 1) ∨
          (wanted ≤ bl.cnt ∧ tl2 ++ [bl'] = keptR lim x.bs ++ [bl'] ∧ bl'.oct = setAll bits (List.replicate (-(-bits).fdiv 8).toNat 0) hs ∧ bl'.cnt = 1)) := by
        rcases hcase with ⟨h8, h9⟩ | ⟨h8, b, h9, h10, h11, h12⟩
        · exact ⟨tl, bl, h9.trans hbs, hx bl (by rw [hbs]; simp), hc0, by omega, fun bl' e1 e2 => .inl ⟨by omega, rfl, e2, e1⟩⟩
        · exact ⟨keptR lim x.bs, b, h12, freshOk (by omega) h10 h11, by omega, by omega, fun bl' e1 e2 => .inr ⟨by omega, rfl, by rw [e2, h11], by omega⟩⟩
      have hm1 : (bl2.x, instObj 323 bl2.d) ∈ List.flatMap (BR.objs bits wanted r) bs2 := List.mem_flatMap.mpr ⟨bl2, by rw [hbs2]; simp, .head _⟩
      have hm2 : (bl2.d, dictOf (bloomDict bits wanted r bl2.z bl2.cnt bl2.l) bl2.n) ∈ List.flatMap (BR.objs bits wanted r) bs2 := List.mem_flatMap.mpr ⟨bl2, by rw [hbs2]; simp, .tail _ (.head _)⟩
      iterate 12 (try walk_at "my step")
      try dsimp only
      refine itemLast N5 (by k_mem) hbs2 ?_
      iterate 6 (try walk_at "my step")
      try dsimp only
      with_reducible rename Fr _ _ _ _ => F6
      with_reducible rename News _ _ _ _ => N6
      k_dflt (refine useLastR (x := ⟨x.o, x.d, x.l, z2, n2, k2, bs2⟩) (lim := lim) (tot := tot + 1) hb hb' hr1 hr2 hs2 hh2 hbs2 hok2 hc2 hc3 hi hlen rfl B' F6 X' N6 T' M' rfl (by ktr_room) (by ktr_units) hb2 ?_)
      rintro bl' s9 hos9 hb9 F9 N9 e1 e2 e3 e4 e5 e6
      iterate 6 (try walk_at "my step")
      rename_i zF zN zA
      refine hret _ _ _ (hos9.trans (hos2.trans hos1)) hb9 zF (takeN zN ?hs) (takeA zA ?hs) ⟨ps', ⟨x.o, x.d, x.l, z2, n2, k2, tl2 ++ [bl']⟩, hps', rfl, rfl, ?hh, ⟨rfl, rfl, rfl, ?hz, fun h => by simp [hc] at h, fun _ => ⟨bl', e5, hfin bl' e4 e6⟩⟩⟩
      case hs => exact fun q hq => hq
      case hh => rw [adrLast e1 e2 e3, ← hbs2]; exact hh2
      case hz => unfold OR.Sep; rw [adrLast e1 e2 e3, ← hbs2]; exact hs2
end
section
set_option maxHeartbeats 8000000 in
theorem c_rotRF (w : World) (bits wanted r lim tot : Int) (hb : 4 ≤ bits) (hb' : bits ≤ 19) (hw : 1 ≤ wanted) (hw' : wanted ≤ 4) (hr : ((13862943611198906 * bits).fdiv wanted + 10000000000000000).fdiv (2 * 10000000000000000) = r) (hr1 : 1 ≤ r) (hr2 : r ≤ 13) (x : OR) (hn : x.bs.length ≤ 60) (hsep : x.Sep) (tl : List BR) (bl : BR) (hbs : x.bs = tl ++ [bl]) :
    Con w 14 510 [.ref x.o] [(Str.ofString "force", .bool true)] (x.objsR bits wanted r lim tot)
      (fun v objs' => ∃ (x' : OR), v = .none ∧ x'.o = x.o ∧ x'.d = x.d ∧ x'.l = x.l ∧ objs' = x'.objsR bits wanted r lim tot ∧ x'.Sep ∧
        ∃ b : BR, b.cnt = 0 ∧ IntsAre b.its b.oct ∧ b.oct = List.replicate (-(-bits).fdiv 8).toNat 0 ∧ x'.bs = keptR lim x.bs ++ [b]) := by
  unfold Con
  w_on
  k_fill
  intro dp un gd cn cs a ccd cl outer A₀ base h₀ L m rest p loose mg mb s Q E B F X N T M hk hap hdp hun hbare hret
  w_top on
  refine wpAny_call ?_
  refine' enterR B F X N T ?kA ?kF ?kK hap ?k6 ?k7 ?k8 ?k9 ?kB ?_ ?c2 ?c3 ?c4 ?c5
  case kA => exact rfl
  case kF => exact rfl
  case kK => assumption
  case k6 => k_is
  case k7 => k_is
  case k8 => ktr_room
  case k9 => first | exact BindsTo.of_eq rfl | exact binds_K (X.keeps F.keep) rfl (by k_is) rfl rfl rfl
  case c5 => decide
  case kB => exact locs rfl
  case c2 => exact rfl
  case c3 => exact rfl
  case c4 => exact rfl
  intro g' L' h' F' N' B' X' T' hr' hlt' FG'
  have M' := M.keeps FG'.keep
  clear B F X N T FG' M
  try dsimp only
  try k_fold
  have hm1 : (bl.x, instObj 323 bl.d) ∈ List.flatMap (BR.objs bits wanted r) x.bs := List.mem_flatMap.mpr ⟨bl, by rw [hbs]; simp, .head _⟩
  have hm2 : (bl.d, dictOf (bloomDict bits wanted r bl.z bl.cnt bl.l) bl.n) ∈ List.flatMap (BR.objs bits wanted r) x.bs := List.mem_flatMap.mpr ⟨bl, by rw [hbs]; simp, .tail _ (.head _)⟩
  iterate 9 (try walk_at "my step")
  dsimp only
  refine itemLast N' (by k_mem) hbs ?_
  have hlenq : (refsOf x.bs).length < 2 ^ 62 := by rw [List.length_map]; omega
  iterate 48 (try walk_at "my step")
  by_cases hq : ((refsOf x.bs).length : Int) < lim
  · iterate 22 (try walk_at "my step")
    try dsimp only
    with_reducible rename Fr _ _ _ _ => F3
    with_reducible rename News _ _ _ _ => N3
    have C2 := c_newR w bits wanted r lim tot hb hb' hw hw' hr hr1 hr2 x hn hsep
    k_dflt (refine useCon C2 rfl B' F3 X' N3 T' M' rfl [] (fun _ h => h) (fun _ h => nomatch h) (fun _ h => nomatch h) (by ktr_room) (by ktr_units) hbare ?_)
    rintro v objs' s2 hos2 hb2 F4 N4 - ⟨b, x', rfl, h1, h2, h3, h4, h5, h6, h7, rfl, h8⟩
    try dsimp only
    iterate 10 (try walk_at "my step")
    rename_i zF zN zA
    refine hret _ _ _ hos2 hb2 zF (takeN zN ?hs) (takeA zA ?hs) ⟨x', rfl, h4, h5, h6, rfl, h8, b, h1, h2, h3, ?hk⟩
    case hs => exact fun q hq => List.mem_append.mpr (.inl hq)
    case hk =>
      rw [h7, keptR, if_neg (by rw [List.length_map] at hq; omega)]
  · obtain ⟨b0, tl0, hbs0⟩ : ∃ b0 tl0, x.bs = b0 :: tl0 := List.exists_cons_of_ne_nil (by rw [hbs]; simp)
    iterate 32 (try walk_at "my step")
    try dsimp only
    with_reducible rename Fr _ _ _ _ => F5
    with_reducible rename News _ _ _ _ => N5
    k_dflt (refine popRow hsep hbs0 hn F5 N5 ?_)
    clear F5 N5
    intro h' F5 N5
    have hsep5 : OR.Sep ⟨x.o, x.d, x.l, x.z, x.n, x.k + 1, tl0⟩ := OR.Sep.pop (z := x.z) (n := x.n) (k := x.k) (b0 := b0) (hbs0 ▸ hsep)
    have hn5 : tl0.length ≤ 60 := by rw [hbs0] at hn; simp only [List.length_cons] at hn; omega
    iterate 8 (try walk_at "my step")
    try dsimp only
    with_reducible rename Fr _ _ _ _ => F3
    with_reducible rename News _ _ _ _ => N3
    have C2 := c_newR w bits wanted r lim tot hb hb' hw hw' hr hr1 hr2 ⟨x.o, x.d, x.l, x.z, x.n, x.k + 1, tl0⟩ hn5 hsep5
    k_dflt (refine useCon C2 rfl B' F3 X' N3 T' M' rfl [] (fun _ h => h) (fun _ h => nomatch h) (fun _ h => nomatch h) (by ktr_room) (by ktr_units) hbare ?_)
    rintro v objs' s2 hos2 hb2 F4 N4 - ⟨b, x', rfl, h1, h2, h3, h4, h5, h6, h7, rfl, h8⟩
    try dsimp only
    iterate 10 (try walk_at "my step")
    rename_i zF zN zA
    refine hret _ _ _ hos2 hb2 zF (takeN zN ?hs) (takeA zA ?hs) ⟨x', rfl, h4, h5, h6, rfl, h8, b, h1, h2, h3, ?hk⟩
    case hs => exact fun q hq => List.mem_append.mpr (.inl hq)
    case hk =>
      rw [h7, keptR, if_pos (by rw [List.length_map] at hq; omega), hbs0]
      rfl
end
section
set_option maxHeartbeats 8000000 in
theorem c_addE (w : World) (bits wanted r lim tot : Int) (hb : 4 ≤ bits) (hb' : bits ≤ 19) (hw : 1 ≤ wanted) (hw' : wanted ≤ 4) (hr : ((13862943611198906 * bits).fdiv wanted + 10000000000000000).fdiv (2 * 10000000000000000) = r) (hr1 : 1 ≤ r) (hr2 : r ≤ 13) (x : OR) (hn : x.bs.length ≤ 59) (hsep : x.Sep) (tl : List BR) (bl : BR) (hbs : x.bs = tl ++ [bl])
    (hx : ∀ b ∈ x.bs, b.Ok bits) (hc0 : 0 ≤ bl.cnt) (hc1 : bl.cnt ≤ wanted) (ps : Array Value) (hps : TriplesOk ps.toList)
    (c : Nat) (t1 : Tok) (hc : 97 ≤ c) (hc' : c ≤ 104) :
    Con w 20 418 [.ref x.o, .str (Str.mk #[c]) t1] [] ((405, tabObj ps) :: x.objsE bits wanted r lim tot)
      (fun v objs' => ∃ (ps' : Array Value) (x' : OR), TriplesOk ps'.toList ∧ v = .none ∧ objs' = (405, tabObj ps') :: x'.objsE bits wanted r lim (tot + 1) ∧
        Added bits wanted (placesOf c r.toNat) x x' tl bl x.bs (false || !(x.bs.any fun b => hit bits (placesOf c r.toNat) b.oct))) := by
  obtain ⟨b0, tl0, hbs0⟩ : ∃ b0 tl0, x.bs = b0 :: tl0 := List.exists_cons_of_ne_nil (by rw [hbs]; simp)
  unfold Con
  w_on
  k_fill
  intro dp un gd cn cs a ccd cl outer A₀ base h₀ L m rest p loose mg mb s Q E B F X N T M hk hap hdp hun hbare hret
  w_top on
  refine wpAny_call ?_
  refine' enterR B F X N T ?kA ?kF ?kK hap ?k6 ?k7 ?k8 ?k9 ?kB ?_ ?c2 ?c3 ?c4 ?c5
  case kA => exact rfl
  case kF => exact rfl
  case kK => assumption
  case k6 => k_is
  case k7 => k_is
  case k8 => ktr_room
  case k9 => first | exact BindsTo.of_eq rfl | exact binds_K (X.keeps F.keep) rfl (by k_is) rfl rfl rfl
  case c5 => decide
  case kB => exact locs rfl
  case c2 => exact rfl
  case c3 => exact rfl
  case c4 => exact rfl
  intro g' L' h' F' N' B' X' T' hr' hlt' FG'
  have M' := M.keeps FG'.keep
  clear B F X N T FG' M
  try dsimp only
  try k_fold
  have hm1 : (b0.x, instObj 323 b0.d) ∈ List.flatMap (BR.objs bits wanted r) x.bs := List.mem_flatMap.mpr ⟨b0, by rw [hbs0]; exact .head _, .head _⟩
  have hm2 : (b0.d, dictOf (bloomDict bits wanted r b0.z b0.cnt b0.l) b0.n) ∈ List.flatMap (BR.objs bits wanted r) x.bs := List.mem_flatMap.mpr ⟨b0, by rw [hbs0]; exact .head _, .tail _ (.head _)⟩
  have hm3 : ∀ q ∈ b0.objs bits wanted r, q ∈ (405, tabObj ps) :: x.objsE bits wanted r lim tot := fun q hq => .tail _ (.tail _ (.tail _ (.tail _ (List.mem_flatMap.mpr ⟨b0, by rw [hbs0]; exact .head _, hq⟩))))
  iterate 8 (try walk_at "my step")
  dsimp only
  refine itemFirst N' (by k_mem) hbs0 ?_
  iterate 6 (try walk_at "my step")
  with_reducible rename Fr _ _ _ _ => F1
  with_reducible rename News _ _ _ _ => N1
  have C := c_hashes w bits wanted r hb hb' hr1 hr2 b0 c t1 hc hc'
  k_dflt (refine useConK C rfl B' F1 X' N1 T' M' rfl hm3 (fun v objs' h q hq => by obtain ⟨l, its, _, e, _⟩ := h; rw [e]; exact .tail _ hq) (by ktr_room) (by ktr_units) hbare ?_)
  rintro v objs' s' hos1 hb1 F2 N2' A2 ⟨l, its, rfl, rfl, hI, hA3⟩
  have N2 : News g' L' s'.heap ((405, tabObj ps) :: (l, listOf its.toArray its.length) :: x.objsE bits wanted r lim tot) := subN N2' fun q hq => by
    simp only [OR.objsE, List.mem_cons, List.mem_append] at hq ⊢
    grind
  have hhl : l ∉ x.adr := by
    rw [← adrE (bits := bits) (wanted := wanted) (r := r) (lim := lim) (tot := tot)]
    intro h
    obtain ⟨q, hq, e⟩ := List.mem_map.mp h
    by_cases h2 : q.1 ∈ (b0.objs bits wanted r).map (·.1)
    · obtain ⟨p, hp, e2⟩ := List.mem_map.mp h2
      exact hA3 p hp (e2.trans e)
    · exact A2 q (.tail _ hq) h2 _ (.head _) e
  clear N2'
  iterate 14 (try walk_at "my step")
  try dsimp only
  with_reducible rename Fr _ _ _ _ => F3
  with_reducible rename News _ _ _ _ => N3
  have C2 := c_altE w bits wanted r lim tot hb hb' hw hw' hr hr1 hr2 x hn hsep tl bl hbs hx hc0 (by omega) ps hps l its (placesOf c r.toNat) its.length hI (by simp only [placesOf, List.length_map, List.length_range]; omega) hhl false
  k_dflt (refine useCon C2 rfl B' F3 X' N3 T' M' rfl [] (fun _ h => h) (fun _ h => nomatch h) (fun _ h => nomatch h) (by ktr_room) (by ktr_units) hb1 ?_)
  rintro v objs' s2 hos2 hb2 F4 N4 - ⟨ps', x', hps', rfl, rfl, hhl', hA⟩
  iterate 6 (try walk_at "my step")
  rename_i zF zN zA
  refine hret _ _ _ (hos2.trans hos1) hb2 zF (takeN zN ?hs) (takeA zA ?hs) ⟨ps', x', hps', rfl, rfl, hA⟩
  case hs => exact fun q hq => (List.mem_append.mpr (.inl ((List.mem_cons.mp hq).elim (fun e => by rw [e]; exact .head _) fun hq => .tail _ (.tail _ hq))))
set_option maxHeartbeats 8000000 in
theorem c_addEF (w : World) (bits wanted r lim tot : Int) (hb : 4 ≤ bits) (hb' : bits ≤ 19) (hw : 1 ≤ wanted) (hw' : wanted ≤ 4) (hr : ((13862943611198906 * bits).fdiv wanted + 10000000000000000).fdiv (2 * 10000000000000000) = r) (hr1 : 1 ≤ r) (hr2 : r ≤ 13) (x : OR) (hn : x.bs.length ≤ 59) (hsep : x.Sep) (tl : List BR) (bl : BR) (hbs : x.bs = tl ++ [bl])
    (hx : ∀ b ∈ x.bs, b.Ok bits) (hc0 : 0 ≤ bl.cnt) (hc1 : bl.cnt ≤ wanted) (ps : Array Value) (hps : TriplesOk ps.toList)
    (c : Nat) (t1 : Tok) (hc : 97 ≤ c) (hc' : c ≤ 104) :
    Con w 20 418 [.ref x.o, .str (Str.mk #[c]) t1, .bool true] [] ((405, tabObj ps) :: x.objsE bits wanted r lim tot)
      (fun v objs' => ∃ (ps' : Array Value) (x' : OR), TriplesOk ps'.toList ∧ v = .none ∧ objs' = (405, tabObj ps') :: x'.objsE bits wanted r lim (tot + 1) ∧
        Added bits wanted (placesOf c r.toNat) x x' tl bl x.bs (true || !(x.bs.any fun b => hit bits (placesOf c r.toNat) b.oct))) := by
  obtain ⟨b0, tl0, hbs0⟩ : ∃ b0 tl0, x.bs = b0 :: tl0 := List.exists_cons_of_ne_nil (by rw [hbs]; simp)
  unfold Con
  w_on
  k_fill
  intro dp un gd cn cs a ccd cl outer A₀ base h₀ L m rest p loose mg mb s Q E B F X N T M hk hap hdp hun hbare hret
  w_top on
  refine wpAny_call ?_
  refine' enterR B F X N T ?kA ?kF ?kK hap ?k6 ?k7 ?k8 ?k9 ?kB ?_ ?c2 ?c3 ?c4 ?c5
  case kA => exact rfl
  case kF => exact rfl
  case kK => assumption
  case k6 => k_is
  case k7 => k_is
  case k8 => ktr_room
  case k9 => first | exact BindsTo.of_eq rfl | exact binds_K (X.keeps F.keep) rfl (by k_is) rfl rfl rfl
  case c5 => decide
  case kB => exact locs rfl
  case c2 => exact rfl
  case c3 => exact rfl
  case c4 => exact rfl
  intro g' L' h' F' N' B' X' T' hr' hlt' FG'
  have M' := M.keeps FG'.keep
  clear B F X N T FG' M
  try dsimp only
  try k_fold
  have hm1 : (b0.x, instObj 323 b0.d) ∈ List.flatMap (BR.objs bits wanted r) x.bs := List.mem_flatMap.mpr ⟨b0, by rw [hbs0]; exact .head _, .head _⟩
  have hm2 : (b0.d, dictOf (bloomDict bits wanted r b0.z b0.cnt b0.l) b0.n) ∈ List.flatMap (BR.objs bits wanted r) x.bs := List.mem_flatMap.mpr ⟨b0, by rw [hbs0]; exact .head _, .tail _ (.head _)⟩
  have hm3 : ∀ q ∈ b0.objs bits wanted r, q ∈ (405, tabObj ps) :: x.objsE bits wanted r lim tot := fun q hq => .tail _ (.tail _ (.tail _ (.tail _ (List.mem_flatMap.mpr ⟨b0, by rw [hbs0]; exact .head _, hq⟩))))
  iterate 8 (try walk_at "my step")
  dsimp only
  refine itemFirst N' (by k_mem) hbs0 ?_
  iterate 6 (try walk_at "my step")
  with_reducible rename Fr _ _ _ _ => F1
  with_reducible rename News _ _ _ _ => N1
  have C := c_hashes w bits wanted r hb hb' hr1 hr2 b0 c t1 hc hc'
  k_dflt (refine useConK C rfl B' F1 X' N1 T' M' rfl hm3 (fun v objs' h q hq => by obtain ⟨l, its, _, e, _⟩ := h; rw [e]; exact .tail _ hq) (by ktr_room) (by ktr_units) hbare ?_)
  rintro v objs' s' hos1 hb1 F2 N2' A2 ⟨l, its, rfl, rfl, hI, hA3⟩
  have N2 : News g' L' s'.heap ((405, tabObj ps) :: (l, listOf its.toArray its.length) :: x.objsE bits wanted r lim tot) := subN N2' fun q hq => by
    simp only [OR.objsE, List.mem_cons, List.mem_append] at hq ⊢
    grind
  have hhl : l ∉ x.adr := by
    rw [← adrE (bits := bits) (wanted := wanted) (r := r) (lim := lim) (tot := tot)]
    intro h
    obtain ⟨q, hq, e⟩ := List.mem_map.mp h
    by_cases h2 : q.1 ∈ (b0.objs bits wanted r).map (·.1)
    · obtain ⟨p, hp, e2⟩ := List.mem_map.mp h2
      exact hA3 p hp (e2.trans e)
    · exact A2 q (.tail _ hq) h2 _ (.head _) e
  clear N2'
  iterate 14 (try walk_at "my step")
  try dsimp only
  with_reducible rename Fr _ _ _ _ => F3
  with_reducible rename News _ _ _ _ => N3
  have C2 := c_altE w bits wanted r lim tot hb hb' hw hw' hr hr1 hr2 x hn hsep tl bl hbs hx hc0 (by omega) ps hps l its (placesOf c r.toNat) its.length hI (by simp only [placesOf, List.length_map, List.length_range]; omega) hhl true
  k_dflt (refine useCon C2 rfl B' F3 X' N3 T' M' rfl [] (fun _ h => h) (fun _ h => nomatch h) (fun _ h => nomatch h) (by ktr_room) (by ktr_units) hb1 ?_)
  rintro v objs' s2 hos2 hb2 F4 N4 - ⟨ps', x', hps', rfl, rfl, hhl', hA⟩
  iterate 6 (try walk_at "my step")
  rename_i zF zN zA
  refine hret _ _ _ (hos2.trans hos1) hb2 zF (takeN zN ?hs) (takeA zA ?hs) ⟨ps', x', hps', rfl, rfl, hA⟩
  case hs => exact fun q hq => (List.mem_append.mpr (.inl ((List.mem_cons.mp hq).elim (fun e => by rw [e]; exact .head _) fun hq => .tail _ (.tail _ hq))))
end
section
set_option maxHeartbeats 8000000 in
theorem c_addR (w : World) (bits wanted r lim tot : Int) (hb : 4 ≤ bits) (hb' : bits ≤ 19) (hw : 1 ≤ wanted) (hw' : wanted ≤ 4) (hr : ((13862943611198906 * bits).fdiv wanted + 10000000000000000).fdiv (2 * 10000000000000000) = r) (hr1 : 1 ≤ r) (hr2 : r ≤ 13) (x : OR) (hn : x.bs.length ≤ 59) (hsep : x.Sep) (tl : List BR) (bl : BR) (hbs : x.bs = tl ++ [bl])
    (hx : ∀ b ∈ x.bs, b.Ok bits) (hc0 : 0 ≤ bl.cnt) (hc1 : bl.cnt ≤ wanted) (ps : Array Value) (hps : TriplesOk ps.toList)
    (c : Nat) (t1 : Tok) (hc : 97 ≤ c) (hc' : c ≤ 104) :
    Con w 20 418 [.ref x.o, .str (Str.mk #[c]) t1] [] ((405, tabObj ps) :: x.objsR bits wanted r lim tot)
      (fun v objs' => ∃ (ps' : Array Value) (x' : OR), TriplesOk ps'.toList ∧ v = .none ∧ objs' = (405, tabObj ps') :: x'.objsR bits wanted r lim (tot + 1) ∧
        Added bits wanted (placesOf c r.toNat) x x' tl bl (keptR lim x.bs) (false || !(x.bs.any fun b => hit bits (placesOf c r.toNat) b.oct))) := by
  obtain ⟨b0, tl0, hbs0⟩ : ∃ b0 tl0, x.bs = b0 :: tl0 := List.exists_cons_of_ne_nil (by rw [hbs]; simp)
  unfold Con
  w_on
  k_fill
  intro dp un gd cn cs a ccd cl outer A₀ base h₀ L m rest p loose mg mb s Q E B F X N T M hk hap hdp hun hbare hret
  w_top on
  refine wpAny_call ?_
  refine' enterR B F X N T ?kA ?kF ?kK hap ?k6 ?k7 ?k8 ?k9 ?kB ?_ ?c2 ?c3 ?c4 ?c5
  case kA => exact rfl
  case kF => exact rfl
  case kK => assumption
  case k6 => k_is
  case k7 => k_is
  case k8 => ktr_room
  case k9 => first | exact BindsTo.of_eq rfl | exact binds_K (X.keeps F.keep) rfl (by k_is) rfl rfl rfl
  case c5 => decide
  case kB => exact locs rfl
  case c2 => exact rfl
  case c3 => exact rfl
  case c4 => exact rfl
  intro g' L' h' F' N' B' X' T' hr' hlt' FG'
  have M' := M.keeps FG'.keep
  clear B F X N T FG' M
  try dsimp only
  try k_fold
  have hm1 : (b0.x, instObj 323 b0.d) ∈ List.flatMap (BR.objs bits wanted r) x.bs := List.mem_flatMap.mpr ⟨b0, by rw [hbs0]; exact .head _, .head _⟩
  have hm2 : (b0.d, dictOf (bloomDict bits wanted r b0.z b0.cnt b0.l) b0.n) ∈ List.flatMap (BR.objs bits wanted r) x.bs := List.mem_flatMap.mpr ⟨b0, by rw [hbs0]; exact .head _, .tail _ (.head _)⟩
  have hm3 : ∀ q ∈ b0.objs bits wanted r, q ∈ (405, tabObj ps) :: x.objsR bits wanted r lim tot := fun q hq => .tail _ (.tail _ (.tail _ (.tail _ (List.mem_flatMap.mpr ⟨b0, by rw [hbs0]; exact .head _, hq⟩))))
  iterate 8 (try walk_at "my step")
  dsimp only
  refine itemFirst N' (by k_mem) hbs0 ?_
  iterate 6 (try walk_at "my step")
  with_reducible rename Fr _ _ _ _ => F1
  with_reducible rename News _ _ _ _ => N1
  have C := c_hashes w bits wanted r hb hb' hr1 hr2 b0 c t1 hc hc'
  k_dflt (refine useConK C rfl B' F1 X' N1 T' M' rfl hm3 (fun v objs' h q hq => by obtain ⟨l, its, _, e, _⟩ := h; rw [e]; exact .tail _ hq) (by ktr_room) (by ktr_units) hbare ?_)
  rintro v objs' s' hos1 hb1 F2 N2' A2 ⟨l, its, rfl, rfl, hI, hA3⟩
  have N2 : News g' L' s'.heap ((405, tabObj ps) :: (l, listOf its.toArray its.length) :: x.objsR bits wanted r lim tot) := subN N2' fun q hq => by
    simp only [OR.objsR, List.mem_cons, List.mem_append] at hq ⊢
    grind
  have hhl : l ∉ x.adr := by
    rw [← adrR (bits := bits) (wanted := wanted) (r := r) (lim := lim) (tot := tot)]
    intro h
    obtain ⟨q, hq, e⟩ := List.mem_map.mp h
    by_cases h2 : q.1 ∈ (b0.objs bits wanted r).map (·.1)
    · obtain ⟨p, hp, e2⟩ := List.mem_map.mp h2
      exact hA3 p hp (e2.trans e)
    · exact A2 q (.tail _ hq) h2 _ (.head _) e
  clear N2'
  iterate 14 (try walk_at "my step")
  try dsimp only
  with_reducible rename Fr _ _ _ _ => F3
  with_reducible rename News _ _ _ _ => N3
  have C2 := c_altR w bits wanted r lim tot hb hb' hw hw' hr hr1 hr2 x hn hsep tl bl hbs hx hc0 hc1 ps hps l its (placesOf c r.toNat) its.length hI (by simp only [placesOf, List.length_map, List.length_range]; omega) hhl false
  k_dflt (refine useCon C2 rfl B' F3 X' N3 T' M' rfl [] (fun _ h => h) (fun _ h => nomatch h) (fun _ h => nomatch h) (by ktr_room) (by ktr_units) hb1 ?_)
  rintro v objs' s2 hos2 hb2 F4 N4 - ⟨ps', x', hps', rfl, rfl, hhl', hA⟩
  iterate 6 (try walk_at "my step")
  rename_i zF zN zA
  refine hret _ _ _ (hos2.trans hos1) hb2 zF (takeN zN ?hs) (takeA zA ?hs) ⟨ps', x', hps', rfl, rfl, hA⟩
  case hs => exact fun q hq => (List.mem_append.mpr (.inl ((List.mem_cons.mp hq).elim (fun e => by rw [e]; exact .head _) fun hq => .tail _ (.tail _ hq))))
set_option maxHeartbeats 8000000 in
theorem c_addRF (w : World) (bits wanted r lim tot : Int) (hb : 4 ≤ bits) (hb' : bits ≤ 19) (hw : 1 ≤ wanted) (hw' : wanted ≤ 4) (hr : ((13862943611198906 * bits).fdiv wanted + 10000000000000000).fdiv (2 * 10000000000000000) = r) (hr1 : 1 ≤ r) (hr2 : r ≤ 13) (x : OR) (hn : x.bs.length ≤ 59) (hsep : x.Sep) (tl : List BR) (bl : BR) (hbs : x.bs = tl ++ [bl])
    (hx : ∀ b ∈ x.bs, b.Ok bits) (hc0 : 0 ≤ bl.cnt) (hc1 : bl.cnt ≤ wanted) (ps : Array Value) (hps : TriplesOk ps.toList)
    (c : Nat) (t1 : Tok) (hc : 97 ≤ c) (hc' : c ≤ 104) :
    Con w 20 418 [.ref x.o, .str (Str.mk #[c]) t1, .bool true] [] ((405, tabObj ps) :: x.objsR bits wanted r lim tot)
      (fun v objs' => ∃ (ps' : Array Value) (x' : OR), TriplesOk ps'.toList ∧ v = .none ∧ objs' = (405, tabObj ps') :: x'.objsR bits wanted r lim (tot + 1) ∧
        Added bits wanted (placesOf c r.toNat) x x' tl bl (keptR lim x.bs) (true || !(x.bs.any fun b => hit bits (placesOf c r.toNat) b.oct))) := by
  obtain ⟨b0, tl0, hbs0⟩ : ∃ b0 tl0, x.bs = b0 :: tl0 := List.exists_cons_of_ne_nil (by rw [hbs]; simp)
  unfold Con
  w_on
  k_fill
  intro dp un gd cn cs a ccd cl outer A₀ base h₀ L m rest p loose mg mb s Q E B F X N T M hk hap hdp hun hbare hret
  w_top on
  refine wpAny_call ?_
  refine' enterR B F X N T ?kA ?kF ?kK hap ?k6 ?k7 ?k8 ?k9 ?kB ?_ ?c2 ?c3 ?c4 ?c5
  case kA => exact rfl
  case kF => exact rfl
  case kK => assumption
  case k6 => k_is
  case k7 => k_is
  case k8 => ktr_room
  case k9 => first | exact BindsTo.of_eq rfl | exact binds_K (X.keeps F.keep) rfl (by k_is) rfl rfl rfl
  case c5 => decide
  case kB => exact locs rfl
  case c2 => exact rfl
  case c3 => exact rfl
  case c4 => exact rfl
  intro g' L' h' F' N' B' X' T' hr' hlt' FG'
  have M' := M.keeps FG'.keep
  clear B F X N T FG' M
  try dsimp only
  try k_fold
  have hm1 : (b0.x, instObj 323 b0.d) ∈ List.flatMap (BR.objs bits wanted r) x.bs := List.mem_flatMap.mpr ⟨b0, by rw [hbs0]; exact .head _, .head _⟩
  have hm2 : (b0.d, dictOf (bloomDict bits wanted r b0.z b0.cnt b0.l) b0.n) ∈ List.flatMap (BR.objs bits wanted r) x.bs := List.mem_flatMap.mpr ⟨b0, by rw [hbs0]; exact .head _, .tail _ (.head _)⟩
  have hm3 : ∀ q ∈ b0.objs bits wanted r, q ∈ (405, tabObj ps) :: x.objsR bits wanted r lim tot := fun q hq => .tail _ (.tail _ (.tail _ (.tail _ (List.mem_flatMap.mpr ⟨b0, by rw [hbs0]; exact .head _, hq⟩))))
  iterate 8 (try walk_at "my step")
  dsimp only
  refine itemFirst N' (by k_mem) hbs0 ?_
  iterate 6 (try walk_at "my step")
  with_reducible rename Fr _ _ _ _ => F1
  with_reducible rename News _ _ _ _ => N1
  have C := c_hashes w bits wanted r hb hb' hr1 hr2 b0 c t1 hc hc'
  k_dflt (refine useConK C rfl B' F1 X' N1 T' M' rfl hm3 (fun v objs' h q hq => by obtain ⟨l, its, _, e, _⟩ := h; rw [e]; exact .tail _ hq) (by ktr_room) (by ktr_units) hbare ?_)
  rintro v objs' s' hos1 hb1 F2 N2' A2 ⟨l, its, rfl, rfl, hI, hA3⟩
  have N2 : News g' L' s'.heap ((405, tabObj ps) :: (l, listOf its.toArray its.length) :: x.objsR bits wanted r lim tot) := subN N2' fun q hq => by
    simp only [OR.objsR, List.mem_cons, List.mem_append] at hq ⊢
    grind
  have hhl : l ∉ x.adr := by
    rw [← adrR (bits := bits) (wanted := wanted) (r := r) (lim := lim) (tot := tot)]
    intro h
    obtain ⟨q, hq, e⟩ := List.mem_map.mp h
    by_cases h2 : q.1 ∈ (b0.objs bits wanted r).map (·.1)
    · obtain ⟨p, hp, e2⟩ := List.mem_map.mp h2
      exact hA3 p hp (e2.trans e)
    · exact A2 q (.tail _ hq) h2 _ (.head _) e
  clear N2'
  iterate 14 (try walk_at "my step")
  try dsimp only
  with_reducible rename Fr _ _ _ _ => F3
  with_reducible rename News _ _ _ _ => N3
  have C2 := c_altR w bits wanted r lim tot hb hb' hw hw' hr hr1 hr2 x hn hsep tl bl hbs hx hc0 hc1 ps hps l its (placesOf c r.toNat) its.length hI (by simp only [placesOf, List.length_map, List.length_range]; omega) hhl true
  k_dflt (refine useCon C2 rfl B' F3 X' N3 T' M' rfl [] (fun _ h => h) (fun _ h => nomatch h) (fun _ h => nomatch h) (by ktr_room) (by ktr_units) hb1 ?_)
  rintro v objs' s2 hos2 hb2 F4 N4 - ⟨ps', x', hps', rfl, rfl, hhl', hA⟩
  iterate 6 (try walk_at "my step")
  rename_i zF zN zA
  refine hret _ _ _ (hos2.trans hos1) hb2 zF (takeN zN ?hs) (takeA zA ?hs) ⟨ps', x', hps', rfl, rfl, hA⟩
  case hs => exact fun q hq => (List.mem_append.mpr (.inl ((List.mem_cons.mp hq).elim (fun e => by rw [e]; exact .head _) fun hq => .tail _ (.tail _ hq))))
end
section
set_option maxHeartbeats 8000000 in
theorem c_pushE (w : World) (bits wanted r lim tot : Int) (hb : 4 ≤ bits) (hb' : bits ≤ 19) (hw : 1 ≤ wanted) (hw' : wanted ≤ 4) (hr : ((13862943611198906 * bits).fdiv wanted + 10000000000000000).fdiv (2 * 10000000000000000) = r) (hr1 : 1 ≤ r) (hr2 : r ≤ 13) (x : OR) (hn : x.bs.length ≤ 60) (hsep : x.Sep) :
    Con w 14 396 [.ref x.o] [] (x.objsE bits wanted r lim tot)
      (fun v objs' => ∃ (b : BR) (x' : OR), v = .none ∧ b.cnt = 0 ∧ IntsAre b.its b.oct ∧ b.oct = List.replicate (-(-bits).fdiv 8).toNat 0 ∧ x'.o = x.o ∧ x'.d = x.d ∧ x'.l = x.l ∧ x'.bs = x.bs ++ [b] ∧ objs' = x'.objsE bits wanted r lim tot ∧ x'.Sep) := by
  unfold Con
  w_on
  k_fill
  intro dp un gd cn cs a ccd cl outer A₀ base h₀ L m rest p loose mg mb s Q E B F X N T M hk hap hdp hun hbare hret
  w_top on
  refine wpAny_call ?_
  refine' enterR B F X N T ?kA ?kF ?kK hap ?k6 ?k7 ?k8 ?k9 ?kB ?_ ?c2 ?c3 ?c4 ?c5
  case kA => exact rfl
  case kF => exact rfl
  case kK => assumption
  case k6 => k_is
  case k7 => k_is
  case k8 => ktr_room
  case k9 => first | exact BindsTo.of_eq rfl | exact binds_K (X.keeps F.keep) rfl (by k_is) rfl rfl rfl
  case c5 => decide
  case kB => exact locs rfl
  case c2 => exact rfl
  case c3 => exact rfl
  case c4 => exact rfl
  intro g' L' h' F' N' B' X' T' hr' hlt' FG'
  have M' := M.keeps FG'.keep
  clear B F X N T FG' M
  try dsimp only
  try k_fold
  iterate 6 (try walk_at "my step")
  with_reducible rename Fr _ _ _ _ => F1
  with_reducible rename News _ _ _ _ => N1
  try dsimp only
  have C := c_newE w bits wanted r lim tot hb hb' hw hw' hr hr1 hr2 x hn hsep
  k_dflt (refine useCon C rfl B' F1 X' N1 T' M' rfl [] (fun _ h => h) (fun _ h => nomatch h) (fun _ h => nomatch h) (by ktr_room) (by ktr_units) hbare ?_)
  rintro v objs' s2 hos2 hb2 F4 N4 - ⟨b, x', rfl, h1, h2, h3, h4, h5, h6, h7, rfl, h8⟩
  iterate 6 (try walk_at "my step")
  rename_i zF zN zA
  refine hret _ _ _ hos2 hb2 zF (takeN zN ?hs) (takeA zA ?hs) ⟨b, x', rfl, h1, h2, h3, h4, h5, h6, h7, rfl, h8⟩
  case hs => exact fun q hq => List.mem_append.mpr (.inl hq)
set_option maxHeartbeats 8000000 in
theorem c_pushR (w : World) (bits wanted r lim tot : Int) (hb : 4 ≤ bits) (hb' : bits ≤ 19) (hw : 1 ≤ wanted) (hw' : wanted ≤ 4) (hr : ((13862943611198906 * bits).fdiv wanted + 10000000000000000).fdiv (2 * 10000000000000000) = r) (hr1 : 1 ≤ r) (hr2 : r ≤ 13) (x : OR) (hn : x.bs.length ≤ 60) (hsep : x.Sep) (tl : List BR) (bl : BR) (hbs : x.bs = tl ++ [bl]) :
    Con w 16 502 [.ref x.o] [] (x.objsR bits wanted r lim tot)
      (fun v objs' => ∃ (x' : OR), v = .none ∧ x'.o = x.o ∧ x'.d = x.d ∧ x'.l = x.l ∧ objs' = x'.objsR bits wanted r lim tot ∧ x'.Sep ∧
        ∃ b : BR, b.cnt = 0 ∧ IntsAre b.its b.oct ∧ b.oct = List.replicate (-(-bits).fdiv 8).toNat 0 ∧ x'.bs = keptR lim x.bs ++ [b]) := by
  unfold Con
  w_on
  k_fill
  intro dp un gd cn cs a ccd cl outer A₀ base h₀ L m rest p loose mg mb s Q E B F X N T M hk hap hdp hun hbare hret
  w_top on
  refine wpAny_call ?_
  refine' enterR B F X N T ?kA ?kF ?kK hap ?k6 ?k7 ?k8 ?k9 ?kB ?_ ?c2 ?c3 ?c4 ?c5
  case kA => exact rfl
  case kF => exact rfl
  case kK => assumption
  case k6 => k_is
  case k7 => k_is
  case k8 => ktr_room
  case k9 => first | exact BindsTo.of_eq rfl | exact binds_K (X.keeps F.keep) rfl (by k_is) rfl rfl rfl
  case c5 => decide
  case kB => exact locs rfl
  case c2 => exact rfl
  case c3 => exact rfl
  case c4 => exact rfl
  intro g' L' h' F' N' B' X' T' hr' hlt' FG'
  have M' := M.keeps FG'.keep
  clear B F X N T FG' M
  try dsimp only
  try k_fold
  iterate 10 (try walk_at "my step")
  with_reducible rename Fr _ _ _ _ => F1
  with_reducible rename News _ _ _ _ => N1
  try dsimp only
  have C := c_rotRF w bits wanted r lim tot hb hb' hw hw' hr hr1 hr2 x hn hsep tl bl hbs
  k_dflt (refine useCon C rfl B' F1 X' N1 T' M' rfl [] (fun _ h => h) (fun _ h => nomatch h) (fun _ h => nomatch h) (by ktr_room) (by ktr_units) hbare ?_)
  rintro v objs' s2 hos2 hb2 F4 N4 - ⟨x', rfl, h4, h5, h6, rfl, h8, h9⟩
  iterate 6 (try walk_at "my step")
  rename_i zF zN zA
  refine hret _ _ _ hos2 hb2 zF (takeN zN ?hs) (takeA zA ?hs) ⟨x', rfl, h4, h5, h6, rfl, h8, h9⟩
  case hs => exact fun q hq => List.mem_append.mpr (.inl hq)
end
section
set_option maxHeartbeats 8000000 in
theorem c_popR (w : World) (bits wanted r lim tot : Int) (x : OR) (hn : x.bs.length ≤ 60) (hsep : x.Sep) (hn1 : x.bs.length ≠ 1) (hn0 : x.bs ≠ []) :
    Con w 14 495 [.ref x.o] [] (x.objsR bits wanted r lim tot)
      (fun v objs' => ∃ (x' : OR), v = .none ∧ x'.o = x.o ∧ x'.d = x.d ∧ x'.l = x.l ∧ objs' = x'.objsR bits wanted r lim tot ∧ x'.Sep ∧ x'.bs = x.bs.tail) := by
  obtain ⟨b0, tl0, hbs0⟩ : ∃ b0 tl0, x.bs = b0 :: tl0 := List.exists_cons_of_ne_nil hn0
  unfold Con
  w_on
  k_fill
  intro dp un gd cn cs a ccd cl outer A₀ base h₀ L m rest p loose mg mb s Q E B F X N T M hk hap hdp hun hbare hret
  w_top on
  refine wpAny_call ?_
  refine' enterR B F X N T ?kA ?kF ?kK hap ?k6 ?k7 ?k8 ?k9 ?kB ?_ ?c2 ?c3 ?c4 ?c5
  case kA => exact rfl
  case kF => exact rfl
  case kK => assumption
  case k6 => k_is
  case k7 => k_is
  case k8 => ktr_room
  case k9 => first | exact BindsTo.of_eq rfl | exact binds_K (X.keeps F.keep) rfl (by k_is) rfl rfl rfl
  case c5 => decide
  case kB => exact locs rfl
  case c2 => exact rfl
  case c3 => exact rfl
  case c4 => exact rfl
  intro g' L' h' F' N' B' X' T' hr' hlt' FG'
  have M' := M.keeps FG'.keep
  clear B F X N T FG' M
  try dsimp only
  try k_fold
  have hlenq : (refsOf x.bs).length < 2 ^ 62 := by rw [List.length_map]; omega
  have hlenr : ((refsOf x.bs).length : Int) ≠ 1 := by rw [List.length_map]; omega
  iterate 40 (try walk_at "my step")
  try dsimp only
  with_reducible rename Fr _ _ _ _ => F5
  with_reducible rename News _ _ _ _ => N5
  k_dflt (refine popRow hsep hbs0 hn F5 N5 ?_)
  clear F5 N5
  intro h' F5 N5
  have hsep5 : OR.Sep ⟨x.o, x.d, x.l, x.z, x.n, x.k + 1, tl0⟩ := OR.Sep.pop (z := x.z) (n := x.n) (k := x.k) (b0 := b0) (hbs0 ▸ hsep)
  iterate 6 (try walk_at "my step")
  rename_i zF zN zA
  refine hret _ _ _ rfl hbare zF (takeN zN ?hs) (takeA zA ?hs) ⟨⟨x.o, x.d, x.l, x.z, x.n, x.k + 1, tl0⟩, rfl, rfl, rfl, rfl, rfl, hsep5, by rw [hbs0]; rfl⟩
  case hs => exact fun q hq => hq
end
end Mine
end
section
open PySem PySem.W PyProof.Rows PySem.Calls
namespace Mine
local macro_rules | `(tactic| walk_at "LeaveR") => `(tactic| (refine' leaveR_ ?kF ?kN ?_; (case kF => k_asm); (case kN => k_asm); intro zF zN zA; (try dsimp only)))
local macro_rules | `(tactic| walk_at "eval Name") => `(tactic| (k_here; (with_reducible show wpAny _ _ (eval (Expr.Name _ _) (compEnvC _ _ _ _)) _ _ _); k_dflt (first
  | refine inBlock_global (by k_asm) (by k_asm) (by k_asm) (by k_is) ?_
  | refine inBlock_built (by k_asm) (by k_asm) (by k_asm) (by k_is) (by boot_by_name) (by decide) ?_)))
local macro_rules | `(tactic| walk_at "binaryOp Add") => `(tactic| (k_here; (with_reducible show wpAny _ _ (binaryOp _ (Value.ref _) (Value.ref _)) _ _ _); (with_reducible rename News _ _ _ _ => kN); simp only [slice1] at kN))
local macro_rules | `(tactic| walk_at "binaryOp Add ref ref") => `(tactic| (k_here; (with_reducible show wpAny _ _ (binaryOp _ (Value.ref _) (Value.ref _)) _ _ _); k_dflt (refine' addN ?F ?N ?a ?b ?z ?_; (case F => k_asm); (case N => k_asm); (case a => k_mem); (case b => k_mem); (case z => first | omega | (simp only [List.length_append, List.length_drop, List.length_cons, List.length_nil]; omega)); k_whole); intro D' h' F' N' l1; (try k_lt l1); (try k_sweep)))
local macro_rules | `(tactic| walk_at "my subset") => `(tactic| first | exact List.forall_mem_nil _ | (refine' List.forall_mem_cons.mpr ⟨?za, ?zb⟩; (case za => k_mem); (case zb => walk_at "my subset")) | (intro q9 hq9; walk_at "my tail"))
local macro_rules | `(tactic| walk_at "my tail") => `(tactic| first | assumption | (refine' List.Mem.tail _ ?_; walk_at "my tail"))
local macro_rules | `(tactic| walk_at "assign Tuple") => `(tactic| (k_here; (with_reducible show wpAny _ _ (assign (Expr.Tuple _ _ _) _ (Value.ref _)) _ _ _); k_dflt (refine' unpackN_ ?F ?N ⟨_, News.get ?N2 ?m, rfl, _, rfl⟩ rfl rfl rfl ?_; (case F => k_asm); (case N => k_asm); (case N2 => k_asm); (case m => k_mem); k_whole); intro h' F' N'; (try dsimp only); (try k_sweep)))
local macro_rules | `(tactic| k_mem) => `(tactic| ((with_reducible show List.Mem _ (List.flatMap _ _)); refine memOf ?_; assumption))
local macro_rules | `(tactic| k_all) => `(tactic| ((with_reducible show ∀ q ∈ List.flatMap _ _, _); refine' flatNe ?h ?z; (case h => assumption); (case z => (try dsimp only); omega)))
local macro_rules | `(tactic| walk_at "my bound") => do
  let a := Lean.mkIdent `hq0
  let b := Lean.mkIdent `hq1
  let c := Lean.mkIdent `hz0
  let d := Lean.mkIdent `hz1
  let e := Lean.mkIdent `hq2
  `(tactic| first | with_reducible assumption | exact $a _ | exact $b _ | exact $e _ | exact $c _ (by assumption) | exact $d _ (by assumption) | omega)
local macro_rules | `(tactic| walk_at "subscriptTail") => `(tactic| (k_here; (with_reducible show wpAny _ _ (subscriptTail _ _ (Value.ref _) (Value.int _ _)) _ _ _); k_dflt (refine' itemInts ?N ?m ?i ?z ?y ?x ?_ ?s ?g; (case s => with_unfolding_all rfl); (case g => intro _; with_unfolding_all rfl); (case N => k_asm); (case m => k_mem); (case i => assumption); (case z => walk_at "my bound"); (case y => walk_at "my bound"); (case x => (try simp only [List.length_map, List.length_range]); omega); k_whole); intro t'))
local macro_rules | `(tactic| k_enter) => `(tactic| (refine' inlineT ?k1 ?k2 ?k3 ?k4 ?k5 ?kA ?kF ?kK ?k6 ?k7 ?k8 ?k9 ?kB ?_ ?c2 ?c3 ?c4 ?c5; (case kA => exact rfl); (case kF => exact rfl); (case kK => first | exact rfl | assumption); (case k1 => k_asm); (case k2 => k_asm); (case k3 => k_asm); (case k4 => k_asm); (case k5 => k_asm); (case k6 => k_is); (case k7 => k_is); (case k8 => ktr_room); (case k9 => first | exact BindsTo.of_eq rfl | exact binds_K (by k_in) rfl (by k_is) rfl rfl rfl); (case c5 => decide); (case kB => exact locs rfl); (case c2 => exact rfl); (case c3 => exact rfl); (case c4 => exact rfl); k_whole; intro g' L' h' FG' F' N' B' X' T' l1; (try k_lt l1); (try dsimp only); (try k_lift B'); (try k_fold)))
local macro_rules | `(tactic| walk_at "my step") => `(tactic| first | (k_unfold; (try dsimp only)) | (k_end; wrow_close) | walk1 | (dsimp only; walk1) | (leave1; walk_say "STEP leave1"; try dsimp only))
local macro_rules | `(tactic| walk_at "ite") => `(tactic| (k_here; first | (refine PySem.W.ite_neg (by (try simp only [decide_eq_true_eq, beq_iff_eq, bne_iff_ne, ne_eq, Bool.not_eq_true', decide_eq_false_iff_not]); omega) ?_) | (refine PySem.W.ite_pos (by (try simp only [decide_eq_true_eq, beq_iff_eq, bne_iff_ne, ne_eq, Bool.not_eq_true', decide_eq_false_iff_not]); omega) ?_)))
local macro_rules | `(tactic| walk_at "binaryOp LShift int int") => `(tactic| (k_here; k_dflt (refine shift1 ?_)))
local macro_rules | `(tactic| walk_at "setItem ref int") => `(tactic| (k_here; (with_reducible show wpAny _ _ (setItem (Value.ref _) (Value.int _ _) (Value.int _ _)) _ _ _); k_dflt (refine' ksa_set ?k1 ?k2 ?k3 ?k4 ?k5 ?k6 ?k7 ?_; (case k1 => k_asm); (case k2 => k_asm); (case k3 => k_upd); (case k4 => with_reducible assumption); (case k5 => walk_at "my bound"); (case k6 => walk_at "my bound"); (case k7 => walk_at "my bound"); k_whole); intro h' F' N' hi' hl' hsum'))
local macro_rules | `(tactic| walk_at "my put") => `(tactic| first | exact PutL.head | (refine' PutL.tail ?za ?zb; (case za => rfl); (case zb => walk_at "my put")))
local macro_rules | `(tactic| walk_at "setAttr ref") => `(tactic| (k_here; k_dflt (refine' set_dict ?k1 ?k2 ?k3 ?k4 ?k5 ?k6 ?k7 ?k8 ?k9 ?k10 ?k11 ?k12 ?k13 ?_; (case k1 => k_asm); (case k2 => k_asm); (case k3 => k_asm); (case k4 => k_inst); (case k5 => exact rfl); (case k6 => k_is); (case k7 => k_is); (case k8 => k_is); (case k9 => k_is); (case k10 => k_get); (case k11 => (refine' PutL.eq ?zp _ _ _; (case zp => walk_at "my put"))); (case k12 => k_upd); (case k13 => exact Nat.le_of_ble_eq_true rfl); k_whole; intro h' F' N'; (try k_sweep))))
local macro_rules | `(tactic| walk_at "getAttr ref") => `(tactic| (k_here; k_dflt (refine' get_own ?k1 ?k2 ?k3 ?k4 ?k5 ?k6 ?k7 ?k8 ?k9 ?_; (case k1 => k_asm); (case k2 => k_asm); (case k3 => k_inst); (case k4 => k_is); (case k5 => k_is); (case k6 => k_is); (case k7 => k_is); (case k8 => k_get); (case k9 => k_handed); k_whole)))
local macro_rules | `(tactic| walk_at "getMethod ref") => `(tactic| (k_here; k_dflt (refine' method_inst ?k1 ?k2 ?k3 ?k4 ?k5 ?k6 ?k7 ?_; (case k1 => k_asm); (case k2 => k_asm); (case k3 => k_inst); (case k4 => k_is); (case k5 => k_is); (case k6 => k_is); (case k7 => k_get); k_whole)))
local macro_rules | `(tactic| walk_at "getMethod ref") => `(tactic| (k_here; (with_reducible show wpAny _ _ (getMethod (Value.ref _) (Str.ofString "_hash_func") _) _ _ _); k_dflt (refine' kmu_own ?k1 ?k2 ?k3 ?k4 ?k5 ?_; (case k1 => k_asm); (case k2 => k_asm); (case k3 => k_inst); (case k4 => k_is); (case k5 => k_is); k_whole)))
local macro_rules | `(tactic| walk_at "getMethod ref") => `(tactic| (k_here; (with_reducible show wpAny _ _ (getMethod (Value.ref _) (Str.ofString "_get_optimized_params") _) _ _ _); k_dflt (refine' kmu_cm ?k1 ?k2 ?k3 ?k4 ?k5 ?k6 ?k7 ?k8 ?k9 ?k10 ?k11 ?k12 ?k13 ?_; (case k1 => k_asm); (case k2 => k_asm); (case k3 => k_asm); (case k4 => k_inst); (case k5 => k_is); (case k6 => k_is); (case k7 => k_is); (case k8 => k_is); (case k9 => k_is); (case k10 => k_is); (case k11 => decide +kernel); (case k12 => k_get); (case k13 => k_is); k_whole; intro q' h' F' N' l1; (try k_lt l1); (try k_sweep))))
local macro_rules | `(tactic| walk_at "call builtin:len") => `(tactic| (k_here; (with_reducible show wpAny _ _ (call (Value.builtin _) [Value.ref _]) _ _ _); k_dflt (refine' lenN ?N ?m ?f ?_; (case N => k_asm); (case m => k_mem); (case f => first | assumption | omega | (simp only [List.length_append, List.length_cons, List.length_nil]; omega)); k_whole)))
local macro_rules | `(tactic| walk_at "callWith ref") => `(tactic| (k_here; k_dflt (refine' boundKw ?k0 ?k1 ?k2 ?k3 ?k4 ?_; (case k0 => k_asm); (case k1 => k_asm); (case k2 => k_mem); (case k3 => k_is); (case k4 => exact rfl); k_whole)))
local macro_rules | `(tactic| walk_at "wpAt") => `(tactic| ((with_reducible show _root_.PySem.wpAt _ _ _ (eval (Expr.Call (Expr.Attribute _ _ _) _ (_ :: _) _) _) _ _ _); refine superKw ?_))
local macro_rules | `(tactic| walk_at "my super") => `(tactic| (refine' superT ?k1 ?k2 ?k3 ?k4 ?k5 ?kA ?kF ?kK ?k6 ?k7 ?k8 ?k9 ?kB ?_ ?c1 ?c2 ?c3 ?c4; (case kA => exact rfl); (case kF => exact rfl); (case kK => first | exact rfl | assumption); (case k1 => k_asm); (case k2 => k_asm); (case k3 => k_asm); (case k4 => k_asm); (case k5 => k_asm); (case k6 => k_is); (case k7 => k_is); (case k8 => ktr_room); (case k9 => first | exact BindsTo.of_eq rfl | exact binds_K (by k_in) rfl (by k_is) rfl rfl rfl); (case kB => exact locs rfl); (case c1 => decide); (case c2 => exact rfl); (case c3 => exact rfl); (case c4 => exact rfl); intro g' L' h' FG' F' N' B' X' T' l1; (try k_lt l1); (try dsimp only); (try k_lift B')))
local macro_rules | `(tactic| walk_at "call ref") => `(tactic| (k_here; ks_any; k_dflt (first
  | (refine' call_cls ?k1 ?k2 ?k3 ?k4 ?k5 ?k6 ?_; (case k1 => k_asm); (case k2 => k_asm); (case k3 => k_asm); (case k4 => k_is); (case k5 => k_is); (case k6 => k_is); intro x' d' h' F' N' l1 l2; (try k_lt l1); (try k_lt2 l2); walk_at "my super")
  | (refine' call_meth ?k1 ?k2 ?_; (case k1 => k_asm); (case k2 => k_mem); walk_at "my super")
  | (refine wpAny_call ?_; walk_at "my super"))))
local macro_rules | `(tactic| walk_at "wpAt") => `(tactic| (ks_step "attributeBase Call"; k_here; k_dflt (refine superNode (by k_asm) (by k_asm) (by k_asm) (by k_asm) (by k_is) (by rfl) (by rfl) (by k_inst) (by k_is) (by rfl) (by first | rfl | decide +kernel) (by k_is) (by k_is) (by k_is) (by k_is) (by decide) (by rfl) (by rfl) (by rfl) (by rfl) (by decide +kernel) (by first | boot_by_name | rfl | kernel_rfl) ?_; intro so' h' F' N' l1; (try k_lt l1))))
local macro_rules | `(tactic| walk_at "no such key") => `(tactic| fail)
local macro_rules | `(tactic| walk_at "no such key") => `(tactic| fail)
section
set_option maxHeartbeats 8000000 in
theorem c_rowR (w : World) (bits wanted r lim : Int) (t1 t2 t3 : Tok) (hb : 4 ≤ bits) (hb' : bits ≤ 19) (hw : 1 ≤ wanted) (hw' : wanted ≤ 4) (hr : ((13862943611198906 * bits).fdiv wanted + 10000000000000000).fdiv (2 * 10000000000000000) = r) (hr1 : 1 ≤ r) (hr2 : r ≤ 13) :
    Con w 18 520 [.int wanted t1, .int bits t2, .int lim t3] [(Str.ofString "hash_function", .ref 534)] []
      (fun v objs' => ∃ (b : BR) (x : OR), v = .ref x.o ∧ objs' = x.objsR bits wanted r lim 0 ∧ x.Sep ∧ x.bs = [b] ∧ b.cnt = 0 ∧ IntsAre b.its b.oct ∧ b.oct = List.replicate (-(-bits).fdiv 8).toNat 0) := by
  unfold Con
  w_on
  k_fill
  intro dp un gd cn cs a ccd cl outer A₀ base h₀ L m rest p loose mg mb s Q E B F X N T M hk hap hdp hun hbare hret
  w_top on
  (try simp only [List.nil_append] at N)
  iterate 74 (try walk_at "my step")
  rename_i x' d' h10 F4 N4 l15 l2 g1 L1 h9 FG1 F3 N3 B1 X1 T1 l14 so' h8 F2 N2 l13 q' h7 F1 N1 l12 g' L' h6 FG' B' X' T' l11 l' h5 l1 h4 tk1 h3 h2 h1 h0 F9 N9
  have M1 := M.keeps FG1.keep
  have M' := M1.keeps FG'.keep
  have N8 := subN (b := (l', listOf #[] 0) :: (x', instObj 520 d') :: _ :: rest) N9 (fun q hq => by
    rcases List.mem_cons.mp hq with rfl | hq
    · exact .head _
    rcases List.mem_cons.mp hq with rfl | hq
    · exact .tail _ (.tail _ (.tail _ (.head _)))
    · exact .tail _ (.tail _ (.tail _ (.tail _ hq))))
  have hz9 := packNewM (r := r) N8
  clear N9 N8
  obtain ⟨z9, hsep, N3'⟩ := hz9
  have hapr : ∀ q ∈ rest, ∀ b ∈ OR.objsM bits wanted r 0 0 ⟨x', d', l', z9, 5, 0, []⟩, q.1 ≠ b.1 := by
    intro q hq b hb
    have e1 := l15 q hq
    have e2 := ktn_ltOf l1.2.2.2.2 q hq
    have e3 := l2
    simp only [OR.objsM, blObjs, List.flatMap_nil, List.mem_cons, List.not_mem_nil, or_false] at hb
    rcases hb with rfl | rfl | rfl
    · exact Nat.ne_of_lt (Nat.lt_trans e1 e3)
    · exact Nat.ne_of_lt e1
    · exact Nat.ne_of_lt e2
  clear N1 N2 N3 F1 F2 F3 F4 N4
  iterate 1 (try walk_at "my step")
  try dsimp only
  with_reducible rename Fr _ _ _ _ => F3
  with_reducible rename News _ _ _ _ => N3
  have C := c_newM w bits wanted r 0 0 hb hb' hw hw' hr hr1 hr2 ⟨x', d', l', z9, 5, 0, []⟩ (Nat.zero_le _) hsep
  k_dflt (refine useCon C rfl B' F3 X' N3 T' M' rfl rest (fun _ h => List.mem_append_left _ h) (fun _ h => List.mem_append_right _ h) hapr (show dp + 1 + 1 + 1 + 12 < recursionLimit by omega) (show un + 1 + 3 + 3 + 8 * 12 < cLine by omega) hbare ?_)
  rintro v objs' s2 hos2 hb2 F4 N4 A4 ⟨b, x1, rfl, e1, e2, e3, e4, e5, e6, e7, rfl, e8⟩
  obtain ⟨o5, d5, l5, z5, n5, k5, bs5⟩ := x1
  dsimp only at e4 e5 e6 e7
  subst e4 e5 e6 e7
  have hapd : ∀ q ∈ rest, q.1 ≠ d5 := fun q hq => A4 q hq _ (.tail _ (.head _))
  iterate 7 (try walk_at "my step")
  with_reducible rename Fr _ _ _ _ => F5
  with_reducible rename News _ _ _ _ => N5
  have N6 : News g1 L1 s2.heap ((o5, instObj 520 d5) :: (d5, dictOf (eDict bits wanted 0 z5 0 l5) n5) :: (l5, listOf (refsOf ([] ++ [b])).toArray k5) :: (blObjs bits wanted r ([] ++ [b]) ++ rest)) := N5
  clear N5
  k_here
  k_dflt (refine' set_dict F5 ?k2 N6 ?k4 ?k5 ?k6 ?k7 ?k8 ?k9 ?k10 ?k11 ?k12 ?k13 ?_; (case k2 => k_asm); (case k4 => k_inst); (case k5 => exact rfl); (case k6 => k_is); (case k7 => k_is); (case k8 => k_is); (case k9 => k_is); (case k10 => k_get); (case k11 => exact rfl); (case k12 => exact updFull (x := ⟨o5, d5, l5, z5, n5, k5, [] ++ [b]⟩) e8 hapd _ _); (case k13 => exact Nat.le_of_ble_eq_true rfl); k_whole)
  intro h8 F8 N8
  have hz := packFull (x := ⟨o5, d5, l5, z5, n5, k5, [] ++ [b]⟩) N8
  clear N8
  obtain ⟨z8, N8⟩ := hz
  iterate 6 (try walk_at "my step")
  rename_i zF zN zX
  have A9 : ∀ q ∈ rest, ∀ b9 ∈ OR.objsR bits wanted r lim 0 ⟨o5, d5, l5, z8, n5 + 1, k5, [] ++ [b]⟩, q.1 ≠ b9.1 := by
    intro q hq b9 hb9 e
    have h7 : b9.1 ∈ OR.adr ⟨o5, d5, l5, z5, n5, k5, [] ++ [b]⟩ := by
      have h6 := List.mem_map_of_mem (f := (·.1)) hb9
      rw [adrR] at h6
      exact h6
    rw [← adrM (bits := bits) (wanted := wanted) (r := r) (lim := 0) (tot := 0)] at h7
    obtain ⟨q2, hq2, e2⟩ := List.mem_map.mp h7
    exact A4 q hq q2 hq2 (e.trans e2.symm)
  exact hret _ _ _ hos2 hb2 zF zN A9 ⟨b, ⟨o5, d5, l5, z8, n5 + 1, k5, [] ++ [b]⟩, rfl, rfl, e8, rfl, e1, e2, e3⟩
end
section
local macro_rules | `(tactic| k_inst) => `(tactic| (refine' exc_at1 (News.get ?N1 ?m1) (News.get ?N2 ?m2); (case N1 => k_asm); (case m1 => k_mem); (case N2 => k_asm); (case m2 => k_mem)))
local macro_rules | `(tactic| walk_at "getAttr ref") => `(tactic| (k_here; k_dflt (refine' exc_get ?k1 ?k2 ?k3 ?k4 ?k5 ?k6 ?k7 ?k8 ?k9 ?_; (case k1 => k_asm); (case k2 => k_asm); (case k3 => k_inst); (case k4 => k_is); (case k5 => rfl); (case k6 => k_is); (case k7 => k_is); (case k8 => exact findObj_own (by k_is) (by k_is) (by k_is) (by rfl)); (case k9 => k_handed); k_whole)))
set_option maxHeartbeats 8000000 in
theorem c_exc (w : World) (v : Str) (t1 : Tok) :
    Con w 8 90 [.str v t1] [] []
      (fun r objs' => ∃ (x d t : Addr) (es : List DictEntry) (n : Nat), r = .ref x ∧ objs' = [(x, excObj 90 t (some d)), (d, dictOf es n), (t, tupOf [.str v t1])]) := by
  unfold Con
  w_on
  k_fill
  intro dp un gd cn cs a ccd cl outer A₀ base h₀ L m rest p loose mg mb s Q E B F X N T M hk hap hdp hun hbare hret
  w_top on
  (try simp only [List.nil_append] at N)
  k_here
  k_dflt (refine' exc_make F N (X.keeps F.keep) ?k1 ?k2 ?k3 ?_; (case k1 => k_is); (case k2 => k_is); (case k3 => k_is))
  intro x t h' F' N' l1 l2
  walk_at "my super"
  iterate 5 (try walk_at "my step")
  rename_i g1 L1 h1 FG1 F1 N1 B1 X1 T1 l3
  have hxr : ∀ q ∈ rest, q.1 < x := fun q hq => Nat.lt_trans (l1 q hq) l2
  k_here
  k_dflt (refine' exc_set0 F1 X1 N1 ?k1 ?k2 ?k3 ?k4 ?k5 ?k6 ?_; (case k2 => k_is); (case k3 => rfl); (case k4 => rfl); (case k5 => k_is); (case k6 => k_is); (case k1 => exact fun q hq => (List.mem_cons.mp hq).elim (fun e => e ▸ Nat.ne_of_lt l2) fun hq => Nat.ne_of_lt (hxr q hq)); k_whole)
  intro d h2 tk2 hsh2 n2 F2 N2 l4 l5
  k_lt l4
  clear F1 N1
  dsimp only
  refine ks_wpAt_execs_cons ?_
  refine ks_wpAt_Expr_any ?_
  refine ks_wpAt_MethodCall ?_
  iterate 16 (try walk_at "my step")
  rename_i so1 h5 F5 N5 la q1 h4 F4 N4 lb g2 L2 h3 FG2 F3 N3 B2 X2 T2 l6
  k_here
  k_dflt (refine' exc_set1 F3 X2 N3 ?k1 ?k2 ?k3 ?k4 ?k5 ?k6 ?k7 ?k8 ?_; (case k1 => k_mem); (case k2 => k_mem); (case k3 => k_is); (case k4 => rfl); (case k5 => rfl); (case k6 => k_is); (case k7 => k_is); (case k8 => exact .tail (Nat.ne_of_gt lb.2.2.1) (.tail (Nat.ne_of_gt la.2.1) (.tail (Nat.ne_of_lt l5) (.head fun p hp => (List.mem_cons.mp hp).elim (fun e => e ▸ Nat.ne_of_lt l4.1) fun hp => Nat.ne_of_lt (ktn_ltOf l4.2 p hp))))); k_whole)
  intro h6 F6 N6
  clear F3 N3 F4 N4 F5 N5
  dsimp only
  refine ks_wpAt_execs_cons ?_
  refine ks_wpAt_Expr_any ?_
  refine ks_wpAt_MethodCall ?_
  iterate 1 (try walk_at "my step")
  rename_i so2 h7 F7 N7 lc
  k_here
  k_dflt (refine' super_method F7 X2 N7 ?k4 ?k5 ?k6 ?k7 ?k8 ?_)
  case k5 => k_mem
  case k6 => k_mem
  case k4 => k_is
  case k7 => k_is
  case k8 => ks_is
  intro q2 h8 F8 N8 ld
  clear F7 N7
  k_lt ld
  dsimp only
  refine wrap_with (i := "Exception.__init__") (x := x) ?_
  iterate 5 (try walk_at "my step")
  refine ⟨(N8 _ (.head _)).1, ?_⟩
  k_here
  k_dflt (refine' wrap_call (pre := [(q2, _), (so2, _), (q1, _), (so1, _)]) F8 X2 N8 ?k1 (.head _) ?k2 ?k3 ?_)
  case k1 => k_is
  case k2 =>
    intro p hp
    simp only [List.mem_cons, List.not_mem_nil, or_false] at hp
    rcases hp with rfl | rfl | rfl | rfl
    · exact Nat.ne_of_gt ld.2.2.2.1
    · exact Nat.ne_of_gt lc.2.2.1
    · exact Nat.ne_of_gt lb.2.1
    · exact Nat.ne_of_gt la.1
  case k3 =>
    intro p hp
    rcases List.mem_cons.mp hp with rfl | hp
    · exact Nat.ne_of_gt l5
    rcases List.mem_cons.mp hp with rfl | hp
    · exact Nat.ne_of_lt l2
    · exact Nat.ne_of_lt (hxr p hp)
  intro t' h9 F9 N9 le
  dsimp only
  iterate 8 (try walk_at "my step")
  with_reducible rename Fr _ _ _ _ => zF
  with_reducible rename News _ _ _ _ => zN
  refine hret _ [(x, excObj 90 t' (some d)), (d, dictOf [⟨hsh2, .str (Str.ofString "message") tk2, .str v t1⟩] n2), (t', tupOf [.str v t1])] _ rfl hbare zF (subN zN fun q hq => ?_) ?_ ⟨x, d, t', _, _, rfl, rfl⟩
  · rcases List.mem_append.mp hq with hq | hq
    · simp only [List.mem_cons, List.not_mem_nil, or_false] at hq
      rcases hq with rfl | rfl | rfl
      · exact .tail _ (.tail _ (.tail _ (.tail _ (.tail _ (.head _)))))
      · exact .tail _ (.tail _ (.tail _ (.tail _ (.tail _ (.tail _ (.head _))))))
      · exact .head _
    · exact .tail _ (.tail _ (.tail _ (.tail _ (.tail _ (.tail _ (.tail _ (.tail _ hq)))))))
  · intro q hq b hb
    simp only [List.mem_cons, List.not_mem_nil, or_false] at hb
    rcases hb with rfl | rfl | rfl
    · exact Nat.ne_of_lt (hxr q hq)
    · exact Nat.ne_of_lt (ktn_ltOf l4.2 q hq)
    · exact Nat.ne_of_lt (le q (.tail _ (.tail _ (.tail _ (.tail _ (.tail _ (.tail _ (.tail _ hq))))))))
end
end Mine
end
section
open PySem PySem.W PyProof.Rows PySem.Calls
namespace Mine
section
/-! the law's own text, by its places -/
def bodyOf : Stmt → List Stmt
  | .FunctionDef (body := b) .. => b
  | .For (body := b) .. => b
  | .If (body := b) .. => b
  | _ => []
def elseOf : Stmt → List Stmt
  | .If (orelse := b) .. => b
  | _ => []
def scopeOf : Stmt → Scope
  | .FunctionDef (scope := b) .. => b
  | _ => { kind := .module, names := [], isGenerator := false, isCoroutine := false, more := [] }
def noStmt : Stmt := .Pass ⟨0, 0, 0, 0⟩
def lawStmt : Stmt := PySem.Challenge.pw_vo0020_01.main.body.getLast?.getD noStmt
def lawBody : List Stmt := bodyOf lawStmt
def lawScope : Scope := scopeOf lawStmt
def lawLoop : List Stmt := bodyOf (lawBody.getD 9 noStmt)
def lawLast : List Stmt := bodyOf (lawBody.getD 10 noStmt)
/-- the last two asks of a turn -/
def lawTail : List Stmt := lawLoop.drop 6
def lawUpd : List Stmt := (bodyOf (lawLoop.getD 5 noStmt)).drop 2
def lawBlk : List Stmt := bodyOf (lawUpd.getD 0 noStmt)
def lawBlk2 : List Stmt := lawBlk.drop 1
theorem memL {a : Addr × Obj} {x y : List (Addr × Obj)} (h : a ∈ x) : a ∈ x ++ y := List.mem_append_left _ h
theorem memR {a : Addr × Obj} {x y : List (Addr × Obj)} (h : a ∈ y) : a ∈ x ++ y := List.mem_append_right _ h
theorem keyChar {i : Int} (h0 : 0 ≤ i) (h1 : i < 8) : Txt.item (Str.ofString "abcdefgh") i = Str.mk #[97 + i.toNat] := by
  have h : ∀ k : Fin 8, Txt.item (Str.ofString "abcdefgh") (k.val : Int) = Str.mk #[97 + k.val] := by decide +kernel
  have h2 := h ⟨i.toNat, by omega⟩
  dsimp only at h2
  rw [Int.toNat_of_nonneg h0] at h2
  exact h2
theorem off1Mem {D : Addr} : ∀ {l : List (Addr × Obj)}, LCg.Off1 D l → ∀ q ∈ l, @Ne Nat q.1 D
  | [], _, _, h => nomatch h
  | _ :: _, x, q, h => by
    rcases List.mem_cons.mp h with rfl | h
    · exact x.1
    · exact off1Mem x.2 q h
theorem chainLast {prog : Program} {w : World} {A : Around} {E : Value → Shared → Prop} {s : Shared} {h₀ : Heap} {L a : Addr} {news : List (Addr × Obj)} {n : Nat} {u : Tok} {value slice : Expr} {Q : Value → Shared → Prop} {cs tl : List CR} {c : CR} {i : Int}
    (N : News h₀ L s.heap news) (hm : (a, listOf (cs.map fun c => Value.ref c.t).toArray n) ∈ news) (e : cs = tl ++ [c]) (hl : cs.length ≤ 60) (hi : i = (cs.length : Int) - 1) (h : Q (.ref c.t) s)
    (hs : subscripted slice false (.ref a) (.int i u) = operate [.ref a, .int i u] (getItem (.ref a) (.int i u)) := by with_unfolding_all rfl) :
    wpAny (model prog w) A (subscriptTail value slice (.ref a) (.int i u)) Q E s := by
  have hk : i.toNat = tl.length := by rw [hi, e, List.length_append]; simp
  have h0 : 0 ≤ i := by rw [hi, e, List.length_append]; simp
  have h1 : i < 2 ^ 62 := by rw [hi]; omega
  refine item_listR (News.isList N hm) h0 (by omega) ?_ h hs
  · rw [hk, e]; simp
theorem chainCut {cs tl : List CR} {c : CR} (e : cs = tl ++ [c]) : (slicePick (cs.map fun c => Value.ref c.t).toArray none (some (((cs.map fun c => Value.ref c.t).length : Int) - 1)) none).toList = tl.map fun c => Value.ref c.t := by
  have h1 : ((cs.map fun c => Value.ref c.t).length : Int) - 1 = ((tl.length : Nat) : Int) := by rw [e, List.length_map, List.length_append]; simp
  rw [h1, slicePick_upto _ _ (by rw [e]; simp), e]
  simp
theorem anyEq (k : Int) : ∀ (l : List Int), (l.any fun p => decide (k = p)) = l.any fun x => x == k
  | [] => rfl
  | a :: r => by
    rw [List.any_cons, List.any_cons, anyEq k r]
    congr 1
    by_cases h : k = a
    · subst h; simp
    · have h2 : ¬ (a = k) := fun e => h e.symm
      simp [h, h2]
theorem rowEq (bits : Int) (row ps : List Int) : ((rangeKs 0 bits.toNat).map fun k => if ps.any (fun p => decide (k = p)) = true then 1 else row.getD k.toNat 0) = rowSet bits row ps := by
  unfold rangeKs rowSet
  rw [List.map_map]
  refine List.map_congr_left fun i _ => ?_
  simp only [Function.comp_def, Int.zero_add, Int.toNat_natCast]
/-- the addresses of the law's chain -/
def chA (ch : Addr) (cs : List CR) : List Addr := ch :: cs.flatMap fun c => [c.t, c.r]
theorem rowsAdr (cs : List CR) : (cs.flatMap CR.objs).map (·.1) = cs.flatMap fun c => [c.t, c.r] := by
  simp only [List.map_flatMap, List.map_cons, List.map_nil]
theorem chA_mem {ch : Addr} {cs : List CR} {q : Addr × Obj} (h : q ∈ cs.flatMap CR.objs) : q.1 ∈ chA ch cs := .tail _ (by rw [← rowsAdr]; exact List.mem_map_of_mem h)
theorem chA_app {ch : Addr} {cs ds : List CR} {a : Addr} (h : a ∈ chA ch (cs ++ ds)) : a = ch ∨ a ∈ (cs.flatMap fun c => [c.t, c.r]) ∨ a ∈ (ds.flatMap fun c => [c.t, c.r]) := by
  rcases List.mem_cons.mp h with h | h
  · exact .inl h
  · rw [List.flatMap_append] at h
    exact .inr (List.mem_append.mp h)
theorem longer_sub {α : Type} {lim : Int} {l : List α} {x : α} (h : x ∈ longer lim l) : x ∈ l := by
  unfold longer at h
  split at h
  · exact List.mem_of_mem_drop h
  · exact h
theorem longer_map {α β : Type} (lim : Int) (f : α → β) (l : List α) : longer lim (l.map f) = (longer lim l).map f := by
  unfold longer
  rw [List.length_map]
  split
  · rw [List.map_drop]
  · rfl
theorem longer_length {α : Type} (lim : Int) (l : List α) : (longer lim l).length ≤ l.length := by
  unfold longer
  split
  · rw [List.length_drop]; omega
  · exact Nat.le_refl _
theorem apNew {A : List Addr} {qs : List (Addr × Obj)} {ctl : List CR} {c : CR} {ch : Addr} (h : ∀ q ∈ qs, @Ne Nat q.1 ch ∧ @Ne Nat q.1 c.t ∧ @Ne Nat q.1 c.r) (hsub : ∀ a ∈ A, a ∈ qs.map (·.1)) (hold : ∀ a ∈ A, ∀ b ∈ ctl.flatMap (fun c => [c.t, c.r]), @Ne Nat a b) :
    ∀ a ∈ A, ∀ b ∈ chA ch (ctl ++ [c]), @Ne Nat a b := by
  intro a ha b hb
  obtain ⟨q, hq, rfl⟩ := List.mem_map.mp (hsub a ha)
  obtain ⟨h1, h2, h3⟩ := h q hq
  rcases chA_app hb with rfl | hb | hb
  · exact h1
  · exact hold _ ha b hb
  · simp only [List.flatMap_cons, List.flatMap_nil, List.append_nil, List.mem_cons, List.not_mem_nil, or_false] at hb
    rcases hb with rfl | rfl
    · exact h2
    · exact h3
theorem baseSub {I L sl : Addr} {io o1 o2 o3 os ot : Obj} {xo more : List (Addr × Obj)} : ∀ a ∈ I :: 405 :: (L + 1) :: (L + 2) :: (L + 3) :: sl :: xo.map (·.1), a ∈ ((I, io) :: (405, ot) :: (L + 1, o1) :: (L + 2, o2) :: (L + 3, o3) :: (sl, os) :: (xo ++ more)).map (·.1) := by
  intro a ha
  simp only [List.map_cons, List.map_append, List.mem_cons, List.mem_append] at ha ⊢
  grind
end
section
/-- at C stands an exception class of the text's own, one step from the built-in ones -/
def IsExc (h : Heap) (C : Addr) : Prop := ∃ nm q' C' NS bs hdct sn sub ab col dd k0 k1 k2 k3 k5, h.get? C = some (excCls nm q' C C' NS bs hdct sn sub ab col dd k0 k1 k2 k3 k5)
theorem isExc90 {w : World} {h : Heap} (X : (Mine.hd.heap_39 w.params).In h) : IsExc h 90 := ⟨_, _, _, _, _, _, _, _, _, _, _, _, _, _, _, _, X 90 _ rfl⟩
section
variable {prog : Program} {w : World} {A : Around} {E : Value → Shared → Prop} {s : Shared} {env : Env} {C : Addr}
/-- the statement that raises one of the text's own -/
theorem raise_own {e : Expr} {pos : Pos} {Q : Flow → Shared → Prop} (hh : A.handled = none)
    (h : wpAny (model prog w) A (eval e env) (fun v s₁ => ∃ x t d, v = .ref x ∧ IsExc s₁.heap C ∧ s₁.heap.get? x = some (excObj C t d) ∧ E (.ref x) s₁) E s) :
    wpAny (model prog w) A (exec (.Raise (some e) none pos) env) Q E s := by
  show wpAny (model prog w) A (do standAt pos; raiseStmt env (some (do let v ← eval e env; standAt pos; pure v)) none) Q E s
  refine wpAny_bind (wpAny_standAt ?_)
  unfold raiseStmt
  dsimp only
  refine wpAny_bind (wpAny_bind (wpAny_mono h (fun v s₁ h₁ => wpAny_bind (wpAny_standAt (wpAny_pure ?_))) fun _ _ x => x))
  obtain ⟨x, t, d, rfl, ⟨nm, q', C', NS, bs, hdct, sn, sub, ab, col, dd, k0, k1, k2, k3, k5, hC⟩, hx, hE⟩ := h₁
  have hcB : (Value.ref C :: .ref C' :: excTl).contains (.type "BaseException") = true := exc_has PySem.F.excBase_Exception.hasBase
  obtain ⟨hp, g, dr, tk, os⟩ := s₁
  repeat (first | with_reducible refine wpAny_loadPart_at hx ?_ | with_reducible refine wpAny_loadPart_at hC ?_ | (with_reducible refine wpAny_isSubtype_exc hC ?_; rw [hcB]) | wp_step)
  exact wpAny_raiseNew_none hh hE
end
section
variable {M : Model} {A : Around} {E : Value → Shared → Prop} {s' : Shared} {base g : Heap} {outer : List Env} {L a x C t : Addr} {od : Option Addr} {m : Str → Option Value} {name : Str} {scope : Scope} {cd : Value} {Q : Unit → Shared → Prop} {news : List (Addr × Obj)}
/-- a def's frame is left by such an exception, which stands in the ledger -/
theorem leave_exc (K : Below A base outer g) (F : Fr g L s'.heap m) (N : News g L s'.heap ((x, excObj C t od) :: news)) (hne : ∀ q ∈ news, q.1 ≠ x)
    (go : ∀ h', RaisedN base outer x (.ref C) news h' → g.UpToSlots h' → Q () { s' with heap := h' }) (hk : scope.kind = .function := by rfl) :
    wpAny M (A.deeper (envOf name scope L a cd)) (leaving (envOf name scope L a cd) (.ref x)) Q E s' := by
  have hx := N _ (.head _)
  dsimp only at hx
  have to : ∀ b o, s'.heap.get? b = some o → b ≠ x → (hideAll s'.heap [x]).get? b = some o := fun b o e n => hideAll_get _ e fun z => n (List.mem_singleton.mp z)
  have gx : ∀ b o, g.get? b = some o → b ≠ x := fun b o e z => by rw [z, hx.2.2] at e; cases e
  have F1 : Fr g L (hideAll s'.heap [x]) m := ⟨F.ns.at' fun o e => to _ o e fun z => hx.2.1 z.symm, fun b o e => to b o (F.keep b o e) (gx b o e), F.above⟩
  have N1 : News g L (hideAll s'.heap [x]) news := fun q hq => ⟨to _ _ (N q (.tail _ hq)).1 (hne q hq), (N q (.tail _ hq)).2⟩
  have K' := K.push (name := name) (a := a) (cd := cd) F1 hk
  have ks : ∀ b o, (hideAll s'.heap [x]).get? b = some o → s'.heap.get? b = some o := fun b o e => of_hideAll _ e
  have hin : ∀ env ∈ (envOf name scope L a cd :: outer), ∀ b, env.frame = some b → b ∈ (envOf name scope L a cd :: outer).filterMap (·.frame) := fun env he b hb => List.mem_filterMap.mpr ⟨env, he, hb⟩
  have st : base.StaysIn (hideAll (hideAll s'.heap [x]) ((envOf name scope L a cd :: outer).filterMap (·.frame))) := fun b o q => hideAll_get _ (K'.stays b o q) fun hm => by
    rw [(K'.frames.mem hm).1] at q; cases q
  have hl : ∀ q ∈ news, (hideAll (hideAll s'.heap [x]) ((envOf name scope L a cd :: outer).filterMap (·.frame))).get? q.1 = some q.2 ∧ base.get? q.1 = none := fun q hq => by
    refine ⟨hideAll_get _ (N1 q hq).1 fun hm => ?_, fresh_of_stays K.stays (N1 q hq).2.2⟩
    obtain ⟨env, he, hf⟩ := List.mem_filterMap.mp hm
    rcases List.mem_cons.mp he with rfl | he
    · exact (N1 q hq).2.1 (Option.some.inj hf).symm
    · obtain ⟨o, ho, _⟩ := (K.frames.mem (List.mem_filterMap.mpr ⟨env, he, hf⟩)).2
      rw [(N1 q hq).2.2] at ho; cases ho
  have hxn : (hideAll (hideAll s'.heap [x]) ((envOf name scope L a cd :: outer).filterMap (·.frame))).get? x = none := by
    cases q : (hideAll (hideAll s'.heap [x]) ((envOf name scope L a cd :: outer).filterMap (·.frame))).get? x with
    | none => rfl
    | some o => have := of_hideAll _ q; rw [hideAll_none _ (.head _)] at this; cases this
  refine wpAny_leaving_firstW (a0 := .ref t) K'.stack ((funFrames_hide K'.frames hin).of_keeps fun b o hb _ => ⟨o, ks b o hb, rfl⟩) rfl hx.1 (fun b o hb => ks b o (of_hideAll _ hb)) hxn rfl rfl rfl fun h' hL => ?_
  obtain ⟨k1, ⟨_, _, k2⟩, k3, k4⟩ := hL
  exact go h' ⟨_, .ref t, st, hl, k1, hxn, k2, k3⟩ ((Heap.UpToSlots.of_keeps F.keep).trans k4)
end
section
variable {prog : Program} {w : World} {A : Around} {E : Value → Shared → Prop} {s' : Shared} {g G : Heap} {outer : List Env} {env : Env} {L e C : Addr} {m mg mb : Str → Option Value} {K : Frag} {p : Program} {loose : List Str}
  {x : Str} {np pos : Pos} {b₀ : Stmt} {suite : List Stmt} {rest : List ExceptHandler} {Q : Flow → Shared → Prop} {news : List (Addr × Obj)}
/-- a try's clause that names the class takes it -/
theorem catch_own (hfr : A.frames = some (env :: outer)) (hf : env.frame = some L) (F : Fr g L G m) (hsm : G.UpToSlots s'.heap) (R : RaisedN g (env :: outer) e (.ref C) news s'.heap) (X : K.In g) (T : TopRead p loose mg mb g)
    (hn : nsIn K mainGlobals x = some (some (.ref C))) (he : exmOne K (.ref C) (.ref C) = some true) (hg : env.globals = mainGlobals) (hk : env.scope.kind = .function) (hx : env.kindOf x = some .globalImplicit) (hd : (x == ("__debug__" : Str)) = false)
    (k : ∀ h', Fr g L h' m → News g L h' news → wpAny (model prog w) (A.mark (some (.ref e))) (execs (b₀ :: suite) env) Q (notedBy (model prog w) (A.mark (some (.ref e))) env (cameBackBy (model prog w) A env E)) { s' with heap := h' }) :
    wpAny (model prog w) A (noteFrame (.ref e) env) (fun _ s₂ => wpAny (model prog w) A (setFlight (.ref e) none) (fun _ s₃ =>
      wpAny (model prog w) A (handleBy (.ref e) env (.ExceptHandler (some (.Name x np)) none (b₀ :: suite) pos :: rest)) Q E s₃) E s₂) E s' := by
  obtain ⟨B, a0, hB, hl, hfl⟩ := R
  have hL : B.get? L = none := by
    obtain ⟨_, ⟨L', _, hf', hn', _⟩, _⟩ := hfl.2.2.1
    rw [hf] at hf'
    obtain rfl : L = L' := Option.some.inj hf'
    exact hn'
  refine wpAny_looks_onW hfr hf hfl fun h₄ hheld₄ hsm₄ => ?_
  refine wpAny_landsW hheld₄ fun h₅ hheld hsm₅' => ?_
  have hsm₅ := hsm₄.trans hsm₅'
  have F₅ := F.of_stays (flyingW_base hB hheld).1 (hsm.trans hsm₅)
  have LT : Looks (model prog w) h₅ (typeOf (.ref e)) (.ref C) := by
    obtain ⟨ob, hob, hc⟩ := hheld.there
    rw [← hc]
    exact (Looks.ld hob).andThen .now
  refine wpAny_handleBy_cons (codeAny_handlers_test (Name_function_global hk hx (loadGlobal_global (s := { s' with heap := h₅ }) (mg := mg) (by rw [hg]; exact T.g.keeps F₅.keep) (mg_of X T.g hn) ((exm_one (X.keeps F₅.keep) LT he).here ?_)) hd)) (by intro q; cases q)
  refine codeAny_handlers_suite ?_
  refine lands_againW hheld fun h₆ hfl₆ hsm₆ => ?_
  have F₆ := F.of_stays (flyingW_base hB hfl₆).1 ((hsm.trans hsm₅).trans hsm₆)
  exact k h₆ F₆ fun q hq => ⟨hfl₆.1 _ _ (hl q hq).1, (fun z => by have := (hl q hq).1; rw [z, hL] at this; cases this), (hl q hq).2⟩
end
end
end Mine
end
section
open PySem PySem.W PyProof.Rows PySem.Calls
namespace Mine
local macro_rules | `(tactic| walk_at "LeaveR") => `(tactic| (refine' leaveR_ ?kF ?kN ?_; (case kF => k_asm); (case kN => k_asm); intro zF zN zA; (try dsimp only)))
local macro_rules | `(tactic| walk_at "eval Name") => `(tactic| (k_here; (with_reducible show wpAny _ _ (eval (Expr.Name _ _) (compEnvC _ _ _ _)) _ _ _); k_dflt (first
  | refine inBlock_global (by k_asm) (by k_asm) (by k_asm) (by k_is) ?_
  | refine inBlock_built (by k_asm) (by k_asm) (by k_asm) (by k_is) (by boot_by_name) (by decide) ?_)))
local macro_rules | `(tactic| walk_at "binaryOp Add") => `(tactic| (k_here; (with_reducible show wpAny _ _ (binaryOp _ (Value.ref _) (Value.ref _)) _ _ _); (with_reducible rename News _ _ _ _ => kN); simp only [slice1] at kN))
local macro_rules | `(tactic| walk_at "binaryOp Add ref ref") => `(tactic| (k_here; (with_reducible show wpAny _ _ (binaryOp _ (Value.ref _) (Value.ref _)) _ _ _); k_dflt (refine' addN ?F ?N ?a ?b ?z ?_; (case F => k_asm); (case N => k_asm); (case a => k_mem); (case b => k_mem); (case z => first | omega | (simp only [List.length_append, List.length_drop, List.length_cons, List.length_nil]; omega)); k_whole); intro D' h' F' N' l1; (try k_lt l1); (try k_sweep)))
local macro_rules | `(tactic| walk_at "my subset") => `(tactic| first | exact List.forall_mem_nil _ | (refine' List.forall_mem_cons.mpr ⟨?za, ?zb⟩; (case za => k_mem); (case zb => walk_at "my subset")) | (intro q9 hq9; walk_at "my tail"))
local macro_rules | `(tactic| walk_at "my tail") => `(tactic| first | assumption | (refine' List.Mem.tail _ ?_; walk_at "my tail"))
local macro_rules | `(tactic| walk_at "assign Tuple") => `(tactic| (k_here; (with_reducible show wpAny _ _ (assign (Expr.Tuple _ _ _) _ (Value.ref _)) _ _ _); k_dflt (refine' unpackN_ ?F ?N ⟨_, News.get ?N2 ?m, rfl, _, rfl⟩ rfl rfl rfl ?_; (case F => k_asm); (case N => k_asm); (case N2 => k_asm); (case m => k_mem); k_whole); intro h' F' N'; (try dsimp only); (try k_sweep)))
local macro_rules | `(tactic| k_mem) => `(tactic| ((with_reducible show List.Mem _ (List.flatMap _ _)); refine memOf ?_; assumption))
local macro_rules | `(tactic| k_all) => `(tactic| ((with_reducible show ∀ q ∈ List.flatMap _ _, _); refine' flatNe ?h ?z; (case h => assumption); (case z => (try dsimp only); omega)))
local macro_rules | `(tactic| walk_at "my bound") => do
  let a := Lean.mkIdent `hq0
  let b := Lean.mkIdent `hq1
  let c := Lean.mkIdent `hz0
  let d := Lean.mkIdent `hz1
  let e := Lean.mkIdent `hq2
  `(tactic| first | with_reducible assumption | exact $a _ | exact $b _ | exact $e _ | exact $c _ (by assumption) | exact $d _ (by assumption) | omega)
local macro_rules | `(tactic| walk_at "subscriptTail") => `(tactic| (k_here; (with_reducible show wpAny _ _ (subscriptTail _ _ (Value.ref _) (Value.int _ _)) _ _ _); k_dflt (refine' itemInts ?N ?m ?i ?z ?y ?x ?_ ?s ?g; (case s => with_unfolding_all rfl); (case g => intro _; with_unfolding_all rfl); (case N => k_asm); (case m => k_mem); (case i => assumption); (case z => walk_at "my bound"); (case y => walk_at "my bound"); (case x => (try simp only [List.length_map, List.length_range]); omega); k_whole); intro t'))
local macro_rules | `(tactic| k_enter) => `(tactic| (refine' inlineT ?k1 ?k2 ?k3 ?k4 ?k5 ?kA ?kF ?kK ?k6 ?k7 ?k8 ?k9 ?kB ?_ ?c2 ?c3 ?c4 ?c5; (case kA => exact rfl); (case kF => exact rfl); (case kK => first | exact rfl | assumption); (case k1 => k_asm); (case k2 => k_asm); (case k3 => k_asm); (case k4 => k_asm); (case k5 => k_asm); (case k6 => k_is); (case k7 => k_is); (case k8 => ktr_room); (case k9 => first | exact BindsTo.of_eq rfl | exact binds_K (by k_in) rfl (by k_is) rfl rfl rfl); (case c5 => decide); (case kB => exact locs rfl); (case c2 => exact rfl); (case c3 => exact rfl); (case c4 => exact rfl); k_whole; intro g' L' h' FG' F' N' B' X' T' l1; (try k_lt l1); (try dsimp only); (try k_lift B'); (try k_fold)))
local macro_rules | `(tactic| walk_at "my step") => `(tactic| first | (k_unfold; (try dsimp only)) | (k_end; wrow_close) | walk1 | (dsimp only; walk1) | (leave1; walk_say "STEP leave1"; try dsimp only))
local macro_rules | `(tactic| walk_at "ite") => `(tactic| (k_here; first | (refine PySem.W.ite_neg (by (try simp only [decide_eq_true_eq, beq_iff_eq, bne_iff_ne, ne_eq, Bool.not_eq_true', decide_eq_false_iff_not]); omega) ?_) | (refine PySem.W.ite_pos (by (try simp only [decide_eq_true_eq, beq_iff_eq, bne_iff_ne, ne_eq, Bool.not_eq_true', decide_eq_false_iff_not]); omega) ?_)))
local macro_rules | `(tactic| walk_at "binaryOp LShift int int") => `(tactic| (k_here; k_dflt (refine shift1 ?_)))
local macro_rules | `(tactic| walk_at "setItem ref int") => `(tactic| (k_here; (with_reducible show wpAny _ _ (setItem (Value.ref _) (Value.int _ _) (Value.int _ _)) _ _ _); k_dflt (refine' ksa_set ?k1 ?k2 ?k3 ?k4 ?k5 ?k6 ?k7 ?_; (case k1 => k_asm); (case k2 => k_asm); (case k3 => k_upd); (case k4 => with_reducible assumption); (case k5 => walk_at "my bound"); (case k6 => walk_at "my bound"); (case k7 => walk_at "my bound"); k_whole); intro h' F' N' hi' hl' hsum'))
local macro_rules | `(tactic| walk_at "my put") => `(tactic| first | exact PutL.head | (refine' PutL.tail ?za ?zb; (case za => rfl); (case zb => walk_at "my put")))
local macro_rules | `(tactic| walk_at "setAttr ref") => `(tactic| (k_here; k_dflt (refine' set_dict ?k1 ?k2 ?k3 ?k4 ?k5 ?k6 ?k7 ?k8 ?k9 ?k10 ?k11 ?k12 ?k13 ?_; (case k1 => k_asm); (case k2 => k_asm); (case k3 => k_asm); (case k4 => k_inst); (case k5 => exact rfl); (case k6 => k_is); (case k7 => k_is); (case k8 => k_is); (case k9 => k_is); (case k10 => k_get); (case k11 => (refine' PutL.eq ?zp _ _ _; (case zp => walk_at "my put"))); (case k12 => k_upd); (case k13 => exact Nat.le_of_ble_eq_true rfl); k_whole; intro h' F' N'; (try k_sweep))))
local macro_rules | `(tactic| walk_at "getAttr ref") => `(tactic| (k_here; k_dflt (refine' get_own ?k1 ?k2 ?k3 ?k4 ?k5 ?k6 ?k7 ?k8 ?k9 ?_; (case k1 => k_asm); (case k2 => k_asm); (case k3 => k_inst); (case k4 => k_is); (case k5 => k_is); (case k6 => k_is); (case k7 => k_is); (case k8 => k_get); (case k9 => k_handed); k_whole)))
local macro_rules | `(tactic| walk_at "getMethod ref") => `(tactic| (k_here; k_dflt (refine' method_inst ?k1 ?k2 ?k3 ?k4 ?k5 ?k6 ?k7 ?_; (case k1 => k_asm); (case k2 => k_asm); (case k3 => k_inst); (case k4 => k_is); (case k5 => k_is); (case k6 => k_is); (case k7 => k_get); k_whole)))
local macro_rules | `(tactic| walk_at "getMethod ref") => `(tactic| (k_here; (with_reducible show wpAny _ _ (getMethod (Value.ref _) (Str.ofString "_hash_func") _) _ _ _); k_dflt (refine' kmu_own ?k1 ?k2 ?k3 ?k4 ?k5 ?_; (case k1 => k_asm); (case k2 => k_asm); (case k3 => k_inst); (case k4 => k_is); (case k5 => k_is); k_whole)))
local macro_rules | `(tactic| walk_at "getMethod ref") => `(tactic| (k_here; (with_reducible show wpAny _ _ (getMethod (Value.ref _) (Str.ofString "_get_optimized_params") _) _ _ _); k_dflt (refine' kmu_cm ?k1 ?k2 ?k3 ?k4 ?k5 ?k6 ?k7 ?k8 ?k9 ?k10 ?k11 ?k12 ?k13 ?_; (case k1 => k_asm); (case k2 => k_asm); (case k3 => k_asm); (case k4 => k_inst); (case k5 => k_is); (case k6 => k_is); (case k7 => k_is); (case k8 => k_is); (case k9 => k_is); (case k10 => k_is); (case k11 => decide +kernel); (case k12 => k_get); (case k13 => k_is); k_whole; intro q' h' F' N' l1; (try k_lt l1); (try k_sweep))))
local macro_rules | `(tactic| walk_at "call builtin:len") => `(tactic| (k_here; (with_reducible show wpAny _ _ (call (Value.builtin _) [Value.ref _]) _ _ _); k_dflt (refine' lenN ?N ?m ?f ?_; (case N => k_asm); (case m => k_mem); (case f => first | assumption | omega | (simp only [List.length_append, List.length_cons, List.length_nil]; omega)); k_whole)))
local macro_rules | `(tactic| walk_at "eval ListComp") => `(tactic| (k_here; k_dflt (refine LCg.ListComp_U (F₀ := by k_asm) (by with_unfolding_all rfl) (by decide) (by rfl) (by decide) (by rfl) ?_)))
local macro_rules | `(tactic| walk_at "eval Name") => do
  let a1 := Lean.mkIdent `hm1
  let a2 := Lean.mkIdent `hm2
  let a3 := Lean.mkIdent `hm3
  let a4 := Lean.mkIdent `hm4
  let a5 := Lean.mkIdent `hm5
  let a6 := Lean.mkIdent `hm6
  let a7 := Lean.mkIdent `hm7
  let a8 := Lean.mkIdent `hm8
  let a9 := Lean.mkIdent `hm9
  let a10 := Lean.mkIdent `hm10
  let a11 := Lean.mkIdent `hm11
  `(tactic| (k_here; k_dflt (refine' nameX_L ?k1 ?k2 ?_ ?k3 ?k4; (case k1 => k_asm); (case k3 => rfl); (case k4 => rfl); (case k2 => first | exact $a1 | exact $a2 | exact $a3 | exact $a4 | exact $a5 | exact $a6 | exact $a7 | exact $a8 | exact $a9 | exact $a10 | exact $a11); k_whole)))
local macro_rules | `(tactic| k_mem) => `(tactic| ((with_reducible show List.Mem _ (_ ++ _)); first | exact memL (by assumption) | exact memR (by assumption)))
local macro_rules | `(tactic| walk_at "no such key") => `(tactic| fail)
local macro_rules | `(tactic| walk_at "no such key") => `(tactic| fail)
local macro_rules | `(tactic| walk_at "no such key") => `(tactic| fail)
local macro_rules | `(tactic| walk_at "no such key") => `(tactic| fail)
local macro_rules | `(tactic| walk_at "no such key") => `(tactic| fail)
local macro_rules | `(tactic| walk_at "no such key") => `(tactic| fail)
local macro_rules | `(tactic| walk_at "no such key") => `(tactic| fail)
section
/-- no entry lies where the law's cells lie -/
def OffC (L : Addr) (l : List (Addr × Obj)) : Prop := ∀ q ∈ l, @Ne Nat q.1 (L + 1) ∧ @Ne Nat q.1 (L + 2) ∧ @Ne Nat q.1 (L + 3)
set_option maxHeartbeats 8000000 in
theorem turnPre (w : World) (sc : Scope) (hsc : sc = lawScope) (bd bd' : List Stmt) (hbd : bd = lawLoop) (hbd' : bd' = lawLoop.drop 5) (bits r : Int) (hb : 4 ≤ bits) (hb' : bits ≤ 19) (hr1 : 1 ≤ r) (hr2 : r ≤ 13)
    (mg mb : Str → Option Value) (p : Program) (loose : List Str) (g : Heap) (L' fa : Addr) (cd : Value) (s₁ : Shared) (m₁ : Str → Option Value) (X' : (Mine.hd.heap_39 w.params).In g) (T' : TopRead p loose mg mb g) (M' : BM mg g) (B' : Below callerA g [] g)
    (ps : Array Value) (o1 o2 o3 : Obj) (sl ch I : Addr) (io : Obj) (ns : List Value) (ks nch : Nat) (cs : List CR) (xo : List (Addr × Obj)) (n : Int) (tr tb tn : Tok) (v2 : Option Value) (v5 : Value) (bro : Bool) (lim wanted tot : Int) (tl tw tt : Tok)
    (F1 : Fr g L' s₁.heap m₁) (N1 : News g L' s₁.heap ((I, io) :: (405, tabObj ps) :: (L' + 1, o1) :: (L' + 2, o2) :: (L' + 3, o3) :: (sl, listOf ns.toArray ks) :: (ch, listOf (cs.map fun c => Value.ref c.t).toArray nch) :: (xo ++ cs.flatMap CR.objs)))
    (hb1 : AllBare s₁.gens) (hn0 : 0 ≤ n) (hcs : ∀ c ∈ cs, c.Ok bits.toNat) (hlen : cs.length ≤ 50)
    (h1 : o1.data = .cell (some (.int bits tb))) (h2 : o2.data = .cell v2)
    (hoff : OffC L' ((I, io) :: (405, tabObj ps) :: (sl, listOf ns.toArray ks) :: (ch, listOf (cs.map fun c => Value.ref c.t).toArray nch) :: (xo ++ cs.flatMap CR.objs)))
    (hm1 : m₁ (Str.ofString "rotating") = some (.bool bro)) (hm2 : m₁ (Str.ofString "limit") = some (.int lim tl)) (hm3 : m₁ (Str.ofString "wanted") = some (.int wanted tw)) (hm4 : m₁ (Str.ofString "rounds") = some (.int r tr)) (hm5 : m₁ (Str.ofString "one") = some v5) (hm6 : m₁ (Str.ofString "chain") = some (.ref ch)) (hm7 : m₁ (Str.ofString "total") = some (.int tot tt))
    (Q : Flow → Shared → Prop) (E : Value → Shared → Prop)
    (go : ∀ (c : Nat) (D : Addr) (ys : List Value) (o2' : Obj) (s' : Shared) (m' : Str → Option Value) (td tk tm : Tok), 97 ≤ c → c ≤ 104 → s'.os = s₁.os → AllBare s'.gens → Fr g L' s'.heap m' →
      News g L' s'.heap ((I, io) :: (405, tabObj ps) :: (L' + 1, o1) :: (L' + 2, o2') :: (L' + 3, o3) :: (sl, listOf ns.toArray ks) :: (ch, listOf (cs.map fun c => Value.ref c.t).toArray nch) :: (D, LCg.lst ys) :: (xo ++ cs.flatMap CR.objs)) →
      IntsAre ys ((placesOf c r.toNat).map fun k' => k'.fmod bits) → o2'.data = .cell (some (.ref D)) → OffC L' [(D, LCg.lst ys)] →
      (∀ q ∈ (I, io) :: (405, tabObj ps) :: (sl, listOf ns.toArray ks) :: (ch, listOf (cs.map fun c => Value.ref c.t).toArray nch) :: (xo ++ cs.flatMap CR.objs), @Ne Nat q.1 D) →
      m' (Str.ofString "rotating") = some (.bool bro) → m' (Str.ofString "limit") = some (.int lim tl) → m' (Str.ofString "wanted") = some (.int wanted tw) → m' (Str.ofString "rounds") = some (.int r tr) → m' (Str.ofString "one") = some v5 → m' (Str.ofString "chain") = some (.ref ch) → m' (Str.ofString "total") = some (.int tot tt) →
      m' (Str.ofString "deed") = some (.int (n.fmod 6) td) → m' (Str.ofString "key") = some (.str (Str.mk #[c]) tk) → m' (Str.ofString "more") = some (.int (n.fdiv 48) tm) → m' (Str.ofString "inside") = some (.bool (cs.any fun x => allIn x.row ((placesOf c r.toNat).map fun k' => k'.fmod bits))) →
      wpAny (model PySem.Challenge.rw_vo0020_01.row.prog w) (callerA.deeper (envOfC (Str.ofString "law") sc L' fa cd)) (execs bd' (envOfC (Str.ofString "law") sc L' fa cd)) Q E s') :
    wpAny (model PySem.Challenge.rw_vo0020_01.row.prog w) (callerA.deeper (envOfC (Str.ofString "law") sc L' fa cd)) (assign (.Name (Str.ofString "n") ⟨315, 8, 315, 9⟩) (envOfC (Str.ofString "law") sc L' fa cd) (.int n tn))
      (fun _ s₂ => wpAny (model PySem.Challenge.rw_vo0020_01.row.prog w) (callerA.deeper (envOfC (Str.ofString "law") sc L' fa cd)) (execs bd (envOfC (Str.ofString "law") sc L' fa cd)) Q E s₂) E s₁ := by
  conv at hsc => rhs; whnf
  conv at hbd => rhs; whnf
  conv at hbd' => rhs; whnf
  subst hsc hbd hbd'
  w_on
  revert X'
  k_fill
  intro X'
  w_top on
  have hi8 : 0 ≤ (n.fdiv 6).fmod 8 ∧ (n.fdiv 6).fmod 8 < 8 := by rw [Int.fmod_eq_emod_of_nonneg _ (by omega)]; omega
  obtain ⟨c, hc, hc', hck⟩ : ∃ c : Nat, 97 ≤ c ∧ c ≤ 104 ∧ Txt.item (Str.ofString "abcdefgh") ((n.fdiv 6).fmod 8) = Str.mk #[c] := ⟨_, by omega, by omega, keyChar hi8.1 hi8.2⟩
  iterate 22 (try walk_at "my step")
  try dsimp only
  iterate 1 (try walk_at "my step")
  with_reducible rename Fr _ _ _ _ => F2
  rw [hck] at F2
  iterate 20 (try walk_at "my step")
  try dsimp only
  with_reducible rename Fr _ _ _ _ => F3
  with_reducible rename News _ _ _ _ => N3
  have C3 := fun t1 t2 => c_places w c r t1 t2 hc hc' (by omega) hr2
  k_dflt (refine useCon0 (C3 _ _) rfl B' F3 X' N3 T' M' rfl (by ktr_room) (by ktr_units) hb1 ?_)
  rintro v objs' s3 hos3 hb3 F4 N4 A4 ⟨l, its, rfl, rfl, hI⟩
  simp only [List.cons_append, List.nil_append] at N4
  have hil : its.length ≤ 13 := by rw [IntsAre.length hI]; simp only [placesOf, List.length_map, List.length_range]; omega
  iterate 10 (try walk_at "my step")
  try dsimp only
  rename_i hkl g5 ys hI8 hL8 D h5 tk5 F5 N5 o15
  have hDL : OffC L' [(D, LCg.lst ys)] := by
    intro q hq
    rw [List.mem_singleton.mp hq]
    exact ⟨fun e => o15.2.2.2.1 e.symm, fun e => o15.2.2.2.2.1 e.symm, fun e => o15.2.2.2.2.2.1 e.symm⟩
  have N6 := subN (b := (L' + 2, o2) :: (I, io) :: (405, tabObj ps) :: (L' + 1, o1) :: (L' + 3, o3) :: (sl, listOf ns.toArray ks) :: (ch, listOf (cs.map fun c => Value.ref c.t).toArray nch) :: (D, LCg.lst ys) :: (xo ++ cs.flatMap CR.objs)) N5 (fun q hq => by
    simp only [List.mem_cons] at hq ⊢
    grind)
  have hne2 : ∀ q ∈ (I, io) :: (405, tabObj ps) :: (L' + 1, o1) :: (L' + 3, o3) :: (sl, listOf ns.toArray ks) :: (ch, listOf (cs.map fun c => Value.ref c.t).toArray nch) :: (D, LCg.lst ys) :: (xo ++ cs.flatMap CR.objs), q.1 ≠ L' + 2 := by
    intro q hq
    have hq2 : q = (L' + 1, o1) ∨ q = (L' + 3, o3) ∨ q = (D, LCg.lst ys) ∨ q ∈ ((I, io) :: (405, tabObj ps) :: (sl, listOf ns.toArray ks) :: (ch, listOf (cs.map fun c => Value.ref c.t).toArray nch) :: (xo ++ cs.flatMap CR.objs)) := by
      simp only [List.mem_cons] at hq ⊢
      grind
    rcases hq2 with rfl | rfl | rfl | hq2
    · exact Nat.ne_of_lt (Nat.lt_succ_self _)
    · exact Nat.ne_of_gt (Nat.lt_succ_self _)
    · exact (hDL _ (.head _)).2.1
    · exact (hoff q hq2).2.1
  have hneD : ∀ q ∈ (I, io) :: (405, tabObj ps) :: (sl, listOf ns.toArray ks) :: (ch, listOf (cs.map fun c => Value.ref c.t).toArray nch) :: (xo ++ cs.flatMap CR.objs), @Ne Nat q.1 D := by
    intro q hq
    simp only [List.mem_cons] at hq
    rcases hq with rfl | rfl | rfl | rfl | hq
    · exact o15.2.1
    · exact o15.2.2.1
    · exact o15.2.2.2.2.2.2.1
    · exact o15.2.2.2.2.2.2.2.1
    · exact off1Mem o15.2.2.2.2.2.2.2.2 q hq
  clear N5
  k_here
  k_dflt (refine' storeX_C F5 N6 ?c (UpdF.head hne2) h2 ?_ ?a ?b; (case a => rfl); (case b => rfl); (case c => rfl); k_whole)
  intro h6 o6 F6 N7 d6
  try dsimp only at N7
  iterate 12 (try walk_at "my step")
  try dsimp only
  with_reducible rename Fr _ _ _ _ => F8
  with_reducible rename News _ _ _ _ => N8
  have C8 := c_inside w ch D cs nch ys ((placesOf c r.toNat).map fun k' => k'.fmod bits) bits.toNat hcs (by omega) hI8 (by simp only [placesOf, List.length_map, List.length_range]; omega) (by
    intro q hq
    obtain ⟨k, -, rfl⟩ := List.mem_map.mp hq
    have := fmodBits hb k
    omega) (by omega)
  k_dflt (refine useConK C8 rfl B' F8 X' N8 T' M' rfl ?_ (fun v objs' h q hq => by rw [h.2]; exact hq) (by ktr_room) (by ktr_units) hb3 ?_)
  · intro q hq
    simp only [List.mem_cons, List.mem_append] at hq ⊢
    grind
  rintro v objs' s9 hos9 hb9 F9 N9 - ⟨rfl, rfl⟩
  have N10 := subN (b := (I, io) :: (405, tabObj ps) :: (L' + 1, o1) :: (L' + 2, o6) :: (L' + 3, o3) :: (sl, listOf ns.toArray ks) :: (ch, listOf (cs.map fun c => Value.ref c.t).toArray nch) :: (D, LCg.lst ys) :: (xo ++ cs.flatMap CR.objs)) N9 (fun q hq => by
    simp only [List.mem_cons, List.mem_append] at hq ⊢
    grind)
  clear N9 N8 F8
  iterate 2 (try walk_at "my step")
  try dsimp only
  with_reducible rename Fr _ _ _ _ => F11
  with_reducible rename News _ _ _ _ => N11
  exact go c D ys o6 _ _ _ _ _ hc hc' (hos9.trans hos3) hb9 F11 N11 hI8 d6 hDL hneD hm1 hm2 hm3 hm4 hm5 hm6 hm7 rfl rfl rfl rfl
end
section
set_option maxHeartbeats 8000000 in
theorem lawAdd2 (w : World) (sc : Scope) (hsc : sc = lawScope) (bd : List Stmt) (hbd : bd = lawBlk2) (bits wanted lim : Int) (hb : 4 ≤ bits) (hb' : bits ≤ 19) (hw : 1 ≤ wanted) (hw' : wanted ≤ 4) (hl0 : 0 ≤ lim) (hl1 : lim ≤ 4)
    (mg mb : Str → Option Value) (p : Program) (loose : List Str) (g : Heap) (L' fa : Addr) (cd : Value) (s₁ : Shared) (m₁ : Str → Option Value) (X' : (Mine.hd.heap_39 w.params).In g) (T' : TopRead p loose mg mb g) (M' : BM mg g) (B' : Below callerA g [] g)
    (ps : Array Value) (o1 o2 o3 : Obj) (sl ch I D : Addr) (io : Obj) (ns ys : List Value) (ks nch : Nat) (cs ctl : List CR) (cl : CR) (xo : List (Addr × Obj)) (r tot : Int) (tr tb tl tw tt : Tok) (v3 : Option Value) (v5 : Value) (bro : Bool) (ps' : List Int)
    (F1 : Fr g L' s₁.heap m₁) (N1 : News g L' s₁.heap ((I, io) :: (405, tabObj ps) :: (L' + 1, o1) :: (L' + 2, o2) :: (L' + 3, o3) :: (sl, listOf ns.toArray ks) :: (ch, listOf (cs.map fun c => Value.ref c.t).toArray nch) :: (D, LCg.lst ys) :: (xo ++ cs.flatMap CR.objs)))
    (hb1 : AllBare s₁.gens) (hcs : ∀ c ∈ cs, c.Ok bits.toNat) (hcl : cs = ctl ++ [cl]) (hlen : cs.length ≤ 50)
    (h1 : o1.data = .cell (some (.int bits tb))) (h2 : o2.data = .cell (some (.ref D))) (h3 : o3.data = .cell v3) (hys : IntsAre ys ps') (hps : ps'.length ≤ 13)
    (hoff : OffC L' ((I, io) :: (405, tabObj ps) :: (sl, listOf ns.toArray ks) :: (ch, listOf (cs.map fun c => Value.ref c.t).toArray nch) :: (D, LCg.lst ys) :: (xo ++ cs.flatMap CR.objs)))
    (hm1 : m₁ (Str.ofString "rotating") = some (.bool bro)) (hm2 : m₁ (Str.ofString "limit") = some (.int lim tl)) (hm3 : m₁ (Str.ofString "wanted") = some (.int wanted tw)) (hm4 : m₁ (Str.ofString "rounds") = some (.int r tr)) (hm5 : m₁ (Str.ofString "one") = some v5) (hm6 : m₁ (Str.ofString "chain") = some (.ref ch)) (hm7 : m₁ (Str.ofString "total") = some (.int tot tt))
    (Q : Flow → Shared → Prop) (E : Value → Shared → Prop)
    (go : ∀ (ch' : Addr) (c' : CR) (o3' : Obj) (s' : Shared) (m' : Str → Option Value), s'.os = s₁.os → AllBare s'.gens → Fr g L' s'.heap m' →
      News g L' s'.heap ((I, io) :: (405, tabObj ps) :: (L' + 1, o1) :: (L' + 2, o2) :: (L' + 3, o3') :: (sl, listOf ns.toArray ks) :: (ch', listOf ((ctl ++ [c']).map fun c => Value.ref c.t).toArray 0) :: (xo ++ (ctl ++ [c']).flatMap CR.objs)) →
      o3'.data = .cell (some (.ref cl.r)) → IntsAre c'.its c'.row → c'.row = rowSet bits cl.row ps' → c'.cnt = cl.cnt + 1 →
      (∀ q ∈ (I, io) :: (405, tabObj ps) :: (L' + 1, o1) :: (L' + 2, o2) :: (L' + 3, o3') :: (sl, listOf ns.toArray ks) :: (xo ++ cs.flatMap CR.objs), @Ne Nat q.1 ch' ∧ @Ne Nat q.1 c'.t ∧ @Ne Nat q.1 c'.r) →
      m' (Str.ofString "rotating") = some (.bool bro) → m' (Str.ofString "limit") = some (.int lim tl) → m' (Str.ofString "wanted") = some (.int wanted tw) → m' (Str.ofString "rounds") = some (.int r tr) → m' (Str.ofString "one") = some v5 → m' (Str.ofString "chain") = some (.ref ch') → m' (Str.ofString "total") = some (.int tot tt) →
      Q .next s') :
    wpAny (model PySem.Challenge.rw_vo0020_01.row.prog w) (callerA.deeper (envOfC (Str.ofString "law") sc L' fa cd)) (execs bd (envOfC (Str.ofString "law") sc L' fa cd)) Q E s₁ := by
  conv at hsc => rhs; whnf
  conv at hbd => rhs; whnf
  subst hsc hbd
  w_on
  revert X'
  k_fill
  intro X'
  w_top on
  have hmt : (cl.t, tupOf [.ref cl.r, .int cl.cnt cl.tk]) ∈ List.flatMap CR.objs cs := List.mem_flatMap.mpr ⟨cl, by rw [hcl]; simp, .head _⟩
  have hlq : (cs.map fun c => Value.ref c.t).length < 2 ^ 62 := by rw [List.length_map]; omega
  have hIcl : IntsAre cl.its cl.row := (hcs cl (by rw [hcl]; simp)).isI
  have hrl : cl.row.length = bits.toNat := (hcs cl (by rw [hcl]; simp)).len
  have hrb : ∀ k : Int, k < 0 + ((bits.toNat : Nat) : Int) → k < (cl.row.length : Int) := fun k hk => by rw [hrl]; omega
  have hrs : cl.row.length < 2 ^ 62 := by rw [hrl]; omega
  have hctl : (ctl.map fun c => Value.ref c.t).length + 1 ≤ 1000 := by rw [List.length_map]; rw [hcl, List.length_append] at hlen; omega
  have hmr : (cl.r, listOf cl.its.toArray cl.n) ∈ List.flatMap CR.objs cs := List.mem_flatMap.mpr ⟨cl, by rw [hcl]; simp, .tail _ (.head _)⟩
  iterate 14 (try walk_at "my step")
  try dsimp only
  with_reducible rename News _ _ _ _ => N2
  refine chainLast N2 (by k_mem) hcl (by omega) (by simp only [List.length_map]) ?_
  iterate 6 (try walk_at "my step")
  try dsimp only
  with_reducible rename Fr _ _ _ _ => F3
  with_reducible rename News _ _ _ _ => N3
  have N4 := subN (b := (L' + 3, o3) :: (I, io) :: (405, tabObj ps) :: (L' + 1, o1) :: (L' + 2, o2) :: (sl, listOf ns.toArray ks) :: (ch, listOf (cs.map fun c => Value.ref c.t).toArray nch) :: (D, LCg.lst ys) :: (xo ++ cs.flatMap CR.objs)) N3 (fun q hq => by
    simp only [List.mem_cons] at hq ⊢
    grind)
  have hne3 : ∀ q ∈ (I, io) :: (405, tabObj ps) :: (L' + 1, o1) :: (L' + 2, o2) :: (sl, listOf ns.toArray ks) :: (ch, listOf (cs.map fun c => Value.ref c.t).toArray nch) :: (D, LCg.lst ys) :: (xo ++ cs.flatMap CR.objs), q.1 ≠ L' + 3 := by
    intro q hq
    have hq2 : q = (L' + 1, o1) ∨ q = (L' + 2, o2) ∨ q ∈ ((I, io) :: (405, tabObj ps) :: (sl, listOf ns.toArray ks) :: (ch, listOf (cs.map fun c => Value.ref c.t).toArray nch) :: (D, LCg.lst ys) :: (xo ++ cs.flatMap CR.objs)) := by
      simp only [List.mem_cons] at hq ⊢
      grind
    rcases hq2 with rfl | rfl | hq2
    · exact Nat.ne_of_lt (Nat.lt_succ_of_lt (Nat.lt_succ_self _))
    · exact Nat.ne_of_lt (Nat.lt_succ_self _)
    · exact (hoff q hq2).2.2
  k_here
  k_dflt (refine' storeX_C F3 N4 ?c (UpdF.head hne3) h3 ?_ ?a ?b; (case a => rfl); (case b => rfl); (case c => rfl); k_whole)
  intro h6 o6 F6 N7 d6
  try dsimp only at N7
  have N8 : News g L' h6 ((L' + 3, o6) :: (I, io) :: (405, tabObj ps) :: (L' + 1, o1) :: (L' + 2, o2) :: (sl, listOf ns.toArray ks) :: (ch, listOf (cs.map fun c => Value.ref c.t).toArray nch) :: (D, LCg.lst ys) :: (xo ++ cs.flatMap CR.objs)) := N7
  clear N7 N4
  iterate 24 (try walk_at "my step")
  with_reducible rename Fr _ _ _ _ => F9
  with_reducible rename News _ _ _ _ => N9
  k_dflt (refine' kmk_slice_lit ?yF ?yN ?yl ?yp ?yq ?ye ?_ ?ys ?yt ?yz; (case yF => exact F9); (case yN => exact N9); (case yp => exact IsPart.none); (case yq => exact IsPart.int _ _); (case ye => exact chainCut hcl); (case yl => exact News.isList N9 (by k_mem)); (case ys => with_unfolding_all rfl); (case yt => (intro _; with_unfolding_all rfl)); (case yz => (rw [List.size_toArray, List.length_map, sizeLine_eq]; omega)); k_whole)
  intro D2 h9 F10 N10 l1
  (try k_lt l1)
  clear F9 N9
  iterate 12 (try walk_at "my step")
  try dsimp only
  with_reducible rename IsRange _ _ _ _ _ _ _ _ => R2
  with_reducible rename Fr _ _ _ _ => F11
  with_reducible rename News _ _ _ _ => N11
  refine LCg.CompSrc.range (n := bits.toNat) (by rfl) F11 N11 R2 (small_one (by omega) (by omega) (by omega) (by omega)) (by have h9 := rangeSize_nat 0 bits; rw [Int.sub_zero] at h9; exact h9) (by rw [sizeLine_eq]; omega) ?_
  intro g5
  refine kcf_range (fun k => if ps'.any (fun p => decide (k = p)) then 1 else cl.row.getD k.toNat 0) (fun k5 t5 I5 oI5 C5 oC5 D5 m5 ys5 h5 tk5 E5 hlo hhi hC5 hx5 F12 N12 off5 ne5 hMark => ?_) ?_
  · (try (simp only [LCg.Off3, and_true] at off5))
    iterate 7 (try walk_at "my step")
    refine iteBoth (fun hq => ?_) (fun hq => ?_)
    · iterate 2 (try walk_at "my step")
      exact kcf_el (by rw [anyEq]; exact if_pos hq) rfl rfl
    · iterate 3 (try walk_at "my step")
      k_dflt (refine' itemInts ?yN ?ym ?yi ?yz ?yy ?yx ?_ ?ys ?yg; (case ys => with_unfolding_all rfl); (case yg => intro _; with_unfolding_all rfl); (case yN => exact N12); (case yi => exact hIcl); (case ym => k_mem); (case yz => exact hlo); (case yy => exact hrb _ hhi); (case yx => exact hrs); k_whole)
      intro t9
      iterate 1 (try walk_at "my step")
      exact kcf_el (by rw [anyEq]; exact if_neg hq) rfl rfl
  · iterate 11 (try walk_at "my step")
    with_reducible rename Fr _ _ _ _ => F20
    with_reducible rename News _ _ _ _ => N20
    k_here
    k_dflt (refine' addN ?yF ?yN ?ya ?yb ?yz ?_; (case yF => exact F20); (case yN => exact N20); (case ya => k_mem); (case yb => k_mem); (case yz => exact hctl); k_whole)
    intro D21 h21 F21 N21 l21
    iterate 3 (try walk_at "my step")
    try dsimp only
    with_reducible rename Fr _ _ _ _ => F22
    with_reducible rename News _ _ _ _ => N22
    rename_i R6 a6 g6 ys6 hI6 hL6 D6 h6' tk6 o16 D7 h7 l17 l8 h8 l18 h22
    have hD7 := ktn_ltOf (l := (D6, io) :: (D2, io) :: (L' + 3, o6) :: (I, io) :: (405, tabObj ps) :: (L' + 1, o1) :: (L' + 2, o2) :: (sl, listOf ns.toArray ks) :: (ch, io) :: (D, io) :: (xo ++ cs.flatMap CR.objs)) l17
    have hD6 := off1Mem (l := (D2, io) :: (L' + 3, o6) :: (I, io) :: (405, tabObj ps) :: (L' + 1, o1) :: (L' + 2, o2) :: (sl, listOf ns.toArray ks) :: (ch, io) :: (D, io) :: (xo ++ cs.flatMap CR.objs)) o16
    obtain ⟨tkx, hmx⟩ : ∃ tkx, News g L' h22 [(D7, tupOf [.ref D6, .int (cl.cnt + 1) tkx])] := ⟨_, subN N22 (List.forall_mem_cons.mpr ⟨by k_mem, List.forall_mem_nil _⟩)⟩
    refine go D21 ⟨D7, D6, ys, _, cl.cnt + 1, tkx, ys.length⟩ o6 _ _ rfl hb1 F22 (fun q hq => ?_) d6 hI6 (rowEq bits cl.row ps') rfl (fun q hq => ⟨?_, ?_, ?_⟩) hm1 hm2 hm3 hm4 hm5 rfl hm7
    · have hcase : q = (D7, tupOf [.ref D6, .int (cl.cnt + 1) tkx]) ∨ q = (D21, listOf ((ctl.map fun c => Value.ref c.t) ++ [Value.ref D7]).toArray 0) ∨ q = (D6, LCg.lst ys) ∨ q ∈ (L' + 3, o6) :: (I, io) :: (405, tabObj ps) :: (L' + 1, o1) :: (L' + 2, o2) :: (sl, listOf ns.toArray ks) :: (xo ++ cs.flatMap CR.objs) := by
        rw [hcl]
        simp only [List.mem_cons, List.mem_append, List.map_append, List.flatMap_append, List.flatMap_cons, List.flatMap_nil, List.map_cons, List.map_nil, List.not_mem_nil, or_false] at hq ⊢
        grind
      rcases hcase with rfl | rfl | rfl | hq2
      · exact hmx _ (.head _)
      · exact N22 _ (.head _)
      · exact N22 _ (by k_mem)
      · refine N22 q ?_
        simp only [List.mem_cons] at hq2 ⊢
        grind
    · refine Nat.ne_of_lt (l21 q ?_)
      simp only [List.mem_cons] at hq ⊢
      grind
    · refine Nat.ne_of_lt (hD7 q ?_)
      simp only [List.mem_cons] at hq ⊢
      grind
    · refine hD6 q ?_
      simp only [List.mem_cons] at hq ⊢
      grind
end
section
set_option maxHeartbeats 8000000 in
theorem lawAdd (w : World) (sc : Scope) (hsc : sc = lawScope) (bd : List Stmt) (hbd : bd = lawBlk) (bits wanted lim : Int) (hb : 4 ≤ bits) (hb' : bits ≤ 19) (hw : 1 ≤ wanted) (hw' : wanted ≤ 4) (hl0 : 0 ≤ lim) (hl1 : lim ≤ 4)
    (mg mb : Str → Option Value) (p : Program) (loose : List Str) (g : Heap) (L' fa : Addr) (cd : Value) (s₁ : Shared) (m₁ : Str → Option Value) (X' : (Mine.hd.heap_39 w.params).In g) (T' : TopRead p loose mg mb g) (M' : BM mg g) (B' : Below callerA g [] g)
    (ps : Array Value) (o1 o2 o3 : Obj) (sl ch I D : Addr) (io : Obj) (ns ys : List Value) (ks nch : Nat) (cs ctl : List CR) (cl : CR) (xo : List (Addr × Obj)) (r tot : Int) (tr tb tl tw tt : Tok) (v3 : Option Value) (v5 : Value) (bro : Bool) (ps' : List Int)
    (F1 : Fr g L' s₁.heap m₁) (N1 : News g L' s₁.heap ((I, io) :: (405, tabObj ps) :: (L' + 1, o1) :: (L' + 2, o2) :: (L' + 3, o3) :: (sl, listOf ns.toArray ks) :: (ch, listOf (cs.map fun c => Value.ref c.t).toArray nch) :: (D, LCg.lst ys) :: (xo ++ cs.flatMap CR.objs)))
    (hb1 : AllBare s₁.gens) (hcs : ∀ c ∈ cs, c.Ok bits.toNat) (hcl : cs = ctl ++ [cl]) (hlen : cs.length ≤ 49)
    (h1 : o1.data = .cell (some (.int bits tb))) (h2 : o2.data = .cell (some (.ref D))) (h3 : o3.data = .cell v3) (hys : IntsAre ys ps') (hps : ps'.length ≤ 13)
    (hoffB : OffC L' ((I, io) :: (405, tabObj ps) :: (sl, listOf ns.toArray ks) :: (D, LCg.lst ys) :: xo))
    (hAp : ∀ a ∈ I :: 405 :: (L' + 1) :: (L' + 2) :: (L' + 3) :: sl :: xo.map (·.1), ∀ b ∈ chA ch cs, @Ne Nat a b)
    (hm1 : m₁ (Str.ofString "rotating") = some (.bool bro)) (hm2 : m₁ (Str.ofString "limit") = some (.int lim tl)) (hm3 : m₁ (Str.ofString "wanted") = some (.int wanted tw)) (hm4 : m₁ (Str.ofString "rounds") = some (.int r tr)) (hm5 : m₁ (Str.ofString "one") = some v5) (hm6 : m₁ (Str.ofString "chain") = some (.ref ch)) (hm7 : m₁ (Str.ofString "total") = some (.int tot tt))
    (Q : Flow → Shared → Prop) (E : Value → Shared → Prop)
    (go : ∀ (ctl1 : List CR) (cl1 : CR) (ch' : Addr) (c' : CR) (o3' : Obj) (s' : Shared) (m' : Str → Option Value) (v3' : Option Value), ((cl.cnt < wanted ∧ ctl1 = ctl ∧ cl1 = cl) ∨ (wanted ≤ cl.cnt ∧ ctl1 = longer lim cs ∧ cl1.row = List.replicate bits.toNat 0 ∧ cl1.cnt = 0)) → s'.os = s₁.os → AllBare s'.gens → Fr g L' s'.heap m' →
      News g L' s'.heap ((I, io) :: (405, tabObj ps) :: (L' + 1, o1) :: (L' + 2, o2) :: (L' + 3, o3') :: (sl, listOf ns.toArray ks) :: (ch', listOf ((ctl1 ++ [c']).map fun c => Value.ref c.t).toArray 0) :: (xo ++ (ctl1 ++ [c']).flatMap CR.objs)) →
      o3'.data = .cell v3' → IntsAre c'.its c'.row → c'.row = rowSet bits cl1.row ps' → c'.cnt = cl1.cnt + 1 →
      (∀ a ∈ I :: 405 :: (L' + 1) :: (L' + 2) :: (L' + 3) :: sl :: xo.map (·.1), ∀ b ∈ chA ch' (ctl1 ++ [c']), @Ne Nat a b) →
      m' (Str.ofString "rotating") = some (.bool bro) → m' (Str.ofString "limit") = some (.int lim tl) → m' (Str.ofString "wanted") = some (.int wanted tw) → m' (Str.ofString "rounds") = some (.int r tr) → m' (Str.ofString "one") = some v5 → m' (Str.ofString "chain") = some (.ref ch') → m' (Str.ofString "total") = some (.int tot tt) →
      Q .next s') :
    wpAny (model PySem.Challenge.rw_vo0020_01.row.prog w) (callerA.deeper (envOfC (Str.ofString "law") sc L' fa cd)) (execs bd (envOfC (Str.ofString "law") sc L' fa cd)) Q E s₁ := by
  conv at hsc => rhs; whnf
  conv at hbd => rhs; whnf
  subst hsc hbd
  w_on
  revert X'
  k_fill
  intro X'
  w_top on
  have hmt : (cl.t, tupOf [.ref cl.r, .int cl.cnt cl.tk]) ∈ List.flatMap CR.objs cs := List.mem_flatMap.mpr ⟨cl, by rw [hcl]; simp, .head _⟩
  have hlq : (cs.map fun c => Value.ref c.t).length < 2 ^ 62 := by rw [List.length_map]; omega
  have hoffC : ∀ (ch2 : Addr) (ob : Obj) (cs2 : List CR), (∀ a ∈ I :: 405 :: (L' + 1) :: (L' + 2) :: (L' + 3) :: sl :: xo.map (·.1), ∀ b ∈ chA ch2 cs2, @Ne Nat a b) →
      OffC L' ((I, io) :: (405, tabObj ps) :: (sl, listOf ns.toArray ks) :: (ch2, ob) :: (D, LCg.lst ys) :: (xo ++ cs2.flatMap CR.objs)) := by
    intro ch2 ob cs2 hA q hq
    have hc : q ∈ (I, io) :: (405, tabObj ps) :: (sl, listOf ns.toArray ks) :: (D, LCg.lst ys) :: xo ∨ q.1 ∈ chA ch2 cs2 := by
      simp only [List.mem_cons, List.mem_append] at hq
      rcases hq with rfl | rfl | rfl | rfl | rfl | hq | hq
      · exact .inl (.head _)
      · exact .inl (.tail _ (.head _))
      · exact .inl (.tail _ (.tail _ (.head _)))
      · exact .inr (.head _)
      · exact .inl (.tail _ (.tail _ (.tail _ (.head _))))
      · exact .inl (.tail _ (.tail _ (.tail _ (.tail _ hq))))
      · exact .inr (chA_mem hq)
    rcases hc with hc | hc
    · exact hoffB q hc
    · exact ⟨(hA (L' + 1) (.tail _ (.tail _ (.head _))) _ hc).symm, (hA (L' + 2) (.tail _ (.tail _ (.tail _ (.head _)))) _ hc).symm, (hA (L' + 3) (.tail _ (.tail _ (.tail _ (.tail _ (.head _))))) _ hc).symm⟩
  iterate 16 (try walk_at "my step")
  try dsimp only
  with_reducible rename News _ _ _ _ => N2
  refine chainLast N2 (by k_mem) hcl (by omega) (by simp only [List.length_map]) ?_
  iterate 5 (try walk_at "my step")
  try dsimp only
  refine iteBoth (fun hq => ?_) (fun hq => ?_)
  · have hq : wanted ≤ cl.cnt := of_decide_eq_true hq
    iterate 13 (try walk_at "my step")
    try dsimp only
    with_reducible rename Fr _ _ _ _ => F3
    with_reducible rename News _ _ _ _ => N3
    have C3 := fun t1 t2 => c_longer w ch (cs.map fun c => Value.ref c.t) nch bits lim t1 t2 hb hb' hl0 hl1 (by rw [List.length_map]; omega) (by rw [List.length_map, hcl, List.length_append]; simp)
    k_dflt (refine useConK (C3 _ _) rfl B' F3 X' N3 T' M' rfl (by walk_at "my subset") ?hk (by ktr_room) (by ktr_units) hb1 ?_)
    case hk =>
      rintro v objs' ⟨l, t, r9, rs, tk, -, rfl, -⟩ q hq
      exact .tail _ (.tail _ (.tail _ hq))
    rintro v objs' s3 hos3 hb3 F4 N4 A4 ⟨l, t, r9, rs, tk9, rfl, rfl, hI9, n1, n2, n3⟩
    iterate 3 (try walk_at "my step")
    try dsimp only
    with_reducible rename Fr _ _ _ _ => F5
    with_reducible rename News _ _ _ _ => N5
    have hA1 : ∀ a ∈ I :: 405 :: (L' + 1) :: (L' + 2) :: (L' + 3) :: sl :: xo.map (·.1), ∀ b ∈ chA l (longer lim cs ++ [(⟨t, r9, rs, List.replicate bits.toNat 0, 0, tk9, 0⟩ : CR)]), @Ne Nat a b := by
      refine apNew (qs := (I, io) :: (405, tabObj ps) :: (L' + 1, o1) :: (L' + 2, o2) :: (L' + 3, o3) :: (sl, listOf ns.toArray ks) :: (xo ++ [])) (fun q hq => ?_) baseSub (fun a ha b hb => hAp a ha b ?_)
      · have hn : q.1 ∉ [(ch, listOf (cs.map fun c => Value.ref c.t).toArray nch)].map (·.1) := by
          intro hm
          have hm2 : q.1 = ch := List.mem_singleton.mp hm
          refine hAp q.1 ?_ ch (.head _) hm2
          rw [List.append_nil] at hq
          simp only [List.mem_cons] at hq ⊢
          rcases hq with rfl | rfl | rfl | rfl | rfl | rfl | hq
          · exact .inl rfl
          · exact .inr (.inl rfl)
          · exact .inr (.inr (.inl rfl))
          · exact .inr (.inr (.inr (.inl rfl)))
          · exact .inr (.inr (.inr (.inr (.inl rfl))))
          · exact .inr (.inr (.inr (.inr (.inr (.inl rfl)))))
          · exact .inr (.inr (.inr (.inr (.inr (.inr (List.mem_map_of_mem hq))))))
        have h9 := A4 q (by
          rw [List.append_nil] at hq
          simp only [List.mem_cons, List.mem_append] at hq ⊢
          grind) hn
        exact ⟨h9 _ (.head _), h9 _ (.tail _ (.head _)), h9 _ (.tail _ (.tail _ (.head _)))⟩
      · refine .tail _ ?_
        obtain ⟨c, hc, hb2⟩ := List.mem_flatMap.mp hb
        exact List.mem_flatMap.mpr ⟨c, longer_sub hc, hb2⟩
    have N6 := subN (b := (I, io) :: (405, tabObj ps) :: (L' + 1, o1) :: (L' + 2, o2) :: (L' + 3, o3) :: (sl, listOf ns.toArray ks) :: (l, listOf ((longer lim cs ++ [(⟨t, r9, rs, List.replicate bits.toNat 0, 0, tk9, 0⟩ : CR)]).map fun c => Value.ref c.t).toArray 0) :: (D, LCg.lst ys) :: (xo ++ (longer lim cs ++ [(⟨t, r9, rs, List.replicate bits.toNat 0, 0, tk9, 0⟩ : CR)]).flatMap CR.objs)) N5 (fun q hq => by
      rw [longer_map]
      have hl9 : q ∈ (longer lim cs).flatMap CR.objs → q ∈ cs.flatMap CR.objs := fun h => by
        obtain ⟨c, hc, hb2⟩ := List.mem_flatMap.mp h
        exact List.mem_flatMap.mpr ⟨c, longer_sub hc, hb2⟩
      simp only [List.mem_cons, List.mem_append, List.map_append, List.flatMap_append, List.flatMap_cons, List.flatMap_nil, List.map_cons, List.map_nil, List.not_mem_nil, or_false] at hq ⊢
      grind)
    have hok9 : ∀ c ∈ longer lim cs ++ [(⟨t, r9, rs, List.replicate bits.toNat 0, 0, tk9, 0⟩ : CR)], c.Ok bits.toNat := by
      intro c hc
      rcases List.mem_append.mp hc with hc | hc
      · exact hcs c (longer_sub hc)
      · rw [List.mem_singleton.mp hc]
        exact ⟨hI9, List.length_replicate, fun v hv => .inl (List.mem_replicate.mp hv).2⟩
    have hlen9 : (longer lim cs ++ [(⟨t, r9, rs, List.replicate bits.toNat 0, 0, tk9, 0⟩ : CR)]).length ≤ 50 := by
      have h9 := longer_length lim cs
      rw [List.length_append]
      exact Nat.succ_le_succ (Nat.le_trans h9 hlen)
    refine lawAdd2 w _ (by rfl) _ (by rfl) bits wanted lim hb hb' hw hw' hl0 hl1 mg mb p loose g L' fa cd _ (fun y => if y = Str.ofString "chain" then some (.ref l) else m₁ y) X' T' M' B' ps o1 o2 o3 sl l I D io ns ys ks 0 _ _ ⟨t, r9, rs, List.replicate bits.toNat 0, 0, tk9, 0⟩ xo r tot tr tb tl tw tt v3 v5 bro ps' (by exact F5) (by exact N6) (by exact hb3) hok9 rfl hlen9 h1 h2 h3 hys hps (hoffC l _ _ hA1) hm1 hm2 hm3 hm4 hm5 rfl hm7 Q E ?_
    intro ch' c' o3' s' m' e1 e2 e3 e4 e5 e6 e7 e8 e9 k1 k2 k3 k4 k5 k6 k7
    refine go (longer lim cs) ⟨t, r9, rs, List.replicate bits.toNat 0, 0, tk9, 0⟩ ch' c' o3' s' m' _ (.inr ⟨hq, rfl, rfl, rfl⟩) (e1.trans hos3) e2 e3 e4 e5 e6 e7 e8 ?_ k1 k2 k3 k4 k5 k6 k7
    refine apNew e9 baseSub fun a ha b hb => hA1 a ha b ?_
    exact .tail _ (by rw [List.flatMap_append]; exact List.mem_append_left _ hb)
  · have hq : cl.cnt < wanted := Int.lt_of_not_ge fun h => hq (decide_eq_true h)
    iterate 1 (try walk_at "my step")
    try dsimp only
    with_reducible rename Fr _ _ _ _ => F3
    refine lawAdd2 w _ (by rfl) _ (by rfl) bits wanted lim hb hb' hw hw' hl0 hl1 mg mb p loose g L' fa cd _ _ X' T' M' B' ps o1 o2 o3 sl ch I D io ns ys ks nch cs ctl cl xo r tot tr tb tl tw tt v3 v5 bro ps' (by exact F3) (by exact N2) (by exact hb1) hcs hcl (Nat.le_succ_of_le hlen) h1 h2 h3 hys hps (hoffC ch _ cs hAp) hm1 hm2 hm3 hm4 hm5 hm6 hm7 Q E ?_
    intro ch' c' o3' s' m' e1 e2 e3 e4 e5 e6 e7 e8 e9 k1 k2 k3 k4 k5 k6 k7
    refine go ctl cl ch' c' o3' s' m' _ (.inl ⟨hq, rfl, rfl⟩) e1 e2 e3 e4 e5 e6 e7 e8 ?_ k1 k2 k3 k4 k5 k6 k7
    refine apNew e9 baseSub fun a ha b hb => hAp a ha b ?_
    rw [hcl]
    exact .tail _ (by rw [List.flatMap_append]; exact List.mem_append_left _ hb)
end
section
set_option maxHeartbeats 8000000 in
theorem tailE (w : World) (sc : Scope) (hsc : sc = lawScope) (bd : List Stmt) (hbd : bd = lawTail) (bits wanted r lim : Int)
    (mg mb : Str → Option Value) (p : Program) (loose : List Str) (g : Heap) (L' fa : Addr) (cd : Value) (s₁ : Shared) (m₁ : Str → Option Value) (X' : (Mine.hd.heap_39 w.params).In g) (T' : TopRead p loose mg mb g) (M' : BM mg g) (B' : Below callerA g [] g)
    (x : OR) (ps : Array Value) (o1 o2 o3 : Obj) (sl ch I : Addr) (io : Obj) (ns : List Value) (ks nch : Nat) (cs : List CR) (tot : Int) (tl tt : Tok)
    (F1 : Fr g L' s₁.heap m₁) (N1 : News g L' s₁.heap ((I, io) :: (405, tabObj ps) :: (L' + 1, o1) :: (L' + 2, o2) :: (L' + 3, o3) :: (sl, listOf ns.toArray ks) :: (ch, listOf (cs.map fun c => Value.ref c.t).toArray nch) :: (x.objsE bits wanted r lim tot ++ cs.flatMap CR.objs)))
    (hb1 : AllBare s₁.gens) (hlen : x.bs.length = cs.length) (hlen2 : cs.length ≤ 50)
    (hm1 : m₁ (Str.ofString "rotating") = some (.bool false)) (hm2 : m₁ (Str.ofString "limit") = some (.int lim tl)) (hm5 : m₁ (Str.ofString "one") = some (.ref x.o)) (hm6 : m₁ (Str.ofString "chain") = some (.ref ch)) (hm7 : m₁ (Str.ofString "total") = some (.int tot tt))
    (Q : Flow → Shared → Prop) (E : Value → Shared → Prop)
    (go : ∀ (s' : Shared), s'.os = s₁.os → AllBare s'.gens → Fr g L' s'.heap m₁ → News g L' s'.heap ((I, io) :: (405, tabObj ps) :: (L' + 1, o1) :: (L' + 2, o2) :: (L' + 3, o3) :: (sl, listOf ns.toArray ks) :: (ch, listOf (cs.map fun c => Value.ref c.t).toArray nch) :: (x.objsE bits wanted r lim tot ++ cs.flatMap CR.objs)) → Q .next s') :
    wpAny (model PySem.Challenge.rw_vo0020_01.row.prog w) (callerA.deeper (envOfC (Str.ofString "law") sc L' fa cd)) (execs bd (envOfC (Str.ofString "law") sc L' fa cd)) Q E s₁ := by
  conv at hsc => rhs; whnf
  conv at hbd => rhs; whnf
  subst hsc hbd
  w_on
  revert X'
  k_fill
  intro X'
  w_top on
  have hm3 := hm1
  have hm4 := hm1
  have hlenq : (refsOf x.bs).length < 2 ^ 62 := by rw [List.length_map]; omega
  have hlenp : (cs.map fun c => Value.ref c.t).length < 2 ^ 62 := by rw [List.length_map]; omega
  have hlene : ((refsOf x.bs).length : Int) = ((cs.map fun c => Value.ref c.t).length : Int) := by rw [List.length_map, List.length_map, hlen]
  have N2 : News g L' s₁.heap ((I, io) :: (405, tabObj ps) :: (L' + 1, o1) :: (L' + 2, o2) :: (L' + 3, o3) :: (sl, listOf ns.toArray ks) :: (ch, listOf (cs.map fun c => Value.ref c.t).toArray nch) :: (x.o, instObj 443 x.d) :: (x.d, dictOf (eDict bits wanted lim x.z tot x.l) x.n) :: (x.l, listOf (refsOf x.bs).toArray x.k) :: (blObjs bits wanted r x.bs ++ cs.flatMap CR.objs)) := N1
  clear N1
  iterate 16 (try walk_at "my step")
  refine PySem.W.ite_neg (by simp) ?_
  iterate 32 (try walk_at "my step")
  refine PySem.W.ite_neg (by rw [hlene]; simp) ?_
  iterate 14 (try walk_at "my step")
  with_reducible rename Fr _ _ _ _ => F9
  with_reducible rename News _ _ _ _ => N9
  exact go _ rfl hb1 F9 N9
end
section
set_option maxHeartbeats 8000000 in
theorem tailR (w : World) (sc : Scope) (hsc : sc = lawScope) (bd : List Stmt) (hbd : bd = lawTail) (bits wanted r lim : Int)
    (mg mb : Str → Option Value) (p : Program) (loose : List Str) (g : Heap) (L' fa : Addr) (cd : Value) (s₁ : Shared) (m₁ : Str → Option Value) (X' : (Mine.hd.heap_39 w.params).In g) (T' : TopRead p loose mg mb g) (M' : BM mg g) (B' : Below callerA g [] g)
    (x : OR) (ps : Array Value) (o1 o2 o3 : Obj) (sl ch I : Addr) (io : Obj) (ns : List Value) (ks nch : Nat) (cs : List CR) (tot : Int) (tl tt : Tok)
    (F1 : Fr g L' s₁.heap m₁) (N1 : News g L' s₁.heap ((I, io) :: (405, tabObj ps) :: (L' + 1, o1) :: (L' + 2, o2) :: (L' + 3, o3) :: (sl, listOf ns.toArray ks) :: (ch, listOf (cs.map fun c => Value.ref c.t).toArray nch) :: (x.objsR bits wanted r lim tot ++ cs.flatMap CR.objs)))
    (hb1 : AllBare s₁.gens) (hlen : x.bs.length = cs.length) (hlen2 : cs.length ≤ 50)
    (hm1 : m₁ (Str.ofString "rotating") = some (.bool true)) (hm2 : m₁ (Str.ofString "limit") = some (.int lim tl)) (hm5 : m₁ (Str.ofString "one") = some (.ref x.o)) (hm6 : m₁ (Str.ofString "chain") = some (.ref ch)) (hm7 : m₁ (Str.ofString "total") = some (.int tot tt))
    (Q : Flow → Shared → Prop) (E : Value → Shared → Prop)
    (go : ∀ (s' : Shared), s'.os = s₁.os → AllBare s'.gens → Fr g L' s'.heap m₁ → News g L' s'.heap ((I, io) :: (405, tabObj ps) :: (L' + 1, o1) :: (L' + 2, o2) :: (L' + 3, o3) :: (sl, listOf ns.toArray ks) :: (ch, listOf (cs.map fun c => Value.ref c.t).toArray nch) :: (x.objsR bits wanted r lim tot ++ cs.flatMap CR.objs)) → Q .next s') :
    wpAny (model PySem.Challenge.rw_vo0020_01.row.prog w) (callerA.deeper (envOfC (Str.ofString "law") sc L' fa cd)) (execs bd (envOfC (Str.ofString "law") sc L' fa cd)) Q E s₁ := by
  conv at hsc => rhs; whnf
  conv at hbd => rhs; whnf
  subst hsc hbd
  w_on
  revert X'
  k_fill
  intro X'
  w_top on
  have hm3 := hm1
  have hm4 := hm1
  have hlenq : (refsOf x.bs).length < 2 ^ 62 := by rw [List.length_map]; omega
  have hlenp : (cs.map fun c => Value.ref c.t).length < 2 ^ 62 := by rw [List.length_map]; omega
  have hlene : ((refsOf x.bs).length : Int) = ((cs.map fun c => Value.ref c.t).length : Int) := by rw [List.length_map, List.length_map, hlen]
  have N2 : News g L' s₁.heap ((I, io) :: (405, tabObj ps) :: (L' + 1, o1) :: (L' + 2, o2) :: (L' + 3, o3) :: (sl, listOf ns.toArray ks) :: (ch, listOf (cs.map fun c => Value.ref c.t).toArray nch) :: (x.o, instObj 520 x.d) :: (x.d, dictOf (rDict bits wanted lim x.z tot x.l) x.n) :: (x.l, listOf (refsOf x.bs).toArray x.k) :: (blObjs bits wanted r x.bs ++ cs.flatMap CR.objs)) := N1
  clear N1
  iterate 16 (try walk_at "my step")
  refine PySem.W.ite_neg (by simp) ?_
  iterate 32 (try walk_at "my step")
  refine PySem.W.ite_neg (by rw [hlene]; simp) ?_
  iterate 38 (try walk_at "my step")
  refine PySem.W.ite_neg (by rw [hlene]; simp) ?_
  iterate 14 (try walk_at "my step")
  refine PySem.W.ite_neg (by simp) ?_
  iterate 8 (try walk_at "my step")
  with_reducible rename Fr _ _ _ _ => F9
  with_reducible rename News _ _ _ _ => N9
  exact go _ rfl hb1 F9 N9
end
end Mine
end
section
open PySem PySem.W PyProof.Rows PySem.Calls
namespace Mine
section
/-- the row's own things lie apart from the law's -/
def ApX (L I sl ch : Addr) (cs : List CR) (x : OR) : Prop := ∀ a ∈ I :: (L + 1) :: (L + 2) :: (L + 3) :: sl :: chA ch cs, ∀ b ∈ (405 : Addr) :: x.adr, @Ne Nat a b
/-- the chain lies apart from the law's other things -/
def ApH (L I sl ch : Addr) (cs : List CR) : Prop := ∀ a ∈ [I, L + 1, L + 2, L + 3, sl], ∀ b ∈ chA ch cs, @Ne Nat a b
/-- what lies still through the loop -/
structure ApI (L I sl : Addr) : Prop where
  i1 : @Ne Nat I (L + 1)
  i2 : @Ne Nat I (L + 2)
  i3 : @Ne Nat I (L + 3)
  s1 : @Ne Nat sl (L + 1)
  s2 : @Ne Nat sl (L + 2)
  s3 : @Ne Nat sl (L + 3)
  is : @Ne Nat I sl
/-- what the law's names say -/
structure MM (m : Str → Option Value) (bro : Bool) (lim wanted r tot : Int) (o ch : Addr) (tl tw tr tt : Tok) : Prop where
  m1 : m (Str.ofString "rotating") = some (.bool bro)
  m2 : m (Str.ofString "limit") = some (.int lim tl)
  m3 : m (Str.ofString "wanted") = some (.int wanted tw)
  m4 : m (Str.ofString "rounds") = some (.int r tr)
  m5 : m (Str.ofString "one") = some (.ref o)
  m6 : m (Str.ofString "chain") = some (.ref ch)
  m7 : m (Str.ofString "total") = some (.int tot tt)
variable {L I sl ch D : Addr} {cs : List CR} {x : OR} {io o1 o2 o3 os oc od : Obj} {more : List (Addr × Obj)}
theorem ApX.hap (h : ApX L I sl ch cs x) (hD : ∀ b ∈ (405 : Addr) :: x.adr, @Ne Nat D b) {objs : List (Addr × Obj)} (hobj : ∀ b ∈ objs, b.1 ∈ (405 : Addr) :: x.adr) :
    ∀ q ∈ (I, io) :: (L + 1, o1) :: (L + 2, o2) :: (L + 3, o3) :: (sl, os) :: (ch, oc) :: (D, od) :: cs.flatMap CR.objs, ∀ b ∈ objs, q.1 ≠ b.1 := by
  intro q hq b hb
  simp only [List.mem_cons] at hq
  rcases hq with rfl | rfl | rfl | rfl | rfl | rfl | rfl | hq
  · exact h _ (.head _) _ (hobj b hb)
  · exact h _ (.tail _ (.head _)) _ (hobj b hb)
  · exact h _ (.tail _ (.tail _ (.head _))) _ (hobj b hb)
  · exact h _ (.tail _ (.tail _ (.tail _ (.head _)))) _ (hobj b hb)
  · exact h _ (.tail _ (.tail _ (.tail _ (.tail _ (.head _))))) _ (hobj b hb)
  · exact h _ (.tail _ (.tail _ (.tail _ (.tail _ (.tail _ (.head _)))))) _ (hobj b hb)
  · exact hD _ (hobj b hb)
  · exact h _ (.tail _ (.tail _ (.tail _ (.tail _ (.tail _ (chA_mem hq)))))) _ (hobj b hb)
/-- and back, after a contract -/
theorem ApX.of {x' : OR} {objs : List (Addr × Obj)} (h : ∀ q ∈ (I, io) :: (L + 1, o1) :: (L + 2, o2) :: (L + 3, o3) :: (sl, os) :: (ch, oc) :: (D, od) :: cs.flatMap CR.objs, ∀ b ∈ objs, q.1 ≠ b.1) (hobj : ∀ a ∈ (405 : Addr) :: x'.adr, ∃ b ∈ objs, b.1 = a) :
    ApX L I sl ch cs x' := by
  intro a ha b hb
  obtain ⟨b9, hb9, rfl⟩ := hobj b hb
  have hq : ∃ q ∈ (I, io) :: (L + 1, o1) :: (L + 2, o2) :: (L + 3, o3) :: (sl, os) :: (ch, oc) :: (D, od) :: cs.flatMap CR.objs, q.1 = a := by
    simp only [List.mem_cons] at ha
    rcases ha with rfl | rfl | rfl | rfl | rfl | ha
    · exact ⟨_, .head _, rfl⟩
    · exact ⟨_, .tail _ (.head _), rfl⟩
    · exact ⟨_, .tail _ (.tail _ (.head _)), rfl⟩
    · exact ⟨_, .tail _ (.tail _ (.tail _ (.head _))), rfl⟩
    · exact ⟨_, .tail _ (.tail _ (.tail _ (.tail _ (.head _)))), rfl⟩
    · rcases List.mem_cons.mp ha with rfl | ha
      · exact ⟨_, .tail _ (.tail _ (.tail _ (.tail _ (.tail _ (.head _))))), rfl⟩
      · rw [← rowsAdr] at ha
        obtain ⟨q, hq, rfl⟩ := List.mem_map.mp ha
        exact ⟨q, .tail _ (.tail _ (.tail _ (.tail _ (.tail _ (.tail _ (.tail _ hq)))))), rfl⟩
  obtain ⟨q, hq, rfl⟩ := hq
  exact h q hq b9 hb9
theorem objE_adr {bits wanted r lim tot : Int} {ps : Array Value} {b : Addr × Obj} (h : b ∈ (405, tabObj ps) :: x.objsE bits wanted r lim tot) : b.1 ∈ (405 : Addr) :: x.adr := by
  rcases List.mem_cons.mp h with rfl | h
  · exact .head _
  · exact .tail _ (by rw [← adrE (bits := bits) (wanted := wanted) (r := r) (lim := lim) (tot := tot)]; exact List.mem_map_of_mem h)
theorem objR_adr {bits wanted r lim tot : Int} {ps : Array Value} {b : Addr × Obj} (h : b ∈ (405, tabObj ps) :: x.objsR bits wanted r lim tot) : b.1 ∈ (405 : Addr) :: x.adr := by
  rcases List.mem_cons.mp h with rfl | h
  · exact .head _
  · exact .tail _ (by rw [← adrR (bits := bits) (wanted := wanted) (r := r) (lim := lim) (tot := tot)]; exact List.mem_map_of_mem h)
theorem adr_objE {bits wanted r lim tot : Int} {ps : Array Value} : ∀ a ∈ (405 : Addr) :: x.adr, ∃ b ∈ (405, tabObj ps) :: x.objsE bits wanted r lim tot, b.1 = a := by
  intro a ha
  rcases List.mem_cons.mp ha with rfl | ha
  · exact ⟨_, .head _, rfl⟩
  · rw [← adrE (bits := bits) (wanted := wanted) (r := r) (lim := lim) (tot := tot)] at ha
    obtain ⟨b, hb, rfl⟩ := List.mem_map.mp ha
    exact ⟨b, .tail _ hb, rfl⟩
theorem adr_objR {bits wanted r lim tot : Int} {ps : Array Value} : ∀ a ∈ (405 : Addr) :: x.adr, ∃ b ∈ (405, tabObj ps) :: x.objsR bits wanted r lim tot, b.1 = a := by
  intro a ha
  rcases List.mem_cons.mp ha with rfl | ha
  · exact ⟨_, .head _, rfl⟩
  · rw [← adrR (bits := bits) (wanted := wanted) (r := r) (lim := lim) (tot := tot)] at ha
    obtain ⟨b, hb, rfl⟩ := List.mem_map.mp ha
    exact ⟨b, .tail _ hb, rfl⟩
/-- what a list's adding asks, from the two -/
theorem ApX.ap {xo : List (Addr × Obj)} (h : ApX L I sl ch cs x) (h' : ApH L I sl ch cs) (hx : xo.map (·.1) = x.adr) : ∀ a ∈ I :: 405 :: (L + 1) :: (L + 2) :: (L + 3) :: sl :: xo.map (·.1), ∀ b ∈ chA ch cs, @Ne Nat a b := by
  intro a ha b hb
  rw [hx] at ha
  simp only [List.mem_cons] at ha
  have hb2 : b ∈ I :: (L + 1) :: (L + 2) :: (L + 3) :: sl :: chA ch cs := .tail _ (.tail _ (.tail _ (.tail _ (.tail _ hb))))
  rcases ha with rfl | rfl | rfl | rfl | rfl | rfl | ha
  · exact h' _ (.head _) b hb
  · exact (h b hb2 _ (.head _)).symm
  · exact h' _ (.tail _ (.head _)) b hb
  · exact h' _ (.tail _ (.tail _ (.head _))) b hb
  · exact h' _ (.tail _ (.tail _ (.tail _ (.head _)))) b hb
  · exact h' _ (.tail _ (.tail _ (.tail _ (.tail _ (.head _))))) b hb
  · exact (h b hb2 _ (.tail _ ha)).symm
theorem ApX.new {xo : List (Addr × Obj)} {ch' : Addr} {cs' : List CR} (h : ApX L I sl ch cs x) (hx : xo.map (·.1) = x.adr) (hn : ∀ a ∈ I :: 405 :: (L + 1) :: (L + 2) :: (L + 3) :: sl :: xo.map (·.1), ∀ b ∈ chA ch' cs', @Ne Nat a b) : ApX L I sl ch' cs' x ∧ ApH L I sl ch' cs' := by
  rw [hx] at hn
  refine ⟨fun a ha b hb => ?_, fun a ha b hb => ?_⟩
  · simp only [List.mem_cons] at ha
    have h9 : ∀ c ∈ I :: (L + 1) :: (L + 2) :: (L + 3) :: sl :: chA ch cs, @Ne Nat c b := fun c hc => h c hc b hb
    rcases ha with rfl | rfl | rfl | rfl | rfl | ha
    · exact h9 _ (.head _)
    · exact h9 _ (.tail _ (.head _))
    · exact h9 _ (.tail _ (.tail _ (.head _)))
    · exact h9 _ (.tail _ (.tail _ (.tail _ (.head _))))
    · exact h9 _ (.tail _ (.tail _ (.tail _ (.tail _ (.head _)))))
    · refine (hn b ?_ a ha).symm
      rcases List.mem_cons.mp hb with rfl | hb
      · exact .tail _ (.head _)
      · exact .tail _ (.tail _ (.tail _ (.tail _ (.tail _ (.tail _ hb)))))
  · refine hn a ?_ b hb
    simp only [List.mem_cons, List.not_mem_nil, or_false] at ha ⊢
    grind
end
section
variable {L I sl ch : Addr} {cs : List CR} {x : OR} {io o1 o2 o3 os oc ot : Obj}
/-- the row that the law's list grows by -/
abbrev newRow (bits : Int) (t r9 : Addr) (rs : List Value) (tk : Tok) : CR := ⟨t, r9, rs, List.replicate bits.toNat 0, 0, tk, 0⟩
theorem longerAp {xo news : List (Addr × Obj)} {l t r9 : Addr} {rs : List Value} {tk9 : Tok} {p1 p2 p3 : Obj} {bits lim : Int} (hAp : ∀ a ∈ I :: 405 :: (L + 1) :: (L + 2) :: (L + 3) :: sl :: xo.map (·.1), ∀ b ∈ chA ch cs, @Ne Nat a b)
    (A4 : ∀ q ∈ news, q.1 ∉ [(ch, oc)].map (·.1) → ∀ b ∈ [(l, p1), (t, p2), (r9, p3), (ch, oc)], q.1 ≠ b.1)
    (hsub : ∀ q ∈ (I, io) :: (405, ot) :: (L + 1, o1) :: (L + 2, o2) :: (L + 3, o3) :: (sl, os) :: xo, q ∈ news) :
    ∀ a ∈ I :: 405 :: (L + 1) :: (L + 2) :: (L + 3) :: sl :: xo.map (·.1), ∀ b ∈ chA l (longer lim cs ++ [newRow bits t r9 rs tk9]), @Ne Nat a b := by
  refine apNew (qs := (I, io) :: (405, ot) :: (L + 1, o1) :: (L + 2, o2) :: (L + 3, o3) :: (sl, os) :: (xo ++ [])) (fun q hq => ?_) baseSub (fun a ha b hb => hAp a ha b ?_)
  · rw [List.append_nil] at hq
    have hn : q.1 ∉ [(ch, oc)].map (·.1) := by
      intro hm
      have hm2 : q.1 = ch := List.mem_singleton.mp hm
      refine hAp q.1 ?_ ch (.head _) hm2
      simp only [List.mem_cons] at hq ⊢
      rcases hq with rfl | rfl | rfl | rfl | rfl | rfl | hq
      · exact .inl rfl
      · exact .inr (.inl rfl)
      · exact .inr (.inr (.inl rfl))
      · exact .inr (.inr (.inr (.inl rfl)))
      · exact .inr (.inr (.inr (.inr (.inl rfl))))
      · exact .inr (.inr (.inr (.inr (.inr (.inl rfl)))))
      · exact .inr (.inr (.inr (.inr (.inr (.inr (List.mem_map_of_mem hq))))))
    have h9 := A4 q (hsub q hq) hn
    exact ⟨h9 _ (.head _), h9 _ (.tail _ (.head _)), h9 _ (.tail _ (.tail _ (.head _)))⟩
  · refine .tail _ ?_
    obtain ⟨c, hc, hb2⟩ := List.mem_flatMap.mp hb
    exact List.mem_flatMap.mpr ⟨c, longer_sub hc, hb2⟩
theorem longerRows {bits lim : Int} {t r9 : Addr} {rs : List Value} {tk9 : Tok} {q : Addr × Obj} (h : q ∈ (longer lim cs ++ [newRow bits t r9 rs tk9]).flatMap CR.objs) : q ∈ cs.flatMap CR.objs ∨ q = (t, tupOf [.ref r9, .int 0 tk9]) ∨ q = (r9, listOf rs.toArray 0) := by
  rw [List.flatMap_append] at h
  rcases List.mem_append.mp h with h | h
  · obtain ⟨c, hc, hb2⟩ := List.mem_flatMap.mp h
    exact .inl (List.mem_flatMap.mpr ⟨c, longer_sub hc, hb2⟩)
  · simp only [List.flatMap_cons, List.flatMap_nil, List.append_nil, List.mem_cons, List.not_mem_nil, or_false] at h
    exact .inr h
theorem longerRefs {bits lim : Int} {t r9 : Addr} {rs : List Value} {tk9 : Tok} : longer lim (cs.map fun c => Value.ref c.t) ++ [Value.ref t] = (longer lim cs ++ [newRow bits t r9 rs tk9]).map fun c => Value.ref c.t := by
  rw [longer_map, List.map_append]
  rfl
/-- the row's things after a contract that leaves the code table -/
theorem ApX.of2 {x' : OR} {objs rest : List (Addr × Obj)} (h0 : ApX L I sl ch cs x) (h : ∀ q ∈ rest, ∀ b ∈ objs, q.1 ≠ b.1) (hsub : ∀ a ∈ I :: (L + 1) :: (L + 2) :: (L + 3) :: sl :: chA ch cs, ∃ q ∈ rest, q.1 = a) (hobj : ∀ a ∈ x'.adr, ∃ b ∈ objs, b.1 = a) : ApX L I sl ch cs x' := by
  intro a ha b hb
  rcases List.mem_cons.mp hb with rfl | hb
  · exact h0 a ha _ (.head _)
  · obtain ⟨q, hq, rfl⟩ := hsub a ha
    obtain ⟨b9, hb9, rfl⟩ := hobj b hb
    exact h q hq b9 hb9
theorem restAdr {D : Addr} {od : Obj} : ∀ a ∈ I :: (L + 1) :: (L + 2) :: (L + 3) :: sl :: chA ch cs, ∃ q ∈ (405, ot) :: (I, io) :: (L + 1, o1) :: (L + 2, o2) :: (L + 3, o3) :: (sl, os) :: (ch, oc) :: (D, od) :: cs.flatMap CR.objs, q.1 = a := by
  intro a ha
  simp only [List.mem_cons] at ha
  rcases ha with rfl | rfl | rfl | rfl | rfl | ha
  · exact ⟨_, .tail _ (.head _), rfl⟩
  · exact ⟨_, .tail _ (.tail _ (.head _)), rfl⟩
  · exact ⟨_, .tail _ (.tail _ (.tail _ (.head _))), rfl⟩
  · exact ⟨_, .tail _ (.tail _ (.tail _ (.tail _ (.head _)))), rfl⟩
  · exact ⟨_, .tail _ (.tail _ (.tail _ (.tail _ (.tail _ (.head _))))), rfl⟩
  · rcases List.mem_cons.mp ha with rfl | ha
    · exact ⟨_, .tail _ (.tail _ (.tail _ (.tail _ (.tail _ (.tail _ (.head _)))))), rfl⟩
    · rw [← rowsAdr] at ha
      obtain ⟨q, hq, rfl⟩ := List.mem_map.mp ha
      exact ⟨q, .tail _ (.tail _ (.tail _ (.tail _ (.tail _ (.tail _ (.tail _ (.tail _ hq))))))), rfl⟩
theorem onlyE {bits wanted r lim tot : Int} : ∀ a ∈ x.adr, ∃ b ∈ x.objsE bits wanted r lim tot, b.1 = a := fun a ha => by
  rw [← adrE (bits := bits) (wanted := wanted) (r := r) (lim := lim) (tot := tot)] at ha
  obtain ⟨b, hb, rfl⟩ := List.mem_map.mp ha
  exact ⟨b, hb, rfl⟩
theorem onlyR {bits wanted r lim tot : Int} : ∀ a ∈ x.adr, ∃ b ∈ x.objsR bits wanted r lim tot, b.1 = a := fun a ha => by
  rw [← adrR (bits := bits) (wanted := wanted) (r := r) (lim := lim) (tot := tot)] at ha
  obtain ⟨b, hb, rfl⟩ := List.mem_map.mp ha
  exact ⟨b, hb, rfl⟩
/-- the code table and the rest, apart from the row's own things -/
theorem ApX.hap2 {D : Addr} {od : Obj} (h : ApX L I sl ch cs x) (hD : ∀ b ∈ (405 : Addr) :: x.adr, @Ne Nat D b) (h405 : (405 : Addr) ∉ x.adr) {objs : List (Addr × Obj)} (hobj : ∀ b ∈ objs, b.1 ∈ x.adr) :
    ∀ q ∈ (405, ot) :: (I, io) :: (L + 1, o1) :: (L + 2, o2) :: (L + 3, o3) :: (sl, os) :: (ch, oc) :: (D, od) :: cs.flatMap CR.objs, ∀ b ∈ objs, q.1 ≠ b.1 := by
  intro q hq b hb
  rcases List.mem_cons.mp hq with rfl | hq
  · intro e
    exact h405 ((show (405 : Addr) = b.1 from e) ▸ hobj b hb)
  · exact h.hap hD (fun b hb => .tail _ (hobj b hb)) q hq b hb
theorem lastSplit {α : Type} {l : List α} (h : l ≠ []) : ∃ tl b, l = tl ++ [b] := ⟨l.dropLast, l.getLast h, (List.dropLast_concat_getLast h).symm⟩
theorem longerN {g h : Heap} {xo news : List (Addr × Obj)} {l t r9 : Addr} {rs : List Value} {tk9 : Tok} {bits lim : Int} (N : News g L h ([(l, listOf (longer lim (cs.map fun c => Value.ref c.t) ++ [Value.ref t] : List Value).toArray 0), (t, tupOf [.ref r9, .int 0 tk9]), (r9, listOf rs.toArray 0), (ch, oc)] ++ news))
    (hsub : ∀ q ∈ (I, io) :: (405, ot) :: (L + 1, o1) :: (L + 2, o2) :: (L + 3, o3) :: (sl, os) :: (xo ++ cs.flatMap CR.objs), q ∈ news) :
    News g L h ((I, io) :: (405, ot) :: (L + 1, o1) :: (L + 2, o2) :: (L + 3, o3) :: (sl, os) :: (l, listOf ((longer lim cs ++ [newRow bits t r9 rs tk9]).map fun c => Value.ref c.t).toArray 0) :: (xo ++ (longer lim cs ++ [newRow bits t r9 rs tk9]).flatMap CR.objs)) := by
  rw [longerRefs (bits := bits) (r9 := r9) (rs := rs) (tk9 := tk9)] at N
  intro q hq
  have old : ∀ q ∈ (I, io) :: (405, ot) :: (L + 1, o1) :: (L + 2, o2) :: (L + 3, o3) :: (sl, os) :: (xo ++ cs.flatMap CR.objs), h.get? q.1 = some q.2 ∧ q.1 ≠ L ∧ g.get? q.1 = none := fun q hq => N q (List.mem_append_right _ (hsub q hq))
  simp only [List.mem_cons] at hq
  rcases hq with rfl | rfl | rfl | rfl | rfl | rfl | rfl | hq
  · exact old _ (.head _)
  · exact old _ (.tail _ (.head _))
  · exact old _ (.tail _ (.tail _ (.head _)))
  · exact old _ (.tail _ (.tail _ (.tail _ (.head _))))
  · exact old _ (.tail _ (.tail _ (.tail _ (.tail _ (.head _)))))
  · exact old _ (.tail _ (.tail _ (.tail _ (.tail _ (.tail _ (.head _))))))
  · exact N _ (.head _)
  · rcases List.mem_append.mp hq with hq | hq
    · exact old _ (.tail _ (.tail _ (.tail _ (.tail _ (.tail _ (.tail _ (List.mem_append_left _ hq)))))))
    · rcases longerRows hq with hq | rfl | rfl
      · exact old _ (.tail _ (.tail _ (.tail _ (.tail _ (.tail _ (.tail _ (List.mem_append_right _ hq)))))))
      · exact N _ (.tail _ (.head _))
      · exact N _ (.tail _ (.tail _ (.head _)))
theorem offB {D : Addr} {od : Obj} {xo : List (Addr × Obj)} (hI : ApI L I sl) (h : ApX L I sl ch cs x) (hx : xo.map (·.1) = x.adr) (hD : OffC L [(D, od)]) : OffC L ((I, io) :: (405, ot) :: (sl, os) :: (D, od) :: xo) := by
  have hc : ∀ b ∈ (405 : Addr) :: x.adr, @Ne Nat b (L + 1) ∧ @Ne Nat b (L + 2) ∧ @Ne Nat b (L + 3) := fun b hb =>
    ⟨(h _ (.tail _ (.head _)) b hb).symm, (h _ (.tail _ (.tail _ (.head _))) b hb).symm, (h _ (.tail _ (.tail _ (.tail _ (.head _)))) b hb).symm⟩
  intro q hq
  simp only [List.mem_cons] at hq
  rcases hq with rfl | rfl | rfl | rfl | hq
  · exact ⟨hI.i1, hI.i2, hI.i3⟩
  · exact hc _ (.head _)
  · exact ⟨hI.s1, hI.s2, hI.s3⟩
  · exact hD _ (.head _)
  · exact hc _ (.tail _ (by rw [← hx]; exact List.mem_map_of_mem hq))
/-- the rows after an add on both sides -/
theorem addPairs {bits wanted : Int} {hs : List Int} {x x1 : OR} {tl kept : List BR} {bl : BR} {cs ctl ctl1 kc : List CR} {cl cl1 c' : CR} {sto : Bool} (hb : 4 ≤ bits) (hw : 1 ≤ wanted) (hA : Added bits wanted hs x x1 tl bl kept sto) (hs1 : sto = true)
    (hP1 : Pairs bits wanted tl ctl) (hP2 : Pair bits wanted bl cl) (hk : Pairs bits wanted kept kc)
    (hc : (cl.cnt < wanted ∧ ctl1 = ctl ∧ cl1 = cl) ∨ (wanted ≤ cl.cnt ∧ ctl1 = kc ∧ cl1.row = List.replicate bits.toNat 0 ∧ cl1.cnt = 0))
    (h1 : IntsAre c'.its c'.row) (h2 : c'.row = rowSet bits cl1.row (hs.map fun x => x.fmod bits)) (h3 : c'.cnt = cl1.cnt + 1) : Pairs bits wanted x1.bs (ctl1 ++ [c']) := by
  obtain ⟨bl', hI, hcase⟩ := hA.yes hs1
  have hcnt := hP2.cnt
  rcases hcase with ⟨hlt, hbs, ho, hn⟩ | ⟨hge, hbs, ho, hn⟩
  · rcases hc with ⟨_, rfl, rfl⟩ | ⟨hge, _⟩
    · rw [hbs]
      exact hP1.append (Pairs.one (hP2.add hb hlt hI ho hn h1 h2 h3))
    · exact absurd hge (by omega)
  · rcases hc with ⟨hlt, _⟩ | ⟨_, rfl, hrow, hc0⟩
    · exact absurd hlt (by omega)
    · rw [hbs]
      have ho8 : Octets (List.replicate (-(-bits).fdiv 8).toNat (0 : Int)) := fun v hv => by rw [(List.mem_replicate.mp hv).2]; decide
      have hl8 : ((List.replicate (-(-bits).fdiv 8).toNat (0 : Int)).length : Int) = -(-bits).fdiv 8 := by
        rw [List.length_replicate, Int.fdiv_eq_ediv_of_nonneg _ (by omega)]; omega
      refine hk.append (Pairs.one ⟨⟨hI, by rw [ho, setAll_length]; exact hl8, by rw [ho]; exact setAll_octets _ _ ho8⟩, ⟨h1, by rw [h2, rowSet_length], ?_⟩, ?_, by omega, by omega, by omega⟩)
      · rw [h2, hrow]
        exact rowSet_two fun v hv => .inl (List.mem_replicate.mp hv).2
      · rw [ho, h2, hrow]
        exact (Same.fresh _).set hb ho8 hl8
theorem tailAp {A : List Addr} {qs : List (Addr × Obj)} {D2 : Addr} (hlt : ∀ q ∈ qs, @LT.lt Nat _ q.1 D2) (hsub : ∀ a ∈ A, a ∈ qs.map (·.1)) (hold : ∀ a ∈ A, ∀ b ∈ chA ch cs, @Ne Nat a b) : ∀ a ∈ A, ∀ b ∈ chA D2 cs.tail, @Ne Nat a b := by
  intro a ha b hb
  rcases List.mem_cons.mp hb with rfl | hb
  · obtain ⟨q, hq, rfl⟩ := List.mem_map.mp (hsub a ha)
    exact Nat.ne_of_lt (hlt q hq)
  · refine hold a ha b (.tail _ ?_)
    obtain ⟨c, hc, hb2⟩ := List.mem_flatMap.mp hb
    exact List.mem_flatMap.mpr ⟨c, List.mem_of_mem_tail hc, hb2⟩
theorem cutOne (cs : List CR) : (slicePick (cs.map fun c => Value.ref c.t).toArray (some 1) none none).toList = cs.tail.map fun c => Value.ref c.t := by
  rw [slice1, List.map_tail, List.drop_one]
theorem tailRows {q : Addr × Obj} (h : q ∈ cs.tail.flatMap CR.objs) : q ∈ cs.flatMap CR.objs := by
  obtain ⟨c, hc, hb2⟩ := List.mem_flatMap.mp h
  exact List.mem_flatMap.mpr ⟨c, List.mem_of_mem_tail hc, hb2⟩
theorem offAll {xo : List (Addr × Obj)} (hI : ApI L I sl) (h : ApX L I sl ch cs x) (h' : ApH L I sl ch cs) (hx : xo.map (·.1) = x.adr) : OffC L ((I, io) :: (405, ot) :: (sl, os) :: (ch, oc) :: (xo ++ cs.flatMap CR.objs)) := by
  have hc : ∀ b ∈ (405 : Addr) :: x.adr, @Ne Nat b (L + 1) ∧ @Ne Nat b (L + 2) ∧ @Ne Nat b (L + 3) := fun b hb =>
    ⟨(h _ (.tail _ (.head _)) b hb).symm, (h _ (.tail _ (.tail _ (.head _))) b hb).symm, (h _ (.tail _ (.tail _ (.tail _ (.head _)))) b hb).symm⟩
  have hd : ∀ b ∈ chA ch cs, @Ne Nat b (L + 1) ∧ @Ne Nat b (L + 2) ∧ @Ne Nat b (L + 3) := fun b hb =>
    ⟨(h' _ (.tail _ (.head _)) b hb).symm, (h' _ (.tail _ (.tail _ (.head _))) b hb).symm, (h' _ (.tail _ (.tail _ (.tail _ (.head _)))) b hb).symm⟩
  intro q hq
  simp only [List.mem_cons] at hq
  rcases hq with rfl | rfl | rfl | rfl | hq
  · exact ⟨hI.i1, hI.i2, hI.i3⟩
  · exact hc _ (.head _)
  · exact ⟨hI.s1, hI.s2, hI.s3⟩
  · exact hd _ (.head _)
  · rcases List.mem_append.mp hq with hq | hq
    · exact hc _ (.tail _ (by rw [← hx]; exact List.mem_map_of_mem hq))
    · exact hd _ (chA_mem hq)
end
section
variable {L I sl ch : Addr} {cs : List CR} {x : OR} {o1 o2 o3 os oc ot : Obj}
theorem ApX.withI (h : ApX L sl sl ch cs x) (hI : ∀ b ∈ (405 : Addr) :: x.adr, @Ne Nat I b) : ApX L I sl ch cs x := by
  intro a ha b hb
  rcases List.mem_cons.mp ha with rfl | ha
  · exact hI b hb
  · exact h a (.tail _ ha) b hb
theorem ApX.noI (h : ApX L I sl ch cs x) : ApX L sl sl ch cs x := by
  intro a ha b hb
  rcases List.mem_cons.mp ha with rfl | ha
  · exact h _ (.tail _ (.tail _ (.tail _ (.tail _ (.head _))))) b hb
  · exact h a (.tail _ ha) b hb
theorem ApH.withI (h : ApH L sl sl ch cs) (hI : ∀ b ∈ chA ch cs, @Ne Nat I b) : ApH L I sl ch cs := by
  intro a ha b hb
  rcases List.mem_cons.mp ha with rfl | ha
  · exact hI b hb
  · exact h a (.tail _ ha) b hb
theorem ApH.noI (h : ApH L I sl ch cs) : ApH L sl sl ch cs := by
  intro a ha b hb
  rcases List.mem_cons.mp ha with rfl | ha
  · exact h _ (.tail _ (.tail _ (.tail _ (.tail _ (.head _))))) b hb
  · exact h a (.tail _ ha) b hb
theorem offIx {xo : List (Addr × Obj)} (hI : ApI L I sl) (h : ApX L I sl ch cs x) (h' : ApH L I sl ch cs) (hx : xo.map (·.1) = x.adr) : ∀ q ∈ (405, ot) :: (L + 1, o1) :: (L + 2, o2) :: (L + 3, o3) :: (sl, os) :: (ch, oc) :: (xo ++ cs.flatMap CR.objs), q.1 ≠ I := by
  intro q hq
  simp only [List.mem_cons] at hq
  rcases hq with rfl | rfl | rfl | rfl | rfl | rfl | hq
  · exact (h I (.head _) _ (.head _)).symm
  · exact hI.i1.symm
  · exact hI.i2.symm
  · exact hI.i3.symm
  · exact hI.is.symm
  · exact (h' I (.head _) _ (.head _)).symm
  · rcases List.mem_append.mp hq with hq | hq
    · exact (h I (.head _) _ (.tail _ (by rw [← hx]; exact List.mem_map_of_mem hq))).symm
    · exact (h' I (.head _) _ (chA_mem hq)).symm
theorem offIE {bits wanted r lim tot : Int} (hI : ApI L I sl) (h : ApX L I sl ch cs x) (h' : ApH L I sl ch cs) : ∀ q ∈ (405, ot) :: (L + 1, o1) :: (L + 2, o2) :: (L + 3, o3) :: (sl, os) :: (ch, oc) :: (x.objsE bits wanted r lim tot ++ cs.flatMap CR.objs), q.1 ≠ I := offIx hI h h' (adrE x)
theorem offIR {bits wanted r lim tot : Int} (hI : ApI L I sl) (h : ApX L I sl ch cs x) (h' : ApH L I sl ch cs) : ∀ q ∈ (405, ot) :: (L + 1, o1) :: (L + 2, o2) :: (L + 3, o3) :: (sl, os) :: (ch, oc) :: (x.objsR bits wanted r lim tot ++ cs.flatMap CR.objs), q.1 ≠ I := offIx hI h h' (adrR x)
end
section
/-- where the law's things lie as the loop begins -/
theorem runAp {L sl ch Dt D1 : Addr} {x : OR} {c : CR} {ys : List (Addr × Obj)} (hx : ys.map (·.1) = x.adr) (hct : c.t = Dt) (hcr : c.r = D1) (hL : @LT.lt Nat _ 405 L) (hcell : ∀ q ∈ ys, @Ne Nat (L + 1) q.1 ∧ @Ne Nat (L + 2) q.1 ∧ @Ne Nat (L + 3) q.1)
    (hd : @LT.lt Nat _ (L + 3) D1) (h1 : ∀ q ∈ ys, @LT.lt Nat _ q.1 D1) (h2 : @LT.lt Nat _ D1 Dt) (h3 : @LT.lt Nat _ Dt ch) (h4 : @LT.lt Nat _ ch sl) : ApX L sl sl ch [c] x ∧ ApH L sl sl ch [c] := by
  subst hct hcr
  have e1 : ∀ a ∈ chA ch [c], @LE.le Nat _ c.r a ∧ @LE.le Nat _ a ch := by
    intro a ha
    simp only [chA, List.flatMap_cons, List.flatMap_nil, List.append_nil, List.mem_cons, List.not_mem_nil, or_false] at ha
    rcases ha with rfl | rfl | rfl
    · exact ⟨Nat.le_of_lt (Nat.lt_trans h2 h3), Nat.le_refl _⟩
    · exact ⟨Nat.le_of_lt h2, Nat.le_of_lt h3⟩
    · exact ⟨Nat.le_refl _, Nat.le_of_lt (Nat.lt_trans h2 h3)⟩
  have hsl : @LT.lt Nat _ c.r sl := Nat.lt_trans h2 (Nat.lt_trans h3 h4)
  have e2 : ∀ b ∈ (405 : Addr) :: x.adr, @LT.lt Nat _ b c.r ∧ @Ne Nat (L + 1) b ∧ @Ne Nat (L + 2) b ∧ @Ne Nat (L + 3) b := by
    intro b hb
    rcases List.mem_cons.mp hb with rfl | hb
    · have q : @LT.lt Nat _ L (L + 3) := Nat.lt_add_of_pos_right (by decide)
      exact ⟨Nat.lt_trans hL (Nat.lt_trans q hd), Nat.ne_of_gt (Nat.lt_add_right _ hL), Nat.ne_of_gt (Nat.lt_add_right _ hL), Nat.ne_of_gt (Nat.lt_add_right _ hL)⟩
    · rw [← hx] at hb
      obtain ⟨q, hq, rfl⟩ := List.mem_map.mp hb
      exact ⟨h1 q hq, hcell q hq⟩
  have l1 : @LT.lt Nat _ (L + 1) (L + 3) := Nat.add_lt_add_left (by decide) L
  have l2 : @LT.lt Nat _ (L + 2) (L + 3) := Nat.add_lt_add_left (by decide) L
  constructor
  · intro a ha b hb
    obtain ⟨k1, k2, k3, k4⟩ := e2 b hb
    simp only [List.mem_cons] at ha
    rcases ha with rfl | rfl | rfl | rfl | rfl | ha
    · exact Nat.ne_of_gt (Nat.lt_trans k1 hsl)
    · exact k2
    · exact k3
    · exact k4
    · exact Nat.ne_of_gt (Nat.lt_trans k1 hsl)
    · exact Nat.ne_of_gt (Nat.lt_of_lt_of_le k1 (e1 a ha).1)
  · intro a ha b hb
    obtain ⟨k1, k2⟩ := e1 b hb
    simp only [List.mem_cons, List.not_mem_nil, or_false] at ha
    have hs : @Ne Nat sl b := Nat.ne_of_gt (Nat.lt_of_le_of_lt k2 h4)
    rcases ha with rfl | rfl | rfl | rfl | rfl
    · exact hs
    · exact Nat.ne_of_lt (Nat.lt_of_lt_of_le (Nat.lt_trans l1 hd) k1)
    · exact Nat.ne_of_lt (Nat.lt_of_lt_of_le (Nat.lt_trans l2 hd) k1)
    · exact Nat.ne_of_lt (Nat.lt_of_lt_of_le hd k1)
    · exact hs
end
end Mine
end
section
open PySem PySem.W PyProof.Rows PySem.Calls
namespace Mine
local macro_rules | `(tactic| walk_at "LeaveR") => `(tactic| (refine' leaveR_ ?kF ?kN ?_; (case kF => k_asm); (case kN => k_asm); intro zF zN zA; (try dsimp only)))
local macro_rules | `(tactic| walk_at "eval Name") => `(tactic| (k_here; (with_reducible show wpAny _ _ (eval (Expr.Name _ _) (compEnvC _ _ _ _)) _ _ _); k_dflt (first
  | refine inBlock_global (by k_asm) (by k_asm) (by k_asm) (by k_is) ?_
  | refine inBlock_built (by k_asm) (by k_asm) (by k_asm) (by k_is) (by boot_by_name) (by decide) ?_)))
local macro_rules | `(tactic| walk_at "binaryOp Add") => `(tactic| (k_here; (with_reducible show wpAny _ _ (binaryOp _ (Value.ref _) (Value.ref _)) _ _ _); (with_reducible rename News _ _ _ _ => kN); simp only [slice1] at kN))
local macro_rules | `(tactic| walk_at "binaryOp Add ref ref") => `(tactic| (k_here; (with_reducible show wpAny _ _ (binaryOp _ (Value.ref _) (Value.ref _)) _ _ _); k_dflt (refine' addN ?F ?N ?a ?b ?z ?_; (case F => k_asm); (case N => k_asm); (case a => k_mem); (case b => k_mem); (case z => first | omega | (simp only [List.length_append, List.length_drop, List.length_cons, List.length_nil]; omega)); k_whole); intro D' h' F' N' l1; (try k_lt l1); (try k_sweep)))
local macro_rules | `(tactic| walk_at "my subset") => `(tactic| first | exact List.forall_mem_nil _ | (refine' List.forall_mem_cons.mpr ⟨?za, ?zb⟩; (case za => k_mem); (case zb => walk_at "my subset")) | (intro q9 hq9; walk_at "my tail"))
local macro_rules | `(tactic| walk_at "my tail") => `(tactic| first | assumption | (refine' List.Mem.tail _ ?_; walk_at "my tail"))
local macro_rules | `(tactic| walk_at "assign Tuple") => `(tactic| (k_here; (with_reducible show wpAny _ _ (assign (Expr.Tuple _ _ _) _ (Value.ref _)) _ _ _); k_dflt (refine' unpackN_ ?F ?N ⟨_, News.get ?N2 ?m, rfl, _, rfl⟩ rfl rfl rfl ?_; (case F => k_asm); (case N => k_asm); (case N2 => k_asm); (case m => k_mem); k_whole); intro h' F' N'; (try dsimp only); (try k_sweep)))
local macro_rules | `(tactic| k_mem) => `(tactic| ((with_reducible show List.Mem _ (List.flatMap _ _)); refine memOf ?_; assumption))
local macro_rules | `(tactic| k_all) => `(tactic| ((with_reducible show ∀ q ∈ List.flatMap _ _, _); refine' flatNe ?h ?z; (case h => assumption); (case z => (try dsimp only); omega)))
local macro_rules | `(tactic| walk_at "my bound") => do
  let a := Lean.mkIdent `hq0
  let b := Lean.mkIdent `hq1
  let c := Lean.mkIdent `hz0
  let d := Lean.mkIdent `hz1
  let e := Lean.mkIdent `hq2
  `(tactic| first | with_reducible assumption | exact $a _ | exact $b _ | exact $e _ | exact $c _ (by assumption) | exact $d _ (by assumption) | omega)
local macro_rules | `(tactic| walk_at "subscriptTail") => `(tactic| (k_here; (with_reducible show wpAny _ _ (subscriptTail _ _ (Value.ref _) (Value.int _ _)) _ _ _); k_dflt (refine' itemInts ?N ?m ?i ?z ?y ?x ?_ ?s ?g; (case s => with_unfolding_all rfl); (case g => intro _; with_unfolding_all rfl); (case N => k_asm); (case m => k_mem); (case i => assumption); (case z => walk_at "my bound"); (case y => walk_at "my bound"); (case x => (try simp only [List.length_map, List.length_range]); omega); k_whole); intro t'))
local macro_rules | `(tactic| k_enter) => `(tactic| (refine' inlineT ?k1 ?k2 ?k3 ?k4 ?k5 ?kA ?kF ?kK ?k6 ?k7 ?k8 ?k9 ?kB ?_ ?c2 ?c3 ?c4 ?c5; (case kA => exact rfl); (case kF => exact rfl); (case kK => first | exact rfl | assumption); (case k1 => k_asm); (case k2 => k_asm); (case k3 => k_asm); (case k4 => k_asm); (case k5 => k_asm); (case k6 => k_is); (case k7 => k_is); (case k8 => ktr_room); (case k9 => first | exact BindsTo.of_eq rfl | exact binds_K (by k_in) rfl (by k_is) rfl rfl rfl); (case c5 => decide); (case kB => exact locs rfl); (case c2 => exact rfl); (case c3 => exact rfl); (case c4 => exact rfl); k_whole; intro g' L' h' FG' F' N' B' X' T' l1; (try k_lt l1); (try dsimp only); (try k_lift B'); (try k_fold)))
local macro_rules | `(tactic| walk_at "my step") => `(tactic| first | (k_unfold; (try dsimp only)) | (k_end; wrow_close) | walk1 | (dsimp only; walk1) | (leave1; walk_say "STEP leave1"; try dsimp only))
local macro_rules | `(tactic| walk_at "ite") => `(tactic| (k_here; first | (refine PySem.W.ite_neg (by (try simp only [decide_eq_true_eq, beq_iff_eq, bne_iff_ne, ne_eq, Bool.not_eq_true', decide_eq_false_iff_not]); omega) ?_) | (refine PySem.W.ite_pos (by (try simp only [decide_eq_true_eq, beq_iff_eq, bne_iff_ne, ne_eq, Bool.not_eq_true', decide_eq_false_iff_not]); omega) ?_)))
local macro_rules | `(tactic| walk_at "binaryOp LShift int int") => `(tactic| (k_here; k_dflt (refine shift1 ?_)))
local macro_rules | `(tactic| walk_at "setItem ref int") => `(tactic| (k_here; (with_reducible show wpAny _ _ (setItem (Value.ref _) (Value.int _ _) (Value.int _ _)) _ _ _); k_dflt (refine' ksa_set ?k1 ?k2 ?k3 ?k4 ?k5 ?k6 ?k7 ?_; (case k1 => k_asm); (case k2 => k_asm); (case k3 => k_upd); (case k4 => with_reducible assumption); (case k5 => walk_at "my bound"); (case k6 => walk_at "my bound"); (case k7 => walk_at "my bound"); k_whole); intro h' F' N' hi' hl' hsum'))
local macro_rules | `(tactic| walk_at "my put") => `(tactic| first | exact PutL.head | (refine' PutL.tail ?za ?zb; (case za => rfl); (case zb => walk_at "my put")))
local macro_rules | `(tactic| walk_at "setAttr ref") => `(tactic| (k_here; k_dflt (refine' set_dict ?k1 ?k2 ?k3 ?k4 ?k5 ?k6 ?k7 ?k8 ?k9 ?k10 ?k11 ?k12 ?k13 ?_; (case k1 => k_asm); (case k2 => k_asm); (case k3 => k_asm); (case k4 => k_inst); (case k5 => exact rfl); (case k6 => k_is); (case k7 => k_is); (case k8 => k_is); (case k9 => k_is); (case k10 => k_get); (case k11 => (refine' PutL.eq ?zp _ _ _; (case zp => walk_at "my put"))); (case k12 => k_upd); (case k13 => exact Nat.le_of_ble_eq_true rfl); k_whole; intro h' F' N'; (try k_sweep))))
local macro_rules | `(tactic| walk_at "getAttr ref") => `(tactic| (k_here; k_dflt (refine' get_own ?k1 ?k2 ?k3 ?k4 ?k5 ?k6 ?k7 ?k8 ?k9 ?_; (case k1 => k_asm); (case k2 => k_asm); (case k3 => k_inst); (case k4 => k_is); (case k5 => k_is); (case k6 => k_is); (case k7 => k_is); (case k8 => k_get); (case k9 => k_handed); k_whole)))
local macro_rules | `(tactic| walk_at "getMethod ref") => `(tactic| (k_here; k_dflt (refine' method_inst ?k1 ?k2 ?k3 ?k4 ?k5 ?k6 ?k7 ?_; (case k1 => k_asm); (case k2 => k_asm); (case k3 => k_inst); (case k4 => k_is); (case k5 => k_is); (case k6 => k_is); (case k7 => k_get); k_whole)))
local macro_rules | `(tactic| walk_at "getMethod ref") => `(tactic| (k_here; (with_reducible show wpAny _ _ (getMethod (Value.ref _) (Str.ofString "_hash_func") _) _ _ _); k_dflt (refine' kmu_own ?k1 ?k2 ?k3 ?k4 ?k5 ?_; (case k1 => k_asm); (case k2 => k_asm); (case k3 => k_inst); (case k4 => k_is); (case k5 => k_is); k_whole)))
local macro_rules | `(tactic| walk_at "getMethod ref") => `(tactic| (k_here; (with_reducible show wpAny _ _ (getMethod (Value.ref _) (Str.ofString "_get_optimized_params") _) _ _ _); k_dflt (refine' kmu_cm ?k1 ?k2 ?k3 ?k4 ?k5 ?k6 ?k7 ?k8 ?k9 ?k10 ?k11 ?k12 ?k13 ?_; (case k1 => k_asm); (case k2 => k_asm); (case k3 => k_asm); (case k4 => k_inst); (case k5 => k_is); (case k6 => k_is); (case k7 => k_is); (case k8 => k_is); (case k9 => k_is); (case k10 => k_is); (case k11 => decide +kernel); (case k12 => k_get); (case k13 => k_is); k_whole; intro q' h' F' N' l1; (try k_lt l1); (try k_sweep))))
local macro_rules | `(tactic| walk_at "call builtin:len") => `(tactic| (k_here; (with_reducible show wpAny _ _ (call (Value.builtin _) [Value.ref _]) _ _ _); k_dflt (refine' lenN ?N ?m ?f ?_; (case N => k_asm); (case m => k_mem); (case f => first | assumption | omega | (simp only [List.length_append, List.length_cons, List.length_nil]; omega)); k_whole)))
local macro_rules | `(tactic| walk_at "eval ListComp") => `(tactic| (k_here; k_dflt (refine LCg.ListComp_U (F₀ := by k_asm) (by with_unfolding_all rfl) (by decide) (by rfl) (by decide) (by rfl) ?_)))
local macro_rules | `(tactic| walk_at "eval Name") => do
  let a1 := Lean.mkIdent `hm1
  let a2 := Lean.mkIdent `hm2
  let a3 := Lean.mkIdent `hm3
  let a4 := Lean.mkIdent `hm4
  let a5 := Lean.mkIdent `hm5
  let a6 := Lean.mkIdent `hm6
  let a7 := Lean.mkIdent `hm7
  let a8 := Lean.mkIdent `hm8
  let a9 := Lean.mkIdent `hm9
  let a10 := Lean.mkIdent `hm10
  let a11 := Lean.mkIdent `hm11
  `(tactic| (k_here; k_dflt (refine' nameX_L ?k1 ?k2 ?_ ?k3 ?k4; (case k1 => k_asm); (case k3 => rfl); (case k4 => rfl); (case k2 => first | exact $a1 | exact $a2 | exact $a3 | exact $a4 | exact $a5 | exact $a6 | exact $a7 | exact $a8 | exact $a9 | exact $a10 | exact $a11); k_whole)))
local macro_rules | `(tactic| k_mem) => `(tactic| ((with_reducible show List.Mem _ (_ ++ _)); first | exact memL (by assumption) | exact memR (by assumption)))
local macro_rules | `(tactic| walk_at "no such key") => `(tactic| fail)
local macro_rules | `(tactic| walk_at "no such key") => `(tactic| fail)
local macro_rules | `(tactic| walk_at "no such key") => `(tactic| fail)
local macro_rules | `(tactic| walk_at "no such key") => `(tactic| fail)
local macro_rules | `(tactic| walk_at "no such key") => `(tactic| fail)
local macro_rules | `(tactic| walk_at "no such key") => `(tactic| fail)
local macro_rules | `(tactic| walk_at "no such key") => `(tactic| fail)
section
set_option maxHeartbeats 8000000 in
theorem lastTurnE (w : World) (sc : Scope) (hsc : sc = lawScope) (bd : List Stmt) (hbd : bd = lawLast) (kp : Pos) (bits wanted r lim : Int) (hb : 4 ≤ bits) (hb' : bits ≤ 19) (hr1 : 1 ≤ r) (hr2 : r ≤ 13)
    (mg mb : Str → Option Value) (p : Program) (loose : List Str) (g : Heap) (L' fa : Addr) (cd : Value) (X' : (Mine.hd.heap_39 w.params).In g) (T' : TopRead p loose mg mb g) (M' : BM mg g) (B' : Below callerA g [] g)
    (s₁ : Shared) (m₁ : Str → Option Value) (x : OR) (ps : Array Value) (o1 o2 o3 : Obj) (sl ch I : Addr) (io : Obj) (ns : List Value) (ks nch : Nat) (cs : List CR) (tot : Int) (c : Nat) (tl tw tr tt tb tk : Tok)
    (F1 : Fr g L' s₁.heap m₁) (N1 : News g L' s₁.heap ((I, io) :: (405, tabObj ps) :: (L' + 1, o1) :: (L' + 2, o2) :: (L' + 3, o3) :: (sl, listOf ns.toArray ks) :: (ch, listOf (cs.map fun c => Value.ref c.t).toArray nch) :: (x.objsE bits wanted r lim tot ++ cs.flatMap CR.objs)))
    (hb1 : AllBare s₁.gens) (hps : TriplesOk ps.toList) (hP : Pairs bits wanted x.bs cs) (hne : cs ≠ []) (hlen : cs.length ≤ 40) (hc : 97 ≤ c) (hc' : c ≤ 104)
    (h1 : o1.data = .cell (some (.int bits tb))) (hApX : ApX L' I sl ch cs x)
    (hM : MM m₁ false lim wanted r tot x.o ch tl tw tr tt)
    (Q : Flow → Shared → Prop) (E : Value → Shared → Prop)
    (go : ∀ (ps' : Array Value) (s' : Shared) (m' : Str → Option Value), s'.os = s₁.os → AllBare s'.gens → Fr g L' s'.heap m' → News g L' s'.heap ((I, io) :: (405, tabObj ps') :: (L' + 1, o1) :: (L' + 2, o2) :: (L' + 3, o3) :: (sl, listOf ns.toArray ks) :: (ch, listOf (cs.map fun c => Value.ref c.t).toArray nch) :: (x.objsE bits wanted r lim tot ++ cs.flatMap CR.objs)) → TriplesOk ps'.toList → MM m' false lim wanted r tot x.o ch tl tw tr tt → Q .next s') :
    wpAny (model PySem.Challenge.rw_vo0020_01.row.prog w) (callerA.deeper (envOfC (Str.ofString "law") sc L' fa cd)) (assign (.Name (Str.ofString "key") kp) (envOfC (Str.ofString "law") sc L' fa cd) (.str (Str.mk #[c]) tk))
      (fun _ s₂ => wpAny (model PySem.Challenge.rw_vo0020_01.row.prog w) (callerA.deeper (envOfC (Str.ofString "law") sc L' fa cd)) (execs bd (envOfC (Str.ofString "law") sc L' fa cd)) Q E s₂) E s₁ := by
  conv at hsc => rhs; whnf
  conv at hbd => rhs; whnf
  subst hsc hbd
  obtain ⟨hm1, hm2, hm3, hm4, hm5, hm6, hm7⟩ := hM
  w_on
  revert X'
  k_fill
  intro X'
  w_top on
  have hcs : ∀ c ∈ cs, c.Ok bits.toNat := hP.okC
  have hxl : x.bs.length = cs.length := hP.length
  have hxn : x.bs ≠ [] := fun e => hne (List.length_eq_zero_iff.mp (by rw [← hxl, e]; rfl))
  have hxl60 : x.bs.length ≤ 60 := by omega
  have hcl60 : cs.length ≤ 60 := by omega
  have N2 : News g L' s₁.heap ((I, io) :: (405, tabObj ps) :: (L' + 1, o1) :: (L' + 2, o2) :: (L' + 3, o3) :: (sl, listOf ns.toArray ks) :: (ch, listOf (cs.map fun c => Value.ref c.t).toArray nch) :: (x.o, instObj 443 x.d) :: (x.d, dictOf (eDict bits wanted lim x.z tot x.l) x.n) :: (x.l, listOf (refsOf x.bs).toArray x.k) :: (blObjs bits wanted r x.bs ++ cs.flatMap CR.objs)) := N1
  clear N1
  iterate 14 (try walk_at "my step")
  try dsimp only
  with_reducible rename Fr _ _ _ _ => F3
  with_reducible rename News _ _ _ _ => N3
  have C3 := fun t1 => c_askE w bits wanted r lim tot hb hb' hr1 hr2 x hP.okB hxl60 hxn ps hps c t1 hc hc'
  k_dflt (refine useCon (C3 _) rfl B' F3 X' N3 T' M' rfl ((I, io) :: (L' + 1, o1) :: (L' + 2, o2) :: (L' + 3, o3) :: (sl, listOf ns.toArray ks) :: (ch, listOf (cs.map fun c => Value.ref c.t).toArray nch) :: (sl, listOf ns.toArray ks) :: cs.flatMap CR.objs) ?_ ?_ (hApX.hap (D := sl) (fun b hb => hApX sl (.tail _ (.tail _ (.tail _ (.tail _ (.head _))))) b hb) fun b hb => objE_adr hb) (by ktr_room) (by ktr_units) hb1 ?_)
  · intro q hq
    simp only [OR.objsE, List.mem_cons, List.mem_append] at hq ⊢
    grind
  · intro q hq
    simp only [List.mem_cons, List.mem_append] at hq ⊢
    grind
  rintro v objs' s3 hos3 hb3 F4 N4 A4 ⟨ps', hps', rfl, rfl⟩
  have N5 := subN (b := (I, io) :: (405, tabObj ps') :: (L' + 1, o1) :: (L' + 2, o2) :: (L' + 3, o3) :: (sl, listOf ns.toArray ks) :: (ch, listOf (cs.map fun c => Value.ref c.t).toArray nch) :: (x.objsE bits wanted r lim tot ++ cs.flatMap CR.objs)) N4 (fun q hq => by
    simp only [List.mem_cons, List.mem_append] at hq ⊢
    grind)
  clear N4 N3 F3
  rw [hP.any hb (placesOf c r.toNat)]
  iterate 16 (try walk_at "my step")
  try dsimp only
  with_reducible rename Fr _ _ _ _ => F6
  with_reducible rename News _ _ _ _ => N6
  have C6 := fun t1 t2 => c_places w c r t1 t2 hc hc' (by omega) hr2
  k_dflt (refine useCon0 (C6 _ _) rfl B' F6 X' N6 T' M' rfl (by ktr_room) (by ktr_units) hb3 ?_)
  rintro v objs' s4 hos4 hb4 F7 N7 A7 ⟨l, its, rfl, rfl, hI⟩
  simp only [List.cons_append, List.nil_append] at N7
  have hil : its.length ≤ 13 := by rw [IntsAre.length hI]; simp only [placesOf, List.length_map, List.length_range]; omega
  iterate 12 (try walk_at "my step")
  try dsimp only
  with_reducible rename Fr _ _ _ _ => F8
  with_reducible rename News _ _ _ _ => N8
  rename_i hkl g5 ys hI8 hL8 D h5 tk5 o15
  have hps13 : ((placesOf c r.toNat).map fun k' => k'.fmod bits).length ≤ 13 := by simp only [placesOf, List.length_map, List.length_range]; omega
  have hpsb : ∀ q ∈ (placesOf c r.toNat).map fun k' => k'.fmod bits, 0 ≤ q ∧ q < ((bits.toNat : Nat) : Int) := by
    intro q hq
    obtain ⟨k, -, rfl⟩ := List.mem_map.mp hq
    have := fmodBits hb k
    omega
  have hb19 : bits.toNat ≤ 19 := by omega
  have C8 := c_inside w ch D cs nch ys ((placesOf c r.toNat).map fun k' => k'.fmod bits) bits.toNat hcs hcl60 hI8 hps13 hpsb hb19
  k_dflt (refine useConK C8 rfl B' F8 X' N8 T' M' rfl ?_ (fun v objs' h q hq => by rw [h.2]; exact hq) (by ktr_room) (by ktr_units) hb4 ?_)
  · intro q hq
    simp only [List.mem_cons, List.mem_append] at hq ⊢
    grind
  rintro v objs' s9 hos9 hb9 F9 N9 - ⟨rfl, rfl⟩
  have N10 := subN (b := (I, io) :: (405, tabObj ps') :: (L' + 1, o1) :: (L' + 2, o2) :: (L' + 3, o3) :: (sl, listOf ns.toArray ks) :: (ch, listOf (cs.map fun c => Value.ref c.t).toArray nch) :: (x.objsE bits wanted r lim tot ++ cs.flatMap CR.objs)) N9 (fun q hq => by
    simp only [OR.objsE, List.mem_cons, List.mem_append] at hq ⊢
    grind)
  clear N9 N8 F8
  iterate 2 (try walk_at "my step")
  refine PySem.W.ite_neg (by simp) ?_
  iterate 2 (try walk_at "my step")
  with_reducible rename Fr _ _ _ _ => F11
  exact go ps' s9 _ (hos9.trans (hos4.trans hos3)) hb9 F11 N10 hps' ⟨hm1, hm2, hm3, hm4, hm5, hm6, hm7⟩
end
section
set_option maxHeartbeats 8000000 in
theorem lastTurnR (w : World) (sc : Scope) (hsc : sc = lawScope) (bd : List Stmt) (hbd : bd = lawLast) (kp : Pos) (bits wanted r lim : Int) (hb : 4 ≤ bits) (hb' : bits ≤ 19) (hr1 : 1 ≤ r) (hr2 : r ≤ 13)
    (mg mb : Str → Option Value) (p : Program) (loose : List Str) (g : Heap) (L' fa : Addr) (cd : Value) (X' : (Mine.hd.heap_39 w.params).In g) (T' : TopRead p loose mg mb g) (M' : BM mg g) (B' : Below callerA g [] g)
    (s₁ : Shared) (m₁ : Str → Option Value) (x : OR) (ps : Array Value) (o1 o2 o3 : Obj) (sl ch I : Addr) (io : Obj) (ns : List Value) (ks nch : Nat) (cs : List CR) (tot : Int) (c : Nat) (tl tw tr tt tb tk : Tok)
    (F1 : Fr g L' s₁.heap m₁) (N1 : News g L' s₁.heap ((I, io) :: (405, tabObj ps) :: (L' + 1, o1) :: (L' + 2, o2) :: (L' + 3, o3) :: (sl, listOf ns.toArray ks) :: (ch, listOf (cs.map fun c => Value.ref c.t).toArray nch) :: (x.objsR bits wanted r lim tot ++ cs.flatMap CR.objs)))
    (hb1 : AllBare s₁.gens) (hps : TriplesOk ps.toList) (hP : Pairs bits wanted x.bs cs) (hne : cs ≠ []) (hlen : cs.length ≤ 40) (hc : 97 ≤ c) (hc' : c ≤ 104)
    (h1 : o1.data = .cell (some (.int bits tb))) (hApX : ApX L' I sl ch cs x)
    (hM : MM m₁ true lim wanted r tot x.o ch tl tw tr tt)
    (Q : Flow → Shared → Prop) (E : Value → Shared → Prop)
    (go : ∀ (ps' : Array Value) (s' : Shared) (m' : Str → Option Value), s'.os = s₁.os → AllBare s'.gens → Fr g L' s'.heap m' → News g L' s'.heap ((I, io) :: (405, tabObj ps') :: (L' + 1, o1) :: (L' + 2, o2) :: (L' + 3, o3) :: (sl, listOf ns.toArray ks) :: (ch, listOf (cs.map fun c => Value.ref c.t).toArray nch) :: (x.objsR bits wanted r lim tot ++ cs.flatMap CR.objs)) → TriplesOk ps'.toList → MM m' true lim wanted r tot x.o ch tl tw tr tt → Q .next s') :
    wpAny (model PySem.Challenge.rw_vo0020_01.row.prog w) (callerA.deeper (envOfC (Str.ofString "law") sc L' fa cd)) (assign (.Name (Str.ofString "key") kp) (envOfC (Str.ofString "law") sc L' fa cd) (.str (Str.mk #[c]) tk))
      (fun _ s₂ => wpAny (model PySem.Challenge.rw_vo0020_01.row.prog w) (callerA.deeper (envOfC (Str.ofString "law") sc L' fa cd)) (execs bd (envOfC (Str.ofString "law") sc L' fa cd)) Q E s₂) E s₁ := by
  conv at hsc => rhs; whnf
  conv at hbd => rhs; whnf
  subst hsc hbd
  obtain ⟨hm1, hm2, hm3, hm4, hm5, hm6, hm7⟩ := hM
  w_on
  revert X'
  k_fill
  intro X'
  w_top on
  have hcs : ∀ c ∈ cs, c.Ok bits.toNat := hP.okC
  have hxl : x.bs.length = cs.length := hP.length
  have hxn : x.bs ≠ [] := fun e => hne (List.length_eq_zero_iff.mp (by rw [← hxl, e]; rfl))
  have hxl60 : x.bs.length ≤ 60 := by omega
  have hcl60 : cs.length ≤ 60 := by omega
  have N2 : News g L' s₁.heap ((I, io) :: (405, tabObj ps) :: (L' + 1, o1) :: (L' + 2, o2) :: (L' + 3, o3) :: (sl, listOf ns.toArray ks) :: (ch, listOf (cs.map fun c => Value.ref c.t).toArray nch) :: (x.o, instObj 520 x.d) :: (x.d, dictOf (rDict bits wanted lim x.z tot x.l) x.n) :: (x.l, listOf (refsOf x.bs).toArray x.k) :: (blObjs bits wanted r x.bs ++ cs.flatMap CR.objs)) := N1
  clear N1
  iterate 14 (try walk_at "my step")
  try dsimp only
  with_reducible rename Fr _ _ _ _ => F3
  with_reducible rename News _ _ _ _ => N3
  have C3 := fun t1 => c_askR w bits wanted r lim tot hb hb' hr1 hr2 x hP.okB hxl60 hxn ps hps c t1 hc hc'
  k_dflt (refine useCon (C3 _) rfl B' F3 X' N3 T' M' rfl ((I, io) :: (L' + 1, o1) :: (L' + 2, o2) :: (L' + 3, o3) :: (sl, listOf ns.toArray ks) :: (ch, listOf (cs.map fun c => Value.ref c.t).toArray nch) :: (sl, listOf ns.toArray ks) :: cs.flatMap CR.objs) ?_ ?_ (hApX.hap (D := sl) (fun b hb => hApX sl (.tail _ (.tail _ (.tail _ (.tail _ (.head _))))) b hb) fun b hb => objR_adr hb) (by ktr_room) (by ktr_units) hb1 ?_)
  · intro q hq
    simp only [OR.objsR, List.mem_cons, List.mem_append] at hq ⊢
    grind
  · intro q hq
    simp only [List.mem_cons, List.mem_append] at hq ⊢
    grind
  rintro v objs' s3 hos3 hb3 F4 N4 A4 ⟨ps', hps', rfl, rfl⟩
  have N5 := subN (b := (I, io) :: (405, tabObj ps') :: (L' + 1, o1) :: (L' + 2, o2) :: (L' + 3, o3) :: (sl, listOf ns.toArray ks) :: (ch, listOf (cs.map fun c => Value.ref c.t).toArray nch) :: (x.objsR bits wanted r lim tot ++ cs.flatMap CR.objs)) N4 (fun q hq => by
    simp only [List.mem_cons, List.mem_append] at hq ⊢
    grind)
  clear N4 N3 F3
  rw [hP.any hb (placesOf c r.toNat)]
  iterate 16 (try walk_at "my step")
  try dsimp only
  with_reducible rename Fr _ _ _ _ => F6
  with_reducible rename News _ _ _ _ => N6
  have C6 := fun t1 t2 => c_places w c r t1 t2 hc hc' (by omega) hr2
  k_dflt (refine useCon0 (C6 _ _) rfl B' F6 X' N6 T' M' rfl (by ktr_room) (by ktr_units) hb3 ?_)
  rintro v objs' s4 hos4 hb4 F7 N7 A7 ⟨l, its, rfl, rfl, hI⟩
  simp only [List.cons_append, List.nil_append] at N7
  have hil : its.length ≤ 13 := by rw [IntsAre.length hI]; simp only [placesOf, List.length_map, List.length_range]; omega
  iterate 12 (try walk_at "my step")
  try dsimp only
  with_reducible rename Fr _ _ _ _ => F8
  with_reducible rename News _ _ _ _ => N8
  rename_i hkl g5 ys hI8 hL8 D h5 tk5 o15
  have hps13 : ((placesOf c r.toNat).map fun k' => k'.fmod bits).length ≤ 13 := by simp only [placesOf, List.length_map, List.length_range]; omega
  have hpsb : ∀ q ∈ (placesOf c r.toNat).map fun k' => k'.fmod bits, 0 ≤ q ∧ q < ((bits.toNat : Nat) : Int) := by
    intro q hq
    obtain ⟨k, -, rfl⟩ := List.mem_map.mp hq
    have := fmodBits hb k
    omega
  have hb19 : bits.toNat ≤ 19 := by omega
  have C8 := c_inside w ch D cs nch ys ((placesOf c r.toNat).map fun k' => k'.fmod bits) bits.toNat hcs hcl60 hI8 hps13 hpsb hb19
  k_dflt (refine useConK C8 rfl B' F8 X' N8 T' M' rfl ?_ (fun v objs' h q hq => by rw [h.2]; exact hq) (by ktr_room) (by ktr_units) hb4 ?_)
  · intro q hq
    simp only [List.mem_cons, List.mem_append] at hq ⊢
    grind
  rintro v objs' s9 hos9 hb9 F9 N9 - ⟨rfl, rfl⟩
  have N10 := subN (b := (I, io) :: (405, tabObj ps') :: (L' + 1, o1) :: (L' + 2, o2) :: (L' + 3, o3) :: (sl, listOf ns.toArray ks) :: (ch, listOf (cs.map fun c => Value.ref c.t).toArray nch) :: (x.objsR bits wanted r lim tot ++ cs.flatMap CR.objs)) N9 (fun q hq => by
    simp only [OR.objsR, List.mem_cons, List.mem_append] at hq ⊢
    grind)
  clear N9 N8 F8
  iterate 2 (try walk_at "my step")
  refine PySem.W.ite_neg (by simp) ?_
  iterate 2 (try walk_at "my step")
  with_reducible rename Fr _ _ _ _ => F11
  exact go ps' s9 _ (hos9.trans (hos4.trans hos3)) hb9 F11 N10 hps' ⟨hm1, hm2, hm3, hm4, hm5, hm6, hm7⟩
end
section
set_option maxHeartbeats 8000000 in
theorem brAdd0E (w : World) (sc : Scope) (hsc : sc = lawScope) (bd : List Stmt) (hbd : bd = lawLoop.drop 5) (bits wanted r lim : Int) (hb : 4 ≤ bits) (hb' : bits ≤ 19) (hw : 1 ≤ wanted) (hw' : wanted ≤ 4) (hr : ((13862943611198906 * bits).fdiv wanted + 10000000000000000).fdiv (2 * 10000000000000000) = r) (hr1 : 1 ≤ r) (hr2 : r ≤ 13) (hl : lim = 0)
    (mg mb : Str → Option Value) (p : Program) (loose : List Str) (g : Heap) (L' fa : Addr) (cd : Value) (X' : (Mine.hd.heap_39 w.params).In g) (T' : TopRead p loose mg mb g) (M' : BM mg g) (B' : Below callerA g [] g)
    (s₁ : Shared) (m₁ : Str → Option Value) (x : OR) (ps : Array Value) (o1 o2 o3 : Obj) (sl ch I D : Addr) (io : Obj) (ns ys : List Value) (ks nch : Nat) (cs : List CR) (tot n : Int) (c : Nat) (tl tw tr tt tb td tk tm : Tok) (v3 : Option Value)
    (F1 : Fr g L' s₁.heap m₁) (N1 : News g L' s₁.heap ((I, io) :: (405, tabObj ps) :: (L' + 1, o1) :: (L' + 2, o2) :: (L' + 3, o3) :: (sl, listOf ns.toArray ks) :: (ch, listOf (cs.map fun c => Value.ref c.t).toArray nch) :: (D, LCg.lst ys) :: (x.objsE bits wanted r lim tot ++ cs.flatMap CR.objs)))
    (hb1 : AllBare s₁.gens) (hps : TriplesOk ps.toList) (hsep : x.Sep) (hP : Pairs bits wanted x.bs cs) (hne : cs ≠ []) (hlen : cs.length ≤ 40) (ht0 : 0 ≤ tot) (ht1 : tot ≤ 100) (hn0 : 0 ≤ n) (hc : 97 ≤ c) (hc' : c ≤ 104)
    (h1 : o1.data = .cell (some (.int bits tb))) (h2 : o2.data = .cell (some (.ref D))) (h3 : o3.data = .cell v3) (hys : IntsAre ys ((placesOf c r.toNat).map fun k' => k'.fmod bits))
    (hApX : ApX L' I sl ch cs x) (hApH : ApH L' I sl ch cs) (hApI : ApI L' I sl) (hDX : ∀ b ∈ (405 : Addr) :: x.adr, @Ne Nat D b) (hDC : OffC L' [(D, LCg.lst ys)])
    (hM : MM m₁ false lim wanted r tot x.o ch tl tw tr tt) (hm8 : m₁ (Str.ofString "deed") = some (.int (n.fmod 6) td)) (hm9 : m₁ (Str.ofString "key") = some (.str (Str.mk #[c]) tk)) (hm10 : m₁ (Str.ofString "more") = some (.int (n.fdiv 48) tm)) (hm11 : m₁ (Str.ofString "inside") = some (.bool (cs.any fun x => allIn x.row ((placesOf c r.toNat).map fun k' => k'.fmod bits))))
    (hd : n.fmod 6 = 0)
    (Q : Flow → Shared → Prop) (E : Value → Shared → Prop)
    (go : ∀ (x' : OR) (ps' : Array Value) (o3' : Obj) (ch' : Addr) (nch' : Nat) (cs' : List CR) (tot' : Int) (tt' : Tok) (v3' : Option Value) (s' : Shared) (m' : Str → Option Value), s'.os = s₁.os → AllBare s'.gens → Fr g L' s'.heap m' →
      News g L' s'.heap ((I, io) :: (405, tabObj ps') :: (L' + 1, o1) :: (L' + 2, o2) :: (L' + 3, o3') :: (sl, listOf ns.toArray ks) :: (ch', listOf (cs'.map fun c => Value.ref c.t).toArray nch') :: (x'.objsE bits wanted r lim tot' ++ cs'.flatMap CR.objs)) →
      TriplesOk ps'.toList → x'.Sep → Pairs bits wanted x'.bs cs' → cs' ≠ [] → cs'.length ≤ cs.length + 1 → 0 ≤ tot' → tot' ≤ tot + 1 → o3'.data = .cell v3' → ApX L' I sl ch' cs' x' → ApH L' I sl ch' cs' → MM m' false lim wanted r tot' x'.o ch' tl tw tr tt' → Q .next s') :
    wpAny (model PySem.Challenge.rw_vo0020_01.row.prog w) (callerA.deeper (envOfC (Str.ofString "law") sc L' fa cd)) (execs bd (envOfC (Str.ofString "law") sc L' fa cd)) Q E s₁ := by
  conv at hsc => rhs; whnf
  conv at hbd => rhs; whnf
  subst hsc hbd
  obtain ⟨hm1, hm2, hm3, hm4, hm5, hm6, hm7⟩ := hM
  w_on
  revert X'
  k_fill
  intro X'
  w_top on
  have hcs : ∀ c ∈ cs, c.Ok bits.toNat := hP.okC
  have hxl : x.bs.length = cs.length := hP.length
  have hxn : x.bs ≠ [] := fun e => hne (List.length_eq_zero_iff.mp (by rw [← hxl, e]; rfl))
  have N2 : News g L' s₁.heap ((I, io) :: (405, tabObj ps) :: (L' + 1, o1) :: (L' + 2, o2) :: (L' + 3, o3) :: (sl, listOf ns.toArray ks) :: (ch, listOf (cs.map fun c => Value.ref c.t).toArray nch) :: (D, LCg.lst ys) :: (x.o, instObj 443 x.d) :: (x.d, dictOf (eDict bits wanted lim x.z tot x.l) x.n) :: (x.l, listOf (refsOf x.bs).toArray x.k) :: (blObjs bits wanted r x.bs ++ cs.flatMap CR.objs)) := N1
  clear N1
  rw [hd] at hm8
  have hxl59 : x.bs.length ≤ 59 := by omega
  have hlimb : 0 ≤ lim ∧ lim ≤ 4 := ⟨by omega, by omega⟩
  have htot0 : 0 ≤ tot + 1 := by omega
  obtain ⟨ctl, cl, hcl⟩ := lastSplit hne
  obtain ⟨tl0, bl0, hbs, hP1, hP2⟩ := (hcl ▸ hP).last
  iterate 28 (try walk_at "my step")
  try dsimp only
  with_reducible rename Fr _ _ _ _ => F3
  with_reducible rename News _ _ _ _ => N3
  have C3 := fun t1 => c_addE w bits wanted r lim tot hb hb' hw hw' hr hr1 hr2 x hxl59 hsep tl0 bl0 hbs hP.okB hP2.lo hP2.hi ps hps c t1 hc hc'
  k_dflt (refine useCon (C3 _) rfl B' F3 X' N3 T' M' rfl ((I, io) :: (L' + 1, o1) :: (L' + 2, o2) :: (L' + 3, o3) :: (sl, listOf ns.toArray ks) :: (ch, listOf (cs.map fun c => Value.ref c.t).toArray nch) :: (D, LCg.lst ys) :: cs.flatMap CR.objs) ?_ ?_ (hApX.hap hDX fun b hb => objE_adr hb) (by ktr_room) (by ktr_units) hb1 ?_)
  · intro q hq
    simp only [OR.objsE, List.mem_cons, List.mem_append] at hq ⊢
    grind
  · intro q hq
    simp only [List.mem_cons, List.mem_append] at hq ⊢
    grind
  rintro v objs' s3 hos3 hb3 F4 N4 A4 ⟨ps', ⟨o5, d5, l5, z5, n5, k5, bs5⟩, hps', rfl, rfl, hA⟩
  have e4 := hA.o
  dsimp only at e4
  subst e4
  have hAp1 : ApX L' I sl ch cs ⟨x.o, d5, l5, z5, n5, k5, bs5⟩ := ApX.of A4 adr_objE
  have N5 := subN (b := (I, io) :: (405, tabObj ps') :: (L' + 1, o1) :: (L' + 2, o2) :: (L' + 3, o3) :: (sl, listOf ns.toArray ks) :: (ch, listOf (cs.map fun c => Value.ref c.t).toArray nch) :: (D, LCg.lst ys) :: (OR.objsE bits wanted r lim (tot + 1) ⟨x.o, d5, l5, z5, n5, k5, bs5⟩ ++ cs.flatMap CR.objs)) N4 (fun q hq => by
    simp only [List.mem_cons, List.mem_append] at hq ⊢
    grind)
  clear N4 N3 F3
  iterate 16 (try walk_at "my step")
  try dsimp only
  with_reducible rename Fr _ _ _ _ => F6
  with_reducible rename News _ _ _ _ => N6
  have hx : (OR.objsE bits wanted r lim (tot + 1) ⟨x.o, d5, l5, z5, n5, k5, bs5⟩).map (·.1) = OR.adr ⟨x.o, d5, l5, z5, n5, k5, bs5⟩ := adrE _
  have hl49 : cs.length ≤ 49 := Nat.le_trans hlen (by decide)
  have hps13 : ((placesOf c r.toNat).map fun k' => k'.fmod bits).length ≤ 13 := by simp only [placesOf, List.length_map, List.length_range]; omega
  refine PySem.W.ite_neg (by decide) ?_
  iterate 5 (try walk_at "my step")
  refine iteBoth (fun hq => ?_) (fun hq => ?_)
  · have hq : (cs.any fun x => allIn x.row ((placesOf c r.toNat).map fun k' => k'.fmod bits)) = false := by simpa [Kept] using hq
    (refine' lawAdd w _ ?qa _ ?qb bits wanted lim hb hb' hw hw' hlimb.1 hlimb.2 mg mb p loose g L' fa cd _ _ X' T' M' B' ps' o1 o2 o3 sl ch I D io ns ys ks nch cs ctl cl (OR.objsE bits wanted r lim (tot + 1) ⟨x.o, d5, l5, z5, n5, k5, bs5⟩) r (tot + 1) tr tb tl tw _ v3 (.ref x.o) false _ ?qF ?qN ?qh hcs hcl hl49 h1 h2 h3 hys hps13 (offB hApI hAp1 hx hDC) (hAp1.ap hApH hx) ?qm1 ?qm2 ?qm3 ?qm4 ?qm5 ?qm6 ?qm7 _ E ?_; (case qF => exact F6); (case qN => exact N6); (case qh => exact hb3); (case qa => rfl); (case qb => rfl); (case qm1 => exact hm1); (case qm2 => exact hm2); (case qm3 => exact hm3); (case qm4 => exact hm4); (case qm5 => exact hm5); (case qm6 => exact hm6); (case qm7 => exact rfl))
    intro ctl1 cl1 ch' c' o3' s6 m6 v3' hcase f1 f2 F7 N7 f5 f6 f7 f8 f9 q1 q2 q3 q4 q5 q6 q7
    have hPn : Pairs bits wanted bs5 (ctl1 ++ [c']) := addPairs (cs := cs) hb hw hA (by rw [hP.any hb (placesOf c r.toNat), hq]; rfl) hP1 hP2 (by rw [hl, longer_zero]; exact hP) hcase f6 f7 f8
    have hln : (ctl1 ++ [c']).length ≤ cs.length + 1 := by
      rw [List.length_append]
      refine Nat.succ_le_succ ?_
      rcases hcase with ⟨-, rfl, -⟩ | ⟨-, rfl, -⟩
      · rw [hcl, List.length_append]; exact Nat.le_add_right _ _
      · exact longer_length lim cs
    have hAn := hAp1.new hx f9
    try dsimp only
    clear F6 N6
    iterate 1 (try walk_at "my step")
    try dsimp only
    refine tailE w _ (by rfl) _ (by rfl) bits wanted r lim mg mb p loose g L' fa cd _ m6 X' T' M' B' ⟨x.o, d5, l5, z5, n5, k5, bs5⟩ ps' o1 o2 o3' sl ch' I io ns ks 0 (ctl1 ++ [c']) (tot + 1) tl _ (by exact F7) (by exact N7) (by exact f2) hPn.length (Nat.le_trans hln (Nat.succ_le_of_lt (Nat.lt_of_le_of_lt hlen (by decide)))) q1 q2 q5 q6 q7 Q E ?_
    intro s9 j1 j2 F9 N9
    exact go ⟨x.o, d5, l5, z5, n5, k5, bs5⟩ ps' o3' ch' 0 (ctl1 ++ [c']) (tot + 1) _ v3' s9 m6 (j1.trans (f1.trans hos3)) j2 F9 N9 hps' hA.sep hPn (by simp) hln htot0 (Int.le_refl _) f5 hAn.1 hAn.2 ⟨q1, q2, q3, q4, q5, q6, q7⟩
  · have hq : (cs.any fun x => allIn x.row ((placesOf c r.toNat).map fun k' => k'.fmod bits)) = true := by simpa [Kept] using hq
    have hbs5 := hA.no (by rw [hP.any hb (placesOf c r.toNat), hq]; rfl)
    dsimp only at hbs5
    have hPn : Pairs bits wanted bs5 cs := by rw [hbs5]; exact hP
    have N7 := subN (b := (I, io) :: (405, tabObj ps') :: (L' + 1, o1) :: (L' + 2, o2) :: (L' + 3, o3) :: (sl, listOf ns.toArray ks) :: (ch, listOf (cs.map fun c => Value.ref c.t).toArray nch) :: (OR.objsE bits wanted r lim (tot + 1) ⟨x.o, d5, l5, z5, n5, k5, bs5⟩ ++ cs.flatMap CR.objs)) N6 (fun q hq => by
      simp only [OR.objsE, List.mem_cons, List.mem_append] at hq ⊢
      grind)
    clear N6
    have hl50 : cs.length ≤ 50 := Nat.le_trans hlen (by decide)
    iterate 5 (try walk_at "my step")
    try dsimp only
    (refine' tailE w _ ?qa _ ?qb bits wanted r lim mg mb p loose g L' fa cd _ _ X' T' M' B' ⟨x.o, d5, l5, z5, n5, k5, bs5⟩ ps' o1 o2 o3 sl ch I io ns ks nch cs (tot + 1) tl _ ?qF ?qN ?qh hPn.length hl50 ?qm1 ?qm2 ?qm5 ?qm6 ?qm7 Q E ?_; (case qF => exact F6); (case qN => exact N7); (case qh => exact hb3); (case qa => rfl); (case qb => rfl); (case qm1 => exact hm1); (case qm2 => exact hm2); (case qm5 => exact hm5); (case qm6 => exact hm6); (case qm7 => exact rfl))
    intro s9 j1 j2 F9 N9
    exact go ⟨x.o, d5, l5, z5, n5, k5, bs5⟩ ps' o3 ch nch cs (tot + 1) _ v3 s9 _ (j1.trans hos3) j2 F9 N9 hps' hA.sep hPn hne (Nat.le_succ _) htot0 (Int.le_refl _) h3 hAp1 hApH ⟨hm1, hm2, hm3, hm4, hm5, hm6, rfl⟩
end
section
set_option maxHeartbeats 8000000 in
theorem brAdd0R (w : World) (sc : Scope) (hsc : sc = lawScope) (bd : List Stmt) (hbd : bd = lawLoop.drop 5) (bits wanted r lim : Int) (hb : 4 ≤ bits) (hb' : bits ≤ 19) (hw : 1 ≤ wanted) (hw' : wanted ≤ 4) (hr : ((13862943611198906 * bits).fdiv wanted + 10000000000000000).fdiv (2 * 10000000000000000) = r) (hr1 : 1 ≤ r) (hr2 : r ≤ 13) (hl : 1 ≤ lim) (hl4 : lim ≤ 4)
    (mg mb : Str → Option Value) (p : Program) (loose : List Str) (g : Heap) (L' fa : Addr) (cd : Value) (X' : (Mine.hd.heap_39 w.params).In g) (T' : TopRead p loose mg mb g) (M' : BM mg g) (B' : Below callerA g [] g)
    (s₁ : Shared) (m₁ : Str → Option Value) (x : OR) (ps : Array Value) (o1 o2 o3 : Obj) (sl ch I D : Addr) (io : Obj) (ns ys : List Value) (ks nch : Nat) (cs : List CR) (tot n : Int) (c : Nat) (tl tw tr tt tb td tk tm : Tok) (v3 : Option Value)
    (F1 : Fr g L' s₁.heap m₁) (N1 : News g L' s₁.heap ((I, io) :: (405, tabObj ps) :: (L' + 1, o1) :: (L' + 2, o2) :: (L' + 3, o3) :: (sl, listOf ns.toArray ks) :: (ch, listOf (cs.map fun c => Value.ref c.t).toArray nch) :: (D, LCg.lst ys) :: (x.objsR bits wanted r lim tot ++ cs.flatMap CR.objs)))
    (hb1 : AllBare s₁.gens) (hps : TriplesOk ps.toList) (hsep : x.Sep) (hP : Pairs bits wanted x.bs cs) (hne : cs ≠ []) (hlen : cs.length ≤ 40) (ht0 : 0 ≤ tot) (ht1 : tot ≤ 100) (hn0 : 0 ≤ n) (hc : 97 ≤ c) (hc' : c ≤ 104)
    (h1 : o1.data = .cell (some (.int bits tb))) (h2 : o2.data = .cell (some (.ref D))) (h3 : o3.data = .cell v3) (hys : IntsAre ys ((placesOf c r.toNat).map fun k' => k'.fmod bits))
    (hApX : ApX L' I sl ch cs x) (hApH : ApH L' I sl ch cs) (hApI : ApI L' I sl) (hDX : ∀ b ∈ (405 : Addr) :: x.adr, @Ne Nat D b) (hDC : OffC L' [(D, LCg.lst ys)])
    (hM : MM m₁ true lim wanted r tot x.o ch tl tw tr tt) (hm8 : m₁ (Str.ofString "deed") = some (.int (n.fmod 6) td)) (hm9 : m₁ (Str.ofString "key") = some (.str (Str.mk #[c]) tk)) (hm10 : m₁ (Str.ofString "more") = some (.int (n.fdiv 48) tm)) (hm11 : m₁ (Str.ofString "inside") = some (.bool (cs.any fun x => allIn x.row ((placesOf c r.toNat).map fun k' => k'.fmod bits))))
    (hd : n.fmod 6 = 0)
    (Q : Flow → Shared → Prop) (E : Value → Shared → Prop)
    (go : ∀ (x' : OR) (ps' : Array Value) (o3' : Obj) (ch' : Addr) (nch' : Nat) (cs' : List CR) (tot' : Int) (tt' : Tok) (v3' : Option Value) (s' : Shared) (m' : Str → Option Value), s'.os = s₁.os → AllBare s'.gens → Fr g L' s'.heap m' →
      News g L' s'.heap ((I, io) :: (405, tabObj ps') :: (L' + 1, o1) :: (L' + 2, o2) :: (L' + 3, o3') :: (sl, listOf ns.toArray ks) :: (ch', listOf (cs'.map fun c => Value.ref c.t).toArray nch') :: (x'.objsR bits wanted r lim tot' ++ cs'.flatMap CR.objs)) →
      TriplesOk ps'.toList → x'.Sep → Pairs bits wanted x'.bs cs' → cs' ≠ [] → cs'.length ≤ cs.length + 1 → 0 ≤ tot' → tot' ≤ tot + 1 → o3'.data = .cell v3' → ApX L' I sl ch' cs' x' → ApH L' I sl ch' cs' → MM m' true lim wanted r tot' x'.o ch' tl tw tr tt' → Q .next s') :
    wpAny (model PySem.Challenge.rw_vo0020_01.row.prog w) (callerA.deeper (envOfC (Str.ofString "law") sc L' fa cd)) (execs bd (envOfC (Str.ofString "law") sc L' fa cd)) Q E s₁ := by
  conv at hsc => rhs; whnf
  conv at hbd => rhs; whnf
  subst hsc hbd
  obtain ⟨hm1, hm2, hm3, hm4, hm5, hm6, hm7⟩ := hM
  w_on
  revert X'
  k_fill
  intro X'
  w_top on
  have hcs : ∀ c ∈ cs, c.Ok bits.toNat := hP.okC
  have hxl : x.bs.length = cs.length := hP.length
  have hxn : x.bs ≠ [] := fun e => hne (List.length_eq_zero_iff.mp (by rw [← hxl, e]; rfl))
  have N2 : News g L' s₁.heap ((I, io) :: (405, tabObj ps) :: (L' + 1, o1) :: (L' + 2, o2) :: (L' + 3, o3) :: (sl, listOf ns.toArray ks) :: (ch, listOf (cs.map fun c => Value.ref c.t).toArray nch) :: (D, LCg.lst ys) :: (x.o, instObj 520 x.d) :: (x.d, dictOf (rDict bits wanted lim x.z tot x.l) x.n) :: (x.l, listOf (refsOf x.bs).toArray x.k) :: (blObjs bits wanted r x.bs ++ cs.flatMap CR.objs)) := N1
  clear N1
  rw [hd] at hm8
  have hxl59 : x.bs.length ≤ 59 := by omega
  have hlimb : 0 ≤ lim ∧ lim ≤ 4 := ⟨by omega, by omega⟩
  have htot0 : 0 ≤ tot + 1 := by omega
  obtain ⟨ctl, cl, hcl⟩ := lastSplit hne
  obtain ⟨tl0, bl0, hbs, hP1, hP2⟩ := (hcl ▸ hP).last
  iterate 28 (try walk_at "my step")
  try dsimp only
  with_reducible rename Fr _ _ _ _ => F3
  with_reducible rename News _ _ _ _ => N3
  have C3 := fun t1 => c_addR w bits wanted r lim tot hb hb' hw hw' hr hr1 hr2 x hxl59 hsep tl0 bl0 hbs hP.okB hP2.lo hP2.hi ps hps c t1 hc hc'
  k_dflt (refine useCon (C3 _) rfl B' F3 X' N3 T' M' rfl ((I, io) :: (L' + 1, o1) :: (L' + 2, o2) :: (L' + 3, o3) :: (sl, listOf ns.toArray ks) :: (ch, listOf (cs.map fun c => Value.ref c.t).toArray nch) :: (D, LCg.lst ys) :: cs.flatMap CR.objs) ?_ ?_ (hApX.hap hDX fun b hb => objR_adr hb) (by ktr_room) (by ktr_units) hb1 ?_)
  · intro q hq
    simp only [OR.objsR, List.mem_cons, List.mem_append] at hq ⊢
    grind
  · intro q hq
    simp only [List.mem_cons, List.mem_append] at hq ⊢
    grind
  rintro v objs' s3 hos3 hb3 F4 N4 A4 ⟨ps', ⟨o5, d5, l5, z5, n5, k5, bs5⟩, hps', rfl, rfl, hA⟩
  have e4 := hA.o
  dsimp only at e4
  subst e4
  have hAp1 : ApX L' I sl ch cs ⟨x.o, d5, l5, z5, n5, k5, bs5⟩ := ApX.of A4 adr_objR
  have N5 := subN (b := (I, io) :: (405, tabObj ps') :: (L' + 1, o1) :: (L' + 2, o2) :: (L' + 3, o3) :: (sl, listOf ns.toArray ks) :: (ch, listOf (cs.map fun c => Value.ref c.t).toArray nch) :: (D, LCg.lst ys) :: (OR.objsR bits wanted r lim (tot + 1) ⟨x.o, d5, l5, z5, n5, k5, bs5⟩ ++ cs.flatMap CR.objs)) N4 (fun q hq => by
    simp only [List.mem_cons, List.mem_append] at hq ⊢
    grind)
  clear N4 N3 F3
  iterate 16 (try walk_at "my step")
  try dsimp only
  with_reducible rename Fr _ _ _ _ => F6
  with_reducible rename News _ _ _ _ => N6
  have hx : (OR.objsR bits wanted r lim (tot + 1) ⟨x.o, d5, l5, z5, n5, k5, bs5⟩).map (·.1) = OR.adr ⟨x.o, d5, l5, z5, n5, k5, bs5⟩ := adrR _
  have hl49 : cs.length ≤ 49 := Nat.le_trans hlen (by decide)
  have hps13 : ((placesOf c r.toNat).map fun k' => k'.fmod bits).length ≤ 13 := by simp only [placesOf, List.length_map, List.length_range]; omega
  refine PySem.W.ite_neg (by decide) ?_
  iterate 5 (try walk_at "my step")
  refine iteBoth (fun hq => ?_) (fun hq => ?_)
  · have hq : (cs.any fun x => allIn x.row ((placesOf c r.toNat).map fun k' => k'.fmod bits)) = false := by simpa [Kept] using hq
    (refine' lawAdd w _ ?qa _ ?qb bits wanted lim hb hb' hw hw' hlimb.1 hlimb.2 mg mb p loose g L' fa cd _ _ X' T' M' B' ps' o1 o2 o3 sl ch I D io ns ys ks nch cs ctl cl (OR.objsR bits wanted r lim (tot + 1) ⟨x.o, d5, l5, z5, n5, k5, bs5⟩) r (tot + 1) tr tb tl tw _ v3 (.ref x.o) true _ ?qF ?qN ?qh hcs hcl hl49 h1 h2 h3 hys hps13 (offB hApI hAp1 hx hDC) (hAp1.ap hApH hx) ?qm1 ?qm2 ?qm3 ?qm4 ?qm5 ?qm6 ?qm7 _ E ?_; (case qF => exact F6); (case qN => exact N6); (case qh => exact hb3); (case qa => rfl); (case qb => rfl); (case qm1 => exact hm1); (case qm2 => exact hm2); (case qm3 => exact hm3); (case qm4 => exact hm4); (case qm5 => exact hm5); (case qm6 => exact hm6); (case qm7 => exact rfl))
    intro ctl1 cl1 ch' c' o3' s6 m6 v3' hcase f1 f2 F7 N7 f5 f6 f7 f8 f9 q1 q2 q3 q4 q5 q6 q7
    have hPn : Pairs bits wanted bs5 (ctl1 ++ [c']) := addPairs (cs := cs) hb hw hA (by rw [hP.any hb (placesOf c r.toNat), hq]; rfl) hP1 hP2 (hP.kept hl) hcase f6 f7 f8
    have hln : (ctl1 ++ [c']).length ≤ cs.length + 1 := by
      rw [List.length_append]
      refine Nat.succ_le_succ ?_
      rcases hcase with ⟨-, rfl, -⟩ | ⟨-, rfl, -⟩
      · rw [hcl, List.length_append]; exact Nat.le_add_right _ _
      · exact longer_length lim cs
    have hAn := hAp1.new hx f9
    try dsimp only
    clear F6 N6
    iterate 1 (try walk_at "my step")
    try dsimp only
    refine tailR w _ (by rfl) _ (by rfl) bits wanted r lim mg mb p loose g L' fa cd _ m6 X' T' M' B' ⟨x.o, d5, l5, z5, n5, k5, bs5⟩ ps' o1 o2 o3' sl ch' I io ns ks 0 (ctl1 ++ [c']) (tot + 1) tl _ (by exact F7) (by exact N7) (by exact f2) hPn.length (Nat.le_trans hln (Nat.succ_le_of_lt (Nat.lt_of_le_of_lt hlen (by decide)))) q1 q2 q5 q6 q7 Q E ?_
    intro s9 j1 j2 F9 N9
    exact go ⟨x.o, d5, l5, z5, n5, k5, bs5⟩ ps' o3' ch' 0 (ctl1 ++ [c']) (tot + 1) _ v3' s9 m6 (j1.trans (f1.trans hos3)) j2 F9 N9 hps' hA.sep hPn (by simp) hln htot0 (Int.le_refl _) f5 hAn.1 hAn.2 ⟨q1, q2, q3, q4, q5, q6, q7⟩
  · have hq : (cs.any fun x => allIn x.row ((placesOf c r.toNat).map fun k' => k'.fmod bits)) = true := by simpa [Kept] using hq
    have hbs5 := hA.no (by rw [hP.any hb (placesOf c r.toNat), hq]; rfl)
    dsimp only at hbs5
    have hPn : Pairs bits wanted bs5 cs := by rw [hbs5]; exact hP
    have N7 := subN (b := (I, io) :: (405, tabObj ps') :: (L' + 1, o1) :: (L' + 2, o2) :: (L' + 3, o3) :: (sl, listOf ns.toArray ks) :: (ch, listOf (cs.map fun c => Value.ref c.t).toArray nch) :: (OR.objsR bits wanted r lim (tot + 1) ⟨x.o, d5, l5, z5, n5, k5, bs5⟩ ++ cs.flatMap CR.objs)) N6 (fun q hq => by
      simp only [OR.objsR, List.mem_cons, List.mem_append] at hq ⊢
      grind)
    clear N6
    have hl50 : cs.length ≤ 50 := Nat.le_trans hlen (by decide)
    iterate 5 (try walk_at "my step")
    try dsimp only
    (refine' tailR w _ ?qa _ ?qb bits wanted r lim mg mb p loose g L' fa cd _ _ X' T' M' B' ⟨x.o, d5, l5, z5, n5, k5, bs5⟩ ps' o1 o2 o3 sl ch I io ns ks nch cs (tot + 1) tl _ ?qF ?qN ?qh hPn.length hl50 ?qm1 ?qm2 ?qm5 ?qm6 ?qm7 Q E ?_; (case qF => exact F6); (case qN => exact N7); (case qh => exact hb3); (case qa => rfl); (case qb => rfl); (case qm1 => exact hm1); (case qm2 => exact hm2); (case qm5 => exact hm5); (case qm6 => exact hm6); (case qm7 => exact rfl))
    intro s9 j1 j2 F9 N9
    exact go ⟨x.o, d5, l5, z5, n5, k5, bs5⟩ ps' o3 ch nch cs (tot + 1) _ v3 s9 _ (j1.trans hos3) j2 F9 N9 hps' hA.sep hPn hne (Nat.le_succ _) htot0 (Int.le_refl _) h3 hAp1 hApH ⟨hm1, hm2, hm3, hm4, hm5, hm6, rfl⟩
end
section
set_option maxHeartbeats 8000000 in
theorem brAdd1E (w : World) (sc : Scope) (hsc : sc = lawScope) (bd : List Stmt) (hbd : bd = lawLoop.drop 5) (bits wanted r lim : Int) (hb : 4 ≤ bits) (hb' : bits ≤ 19) (hw : 1 ≤ wanted) (hw' : wanted ≤ 4) (hr : ((13862943611198906 * bits).fdiv wanted + 10000000000000000).fdiv (2 * 10000000000000000) = r) (hr1 : 1 ≤ r) (hr2 : r ≤ 13) (hl : lim = 0)
    (mg mb : Str → Option Value) (p : Program) (loose : List Str) (g : Heap) (L' fa : Addr) (cd : Value) (X' : (Mine.hd.heap_39 w.params).In g) (T' : TopRead p loose mg mb g) (M' : BM mg g) (B' : Below callerA g [] g)
    (s₁ : Shared) (m₁ : Str → Option Value) (x : OR) (ps : Array Value) (o1 o2 o3 : Obj) (sl ch I D : Addr) (io : Obj) (ns ys : List Value) (ks nch : Nat) (cs : List CR) (tot n : Int) (c : Nat) (tl tw tr tt tb td tk tm : Tok) (v3 : Option Value)
    (F1 : Fr g L' s₁.heap m₁) (N1 : News g L' s₁.heap ((I, io) :: (405, tabObj ps) :: (L' + 1, o1) :: (L' + 2, o2) :: (L' + 3, o3) :: (sl, listOf ns.toArray ks) :: (ch, listOf (cs.map fun c => Value.ref c.t).toArray nch) :: (D, LCg.lst ys) :: (x.objsE bits wanted r lim tot ++ cs.flatMap CR.objs)))
    (hb1 : AllBare s₁.gens) (hps : TriplesOk ps.toList) (hsep : x.Sep) (hP : Pairs bits wanted x.bs cs) (hne : cs ≠ []) (hlen : cs.length ≤ 40) (ht0 : 0 ≤ tot) (ht1 : tot ≤ 100) (hn0 : 0 ≤ n) (hc : 97 ≤ c) (hc' : c ≤ 104)
    (h1 : o1.data = .cell (some (.int bits tb))) (h2 : o2.data = .cell (some (.ref D))) (h3 : o3.data = .cell v3) (hys : IntsAre ys ((placesOf c r.toNat).map fun k' => k'.fmod bits))
    (hApX : ApX L' I sl ch cs x) (hApH : ApH L' I sl ch cs) (hApI : ApI L' I sl) (hDX : ∀ b ∈ (405 : Addr) :: x.adr, @Ne Nat D b) (hDC : OffC L' [(D, LCg.lst ys)])
    (hM : MM m₁ false lim wanted r tot x.o ch tl tw tr tt) (hm8 : m₁ (Str.ofString "deed") = some (.int (n.fmod 6) td)) (hm9 : m₁ (Str.ofString "key") = some (.str (Str.mk #[c]) tk)) (hm10 : m₁ (Str.ofString "more") = some (.int (n.fdiv 48) tm)) (hm11 : m₁ (Str.ofString "inside") = some (.bool (cs.any fun x => allIn x.row ((placesOf c r.toNat).map fun k' => k'.fmod bits))))
    (hd : n.fmod 6 = 1)
    (Q : Flow → Shared → Prop) (E : Value → Shared → Prop)
    (go : ∀ (x' : OR) (ps' : Array Value) (o3' : Obj) (ch' : Addr) (nch' : Nat) (cs' : List CR) (tot' : Int) (tt' : Tok) (v3' : Option Value) (s' : Shared) (m' : Str → Option Value), s'.os = s₁.os → AllBare s'.gens → Fr g L' s'.heap m' →
      News g L' s'.heap ((I, io) :: (405, tabObj ps') :: (L' + 1, o1) :: (L' + 2, o2) :: (L' + 3, o3') :: (sl, listOf ns.toArray ks) :: (ch', listOf (cs'.map fun c => Value.ref c.t).toArray nch') :: (x'.objsE bits wanted r lim tot' ++ cs'.flatMap CR.objs)) →
      TriplesOk ps'.toList → x'.Sep → Pairs bits wanted x'.bs cs' → cs' ≠ [] → cs'.length ≤ cs.length + 1 → 0 ≤ tot' → tot' ≤ tot + 1 → o3'.data = .cell v3' → ApX L' I sl ch' cs' x' → ApH L' I sl ch' cs' → MM m' false lim wanted r tot' x'.o ch' tl tw tr tt' → Q .next s') :
    wpAny (model PySem.Challenge.rw_vo0020_01.row.prog w) (callerA.deeper (envOfC (Str.ofString "law") sc L' fa cd)) (execs bd (envOfC (Str.ofString "law") sc L' fa cd)) Q E s₁ := by
  conv at hsc => rhs; whnf
  conv at hbd => rhs; whnf
  subst hsc hbd
  obtain ⟨hm1, hm2, hm3, hm4, hm5, hm6, hm7⟩ := hM
  w_on
  revert X'
  k_fill
  intro X'
  w_top on
  have hcs : ∀ c ∈ cs, c.Ok bits.toNat := hP.okC
  have hxl : x.bs.length = cs.length := hP.length
  have hxn : x.bs ≠ [] := fun e => hne (List.length_eq_zero_iff.mp (by rw [← hxl, e]; rfl))
  have N2 : News g L' s₁.heap ((I, io) :: (405, tabObj ps) :: (L' + 1, o1) :: (L' + 2, o2) :: (L' + 3, o3) :: (sl, listOf ns.toArray ks) :: (ch, listOf (cs.map fun c => Value.ref c.t).toArray nch) :: (D, LCg.lst ys) :: (x.o, instObj 443 x.d) :: (x.d, dictOf (eDict bits wanted lim x.z tot x.l) x.n) :: (x.l, listOf (refsOf x.bs).toArray x.k) :: (blObjs bits wanted r x.bs ++ cs.flatMap CR.objs)) := N1
  clear N1
  rw [hd] at hm8
  have hxl59 : x.bs.length ≤ 59 := by omega
  have hlimb : 0 ≤ lim ∧ lim ≤ 4 := ⟨by omega, by omega⟩
  have htot0 : 0 ≤ tot + 1 := by omega
  obtain ⟨ctl, cl, hcl⟩ := lastSplit hne
  obtain ⟨tl0, bl0, hbs, hP1, hP2⟩ := (hcl ▸ hP).last
  iterate 28 (try walk_at "my step")
  try dsimp only
  with_reducible rename Fr _ _ _ _ => F3
  with_reducible rename News _ _ _ _ => N3
  have C3 := fun t1 => c_addE w bits wanted r lim tot hb hb' hw hw' hr hr1 hr2 x hxl59 hsep tl0 bl0 hbs hP.okB hP2.lo hP2.hi ps hps c t1 hc hc'
  k_dflt (refine useCon (C3 _) rfl B' F3 X' N3 T' M' rfl ((I, io) :: (L' + 1, o1) :: (L' + 2, o2) :: (L' + 3, o3) :: (sl, listOf ns.toArray ks) :: (ch, listOf (cs.map fun c => Value.ref c.t).toArray nch) :: (D, LCg.lst ys) :: cs.flatMap CR.objs) ?_ ?_ (hApX.hap hDX fun b hb => objE_adr hb) (by ktr_room) (by ktr_units) hb1 ?_)
  · intro q hq
    simp only [OR.objsE, List.mem_cons, List.mem_append] at hq ⊢
    grind
  · intro q hq
    simp only [List.mem_cons, List.mem_append] at hq ⊢
    grind
  rintro v objs' s3 hos3 hb3 F4 N4 A4 ⟨ps', ⟨o5, d5, l5, z5, n5, k5, bs5⟩, hps', rfl, rfl, hA⟩
  have e4 := hA.o
  dsimp only at e4
  subst e4
  have hAp1 : ApX L' I sl ch cs ⟨x.o, d5, l5, z5, n5, k5, bs5⟩ := ApX.of A4 adr_objE
  have N5 := subN (b := (I, io) :: (405, tabObj ps') :: (L' + 1, o1) :: (L' + 2, o2) :: (L' + 3, o3) :: (sl, listOf ns.toArray ks) :: (ch, listOf (cs.map fun c => Value.ref c.t).toArray nch) :: (D, LCg.lst ys) :: (OR.objsE bits wanted r lim (tot + 1) ⟨x.o, d5, l5, z5, n5, k5, bs5⟩ ++ cs.flatMap CR.objs)) N4 (fun q hq => by
    simp only [List.mem_cons, List.mem_append] at hq ⊢
    grind)
  clear N4 N3 F3
  iterate 16 (try walk_at "my step")
  try dsimp only
  with_reducible rename Fr _ _ _ _ => F6
  with_reducible rename News _ _ _ _ => N6
  have hx : (OR.objsE bits wanted r lim (tot + 1) ⟨x.o, d5, l5, z5, n5, k5, bs5⟩).map (·.1) = OR.adr ⟨x.o, d5, l5, z5, n5, k5, bs5⟩ := adrE _
  have hl49 : cs.length ≤ 49 := Nat.le_trans hlen (by decide)
  have hps13 : ((placesOf c r.toNat).map fun k' => k'.fmod bits).length ≤ 13 := by simp only [placesOf, List.length_map, List.length_range]; omega
  refine PySem.W.ite_neg (by decide) ?_
  iterate 5 (try walk_at "my step")
  refine iteBoth (fun hq => ?_) (fun hq => ?_)
  · have hq : (cs.any fun x => allIn x.row ((placesOf c r.toNat).map fun k' => k'.fmod bits)) = false := by simpa [Kept] using hq
    (refine' lawAdd w _ ?qa _ ?qb bits wanted lim hb hb' hw hw' hlimb.1 hlimb.2 mg mb p loose g L' fa cd _ _ X' T' M' B' ps' o1 o2 o3 sl ch I D io ns ys ks nch cs ctl cl (OR.objsE bits wanted r lim (tot + 1) ⟨x.o, d5, l5, z5, n5, k5, bs5⟩) r (tot + 1) tr tb tl tw _ v3 (.ref x.o) false _ ?qF ?qN ?qh hcs hcl hl49 h1 h2 h3 hys hps13 (offB hApI hAp1 hx hDC) (hAp1.ap hApH hx) ?qm1 ?qm2 ?qm3 ?qm4 ?qm5 ?qm6 ?qm7 _ E ?_; (case qF => exact F6); (case qN => exact N6); (case qh => exact hb3); (case qa => rfl); (case qb => rfl); (case qm1 => exact hm1); (case qm2 => exact hm2); (case qm3 => exact hm3); (case qm4 => exact hm4); (case qm5 => exact hm5); (case qm6 => exact hm6); (case qm7 => exact rfl))
    intro ctl1 cl1 ch' c' o3' s6 m6 v3' hcase f1 f2 F7 N7 f5 f6 f7 f8 f9 q1 q2 q3 q4 q5 q6 q7
    have hPn : Pairs bits wanted bs5 (ctl1 ++ [c']) := addPairs (cs := cs) hb hw hA (by rw [hP.any hb (placesOf c r.toNat), hq]; rfl) hP1 hP2 (by rw [hl, longer_zero]; exact hP) hcase f6 f7 f8
    have hln : (ctl1 ++ [c']).length ≤ cs.length + 1 := by
      rw [List.length_append]
      refine Nat.succ_le_succ ?_
      rcases hcase with ⟨-, rfl, -⟩ | ⟨-, rfl, -⟩
      · rw [hcl, List.length_append]; exact Nat.le_add_right _ _
      · exact longer_length lim cs
    have hAn := hAp1.new hx f9
    try dsimp only
    clear F6 N6
    iterate 1 (try walk_at "my step")
    try dsimp only
    refine tailE w _ (by rfl) _ (by rfl) bits wanted r lim mg mb p loose g L' fa cd _ m6 X' T' M' B' ⟨x.o, d5, l5, z5, n5, k5, bs5⟩ ps' o1 o2 o3' sl ch' I io ns ks 0 (ctl1 ++ [c']) (tot + 1) tl _ (by exact F7) (by exact N7) (by exact f2) hPn.length (Nat.le_trans hln (Nat.succ_le_of_lt (Nat.lt_of_le_of_lt hlen (by decide)))) q1 q2 q5 q6 q7 Q E ?_
    intro s9 j1 j2 F9 N9
    exact go ⟨x.o, d5, l5, z5, n5, k5, bs5⟩ ps' o3' ch' 0 (ctl1 ++ [c']) (tot + 1) _ v3' s9 m6 (j1.trans (f1.trans hos3)) j2 F9 N9 hps' hA.sep hPn (by simp) hln htot0 (Int.le_refl _) f5 hAn.1 hAn.2 ⟨q1, q2, q3, q4, q5, q6, q7⟩
  · have hq : (cs.any fun x => allIn x.row ((placesOf c r.toNat).map fun k' => k'.fmod bits)) = true := by simpa [Kept] using hq
    have hbs5 := hA.no (by rw [hP.any hb (placesOf c r.toNat), hq]; rfl)
    dsimp only at hbs5
    have hPn : Pairs bits wanted bs5 cs := by rw [hbs5]; exact hP
    have N7 := subN (b := (I, io) :: (405, tabObj ps') :: (L' + 1, o1) :: (L' + 2, o2) :: (L' + 3, o3) :: (sl, listOf ns.toArray ks) :: (ch, listOf (cs.map fun c => Value.ref c.t).toArray nch) :: (OR.objsE bits wanted r lim (tot + 1) ⟨x.o, d5, l5, z5, n5, k5, bs5⟩ ++ cs.flatMap CR.objs)) N6 (fun q hq => by
      simp only [OR.objsE, List.mem_cons, List.mem_append] at hq ⊢
      grind)
    clear N6
    have hl50 : cs.length ≤ 50 := Nat.le_trans hlen (by decide)
    iterate 5 (try walk_at "my step")
    try dsimp only
    (refine' tailE w _ ?qa _ ?qb bits wanted r lim mg mb p loose g L' fa cd _ _ X' T' M' B' ⟨x.o, d5, l5, z5, n5, k5, bs5⟩ ps' o1 o2 o3 sl ch I io ns ks nch cs (tot + 1) tl _ ?qF ?qN ?qh hPn.length hl50 ?qm1 ?qm2 ?qm5 ?qm6 ?qm7 Q E ?_; (case qF => exact F6); (case qN => exact N7); (case qh => exact hb3); (case qa => rfl); (case qb => rfl); (case qm1 => exact hm1); (case qm2 => exact hm2); (case qm5 => exact hm5); (case qm6 => exact hm6); (case qm7 => exact rfl))
    intro s9 j1 j2 F9 N9
    exact go ⟨x.o, d5, l5, z5, n5, k5, bs5⟩ ps' o3 ch nch cs (tot + 1) _ v3 s9 _ (j1.trans hos3) j2 F9 N9 hps' hA.sep hPn hne (Nat.le_succ _) htot0 (Int.le_refl _) h3 hAp1 hApH ⟨hm1, hm2, hm3, hm4, hm5, hm6, rfl⟩
end
section
set_option maxHeartbeats 8000000 in
theorem brAdd1R (w : World) (sc : Scope) (hsc : sc = lawScope) (bd : List Stmt) (hbd : bd = lawLoop.drop 5) (bits wanted r lim : Int) (hb : 4 ≤ bits) (hb' : bits ≤ 19) (hw : 1 ≤ wanted) (hw' : wanted ≤ 4) (hr : ((13862943611198906 * bits).fdiv wanted + 10000000000000000).fdiv (2 * 10000000000000000) = r) (hr1 : 1 ≤ r) (hr2 : r ≤ 13) (hl : 1 ≤ lim) (hl4 : lim ≤ 4)
    (mg mb : Str → Option Value) (p : Program) (loose : List Str) (g : Heap) (L' fa : Addr) (cd : Value) (X' : (Mine.hd.heap_39 w.params).In g) (T' : TopRead p loose mg mb g) (M' : BM mg g) (B' : Below callerA g [] g)
    (s₁ : Shared) (m₁ : Str → Option Value) (x : OR) (ps : Array Value) (o1 o2 o3 : Obj) (sl ch I D : Addr) (io : Obj) (ns ys : List Value) (ks nch : Nat) (cs : List CR) (tot n : Int) (c : Nat) (tl tw tr tt tb td tk tm : Tok) (v3 : Option Value)
    (F1 : Fr g L' s₁.heap m₁) (N1 : News g L' s₁.heap ((I, io) :: (405, tabObj ps) :: (L' + 1, o1) :: (L' + 2, o2) :: (L' + 3, o3) :: (sl, listOf ns.toArray ks) :: (ch, listOf (cs.map fun c => Value.ref c.t).toArray nch) :: (D, LCg.lst ys) :: (x.objsR bits wanted r lim tot ++ cs.flatMap CR.objs)))
    (hb1 : AllBare s₁.gens) (hps : TriplesOk ps.toList) (hsep : x.Sep) (hP : Pairs bits wanted x.bs cs) (hne : cs ≠ []) (hlen : cs.length ≤ 40) (ht0 : 0 ≤ tot) (ht1 : tot ≤ 100) (hn0 : 0 ≤ n) (hc : 97 ≤ c) (hc' : c ≤ 104)
    (h1 : o1.data = .cell (some (.int bits tb))) (h2 : o2.data = .cell (some (.ref D))) (h3 : o3.data = .cell v3) (hys : IntsAre ys ((placesOf c r.toNat).map fun k' => k'.fmod bits))
    (hApX : ApX L' I sl ch cs x) (hApH : ApH L' I sl ch cs) (hApI : ApI L' I sl) (hDX : ∀ b ∈ (405 : Addr) :: x.adr, @Ne Nat D b) (hDC : OffC L' [(D, LCg.lst ys)])
    (hM : MM m₁ true lim wanted r tot x.o ch tl tw tr tt) (hm8 : m₁ (Str.ofString "deed") = some (.int (n.fmod 6) td)) (hm9 : m₁ (Str.ofString "key") = some (.str (Str.mk #[c]) tk)) (hm10 : m₁ (Str.ofString "more") = some (.int (n.fdiv 48) tm)) (hm11 : m₁ (Str.ofString "inside") = some (.bool (cs.any fun x => allIn x.row ((placesOf c r.toNat).map fun k' => k'.fmod bits))))
    (hd : n.fmod 6 = 1)
    (Q : Flow → Shared → Prop) (E : Value → Shared → Prop)
    (go : ∀ (x' : OR) (ps' : Array Value) (o3' : Obj) (ch' : Addr) (nch' : Nat) (cs' : List CR) (tot' : Int) (tt' : Tok) (v3' : Option Value) (s' : Shared) (m' : Str → Option Value), s'.os = s₁.os → AllBare s'.gens → Fr g L' s'.heap m' →
      News g L' s'.heap ((I, io) :: (405, tabObj ps') :: (L' + 1, o1) :: (L' + 2, o2) :: (L' + 3, o3') :: (sl, listOf ns.toArray ks) :: (ch', listOf (cs'.map fun c => Value.ref c.t).toArray nch') :: (x'.objsR bits wanted r lim tot' ++ cs'.flatMap CR.objs)) →
      TriplesOk ps'.toList → x'.Sep → Pairs bits wanted x'.bs cs' → cs' ≠ [] → cs'.length ≤ cs.length + 1 → 0 ≤ tot' → tot' ≤ tot + 1 → o3'.data = .cell v3' → ApX L' I sl ch' cs' x' → ApH L' I sl ch' cs' → MM m' true lim wanted r tot' x'.o ch' tl tw tr tt' → Q .next s') :
    wpAny (model PySem.Challenge.rw_vo0020_01.row.prog w) (callerA.deeper (envOfC (Str.ofString "law") sc L' fa cd)) (execs bd (envOfC (Str.ofString "law") sc L' fa cd)) Q E s₁ := by
  conv at hsc => rhs; whnf
  conv at hbd => rhs; whnf
  subst hsc hbd
  obtain ⟨hm1, hm2, hm3, hm4, hm5, hm6, hm7⟩ := hM
  w_on
  revert X'
  k_fill
  intro X'
  w_top on
  have hcs : ∀ c ∈ cs, c.Ok bits.toNat := hP.okC
  have hxl : x.bs.length = cs.length := hP.length
  have hxn : x.bs ≠ [] := fun e => hne (List.length_eq_zero_iff.mp (by rw [← hxl, e]; rfl))
  have N2 : News g L' s₁.heap ((I, io) :: (405, tabObj ps) :: (L' + 1, o1) :: (L' + 2, o2) :: (L' + 3, o3) :: (sl, listOf ns.toArray ks) :: (ch, listOf (cs.map fun c => Value.ref c.t).toArray nch) :: (D, LCg.lst ys) :: (x.o, instObj 520 x.d) :: (x.d, dictOf (rDict bits wanted lim x.z tot x.l) x.n) :: (x.l, listOf (refsOf x.bs).toArray x.k) :: (blObjs bits wanted r x.bs ++ cs.flatMap CR.objs)) := N1
  clear N1
  rw [hd] at hm8
  have hxl59 : x.bs.length ≤ 59 := by omega
  have hlimb : 0 ≤ lim ∧ lim ≤ 4 := ⟨by omega, by omega⟩
  have htot0 : 0 ≤ tot + 1 := by omega
  obtain ⟨ctl, cl, hcl⟩ := lastSplit hne
  obtain ⟨tl0, bl0, hbs, hP1, hP2⟩ := (hcl ▸ hP).last
  iterate 28 (try walk_at "my step")
  try dsimp only
  with_reducible rename Fr _ _ _ _ => F3
  with_reducible rename News _ _ _ _ => N3
  have C3 := fun t1 => c_addR w bits wanted r lim tot hb hb' hw hw' hr hr1 hr2 x hxl59 hsep tl0 bl0 hbs hP.okB hP2.lo hP2.hi ps hps c t1 hc hc'
  k_dflt (refine useCon (C3 _) rfl B' F3 X' N3 T' M' rfl ((I, io) :: (L' + 1, o1) :: (L' + 2, o2) :: (L' + 3, o3) :: (sl, listOf ns.toArray ks) :: (ch, listOf (cs.map fun c => Value.ref c.t).toArray nch) :: (D, LCg.lst ys) :: cs.flatMap CR.objs) ?_ ?_ (hApX.hap hDX fun b hb => objR_adr hb) (by ktr_room) (by ktr_units) hb1 ?_)
  · intro q hq
    simp only [OR.objsR, List.mem_cons, List.mem_append] at hq ⊢
    grind
  · intro q hq
    simp only [List.mem_cons, List.mem_append] at hq ⊢
    grind
  rintro v objs' s3 hos3 hb3 F4 N4 A4 ⟨ps', ⟨o5, d5, l5, z5, n5, k5, bs5⟩, hps', rfl, rfl, hA⟩
  have e4 := hA.o
  dsimp only at e4
  subst e4
  have hAp1 : ApX L' I sl ch cs ⟨x.o, d5, l5, z5, n5, k5, bs5⟩ := ApX.of A4 adr_objR
  have N5 := subN (b := (I, io) :: (405, tabObj ps') :: (L' + 1, o1) :: (L' + 2, o2) :: (L' + 3, o3) :: (sl, listOf ns.toArray ks) :: (ch, listOf (cs.map fun c => Value.ref c.t).toArray nch) :: (D, LCg.lst ys) :: (OR.objsR bits wanted r lim (tot + 1) ⟨x.o, d5, l5, z5, n5, k5, bs5⟩ ++ cs.flatMap CR.objs)) N4 (fun q hq => by
    simp only [List.mem_cons, List.mem_append] at hq ⊢
    grind)
  clear N4 N3 F3
  iterate 16 (try walk_at "my step")
  try dsimp only
  with_reducible rename Fr _ _ _ _ => F6
  with_reducible rename News _ _ _ _ => N6
  have hx : (OR.objsR bits wanted r lim (tot + 1) ⟨x.o, d5, l5, z5, n5, k5, bs5⟩).map (·.1) = OR.adr ⟨x.o, d5, l5, z5, n5, k5, bs5⟩ := adrR _
  have hl49 : cs.length ≤ 49 := Nat.le_trans hlen (by decide)
  have hps13 : ((placesOf c r.toNat).map fun k' => k'.fmod bits).length ≤ 13 := by simp only [placesOf, List.length_map, List.length_range]; omega
  refine PySem.W.ite_neg (by decide) ?_
  iterate 5 (try walk_at "my step")
  refine iteBoth (fun hq => ?_) (fun hq => ?_)
  · have hq : (cs.any fun x => allIn x.row ((placesOf c r.toNat).map fun k' => k'.fmod bits)) = false := by simpa [Kept] using hq
    (refine' lawAdd w _ ?qa _ ?qb bits wanted lim hb hb' hw hw' hlimb.1 hlimb.2 mg mb p loose g L' fa cd _ _ X' T' M' B' ps' o1 o2 o3 sl ch I D io ns ys ks nch cs ctl cl (OR.objsR bits wanted r lim (tot + 1) ⟨x.o, d5, l5, z5, n5, k5, bs5⟩) r (tot + 1) tr tb tl tw _ v3 (.ref x.o) true _ ?qF ?qN ?qh hcs hcl hl49 h1 h2 h3 hys hps13 (offB hApI hAp1 hx hDC) (hAp1.ap hApH hx) ?qm1 ?qm2 ?qm3 ?qm4 ?qm5 ?qm6 ?qm7 _ E ?_; (case qF => exact F6); (case qN => exact N6); (case qh => exact hb3); (case qa => rfl); (case qb => rfl); (case qm1 => exact hm1); (case qm2 => exact hm2); (case qm3 => exact hm3); (case qm4 => exact hm4); (case qm5 => exact hm5); (case qm6 => exact hm6); (case qm7 => exact rfl))
    intro ctl1 cl1 ch' c' o3' s6 m6 v3' hcase f1 f2 F7 N7 f5 f6 f7 f8 f9 q1 q2 q3 q4 q5 q6 q7
    have hPn : Pairs bits wanted bs5 (ctl1 ++ [c']) := addPairs (cs := cs) hb hw hA (by rw [hP.any hb (placesOf c r.toNat), hq]; rfl) hP1 hP2 (hP.kept hl) hcase f6 f7 f8
    have hln : (ctl1 ++ [c']).length ≤ cs.length + 1 := by
      rw [List.length_append]
      refine Nat.succ_le_succ ?_
      rcases hcase with ⟨-, rfl, -⟩ | ⟨-, rfl, -⟩
      · rw [hcl, List.length_append]; exact Nat.le_add_right _ _
      · exact longer_length lim cs
    have hAn := hAp1.new hx f9
    try dsimp only
    clear F6 N6
    iterate 1 (try walk_at "my step")
    try dsimp only
    refine tailR w _ (by rfl) _ (by rfl) bits wanted r lim mg mb p loose g L' fa cd _ m6 X' T' M' B' ⟨x.o, d5, l5, z5, n5, k5, bs5⟩ ps' o1 o2 o3' sl ch' I io ns ks 0 (ctl1 ++ [c']) (tot + 1) tl _ (by exact F7) (by exact N7) (by exact f2) hPn.length (Nat.le_trans hln (Nat.succ_le_of_lt (Nat.lt_of_le_of_lt hlen (by decide)))) q1 q2 q5 q6 q7 Q E ?_
    intro s9 j1 j2 F9 N9
    exact go ⟨x.o, d5, l5, z5, n5, k5, bs5⟩ ps' o3' ch' 0 (ctl1 ++ [c']) (tot + 1) _ v3' s9 m6 (j1.trans (f1.trans hos3)) j2 F9 N9 hps' hA.sep hPn (by simp) hln htot0 (Int.le_refl _) f5 hAn.1 hAn.2 ⟨q1, q2, q3, q4, q5, q6, q7⟩
  · have hq : (cs.any fun x => allIn x.row ((placesOf c r.toNat).map fun k' => k'.fmod bits)) = true := by simpa [Kept] using hq
    have hbs5 := hA.no (by rw [hP.any hb (placesOf c r.toNat), hq]; rfl)
    dsimp only at hbs5
    have hPn : Pairs bits wanted bs5 cs := by rw [hbs5]; exact hP
    have N7 := subN (b := (I, io) :: (405, tabObj ps') :: (L' + 1, o1) :: (L' + 2, o2) :: (L' + 3, o3) :: (sl, listOf ns.toArray ks) :: (ch, listOf (cs.map fun c => Value.ref c.t).toArray nch) :: (OR.objsR bits wanted r lim (tot + 1) ⟨x.o, d5, l5, z5, n5, k5, bs5⟩ ++ cs.flatMap CR.objs)) N6 (fun q hq => by
      simp only [OR.objsR, List.mem_cons, List.mem_append] at hq ⊢
      grind)
    clear N6
    have hl50 : cs.length ≤ 50 := Nat.le_trans hlen (by decide)
    iterate 5 (try walk_at "my step")
    try dsimp only
    (refine' tailR w _ ?qa _ ?qb bits wanted r lim mg mb p loose g L' fa cd _ _ X' T' M' B' ⟨x.o, d5, l5, z5, n5, k5, bs5⟩ ps' o1 o2 o3 sl ch I io ns ks nch cs (tot + 1) tl _ ?qF ?qN ?qh hPn.length hl50 ?qm1 ?qm2 ?qm5 ?qm6 ?qm7 Q E ?_; (case qF => exact F6); (case qN => exact N7); (case qh => exact hb3); (case qa => rfl); (case qb => rfl); (case qm1 => exact hm1); (case qm2 => exact hm2); (case qm5 => exact hm5); (case qm6 => exact hm6); (case qm7 => exact rfl))
    intro s9 j1 j2 F9 N9
    exact go ⟨x.o, d5, l5, z5, n5, k5, bs5⟩ ps' o3 ch nch cs (tot + 1) _ v3 s9 _ (j1.trans hos3) j2 F9 N9 hps' hA.sep hPn hne (Nat.le_succ _) htot0 (Int.le_refl _) h3 hAp1 hApH ⟨hm1, hm2, hm3, hm4, hm5, hm6, rfl⟩
end
section
set_option maxHeartbeats 8000000 in
theorem brAddFE (w : World) (sc : Scope) (hsc : sc = lawScope) (bd : List Stmt) (hbd : bd = lawLoop.drop 5) (bits wanted r lim : Int) (hb : 4 ≤ bits) (hb' : bits ≤ 19) (hw : 1 ≤ wanted) (hw' : wanted ≤ 4) (hr : ((13862943611198906 * bits).fdiv wanted + 10000000000000000).fdiv (2 * 10000000000000000) = r) (hr1 : 1 ≤ r) (hr2 : r ≤ 13) (hl : lim = 0)
    (mg mb : Str → Option Value) (p : Program) (loose : List Str) (g : Heap) (L' fa : Addr) (cd : Value) (X' : (Mine.hd.heap_39 w.params).In g) (T' : TopRead p loose mg mb g) (M' : BM mg g) (B' : Below callerA g [] g)
    (s₁ : Shared) (m₁ : Str → Option Value) (x : OR) (ps : Array Value) (o1 o2 o3 : Obj) (sl ch I D : Addr) (io : Obj) (ns ys : List Value) (ks nch : Nat) (cs : List CR) (tot n : Int) (c : Nat) (tl tw tr tt tb td tk tm : Tok) (v3 : Option Value)
    (F1 : Fr g L' s₁.heap m₁) (N1 : News g L' s₁.heap ((I, io) :: (405, tabObj ps) :: (L' + 1, o1) :: (L' + 2, o2) :: (L' + 3, o3) :: (sl, listOf ns.toArray ks) :: (ch, listOf (cs.map fun c => Value.ref c.t).toArray nch) :: (D, LCg.lst ys) :: (x.objsE bits wanted r lim tot ++ cs.flatMap CR.objs)))
    (hb1 : AllBare s₁.gens) (hps : TriplesOk ps.toList) (hsep : x.Sep) (hP : Pairs bits wanted x.bs cs) (hne : cs ≠ []) (hlen : cs.length ≤ 40) (ht0 : 0 ≤ tot) (ht1 : tot ≤ 100) (hn0 : 0 ≤ n) (hc : 97 ≤ c) (hc' : c ≤ 104)
    (h1 : o1.data = .cell (some (.int bits tb))) (h2 : o2.data = .cell (some (.ref D))) (h3 : o3.data = .cell v3) (hys : IntsAre ys ((placesOf c r.toNat).map fun k' => k'.fmod bits))
    (hApX : ApX L' I sl ch cs x) (hApH : ApH L' I sl ch cs) (hApI : ApI L' I sl) (hDX : ∀ b ∈ (405 : Addr) :: x.adr, @Ne Nat D b) (hDC : OffC L' [(D, LCg.lst ys)])
    (hM : MM m₁ false lim wanted r tot x.o ch tl tw tr tt) (hm8 : m₁ (Str.ofString "deed") = some (.int (n.fmod 6) td)) (hm9 : m₁ (Str.ofString "key") = some (.str (Str.mk #[c]) tk)) (hm10 : m₁ (Str.ofString "more") = some (.int (n.fdiv 48) tm)) (hm11 : m₁ (Str.ofString "inside") = some (.bool (cs.any fun x => allIn x.row ((placesOf c r.toNat).map fun k' => k'.fmod bits))))
    (hd : n.fmod 6 = 2)
    (Q : Flow → Shared → Prop) (E : Value → Shared → Prop)
    (go : ∀ (x' : OR) (ps' : Array Value) (o3' : Obj) (ch' : Addr) (nch' : Nat) (cs' : List CR) (tot' : Int) (tt' : Tok) (v3' : Option Value) (s' : Shared) (m' : Str → Option Value), s'.os = s₁.os → AllBare s'.gens → Fr g L' s'.heap m' →
      News g L' s'.heap ((I, io) :: (405, tabObj ps') :: (L' + 1, o1) :: (L' + 2, o2) :: (L' + 3, o3') :: (sl, listOf ns.toArray ks) :: (ch', listOf (cs'.map fun c => Value.ref c.t).toArray nch') :: (x'.objsE bits wanted r lim tot' ++ cs'.flatMap CR.objs)) →
      TriplesOk ps'.toList → x'.Sep → Pairs bits wanted x'.bs cs' → cs' ≠ [] → cs'.length ≤ cs.length + 1 → 0 ≤ tot' → tot' ≤ tot + 1 → o3'.data = .cell v3' → ApX L' I sl ch' cs' x' → ApH L' I sl ch' cs' → MM m' false lim wanted r tot' x'.o ch' tl tw tr tt' → Q .next s') :
    wpAny (model PySem.Challenge.rw_vo0020_01.row.prog w) (callerA.deeper (envOfC (Str.ofString "law") sc L' fa cd)) (execs bd (envOfC (Str.ofString "law") sc L' fa cd)) Q E s₁ := by
  conv at hsc => rhs; whnf
  conv at hbd => rhs; whnf
  subst hsc hbd
  obtain ⟨hm1, hm2, hm3, hm4, hm5, hm6, hm7⟩ := hM
  w_on
  revert X'
  k_fill
  intro X'
  w_top on
  have hcs : ∀ c ∈ cs, c.Ok bits.toNat := hP.okC
  have hxl : x.bs.length = cs.length := hP.length
  have hxn : x.bs ≠ [] := fun e => hne (List.length_eq_zero_iff.mp (by rw [← hxl, e]; rfl))
  have N2 : News g L' s₁.heap ((I, io) :: (405, tabObj ps) :: (L' + 1, o1) :: (L' + 2, o2) :: (L' + 3, o3) :: (sl, listOf ns.toArray ks) :: (ch, listOf (cs.map fun c => Value.ref c.t).toArray nch) :: (D, LCg.lst ys) :: (x.o, instObj 443 x.d) :: (x.d, dictOf (eDict bits wanted lim x.z tot x.l) x.n) :: (x.l, listOf (refsOf x.bs).toArray x.k) :: (blObjs bits wanted r x.bs ++ cs.flatMap CR.objs)) := N1
  clear N1
  rw [hd] at hm8
  have hxl59 : x.bs.length ≤ 59 := by omega
  have hlimb : 0 ≤ lim ∧ lim ≤ 4 := ⟨by omega, by omega⟩
  have htot0 : 0 ≤ tot + 1 := by omega
  obtain ⟨ctl, cl, hcl⟩ := lastSplit hne
  obtain ⟨tl0, bl0, hbs, hP1, hP2⟩ := (hcl ▸ hP).last
  iterate 30 (try walk_at "my step")
  try dsimp only
  with_reducible rename Fr _ _ _ _ => F3
  with_reducible rename News _ _ _ _ => N3
  have C3 := fun t1 => c_addEF w bits wanted r lim tot hb hb' hw hw' hr hr1 hr2 x hxl59 hsep tl0 bl0 hbs hP.okB hP2.lo hP2.hi ps hps c t1 hc hc'
  k_dflt (refine useCon (C3 _) rfl B' F3 X' N3 T' M' rfl ((I, io) :: (L' + 1, o1) :: (L' + 2, o2) :: (L' + 3, o3) :: (sl, listOf ns.toArray ks) :: (ch, listOf (cs.map fun c => Value.ref c.t).toArray nch) :: (D, LCg.lst ys) :: cs.flatMap CR.objs) ?_ ?_ (hApX.hap hDX fun b hb => objE_adr hb) (by ktr_room) (by ktr_units) hb1 ?_)
  · intro q hq
    simp only [OR.objsE, List.mem_cons, List.mem_append] at hq ⊢
    grind
  · intro q hq
    simp only [List.mem_cons, List.mem_append] at hq ⊢
    grind
  rintro v objs' s3 hos3 hb3 F4 N4 A4 ⟨ps', ⟨o5, d5, l5, z5, n5, k5, bs5⟩, hps', rfl, rfl, hA⟩
  have e4 := hA.o
  dsimp only at e4
  subst e4
  have hAp1 : ApX L' I sl ch cs ⟨x.o, d5, l5, z5, n5, k5, bs5⟩ := ApX.of A4 adr_objE
  have N5 := subN (b := (I, io) :: (405, tabObj ps') :: (L' + 1, o1) :: (L' + 2, o2) :: (L' + 3, o3) :: (sl, listOf ns.toArray ks) :: (ch, listOf (cs.map fun c => Value.ref c.t).toArray nch) :: (D, LCg.lst ys) :: (OR.objsE bits wanted r lim (tot + 1) ⟨x.o, d5, l5, z5, n5, k5, bs5⟩ ++ cs.flatMap CR.objs)) N4 (fun q hq => by
    simp only [List.mem_cons, List.mem_append] at hq ⊢
    grind)
  clear N4 N3 F3
  iterate 16 (try walk_at "my step")
  try dsimp only
  with_reducible rename Fr _ _ _ _ => F6
  with_reducible rename News _ _ _ _ => N6
  have hx : (OR.objsE bits wanted r lim (tot + 1) ⟨x.o, d5, l5, z5, n5, k5, bs5⟩).map (·.1) = OR.adr ⟨x.o, d5, l5, z5, n5, k5, bs5⟩ := adrE _
  have hl49 : cs.length ≤ 49 := Nat.le_trans hlen (by decide)
  have hps13 : ((placesOf c r.toNat).map fun k' => k'.fmod bits).length ≤ 13 := by simp only [placesOf, List.length_map, List.length_range]; omega
  refine PySem.W.ite_pos (by rfl) ?_
  refine PySem.W.ite_pos rfl ?_
  · skip
    (refine' lawAdd w _ ?qa _ ?qb bits wanted lim hb hb' hw hw' hlimb.1 hlimb.2 mg mb p loose g L' fa cd _ _ X' T' M' B' ps' o1 o2 o3 sl ch I D io ns ys ks nch cs ctl cl (OR.objsE bits wanted r lim (tot + 1) ⟨x.o, d5, l5, z5, n5, k5, bs5⟩) r (tot + 1) tr tb tl tw _ v3 (.ref x.o) false _ ?qF ?qN ?qh hcs hcl hl49 h1 h2 h3 hys hps13 (offB hApI hAp1 hx hDC) (hAp1.ap hApH hx) ?qm1 ?qm2 ?qm3 ?qm4 ?qm5 ?qm6 ?qm7 _ E ?_; (case qF => exact F6); (case qN => exact N6); (case qh => exact hb3); (case qa => rfl); (case qb => rfl); (case qm1 => exact hm1); (case qm2 => exact hm2); (case qm3 => exact hm3); (case qm4 => exact hm4); (case qm5 => exact hm5); (case qm6 => exact hm6); (case qm7 => exact rfl))
    intro ctl1 cl1 ch' c' o3' s6 m6 v3' hcase f1 f2 F7 N7 f5 f6 f7 f8 f9 q1 q2 q3 q4 q5 q6 q7
    have hPn : Pairs bits wanted bs5 (ctl1 ++ [c']) := addPairs (cs := cs) hb hw hA rfl hP1 hP2 (by rw [hl, longer_zero]; exact hP) hcase f6 f7 f8
    have hln : (ctl1 ++ [c']).length ≤ cs.length + 1 := by
      rw [List.length_append]
      refine Nat.succ_le_succ ?_
      rcases hcase with ⟨-, rfl, -⟩ | ⟨-, rfl, -⟩
      · rw [hcl, List.length_append]; exact Nat.le_add_right _ _
      · exact longer_length lim cs
    have hAn := hAp1.new hx f9
    try dsimp only
    clear F6 N6
    iterate 1 (try walk_at "my step")
    try dsimp only
    refine tailE w _ (by rfl) _ (by rfl) bits wanted r lim mg mb p loose g L' fa cd _ m6 X' T' M' B' ⟨x.o, d5, l5, z5, n5, k5, bs5⟩ ps' o1 o2 o3' sl ch' I io ns ks 0 (ctl1 ++ [c']) (tot + 1) tl _ (by exact F7) (by exact N7) (by exact f2) hPn.length (Nat.le_trans hln (Nat.succ_le_of_lt (Nat.lt_of_le_of_lt hlen (by decide)))) q1 q2 q5 q6 q7 Q E ?_
    intro s9 j1 j2 F9 N9
    exact go ⟨x.o, d5, l5, z5, n5, k5, bs5⟩ ps' o3' ch' 0 (ctl1 ++ [c']) (tot + 1) _ v3' s9 m6 (j1.trans (f1.trans hos3)) j2 F9 N9 hps' hA.sep hPn (by simp) hln htot0 (Int.le_refl _) f5 hAn.1 hAn.2 ⟨q1, q2, q3, q4, q5, q6, q7⟩
end
section
set_option maxHeartbeats 8000000 in
theorem brAddFR (w : World) (sc : Scope) (hsc : sc = lawScope) (bd : List Stmt) (hbd : bd = lawLoop.drop 5) (bits wanted r lim : Int) (hb : 4 ≤ bits) (hb' : bits ≤ 19) (hw : 1 ≤ wanted) (hw' : wanted ≤ 4) (hr : ((13862943611198906 * bits).fdiv wanted + 10000000000000000).fdiv (2 * 10000000000000000) = r) (hr1 : 1 ≤ r) (hr2 : r ≤ 13) (hl : 1 ≤ lim) (hl4 : lim ≤ 4)
    (mg mb : Str → Option Value) (p : Program) (loose : List Str) (g : Heap) (L' fa : Addr) (cd : Value) (X' : (Mine.hd.heap_39 w.params).In g) (T' : TopRead p loose mg mb g) (M' : BM mg g) (B' : Below callerA g [] g)
    (s₁ : Shared) (m₁ : Str → Option Value) (x : OR) (ps : Array Value) (o1 o2 o3 : Obj) (sl ch I D : Addr) (io : Obj) (ns ys : List Value) (ks nch : Nat) (cs : List CR) (tot n : Int) (c : Nat) (tl tw tr tt tb td tk tm : Tok) (v3 : Option Value)
    (F1 : Fr g L' s₁.heap m₁) (N1 : News g L' s₁.heap ((I, io) :: (405, tabObj ps) :: (L' + 1, o1) :: (L' + 2, o2) :: (L' + 3, o3) :: (sl, listOf ns.toArray ks) :: (ch, listOf (cs.map fun c => Value.ref c.t).toArray nch) :: (D, LCg.lst ys) :: (x.objsR bits wanted r lim tot ++ cs.flatMap CR.objs)))
    (hb1 : AllBare s₁.gens) (hps : TriplesOk ps.toList) (hsep : x.Sep) (hP : Pairs bits wanted x.bs cs) (hne : cs ≠ []) (hlen : cs.length ≤ 40) (ht0 : 0 ≤ tot) (ht1 : tot ≤ 100) (hn0 : 0 ≤ n) (hc : 97 ≤ c) (hc' : c ≤ 104)
    (h1 : o1.data = .cell (some (.int bits tb))) (h2 : o2.data = .cell (some (.ref D))) (h3 : o3.data = .cell v3) (hys : IntsAre ys ((placesOf c r.toNat).map fun k' => k'.fmod bits))
    (hApX : ApX L' I sl ch cs x) (hApH : ApH L' I sl ch cs) (hApI : ApI L' I sl) (hDX : ∀ b ∈ (405 : Addr) :: x.adr, @Ne Nat D b) (hDC : OffC L' [(D, LCg.lst ys)])
    (hM : MM m₁ true lim wanted r tot x.o ch tl tw tr tt) (hm8 : m₁ (Str.ofString "deed") = some (.int (n.fmod 6) td)) (hm9 : m₁ (Str.ofString "key") = some (.str (Str.mk #[c]) tk)) (hm10 : m₁ (Str.ofString "more") = some (.int (n.fdiv 48) tm)) (hm11 : m₁ (Str.ofString "inside") = some (.bool (cs.any fun x => allIn x.row ((placesOf c r.toNat).map fun k' => k'.fmod bits))))
    (hd : n.fmod 6 = 2)
    (Q : Flow → Shared → Prop) (E : Value → Shared → Prop)
    (go : ∀ (x' : OR) (ps' : Array Value) (o3' : Obj) (ch' : Addr) (nch' : Nat) (cs' : List CR) (tot' : Int) (tt' : Tok) (v3' : Option Value) (s' : Shared) (m' : Str → Option Value), s'.os = s₁.os → AllBare s'.gens → Fr g L' s'.heap m' →
      News g L' s'.heap ((I, io) :: (405, tabObj ps') :: (L' + 1, o1) :: (L' + 2, o2) :: (L' + 3, o3') :: (sl, listOf ns.toArray ks) :: (ch', listOf (cs'.map fun c => Value.ref c.t).toArray nch') :: (x'.objsR bits wanted r lim tot' ++ cs'.flatMap CR.objs)) →
      TriplesOk ps'.toList → x'.Sep → Pairs bits wanted x'.bs cs' → cs' ≠ [] → cs'.length ≤ cs.length + 1 → 0 ≤ tot' → tot' ≤ tot + 1 → o3'.data = .cell v3' → ApX L' I sl ch' cs' x' → ApH L' I sl ch' cs' → MM m' true lim wanted r tot' x'.o ch' tl tw tr tt' → Q .next s') :
    wpAny (model PySem.Challenge.rw_vo0020_01.row.prog w) (callerA.deeper (envOfC (Str.ofString "law") sc L' fa cd)) (execs bd (envOfC (Str.ofString "law") sc L' fa cd)) Q E s₁ := by
  conv at hsc => rhs; whnf
  conv at hbd => rhs; whnf
  subst hsc hbd
  obtain ⟨hm1, hm2, hm3, hm4, hm5, hm6, hm7⟩ := hM
  w_on
  revert X'
  k_fill
  intro X'
  w_top on
  have hcs : ∀ c ∈ cs, c.Ok bits.toNat := hP.okC
  have hxl : x.bs.length = cs.length := hP.length
  have hxn : x.bs ≠ [] := fun e => hne (List.length_eq_zero_iff.mp (by rw [← hxl, e]; rfl))
  have N2 : News g L' s₁.heap ((I, io) :: (405, tabObj ps) :: (L' + 1, o1) :: (L' + 2, o2) :: (L' + 3, o3) :: (sl, listOf ns.toArray ks) :: (ch, listOf (cs.map fun c => Value.ref c.t).toArray nch) :: (D, LCg.lst ys) :: (x.o, instObj 520 x.d) :: (x.d, dictOf (rDict bits wanted lim x.z tot x.l) x.n) :: (x.l, listOf (refsOf x.bs).toArray x.k) :: (blObjs bits wanted r x.bs ++ cs.flatMap CR.objs)) := N1
  clear N1
  rw [hd] at hm8
  have hxl59 : x.bs.length ≤ 59 := by omega
  have hlimb : 0 ≤ lim ∧ lim ≤ 4 := ⟨by omega, by omega⟩
  have htot0 : 0 ≤ tot + 1 := by omega
  obtain ⟨ctl, cl, hcl⟩ := lastSplit hne
  obtain ⟨tl0, bl0, hbs, hP1, hP2⟩ := (hcl ▸ hP).last
  iterate 30 (try walk_at "my step")
  try dsimp only
  with_reducible rename Fr _ _ _ _ => F3
  with_reducible rename News _ _ _ _ => N3
  have C3 := fun t1 => c_addRF w bits wanted r lim tot hb hb' hw hw' hr hr1 hr2 x hxl59 hsep tl0 bl0 hbs hP.okB hP2.lo hP2.hi ps hps c t1 hc hc'
  k_dflt (refine useCon (C3 _) rfl B' F3 X' N3 T' M' rfl ((I, io) :: (L' + 1, o1) :: (L' + 2, o2) :: (L' + 3, o3) :: (sl, listOf ns.toArray ks) :: (ch, listOf (cs.map fun c => Value.ref c.t).toArray nch) :: (D, LCg.lst ys) :: cs.flatMap CR.objs) ?_ ?_ (hApX.hap hDX fun b hb => objR_adr hb) (by ktr_room) (by ktr_units) hb1 ?_)
  · intro q hq
    simp only [OR.objsR, List.mem_cons, List.mem_append] at hq ⊢
    grind
  · intro q hq
    simp only [List.mem_cons, List.mem_append] at hq ⊢
    grind
  rintro v objs' s3 hos3 hb3 F4 N4 A4 ⟨ps', ⟨o5, d5, l5, z5, n5, k5, bs5⟩, hps', rfl, rfl, hA⟩
  have e4 := hA.o
  dsimp only at e4
  subst e4
  have hAp1 : ApX L' I sl ch cs ⟨x.o, d5, l5, z5, n5, k5, bs5⟩ := ApX.of A4 adr_objR
  have N5 := subN (b := (I, io) :: (405, tabObj ps') :: (L' + 1, o1) :: (L' + 2, o2) :: (L' + 3, o3) :: (sl, listOf ns.toArray ks) :: (ch, listOf (cs.map fun c => Value.ref c.t).toArray nch) :: (D, LCg.lst ys) :: (OR.objsR bits wanted r lim (tot + 1) ⟨x.o, d5, l5, z5, n5, k5, bs5⟩ ++ cs.flatMap CR.objs)) N4 (fun q hq => by
    simp only [List.mem_cons, List.mem_append] at hq ⊢
    grind)
  clear N4 N3 F3
  iterate 16 (try walk_at "my step")
  try dsimp only
  with_reducible rename Fr _ _ _ _ => F6
  with_reducible rename News _ _ _ _ => N6
  have hx : (OR.objsR bits wanted r lim (tot + 1) ⟨x.o, d5, l5, z5, n5, k5, bs5⟩).map (·.1) = OR.adr ⟨x.o, d5, l5, z5, n5, k5, bs5⟩ := adrR _
  have hl49 : cs.length ≤ 49 := Nat.le_trans hlen (by decide)
  have hps13 : ((placesOf c r.toNat).map fun k' => k'.fmod bits).length ≤ 13 := by simp only [placesOf, List.length_map, List.length_range]; omega
  refine PySem.W.ite_pos (by rfl) ?_
  refine PySem.W.ite_pos rfl ?_
  · skip
    (refine' lawAdd w _ ?qa _ ?qb bits wanted lim hb hb' hw hw' hlimb.1 hlimb.2 mg mb p loose g L' fa cd _ _ X' T' M' B' ps' o1 o2 o3 sl ch I D io ns ys ks nch cs ctl cl (OR.objsR bits wanted r lim (tot + 1) ⟨x.o, d5, l5, z5, n5, k5, bs5⟩) r (tot + 1) tr tb tl tw _ v3 (.ref x.o) true _ ?qF ?qN ?qh hcs hcl hl49 h1 h2 h3 hys hps13 (offB hApI hAp1 hx hDC) (hAp1.ap hApH hx) ?qm1 ?qm2 ?qm3 ?qm4 ?qm5 ?qm6 ?qm7 _ E ?_; (case qF => exact F6); (case qN => exact N6); (case qh => exact hb3); (case qa => rfl); (case qb => rfl); (case qm1 => exact hm1); (case qm2 => exact hm2); (case qm3 => exact hm3); (case qm4 => exact hm4); (case qm5 => exact hm5); (case qm6 => exact hm6); (case qm7 => exact rfl))
    intro ctl1 cl1 ch' c' o3' s6 m6 v3' hcase f1 f2 F7 N7 f5 f6 f7 f8 f9 q1 q2 q3 q4 q5 q6 q7
    have hPn : Pairs bits wanted bs5 (ctl1 ++ [c']) := addPairs (cs := cs) hb hw hA rfl hP1 hP2 (hP.kept hl) hcase f6 f7 f8
    have hln : (ctl1 ++ [c']).length ≤ cs.length + 1 := by
      rw [List.length_append]
      refine Nat.succ_le_succ ?_
      rcases hcase with ⟨-, rfl, -⟩ | ⟨-, rfl, -⟩
      · rw [hcl, List.length_append]; exact Nat.le_add_right _ _
      · exact longer_length lim cs
    have hAn := hAp1.new hx f9
    try dsimp only
    clear F6 N6
    iterate 1 (try walk_at "my step")
    try dsimp only
    refine tailR w _ (by rfl) _ (by rfl) bits wanted r lim mg mb p loose g L' fa cd _ m6 X' T' M' B' ⟨x.o, d5, l5, z5, n5, k5, bs5⟩ ps' o1 o2 o3' sl ch' I io ns ks 0 (ctl1 ++ [c']) (tot + 1) tl _ (by exact F7) (by exact N7) (by exact f2) hPn.length (Nat.le_trans hln (Nat.succ_le_of_lt (Nat.lt_of_le_of_lt hlen (by decide)))) q1 q2 q5 q6 q7 Q E ?_
    intro s9 j1 j2 F9 N9
    exact go ⟨x.o, d5, l5, z5, n5, k5, bs5⟩ ps' o3' ch' 0 (ctl1 ++ [c']) (tot + 1) _ v3' s9 m6 (j1.trans (f1.trans hos3)) j2 F9 N9 hps' hA.sep hPn (by simp) hln htot0 (Int.le_refl _) f5 hAn.1 hAn.2 ⟨q1, q2, q3, q4, q5, q6, q7⟩
end
section
set_option maxHeartbeats 8000000 in
theorem brAltE (w : World) (sc : Scope) (hsc : sc = lawScope) (bd : List Stmt) (hbd : bd = lawLoop.drop 5) (bits wanted r lim : Int) (hb : 4 ≤ bits) (hb' : bits ≤ 19) (hw : 1 ≤ wanted) (hw' : wanted ≤ 4) (hr : ((13862943611198906 * bits).fdiv wanted + 10000000000000000).fdiv (2 * 10000000000000000) = r) (hr1 : 1 ≤ r) (hr2 : r ≤ 13) (hl : lim = 0)
    (mg mb : Str → Option Value) (p : Program) (loose : List Str) (g : Heap) (L' fa : Addr) (cd : Value) (X' : (Mine.hd.heap_39 w.params).In g) (T' : TopRead p loose mg mb g) (M' : BM mg g) (B' : Below callerA g [] g)
    (s₁ : Shared) (m₁ : Str → Option Value) (x : OR) (ps : Array Value) (o1 o2 o3 : Obj) (sl ch I D : Addr) (io : Obj) (ns ys : List Value) (ks nch : Nat) (cs : List CR) (tot n : Int) (c : Nat) (tl tw tr tt tb td tk tm : Tok) (v3 : Option Value)
    (F1 : Fr g L' s₁.heap m₁) (N1 : News g L' s₁.heap ((I, io) :: (405, tabObj ps) :: (L' + 1, o1) :: (L' + 2, o2) :: (L' + 3, o3) :: (sl, listOf ns.toArray ks) :: (ch, listOf (cs.map fun c => Value.ref c.t).toArray nch) :: (D, LCg.lst ys) :: (x.objsE bits wanted r lim tot ++ cs.flatMap CR.objs)))
    (hb1 : AllBare s₁.gens) (hps : TriplesOk ps.toList) (hsep : x.Sep) (hP : Pairs bits wanted x.bs cs) (hne : cs ≠ []) (hlen : cs.length ≤ 40) (ht0 : 0 ≤ tot) (ht1 : tot ≤ 100) (hn0 : 0 ≤ n) (hc : 97 ≤ c) (hc' : c ≤ 104)
    (h1 : o1.data = .cell (some (.int bits tb))) (h2 : o2.data = .cell (some (.ref D))) (h3 : o3.data = .cell v3) (hys : IntsAre ys ((placesOf c r.toNat).map fun k' => k'.fmod bits))
    (hApX : ApX L' I sl ch cs x) (hApH : ApH L' I sl ch cs) (hApI : ApI L' I sl) (hDX : ∀ b ∈ (405 : Addr) :: x.adr, @Ne Nat D b) (hDC : OffC L' [(D, LCg.lst ys)])
    (hM : MM m₁ false lim wanted r tot x.o ch tl tw tr tt) (hm8 : m₁ (Str.ofString "deed") = some (.int (n.fmod 6) td)) (hm9 : m₁ (Str.ofString "key") = some (.str (Str.mk #[c]) tk)) (hm10 : m₁ (Str.ofString "more") = some (.int (n.fdiv 48) tm)) (hm11 : m₁ (Str.ofString "inside") = some (.bool (cs.any fun x => allIn x.row ((placesOf c r.toNat).map fun k' => k'.fmod bits))))
    (hd : n.fmod 6 = 5)
    (Q : Flow → Shared → Prop) (E : Value → Shared → Prop)
    (go : ∀ (x' : OR) (ps' : Array Value) (o3' : Obj) (ch' : Addr) (nch' : Nat) (cs' : List CR) (tot' : Int) (tt' : Tok) (v3' : Option Value) (s' : Shared) (m' : Str → Option Value), s'.os = s₁.os → AllBare s'.gens → Fr g L' s'.heap m' →
      News g L' s'.heap ((I, io) :: (405, tabObj ps') :: (L' + 1, o1) :: (L' + 2, o2) :: (L' + 3, o3') :: (sl, listOf ns.toArray ks) :: (ch', listOf (cs'.map fun c => Value.ref c.t).toArray nch') :: (x'.objsE bits wanted r lim tot' ++ cs'.flatMap CR.objs)) →
      TriplesOk ps'.toList → x'.Sep → Pairs bits wanted x'.bs cs' → cs' ≠ [] → cs'.length ≤ cs.length + 1 → 0 ≤ tot' → tot' ≤ tot + 1 → o3'.data = .cell v3' → ApX L' I sl ch' cs' x' → ApH L' I sl ch' cs' → MM m' false lim wanted r tot' x'.o ch' tl tw tr tt' → Q .next s') :
    wpAny (model PySem.Challenge.rw_vo0020_01.row.prog w) (callerA.deeper (envOfC (Str.ofString "law") sc L' fa cd)) (execs bd (envOfC (Str.ofString "law") sc L' fa cd)) Q E s₁ := by
  conv at hsc => rhs; whnf
  conv at hbd => rhs; whnf
  subst hsc hbd
  obtain ⟨hm1, hm2, hm3, hm4, hm5, hm6, hm7⟩ := hM
  w_on
  revert X'
  k_fill
  intro X'
  w_top on
  have hcs : ∀ c ∈ cs, c.Ok bits.toNat := hP.okC
  have hxl : x.bs.length = cs.length := hP.length
  have hxn : x.bs ≠ [] := fun e => hne (List.length_eq_zero_iff.mp (by rw [← hxl, e]; rfl))
  have N2 : News g L' s₁.heap ((I, io) :: (405, tabObj ps) :: (L' + 1, o1) :: (L' + 2, o2) :: (L' + 3, o3) :: (sl, listOf ns.toArray ks) :: (ch, listOf (cs.map fun c => Value.ref c.t).toArray nch) :: (D, LCg.lst ys) :: (x.o, instObj 443 x.d) :: (x.d, dictOf (eDict bits wanted lim x.z tot x.l) x.n) :: (x.l, listOf (refsOf x.bs).toArray x.k) :: (blObjs bits wanted r x.bs ++ cs.flatMap CR.objs)) := N1
  clear N1
  rw [hd] at hm8
  have hxl60 : x.bs.length ≤ 60 := by omega
  have hlen50 : cs.length ≤ 50 := by omega
  have htot1 : tot ≤ tot + 1 := by omega
  iterate 71 (try walk_at "my step")
  try dsimp only
  with_reducible rename Fr _ _ _ _ => F3
  with_reducible rename News _ _ _ _ => N3
  have C3 := fun t1 t2 => c_places w c r t1 t2 hc hc' (by omega) hr2
  k_dflt (refine useCon0 (C3 _ _) rfl B' F3 X' N3 T' M' rfl (by ktr_room) (by ktr_units) hb1 ?_)
  rintro v objs' s3 hos3 hb3 F4 N4 A4 ⟨l, its, rfl, rfl, hI⟩
  simp only [List.cons_append, List.nil_append] at N4
  iterate 2 (try walk_at "my step")
  try dsimp only
  with_reducible rename Fr _ _ _ _ => F7
  with_reducible rename News _ _ _ _ => N7
  have C8 := c_hasE w bits wanted r lim tot hb hb' hr1 hr2 x hP.okB hxl60 ps hps l its (placesOf c r.toNat) its.length hI (by simp only [placesOf, List.length_map, List.length_range]; omega)
  k_dflt (refine useCon C8 rfl B' F7 X' N7 T' M' rfl ((I, io) :: (L' + 1, o1) :: (L' + 2, o2) :: (L' + 3, o3) :: (sl, listOf ns.toArray ks) :: (ch, listOf (cs.map fun c => Value.ref c.t).toArray nch) :: (D, LCg.lst ys) :: cs.flatMap CR.objs) ?_ ?_ ?_ (by ktr_room) (by ktr_units) hb3 ?_)
  · intro q hq
    simp only [OR.objsE, List.mem_cons, List.mem_append] at hq ⊢
    grind
  · intro q hq
    simp only [List.mem_cons, List.mem_append] at hq ⊢
    grind
  · intro q hq b hb9
    have hb8 : b = (l, listOf its.toArray its.length) ∨ b ∈ (405, tabObj ps) :: x.objsE bits wanted r lim tot := by
      simp only [List.mem_cons] at hb9 ⊢
      grind
    rcases hb8 with rfl | hb8
    · refine A4 q ?_ _ (.head _)
      simp only [List.mem_cons, List.mem_append] at hq ⊢
      grind
    · exact hApX.hap hDX (fun b hb => objE_adr hb) q hq b hb8
  rintro v objs' s4 hos4 hb4 F8 N8 A8 ⟨ps', hps', rfl, rfl⟩
  rw [hP.any hb (placesOf c r.toNat)]
  iterate 3 (try walk_at "my step")
  refine PySem.W.ite_neg (by simp) ?_
  iterate 6 (try walk_at "my step")
  try dsimp only
  with_reducible rename Fr _ _ _ _ => F5
  with_reducible rename News _ _ _ _ => N5
  have N6 := subN (b := (I, io) :: (405, tabObj ps') :: (L' + 1, o1) :: (L' + 2, o2) :: (L' + 3, o3) :: (sl, listOf ns.toArray ks) :: (ch, listOf (cs.map fun c => Value.ref c.t).toArray nch) :: (x.objsE bits wanted r lim tot ++ cs.flatMap CR.objs)) N5 (fun q hq => by
    simp only [OR.objsE, List.mem_cons, List.mem_append] at hq ⊢
    grind)
  refine tailE w _ (by rfl) _ (by rfl) bits wanted r lim mg mb p loose g L' fa cd _ m₁ X' T' M' B' x ps' o1 o2 o3 sl ch I io ns ks nch cs tot tl tt (by exact F5) (by exact N6) (by exact hb4) hxl hlen50 hm1 hm2 hm5 hm6 hm7 Q E ?_
  intro s9 e1 e2 F9 N9
  exact go x ps' o3 ch nch cs tot tt v3 s9 m₁ (e1.trans (hos4.trans hos3)) e2 F9 N9 hps' hsep hP hne (Nat.le_succ _) ht0 htot1 h3 hApX hApH ⟨hm1, hm2, hm3, hm4, hm5, hm6, hm7⟩
end
section
set_option maxHeartbeats 8000000 in
theorem brAltR (w : World) (sc : Scope) (hsc : sc = lawScope) (bd : List Stmt) (hbd : bd = lawLoop.drop 5) (bits wanted r lim : Int) (hb : 4 ≤ bits) (hb' : bits ≤ 19) (hw : 1 ≤ wanted) (hw' : wanted ≤ 4) (hr : ((13862943611198906 * bits).fdiv wanted + 10000000000000000).fdiv (2 * 10000000000000000) = r) (hr1 : 1 ≤ r) (hr2 : r ≤ 13) (hl : 1 ≤ lim) (hl4 : lim ≤ 4)
    (mg mb : Str → Option Value) (p : Program) (loose : List Str) (g : Heap) (L' fa : Addr) (cd : Value) (X' : (Mine.hd.heap_39 w.params).In g) (T' : TopRead p loose mg mb g) (M' : BM mg g) (B' : Below callerA g [] g)
    (s₁ : Shared) (m₁ : Str → Option Value) (x : OR) (ps : Array Value) (o1 o2 o3 : Obj) (sl ch I D : Addr) (io : Obj) (ns ys : List Value) (ks nch : Nat) (cs : List CR) (tot n : Int) (c : Nat) (tl tw tr tt tb td tk tm : Tok) (v3 : Option Value)
    (F1 : Fr g L' s₁.heap m₁) (N1 : News g L' s₁.heap ((I, io) :: (405, tabObj ps) :: (L' + 1, o1) :: (L' + 2, o2) :: (L' + 3, o3) :: (sl, listOf ns.toArray ks) :: (ch, listOf (cs.map fun c => Value.ref c.t).toArray nch) :: (D, LCg.lst ys) :: (x.objsR bits wanted r lim tot ++ cs.flatMap CR.objs)))
    (hb1 : AllBare s₁.gens) (hps : TriplesOk ps.toList) (hsep : x.Sep) (hP : Pairs bits wanted x.bs cs) (hne : cs ≠ []) (hlen : cs.length ≤ 40) (ht0 : 0 ≤ tot) (ht1 : tot ≤ 100) (hn0 : 0 ≤ n) (hc : 97 ≤ c) (hc' : c ≤ 104)
    (h1 : o1.data = .cell (some (.int bits tb))) (h2 : o2.data = .cell (some (.ref D))) (h3 : o3.data = .cell v3) (hys : IntsAre ys ((placesOf c r.toNat).map fun k' => k'.fmod bits))
    (hApX : ApX L' I sl ch cs x) (hApH : ApH L' I sl ch cs) (hApI : ApI L' I sl) (hDX : ∀ b ∈ (405 : Addr) :: x.adr, @Ne Nat D b) (hDC : OffC L' [(D, LCg.lst ys)])
    (hM : MM m₁ true lim wanted r tot x.o ch tl tw tr tt) (hm8 : m₁ (Str.ofString "deed") = some (.int (n.fmod 6) td)) (hm9 : m₁ (Str.ofString "key") = some (.str (Str.mk #[c]) tk)) (hm10 : m₁ (Str.ofString "more") = some (.int (n.fdiv 48) tm)) (hm11 : m₁ (Str.ofString "inside") = some (.bool (cs.any fun x => allIn x.row ((placesOf c r.toNat).map fun k' => k'.fmod bits))))
    (hd : n.fmod 6 = 5) (hmo : (n.fdiv 48).fmod 2 ≠ 0)
    (Q : Flow → Shared → Prop) (E : Value → Shared → Prop)
    (go : ∀ (x' : OR) (ps' : Array Value) (o3' : Obj) (ch' : Addr) (nch' : Nat) (cs' : List CR) (tot' : Int) (tt' : Tok) (v3' : Option Value) (s' : Shared) (m' : Str → Option Value), s'.os = s₁.os → AllBare s'.gens → Fr g L' s'.heap m' →
      News g L' s'.heap ((I, io) :: (405, tabObj ps') :: (L' + 1, o1) :: (L' + 2, o2) :: (L' + 3, o3') :: (sl, listOf ns.toArray ks) :: (ch', listOf (cs'.map fun c => Value.ref c.t).toArray nch') :: (x'.objsR bits wanted r lim tot' ++ cs'.flatMap CR.objs)) →
      TriplesOk ps'.toList → x'.Sep → Pairs bits wanted x'.bs cs' → cs' ≠ [] → cs'.length ≤ cs.length + 1 → 0 ≤ tot' → tot' ≤ tot + 1 → o3'.data = .cell v3' → ApX L' I sl ch' cs' x' → ApH L' I sl ch' cs' → MM m' true lim wanted r tot' x'.o ch' tl tw tr tt' → Q .next s') :
    wpAny (model PySem.Challenge.rw_vo0020_01.row.prog w) (callerA.deeper (envOfC (Str.ofString "law") sc L' fa cd)) (execs bd (envOfC (Str.ofString "law") sc L' fa cd)) Q E s₁ := by
  conv at hsc => rhs; whnf
  conv at hbd => rhs; whnf
  subst hsc hbd
  obtain ⟨hm1, hm2, hm3, hm4, hm5, hm6, hm7⟩ := hM
  w_on
  revert X'
  k_fill
  intro X'
  w_top on
  have hcs : ∀ c ∈ cs, c.Ok bits.toNat := hP.okC
  have hxl : x.bs.length = cs.length := hP.length
  have hxn : x.bs ≠ [] := fun e => hne (List.length_eq_zero_iff.mp (by rw [← hxl, e]; rfl))
  have N2 : News g L' s₁.heap ((I, io) :: (405, tabObj ps) :: (L' + 1, o1) :: (L' + 2, o2) :: (L' + 3, o3) :: (sl, listOf ns.toArray ks) :: (ch, listOf (cs.map fun c => Value.ref c.t).toArray nch) :: (D, LCg.lst ys) :: (x.o, instObj 520 x.d) :: (x.d, dictOf (rDict bits wanted lim x.z tot x.l) x.n) :: (x.l, listOf (refsOf x.bs).toArray x.k) :: (blObjs bits wanted r x.bs ++ cs.flatMap CR.objs)) := N1
  clear N1
  rw [hd] at hm8
  have hxl60 : x.bs.length ≤ 60 := by omega
  have hlen50 : cs.length ≤ 50 := by omega
  have htot1 : tot ≤ tot + 1 := by omega
  iterate 43 (try walk_at "my step")
  refine PySem.W.ite_neg (by simp [hmo]) ?_
  iterate 37 (try walk_at "my step")
  try dsimp only
  with_reducible rename Fr _ _ _ _ => F3
  with_reducible rename News _ _ _ _ => N3
  have C3 := fun t1 t2 => c_places w c r t1 t2 hc hc' (by omega) hr2
  k_dflt (refine useCon0 (C3 _ _) rfl B' F3 X' N3 T' M' rfl (by ktr_room) (by ktr_units) hb1 ?_)
  rintro v objs' s3 hos3 hb3 F4 N4 A4 ⟨l, its, rfl, rfl, hI⟩
  simp only [List.cons_append, List.nil_append] at N4
  iterate 2 (try walk_at "my step")
  try dsimp only
  with_reducible rename Fr _ _ _ _ => F7
  with_reducible rename News _ _ _ _ => N7
  have C8 := c_hasR w bits wanted r lim tot hb hb' hr1 hr2 x hP.okB hxl60 ps hps l its (placesOf c r.toNat) its.length hI (by simp only [placesOf, List.length_map, List.length_range]; omega)
  k_dflt (refine useCon C8 rfl B' F7 X' N7 T' M' rfl ((I, io) :: (L' + 1, o1) :: (L' + 2, o2) :: (L' + 3, o3) :: (sl, listOf ns.toArray ks) :: (ch, listOf (cs.map fun c => Value.ref c.t).toArray nch) :: (D, LCg.lst ys) :: cs.flatMap CR.objs) ?_ ?_ ?_ (by ktr_room) (by ktr_units) hb3 ?_)
  · intro q hq
    simp only [OR.objsR, List.mem_cons, List.mem_append] at hq ⊢
    grind
  · intro q hq
    simp only [List.mem_cons, List.mem_append] at hq ⊢
    grind
  · intro q hq b hb9
    have hb8 : b = (l, listOf its.toArray its.length) ∨ b ∈ (405, tabObj ps) :: x.objsR bits wanted r lim tot := by
      simp only [List.mem_cons] at hb9 ⊢
      grind
    rcases hb8 with rfl | hb8
    · refine A4 q ?_ _ (.head _)
      simp only [List.mem_cons, List.mem_append] at hq ⊢
      grind
    · exact hApX.hap hDX (fun b hb => objR_adr hb) q hq b hb8
  rintro v objs' s4 hos4 hb4 F8 N8 A8 ⟨ps', hps', rfl, rfl⟩
  rw [hP.any hb (placesOf c r.toNat)]
  iterate 3 (try walk_at "my step")
  refine PySem.W.ite_neg (by simp) ?_
  iterate 6 (try walk_at "my step")
  try dsimp only
  with_reducible rename Fr _ _ _ _ => F5
  with_reducible rename News _ _ _ _ => N5
  have N6 := subN (b := (I, io) :: (405, tabObj ps') :: (L' + 1, o1) :: (L' + 2, o2) :: (L' + 3, o3) :: (sl, listOf ns.toArray ks) :: (ch, listOf (cs.map fun c => Value.ref c.t).toArray nch) :: (x.objsR bits wanted r lim tot ++ cs.flatMap CR.objs)) N5 (fun q hq => by
    simp only [OR.objsR, List.mem_cons, List.mem_append] at hq ⊢
    grind)
  refine tailR w _ (by rfl) _ (by rfl) bits wanted r lim mg mb p loose g L' fa cd _ m₁ X' T' M' B' x ps' o1 o2 o3 sl ch I io ns ks nch cs tot tl tt (by exact F5) (by exact N6) (by exact hb4) hxl hlen50 hm1 hm2 hm5 hm6 hm7 Q E ?_
  intro s9 e1 e2 F9 N9
  exact go x ps' o3 ch nch cs tot tt v3 s9 m₁ (e1.trans (hos4.trans hos3)) e2 F9 N9 hps' hsep hP hne (Nat.le_succ _) ht0 htot1 h3 hApX hApH ⟨hm1, hm2, hm3, hm4, hm5, hm6, hm7⟩
end
section
set_option maxHeartbeats 8000000 in
theorem brAskE (w : World) (sc : Scope) (hsc : sc = lawScope) (bd : List Stmt) (hbd : bd = lawLoop.drop 5) (bits wanted r lim : Int) (hb : 4 ≤ bits) (hb' : bits ≤ 19) (hw : 1 ≤ wanted) (hw' : wanted ≤ 4) (hr : ((13862943611198906 * bits).fdiv wanted + 10000000000000000).fdiv (2 * 10000000000000000) = r) (hr1 : 1 ≤ r) (hr2 : r ≤ 13) (hl : lim = 0)
    (mg mb : Str → Option Value) (p : Program) (loose : List Str) (g : Heap) (L' fa : Addr) (cd : Value) (X' : (Mine.hd.heap_39 w.params).In g) (T' : TopRead p loose mg mb g) (M' : BM mg g) (B' : Below callerA g [] g)
    (s₁ : Shared) (m₁ : Str → Option Value) (x : OR) (ps : Array Value) (o1 o2 o3 : Obj) (sl ch I D : Addr) (io : Obj) (ns ys : List Value) (ks nch : Nat) (cs : List CR) (tot n : Int) (c : Nat) (tl tw tr tt tb td tk tm : Tok) (v3 : Option Value)
    (F1 : Fr g L' s₁.heap m₁) (N1 : News g L' s₁.heap ((I, io) :: (405, tabObj ps) :: (L' + 1, o1) :: (L' + 2, o2) :: (L' + 3, o3) :: (sl, listOf ns.toArray ks) :: (ch, listOf (cs.map fun c => Value.ref c.t).toArray nch) :: (D, LCg.lst ys) :: (x.objsE bits wanted r lim tot ++ cs.flatMap CR.objs)))
    (hb1 : AllBare s₁.gens) (hps : TriplesOk ps.toList) (hsep : x.Sep) (hP : Pairs bits wanted x.bs cs) (hne : cs ≠ []) (hlen : cs.length ≤ 40) (ht0 : 0 ≤ tot) (ht1 : tot ≤ 100) (hn0 : 0 ≤ n) (hc : 97 ≤ c) (hc' : c ≤ 104)
    (h1 : o1.data = .cell (some (.int bits tb))) (h2 : o2.data = .cell (some (.ref D))) (h3 : o3.data = .cell v3) (hys : IntsAre ys ((placesOf c r.toNat).map fun k' => k'.fmod bits))
    (hApX : ApX L' I sl ch cs x) (hApH : ApH L' I sl ch cs) (hApI : ApI L' I sl) (hDX : ∀ b ∈ (405 : Addr) :: x.adr, @Ne Nat D b) (hDC : OffC L' [(D, LCg.lst ys)])
    (hM : MM m₁ false lim wanted r tot x.o ch tl tw tr tt) (hm8 : m₁ (Str.ofString "deed") = some (.int (n.fmod 6) td)) (hm9 : m₁ (Str.ofString "key") = some (.str (Str.mk #[c]) tk)) (hm10 : m₁ (Str.ofString "more") = some (.int (n.fdiv 48) tm)) (hm11 : m₁ (Str.ofString "inside") = some (.bool (cs.any fun x => allIn x.row ((placesOf c r.toNat).map fun k' => k'.fmod bits))))
    (hd : n.fmod 6 = 3)
    (Q : Flow → Shared → Prop) (E : Value → Shared → Prop)
    (go : ∀ (x' : OR) (ps' : Array Value) (o3' : Obj) (ch' : Addr) (nch' : Nat) (cs' : List CR) (tot' : Int) (tt' : Tok) (v3' : Option Value) (s' : Shared) (m' : Str → Option Value), s'.os = s₁.os → AllBare s'.gens → Fr g L' s'.heap m' →
      News g L' s'.heap ((I, io) :: (405, tabObj ps') :: (L' + 1, o1) :: (L' + 2, o2) :: (L' + 3, o3') :: (sl, listOf ns.toArray ks) :: (ch', listOf (cs'.map fun c => Value.ref c.t).toArray nch') :: (x'.objsE bits wanted r lim tot' ++ cs'.flatMap CR.objs)) →
      TriplesOk ps'.toList → x'.Sep → Pairs bits wanted x'.bs cs' → cs' ≠ [] → cs'.length ≤ cs.length + 1 → 0 ≤ tot' → tot' ≤ tot + 1 → o3'.data = .cell v3' → ApX L' I sl ch' cs' x' → ApH L' I sl ch' cs' → MM m' false lim wanted r tot' x'.o ch' tl tw tr tt' → Q .next s') :
    wpAny (model PySem.Challenge.rw_vo0020_01.row.prog w) (callerA.deeper (envOfC (Str.ofString "law") sc L' fa cd)) (execs bd (envOfC (Str.ofString "law") sc L' fa cd)) Q E s₁ := by
  conv at hsc => rhs; whnf
  conv at hbd => rhs; whnf
  subst hsc hbd
  obtain ⟨hm1, hm2, hm3, hm4, hm5, hm6, hm7⟩ := hM
  w_on
  revert X'
  k_fill
  intro X'
  w_top on
  have hcs : ∀ c ∈ cs, c.Ok bits.toNat := hP.okC
  have hxl : x.bs.length = cs.length := hP.length
  have hxn : x.bs ≠ [] := fun e => hne (List.length_eq_zero_iff.mp (by rw [← hxl, e]; rfl))
  have N2 : News g L' s₁.heap ((I, io) :: (405, tabObj ps) :: (L' + 1, o1) :: (L' + 2, o2) :: (L' + 3, o3) :: (sl, listOf ns.toArray ks) :: (ch, listOf (cs.map fun c => Value.ref c.t).toArray nch) :: (D, LCg.lst ys) :: (x.o, instObj 443 x.d) :: (x.d, dictOf (eDict bits wanted lim x.z tot x.l) x.n) :: (x.l, listOf (refsOf x.bs).toArray x.k) :: (blObjs bits wanted r x.bs ++ cs.flatMap CR.objs)) := N1
  clear N1
  rw [hd] at hm8
  have hxl60 : x.bs.length ≤ 60 := by omega
  have hlen50 : cs.length ≤ 50 := by omega
  have htot1 : tot ≤ tot + 1 := by omega
  iterate 51 (try walk_at "my step")
  try dsimp only
  with_reducible rename Fr _ _ _ _ => F3
  with_reducible rename News _ _ _ _ => N3
  have C3 := fun t1 => c_askE w bits wanted r lim tot hb hb' hr1 hr2 x hP.okB hxl60 hxn ps hps c t1 hc hc'
  k_dflt (refine useCon (C3 _) rfl B' F3 X' N3 T' M' rfl ((I, io) :: (L' + 1, o1) :: (L' + 2, o2) :: (L' + 3, o3) :: (sl, listOf ns.toArray ks) :: (ch, listOf (cs.map fun c => Value.ref c.t).toArray nch) :: (D, LCg.lst ys) :: cs.flatMap CR.objs) ?_ ?_ (hApX.hap hDX fun b hb => objE_adr hb) (by ktr_room) (by ktr_units) hb1 ?_)
  · intro q hq
    simp only [OR.objsE, List.mem_cons, List.mem_append] at hq ⊢
    grind
  · intro q hq
    simp only [List.mem_cons, List.mem_append] at hq ⊢
    grind
  rintro v objs' s3 hos3 hb3 F4 N4 A4 ⟨ps', hps', rfl, rfl⟩
  rw [hP.any hb (placesOf c r.toNat)]
  iterate 3 (try walk_at "my step")
  refine PySem.W.ite_neg (by simp) ?_
  iterate 5 (try walk_at "my step")
  try dsimp only
  with_reducible rename Fr _ _ _ _ => F5
  with_reducible rename News _ _ _ _ => N5
  have N6 := subN (b := (I, io) :: (405, tabObj ps') :: (L' + 1, o1) :: (L' + 2, o2) :: (L' + 3, o3) :: (sl, listOf ns.toArray ks) :: (ch, listOf (cs.map fun c => Value.ref c.t).toArray nch) :: (x.objsE bits wanted r lim tot ++ cs.flatMap CR.objs)) N5 (fun q hq => by
    simp only [OR.objsE, List.mem_cons, List.mem_append] at hq ⊢
    grind)
  refine tailE w _ (by rfl) _ (by rfl) bits wanted r lim mg mb p loose g L' fa cd _ m₁ X' T' M' B' x ps' o1 o2 o3 sl ch I io ns ks nch cs tot tl tt (by exact F5) (by exact N6) (by exact hb3) hxl hlen50 hm1 hm2 hm5 hm6 hm7 Q E ?_
  intro s9 e1 e2 F9 N9
  exact go x ps' o3 ch nch cs tot tt v3 s9 m₁ (e1.trans hos3) e2 F9 N9 hps' hsep hP hne (Nat.le_succ _) ht0 htot1 h3 hApX hApH ⟨hm1, hm2, hm3, hm4, hm5, hm6, hm7⟩
end
section
set_option maxHeartbeats 8000000 in
theorem brAskR (w : World) (sc : Scope) (hsc : sc = lawScope) (bd : List Stmt) (hbd : bd = lawLoop.drop 5) (bits wanted r lim : Int) (hb : 4 ≤ bits) (hb' : bits ≤ 19) (hw : 1 ≤ wanted) (hw' : wanted ≤ 4) (hr : ((13862943611198906 * bits).fdiv wanted + 10000000000000000).fdiv (2 * 10000000000000000) = r) (hr1 : 1 ≤ r) (hr2 : r ≤ 13) (hl : 1 ≤ lim) (hl4 : lim ≤ 4)
    (mg mb : Str → Option Value) (p : Program) (loose : List Str) (g : Heap) (L' fa : Addr) (cd : Value) (X' : (Mine.hd.heap_39 w.params).In g) (T' : TopRead p loose mg mb g) (M' : BM mg g) (B' : Below callerA g [] g)
    (s₁ : Shared) (m₁ : Str → Option Value) (x : OR) (ps : Array Value) (o1 o2 o3 : Obj) (sl ch I D : Addr) (io : Obj) (ns ys : List Value) (ks nch : Nat) (cs : List CR) (tot n : Int) (c : Nat) (tl tw tr tt tb td tk tm : Tok) (v3 : Option Value)
    (F1 : Fr g L' s₁.heap m₁) (N1 : News g L' s₁.heap ((I, io) :: (405, tabObj ps) :: (L' + 1, o1) :: (L' + 2, o2) :: (L' + 3, o3) :: (sl, listOf ns.toArray ks) :: (ch, listOf (cs.map fun c => Value.ref c.t).toArray nch) :: (D, LCg.lst ys) :: (x.objsR bits wanted r lim tot ++ cs.flatMap CR.objs)))
    (hb1 : AllBare s₁.gens) (hps : TriplesOk ps.toList) (hsep : x.Sep) (hP : Pairs bits wanted x.bs cs) (hne : cs ≠ []) (hlen : cs.length ≤ 40) (ht0 : 0 ≤ tot) (ht1 : tot ≤ 100) (hn0 : 0 ≤ n) (hc : 97 ≤ c) (hc' : c ≤ 104)
    (h1 : o1.data = .cell (some (.int bits tb))) (h2 : o2.data = .cell (some (.ref D))) (h3 : o3.data = .cell v3) (hys : IntsAre ys ((placesOf c r.toNat).map fun k' => k'.fmod bits))
    (hApX : ApX L' I sl ch cs x) (hApH : ApH L' I sl ch cs) (hApI : ApI L' I sl) (hDX : ∀ b ∈ (405 : Addr) :: x.adr, @Ne Nat D b) (hDC : OffC L' [(D, LCg.lst ys)])
    (hM : MM m₁ true lim wanted r tot x.o ch tl tw tr tt) (hm8 : m₁ (Str.ofString "deed") = some (.int (n.fmod 6) td)) (hm9 : m₁ (Str.ofString "key") = some (.str (Str.mk #[c]) tk)) (hm10 : m₁ (Str.ofString "more") = some (.int (n.fdiv 48) tm)) (hm11 : m₁ (Str.ofString "inside") = some (.bool (cs.any fun x => allIn x.row ((placesOf c r.toNat).map fun k' => k'.fmod bits))))
    (hd : n.fmod 6 = 3)
    (Q : Flow → Shared → Prop) (E : Value → Shared → Prop)
    (go : ∀ (x' : OR) (ps' : Array Value) (o3' : Obj) (ch' : Addr) (nch' : Nat) (cs' : List CR) (tot' : Int) (tt' : Tok) (v3' : Option Value) (s' : Shared) (m' : Str → Option Value), s'.os = s₁.os → AllBare s'.gens → Fr g L' s'.heap m' →
      News g L' s'.heap ((I, io) :: (405, tabObj ps') :: (L' + 1, o1) :: (L' + 2, o2) :: (L' + 3, o3') :: (sl, listOf ns.toArray ks) :: (ch', listOf (cs'.map fun c => Value.ref c.t).toArray nch') :: (x'.objsR bits wanted r lim tot' ++ cs'.flatMap CR.objs)) →
      TriplesOk ps'.toList → x'.Sep → Pairs bits wanted x'.bs cs' → cs' ≠ [] → cs'.length ≤ cs.length + 1 → 0 ≤ tot' → tot' ≤ tot + 1 → o3'.data = .cell v3' → ApX L' I sl ch' cs' x' → ApH L' I sl ch' cs' → MM m' true lim wanted r tot' x'.o ch' tl tw tr tt' → Q .next s') :
    wpAny (model PySem.Challenge.rw_vo0020_01.row.prog w) (callerA.deeper (envOfC (Str.ofString "law") sc L' fa cd)) (execs bd (envOfC (Str.ofString "law") sc L' fa cd)) Q E s₁ := by
  conv at hsc => rhs; whnf
  conv at hbd => rhs; whnf
  subst hsc hbd
  obtain ⟨hm1, hm2, hm3, hm4, hm5, hm6, hm7⟩ := hM
  w_on
  revert X'
  k_fill
  intro X'
  w_top on
  have hcs : ∀ c ∈ cs, c.Ok bits.toNat := hP.okC
  have hxl : x.bs.length = cs.length := hP.length
  have hxn : x.bs ≠ [] := fun e => hne (List.length_eq_zero_iff.mp (by rw [← hxl, e]; rfl))
  have N2 : News g L' s₁.heap ((I, io) :: (405, tabObj ps) :: (L' + 1, o1) :: (L' + 2, o2) :: (L' + 3, o3) :: (sl, listOf ns.toArray ks) :: (ch, listOf (cs.map fun c => Value.ref c.t).toArray nch) :: (D, LCg.lst ys) :: (x.o, instObj 520 x.d) :: (x.d, dictOf (rDict bits wanted lim x.z tot x.l) x.n) :: (x.l, listOf (refsOf x.bs).toArray x.k) :: (blObjs bits wanted r x.bs ++ cs.flatMap CR.objs)) := N1
  clear N1
  rw [hd] at hm8
  have hxl60 : x.bs.length ≤ 60 := by omega
  have hlen50 : cs.length ≤ 50 := by omega
  have htot1 : tot ≤ tot + 1 := by omega
  iterate 51 (try walk_at "my step")
  try dsimp only
  with_reducible rename Fr _ _ _ _ => F3
  with_reducible rename News _ _ _ _ => N3
  have C3 := fun t1 => c_askR w bits wanted r lim tot hb hb' hr1 hr2 x hP.okB hxl60 hxn ps hps c t1 hc hc'
  k_dflt (refine useCon (C3 _) rfl B' F3 X' N3 T' M' rfl ((I, io) :: (L' + 1, o1) :: (L' + 2, o2) :: (L' + 3, o3) :: (sl, listOf ns.toArray ks) :: (ch, listOf (cs.map fun c => Value.ref c.t).toArray nch) :: (D, LCg.lst ys) :: cs.flatMap CR.objs) ?_ ?_ (hApX.hap hDX fun b hb => objR_adr hb) (by ktr_room) (by ktr_units) hb1 ?_)
  · intro q hq
    simp only [OR.objsR, List.mem_cons, List.mem_append] at hq ⊢
    grind
  · intro q hq
    simp only [List.mem_cons, List.mem_append] at hq ⊢
    grind
  rintro v objs' s3 hos3 hb3 F4 N4 A4 ⟨ps', hps', rfl, rfl⟩
  rw [hP.any hb (placesOf c r.toNat)]
  iterate 3 (try walk_at "my step")
  refine PySem.W.ite_neg (by simp) ?_
  iterate 5 (try walk_at "my step")
  try dsimp only
  with_reducible rename Fr _ _ _ _ => F5
  with_reducible rename News _ _ _ _ => N5
  have N6 := subN (b := (I, io) :: (405, tabObj ps') :: (L' + 1, o1) :: (L' + 2, o2) :: (L' + 3, o3) :: (sl, listOf ns.toArray ks) :: (ch, listOf (cs.map fun c => Value.ref c.t).toArray nch) :: (x.objsR bits wanted r lim tot ++ cs.flatMap CR.objs)) N5 (fun q hq => by
    simp only [OR.objsR, List.mem_cons, List.mem_append] at hq ⊢
    grind)
  refine tailR w _ (by rfl) _ (by rfl) bits wanted r lim mg mb p loose g L' fa cd _ m₁ X' T' M' B' x ps' o1 o2 o3 sl ch I io ns ks nch cs tot tl tt (by exact F5) (by exact N6) (by exact hb3) hxl hlen50 hm1 hm2 hm5 hm6 hm7 Q E ?_
  intro s9 e1 e2 F9 N9
  exact go x ps' o3 ch nch cs tot tt v3 s9 m₁ (e1.trans hos3) e2 F9 N9 hps' hsep hP hne (Nat.le_succ _) ht0 htot1 h3 hApX hApH ⟨hm1, hm2, hm3, hm4, hm5, hm6, hm7⟩
end
section
set_option maxHeartbeats 8000000 in
theorem brInE (w : World) (sc : Scope) (hsc : sc = lawScope) (bd : List Stmt) (hbd : bd = lawLoop.drop 5) (bits wanted r lim : Int) (hb : 4 ≤ bits) (hb' : bits ≤ 19) (hw : 1 ≤ wanted) (hw' : wanted ≤ 4) (hr : ((13862943611198906 * bits).fdiv wanted + 10000000000000000).fdiv (2 * 10000000000000000) = r) (hr1 : 1 ≤ r) (hr2 : r ≤ 13) (hl : lim = 0)
    (mg mb : Str → Option Value) (p : Program) (loose : List Str) (g : Heap) (L' fa : Addr) (cd : Value) (X' : (Mine.hd.heap_39 w.params).In g) (T' : TopRead p loose mg mb g) (M' : BM mg g) (B' : Below callerA g [] g)
    (s₁ : Shared) (m₁ : Str → Option Value) (x : OR) (ps : Array Value) (o1 o2 o3 : Obj) (sl ch I D : Addr) (io : Obj) (ns ys : List Value) (ks nch : Nat) (cs : List CR) (tot n : Int) (c : Nat) (tl tw tr tt tb td tk tm : Tok) (v3 : Option Value)
    (F1 : Fr g L' s₁.heap m₁) (N1 : News g L' s₁.heap ((I, io) :: (405, tabObj ps) :: (L' + 1, o1) :: (L' + 2, o2) :: (L' + 3, o3) :: (sl, listOf ns.toArray ks) :: (ch, listOf (cs.map fun c => Value.ref c.t).toArray nch) :: (D, LCg.lst ys) :: (x.objsE bits wanted r lim tot ++ cs.flatMap CR.objs)))
    (hb1 : AllBare s₁.gens) (hps : TriplesOk ps.toList) (hsep : x.Sep) (hP : Pairs bits wanted x.bs cs) (hne : cs ≠ []) (hlen : cs.length ≤ 40) (ht0 : 0 ≤ tot) (ht1 : tot ≤ 100) (hn0 : 0 ≤ n) (hc : 97 ≤ c) (hc' : c ≤ 104)
    (h1 : o1.data = .cell (some (.int bits tb))) (h2 : o2.data = .cell (some (.ref D))) (h3 : o3.data = .cell v3) (hys : IntsAre ys ((placesOf c r.toNat).map fun k' => k'.fmod bits))
    (hApX : ApX L' I sl ch cs x) (hApH : ApH L' I sl ch cs) (hApI : ApI L' I sl) (hDX : ∀ b ∈ (405 : Addr) :: x.adr, @Ne Nat D b) (hDC : OffC L' [(D, LCg.lst ys)])
    (hM : MM m₁ false lim wanted r tot x.o ch tl tw tr tt) (hm8 : m₁ (Str.ofString "deed") = some (.int (n.fmod 6) td)) (hm9 : m₁ (Str.ofString "key") = some (.str (Str.mk #[c]) tk)) (hm10 : m₁ (Str.ofString "more") = some (.int (n.fdiv 48) tm)) (hm11 : m₁ (Str.ofString "inside") = some (.bool (cs.any fun x => allIn x.row ((placesOf c r.toNat).map fun k' => k'.fmod bits))))
    (hd : n.fmod 6 = 4) (hmo : (n.fdiv 48).fmod 3 ≠ 0)
    (Q : Flow → Shared → Prop) (E : Value → Shared → Prop)
    (go : ∀ (x' : OR) (ps' : Array Value) (o3' : Obj) (ch' : Addr) (nch' : Nat) (cs' : List CR) (tot' : Int) (tt' : Tok) (v3' : Option Value) (s' : Shared) (m' : Str → Option Value), s'.os = s₁.os → AllBare s'.gens → Fr g L' s'.heap m' →
      News g L' s'.heap ((I, io) :: (405, tabObj ps') :: (L' + 1, o1) :: (L' + 2, o2) :: (L' + 3, o3') :: (sl, listOf ns.toArray ks) :: (ch', listOf (cs'.map fun c => Value.ref c.t).toArray nch') :: (x'.objsE bits wanted r lim tot' ++ cs'.flatMap CR.objs)) →
      TriplesOk ps'.toList → x'.Sep → Pairs bits wanted x'.bs cs' → cs' ≠ [] → cs'.length ≤ cs.length + 1 → 0 ≤ tot' → tot' ≤ tot + 1 → o3'.data = .cell v3' → ApX L' I sl ch' cs' x' → ApH L' I sl ch' cs' → MM m' false lim wanted r tot' x'.o ch' tl tw tr tt' → Q .next s') :
    wpAny (model PySem.Challenge.rw_vo0020_01.row.prog w) (callerA.deeper (envOfC (Str.ofString "law") sc L' fa cd)) (execs bd (envOfC (Str.ofString "law") sc L' fa cd)) Q E s₁ := by
  conv at hsc => rhs; whnf
  conv at hbd => rhs; whnf
  subst hsc hbd
  obtain ⟨hm1, hm2, hm3, hm4, hm5, hm6, hm7⟩ := hM
  w_on
  revert X'
  k_fill
  intro X'
  w_top on
  have hcs : ∀ c ∈ cs, c.Ok bits.toNat := hP.okC
  have hxl : x.bs.length = cs.length := hP.length
  have hxn : x.bs ≠ [] := fun e => hne (List.length_eq_zero_iff.mp (by rw [← hxl, e]; rfl))
  have N2 : News g L' s₁.heap ((I, io) :: (405, tabObj ps) :: (L' + 1, o1) :: (L' + 2, o2) :: (L' + 3, o3) :: (sl, listOf ns.toArray ks) :: (ch, listOf (cs.map fun c => Value.ref c.t).toArray nch) :: (D, LCg.lst ys) :: (x.o, instObj 443 x.d) :: (x.d, dictOf (eDict bits wanted lim x.z tot x.l) x.n) :: (x.l, listOf (refsOf x.bs).toArray x.k) :: (blObjs bits wanted r x.bs ++ cs.flatMap CR.objs)) := N1
  clear N1
  rw [hd] at hm8
  have hxl60 : x.bs.length ≤ 60 := by omega
  have hlen50 : cs.length ≤ 50 := by omega
  have htot1 : tot ≤ tot + 1 := by omega
  iterate 27 (try walk_at "my step")
  refine PySem.W.ite_neg (by simp [hmo]) ?_
  iterate 38 (try walk_at "my step")
  try dsimp only
  with_reducible rename Fr _ _ _ _ => F3
  with_reducible rename News _ _ _ _ => N3
  have C3 := fun t1 => c_inE w bits wanted r lim tot hb hb' hr1 hr2 x hP.okB hxl60 hxn ps hps c t1 hc hc'
  k_dflt (refine useCon (C3 _) rfl B' F3 X' N3 T' M' rfl ((I, io) :: (L' + 1, o1) :: (L' + 2, o2) :: (L' + 3, o3) :: (sl, listOf ns.toArray ks) :: (ch, listOf (cs.map fun c => Value.ref c.t).toArray nch) :: (D, LCg.lst ys) :: cs.flatMap CR.objs) ?_ ?_ (hApX.hap hDX fun b hb => objE_adr hb) (by ktr_room) (by ktr_units) hb1 ?_)
  · intro q hq
    simp only [OR.objsE, List.mem_cons, List.mem_append] at hq ⊢
    grind
  · intro q hq
    simp only [List.mem_cons, List.mem_append] at hq ⊢
    grind
  rintro v objs' s3 hos3 hb3 F4 N4 A4 ⟨ps', hps', rfl, rfl⟩
  rw [hP.any hb (placesOf c r.toNat)]
  iterate 4 (try walk_at "my step")
  refine PySem.W.ite_neg (by simp) ?_
  iterate 6 (try walk_at "my step")
  try dsimp only
  with_reducible rename Fr _ _ _ _ => F5
  with_reducible rename News _ _ _ _ => N5
  have N6 := subN (b := (I, io) :: (405, tabObj ps') :: (L' + 1, o1) :: (L' + 2, o2) :: (L' + 3, o3) :: (sl, listOf ns.toArray ks) :: (ch, listOf (cs.map fun c => Value.ref c.t).toArray nch) :: (x.objsE bits wanted r lim tot ++ cs.flatMap CR.objs)) N5 (fun q hq => by
    simp only [OR.objsE, List.mem_cons, List.mem_append] at hq ⊢
    grind)
  refine tailE w _ (by rfl) _ (by rfl) bits wanted r lim mg mb p loose g L' fa cd _ m₁ X' T' M' B' x ps' o1 o2 o3 sl ch I io ns ks nch cs tot tl tt (by exact F5) (by exact N6) (by exact hb3) hxl hlen50 hm1 hm2 hm5 hm6 hm7 Q E ?_
  intro s9 e1 e2 F9 N9
  exact go x ps' o3 ch nch cs tot tt v3 s9 m₁ (e1.trans hos3) e2 F9 N9 hps' hsep hP hne (Nat.le_succ _) ht0 htot1 h3 hApX hApH ⟨hm1, hm2, hm3, hm4, hm5, hm6, hm7⟩
end
section
set_option maxHeartbeats 8000000 in
theorem brInR (w : World) (sc : Scope) (hsc : sc = lawScope) (bd : List Stmt) (hbd : bd = lawLoop.drop 5) (bits wanted r lim : Int) (hb : 4 ≤ bits) (hb' : bits ≤ 19) (hw : 1 ≤ wanted) (hw' : wanted ≤ 4) (hr : ((13862943611198906 * bits).fdiv wanted + 10000000000000000).fdiv (2 * 10000000000000000) = r) (hr1 : 1 ≤ r) (hr2 : r ≤ 13) (hl : 1 ≤ lim) (hl4 : lim ≤ 4)
    (mg mb : Str → Option Value) (p : Program) (loose : List Str) (g : Heap) (L' fa : Addr) (cd : Value) (X' : (Mine.hd.heap_39 w.params).In g) (T' : TopRead p loose mg mb g) (M' : BM mg g) (B' : Below callerA g [] g)
    (s₁ : Shared) (m₁ : Str → Option Value) (x : OR) (ps : Array Value) (o1 o2 o3 : Obj) (sl ch I D : Addr) (io : Obj) (ns ys : List Value) (ks nch : Nat) (cs : List CR) (tot n : Int) (c : Nat) (tl tw tr tt tb td tk tm : Tok) (v3 : Option Value)
    (F1 : Fr g L' s₁.heap m₁) (N1 : News g L' s₁.heap ((I, io) :: (405, tabObj ps) :: (L' + 1, o1) :: (L' + 2, o2) :: (L' + 3, o3) :: (sl, listOf ns.toArray ks) :: (ch, listOf (cs.map fun c => Value.ref c.t).toArray nch) :: (D, LCg.lst ys) :: (x.objsR bits wanted r lim tot ++ cs.flatMap CR.objs)))
    (hb1 : AllBare s₁.gens) (hps : TriplesOk ps.toList) (hsep : x.Sep) (hP : Pairs bits wanted x.bs cs) (hne : cs ≠ []) (hlen : cs.length ≤ 40) (ht0 : 0 ≤ tot) (ht1 : tot ≤ 100) (hn0 : 0 ≤ n) (hc : 97 ≤ c) (hc' : c ≤ 104)
    (h1 : o1.data = .cell (some (.int bits tb))) (h2 : o2.data = .cell (some (.ref D))) (h3 : o3.data = .cell v3) (hys : IntsAre ys ((placesOf c r.toNat).map fun k' => k'.fmod bits))
    (hApX : ApX L' I sl ch cs x) (hApH : ApH L' I sl ch cs) (hApI : ApI L' I sl) (hDX : ∀ b ∈ (405 : Addr) :: x.adr, @Ne Nat D b) (hDC : OffC L' [(D, LCg.lst ys)])
    (hM : MM m₁ true lim wanted r tot x.o ch tl tw tr tt) (hm8 : m₁ (Str.ofString "deed") = some (.int (n.fmod 6) td)) (hm9 : m₁ (Str.ofString "key") = some (.str (Str.mk #[c]) tk)) (hm10 : m₁ (Str.ofString "more") = some (.int (n.fdiv 48) tm)) (hm11 : m₁ (Str.ofString "inside") = some (.bool (cs.any fun x => allIn x.row ((placesOf c r.toNat).map fun k' => k'.fmod bits))))
    (hd : n.fmod 6 = 4) (hmo : (n.fdiv 48).fmod 3 ≠ 0)
    (Q : Flow → Shared → Prop) (E : Value → Shared → Prop)
    (go : ∀ (x' : OR) (ps' : Array Value) (o3' : Obj) (ch' : Addr) (nch' : Nat) (cs' : List CR) (tot' : Int) (tt' : Tok) (v3' : Option Value) (s' : Shared) (m' : Str → Option Value), s'.os = s₁.os → AllBare s'.gens → Fr g L' s'.heap m' →
      News g L' s'.heap ((I, io) :: (405, tabObj ps') :: (L' + 1, o1) :: (L' + 2, o2) :: (L' + 3, o3') :: (sl, listOf ns.toArray ks) :: (ch', listOf (cs'.map fun c => Value.ref c.t).toArray nch') :: (x'.objsR bits wanted r lim tot' ++ cs'.flatMap CR.objs)) →
      TriplesOk ps'.toList → x'.Sep → Pairs bits wanted x'.bs cs' → cs' ≠ [] → cs'.length ≤ cs.length + 1 → 0 ≤ tot' → tot' ≤ tot + 1 → o3'.data = .cell v3' → ApX L' I sl ch' cs' x' → ApH L' I sl ch' cs' → MM m' true lim wanted r tot' x'.o ch' tl tw tr tt' → Q .next s') :
    wpAny (model PySem.Challenge.rw_vo0020_01.row.prog w) (callerA.deeper (envOfC (Str.ofString "law") sc L' fa cd)) (execs bd (envOfC (Str.ofString "law") sc L' fa cd)) Q E s₁ := by
  conv at hsc => rhs; whnf
  conv at hbd => rhs; whnf
  subst hsc hbd
  obtain ⟨hm1, hm2, hm3, hm4, hm5, hm6, hm7⟩ := hM
  w_on
  revert X'
  k_fill
  intro X'
  w_top on
  have hcs : ∀ c ∈ cs, c.Ok bits.toNat := hP.okC
  have hxl : x.bs.length = cs.length := hP.length
  have hxn : x.bs ≠ [] := fun e => hne (List.length_eq_zero_iff.mp (by rw [← hxl, e]; rfl))
  have N2 : News g L' s₁.heap ((I, io) :: (405, tabObj ps) :: (L' + 1, o1) :: (L' + 2, o2) :: (L' + 3, o3) :: (sl, listOf ns.toArray ks) :: (ch, listOf (cs.map fun c => Value.ref c.t).toArray nch) :: (D, LCg.lst ys) :: (x.o, instObj 520 x.d) :: (x.d, dictOf (rDict bits wanted lim x.z tot x.l) x.n) :: (x.l, listOf (refsOf x.bs).toArray x.k) :: (blObjs bits wanted r x.bs ++ cs.flatMap CR.objs)) := N1
  clear N1
  rw [hd] at hm8
  have hxl60 : x.bs.length ≤ 60 := by omega
  have hlen50 : cs.length ≤ 50 := by omega
  have htot1 : tot ≤ tot + 1 := by omega
  iterate 27 (try walk_at "my step")
  refine PySem.W.ite_neg (by simp [hmo]) ?_
  iterate 38 (try walk_at "my step")
  try dsimp only
  with_reducible rename Fr _ _ _ _ => F3
  with_reducible rename News _ _ _ _ => N3
  have C3 := fun t1 => c_inR w bits wanted r lim tot hb hb' hr1 hr2 x hP.okB hxl60 hxn ps hps c t1 hc hc'
  k_dflt (refine useCon (C3 _) rfl B' F3 X' N3 T' M' rfl ((I, io) :: (L' + 1, o1) :: (L' + 2, o2) :: (L' + 3, o3) :: (sl, listOf ns.toArray ks) :: (ch, listOf (cs.map fun c => Value.ref c.t).toArray nch) :: (D, LCg.lst ys) :: cs.flatMap CR.objs) ?_ ?_ (hApX.hap hDX fun b hb => objR_adr hb) (by ktr_room) (by ktr_units) hb1 ?_)
  · intro q hq
    simp only [OR.objsR, List.mem_cons, List.mem_append] at hq ⊢
    grind
  · intro q hq
    simp only [List.mem_cons, List.mem_append] at hq ⊢
    grind
  rintro v objs' s3 hos3 hb3 F4 N4 A4 ⟨ps', hps', rfl, rfl⟩
  rw [hP.any hb (placesOf c r.toNat)]
  iterate 4 (try walk_at "my step")
  refine PySem.W.ite_neg (by simp) ?_
  iterate 6 (try walk_at "my step")
  try dsimp only
  with_reducible rename Fr _ _ _ _ => F5
  with_reducible rename News _ _ _ _ => N5
  have N6 := subN (b := (I, io) :: (405, tabObj ps') :: (L' + 1, o1) :: (L' + 2, o2) :: (L' + 3, o3) :: (sl, listOf ns.toArray ks) :: (ch, listOf (cs.map fun c => Value.ref c.t).toArray nch) :: (x.objsR bits wanted r lim tot ++ cs.flatMap CR.objs)) N5 (fun q hq => by
    simp only [OR.objsR, List.mem_cons, List.mem_append] at hq ⊢
    grind)
  refine tailR w _ (by rfl) _ (by rfl) bits wanted r lim mg mb p loose g L' fa cd _ m₁ X' T' M' B' x ps' o1 o2 o3 sl ch I io ns ks nch cs tot tl tt (by exact F5) (by exact N6) (by exact hb3) hxl hlen50 hm1 hm2 hm5 hm6 hm7 Q E ?_
  intro s9 e1 e2 F9 N9
  exact go x ps' o3 ch nch cs tot tt v3 s9 m₁ (e1.trans hos3) e2 F9 N9 hps' hsep hP hne (Nat.le_succ _) ht0 htot1 h3 hApX hApH ⟨hm1, hm2, hm3, hm4, hm5, hm6, hm7⟩
end
section
set_option maxHeartbeats 8000000 in
theorem brPopR (w : World) (sc : Scope) (hsc : sc = lawScope) (bd : List Stmt) (hbd : bd = lawLoop.drop 5) (bits wanted r lim : Int) (hb : 4 ≤ bits) (hb' : bits ≤ 19) (hw : 1 ≤ wanted) (hw' : wanted ≤ 4) (hr : ((13862943611198906 * bits).fdiv wanted + 10000000000000000).fdiv (2 * 10000000000000000) = r) (hr1 : 1 ≤ r) (hr2 : r ≤ 13) (hl : 1 ≤ lim) (hl4 : lim ≤ 4)
    (mg mb : Str → Option Value) (p : Program) (loose : List Str) (g : Heap) (L' fa : Addr) (cd : Value) (X' : (Mine.hd.heap_39 w.params).In g) (T' : TopRead p loose mg mb g) (M' : BM mg g) (B' : Below callerA g [] g)
    (s₁ : Shared) (m₁ : Str → Option Value) (x : OR) (ps : Array Value) (o1 o2 o3 : Obj) (sl ch I D : Addr) (io : Obj) (ns ys : List Value) (ks nch : Nat) (cs : List CR) (tot n : Int) (c : Nat) (tl tw tr tt tb td tk tm : Tok) (v3 : Option Value)
    (F1 : Fr g L' s₁.heap m₁) (N1 : News g L' s₁.heap ((I, io) :: (405, tabObj ps) :: (L' + 1, o1) :: (L' + 2, o2) :: (L' + 3, o3) :: (sl, listOf ns.toArray ks) :: (ch, listOf (cs.map fun c => Value.ref c.t).toArray nch) :: (D, LCg.lst ys) :: (x.objsR bits wanted r lim tot ++ cs.flatMap CR.objs)))
    (hb1 : AllBare s₁.gens) (hps : TriplesOk ps.toList) (hsep : x.Sep) (hP : Pairs bits wanted x.bs cs) (hne : cs ≠ []) (hlen : cs.length ≤ 40) (ht0 : 0 ≤ tot) (ht1 : tot ≤ 100) (hn0 : 0 ≤ n) (hc : 97 ≤ c) (hc' : c ≤ 104)
    (h1 : o1.data = .cell (some (.int bits tb))) (h2 : o2.data = .cell (some (.ref D))) (h3 : o3.data = .cell v3) (hys : IntsAre ys ((placesOf c r.toNat).map fun k' => k'.fmod bits))
    (hApX : ApX L' I sl ch cs x) (hApH : ApH L' I sl ch cs) (hApI : ApI L' I sl) (hDX : ∀ b ∈ (405 : Addr) :: x.adr, @Ne Nat D b) (hDC : OffC L' [(D, LCg.lst ys)])
    (hM : MM m₁ true lim wanted r tot x.o ch tl tw tr tt) (hm8 : m₁ (Str.ofString "deed") = some (.int (n.fmod 6) td)) (hm9 : m₁ (Str.ofString "key") = some (.str (Str.mk #[c]) tk)) (hm10 : m₁ (Str.ofString "more") = some (.int (n.fdiv 48) tm)) (hm11 : m₁ (Str.ofString "inside") = some (.bool (cs.any fun x => allIn x.row ((placesOf c r.toNat).map fun k' => k'.fmod bits))))
    (hd : n.fmod 6 = 5) (hmo : (n.fdiv 48).fmod 2 = 0) (hn1 : cs.length ≠ 1)
    (Q : Flow → Shared → Prop) (E : Value → Shared → Prop)
    (go : ∀ (x' : OR) (ps' : Array Value) (o3' : Obj) (ch' : Addr) (nch' : Nat) (cs' : List CR) (tot' : Int) (tt' : Tok) (v3' : Option Value) (s' : Shared) (m' : Str → Option Value), s'.os = s₁.os → AllBare s'.gens → Fr g L' s'.heap m' →
      News g L' s'.heap ((I, io) :: (405, tabObj ps') :: (L' + 1, o1) :: (L' + 2, o2) :: (L' + 3, o3') :: (sl, listOf ns.toArray ks) :: (ch', listOf (cs'.map fun c => Value.ref c.t).toArray nch') :: (x'.objsR bits wanted r lim tot' ++ cs'.flatMap CR.objs)) →
      TriplesOk ps'.toList → x'.Sep → Pairs bits wanted x'.bs cs' → cs' ≠ [] → cs'.length ≤ cs.length + 1 → 0 ≤ tot' → tot' ≤ tot + 1 → o3'.data = .cell v3' → ApX L' I sl ch' cs' x' → ApH L' I sl ch' cs' → MM m' true lim wanted r tot' x'.o ch' tl tw tr tt' → Q .next s') :
    wpAny (model PySem.Challenge.rw_vo0020_01.row.prog w) (callerA.deeper (envOfC (Str.ofString "law") sc L' fa cd)) (execs bd (envOfC (Str.ofString "law") sc L' fa cd)) Q E s₁ := by
  conv at hsc => rhs; whnf
  conv at hbd => rhs; whnf
  subst hsc hbd
  obtain ⟨hm1, hm2, hm3, hm4, hm5, hm6, hm7⟩ := hM
  w_on
  revert X'
  k_fill
  intro X'
  w_top on
  have hcs : ∀ c ∈ cs, c.Ok bits.toNat := hP.okC
  have hxl : x.bs.length = cs.length := hP.length
  have hxn : x.bs ≠ [] := fun e => hne (List.length_eq_zero_iff.mp (by rw [← hxl, e]; rfl))
  have N2 : News g L' s₁.heap ((I, io) :: (405, tabObj ps) :: (L' + 1, o1) :: (L' + 2, o2) :: (L' + 3, o3) :: (sl, listOf ns.toArray ks) :: (ch, listOf (cs.map fun c => Value.ref c.t).toArray nch) :: (D, LCg.lst ys) :: (x.o, instObj 520 x.d) :: (x.d, dictOf (rDict bits wanted lim x.z tot x.l) x.n) :: (x.l, listOf (refsOf x.bs).toArray x.k) :: (blObjs bits wanted r x.bs ++ cs.flatMap CR.objs)) := N1
  clear N1
  rw [hd] at hm8
  have hxl60 : x.bs.length ≤ 60 := by omega
  have hlen50 : cs.length ≤ 50 := by omega
  have htot1 : tot ≤ tot + 1 := by omega
  have hxn1 : x.bs.length ≠ 1 := by omega
  iterate 43 (try walk_at "my step")
  refine PySem.W.ite_pos (by simp [hmo]) ?_
  iterate 4 (try walk_at "my step")
  refine wpAny_Try_except ?_
  iterate 6 (try walk_at "my step")
  try dsimp only
  with_reducible rename Fr _ _ _ _ => F3
  with_reducible rename News _ _ _ _ => N3
  have h405 : (405 : Addr) ∉ x.adr := tabNotR (bits := bits) (wanted := wanted) (r := r) (lim := lim) (tot := tot) (ps := ps) (rest := x.objsR bits wanted r lim tot) (subN N3 fun q hq => by
    simp only [OR.objsR, List.mem_cons, List.mem_append] at hq ⊢
    grind) (fun q hq => hq)
  have C3 := c_popR w bits wanted r lim tot x hxl60 hsep hxn1 hxn
  k_dflt (refine useCon C3 rfl B' F3 X' N3 T' M' rfl ((405, tabObj ps) :: ((I, io) :: (L' + 1, o1) :: (L' + 2, o2) :: (L' + 3, o3) :: (sl, listOf ns.toArray ks) :: (ch, listOf (cs.map fun c => Value.ref c.t).toArray nch) :: (D, LCg.lst ys) :: cs.flatMap CR.objs)) ?_ ?_ (hApX.hap2 hDX h405 fun b hb => by rw [← adrR (bits := bits) (wanted := wanted) (r := r) (lim := lim) (tot := tot)]; exact List.mem_map_of_mem hb) (by ktr_room) (by ktr_units) hb1 ?_)
  · intro q hq
    simp only [OR.objsR, List.mem_cons, List.mem_append] at hq ⊢
    grind
  · intro q hq
    simp only [List.mem_cons, List.mem_append] at hq ⊢
    grind
  rintro v objs' s3 hos3 hb3 F4 N4 A4 ⟨⟨o5, d5, l5, z5, n5, k5, bs5⟩, rfl, e4, e5, e6, rfl, e8, e7⟩
  dsimp only at e4 e5 e6 e7
  subst e4
  have hAp1 : ApX L' I sl ch cs ⟨x.o, d5, l5, z5, n5, k5, bs5⟩ := ApX.of2 hApX A4 restAdr onlyR
  have hx : (OR.objsR bits wanted r lim tot ⟨x.o, d5, l5, z5, n5, k5, bs5⟩).map (·.1) = OR.adr ⟨x.o, d5, l5, z5, n5, k5, bs5⟩ := adrR _
  have N5 := subN (b := (I, io) :: (405, tabObj ps) :: (L' + 1, o1) :: (L' + 2, o2) :: (L' + 3, o3) :: (sl, listOf ns.toArray ks) :: (ch, listOf (cs.map fun c => Value.ref c.t).toArray nch) :: (D, LCg.lst ys) :: (OR.objsR bits wanted r lim tot ⟨x.o, d5, l5, z5, n5, k5, bs5⟩ ++ cs.flatMap CR.objs)) N4 (fun q hq => by
    simp only [List.mem_cons, List.mem_append] at hq ⊢
    grind)
  clear N4 N3 F3
  have hlenp : (cs.map fun c => Value.ref c.t).length < 2 ^ 62 := by rw [List.length_map]; omega
  have hlen1 : ¬ ((((cs.map fun c => Value.ref c.t).length : Int) == 1) = true) := by rw [List.length_map]; simp; omega
  iterate 13 (try walk_at "my step")
  refine PySem.W.ite_neg hlen1 ?_
  iterate 11 (try walk_at "my step")
  with_reducible rename Fr _ _ _ _ => F9
  with_reducible rename News _ _ _ _ => N9
  k_dflt (refine' kmk_slice_lit ?yF ?yN ?yl ?yp ?yq ?ye ?_ ?ys ?yt ?yz; (case yF => exact F9); (case yN => exact N9); (case yp => exact IsPart.int _ _); (case yq => exact IsPart.none); (case ye => exact cutOne cs); (case yl => exact News.isList N9 (by k_mem)); (case ys => with_unfolding_all rfl); (case yt => (intro _; with_unfolding_all rfl)); (case yz => (rw [List.size_toArray, List.length_map, sizeLine_eq]; exact Nat.le_trans hlen (by decide))); k_whole)
  intro D2 h9 F10 N10 l1
  have hAn := hAp1.new (ch' := D2) (cs' := cs.tail) hx (tailAp (qs := (I, io) :: (405, tabObj ps) :: (L' + 1, o1) :: (L' + 2, o2) :: (L' + 3, o3) :: (sl, listOf ns.toArray ks) :: (OR.objsR bits wanted r lim tot ⟨x.o, d5, l5, z5, n5, k5, bs5⟩ ++ [])) (fun q hq => l1 q (by
    rw [List.append_nil] at hq
    simp only [OR.objsR, List.mem_cons, List.mem_append] at hq ⊢
    grind)) baseSub (hAp1.ap hApH hx))
  have N11 := subN (b := (I, io) :: (405, tabObj ps) :: (L' + 1, o1) :: (L' + 2, o2) :: (L' + 3, o3) :: (sl, listOf ns.toArray ks) :: (D2, listOf (cs.tail.map fun c => Value.ref c.t).toArray 0) :: (OR.objsR bits wanted r lim tot ⟨x.o, d5, l5, z5, n5, k5, bs5⟩ ++ cs.tail.flatMap CR.objs)) N10 (fun q hq => by
    have h9 : q ∈ cs.tail.flatMap CR.objs → q ∈ cs.flatMap CR.objs := tailRows
    simp only [OR.objsR, List.mem_cons, List.mem_append] at hq ⊢
    grind)
  clear N10 N9 F9
  iterate 6 (try walk_at "my step")
  try dsimp only
  with_reducible rename Fr _ _ _ _ => F12
  with_reducible rename News _ _ _ _ => N12
  have hPn : Pairs bits wanted bs5 cs.tail := by rw [e7]; exact hP.tail
  have hln : cs.tail.length ≤ cs.length + 1 := by rw [List.length_tail]; omega
  have hnt : cs.tail ≠ [] := by
    intro e
    have h9 := congrArg List.length e
    rw [List.length_tail, List.length_nil] at h9
    have h8 := List.length_pos_iff.mpr hne
    omega
  refine tailR w _ (by rfl) _ (by rfl) bits wanted r lim mg mb p loose g L' fa cd _ (fun y => if y = Str.ofString "chain" then some (.ref D2) else m₁ y) X' T' M' B' ⟨x.o, d5, l5, z5, n5, k5, bs5⟩ ps o1 o2 o3 sl D2 I io ns ks 0 cs.tail tot tl tt (by exact F12) (by exact N12) (by exact hb3) hPn.length (Nat.le_trans hln (Nat.succ_le_of_lt (Nat.lt_of_le_of_lt hlen (by decide)))) hm1 hm2 hm5 rfl hm7 Q E ?_
  intro s9 f1 f2 F13 N13
  exact go ⟨x.o, d5, l5, z5, n5, k5, bs5⟩ ps o3 D2 0 cs.tail tot tt v3 s9 _ (f1.trans hos3) f2 F13 N13 hps e8 hPn hnt hln ht0 htot1 h3 hAn.1 hAn.2 ⟨hm1, hm2, hm3, hm4, hm5, rfl, hm7⟩
end
section
set_option maxHeartbeats 8000000 in
theorem brPopXR (w : World) (sc : Scope) (hsc : sc = lawScope) (bd : List Stmt) (hbd : bd = lawLoop.drop 5) (bits wanted r lim : Int) (hb : 4 ≤ bits) (hb' : bits ≤ 19) (hw : 1 ≤ wanted) (hw' : wanted ≤ 4) (hr : ((13862943611198906 * bits).fdiv wanted + 10000000000000000).fdiv (2 * 10000000000000000) = r) (hr1 : 1 ≤ r) (hr2 : r ≤ 13) (hl : 1 ≤ lim) (hl4 : lim ≤ 4)
    (mg mb : Str → Option Value) (p : Program) (loose : List Str) (g : Heap) (L' fa : Addr) (cd : Value) (X' : (Mine.hd.heap_39 w.params).In g) (T' : TopRead p loose mg mb g) (M' : BM mg g) (B' : Below callerA g [] g)
    (s₁ : Shared) (m₁ : Str → Option Value) (x : OR) (ps : Array Value) (o1 o2 o3 : Obj) (sl ch I D : Addr) (io : Obj) (ns ys : List Value) (ks nch : Nat) (cs : List CR) (tot n : Int) (c : Nat) (tl tw tr tt tb td tk tm : Tok) (v3 : Option Value)
    (F1 : Fr g L' s₁.heap m₁) (N1 : News g L' s₁.heap ((I, io) :: (405, tabObj ps) :: (L' + 1, o1) :: (L' + 2, o2) :: (L' + 3, o3) :: (sl, listOf ns.toArray ks) :: (ch, listOf (cs.map fun c => Value.ref c.t).toArray nch) :: (D, LCg.lst ys) :: (x.objsR bits wanted r lim tot ++ cs.flatMap CR.objs)))
    (hb1 : AllBare s₁.gens) (hps : TriplesOk ps.toList) (hsep : x.Sep) (hP : Pairs bits wanted x.bs cs) (hne : cs ≠ []) (hlen : cs.length ≤ 40) (ht0 : 0 ≤ tot) (ht1 : tot ≤ 100) (hn0 : 0 ≤ n) (hc : 97 ≤ c) (hc' : c ≤ 104)
    (h1 : o1.data = .cell (some (.int bits tb))) (h2 : o2.data = .cell (some (.ref D))) (h3 : o3.data = .cell v3) (hys : IntsAre ys ((placesOf c r.toNat).map fun k' => k'.fmod bits))
    (hApX : ApX L' I sl ch cs x) (hApH : ApH L' I sl ch cs) (hApI : ApI L' I sl) (hDX : ∀ b ∈ (405 : Addr) :: x.adr, @Ne Nat D b) (hDC : OffC L' [(D, LCg.lst ys)])
    (hM : MM m₁ true lim wanted r tot x.o ch tl tw tr tt) (hm8 : m₁ (Str.ofString "deed") = some (.int (n.fmod 6) td)) (hm9 : m₁ (Str.ofString "key") = some (.str (Str.mk #[c]) tk)) (hm10 : m₁ (Str.ofString "more") = some (.int (n.fdiv 48) tm)) (hm11 : m₁ (Str.ofString "inside") = some (.bool (cs.any fun x => allIn x.row ((placesOf c r.toNat).map fun k' => k'.fmod bits))))
    (hd : n.fmod 6 = 5) (hmo : (n.fdiv 48).fmod 2 = 0) (hn1 : cs.length = 1)
    (Q : Flow → Shared → Prop) (E : Value → Shared → Prop)
    (go : ∀ (x' : OR) (ps' : Array Value) (o3' : Obj) (ch' : Addr) (nch' : Nat) (cs' : List CR) (tot' : Int) (tt' : Tok) (v3' : Option Value) (s' : Shared) (m' : Str → Option Value), s'.os = s₁.os → AllBare s'.gens → Fr g L' s'.heap m' →
      News g L' s'.heap ((I, io) :: (405, tabObj ps') :: (L' + 1, o1) :: (L' + 2, o2) :: (L' + 3, o3') :: (sl, listOf ns.toArray ks) :: (ch', listOf (cs'.map fun c => Value.ref c.t).toArray nch') :: (x'.objsR bits wanted r lim tot' ++ cs'.flatMap CR.objs)) →
      TriplesOk ps'.toList → x'.Sep → Pairs bits wanted x'.bs cs' → cs' ≠ [] → cs'.length ≤ cs.length + 1 → 0 ≤ tot' → tot' ≤ tot + 1 → o3'.data = .cell v3' → ApX L' I sl ch' cs' x' → ApH L' I sl ch' cs' → MM m' true lim wanted r tot' x'.o ch' tl tw tr tt' → Q .next s') :
    wpAny (model PySem.Challenge.rw_vo0020_01.row.prog w) (callerA.deeper (envOfC (Str.ofString "law") sc L' fa cd)) (execs bd (envOfC (Str.ofString "law") sc L' fa cd)) Q E s₁ := by
  conv at hsc => rhs; whnf
  conv at hbd => rhs; whnf
  subst hsc hbd
  obtain ⟨hm1, hm2, hm3, hm4, hm5, hm6, hm7⟩ := hM
  w_on
  revert X'
  k_fill
  intro X'
  w_top on
  have hcs : ∀ c ∈ cs, c.Ok bits.toNat := hP.okC
  have hxl : x.bs.length = cs.length := hP.length
  have hxn : x.bs ≠ [] := fun e => hne (List.length_eq_zero_iff.mp (by rw [← hxl, e]; rfl))
  have N2 : News g L' s₁.heap ((I, io) :: (405, tabObj ps) :: (L' + 1, o1) :: (L' + 2, o2) :: (L' + 3, o3) :: (sl, listOf ns.toArray ks) :: (ch, listOf (cs.map fun c => Value.ref c.t).toArray nch) :: (D, LCg.lst ys) :: (x.o, instObj 520 x.d) :: (x.d, dictOf (rDict bits wanted lim x.z tot x.l) x.n) :: (x.l, listOf (refsOf x.bs).toArray x.k) :: (blObjs bits wanted r x.bs ++ cs.flatMap CR.objs)) := N1
  clear N1
  rw [hd] at hm8
  have hxl60 : x.bs.length ≤ 60 := by omega
  have hlen50 : cs.length ≤ 50 := by omega
  have htot1 : tot ≤ tot + 1 := by omega
  have hlenq : (refsOf x.bs).length < 2 ^ 62 := by rw [List.length_map]; omega
  have hlen1 : (((refsOf x.bs).length : Int) == 1) = true := by rw [List.length_map]; simp; omega
  iterate 43 (try walk_at "my step")
  refine PySem.W.ite_pos (by simp [hmo]) ?_
  iterate 4 (try walk_at "my step")
  refine wpAny_Try_except ?_
  iterate 6 (try walk_at "my step")
  try dsimp only
  iterate 22 (try walk_at "my step")
  refine PySem.W.ite_pos hlen1 ?_
  iterate 6 (try walk_at "my step")
  k_here
  refine raise_own (C := 90) rfl ?_
  iterate 6 (try walk_at "my step")
  with_reducible rename Fr _ _ _ _ => F3
  with_reducible rename News _ _ _ _ => N3
  with_reducible rename Fr g L' _ m₁ => FG1
  with_reducible rename Below (callerA.deeper _) _ _ _ => B1
  refine ⟨Frag.In.keeps (by assumption) F3.keep, ?_⟩
  have M1 := M'.keeps FG1.keep
  have C3 := fun v t => c_exc w v t
  k_here
  k_dflt (refine' useCon0 (C3 _ _) rfl B1 F3 ?cX N3 ?cT M1 rfl (by ktr_room) (by ktr_units) hb1 ?_; (case cX => assumption); (case cT => assumption))
  rintro v objs' s3 hos3 hb3 F4 N4 A4 ⟨e, d, t, es, n9, rfl, rfl⟩
  have X4 : (Mine.hd.heap_39 w.params).In s3.heap := Frag.In.keeps (by assumption) F4.keep
  refine ⟨e, t, some d, rfl, isExc90 X4, (N4 _ (.head _)).1, ?_⟩
  have hne4 : ∀ q ∈ ((I, io) :: (405, tabObj ps) :: (L' + 1, o1) :: (L' + 2, o2) :: (L' + 3, o3) :: (sl, listOf ns.toArray ks) :: (ch, listOf (cs.map fun c => Value.ref c.t).toArray nch) :: (x.objsR bits wanted r lim tot ++ cs.flatMap CR.objs)), q.1 ≠ e := fun q hq => A4 q (by
    simp only [OR.objsR, List.mem_cons, List.mem_append] at hq ⊢
    grind) _ (.head _)
  have N5 := subN (b := (e, excObj 90 t (some d)) :: (I, io) :: (405, tabObj ps) :: (L' + 1, o1) :: (L' + 2, o2) :: (L' + 3, o3) :: (sl, listOf ns.toArray ks) :: (ch, listOf (cs.map fun c => Value.ref c.t).toArray nch) :: (x.objsR bits wanted r lim tot ++ cs.flatMap CR.objs)) N4 (fun q hq => by
    simp only [OR.objsR, List.mem_cons, List.mem_append] at hq ⊢
    grind)
  clear N4 N3
  refine leave_exc B1 F4 N5 hne4 (fun h6 R6 sm6 => ?_)
  refine catch_own rfl rfl FG1 sm6 R6 X' T' (by k_is) (by kernel_rfl) rfl rfl rfl (by decide) (fun h7 F7 N7 => ?_)
  have hlenp : (cs.map fun c => Value.ref c.t).length < 2 ^ 62 := by rw [List.length_map]; omega
  have hlen2 : ¬ ((((cs.map fun c => Value.ref c.t).length : Int) != 1) = true) := by rw [List.length_map, hn1]; decide
  iterate 13 (try walk_at "my step")
  refine PySem.W.ite_neg hlen2 ?_
  iterate 6 (try walk_at "my step")
  try dsimp only
  refine tailR w _ (by rfl) _ (by rfl) bits wanted r lim mg mb p loose g L' fa cd _ m₁ X' T' M' B' x ps o1 o2 o3 sl ch I io ns ks nch cs tot tl tt (by exact F7) (by exact N7) (by exact hb3) hxl (Nat.le_trans hlen (by decide)) hm1 hm2 hm5 hm6 hm7 Q E ?_
  intro s9 f1 f2 F13 N13
  exact go x ps o3 ch nch cs tot tt v3 s9 _ (f1.trans hos3) f2 F13 N13 hps hsep hP hne (Nat.le_succ _) ht0 htot1 h3 hApX hApH ⟨hm1, hm2, hm3, hm4, hm5, hm6, hm7⟩
end
section
set_option maxHeartbeats 8000000 in
theorem brPushE (w : World) (sc : Scope) (hsc : sc = lawScope) (bd : List Stmt) (hbd : bd = lawLoop.drop 5) (bits wanted r lim : Int) (hb : 4 ≤ bits) (hb' : bits ≤ 19) (hw : 1 ≤ wanted) (hw' : wanted ≤ 4) (hr : ((13862943611198906 * bits).fdiv wanted + 10000000000000000).fdiv (2 * 10000000000000000) = r) (hr1 : 1 ≤ r) (hr2 : r ≤ 13) (hl : lim = 0)
    (mg mb : Str → Option Value) (p : Program) (loose : List Str) (g : Heap) (L' fa : Addr) (cd : Value) (X' : (Mine.hd.heap_39 w.params).In g) (T' : TopRead p loose mg mb g) (M' : BM mg g) (B' : Below callerA g [] g)
    (s₁ : Shared) (m₁ : Str → Option Value) (x : OR) (ps : Array Value) (o1 o2 o3 : Obj) (sl ch I D : Addr) (io : Obj) (ns ys : List Value) (ks nch : Nat) (cs : List CR) (tot n : Int) (c : Nat) (tl tw tr tt tb td tk tm : Tok) (v3 : Option Value)
    (F1 : Fr g L' s₁.heap m₁) (N1 : News g L' s₁.heap ((I, io) :: (405, tabObj ps) :: (L' + 1, o1) :: (L' + 2, o2) :: (L' + 3, o3) :: (sl, listOf ns.toArray ks) :: (ch, listOf (cs.map fun c => Value.ref c.t).toArray nch) :: (D, LCg.lst ys) :: (x.objsE bits wanted r lim tot ++ cs.flatMap CR.objs)))
    (hb1 : AllBare s₁.gens) (hps : TriplesOk ps.toList) (hsep : x.Sep) (hP : Pairs bits wanted x.bs cs) (hne : cs ≠ []) (hlen : cs.length ≤ 40) (ht0 : 0 ≤ tot) (ht1 : tot ≤ 100) (hn0 : 0 ≤ n) (hc : 97 ≤ c) (hc' : c ≤ 104)
    (h1 : o1.data = .cell (some (.int bits tb))) (h2 : o2.data = .cell (some (.ref D))) (h3 : o3.data = .cell v3) (hys : IntsAre ys ((placesOf c r.toNat).map fun k' => k'.fmod bits))
    (hApX : ApX L' I sl ch cs x) (hApH : ApH L' I sl ch cs) (hApI : ApI L' I sl) (hDX : ∀ b ∈ (405 : Addr) :: x.adr, @Ne Nat D b) (hDC : OffC L' [(D, LCg.lst ys)])
    (hM : MM m₁ false lim wanted r tot x.o ch tl tw tr tt) (hm8 : m₁ (Str.ofString "deed") = some (.int (n.fmod 6) td)) (hm9 : m₁ (Str.ofString "key") = some (.str (Str.mk #[c]) tk)) (hm10 : m₁ (Str.ofString "more") = some (.int (n.fdiv 48) tm)) (hm11 : m₁ (Str.ofString "inside") = some (.bool (cs.any fun x => allIn x.row ((placesOf c r.toNat).map fun k' => k'.fmod bits))))
    (hd : n.fmod 6 = 4) (hmo : (n.fdiv 48).fmod 3 = 0)
    (Q : Flow → Shared → Prop) (E : Value → Shared → Prop)
    (go : ∀ (x' : OR) (ps' : Array Value) (o3' : Obj) (ch' : Addr) (nch' : Nat) (cs' : List CR) (tot' : Int) (tt' : Tok) (v3' : Option Value) (s' : Shared) (m' : Str → Option Value), s'.os = s₁.os → AllBare s'.gens → Fr g L' s'.heap m' →
      News g L' s'.heap ((I, io) :: (405, tabObj ps') :: (L' + 1, o1) :: (L' + 2, o2) :: (L' + 3, o3') :: (sl, listOf ns.toArray ks) :: (ch', listOf (cs'.map fun c => Value.ref c.t).toArray nch') :: (x'.objsE bits wanted r lim tot' ++ cs'.flatMap CR.objs)) →
      TriplesOk ps'.toList → x'.Sep → Pairs bits wanted x'.bs cs' → cs' ≠ [] → cs'.length ≤ cs.length + 1 → 0 ≤ tot' → tot' ≤ tot + 1 → o3'.data = .cell v3' → ApX L' I sl ch' cs' x' → ApH L' I sl ch' cs' → MM m' false lim wanted r tot' x'.o ch' tl tw tr tt' → Q .next s') :
    wpAny (model PySem.Challenge.rw_vo0020_01.row.prog w) (callerA.deeper (envOfC (Str.ofString "law") sc L' fa cd)) (execs bd (envOfC (Str.ofString "law") sc L' fa cd)) Q E s₁ := by
  conv at hsc => rhs; whnf
  conv at hbd => rhs; whnf
  subst hsc hbd
  obtain ⟨hm1, hm2, hm3, hm4, hm5, hm6, hm7⟩ := hM
  w_on
  revert X'
  k_fill
  intro X'
  w_top on
  have hcs : ∀ c ∈ cs, c.Ok bits.toNat := hP.okC
  have hxl : x.bs.length = cs.length := hP.length
  have hxn : x.bs ≠ [] := fun e => hne (List.length_eq_zero_iff.mp (by rw [← hxl, e]; rfl))
  have N2 : News g L' s₁.heap ((I, io) :: (405, tabObj ps) :: (L' + 1, o1) :: (L' + 2, o2) :: (L' + 3, o3) :: (sl, listOf ns.toArray ks) :: (ch, listOf (cs.map fun c => Value.ref c.t).toArray nch) :: (D, LCg.lst ys) :: (x.o, instObj 443 x.d) :: (x.d, dictOf (eDict bits wanted lim x.z tot x.l) x.n) :: (x.l, listOf (refsOf x.bs).toArray x.k) :: (blObjs bits wanted r x.bs ++ cs.flatMap CR.objs)) := N1
  clear N1
  rw [hd] at hm8
  have hxl60 : x.bs.length ≤ 60 := by omega
  have hlen50 : cs.length ≤ 50 := by omega
  have htot1 : tot ≤ tot + 1 := by omega
  iterate 27 (try walk_at "my step")
  refine PySem.W.ite_pos (by simp [hmo]) ?_
  iterate 9 (try walk_at "my step")
  try dsimp only
  with_reducible rename Fr _ _ _ _ => F3
  with_reducible rename News _ _ _ _ => N3
  have h405 : (405 : Addr) ∉ x.adr := tabNotE (bits := bits) (wanted := wanted) (r := r) (lim := lim) (tot := tot) (ps := ps) (rest := x.objsE bits wanted r lim tot) (subN N3 fun q hq => by
    simp only [OR.objsE, List.mem_cons, List.mem_append] at hq ⊢
    grind) (fun q hq => hq)
  obtain ⟨tl0, bl0, hbs⟩ : ∃ tl0 bl0, x.bs = tl0 ++ [bl0] := lastSplit hxn
  have C3 := c_pushE w bits wanted r lim tot hb hb' hw hw' hr hr1 hr2 x hxl60 hsep
  k_dflt (refine useCon C3 rfl B' F3 X' N3 T' M' rfl ((405, tabObj ps) :: ((I, io) :: (L' + 1, o1) :: (L' + 2, o2) :: (L' + 3, o3) :: (sl, listOf ns.toArray ks) :: (ch, listOf (cs.map fun c => Value.ref c.t).toArray nch) :: (D, LCg.lst ys) :: cs.flatMap CR.objs)) ?_ ?_ (hApX.hap2 hDX h405 fun b hb => by rw [← adrE (bits := bits) (wanted := wanted) (r := r) (lim := lim) (tot := tot)]; exact List.mem_map_of_mem hb) (by ktr_room) (by ktr_units) hb1 ?_)
  · intro q hq
    simp only [OR.objsE, List.mem_cons, List.mem_append] at hq ⊢
    grind
  · intro q hq
    simp only [List.mem_cons, List.mem_append] at hq ⊢
    grind
  rintro v objs' s3 hos3 hb3 F4 N4 A4 ⟨b, ⟨o5, d5, l5, z5, n5, k5, bs5⟩, rfl, e1, e2, e3, e4, e5, e6, e7, rfl, e8⟩
  dsimp only at e4 e5 e6 e7
  subst e4
  have hAp1 : ApX L' I sl ch cs ⟨x.o, d5, l5, z5, n5, k5, bs5⟩ := ApX.of2 hApX A4 restAdr onlyE
  have N5 := subN (b := (I, io) :: (405, tabObj ps) :: (L' + 1, o1) :: (L' + 2, o2) :: (L' + 3, o3) :: (sl, listOf ns.toArray ks) :: (ch, listOf (cs.map fun c => Value.ref c.t).toArray nch) :: (D, LCg.lst ys) :: (OR.objsE bits wanted r lim tot ⟨x.o, d5, l5, z5, n5, k5, bs5⟩ ++ cs.flatMap CR.objs)) N4 (fun q hq => by
    simp only [List.mem_cons, List.mem_append] at hq ⊢
    grind)
  clear N4 N3 F3
  iterate 13 (try walk_at "my step")
  try dsimp only
  with_reducible rename Fr _ _ _ _ => F6
  with_reducible rename News _ _ _ _ => N6
  have hlimb : 0 ≤ lim ∧ lim ≤ 4 := ⟨by omega, by omega⟩
  have hcsl : 1 ≤ (cs.map fun c => Value.ref c.t).length := by rw [List.length_map]; exact List.length_pos_iff.mpr hne
  have hcsu : (cs.map fun c => Value.ref c.t).length ≤ 60 := by rw [List.length_map]; omega
  have C9 := fun t1 t2 => c_longer w ch (cs.map fun c => Value.ref c.t) nch bits lim t1 t2 hb hb' hlimb.1 hlimb.2 hcsu hcsl
  k_dflt (refine useConK (C9 _ _) rfl B' F6 X' N6 T' M' rfl (by walk_at "my subset") ?hk (by ktr_room) (by ktr_units) hb3 ?_)
  case hk =>
    rintro v objs' ⟨l, t, r9, rs, tk, -, rfl, -⟩ q hq
    exact .tail _ (.tail _ (.tail _ hq))
  rintro v objs' s4 hos4 hb4 F7 N7 A7 ⟨l, t, r9, rs, tk9, rfl, rfl, hI9, n1, n2, n3⟩
  have hAn := hAp1.new (ch' := l) (cs' := longer lim cs ++ [newRow bits t r9 rs tk9]) (adrE (bits := bits) (wanted := wanted) (r := r) (lim := lim) (tot := tot) _) (longerAp (io := io) (ot := tabObj ps) (o1 := o1) (o2 := o2) (o3 := o3) (os := listOf ns.toArray ks) (hAp1.ap hApH (adrE (bits := bits) (wanted := wanted) (r := r) (lim := lim) (tot := tot) _)) A7 fun q hq => by
    simp only [OR.objsE, List.mem_cons, List.mem_append] at hq ⊢
    grind)
  have N9 := longerN (I := I) (sl := sl) (io := io) (ot := tabObj ps) (o1 := o1) (o2 := o2) (o3 := o3) (os := listOf ns.toArray ks) (bits := bits) (xo := OR.objsE bits wanted r lim tot ⟨x.o, d5, l5, z5, n5, k5, bs5⟩) N7 (fun q hq => by
    simp only [OR.objsE, List.mem_cons, List.mem_append] at hq ⊢
    grind)
  clear N7 N6 F6
  iterate 4 (try walk_at "my step")
  try dsimp only
  with_reducible rename Fr _ _ _ _ => F8
  with_reducible rename News _ _ _ _ => N8
  have hPn : Pairs bits wanted bs5 (longer lim cs ++ [newRow bits t r9 rs tk9]) := by
    rw [e7, hl, longer_zero]
    exact hP.append (Pairs.one (Pair.fresh hb hw e1 e2 e3 rfl hI9 rfl))
  have hln : (longer lim cs ++ [newRow bits t r9 rs tk9]).length ≤ cs.length + 1 := by rw [List.length_append]; exact Nat.succ_le_succ (longer_length lim cs)
  refine tailE w _ (by rfl) _ (by rfl) bits wanted r lim mg mb p loose g L' fa cd _ (fun y => if y = Str.ofString "chain" then some (.ref l) else m₁ y) X' T' M' B' ⟨x.o, d5, l5, z5, n5, k5, bs5⟩ ps o1 o2 o3 sl l I io ns ks 0 (longer lim cs ++ [newRow bits t r9 rs tk9]) tot tl tt (by exact F8) (by exact N8) (by exact hb4) hPn.length (Nat.le_trans hln (Nat.succ_le_of_lt (Nat.lt_of_le_of_lt hlen (by decide)))) hm1 hm2 hm5 rfl hm7 Q E ?_
  intro s9 f1 f2 F9 N9
  exact go ⟨x.o, d5, l5, z5, n5, k5, bs5⟩ ps o3 l 0 (longer lim cs ++ [newRow bits t r9 rs tk9]) tot tt v3 s9 _ (f1.trans (hos4.trans hos3)) f2 F9 N9 hps e8 hPn (by simp) hln ht0 htot1 h3 hAn.1 hAn.2 ⟨hm1, hm2, hm3, hm4, hm5, rfl, hm7⟩
end
section
set_option maxHeartbeats 8000000 in
theorem brPushR (w : World) (sc : Scope) (hsc : sc = lawScope) (bd : List Stmt) (hbd : bd = lawLoop.drop 5) (bits wanted r lim : Int) (hb : 4 ≤ bits) (hb' : bits ≤ 19) (hw : 1 ≤ wanted) (hw' : wanted ≤ 4) (hr : ((13862943611198906 * bits).fdiv wanted + 10000000000000000).fdiv (2 * 10000000000000000) = r) (hr1 : 1 ≤ r) (hr2 : r ≤ 13) (hl : 1 ≤ lim) (hl4 : lim ≤ 4)
    (mg mb : Str → Option Value) (p : Program) (loose : List Str) (g : Heap) (L' fa : Addr) (cd : Value) (X' : (Mine.hd.heap_39 w.params).In g) (T' : TopRead p loose mg mb g) (M' : BM mg g) (B' : Below callerA g [] g)
    (s₁ : Shared) (m₁ : Str → Option Value) (x : OR) (ps : Array Value) (o1 o2 o3 : Obj) (sl ch I D : Addr) (io : Obj) (ns ys : List Value) (ks nch : Nat) (cs : List CR) (tot n : Int) (c : Nat) (tl tw tr tt tb td tk tm : Tok) (v3 : Option Value)
    (F1 : Fr g L' s₁.heap m₁) (N1 : News g L' s₁.heap ((I, io) :: (405, tabObj ps) :: (L' + 1, o1) :: (L' + 2, o2) :: (L' + 3, o3) :: (sl, listOf ns.toArray ks) :: (ch, listOf (cs.map fun c => Value.ref c.t).toArray nch) :: (D, LCg.lst ys) :: (x.objsR bits wanted r lim tot ++ cs.flatMap CR.objs)))
    (hb1 : AllBare s₁.gens) (hps : TriplesOk ps.toList) (hsep : x.Sep) (hP : Pairs bits wanted x.bs cs) (hne : cs ≠ []) (hlen : cs.length ≤ 40) (ht0 : 0 ≤ tot) (ht1 : tot ≤ 100) (hn0 : 0 ≤ n) (hc : 97 ≤ c) (hc' : c ≤ 104)
    (h1 : o1.data = .cell (some (.int bits tb))) (h2 : o2.data = .cell (some (.ref D))) (h3 : o3.data = .cell v3) (hys : IntsAre ys ((placesOf c r.toNat).map fun k' => k'.fmod bits))
    (hApX : ApX L' I sl ch cs x) (hApH : ApH L' I sl ch cs) (hApI : ApI L' I sl) (hDX : ∀ b ∈ (405 : Addr) :: x.adr, @Ne Nat D b) (hDC : OffC L' [(D, LCg.lst ys)])
    (hM : MM m₁ true lim wanted r tot x.o ch tl tw tr tt) (hm8 : m₁ (Str.ofString "deed") = some (.int (n.fmod 6) td)) (hm9 : m₁ (Str.ofString "key") = some (.str (Str.mk #[c]) tk)) (hm10 : m₁ (Str.ofString "more") = some (.int (n.fdiv 48) tm)) (hm11 : m₁ (Str.ofString "inside") = some (.bool (cs.any fun x => allIn x.row ((placesOf c r.toNat).map fun k' => k'.fmod bits))))
    (hd : n.fmod 6 = 4) (hmo : (n.fdiv 48).fmod 3 = 0)
    (Q : Flow → Shared → Prop) (E : Value → Shared → Prop)
    (go : ∀ (x' : OR) (ps' : Array Value) (o3' : Obj) (ch' : Addr) (nch' : Nat) (cs' : List CR) (tot' : Int) (tt' : Tok) (v3' : Option Value) (s' : Shared) (m' : Str → Option Value), s'.os = s₁.os → AllBare s'.gens → Fr g L' s'.heap m' →
      News g L' s'.heap ((I, io) :: (405, tabObj ps') :: (L' + 1, o1) :: (L' + 2, o2) :: (L' + 3, o3') :: (sl, listOf ns.toArray ks) :: (ch', listOf (cs'.map fun c => Value.ref c.t).toArray nch') :: (x'.objsR bits wanted r lim tot' ++ cs'.flatMap CR.objs)) →
      TriplesOk ps'.toList → x'.Sep → Pairs bits wanted x'.bs cs' → cs' ≠ [] → cs'.length ≤ cs.length + 1 → 0 ≤ tot' → tot' ≤ tot + 1 → o3'.data = .cell v3' → ApX L' I sl ch' cs' x' → ApH L' I sl ch' cs' → MM m' true lim wanted r tot' x'.o ch' tl tw tr tt' → Q .next s') :
    wpAny (model PySem.Challenge.rw_vo0020_01.row.prog w) (callerA.deeper (envOfC (Str.ofString "law") sc L' fa cd)) (execs bd (envOfC (Str.ofString "law") sc L' fa cd)) Q E s₁ := by
  conv at hsc => rhs; whnf
  conv at hbd => rhs; whnf
  subst hsc hbd
  obtain ⟨hm1, hm2, hm3, hm4, hm5, hm6, hm7⟩ := hM
  w_on
  revert X'
  k_fill
  intro X'
  w_top on
  have hcs : ∀ c ∈ cs, c.Ok bits.toNat := hP.okC
  have hxl : x.bs.length = cs.length := hP.length
  have hxn : x.bs ≠ [] := fun e => hne (List.length_eq_zero_iff.mp (by rw [← hxl, e]; rfl))
  have N2 : News g L' s₁.heap ((I, io) :: (405, tabObj ps) :: (L' + 1, o1) :: (L' + 2, o2) :: (L' + 3, o3) :: (sl, listOf ns.toArray ks) :: (ch, listOf (cs.map fun c => Value.ref c.t).toArray nch) :: (D, LCg.lst ys) :: (x.o, instObj 520 x.d) :: (x.d, dictOf (rDict bits wanted lim x.z tot x.l) x.n) :: (x.l, listOf (refsOf x.bs).toArray x.k) :: (blObjs bits wanted r x.bs ++ cs.flatMap CR.objs)) := N1
  clear N1
  rw [hd] at hm8
  have hxl60 : x.bs.length ≤ 60 := by omega
  have hlen50 : cs.length ≤ 50 := by omega
  have htot1 : tot ≤ tot + 1 := by omega
  iterate 27 (try walk_at "my step")
  refine PySem.W.ite_pos (by simp [hmo]) ?_
  iterate 9 (try walk_at "my step")
  try dsimp only
  with_reducible rename Fr _ _ _ _ => F3
  with_reducible rename News _ _ _ _ => N3
  have h405 : (405 : Addr) ∉ x.adr := tabNotR (bits := bits) (wanted := wanted) (r := r) (lim := lim) (tot := tot) (ps := ps) (rest := x.objsR bits wanted r lim tot) (subN N3 fun q hq => by
    simp only [OR.objsR, List.mem_cons, List.mem_append] at hq ⊢
    grind) (fun q hq => hq)
  obtain ⟨tl0, bl0, hbs⟩ : ∃ tl0 bl0, x.bs = tl0 ++ [bl0] := lastSplit hxn
  have C3 := c_pushR w bits wanted r lim tot hb hb' hw hw' hr hr1 hr2 x hxl60 hsep tl0 bl0 hbs
  k_dflt (refine useCon C3 rfl B' F3 X' N3 T' M' rfl ((405, tabObj ps) :: ((I, io) :: (L' + 1, o1) :: (L' + 2, o2) :: (L' + 3, o3) :: (sl, listOf ns.toArray ks) :: (ch, listOf (cs.map fun c => Value.ref c.t).toArray nch) :: (D, LCg.lst ys) :: cs.flatMap CR.objs)) ?_ ?_ (hApX.hap2 hDX h405 fun b hb => by rw [← adrR (bits := bits) (wanted := wanted) (r := r) (lim := lim) (tot := tot)]; exact List.mem_map_of_mem hb) (by ktr_room) (by ktr_units) hb1 ?_)
  · intro q hq
    simp only [OR.objsR, List.mem_cons, List.mem_append] at hq ⊢
    grind
  · intro q hq
    simp only [List.mem_cons, List.mem_append] at hq ⊢
    grind
  rintro v objs' s3 hos3 hb3 F4 N4 A4 ⟨⟨o5, d5, l5, z5, n5, k5, bs5⟩, rfl, e4, e5, e6, rfl, e8, b, e1, e2, e3, e7⟩
  dsimp only at e4 e5 e6 e7
  subst e4
  have hAp1 : ApX L' I sl ch cs ⟨x.o, d5, l5, z5, n5, k5, bs5⟩ := ApX.of2 hApX A4 restAdr onlyR
  have N5 := subN (b := (I, io) :: (405, tabObj ps) :: (L' + 1, o1) :: (L' + 2, o2) :: (L' + 3, o3) :: (sl, listOf ns.toArray ks) :: (ch, listOf (cs.map fun c => Value.ref c.t).toArray nch) :: (D, LCg.lst ys) :: (OR.objsR bits wanted r lim tot ⟨x.o, d5, l5, z5, n5, k5, bs5⟩ ++ cs.flatMap CR.objs)) N4 (fun q hq => by
    simp only [List.mem_cons, List.mem_append] at hq ⊢
    grind)
  clear N4 N3 F3
  iterate 13 (try walk_at "my step")
  try dsimp only
  with_reducible rename Fr _ _ _ _ => F6
  with_reducible rename News _ _ _ _ => N6
  have hlimb : 0 ≤ lim ∧ lim ≤ 4 := ⟨by omega, by omega⟩
  have hcsl : 1 ≤ (cs.map fun c => Value.ref c.t).length := by rw [List.length_map]; exact List.length_pos_iff.mpr hne
  have hcsu : (cs.map fun c => Value.ref c.t).length ≤ 60 := by rw [List.length_map]; omega
  have C9 := fun t1 t2 => c_longer w ch (cs.map fun c => Value.ref c.t) nch bits lim t1 t2 hb hb' hlimb.1 hlimb.2 hcsu hcsl
  k_dflt (refine useConK (C9 _ _) rfl B' F6 X' N6 T' M' rfl (by walk_at "my subset") ?hk (by ktr_room) (by ktr_units) hb3 ?_)
  case hk =>
    rintro v objs' ⟨l, t, r9, rs, tk, -, rfl, -⟩ q hq
    exact .tail _ (.tail _ (.tail _ hq))
  rintro v objs' s4 hos4 hb4 F7 N7 A7 ⟨l, t, r9, rs, tk9, rfl, rfl, hI9, n1, n2, n3⟩
  have hAn := hAp1.new (ch' := l) (cs' := longer lim cs ++ [newRow bits t r9 rs tk9]) (adrR (bits := bits) (wanted := wanted) (r := r) (lim := lim) (tot := tot) _) (longerAp (io := io) (ot := tabObj ps) (o1 := o1) (o2 := o2) (o3 := o3) (os := listOf ns.toArray ks) (hAp1.ap hApH (adrR (bits := bits) (wanted := wanted) (r := r) (lim := lim) (tot := tot) _)) A7 fun q hq => by
    simp only [OR.objsR, List.mem_cons, List.mem_append] at hq ⊢
    grind)
  have N9 := longerN (I := I) (sl := sl) (io := io) (ot := tabObj ps) (o1 := o1) (o2 := o2) (o3 := o3) (os := listOf ns.toArray ks) (bits := bits) (xo := OR.objsR bits wanted r lim tot ⟨x.o, d5, l5, z5, n5, k5, bs5⟩) N7 (fun q hq => by
    simp only [OR.objsR, List.mem_cons, List.mem_append] at hq ⊢
    grind)
  clear N7 N6 F6
  iterate 4 (try walk_at "my step")
  try dsimp only
  with_reducible rename Fr _ _ _ _ => F8
  with_reducible rename News _ _ _ _ => N8
  have hPn : Pairs bits wanted bs5 (longer lim cs ++ [newRow bits t r9 rs tk9]) := by
    rw [e7]
    exact (hP.kept hl).append (Pairs.one (Pair.fresh hb hw e1 e2 e3 rfl hI9 rfl))
  have hln : (longer lim cs ++ [newRow bits t r9 rs tk9]).length ≤ cs.length + 1 := by rw [List.length_append]; exact Nat.succ_le_succ (longer_length lim cs)
  refine tailR w _ (by rfl) _ (by rfl) bits wanted r lim mg mb p loose g L' fa cd _ (fun y => if y = Str.ofString "chain" then some (.ref l) else m₁ y) X' T' M' B' ⟨x.o, d5, l5, z5, n5, k5, bs5⟩ ps o1 o2 o3 sl l I io ns ks 0 (longer lim cs ++ [newRow bits t r9 rs tk9]) tot tl tt (by exact F8) (by exact N8) (by exact hb4) hPn.length (Nat.le_trans hln (Nat.succ_le_of_lt (Nat.lt_of_le_of_lt hlen (by decide)))) hm1 hm2 hm5 rfl hm7 Q E ?_
  intro s9 f1 f2 F9 N9
  exact go ⟨x.o, d5, l5, z5, n5, k5, bs5⟩ ps o3 l 0 (longer lim cs ++ [newRow bits t r9 rs tk9]) tot tt v3 s9 _ (f1.trans (hos4.trans hos3)) f2 F9 N9 hps e8 hPn (by simp) hln ht0 htot1 h3 hAn.1 hAn.2 ⟨hm1, hm2, hm3, hm4, hm5, rfl, hm7⟩
end
end Mine
end
section
open PySem PySem.W PyProof.Rows PySem.Calls
namespace Mine
section
set_option maxHeartbeats 8000000 in
theorem turnE (w : World) (sc : Scope) (hsc : sc = lawScope) (bd : List Stmt) (hbd : bd = lawLoop) (bits wanted r lim : Int) (hb : 4 ≤ bits) (hb' : bits ≤ 19) (hw : 1 ≤ wanted) (hw' : wanted ≤ 4) (hr : ((13862943611198906 * bits).fdiv wanted + 10000000000000000).fdiv (2 * 10000000000000000) = r) (hr1 : 1 ≤ r) (hr2 : r ≤ 13) (hl : lim = 0)
    (mg mb : Str → Option Value) (p : Program) (loose : List Str) (g : Heap) (L' fa : Addr) (cd : Value) (X' : (Mine.hd.heap_39 w.params).In g) (T' : TopRead p loose mg mb g) (M' : BM mg g) (B' : Below callerA g [] g)
    (s₁ : Shared) (m₁ : Str → Option Value) (x : OR) (ps : Array Value) (o1 o2 o3 : Obj) (sl ch I : Addr) (io : Obj) (ns : List Value) (ks nch : Nat) (cs : List CR) (tot n : Int) (tl tw tr tt tb tn : Tok) (v2 v3 : Option Value)
    (F1 : Fr g L' s₁.heap m₁) (N1 : News g L' s₁.heap ((I, io) :: (405, tabObj ps) :: (L' + 1, o1) :: (L' + 2, o2) :: (L' + 3, o3) :: (sl, listOf ns.toArray ks) :: (ch, listOf (cs.map fun c => Value.ref c.t).toArray nch) :: (x.objsE bits wanted r lim tot ++ cs.flatMap CR.objs)))
    (hb1 : AllBare s₁.gens) (hps : TriplesOk ps.toList) (hsep : x.Sep) (hP : Pairs bits wanted x.bs cs) (hne : cs ≠ []) (hlen : cs.length ≤ 40) (ht0 : 0 ≤ tot) (ht1 : tot ≤ 100) (hn0 : 0 ≤ n)
    (h1 : o1.data = .cell (some (.int bits tb))) (h2 : o2.data = .cell v2) (h3 : o3.data = .cell v3)
    (hApX : ApX L' I sl ch cs x) (hApH : ApH L' I sl ch cs) (hApI : ApI L' I sl) (hM : MM m₁ false lim wanted r tot x.o ch tl tw tr tt)
    (Q : Flow → Shared → Prop) (E : Value → Shared → Prop)
    (go : ∀ (x' : OR) (ps' : Array Value) (o2' o3' : Obj) (ch' : Addr) (nch' : Nat) (cs' : List CR) (tot' : Int) (tt' : Tok) (v2' v3' : Option Value) (s' : Shared) (m' : Str → Option Value), s'.os = s₁.os → AllBare s'.gens → Fr g L' s'.heap m' →
      News g L' s'.heap ((I, io) :: (405, tabObj ps') :: (L' + 1, o1) :: (L' + 2, o2') :: (L' + 3, o3') :: (sl, listOf ns.toArray ks) :: (ch', listOf (cs'.map fun c => Value.ref c.t).toArray nch') :: (x'.objsE bits wanted r lim tot' ++ cs'.flatMap CR.objs)) →
      TriplesOk ps'.toList → x'.Sep → Pairs bits wanted x'.bs cs' → cs' ≠ [] → cs'.length ≤ cs.length + 1 → 0 ≤ tot' → tot' ≤ tot + 1 → o2'.data = .cell v2' → o3'.data = .cell v3' → ApX L' I sl ch' cs' x' → ApH L' I sl ch' cs' → MM m' false lim wanted r tot' x'.o ch' tl tw tr tt' → Q .next s') :
    wpAny (model PySem.Challenge.rw_vo0020_01.row.prog w) (callerA.deeper (envOfC (Str.ofString "law") sc L' fa cd)) (assign (.Name (Str.ofString "n") ⟨315, 8, 315, 9⟩) (envOfC (Str.ofString "law") sc L' fa cd) (.int n tn))
      (fun _ s₂ => wpAny (model PySem.Challenge.rw_vo0020_01.row.prog w) (callerA.deeper (envOfC (Str.ofString "law") sc L' fa cd)) (execs bd (envOfC (Str.ofString "law") sc L' fa cd)) Q E s₂) E s₁ := by
  refine turnPre w sc hsc bd _ hbd rfl bits r hb hb' hr1 hr2 mg mb p loose g L' fa cd s₁ m₁ X' T' M' B' ps o1 o2 o3 sl ch I io ns ks nch cs (x.objsE bits wanted r lim tot) n tr tb tn v2 (.ref x.o) false lim wanted tot tl tw tt F1 N1 hb1 hn0 hP.okC (Nat.le_trans hlen (by decide)) h1 h2 (offAll hApI hApX hApH (adrE x)) hM.m1 hM.m2 hM.m3 hM.m4 hM.m5 hM.m6 hM.m7 Q E ?_
  intro c D ys o2' s' m' td tk tm hc hc' hos hbs F N hys h2' hDC hneD m1 m2 m3 m4 m5 m6 m7 m8 m9 m10 m11
  have hDX : ∀ b ∈ (405 : Addr) :: x.adr, @Ne Nat D b := by
    intro b hb9
    rcases List.mem_cons.mp hb9 with rfl | hb9
    · exact (hneD (405, tabObj ps) (.tail _ (.head _))).symm
    · rw [← adrE (bits := bits) (wanted := wanted) (r := r) (lim := lim) (tot := tot)] at hb9
      obtain ⟨q, hq, rfl⟩ := List.mem_map.mp hb9
      exact (hneD q (.tail _ (.tail _ (.tail _ (.tail _ (List.mem_append_left _ hq)))))).symm
  have hM' : MM m' false lim wanted r tot x.o ch tl tw tr tt := ⟨m1, m2, m3, m4, m5, m6, m7⟩
  have hgo : ∀ (x' : OR) (ps' : Array Value) (o3' : Obj) (ch' : Addr) (nch' : Nat) (cs' : List CR) (tot' : Int) (tt' : Tok) (v3' : Option Value) (s9 : Shared) (m9 : Str → Option Value), s9.os = s'.os → AllBare s9.gens → Fr g L' s9.heap m9 →
      News g L' s9.heap ((I, io) :: (405, tabObj ps') :: (L' + 1, o1) :: (L' + 2, o2') :: (L' + 3, o3') :: (sl, listOf ns.toArray ks) :: (ch', listOf (cs'.map fun c => Value.ref c.t).toArray nch') :: (x'.objsE bits wanted r lim tot' ++ cs'.flatMap CR.objs)) →
      TriplesOk ps'.toList → x'.Sep → Pairs bits wanted x'.bs cs' → cs' ≠ [] → cs'.length ≤ cs.length + 1 → 0 ≤ tot' → tot' ≤ tot + 1 → o3'.data = .cell v3' → ApX L' I sl ch' cs' x' → ApH L' I sl ch' cs' → MM m9 false lim wanted r tot' x'.o ch' tl tw tr tt' → Q .next s9 :=
    fun x' ps' o3' ch' nch' cs' tot' tt' v3' s9 m9 a1 a2 a3 a4 a5 a6 a7 a8 a9 b1 b2 b3 b4 b5 b6 => go x' ps' o2' o3' ch' nch' cs' tot' tt' _ v3' s9 m9 (a1.trans hos) a2 a3 a4 a5 a6 a7 a8 a9 b1 b2 h2' b3 b4 b5 b6
  have hN : News g L' s'.heap ((I, io) :: (405, tabObj ps) :: (L' + 1, o1) :: (L' + 2, o2') :: (L' + 3, o3) :: (sl, listOf ns.toArray ks) :: (ch, listOf (cs.map fun c => Value.ref c.t).toArray nch) :: (D, LCg.lst ys) :: (x.objsE bits wanted r lim tot ++ cs.flatMap CR.objs)) := N
  have hd6 : n.fmod 6 = 0 ∨ n.fmod 6 = 1 ∨ n.fmod 6 = 2 ∨ n.fmod 6 = 3 ∨ n.fmod 6 = 4 ∨ n.fmod 6 = 5 := by rw [Int.fmod_eq_emod_of_nonneg _ (by omega)]; omega
  rcases hd6 with hd | hd | hd | hd | hd | hd
  · exact brAdd0E w sc hsc _ rfl bits wanted r lim hb hb' hw hw' hr hr1 hr2 hl mg mb p loose g L' fa cd X' T' M' B' s' m' x ps o1 o2' o3 sl ch I D io ns ys ks nch cs tot n c tl tw tr tt tb td tk tm v3 F hN hbs hps hsep hP hne hlen ht0 ht1 hn0 hc hc' h1 h2' h3 hys hApX hApH hApI hDX hDC hM' m8 m9 m10 m11 hd Q E hgo
  · exact brAdd1E w sc hsc _ rfl bits wanted r lim hb hb' hw hw' hr hr1 hr2 hl mg mb p loose g L' fa cd X' T' M' B' s' m' x ps o1 o2' o3 sl ch I D io ns ys ks nch cs tot n c tl tw tr tt tb td tk tm v3 F hN hbs hps hsep hP hne hlen ht0 ht1 hn0 hc hc' h1 h2' h3 hys hApX hApH hApI hDX hDC hM' m8 m9 m10 m11 hd Q E hgo
  · exact brAddFE w sc hsc _ rfl bits wanted r lim hb hb' hw hw' hr hr1 hr2 hl mg mb p loose g L' fa cd X' T' M' B' s' m' x ps o1 o2' o3 sl ch I D io ns ys ks nch cs tot n c tl tw tr tt tb td tk tm v3 F hN hbs hps hsep hP hne hlen ht0 ht1 hn0 hc hc' h1 h2' h3 hys hApX hApH hApI hDX hDC hM' m8 m9 m10 m11 hd Q E hgo
  · exact brAskE w sc hsc _ rfl bits wanted r lim hb hb' hw hw' hr hr1 hr2 hl mg mb p loose g L' fa cd X' T' M' B' s' m' x ps o1 o2' o3 sl ch I D io ns ys ks nch cs tot n c tl tw tr tt tb td tk tm v3 F hN hbs hps hsep hP hne hlen ht0 ht1 hn0 hc hc' h1 h2' h3 hys hApX hApH hApI hDX hDC hM' m8 m9 m10 m11 hd Q E hgo
  · by_cases hmo : (n.fdiv 48).fmod 3 = 0
    · exact brPushE w sc hsc _ rfl bits wanted r lim hb hb' hw hw' hr hr1 hr2 hl mg mb p loose g L' fa cd X' T' M' B' s' m' x ps o1 o2' o3 sl ch I D io ns ys ks nch cs tot n c tl tw tr tt tb td tk tm v3 F hN hbs hps hsep hP hne hlen ht0 ht1 hn0 hc hc' h1 h2' h3 hys hApX hApH hApI hDX hDC hM' m8 m9 m10 m11 hd hmo Q E hgo
    · exact brInE w sc hsc _ rfl bits wanted r lim hb hb' hw hw' hr hr1 hr2 hl mg mb p loose g L' fa cd X' T' M' B' s' m' x ps o1 o2' o3 sl ch I D io ns ys ks nch cs tot n c tl tw tr tt tb td tk tm v3 F hN hbs hps hsep hP hne hlen ht0 ht1 hn0 hc hc' h1 h2' h3 hys hApX hApH hApI hDX hDC hM' m8 m9 m10 m11 hd hmo Q E hgo
  · exact brAltE w sc hsc _ rfl bits wanted r lim hb hb' hw hw' hr hr1 hr2 hl mg mb p loose g L' fa cd X' T' M' B' s' m' x ps o1 o2' o3 sl ch I D io ns ys ks nch cs tot n c tl tw tr tt tb td tk tm v3 F hN hbs hps hsep hP hne hlen ht0 ht1 hn0 hc hc' h1 h2' h3 hys hApX hApH hApI hDX hDC hM' m8 m9 m10 m11 hd Q E hgo
end
section
set_option maxHeartbeats 8000000 in
theorem turnR (w : World) (sc : Scope) (hsc : sc = lawScope) (bd : List Stmt) (hbd : bd = lawLoop) (bits wanted r lim : Int) (hb : 4 ≤ bits) (hb' : bits ≤ 19) (hw : 1 ≤ wanted) (hw' : wanted ≤ 4) (hr : ((13862943611198906 * bits).fdiv wanted + 10000000000000000).fdiv (2 * 10000000000000000) = r) (hr1 : 1 ≤ r) (hr2 : r ≤ 13) (hl : 1 ≤ lim) (hl4 : lim ≤ 4)
    (mg mb : Str → Option Value) (p : Program) (loose : List Str) (g : Heap) (L' fa : Addr) (cd : Value) (X' : (Mine.hd.heap_39 w.params).In g) (T' : TopRead p loose mg mb g) (M' : BM mg g) (B' : Below callerA g [] g)
    (s₁ : Shared) (m₁ : Str → Option Value) (x : OR) (ps : Array Value) (o1 o2 o3 : Obj) (sl ch I : Addr) (io : Obj) (ns : List Value) (ks nch : Nat) (cs : List CR) (tot n : Int) (tl tw tr tt tb tn : Tok) (v2 v3 : Option Value)
    (F1 : Fr g L' s₁.heap m₁) (N1 : News g L' s₁.heap ((I, io) :: (405, tabObj ps) :: (L' + 1, o1) :: (L' + 2, o2) :: (L' + 3, o3) :: (sl, listOf ns.toArray ks) :: (ch, listOf (cs.map fun c => Value.ref c.t).toArray nch) :: (x.objsR bits wanted r lim tot ++ cs.flatMap CR.objs)))
    (hb1 : AllBare s₁.gens) (hps : TriplesOk ps.toList) (hsep : x.Sep) (hP : Pairs bits wanted x.bs cs) (hne : cs ≠ []) (hlen : cs.length ≤ 40) (ht0 : 0 ≤ tot) (ht1 : tot ≤ 100) (hn0 : 0 ≤ n)
    (h1 : o1.data = .cell (some (.int bits tb))) (h2 : o2.data = .cell v2) (h3 : o3.data = .cell v3)
    (hApX : ApX L' I sl ch cs x) (hApH : ApH L' I sl ch cs) (hApI : ApI L' I sl) (hM : MM m₁ true lim wanted r tot x.o ch tl tw tr tt)
    (Q : Flow → Shared → Prop) (E : Value → Shared → Prop)
    (go : ∀ (x' : OR) (ps' : Array Value) (o2' o3' : Obj) (ch' : Addr) (nch' : Nat) (cs' : List CR) (tot' : Int) (tt' : Tok) (v2' v3' : Option Value) (s' : Shared) (m' : Str → Option Value), s'.os = s₁.os → AllBare s'.gens → Fr g L' s'.heap m' →
      News g L' s'.heap ((I, io) :: (405, tabObj ps') :: (L' + 1, o1) :: (L' + 2, o2') :: (L' + 3, o3') :: (sl, listOf ns.toArray ks) :: (ch', listOf (cs'.map fun c => Value.ref c.t).toArray nch') :: (x'.objsR bits wanted r lim tot' ++ cs'.flatMap CR.objs)) →
      TriplesOk ps'.toList → x'.Sep → Pairs bits wanted x'.bs cs' → cs' ≠ [] → cs'.length ≤ cs.length + 1 → 0 ≤ tot' → tot' ≤ tot + 1 → o2'.data = .cell v2' → o3'.data = .cell v3' → ApX L' I sl ch' cs' x' → ApH L' I sl ch' cs' → MM m' true lim wanted r tot' x'.o ch' tl tw tr tt' → Q .next s') :
    wpAny (model PySem.Challenge.rw_vo0020_01.row.prog w) (callerA.deeper (envOfC (Str.ofString "law") sc L' fa cd)) (assign (.Name (Str.ofString "n") ⟨315, 8, 315, 9⟩) (envOfC (Str.ofString "law") sc L' fa cd) (.int n tn))
      (fun _ s₂ => wpAny (model PySem.Challenge.rw_vo0020_01.row.prog w) (callerA.deeper (envOfC (Str.ofString "law") sc L' fa cd)) (execs bd (envOfC (Str.ofString "law") sc L' fa cd)) Q E s₂) E s₁ := by
  refine turnPre w sc hsc bd _ hbd rfl bits r hb hb' hr1 hr2 mg mb p loose g L' fa cd s₁ m₁ X' T' M' B' ps o1 o2 o3 sl ch I io ns ks nch cs (x.objsR bits wanted r lim tot) n tr tb tn v2 (.ref x.o) true lim wanted tot tl tw tt F1 N1 hb1 hn0 hP.okC (Nat.le_trans hlen (by decide)) h1 h2 (offAll hApI hApX hApH (adrR x)) hM.m1 hM.m2 hM.m3 hM.m4 hM.m5 hM.m6 hM.m7 Q E ?_
  intro c D ys o2' s' m' td tk tm hc hc' hos hbs F N hys h2' hDC hneD m1 m2 m3 m4 m5 m6 m7 m8 m9 m10 m11
  have hDX : ∀ b ∈ (405 : Addr) :: x.adr, @Ne Nat D b := by
    intro b hb9
    rcases List.mem_cons.mp hb9 with rfl | hb9
    · exact (hneD (405, tabObj ps) (.tail _ (.head _))).symm
    · rw [← adrR (bits := bits) (wanted := wanted) (r := r) (lim := lim) (tot := tot)] at hb9
      obtain ⟨q, hq, rfl⟩ := List.mem_map.mp hb9
      exact (hneD q (.tail _ (.tail _ (.tail _ (.tail _ (List.mem_append_left _ hq)))))).symm
  have hM' : MM m' true lim wanted r tot x.o ch tl tw tr tt := ⟨m1, m2, m3, m4, m5, m6, m7⟩
  have hgo : ∀ (x' : OR) (ps' : Array Value) (o3' : Obj) (ch' : Addr) (nch' : Nat) (cs' : List CR) (tot' : Int) (tt' : Tok) (v3' : Option Value) (s9 : Shared) (m9 : Str → Option Value), s9.os = s'.os → AllBare s9.gens → Fr g L' s9.heap m9 →
      News g L' s9.heap ((I, io) :: (405, tabObj ps') :: (L' + 1, o1) :: (L' + 2, o2') :: (L' + 3, o3') :: (sl, listOf ns.toArray ks) :: (ch', listOf (cs'.map fun c => Value.ref c.t).toArray nch') :: (x'.objsR bits wanted r lim tot' ++ cs'.flatMap CR.objs)) →
      TriplesOk ps'.toList → x'.Sep → Pairs bits wanted x'.bs cs' → cs' ≠ [] → cs'.length ≤ cs.length + 1 → 0 ≤ tot' → tot' ≤ tot + 1 → o3'.data = .cell v3' → ApX L' I sl ch' cs' x' → ApH L' I sl ch' cs' → MM m9 true lim wanted r tot' x'.o ch' tl tw tr tt' → Q .next s9 :=
    fun x' ps' o3' ch' nch' cs' tot' tt' v3' s9 m9 a1 a2 a3 a4 a5 a6 a7 a8 a9 b1 b2 b3 b4 b5 b6 => go x' ps' o2' o3' ch' nch' cs' tot' tt' _ v3' s9 m9 (a1.trans hos) a2 a3 a4 a5 a6 a7 a8 a9 b1 b2 h2' b3 b4 b5 b6
  have hN : News g L' s'.heap ((I, io) :: (405, tabObj ps) :: (L' + 1, o1) :: (L' + 2, o2') :: (L' + 3, o3) :: (sl, listOf ns.toArray ks) :: (ch, listOf (cs.map fun c => Value.ref c.t).toArray nch) :: (D, LCg.lst ys) :: (x.objsR bits wanted r lim tot ++ cs.flatMap CR.objs)) := N
  have hd6 : n.fmod 6 = 0 ∨ n.fmod 6 = 1 ∨ n.fmod 6 = 2 ∨ n.fmod 6 = 3 ∨ n.fmod 6 = 4 ∨ n.fmod 6 = 5 := by rw [Int.fmod_eq_emod_of_nonneg _ (by omega)]; omega
  rcases hd6 with hd | hd | hd | hd | hd | hd
  · exact brAdd0R w sc hsc _ rfl bits wanted r lim hb hb' hw hw' hr hr1 hr2 hl hl4 mg mb p loose g L' fa cd X' T' M' B' s' m' x ps o1 o2' o3 sl ch I D io ns ys ks nch cs tot n c tl tw tr tt tb td tk tm v3 F hN hbs hps hsep hP hne hlen ht0 ht1 hn0 hc hc' h1 h2' h3 hys hApX hApH hApI hDX hDC hM' m8 m9 m10 m11 hd Q E hgo
  · exact brAdd1R w sc hsc _ rfl bits wanted r lim hb hb' hw hw' hr hr1 hr2 hl hl4 mg mb p loose g L' fa cd X' T' M' B' s' m' x ps o1 o2' o3 sl ch I D io ns ys ks nch cs tot n c tl tw tr tt tb td tk tm v3 F hN hbs hps hsep hP hne hlen ht0 ht1 hn0 hc hc' h1 h2' h3 hys hApX hApH hApI hDX hDC hM' m8 m9 m10 m11 hd Q E hgo
  · exact brAddFR w sc hsc _ rfl bits wanted r lim hb hb' hw hw' hr hr1 hr2 hl hl4 mg mb p loose g L' fa cd X' T' M' B' s' m' x ps o1 o2' o3 sl ch I D io ns ys ks nch cs tot n c tl tw tr tt tb td tk tm v3 F hN hbs hps hsep hP hne hlen ht0 ht1 hn0 hc hc' h1 h2' h3 hys hApX hApH hApI hDX hDC hM' m8 m9 m10 m11 hd Q E hgo
  · exact brAskR w sc hsc _ rfl bits wanted r lim hb hb' hw hw' hr hr1 hr2 hl hl4 mg mb p loose g L' fa cd X' T' M' B' s' m' x ps o1 o2' o3 sl ch I D io ns ys ks nch cs tot n c tl tw tr tt tb td tk tm v3 F hN hbs hps hsep hP hne hlen ht0 ht1 hn0 hc hc' h1 h2' h3 hys hApX hApH hApI hDX hDC hM' m8 m9 m10 m11 hd Q E hgo
  · by_cases hmo : (n.fdiv 48).fmod 3 = 0
    · exact brPushR w sc hsc _ rfl bits wanted r lim hb hb' hw hw' hr hr1 hr2 hl hl4 mg mb p loose g L' fa cd X' T' M' B' s' m' x ps o1 o2' o3 sl ch I D io ns ys ks nch cs tot n c tl tw tr tt tb td tk tm v3 F hN hbs hps hsep hP hne hlen ht0 ht1 hn0 hc hc' h1 h2' h3 hys hApX hApH hApI hDX hDC hM' m8 m9 m10 m11 hd hmo Q E hgo
    · exact brInR w sc hsc _ rfl bits wanted r lim hb hb' hw hw' hr hr1 hr2 hl hl4 mg mb p loose g L' fa cd X' T' M' B' s' m' x ps o1 o2' o3 sl ch I D io ns ys ks nch cs tot n c tl tw tr tt tb td tk tm v3 F hN hbs hps hsep hP hne hlen ht0 ht1 hn0 hc hc' h1 h2' h3 hys hApX hApH hApI hDX hDC hM' m8 m9 m10 m11 hd hmo Q E hgo
  · by_cases hmo : (n.fdiv 48).fmod 2 = 0
    · by_cases hn1 : cs.length = 1
      · exact brPopXR w sc hsc _ rfl bits wanted r lim hb hb' hw hw' hr hr1 hr2 hl hl4 mg mb p loose g L' fa cd X' T' M' B' s' m' x ps o1 o2' o3 sl ch I D io ns ys ks nch cs tot n c tl tw tr tt tb td tk tm v3 F hN hbs hps hsep hP hne hlen ht0 ht1 hn0 hc hc' h1 h2' h3 hys hApX hApH hApI hDX hDC hM' m8 m9 m10 m11 hd hmo hn1 Q E hgo
      · exact brPopR w sc hsc _ rfl bits wanted r lim hb hb' hw hw' hr hr1 hr2 hl hl4 mg mb p loose g L' fa cd X' T' M' B' s' m' x ps o1 o2' o3 sl ch I D io ns ys ks nch cs tot n c tl tw tr tt tb td tk tm v3 F hN hbs hps hsep hP hne hlen ht0 ht1 hn0 hc hc' h1 h2' h3 hys hApX hApH hApI hDX hDC hM' m8 m9 m10 m11 hd hmo hn1 Q E hgo
    · exact brAltR w sc hsc _ rfl bits wanted r lim hb hb' hw hw' hr hr1 hr2 hl hl4 mg mb p loose g L' fa cd X' T' M' B' s' m' x ps o1 o2' o3 sl ch I D io ns ys ks nch cs tot n c tl tw tr tt tb td tk tm v3 F hN hbs hps hsep hP hne hlen ht0 ht1 hn0 hc hc' h1 h2' h3 hys hApX hApH hApI hDX hDC hM' m8 m9 m10 m11 hd hmo Q E hgo
end
section
/-- what holds at the head of every turn -/
def JE (bits wanted r lim : Int) (L' sl : Addr) (ns : List Value) (ks : Nat) (o1 : Obj) (tl tw tr : Tok) (i : Nat) (m : Str → Option Value) (news : List (Addr × Obj)) : Prop :=
  ∃ (x : OR) (ps : Array Value) (o2 o3 : Obj) (ch : Addr) (nch : Nat) (cs : List CR) (tot : Int) (tt : Tok) (v2 v3 : Option Value), news = ((405, tabObj ps) :: (L' + 1, o1) :: (L' + 2, o2) :: (L' + 3, o3) :: (sl, listOf ns.toArray ks) :: (ch, listOf (cs.map fun c => Value.ref c.t).toArray nch) :: (x.objsE bits wanted r lim tot ++ cs.flatMap CR.objs)) ∧
    TriplesOk ps.toList ∧ x.Sep ∧ Pairs bits wanted x.bs cs ∧ cs ≠ [] ∧ cs.length ≤ i + 1 ∧ 0 ≤ tot ∧ tot ≤ i ∧ o2.data = .cell v2 ∧ o3.data = .cell v3 ∧ ApX L' sl sl ch cs x ∧ ApH L' sl sl ch cs ∧ MM m false lim wanted r tot x.o ch tl tw tr tt
set_option maxHeartbeats 8000000 in
theorem loopE (w : World) (sc : Scope) (hsc : sc = lawScope) (bd : List Stmt) (hbd : bd = lawLoop) (bits wanted r lim : Int) (hb : 4 ≤ bits) (hb' : bits ≤ 19) (hw : 1 ≤ wanted) (hw' : wanted ≤ 4) (hr : ((13862943611198906 * bits).fdiv wanted + 10000000000000000).fdiv (2 * 10000000000000000) = r) (hr1 : 1 ≤ r) (hr2 : r ≤ 13) (hl : lim = 0)
    (mg mb : Str → Option Value) (p : Program) (loose : List Str) (g : Heap) (L' fa : Addr) (cd : Value) (X' : (Mine.hd.heap_39 w.params).In g) (T' : TopRead p loose mg mb g) (M' : BM mg g) (B' : Below callerA g [] g)
    (s₁ : Shared) (m₁ : Str → Option Value) (o1 : Obj) (sl : Addr) (ns : List Value) (nums : List Int) (ks : Nat) (tl tw tr tb : Tok) (news : List (Addr × Obj))
    (F1 : Fr g L' s₁.heap m₁) (N1 : News g L' s₁.heap news) (hb1 : AllBare s₁.gens) (h1 : o1.data = .cell (some (.int bits tb))) (hI : IntsAre ns nums) (hn0 : ∀ n ∈ nums, 0 ≤ n) (hnl : nums.length ≤ 30)
    (hs1 : @Ne Nat sl (L' + 1)) (hs2 : @Ne Nat sl (L' + 2)) (hs3 : @Ne Nat sl (L' + 3)) (h0 : JE bits wanted r lim L' sl ns ks o1 tl tw tr 0 m₁ news)
    (Q : Flow → Shared → Prop) (E : Value → Shared → Prop)
    (go : ∀ (m' : Str → Option Value) (news' : List (Addr × Obj)) (s' : Shared), s'.os = s₁.os → AllBare s'.gens → Fr g L' s'.heap m' → News g L' s'.heap news' → JE bits wanted r lim L' sl ns ks o1 tl tw tr ns.length m' news' → Q .next s')
    (hE : PassesOwn (model PySem.Challenge.rw_vo0020_01.row.prog w) (callerA.deeper (envOfC (Str.ofString "law") sc L' fa cd)) (envOfC (Str.ofString "law") sc L' fa cd) E) :
    wpAny (model PySem.Challenge.rw_vo0020_01.row.prog w) (callerA.deeper (envOfC (Str.ofString "law") sc L' fa cd)) (pyIter (.ref sl)) (fun it s₂ => codeAny (model PySem.Challenge.rw_vo0020_01.row.prog w) (callerA.deeper (envOfC (Str.ofString "law") sc L' fa cd)) (.forLoop (.Name (Str.ofString "n") ⟨315, 8, 315, 9⟩) it bd [] (envOfC (Str.ofString "law") sc L' fa cd)) (fun rr s' => match rr with | .ok f => Q f s' | .error e => cameBackBy (model PySem.Challenge.rw_vo0020_01.row.prog w) (callerA.deeper (envOfC (Str.ofString "law") sc L' fa cd)) (envOfC (Str.ofString "law") sc L' fa cd) E e s') s₂) E s₁ := by
  have hlist : ∀ m' news' (h' : Heap) i, JE bits wanted r lim L' sl ns ks o1 tl tw tr i m' news' → News g L' h' news' → h'.IsList sl ns.toArray := by
    rintro m' news' h' i ⟨x, ps, o2, o3, ch, nch, cs, tot, tt, v2, v3, rfl, -⟩ N
    exact News.isList N (.tail _ (.tail _ (.tail _ (.tail _ (.head _)))))
  refine iterListS (env := (envOfC (Str.ofString "law") sc L' fa cd)) (m := m₁) rfl F1 N1 (hlist _ _ _ 0 h0 N1) (Noisy s₁) (Noisy.put s₁) ⟨rfl, hb1⟩ (JE bits wanted r lim L' sl ns ks o1 tl tw tr) h0 (fun i m' news' h' hJ F N => hlist _ _ _ i hJ N) ?_ (fun m' news' s' hJ hZ F N => go m' news' s' hZ.1 hZ.2 F N hJ) hE
  rintro i v I io m₂ news₂ s₂ hv ⟨x, ps, o2, o3, ch, nch, cs, tot, tt, v2, v3, rfl, hps, hsep, hP, hne, hlen, ht0, ht1, h2, h3, hApX, hApH, hM⟩ ⟨hos, hbs⟩ F N hneI
  obtain ⟨n, tn, rfl, hn⟩ := IntsAre.at hI i v hv
  have hil : i < nums.length := by
    rcases Nat.lt_or_ge i nums.length with h | h
    · exact h
    · rw [List.getElem?_eq_none h] at hn; cases hn
  have hApI : ApI L' I sl := ⟨fun e => hneI (L' + 1, o1) (.tail _ (.head _)) e.symm, fun e => hneI (L' + 2, o2) (.tail _ (.tail _ (.head _))) e.symm, fun e => hneI (L' + 3, o3) (.tail _ (.tail _ (.tail _ (.head _)))) e.symm, hs1, hs2, hs3, fun e => hneI (sl, listOf ns.toArray ks) (.tail _ (.tail _ (.tail _ (.tail _ (.head _))))) e.symm⟩
  have hXI : ∀ b ∈ (405 : Addr) :: x.adr, @Ne Nat I b := by
    intro b hb9 e
    rcases List.mem_cons.mp hb9 with rfl | hb9
    · exact hneI _ (.head _) e.symm
    · rw [← adrE (bits := bits) (wanted := wanted) (r := r) (lim := lim) (tot := tot)] at hb9
      obtain ⟨q, hq, rfl⟩ := List.mem_map.mp hb9
      exact hneI q (.tail _ (.tail _ (.tail _ (.tail _ (.tail _ (.tail _ (List.mem_append_left _ hq))))))) e.symm
  have hHI : ∀ b ∈ chA ch cs, @Ne Nat I b := by
    intro b hb9 e
    rcases List.mem_cons.mp hb9 with rfl | hb9
    · exact hneI _ (.tail _ (.tail _ (.tail _ (.tail _ (.tail _ (.head _)))))) e.symm
    · rw [← rowsAdr] at hb9
      obtain ⟨q, hq, rfl⟩ := List.mem_map.mp hb9
      exact hneI q (.tail _ (.tail _ (.tail _ (.tail _ (.tail _ (.tail _ (List.mem_append_right _ hq))))))) e.symm
  refine turnE w sc hsc bd hbd bits wanted r lim hb hb' hw hw' hr hr1 hr2 hl mg mb p loose g L' fa cd X' T' M' B' s₂ m₂ x ps o1 o2 o3 sl ch I io ns ks nch cs tot n tl tw tr tt tb tn v2 v3 F N hbs hps hsep hP hne (by omega) ht0 (by omega) (hn0 n (List.mem_of_getElem? hn)) h1 h2 h3 (hApX.withI hXI) (hApH.withI hHI) hApI hM _ E ?_
  intro x' ps' o2' o3' ch' nch' cs' tot' tt' v2' v3' s' m' a1 a2 a3 a4 a5 a6 a7 a8 a9 b1 b2 b3 b4 b5 b6 b7
  refine ⟨⟨a1.trans hos, a2⟩, m', _, a3, a4, ?_, x', ps', o2', o3', ch', nch', cs', tot', tt', v2', v3', rfl, a5, a6, a7, a8, by omega, b1, by omega, b3, b4, b5.noI, b6.noI, b7⟩
  exact offIE hApI b5 b6
end
section
/-- what holds at the head of every turn -/
def JR (bits wanted r lim : Int) (L' sl : Addr) (ns : List Value) (ks : Nat) (o1 : Obj) (tl tw tr : Tok) (i : Nat) (m : Str → Option Value) (news : List (Addr × Obj)) : Prop :=
  ∃ (x : OR) (ps : Array Value) (o2 o3 : Obj) (ch : Addr) (nch : Nat) (cs : List CR) (tot : Int) (tt : Tok) (v2 v3 : Option Value), news = ((405, tabObj ps) :: (L' + 1, o1) :: (L' + 2, o2) :: (L' + 3, o3) :: (sl, listOf ns.toArray ks) :: (ch, listOf (cs.map fun c => Value.ref c.t).toArray nch) :: (x.objsR bits wanted r lim tot ++ cs.flatMap CR.objs)) ∧
    TriplesOk ps.toList ∧ x.Sep ∧ Pairs bits wanted x.bs cs ∧ cs ≠ [] ∧ cs.length ≤ i + 1 ∧ 0 ≤ tot ∧ tot ≤ i ∧ o2.data = .cell v2 ∧ o3.data = .cell v3 ∧ ApX L' sl sl ch cs x ∧ ApH L' sl sl ch cs ∧ MM m true lim wanted r tot x.o ch tl tw tr tt
set_option maxHeartbeats 8000000 in
theorem loopR (w : World) (sc : Scope) (hsc : sc = lawScope) (bd : List Stmt) (hbd : bd = lawLoop) (bits wanted r lim : Int) (hb : 4 ≤ bits) (hb' : bits ≤ 19) (hw : 1 ≤ wanted) (hw' : wanted ≤ 4) (hr : ((13862943611198906 * bits).fdiv wanted + 10000000000000000).fdiv (2 * 10000000000000000) = r) (hr1 : 1 ≤ r) (hr2 : r ≤ 13) (hl : 1 ≤ lim) (hl4 : lim ≤ 4)
    (mg mb : Str → Option Value) (p : Program) (loose : List Str) (g : Heap) (L' fa : Addr) (cd : Value) (X' : (Mine.hd.heap_39 w.params).In g) (T' : TopRead p loose mg mb g) (M' : BM mg g) (B' : Below callerA g [] g)
    (s₁ : Shared) (m₁ : Str → Option Value) (o1 : Obj) (sl : Addr) (ns : List Value) (nums : List Int) (ks : Nat) (tl tw tr tb : Tok) (news : List (Addr × Obj))
    (F1 : Fr g L' s₁.heap m₁) (N1 : News g L' s₁.heap news) (hb1 : AllBare s₁.gens) (h1 : o1.data = .cell (some (.int bits tb))) (hI : IntsAre ns nums) (hn0 : ∀ n ∈ nums, 0 ≤ n) (hnl : nums.length ≤ 30)
    (hs1 : @Ne Nat sl (L' + 1)) (hs2 : @Ne Nat sl (L' + 2)) (hs3 : @Ne Nat sl (L' + 3)) (h0 : JR bits wanted r lim L' sl ns ks o1 tl tw tr 0 m₁ news)
    (Q : Flow → Shared → Prop) (E : Value → Shared → Prop)
    (go : ∀ (m' : Str → Option Value) (news' : List (Addr × Obj)) (s' : Shared), s'.os = s₁.os → AllBare s'.gens → Fr g L' s'.heap m' → News g L' s'.heap news' → JR bits wanted r lim L' sl ns ks o1 tl tw tr ns.length m' news' → Q .next s')
    (hE : PassesOwn (model PySem.Challenge.rw_vo0020_01.row.prog w) (callerA.deeper (envOfC (Str.ofString "law") sc L' fa cd)) (envOfC (Str.ofString "law") sc L' fa cd) E) :
    wpAny (model PySem.Challenge.rw_vo0020_01.row.prog w) (callerA.deeper (envOfC (Str.ofString "law") sc L' fa cd)) (pyIter (.ref sl)) (fun it s₂ => codeAny (model PySem.Challenge.rw_vo0020_01.row.prog w) (callerA.deeper (envOfC (Str.ofString "law") sc L' fa cd)) (.forLoop (.Name (Str.ofString "n") ⟨315, 8, 315, 9⟩) it bd [] (envOfC (Str.ofString "law") sc L' fa cd)) (fun rr s' => match rr with | .ok f => Q f s' | .error e => cameBackBy (model PySem.Challenge.rw_vo0020_01.row.prog w) (callerA.deeper (envOfC (Str.ofString "law") sc L' fa cd)) (envOfC (Str.ofString "law") sc L' fa cd) E e s') s₂) E s₁ := by
  have hlist : ∀ m' news' (h' : Heap) i, JR bits wanted r lim L' sl ns ks o1 tl tw tr i m' news' → News g L' h' news' → h'.IsList sl ns.toArray := by
    rintro m' news' h' i ⟨x, ps, o2, o3, ch, nch, cs, tot, tt, v2, v3, rfl, -⟩ N
    exact News.isList N (.tail _ (.tail _ (.tail _ (.tail _ (.head _)))))
  refine iterListS (env := (envOfC (Str.ofString "law") sc L' fa cd)) (m := m₁) rfl F1 N1 (hlist _ _ _ 0 h0 N1) (Noisy s₁) (Noisy.put s₁) ⟨rfl, hb1⟩ (JR bits wanted r lim L' sl ns ks o1 tl tw tr) h0 (fun i m' news' h' hJ F N => hlist _ _ _ i hJ N) ?_ (fun m' news' s' hJ hZ F N => go m' news' s' hZ.1 hZ.2 F N hJ) hE
  rintro i v I io m₂ news₂ s₂ hv ⟨x, ps, o2, o3, ch, nch, cs, tot, tt, v2, v3, rfl, hps, hsep, hP, hne, hlen, ht0, ht1, h2, h3, hApX, hApH, hM⟩ ⟨hos, hbs⟩ F N hneI
  obtain ⟨n, tn, rfl, hn⟩ := IntsAre.at hI i v hv
  have hil : i < nums.length := by
    rcases Nat.lt_or_ge i nums.length with h | h
    · exact h
    · rw [List.getElem?_eq_none h] at hn; cases hn
  have hApI : ApI L' I sl := ⟨fun e => hneI (L' + 1, o1) (.tail _ (.head _)) e.symm, fun e => hneI (L' + 2, o2) (.tail _ (.tail _ (.head _))) e.symm, fun e => hneI (L' + 3, o3) (.tail _ (.tail _ (.tail _ (.head _)))) e.symm, hs1, hs2, hs3, fun e => hneI (sl, listOf ns.toArray ks) (.tail _ (.tail _ (.tail _ (.tail _ (.head _))))) e.symm⟩
  have hXI : ∀ b ∈ (405 : Addr) :: x.adr, @Ne Nat I b := by
    intro b hb9 e
    rcases List.mem_cons.mp hb9 with rfl | hb9
    · exact hneI _ (.head _) e.symm
    · rw [← adrR (bits := bits) (wanted := wanted) (r := r) (lim := lim) (tot := tot)] at hb9
      obtain ⟨q, hq, rfl⟩ := List.mem_map.mp hb9
      exact hneI q (.tail _ (.tail _ (.tail _ (.tail _ (.tail _ (.tail _ (List.mem_append_left _ hq))))))) e.symm
  have hHI : ∀ b ∈ chA ch cs, @Ne Nat I b := by
    intro b hb9 e
    rcases List.mem_cons.mp hb9 with rfl | hb9
    · exact hneI _ (.tail _ (.tail _ (.tail _ (.tail _ (.tail _ (.head _)))))) e.symm
    · rw [← rowsAdr] at hb9
      obtain ⟨q, hq, rfl⟩ := List.mem_map.mp hb9
      exact hneI q (.tail _ (.tail _ (.tail _ (.tail _ (.tail _ (.tail _ (List.mem_append_right _ hq))))))) e.symm
  refine turnR w sc hsc bd hbd bits wanted r lim hb hb' hw hw' hr hr1 hr2 hl hl4 mg mb p loose g L' fa cd X' T' M' B' s₂ m₂ x ps o1 o2 o3 sl ch I io ns ks nch cs tot n tl tw tr tt tb tn v2 v3 F N hbs hps hsep hP hne (by omega) ht0 (by omega) (hn0 n (List.mem_of_getElem? hn)) h1 h2 h3 (hApX.withI hXI) (hApH.withI hHI) hApI hM _ E ?_
  intro x' ps' o2' o3' ch' nch' cs' tot' tt' v2' v3' s' m' a1 a2 a3 a4 a5 a6 a7 a8 a9 b1 b2 b3 b4 b5 b6 b7
  refine ⟨⟨a1.trans hos, a2⟩, m', _, a3, a4, ?_, x', ps', o2', o3', ch', nch', cs', tot', tt', v2', v3', rfl, a5, a6, a7, a8, by omega, b1, by omega, b3, b4, b5.noI, b6.noI, b7⟩
  exact offIR hApI b5 b6
end
section
theorem lettersE {i c : Nat} (h : (Str.ofString "abcdefgh").cps[i]? = some c) : 97 ≤ c ∧ c ≤ 104 := by
  have h2 : ∀ c ∈ (Str.ofString "abcdefgh").cps.toList, 97 ≤ c ∧ c ≤ 104 := by decide +kernel
  exact h2 c (Array.mem_toList_iff.mpr (Array.mem_of_getElem? h))
set_option maxHeartbeats 8000000 in
theorem lastLoopE (w : World) (sc : Scope) (hsc : sc = lawScope) (bd : List Stmt) (hbd : bd = lawLast) (kp : Pos) (bits wanted r lim : Int) (hb : 4 ≤ bits) (hb' : bits ≤ 19) (hr1 : 1 ≤ r) (hr2 : r ≤ 13)
    (mg mb : Str → Option Value) (p : Program) (loose : List Str) (g : Heap) (L' fa : Addr) (cd : Value) (X' : (Mine.hd.heap_39 w.params).In g) (T' : TopRead p loose mg mb g) (M' : BM mg g) (B' : Below callerA g [] g)
    (s₁ : Shared) (m₁ : Str → Option Value) (x : OR) (ps : Array Value) (o1 o2 o3 : Obj) (sl ch : Addr) (ns : List Value) (ks nch : Nat) (cs : List CR) (tot : Int) (tl tw tr tt tb t9 : Tok)
    (F1 : Fr g L' s₁.heap m₁) (N1 : News g L' s₁.heap ((405, tabObj ps) :: (L' + 1, o1) :: (L' + 2, o2) :: (L' + 3, o3) :: (sl, listOf ns.toArray ks) :: (ch, listOf (cs.map fun c => Value.ref c.t).toArray nch) :: (x.objsE bits wanted r lim tot ++ cs.flatMap CR.objs)))
    (hb1 : AllBare s₁.gens) (hps : TriplesOk ps.toList) (hP : Pairs bits wanted x.bs cs) (hne : cs ≠ []) (hlen : cs.length ≤ 40)
    (h1 : o1.data = .cell (some (.int bits tb))) (hApX : ApX L' sl sl ch cs x)
    (hM : MM m₁ false lim wanted r tot x.o ch tl tw tr tt)
    (Q : Flow → Shared → Prop) (E : Value → Shared → Prop)
    (go : ∀ (ps' : Array Value) (s' : Shared) (m' : Str → Option Value), s'.os = s₁.os → AllBare s'.gens → Fr g L' s'.heap m' → News g L' s'.heap ((405, tabObj ps') :: (L' + 1, o1) :: (L' + 2, o2) :: (L' + 3, o3) :: (sl, listOf ns.toArray ks) :: (ch, listOf (cs.map fun c => Value.ref c.t).toArray nch) :: (x.objsE bits wanted r lim tot ++ cs.flatMap CR.objs)) → TriplesOk ps'.toList → MM m' false lim wanted r tot x.o ch tl tw tr tt → Q .next s')
    (hE : PassesOwn (model PySem.Challenge.rw_vo0020_01.row.prog w) (callerA.deeper (envOfC (Str.ofString "law") sc L' fa cd)) (envOfC (Str.ofString "law") sc L' fa cd) E) :
    wpAny (model PySem.Challenge.rw_vo0020_01.row.prog w) (callerA.deeper (envOfC (Str.ofString "law") sc L' fa cd)) (pyIter (.str (Str.ofString "abcdefgh") t9)) (fun it s₂ => codeAny (model PySem.Challenge.rw_vo0020_01.row.prog w) (callerA.deeper (envOfC (Str.ofString "law") sc L' fa cd)) (.forLoop (.Name (Str.ofString "key") kp) it bd [] (envOfC (Str.ofString "law") sc L' fa cd)) (fun rr s' => match rr with | .ok f => Q f s' | .error e => cameBackBy (model PySem.Challenge.rw_vo0020_01.row.prog w) (callerA.deeper (envOfC (Str.ofString "law") sc L' fa cd)) (envOfC (Str.ofString "law") sc L' fa cd) E e s') s₂) E s₁ := by
  refine wpAny_pyIter_ascii (by decide +kernel) ?_
  have hne0 : ∀ q ∈ ((405, tabObj ps) :: (L' + 1, o1) :: (L' + 2, o2) :: (L' + 3, o3) :: (sl, listOf ns.toArray ks) :: (ch, listOf (cs.map fun c => Value.ref c.t).toArray nch) :: (x.objsE bits wanted r lim tot ++ cs.flatMap CR.objs)), q.1 ≠ s₁.heap.objs.size := fun q hq => Nat.ne_of_lt (Heap.lt_size (N1 q hq).1)
  refine loopW (env := (envOfC (Str.ofString "law") sc L' fa cd)) (m := m₁) (Walks.strAscii rfl s₁.heap.objs.size (Str.ofString "abcdefgh") t9) (fun i h st => by obtain ⟨o, e, -⟩ := st; exact ⟨o, e⟩) ⟨_, Heap.get?_push_size _ rfl, rfl, rfl⟩ (next_is_new F1) (Nat.ne_of_lt F1.ns.lt) (F1.push _) (fun q hq => ⟨Heap.get?_push_of_some _ (N1 q hq).1, (N1 q hq).2⟩) hne0 (Noisy s₁) (Noisy.put s₁) ⟨rfl, hb1⟩ (fun _ => rfl)
    (fun _ m' news' => ∃ ps' : Array Value, news' = ((405, tabObj ps') :: (L' + 1, o1) :: (L' + 2, o2) :: (L' + 3, o3) :: (sl, listOf ns.toArray ks) :: (ch, listOf (cs.map fun c => Value.ref c.t).toArray nch) :: (x.objsE bits wanted r lim tot ++ cs.flatMap CR.objs)) ∧ TriplesOk ps'.toList ∧ MM m' false lim wanted r tot x.o ch tl tw tr tt) ⟨ps, rfl, hps, hM⟩ ?_ ?_ hE
  · rintro i v io m₂ news₂ s₂ hi ⟨c, u, hcv, rfl⟩ ⟨ps2, rfl, hps2, hM2⟩ ⟨hos, hbs⟩ F N hneI
    obtain ⟨hc, hc'⟩ := lettersE hcv
    have hXI : ∀ b ∈ (405 : Addr) :: x.adr, @Ne Nat s₁.heap.objs.size b := by
      intro b hb9 e
      rcases List.mem_cons.mp hb9 with rfl | hb9
      · exact hneI _ (.head _) e.symm
      · rw [← adrE (bits := bits) (wanted := wanted) (r := r) (lim := lim) (tot := tot)] at hb9
        obtain ⟨q, hq, rfl⟩ := List.mem_map.mp hb9
        exact hneI q (.tail _ (.tail _ (.tail _ (.tail _ (.tail _ (.tail _ (List.mem_append_left _ hq))))))) e.symm
    refine lastTurnE w sc hsc bd hbd kp bits wanted r lim hb hb' hr1 hr2 mg mb p loose g L' fa cd X' T' M' B' s₂ m₂ x ps2 o1 o2 o3 sl ch s₁.heap.objs.size io ns ks nch cs tot c tl tw tr tt tb u F N hbs hps2 hP hne hlen hc hc' h1 (hApX.withI hXI) hM2 _ E ?_
    intro ps3 s' m' a1 a2 a3 a4 a5 a6
    exact ⟨⟨a1.trans hos, a2⟩, m', _, a3, a4, fun q hq => (List.mem_cons.mp hq).elim (fun e => by rw [e]; exact hneI (405, tabObj ps2) (.head _)) (fun hq => hneI q (.tail _ hq)), ps3, rfl, a5, a6⟩
  · rintro m' news' s' ⟨ps2, rfl, hps2, hM2⟩ ⟨hos, hbs⟩ F N
    exact go ps2 s' m' hos hbs F N hps2 hM2
end
section
theorem lettersR {i c : Nat} (h : (Str.ofString "abcdefgh").cps[i]? = some c) : 97 ≤ c ∧ c ≤ 104 := by
  have h2 : ∀ c ∈ (Str.ofString "abcdefgh").cps.toList, 97 ≤ c ∧ c ≤ 104 := by decide +kernel
  exact h2 c (Array.mem_toList_iff.mpr (Array.mem_of_getElem? h))
set_option maxHeartbeats 8000000 in
theorem lastLoopR (w : World) (sc : Scope) (hsc : sc = lawScope) (bd : List Stmt) (hbd : bd = lawLast) (kp : Pos) (bits wanted r lim : Int) (hb : 4 ≤ bits) (hb' : bits ≤ 19) (hr1 : 1 ≤ r) (hr2 : r ≤ 13)
    (mg mb : Str → Option Value) (p : Program) (loose : List Str) (g : Heap) (L' fa : Addr) (cd : Value) (X' : (Mine.hd.heap_39 w.params).In g) (T' : TopRead p loose mg mb g) (M' : BM mg g) (B' : Below callerA g [] g)
    (s₁ : Shared) (m₁ : Str → Option Value) (x : OR) (ps : Array Value) (o1 o2 o3 : Obj) (sl ch : Addr) (ns : List Value) (ks nch : Nat) (cs : List CR) (tot : Int) (tl tw tr tt tb t9 : Tok)
    (F1 : Fr g L' s₁.heap m₁) (N1 : News g L' s₁.heap ((405, tabObj ps) :: (L' + 1, o1) :: (L' + 2, o2) :: (L' + 3, o3) :: (sl, listOf ns.toArray ks) :: (ch, listOf (cs.map fun c => Value.ref c.t).toArray nch) :: (x.objsR bits wanted r lim tot ++ cs.flatMap CR.objs)))
    (hb1 : AllBare s₁.gens) (hps : TriplesOk ps.toList) (hP : Pairs bits wanted x.bs cs) (hne : cs ≠ []) (hlen : cs.length ≤ 40)
    (h1 : o1.data = .cell (some (.int bits tb))) (hApX : ApX L' sl sl ch cs x)
    (hM : MM m₁ true lim wanted r tot x.o ch tl tw tr tt)
    (Q : Flow → Shared → Prop) (E : Value → Shared → Prop)
    (go : ∀ (ps' : Array Value) (s' : Shared) (m' : Str → Option Value), s'.os = s₁.os → AllBare s'.gens → Fr g L' s'.heap m' → News g L' s'.heap ((405, tabObj ps') :: (L' + 1, o1) :: (L' + 2, o2) :: (L' + 3, o3) :: (sl, listOf ns.toArray ks) :: (ch, listOf (cs.map fun c => Value.ref c.t).toArray nch) :: (x.objsR bits wanted r lim tot ++ cs.flatMap CR.objs)) → TriplesOk ps'.toList → MM m' true lim wanted r tot x.o ch tl tw tr tt → Q .next s')
    (hE : PassesOwn (model PySem.Challenge.rw_vo0020_01.row.prog w) (callerA.deeper (envOfC (Str.ofString "law") sc L' fa cd)) (envOfC (Str.ofString "law") sc L' fa cd) E) :
    wpAny (model PySem.Challenge.rw_vo0020_01.row.prog w) (callerA.deeper (envOfC (Str.ofString "law") sc L' fa cd)) (pyIter (.str (Str.ofString "abcdefgh") t9)) (fun it s₂ => codeAny (model PySem.Challenge.rw_vo0020_01.row.prog w) (callerA.deeper (envOfC (Str.ofString "law") sc L' fa cd)) (.forLoop (.Name (Str.ofString "key") kp) it bd [] (envOfC (Str.ofString "law") sc L' fa cd)) (fun rr s' => match rr with | .ok f => Q f s' | .error e => cameBackBy (model PySem.Challenge.rw_vo0020_01.row.prog w) (callerA.deeper (envOfC (Str.ofString "law") sc L' fa cd)) (envOfC (Str.ofString "law") sc L' fa cd) E e s') s₂) E s₁ := by
  refine wpAny_pyIter_ascii (by decide +kernel) ?_
  have hne0 : ∀ q ∈ ((405, tabObj ps) :: (L' + 1, o1) :: (L' + 2, o2) :: (L' + 3, o3) :: (sl, listOf ns.toArray ks) :: (ch, listOf (cs.map fun c => Value.ref c.t).toArray nch) :: (x.objsR bits wanted r lim tot ++ cs.flatMap CR.objs)), q.1 ≠ s₁.heap.objs.size := fun q hq => Nat.ne_of_lt (Heap.lt_size (N1 q hq).1)
  refine loopW (env := (envOfC (Str.ofString "law") sc L' fa cd)) (m := m₁) (Walks.strAscii rfl s₁.heap.objs.size (Str.ofString "abcdefgh") t9) (fun i h st => by obtain ⟨o, e, -⟩ := st; exact ⟨o, e⟩) ⟨_, Heap.get?_push_size _ rfl, rfl, rfl⟩ (next_is_new F1) (Nat.ne_of_lt F1.ns.lt) (F1.push _) (fun q hq => ⟨Heap.get?_push_of_some _ (N1 q hq).1, (N1 q hq).2⟩) hne0 (Noisy s₁) (Noisy.put s₁) ⟨rfl, hb1⟩ (fun _ => rfl)
    (fun _ m' news' => ∃ ps' : Array Value, news' = ((405, tabObj ps') :: (L' + 1, o1) :: (L' + 2, o2) :: (L' + 3, o3) :: (sl, listOf ns.toArray ks) :: (ch, listOf (cs.map fun c => Value.ref c.t).toArray nch) :: (x.objsR bits wanted r lim tot ++ cs.flatMap CR.objs)) ∧ TriplesOk ps'.toList ∧ MM m' true lim wanted r tot x.o ch tl tw tr tt) ⟨ps, rfl, hps, hM⟩ ?_ ?_ hE
  · rintro i v io m₂ news₂ s₂ hi ⟨c, u, hcv, rfl⟩ ⟨ps2, rfl, hps2, hM2⟩ ⟨hos, hbs⟩ F N hneI
    obtain ⟨hc, hc'⟩ := lettersR hcv
    have hXI : ∀ b ∈ (405 : Addr) :: x.adr, @Ne Nat s₁.heap.objs.size b := by
      intro b hb9 e
      rcases List.mem_cons.mp hb9 with rfl | hb9
      · exact hneI _ (.head _) e.symm
      · rw [← adrR (bits := bits) (wanted := wanted) (r := r) (lim := lim) (tot := tot)] at hb9
        obtain ⟨q, hq, rfl⟩ := List.mem_map.mp hb9
        exact hneI q (.tail _ (.tail _ (.tail _ (.tail _ (.tail _ (.tail _ (List.mem_append_left _ hq))))))) e.symm
    refine lastTurnR w sc hsc bd hbd kp bits wanted r lim hb hb' hr1 hr2 mg mb p loose g L' fa cd X' T' M' B' s₂ m₂ x ps2 o1 o2 o3 sl ch s₁.heap.objs.size io ns ks nch cs tot c tl tw tr tt tb u F N hbs hps2 hP hne hlen hc hc' h1 (hApX.withI hXI) hM2 _ E ?_
    intro ps3 s' m' a1 a2 a3 a4 a5 a6
    exact ⟨⟨a1.trans hos, a2⟩, m', _, a3, a4, fun q hq => (List.mem_cons.mp hq).elim (fun e => by rw [e]; exact hneI (405, tabObj ps2) (.head _)) (fun hq => hneI q (.tail _ hq)), ps3, rfl, a5, a6⟩
  · rintro m' news' s' ⟨ps2, rfl, hps2, hM2⟩ ⟨hos, hbs⟩ F N
    exact go ps2 s' m' hos hbs F N hps2 hM2
end
end Mine
end
section
open PySem PySem.W PyProof.Rows PySem.Calls
namespace Mine
local macro_rules | `(tactic| walk_at "LeaveR") => `(tactic| (refine' leaveR_ ?kF ?kN ?_; (case kF => k_asm); (case kN => k_asm); intro zF zN zA; (try dsimp only)))
local macro_rules | `(tactic| walk_at "eval Name") => `(tactic| (k_here; (with_reducible show wpAny _ _ (eval (Expr.Name _ _) (compEnvC _ _ _ _)) _ _ _); k_dflt (first
  | refine inBlock_global (by k_asm) (by k_asm) (by k_asm) (by k_is) ?_
  | refine inBlock_built (by k_asm) (by k_asm) (by k_asm) (by k_is) (by boot_by_name) (by decide) ?_)))
local macro_rules | `(tactic| walk_at "binaryOp Add") => `(tactic| (k_here; (with_reducible show wpAny _ _ (binaryOp _ (Value.ref _) (Value.ref _)) _ _ _); (with_reducible rename News _ _ _ _ => kN); simp only [slice1] at kN))
local macro_rules | `(tactic| walk_at "binaryOp Add ref ref") => `(tactic| (k_here; (with_reducible show wpAny _ _ (binaryOp _ (Value.ref _) (Value.ref _)) _ _ _); k_dflt (refine' addN ?F ?N ?a ?b ?z ?_; (case F => k_asm); (case N => k_asm); (case a => k_mem); (case b => k_mem); (case z => first | omega | (simp only [List.length_append, List.length_drop, List.length_cons, List.length_nil]; omega)); k_whole); intro D' h' F' N' l1; (try k_lt l1); (try k_sweep)))
local macro_rules | `(tactic| walk_at "my subset") => `(tactic| first | exact List.forall_mem_nil _ | (refine' List.forall_mem_cons.mpr ⟨?za, ?zb⟩; (case za => k_mem); (case zb => walk_at "my subset")) | (intro q9 hq9; walk_at "my tail"))
local macro_rules | `(tactic| walk_at "my tail") => `(tactic| first | assumption | (refine' List.Mem.tail _ ?_; walk_at "my tail"))
local macro_rules | `(tactic| walk_at "assign Tuple") => `(tactic| (k_here; (with_reducible show wpAny _ _ (assign (Expr.Tuple _ _ _) _ (Value.ref _)) _ _ _); k_dflt (refine' unpackN_ ?F ?N ⟨_, News.get ?N2 ?m, rfl, _, rfl⟩ rfl rfl rfl ?_; (case F => k_asm); (case N => k_asm); (case N2 => k_asm); (case m => k_mem); k_whole); intro h' F' N'; (try dsimp only); (try k_sweep)))
local macro_rules | `(tactic| k_mem) => `(tactic| ((with_reducible show List.Mem _ (List.flatMap _ _)); refine memOf ?_; assumption))
local macro_rules | `(tactic| k_all) => `(tactic| ((with_reducible show ∀ q ∈ List.flatMap _ _, _); refine' flatNe ?h ?z; (case h => assumption); (case z => (try dsimp only); omega)))
local macro_rules | `(tactic| walk_at "my bound") => do
  let a := Lean.mkIdent `hq0
  let b := Lean.mkIdent `hq1
  let c := Lean.mkIdent `hz0
  let d := Lean.mkIdent `hz1
  let e := Lean.mkIdent `hq2
  `(tactic| first | with_reducible assumption | exact $a _ | exact $b _ | exact $e _ | exact $c _ (by assumption) | exact $d _ (by assumption) | omega)
local macro_rules | `(tactic| walk_at "subscriptTail") => `(tactic| (k_here; (with_reducible show wpAny _ _ (subscriptTail _ _ (Value.ref _) (Value.int _ _)) _ _ _); k_dflt (refine' itemInts ?N ?m ?i ?z ?y ?x ?_ ?s ?g; (case s => with_unfolding_all rfl); (case g => intro _; with_unfolding_all rfl); (case N => k_asm); (case m => k_mem); (case i => assumption); (case z => walk_at "my bound"); (case y => walk_at "my bound"); (case x => (try simp only [List.length_map, List.length_range]); omega); k_whole); intro t'))
local macro_rules | `(tactic| k_enter) => `(tactic| (refine' inlineT ?k1 ?k2 ?k3 ?k4 ?k5 ?kA ?kF ?kK ?k6 ?k7 ?k8 ?k9 ?kB ?_ ?c2 ?c3 ?c4 ?c5; (case kA => exact rfl); (case kF => exact rfl); (case kK => first | exact rfl | assumption); (case k1 => k_asm); (case k2 => k_asm); (case k3 => k_asm); (case k4 => k_asm); (case k5 => k_asm); (case k6 => k_is); (case k7 => k_is); (case k8 => ktr_room); (case k9 => first | exact BindsTo.of_eq rfl | exact binds_K (by k_in) rfl (by k_is) rfl rfl rfl); (case c5 => decide); (case kB => exact locs rfl); (case c2 => exact rfl); (case c3 => exact rfl); (case c4 => exact rfl); k_whole; intro g' L' h' FG' F' N' B' X' T' l1; (try k_lt l1); (try dsimp only); (try k_lift B'); (try k_fold)))
local macro_rules | `(tactic| walk_at "my step") => `(tactic| first | (k_unfold; (try dsimp only)) | (k_end; wrow_close) | walk1 | (dsimp only; walk1) | (leave1; walk_say "STEP leave1"; try dsimp only))
local macro_rules | `(tactic| walk_at "ite") => `(tactic| (k_here; first | (refine PySem.W.ite_neg (by (try simp only [decide_eq_true_eq, beq_iff_eq, bne_iff_ne, ne_eq, Bool.not_eq_true', decide_eq_false_iff_not]); omega) ?_) | (refine PySem.W.ite_pos (by (try simp only [decide_eq_true_eq, beq_iff_eq, bne_iff_ne, ne_eq, Bool.not_eq_true', decide_eq_false_iff_not]); omega) ?_)))
local macro_rules | `(tactic| walk_at "binaryOp LShift int int") => `(tactic| (k_here; k_dflt (refine shift1 ?_)))
local macro_rules | `(tactic| walk_at "setItem ref int") => `(tactic| (k_here; (with_reducible show wpAny _ _ (setItem (Value.ref _) (Value.int _ _) (Value.int _ _)) _ _ _); k_dflt (refine' ksa_set ?k1 ?k2 ?k3 ?k4 ?k5 ?k6 ?k7 ?_; (case k1 => k_asm); (case k2 => k_asm); (case k3 => k_upd); (case k4 => with_reducible assumption); (case k5 => walk_at "my bound"); (case k6 => walk_at "my bound"); (case k7 => walk_at "my bound"); k_whole); intro h' F' N' hi' hl' hsum'))
local macro_rules | `(tactic| walk_at "my put") => `(tactic| first | exact PutL.head | (refine' PutL.tail ?za ?zb; (case za => rfl); (case zb => walk_at "my put")))
local macro_rules | `(tactic| walk_at "setAttr ref") => `(tactic| (k_here; k_dflt (refine' set_dict ?k1 ?k2 ?k3 ?k4 ?k5 ?k6 ?k7 ?k8 ?k9 ?k10 ?k11 ?k12 ?k13 ?_; (case k1 => k_asm); (case k2 => k_asm); (case k3 => k_asm); (case k4 => k_inst); (case k5 => exact rfl); (case k6 => k_is); (case k7 => k_is); (case k8 => k_is); (case k9 => k_is); (case k10 => k_get); (case k11 => (refine' PutL.eq ?zp _ _ _; (case zp => walk_at "my put"))); (case k12 => k_upd); (case k13 => exact Nat.le_of_ble_eq_true rfl); k_whole; intro h' F' N'; (try k_sweep))))
local macro_rules | `(tactic| walk_at "getAttr ref") => `(tactic| (k_here; k_dflt (refine' get_own ?k1 ?k2 ?k3 ?k4 ?k5 ?k6 ?k7 ?k8 ?k9 ?_; (case k1 => k_asm); (case k2 => k_asm); (case k3 => k_inst); (case k4 => k_is); (case k5 => k_is); (case k6 => k_is); (case k7 => k_is); (case k8 => k_get); (case k9 => k_handed); k_whole)))
local macro_rules | `(tactic| walk_at "getMethod ref") => `(tactic| (k_here; k_dflt (refine' method_inst ?k1 ?k2 ?k3 ?k4 ?k5 ?k6 ?k7 ?_; (case k1 => k_asm); (case k2 => k_asm); (case k3 => k_inst); (case k4 => k_is); (case k5 => k_is); (case k6 => k_is); (case k7 => k_get); k_whole)))
local macro_rules | `(tactic| walk_at "getMethod ref") => `(tactic| (k_here; (with_reducible show wpAny _ _ (getMethod (Value.ref _) (Str.ofString "_hash_func") _) _ _ _); k_dflt (refine' kmu_own ?k1 ?k2 ?k3 ?k4 ?k5 ?_; (case k1 => k_asm); (case k2 => k_asm); (case k3 => k_inst); (case k4 => k_is); (case k5 => k_is); k_whole)))
local macro_rules | `(tactic| walk_at "getMethod ref") => `(tactic| (k_here; (with_reducible show wpAny _ _ (getMethod (Value.ref _) (Str.ofString "_get_optimized_params") _) _ _ _); k_dflt (refine' kmu_cm ?k1 ?k2 ?k3 ?k4 ?k5 ?k6 ?k7 ?k8 ?k9 ?k10 ?k11 ?k12 ?k13 ?_; (case k1 => k_asm); (case k2 => k_asm); (case k3 => k_asm); (case k4 => k_inst); (case k5 => k_is); (case k6 => k_is); (case k7 => k_is); (case k8 => k_is); (case k9 => k_is); (case k10 => k_is); (case k11 => decide +kernel); (case k12 => k_get); (case k13 => k_is); k_whole; intro q' h' F' N' l1; (try k_lt l1); (try k_sweep))))
local macro_rules | `(tactic| walk_at "call builtin:len") => `(tactic| (k_here; (with_reducible show wpAny _ _ (call (Value.builtin _) [Value.ref _]) _ _ _); k_dflt (refine' lenN ?N ?m ?f ?_; (case N => k_asm); (case m => k_mem); (case f => first | assumption | omega | (simp only [List.length_append, List.length_cons, List.length_nil]; omega)); k_whole)))
local macro_rules | `(tactic| walk_at "eval ListComp") => `(tactic| (k_here; k_dflt (refine LCg.ListComp_U (F₀ := by k_asm) (by with_unfolding_all rfl) (by decide) (by rfl) (by decide) (by rfl) ?_)))
local macro_rules | `(tactic| walk_at "eval Name") => do
  let a1 := Lean.mkIdent `hm1
  let a2 := Lean.mkIdent `hm2
  let a3 := Lean.mkIdent `hm3
  let a4 := Lean.mkIdent `hm4
  let a5 := Lean.mkIdent `hm5
  let a6 := Lean.mkIdent `hm6
  let a7 := Lean.mkIdent `hm7
  let a8 := Lean.mkIdent `hm8
  let a9 := Lean.mkIdent `hm9
  let a10 := Lean.mkIdent `hm10
  let a11 := Lean.mkIdent `hm11
  `(tactic| (k_here; k_dflt (refine' nameX_L ?k1 ?k2 ?_ ?k3 ?k4; (case k1 => k_asm); (case k3 => rfl); (case k4 => rfl); (case k2 => first | exact $a1 | exact $a2 | exact $a3 | exact $a4 | exact $a5 | exact $a6 | exact $a7 | exact $a8 | exact $a9 | exact $a10 | exact $a11); k_whole)))
local macro_rules | `(tactic| k_mem) => `(tactic| ((with_reducible show List.Mem _ (_ ++ _)); first | exact memL (by assumption) | exact memR (by assumption)))
local macro_rules | `(tactic| walk_at "no such key") => `(tactic| fail)
local macro_rules | `(tactic| walk_at "no such key") => `(tactic| fail)
local macro_rules | `(tactic| walk_at "no such key") => `(tactic| fail)
local macro_rules | `(tactic| walk_at "no such key") => `(tactic| fail)
local macro_rules | `(tactic| walk_at "no such key") => `(tactic| fail)
local macro_rules | `(tactic| walk_at "no such key") => `(tactic| fail)
local macro_rules | `(tactic| walk_at "no such key") => `(tactic| fail)
section
set_option maxHeartbeats 8000000 in
theorem runE (w : World) (sc : Scope) (hsc : sc = lawScope) (bd : List Stmt) (hbd : bd = lawBody.drop 6) (bits wanted r lim : Int) (hb : 4 ≤ bits) (hb' : bits ≤ 19) (hw : 1 ≤ wanted) (hw' : wanted ≤ 4) (hr : ((13862943611198906 * bits).fdiv wanted + 10000000000000000).fdiv (2 * 10000000000000000) = r) (hr1 : 1 ≤ r) (hr2 : r ≤ 13) (hl : lim = 0)
    (mg mb : Str → Option Value) (p : Program) (loose : List Str) (g : Heap) (L' fa : Addr) (cd : Value) (X' : (Mine.hd.heap_39 w.params).In g) (T' : TopRead p loose mg mb g) (M' : BM mg g) (B' : Below callerA g [] g)
    (s₁ : Shared) (m₁ : Str → Option Value) (o1 o2 o3 : Obj) (Dn : Addr) (vs : List Value) (ms : List Int) (tl tw tr tb : Tok)
    (F1 : Fr g L' s₁.heap m₁) (N1 : News g L' s₁.heap [(Dn, listOf vs.toArray 0), (405, tabObj #[]), (L' + 1, o1), (L' + 2, o2), (L' + 3, o3)]) (hb1 : AllBare s₁.gens)
    (h1 : o1.data = .cell (some (.int bits tb))) (h2 : o2.data = .cell none) (h3 : o3.data = .cell none) (hIn : IntsAre vs ms) (hms0 : ∀ v ∈ ms, 0 ≤ v) (hmsl : 5 ≤ ms.length) (hmsu : ms.length ≤ 26) (hLb : @LT.lt Nat _ 405 L') (hDn : @LT.lt Nat _ (L' + 3) Dn)
    (hm1 : m₁ (Str.ofString "rotating") = some (.bool false)) (hm2 : m₁ (Str.ofString "limit") = some (.int lim tl)) (hm3 : m₁ (Str.ofString "wanted") = some (.int wanted tw)) (hm4 : m₁ (Str.ofString "rounds") = some (.int r tr)) (hm5 : m₁ (Str.ofString "numbers") = some (.ref Dn))
    (Q : Flow → Shared → Prop) (E : Value → Shared → Prop)
    (go : ∀ (ps' : Array Value) (s' : Shared) (m' : Str → Option Value) (news : List (Addr × Obj)), s'.os = s₁.os → AllBare s'.gens → Fr g L' s'.heap m' → News g L' s'.heap ((405, tabObj ps') :: news) → Q (.ret (.bool true)) s')
    (hE : PassesOwn (model PySem.Challenge.rw_vo0020_01.row.prog w) (callerA.deeper (envOfC (Str.ofString "law") sc L' fa cd)) (envOfC (Str.ofString "law") sc L' fa cd) E) :
    wpAny (model PySem.Challenge.rw_vo0020_01.row.prog w) (callerA.deeper (envOfC (Str.ofString "law") sc L' fa cd)) (execs bd (envOfC (Str.ofString "law") sc L' fa cd)) Q E s₁ := by
  conv at hsc => rhs; whnf
  conv at hbd => rhs; whnf
  subst hsc hbd
  w_on
  revert X'
  k_fill
  intro X'
  w_top on
  have hm6 := hm5
  have hm7 := hm5
  subst hl
  iterate 20 (try walk_at "my step")
  try dsimp only
  with_reducible rename Fr _ _ _ _ => F3
  with_reducible rename News _ _ _ _ => N3
  have C1 := fun t1 t2 => c_rowE w bits wanted r t1 t2 hb hb' hw hw' hr hr1 hr2
  k_dflt (refine useCon0 (C1 _ _) rfl B' F3 X' N3 T' M' rfl (by ktr_room) (by ktr_units) hb1 ?_)
  rintro v objs' s3 hos3 hb3 F4 N4 A4 ⟨b, x, rfl, rfl, hsep, hxb, e1, e2, e3⟩
  have N5 := subN (b := (405, tabObj #[]) :: (L' + 1, o1) :: (L' + 2, o2) :: (L' + 3, o3) :: (Dn, listOf vs.toArray 0) :: (x.objsE bits wanted r 0 0 ++ [])) N4 (fun q hq => by
    simp only [List.mem_cons, List.mem_append, List.not_mem_nil, or_false] at hq ⊢
    grind)
  clear N3 F3 N4
  iterate 16 (try walk_at "my step")
  try dsimp only
  with_reducible rename Fr _ _ _ _ => F5
  with_reducible rename News _ _ _ _ => N5
  k_here
  k_dflt (refine' KM.mul F5 N5 (News.isList N5 ?kl) (.cons 0 _ .nil) ?k1 ?k2 ?k3 ?_; (case kl => k_mem); (case k1 => omega); (case k2 => omega); (case k3 => (simp only [List.length_cons, List.length_nil]; omega)); k_whole)
  intro D1 h6 F6 N6 l6 hI6 n6 hn6 hm6 hz6 hz7
  clear hn6 hm6 hz6 hz7
  iterate 12 (try walk_at "my step")
  dsimp only
  iterate 2 (try walk_at "my step")
  k_here
  refine wpAny_For ?_ (by intro _; rfl)
  iterate 7 (try walk_at "my step")
  with_reducible rename Fr _ _ _ _ => F7
  with_reducible rename News _ _ _ _ => N7
  rename_i hA tkz lz hB lc0 Dt hC lc1 ch hD lc2 hE1 tk2 hF
  k_here
  k_dflt (refine' kmk_slice_lit ?yF ?yN ?yl ?yp ?yq ?ye ?_ ?ys ?yt ?yz; (case yF => exact F7); (case yN => exact N7); (case yp => exact IsPart.int _ _); (case yq => exact IsPart.none); (case ye => exact congrArg Array.toList (slice1 vs)); (case yl => exact News.isList N7 (by k_mem)); (case ys => with_unfolding_all rfl); (case yt => (intro _; with_unfolding_all rfl)); (case yz => (rw [List.size_toArray, IntsAre.length hIn, sizeLine_eq]; exact Nat.le_trans hmsu (by decide))); k_whole)
  intro sl h8 F8 N8 l8
  clear F7 N7
  simp only [flatten_replicate_one] at hI6 N8 l8
  have hAp := runAp (L := L') (sl := sl) (ch := ch) (x := x) (c := newRow bits Dt D1 (List.replicate bits.toNat (Value.int 0 tkz)) (tkz + 1)) (ys := x.objsE bits wanted r 0 0) (adrE x) rfl rfl hLb
    (fun q hq => ⟨A4 _ (.tail _ (.tail _ (.head _))) q hq, A4 _ (.tail _ (.tail _ (.tail _ (.head _)))) q hq, A4 _ (.tail _ (.tail _ (.tail _ (.tail _ (.head _))))) q hq⟩)
    (l6 _ (.tail _ (.tail _ (.tail _ (.tail _ (.head _))))))
    (fun q hq => l6 q (.tail _ (.tail _ (.tail _ (.tail _ (.tail _ (.tail _ (List.mem_append_left _ hq))))))))
    lc1.1 lc2.1 (l8 _ (.head _))
  have N9 : News g L' h8 ((405, tabObj #[]) :: (L' + 1, o1) :: (L' + 2, o2) :: (L' + 3, o3) :: (sl, listOf (List.drop 1 vs).toArray 0) :: (ch, listOf ([newRow bits Dt D1 (List.replicate bits.toNat (Value.int 0 tkz)) (tkz + 1)].map fun c => Value.ref c.t).toArray 0) :: (x.objsE bits wanted r 0 0 ++ [newRow bits Dt D1 (List.replicate bits.toNat (Value.int 0 tkz)) (tkz + 1)].flatMap CR.objs)) := subN N8 (fun q hq => by
    simp only [List.map_cons, List.map_nil, List.flatMap_cons, List.flatMap_nil, List.mem_cons, List.mem_append, List.not_mem_nil, or_false, List.append_nil] at hq ⊢
    grind)
  have hs1 : @Ne Nat sl (L' + 1) := Nat.ne_of_gt (l8 _ (.tail _ (.tail _ (.tail _ (.tail _ (.tail _ (.head _)))))))
  have hs2 : @Ne Nat sl (L' + 2) := Nat.ne_of_gt (l8 _ (.tail _ (.tail _ (.tail _ (.tail _ (.tail _ (.tail _ (.head _))))))))
  have hs3 : @Ne Nat sl (L' + 3) := Nat.ne_of_gt (l8 _ (.tail _ (.tail _ (.tail _ (.tail _ (.tail _ (.tail _ (.tail _ (.head _)))))))))
  clear N8 l8 l6
  have hP : Pairs bits wanted x.bs [newRow bits Dt D1 (List.replicate bits.toNat (Value.int 0 tkz)) (tkz + 1)] := by
    rw [hxb]
    exact Pairs.one (Pair.fresh hb hw e1 e2 e3 rfl hI6 rfl)
  have hT0 : TriplesOk (#[] : Array Value).toList := trivial
  refine loopE w _ (by rfl) _ (by rfl) bits wanted r 0 hb hb' hw hw' hr hr1 hr2 rfl mg mb p loose g L' fa cd X' T' M' B' _ _ o1 sl (List.drop 1 vs) (List.drop 1 ms) 0 tl tw tr tb _ (by exact F8) (by exact N9) (by exact hb3) h1 (hIn.drop 1) (fun n hn => hms0 n (List.mem_of_mem_drop hn)) (by rw [List.length_drop]; omega) hs1 hs2 hs3
    ?hJ _ E ?_ hE
  case hJ => exact ⟨x, #[], o2, o3, ch, 0, _, 0, _, none, none, rfl, hT0, hsep, hP, List.cons_ne_nil _ _, Nat.le_refl _, Int.le_refl _, Int.le_refl _, h2, h3, hAp.1, hAp.2, ⟨hm1, hm2, hm3, hm4, rfl, rfl, rfl⟩⟩
  clear F8 N9 hAp hP hsep hxb
  rintro m7 news7 s7 hos7 hb7 F10 N10 ⟨x7, ps7, p2, p3, ch7, nch7, cs7, tot7, tt7, v2, v3, rfl, hT7, hsep7, hP7, hne7, hlen7, ht0, ht1, h27, h37, hAX7, hAH7, hM7⟩
  dsimp only
  iterate 1 (try walk_at "my step")
  k_here
  refine wpAny_For ?_ (by intro _; rfl)
  iterate 1 (try walk_at "my step")
  have hvl : vs.length = ms.length := hIn.length
  refine lastLoopE w _ (by rfl) _ (by rfl) _ bits wanted r 0 hb hb' hr1 hr2 mg mb p loose g L' fa cd X' T' M' B' _ _ x7 ps7 o1 p2 p3 sl ch7 (List.drop 1 vs) 0 nch7 cs7 tot7 tl tw tr tt7 tb _ (by exact F10) (by exact N10) (by exact hb7) hT7 hP7 hne7 (by rw [List.length_drop] at hlen7; omega) h1 hAX7 hM7 _ E ?_ hE
  clear F10 N10 hM7 hAX7 hAH7
  intro ps8 s8 m8 hos8 hb8 F11 N11 hT8 hM8
  clear hm1 hm2 hm3 hm4 hm5 hm6 hm7
  obtain ⟨hm1, hm2, hm3, hm4, hm5, hm6, hm7⟩ := hM8
  have N12 : News g L' s8.heap ((405, tabObj ps8) :: (L' + 1, o1) :: (L' + 2, p2) :: (L' + 3, p3) :: (sl, listOf (List.drop 1 vs).toArray 0) :: (ch7, listOf (cs7.map fun c => Value.ref c.t).toArray nch7) :: (x7.o, instObj 443 x7.d) :: (x7.d, dictOf (eDict bits wanted 0 x7.z tot7 x7.l) x7.n) :: (x7.l, listOf (refsOf x7.bs).toArray x7.k) :: (blObjs bits wanted r x7.bs ++ cs7.flatMap CR.objs)) := N11
  clear N11
  dsimp only
  iterate 14 (try walk_at "my step")
  try dsimp only
  with_reducible rename Fr _ _ _ _ => F9
  with_reducible rename News _ _ _ _ => N9
  have hww : (wanted == wanted) = true := by simp
  rw [hww]
  exact go ps8 _ _ _ (hos8.trans (hos7.trans hos3)) hb8 F9 N9
end
section
set_option maxHeartbeats 8000000 in
theorem runR (w : World) (sc : Scope) (hsc : sc = lawScope) (bd : List Stmt) (hbd : bd = lawBody.drop 6) (bits wanted r lim : Int) (hb : 4 ≤ bits) (hb' : bits ≤ 19) (hw : 1 ≤ wanted) (hw' : wanted ≤ 4) (hr : ((13862943611198906 * bits).fdiv wanted + 10000000000000000).fdiv (2 * 10000000000000000) = r) (hr1 : 1 ≤ r) (hr2 : r ≤ 13) (hl : 1 ≤ lim) (hl4 : lim ≤ 4)
    (mg mb : Str → Option Value) (p : Program) (loose : List Str) (g : Heap) (L' fa : Addr) (cd : Value) (X' : (Mine.hd.heap_39 w.params).In g) (T' : TopRead p loose mg mb g) (M' : BM mg g) (B' : Below callerA g [] g)
    (s₁ : Shared) (m₁ : Str → Option Value) (o1 o2 o3 : Obj) (Dn : Addr) (vs : List Value) (ms : List Int) (tl tw tr tb : Tok)
    (F1 : Fr g L' s₁.heap m₁) (N1 : News g L' s₁.heap [(Dn, listOf vs.toArray 0), (405, tabObj #[]), (L' + 1, o1), (L' + 2, o2), (L' + 3, o3)]) (hb1 : AllBare s₁.gens)
    (h1 : o1.data = .cell (some (.int bits tb))) (h2 : o2.data = .cell none) (h3 : o3.data = .cell none) (hIn : IntsAre vs ms) (hms0 : ∀ v ∈ ms, 0 ≤ v) (hmsl : 5 ≤ ms.length) (hmsu : ms.length ≤ 26) (hLb : @LT.lt Nat _ 405 L') (hDn : @LT.lt Nat _ (L' + 3) Dn)
    (hm1 : m₁ (Str.ofString "rotating") = some (.bool true)) (hm2 : m₁ (Str.ofString "limit") = some (.int lim tl)) (hm3 : m₁ (Str.ofString "wanted") = some (.int wanted tw)) (hm4 : m₁ (Str.ofString "rounds") = some (.int r tr)) (hm5 : m₁ (Str.ofString "numbers") = some (.ref Dn))
    (Q : Flow → Shared → Prop) (E : Value → Shared → Prop)
    (go : ∀ (ps' : Array Value) (s' : Shared) (m' : Str → Option Value) (news : List (Addr × Obj)), s'.os = s₁.os → AllBare s'.gens → Fr g L' s'.heap m' → News g L' s'.heap ((405, tabObj ps') :: news) → Q (.ret (.bool true)) s')
    (hE : PassesOwn (model PySem.Challenge.rw_vo0020_01.row.prog w) (callerA.deeper (envOfC (Str.ofString "law") sc L' fa cd)) (envOfC (Str.ofString "law") sc L' fa cd) E) :
    wpAny (model PySem.Challenge.rw_vo0020_01.row.prog w) (callerA.deeper (envOfC (Str.ofString "law") sc L' fa cd)) (execs bd (envOfC (Str.ofString "law") sc L' fa cd)) Q E s₁ := by
  conv at hsc => rhs; whnf
  conv at hbd => rhs; whnf
  subst hsc hbd
  w_on
  revert X'
  k_fill
  intro X'
  w_top on
  have hm6 := hm5
  have hm7 := hm5
  iterate 22 (try walk_at "my step")
  try dsimp only
  with_reducible rename Fr _ _ _ _ => F3
  with_reducible rename News _ _ _ _ => N3
  have C1 := fun t1 t2 t3 => c_rowR w bits wanted r lim t1 t2 t3 hb hb' hw hw' hr hr1 hr2
  k_dflt (refine useCon0 (C1 _ _ _) rfl B' F3 X' N3 T' M' rfl (by ktr_room) (by ktr_units) hb1 ?_)
  rintro v objs' s3 hos3 hb3 F4 N4 A4 ⟨b, x, rfl, rfl, hsep, hxb, e1, e2, e3⟩
  have N5 := subN (b := (405, tabObj #[]) :: (L' + 1, o1) :: (L' + 2, o2) :: (L' + 3, o3) :: (Dn, listOf vs.toArray 0) :: (x.objsR bits wanted r lim 0 ++ [])) N4 (fun q hq => by
    simp only [List.mem_cons, List.mem_append, List.not_mem_nil, or_false] at hq ⊢
    grind)
  clear N3 F3 N4
  iterate 16 (try walk_at "my step")
  try dsimp only
  with_reducible rename Fr _ _ _ _ => F5
  with_reducible rename News _ _ _ _ => N5
  k_here
  k_dflt (refine' KM.mul F5 N5 (News.isList N5 ?kl) (.cons 0 _ .nil) ?k1 ?k2 ?k3 ?_; (case kl => k_mem); (case k1 => omega); (case k2 => omega); (case k3 => (simp only [List.length_cons, List.length_nil]; omega)); k_whole)
  intro D1 h6 F6 N6 l6 hI6 n6 hn6 hm6 hz6 hz7
  clear hn6 hm6 hz6 hz7
  iterate 12 (try walk_at "my step")
  dsimp only
  iterate 2 (try walk_at "my step")
  k_here
  refine wpAny_For ?_ (by intro _; rfl)
  iterate 7 (try walk_at "my step")
  with_reducible rename Fr _ _ _ _ => F7
  with_reducible rename News _ _ _ _ => N7
  rename_i hA tkz lz hB lc0 Dt hC lc1 ch hD lc2 hE1 tk2 hF
  k_here
  k_dflt (refine' kmk_slice_lit ?yF ?yN ?yl ?yp ?yq ?ye ?_ ?ys ?yt ?yz; (case yF => exact F7); (case yN => exact N7); (case yp => exact IsPart.int _ _); (case yq => exact IsPart.none); (case ye => exact congrArg Array.toList (slice1 vs)); (case yl => exact News.isList N7 (by k_mem)); (case ys => with_unfolding_all rfl); (case yt => (intro _; with_unfolding_all rfl)); (case yz => (rw [List.size_toArray, IntsAre.length hIn, sizeLine_eq]; exact Nat.le_trans hmsu (by decide))); k_whole)
  intro sl h8 F8 N8 l8
  clear F7 N7
  simp only [flatten_replicate_one] at hI6 N8 l8
  have hAp := runAp (L := L') (sl := sl) (ch := ch) (x := x) (c := newRow bits Dt D1 (List.replicate bits.toNat (Value.int 0 tkz)) (tkz + 1)) (ys := x.objsR bits wanted r lim 0) (adrR x) rfl rfl hLb
    (fun q hq => ⟨A4 _ (.tail _ (.tail _ (.head _))) q hq, A4 _ (.tail _ (.tail _ (.tail _ (.head _)))) q hq, A4 _ (.tail _ (.tail _ (.tail _ (.tail _ (.head _))))) q hq⟩)
    (l6 _ (.tail _ (.tail _ (.tail _ (.tail _ (.head _))))))
    (fun q hq => l6 q (.tail _ (.tail _ (.tail _ (.tail _ (.tail _ (.tail _ (List.mem_append_left _ hq))))))))
    lc1.1 lc2.1 (l8 _ (.head _))
  have N9 : News g L' h8 ((405, tabObj #[]) :: (L' + 1, o1) :: (L' + 2, o2) :: (L' + 3, o3) :: (sl, listOf (List.drop 1 vs).toArray 0) :: (ch, listOf ([newRow bits Dt D1 (List.replicate bits.toNat (Value.int 0 tkz)) (tkz + 1)].map fun c => Value.ref c.t).toArray 0) :: (x.objsR bits wanted r lim 0 ++ [newRow bits Dt D1 (List.replicate bits.toNat (Value.int 0 tkz)) (tkz + 1)].flatMap CR.objs)) := subN N8 (fun q hq => by
    simp only [List.map_cons, List.map_nil, List.flatMap_cons, List.flatMap_nil, List.mem_cons, List.mem_append, List.not_mem_nil, or_false, List.append_nil] at hq ⊢
    grind)
  have hs1 : @Ne Nat sl (L' + 1) := Nat.ne_of_gt (l8 _ (.tail _ (.tail _ (.tail _ (.tail _ (.tail _ (.head _)))))))
  have hs2 : @Ne Nat sl (L' + 2) := Nat.ne_of_gt (l8 _ (.tail _ (.tail _ (.tail _ (.tail _ (.tail _ (.tail _ (.head _))))))))
  have hs3 : @Ne Nat sl (L' + 3) := Nat.ne_of_gt (l8 _ (.tail _ (.tail _ (.tail _ (.tail _ (.tail _ (.tail _ (.tail _ (.head _)))))))))
  clear N8 l8 l6
  have hP : Pairs bits wanted x.bs [newRow bits Dt D1 (List.replicate bits.toNat (Value.int 0 tkz)) (tkz + 1)] := by
    rw [hxb]
    exact Pairs.one (Pair.fresh hb hw e1 e2 e3 rfl hI6 rfl)
  have hT0 : TriplesOk (#[] : Array Value).toList := trivial
  refine loopR w _ (by rfl) _ (by rfl) bits wanted r lim hb hb' hw hw' hr hr1 hr2 hl hl4 mg mb p loose g L' fa cd X' T' M' B' _ _ o1 sl (List.drop 1 vs) (List.drop 1 ms) 0 tl tw tr tb _ (by exact F8) (by exact N9) (by exact hb3) h1 (hIn.drop 1) (fun n hn => hms0 n (List.mem_of_mem_drop hn)) (by rw [List.length_drop]; omega) hs1 hs2 hs3
    ?hJ _ E ?_ hE
  case hJ => exact ⟨x, #[], o2, o3, ch, 0, _, 0, _, none, none, rfl, hT0, hsep, hP, List.cons_ne_nil _ _, Nat.le_refl _, Int.le_refl _, Int.le_refl _, h2, h3, hAp.1, hAp.2, ⟨hm1, hm2, hm3, hm4, rfl, rfl, rfl⟩⟩
  clear F8 N9 hAp hP hsep hxb
  rintro m7 news7 s7 hos7 hb7 F10 N10 ⟨x7, ps7, p2, p3, ch7, nch7, cs7, tot7, tt7, v2, v3, rfl, hT7, hsep7, hP7, hne7, hlen7, ht0, ht1, h27, h37, hAX7, hAH7, hM7⟩
  dsimp only
  iterate 1 (try walk_at "my step")
  k_here
  refine wpAny_For ?_ (by intro _; rfl)
  iterate 1 (try walk_at "my step")
  have hvl : vs.length = ms.length := hIn.length
  refine lastLoopR w _ (by rfl) _ (by rfl) _ bits wanted r lim hb hb' hr1 hr2 mg mb p loose g L' fa cd X' T' M' B' _ _ x7 ps7 o1 p2 p3 sl ch7 (List.drop 1 vs) 0 nch7 cs7 tot7 tl tw tr tt7 tb _ (by exact F10) (by exact N10) (by exact hb7) hT7 hP7 hne7 (by rw [List.length_drop] at hlen7; omega) h1 hAX7 hM7 _ E ?_ hE
  clear F10 N10 hM7 hAX7 hAH7
  intro ps8 s8 m8 hos8 hb8 F11 N11 hT8 hM8
  clear hm1 hm2 hm3 hm4 hm5 hm6 hm7
  obtain ⟨hm1, hm2, hm3, hm4, hm5, hm6, hm7⟩ := hM8
  have N12 : News g L' s8.heap ((405, tabObj ps8) :: (L' + 1, o1) :: (L' + 2, p2) :: (L' + 3, p3) :: (sl, listOf (List.drop 1 vs).toArray 0) :: (ch7, listOf (cs7.map fun c => Value.ref c.t).toArray nch7) :: (x7.o, instObj 520 x7.d) :: (x7.d, dictOf (rDict bits wanted lim x7.z tot7 x7.l) x7.n) :: (x7.l, listOf (refsOf x7.bs).toArray x7.k) :: (blObjs bits wanted r x7.bs ++ cs7.flatMap CR.objs)) := N11
  clear N11
  dsimp only
  iterate 14 (try walk_at "my step")
  try dsimp only
  with_reducible rename Fr _ _ _ _ => F9
  with_reducible rename News _ _ _ _ => N9
  have hww : (wanted == wanted) = true := by simp
  rw [hww]
  exact go ps8 _ _ _ (hos8.trans (hos7.trans hos3)) hb8 F9 N9
end
section
theorem bitsBd (a : Int) : 4 ≤ (a.fdiv 8).fmod 16 + 4 ∧ (a.fdiv 8).fmod 16 + 4 ≤ 19 := by rw [Int.fmod_eq_emod_of_nonneg _ (by decide)]; omega
theorem limBd (a : Int) : 1 ≤ (a.fdiv 2).fmod 4 + 1 ∧ (a.fdiv 2).fmod 4 + 1 ≤ 4 := by rw [Int.fmod_eq_emod_of_nonneg _ (by decide)]; omega
theorem wantBd (a : Int) : 1 ≤ (a.fdiv 128).fmod 4 + 1 ∧ (a.fdiv 128).fmod 4 + 1 ≤ 4 := by rw [Int.fmod_eq_emod_of_nonneg _ (by decide)]; omega
set_option maxHeartbeats 8000000 in
theorem lawRun (w : World) (sc : Scope) (hsc : sc = lawScope) (bd : List Stmt) (hbd : bd = lawBody)
    (mg mb : Str → Option Value) (p : Program) (loose : List Str) (g : Heap) (L' fa : Addr) (cd : Value) (X' : (Mine.hd.heap_39 w.params).In g) (T' : TopRead p loose mg mb g) (M' : BM mg g) (B' : Below callerA g [] g)
    (s₁ : Shared) (m₁ : Str → Option Value) (o1 o2 o3 : Obj) (lst : Addr) (its : List Value) (nums : List Int)
    (F1 : Fr g L' s₁.heap m₁) (N1 : News g L' s₁.heap [(405, tabObj #[]), (L' + 1, o1), (L' + 2, o2), (L' + 3, o3)]) (hb1 : AllBare s₁.gens) (h1 : o1.data = .cell none) (h2 : o2.data = .cell none) (h3 : o3.data = .cell none)
    (hL : g.IsList lst its.toArray) (hI : IntsAre its nums) (hn63 : nums.length ≤ 63) (hm1 : m₁ (Str.ofString "script") = some (.ref lst)) (hLb : @LT.lt Nat _ 405 L')
    (Q : Flow → Shared → Prop) (E : Value → Shared → Prop)
    (go : ∀ (ps' : Array Value) (s' : Shared) (m' : Str → Option Value) (news : List (Addr × Obj)), s'.os = s₁.os → AllBare s'.gens → Fr g L' s'.heap m' → News g L' s'.heap ((405, tabObj ps') :: news) → Q (.ret (.bool true)) s')
    (hE : PassesOwn (model PySem.Challenge.rw_vo0020_01.row.prog w) (callerA.deeper (envOfC (Str.ofString "law") sc L' fa cd)) (envOfC (Str.ofString "law") sc L' fa cd) E) :
    wpAny (model PySem.Challenge.rw_vo0020_01.row.prog w) (callerA.deeper (envOfC (Str.ofString "law") sc L' fa cd)) (execs bd (envOfC (Str.ofString "law") sc L' fa cd)) Q E s₁ := by
  conv at hsc => rhs; whnf
  conv at hbd => rhs; whnf
  subst hsc hbd
  w_on
  revert X'
  k_fill
  intro X'
  w_top on
  have hm2 := hm1
  have hm3 := hm1
  have hm4 := hm1
  have hm5 := hm1
  have hm6 := hm1
  have hm7 := hm1
  have hil := IntsAre.length hI
  iterate 6 (try walk_at "my step")
  try dsimp only
  iterate 6 (try walk_at "my step")
  try dsimp only
  iterate 6 (try walk_at "my step")
  try dsimp only
  iterate 6 (try walk_at "my step")
  try dsimp only
  iterate 6 (try walk_at "my step")
  try dsimp only
  iterate 5 (try walk_at "my step")
  rename_i D0 ws h0 hI0 hC0 hL0 l0 hk1 hk2 g5 hI8 hL8 D5 h5 tk5 o15 D6 h6 F6 N6 l6
  have hys : ys.length + 5 ≤ 1000 := by rw [hL8, List.length_map]; omega
  k_here
  k_dflt (refine' addN ?yF ?yN ?ya ?yb ?yz ?_; (case yF => exact F6); (case yN => exact N6); (case ya => k_mem); (case yb => k_mem); (case yz => exact hys); k_whole)
  intro Dn h9 F10 N10 l9
  (try k_lt l9)
  obtain ⟨vs, N11, hIn⟩ : ∃ vs, News g L' h9 [(Dn, listOf (List.toArray vs) 0), (405, tabObj #[]), (L' + 1, o1), (L' + 2, o2), (L' + 3, o3)] ∧ IntsAre vs ((nums.take 21).map (fun k' => k'.fmod 1000003) ++ [51, 0, 54, 12, 3]) :=
    ⟨_, subN N10 (by walk_at "my subset"), hI8.append (.cons 51 _ (.cons 0 _ (.cons 54 _ (.cons 12 _ (.cons 3 _ .nil)))))⟩
  clear N10 N6 F6
  generalize hnum : (nums.take 21).map (fun k' => k'.fmod 1000003) ++ [51, 0, 54, 12, 3] = ms at hIn
  have hms0 : ∀ v ∈ ms, 0 ≤ v := by
    intro v hv
    rw [← hnum] at hv
    rcases List.mem_append.mp hv with hv | hv
    · obtain ⟨k, -, rfl⟩ := List.mem_map.mp hv
      rw [Int.fmod_eq_emod_of_nonneg _ (by decide)]
      exact Int.emod_nonneg _ (by decide)
    · simp only [List.mem_cons, List.not_mem_nil, or_false] at hv
      rcases hv with rfl | rfl | rfl | rfl | rfl <;> decide
  have hmsl : 5 ≤ ms.length ∧ ms.length ≤ 26 := by
    rw [← hnum, List.length_append, List.length_map, List.length_take]
    simp only [List.length_cons, List.length_nil]
    omega
  clear hnum
  try dsimp only
  iterate 9 (try walk_at "my step")
  iterate 6 (try walk_at "my step")
  try dsimp only
  with_reducible rename Fr _ _ _ _ => F12
  by_cases hrot : (ms.getD 0 0).fmod 2 = 1
  · have hrb : ((ms.getD (0 : Int).toNat 0).fmod 2 == 1) = true := by rw [beq_iff_eq]; exact hrot
    rw [hrb] at F12
    iterate 6 (try walk_at "my step")
    try dsimp only
    iterate 6 (try walk_at "my step")
    try dsimp only
    iterate 6 (try walk_at "my step")
    try dsimp only
    iterate 6 (try walk_at "my step")
    try dsimp only
    iterate 6 (try walk_at "my step")
    try dsimp only
    iterate 6 (try walk_at "my step")
    try dsimp only
    iterate 6 (try walk_at "my step")
    try dsimp only
    iterate 6 (try walk_at "my step")
    try dsimp only
    iterate 6 (try walk_at "my step")
    try dsimp only
    iterate 6 (try walk_at "my step")
    try dsimp only
    iterate 4 (try walk_at "my step")
    try dsimp only
    iterate 3 (try walk_at "my step")
    try dsimp only
    have hbd := bitsBd (ms.getD (0 : Int).toNat 0)
    have hwd := wantBd (ms.getD (0 : Int).toNat 0)
    have hld := limBd (ms.getD (0 : Int).toNat 0)
    with_reducible rename Fr _ _ _ _ => F13
    with_reducible rename News _ _ _ _ => N13
    rename Obj.data _ = Data.cell (some _) => d13
    obtain ⟨bits, hbits⟩ : ∃ bits, ((ms.getD (0 : Int).toNat 0).fdiv 8).fmod 16 + 4 = bits := ⟨_, rfl⟩
    obtain ⟨wanted, hwant⟩ : ∃ wanted, ((ms.getD (0 : Int).toNat 0).fdiv 128).fmod 4 + 1 = wanted := ⟨_, rfl⟩
    obtain ⟨lim, hlim⟩ : ∃ lim, ((ms.getD (0 : Int).toNat 0).fdiv 2).fmod 4 + 1 = lim := ⟨_, rfl⟩
    rw [hlim] at hld F13
    obtain ⟨hl, hl4⟩ := hld
    rw [hbits] at hbd d13 ⊢
    rw [hwant] at hwd F13 ⊢
    obtain ⟨hb, hb'⟩ := hbd
    obtain ⟨hw, hw'⟩ := hwd
    have C13 := fun t1 t2 => c_rounds w bits wanted t1 t2 hb hb' hw hw'
    k_dflt (refine useCon0 (C13 _ _) rfl B' F13 X' N13 T' M' rfl (by ktr_room) (by ktr_units) hb1 ?_)
    rintro v objs' s3 hos3 hb3 F14 N14 - ⟨rfl, r, tr, rfl, hr0, hr2, hrn, hry⟩
    obtain ⟨hr1, hr⟩ := rounds_ok hb hb' hw hw' hr0 hr2 hrn hry
    rw [List.nil_append] at N14
    clear N13 F13
    iterate 2 (try walk_at "my step")
    try dsimp only
    with_reducible rename Fr _ _ _ _ => F15
    with_reducible rename News _ _ _ _ => N15
    refine runR w _ (by rfl) _ (by rfl) bits wanted r lim hb hb' hw hw' hr hr1 hr2 hl hl4 mg mb p loose g L' fa cd X' T' M' B' _ _ _ o2 o3 Dn vs ms _ _ _ _ (by exact F15) (by exact N15) (by exact hb3) d13 h2 h3 hIn hms0 hmsl.1 hmsl.2 hLb l9.2.2.2.2.2.2 (by rfl) (by rfl) (by rfl) (by rfl) (by rfl) Q E ?_ hE
    intro ps9 s9 m9 nw9 g1 g2 g3 g4
    exact go ps9 s9 m9 nw9 (g1.trans hos3) g2 g3 g4
  · have hrb : ((ms.getD (0 : Int).toNat 0).fmod 2 == 1) = false := by rw [beq_eq_false_iff_ne]; exact hrot
    rw [hrb] at F12
    iterate 6 (try walk_at "my step")
    try dsimp only
    iterate 6 (try walk_at "my step")
    try dsimp only
    iterate 6 (try walk_at "my step")
    try dsimp only
    iterate 6 (try walk_at "my step")
    try dsimp only
    iterate 6 (try walk_at "my step")
    try dsimp only
    iterate 6 (try walk_at "my step")
    try dsimp only
    iterate 6 (try walk_at "my step")
    try dsimp only
    iterate 6 (try walk_at "my step")
    try dsimp only
    iterate 4 (try walk_at "my step")
    try dsimp only
    iterate 3 (try walk_at "my step")
    try dsimp only
    have hbd := bitsBd (ms.getD (0 : Int).toNat 0)
    have hwd := wantBd (ms.getD (0 : Int).toNat 0)
    with_reducible rename Fr _ _ _ _ => F13
    with_reducible rename News _ _ _ _ => N13
    rename Obj.data _ = Data.cell (some _) => d13
    obtain ⟨bits, hbits⟩ : ∃ bits, ((ms.getD (0 : Int).toNat 0).fdiv 8).fmod 16 + 4 = bits := ⟨_, rfl⟩
    obtain ⟨wanted, hwant⟩ : ∃ wanted, ((ms.getD (0 : Int).toNat 0).fdiv 128).fmod 4 + 1 = wanted := ⟨_, rfl⟩
    rw [hbits] at hbd d13 ⊢
    rw [hwant] at hwd F13 ⊢
    obtain ⟨hb, hb'⟩ := hbd
    obtain ⟨hw, hw'⟩ := hwd
    have C13 := fun t1 t2 => c_rounds w bits wanted t1 t2 hb hb' hw hw'
    k_dflt (refine useCon0 (C13 _ _) rfl B' F13 X' N13 T' M' rfl (by ktr_room) (by ktr_units) hb1 ?_)
    rintro v objs' s3 hos3 hb3 F14 N14 - ⟨rfl, r, tr, rfl, hr0, hr2, hrn, hry⟩
    obtain ⟨hr1, hr⟩ := rounds_ok hb hb' hw hw' hr0 hr2 hrn hry
    rw [List.nil_append] at N14
    clear N13 F13
    iterate 2 (try walk_at "my step")
    try dsimp only
    with_reducible rename Fr _ _ _ _ => F15
    with_reducible rename News _ _ _ _ => N15
    refine runE w _ (by rfl) _ (by rfl) bits wanted r 0 hb hb' hw hw' hr hr1 hr2 rfl mg mb p loose g L' fa cd X' T' M' B' _ _ _ o2 o3 Dn vs ms _ _ _ _ (by exact F15) (by exact N15) (by exact hb3) d13 h2 h3 hIn hms0 hmsl.1 hmsl.2 hLb l9.2.2.2.2.2.2 (by rfl) (by rfl) (by rfl) (by rfl) (by rfl) Q E ?_ hE
    intro ps9 s9 m9 nw9 g1 g2 g3 g4
    exact go ps9 s9 m9 nw9 (g1.trans hos3) g2 g3 g4
end
section
set_option maxHeartbeats 8000000 in
theorem law0 : PySem.Challenge.rw_vo0020_01.Holds := hd (by
  k_fill
  intro w s₀ s₁ mg mb G Y fa o pm cd doc dV kV ho hd hcd hD hmg hg args vals as hpre hlay hrd hwl hlo
  have KX := km_in_of Y
  have hT8 := km_tabs_of Y 405 (.head _)
  have X := (Ground.X G).1
  have V := (Ground.X G).2
  refine Ground.open G ?_
  intro T B D TE TW
  clear D
  have M0 : BM mg s₁.heap := by
    obtain ⟨_, _, M⟩ := bmod_of_top T
    exact ⟨_, _, M⟩
  wrow_args hpre hlay hrd hwl hlo
  rename_i nums hs0 hl0 hl1 hl2 hl3 a1 a2 lst its a3 hL ra w1 r0 hI hr hlen hc9
  have hLb : @LT.lt Nat _ 405 s₁.heap.objs.size := Heap.lt_size hT8
  have hn63 : nums.length ≤ 63 := by have := Int.not_lt.mp hlen; omega
  clear hc9 hlen hr w1 r0 ra hs0 hl0 hl1 hl2 hl3
  refine enter_call ?_
  w_top on
  have he := Dflts.none hD rfl
  subst he
  have he := Dflts.noKw hD
  subst he
  refine call_cellsN (by decide) ho (fd_plain hd) (Top.nolimit T) hcd rfl (kinds_of (by kinds_ok)) (by decide) fun h₁ tk₁ cells F N0 X0 => ?_
  obtain ⟨g, F', N', X', T', M', hof, hto⟩ := hide405 F N0 KX (topRead_of T) M0 hT8
  have B' := below_caller g
  clear F N0 hd hD TE TW B G Y X V ho hcd
  cells_open X0
  (try simp only [List.cons_append, List.nil_append] at N')
  try dsimp only
  generalize s₁.heap.objs.size = L' at *
  rename_i o3 o2 o1 c3 c2 c1
  have N2 := subN (b := [(405, tabObj #[]), (L' + 1, o1), (L' + 2, o2), (L' + 3, o3)]) N' (fun q hq => by
    simp only [List.mem_cons, List.not_mem_nil, or_false] at hq ⊢
    rcases hq with rfl | rfl | rfl | rfl
    · exact .inl rfl
    · exact .inr (.inr (.inr rfl))
    · exact .inr (.inr (.inl rfl))
    · exact .inr (.inl rfl))
  have hLs : g.IsList lst its.toArray := by
    obtain ⟨o, e1, e2, n, e3⟩ := hL
    refine ⟨o, hto _ _ e1 fun z => ?_, e2, n, e3⟩
    rw [z, hT8] at e1
    rw [← Option.some.inj e1] at e2
    cases e2
  have hb1 : AllBare s₁.gens := AllBare.of_eq hg
  refine lawRun w _ (by rfl) _ (by rfl) mg mb _ _ g L' fa cd X' T' M' B' { s₁ with heap := h₁, toks := tk₁ } _ o1 o2 o3 lst its nums (by exact F') N2 hb1 (c1.trans (by rfl)) (c2.trans (by rfl)) (c3.trans (by rfl)) hLs hI hn63 (by rfl) hLb _ _ ?_ (by passes_own)
  intro ps s' m' news g1 g2 g3 g4
  refine ⟨.inl ⟨.bool true, .bool true, [], rfl, fun cls => by rfl, .bool true, ?_, fun _ => ⟨.nil, fun _ h => nomatch h⟩⟩, old405 KX hT8 hto g3 g4, g1, g2⟩
  first | wrow_post | kc_post)
end
end Mine
end
theorem PySem.Challenge.cw_vo0020_01_holds : PySem.Challenge.rw_vo0020_01.Holds :=
  Mine.law0
