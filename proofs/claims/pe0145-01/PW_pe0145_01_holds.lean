import PyProof.Rows.All
import Wide.All
import OpenK.AllK
import Wide.FinOn
import Lean
import PySem.Challenge.RW_pe0145_01
set_option compiler.extract_closed false
set_option Elab.async false
set_option maxRecDepth 100000
set_option maxHeartbeats 4000000
namespace Mine
section
open PySem PySem.W PyProof.Rows
open_top hd for PySem.Challenge.rw_pe0145_01
end
section
open PySem PySem.W PyProof.Rows



theorem sub_nil {α : Type} {r : List α} : ∀ p : α, p ∈ ([] : List α) → p ∈ r := fun _ h => nomatch h
theorem sub_cons {α : Type} {a : α} {l r : List α} (h : a ∈ r) (t : ∀ p : α, p ∈ l → p ∈ r) : ∀ p : α, p ∈ a :: l → p ∈ r := fun p hp => (List.mem_cons.mp hp).elim (fun e => e ▸ h) (t p)
theorem sub_app {α : Type} {l l' r : List α} (h : ∀ p : α, p ∈ l → p ∈ r) (t : ∀ p : α, p ∈ l' → p ∈ r) : ∀ p : α, p ∈ l ++ l' → p ∈ r := fun p hp => (List.mem_append.mp hp).elim (h p) (t p)
noncomputable abbrev LO : List Str := looseW hd.view_39 [Str.ofString "Whitespace", Str.ofString "_twin_re_1", Str.ofString "_twin_re_2"]

/-- a call of one of the text's defs: what stood before the call stands behind it -/
theorem callFn {prog : Program} {w : World} {A : Around} {E : Value → Shared → Prop} {s : Shared} {K : Frag} {p : Program} {loose : List Str} {mg mb : Str → Option Value}
    {name qual : Str} {params : Arguments} {body : List Stmt} {scope : Scope} {dV kV doc pm cdv ct oc : Value} {an od : Option Addr} {osl : Array (Option Value)} {f : Addr} {args : List Value} {binds : List (Str × Value)} {Q : Value → Shared → Prop}
    (X : K.In s.heap) (T : TopRead p loose mg mb s.heap) (hroom : A.depth < recursionLimit)
    (ho : K.lookup f = some ⟨oc, od, .func (fnOf name qual params body scope dV kV doc pm an cdv ct), osl⟩) (hcd : codeIn K cdv qual = true)
    (hbind : BindsTo s (fnOf name qual params body scope dV kV doc pm an cdv ct) ⟨args, []⟩ binds) (hloc : ∀ y ∈ binds, scope.names.lookup y.1 = some .local)
    (hcell : ∀ x ∈ scope.names, x.2 ≠ .cell) (hco : scope.isCoroutine = false) (hgen : scope.isGenerator = false) (hk : scope.kind = .function)
    (h : ∀ L h₁, Fr s.heap L h₁ (fun y => binds.reverse.lookup y) → News s.heap L h₁ [] →
      wpAny (model prog w) (A.deeper (envOf qual scope L f cdv)) (execs body (envOf qual scope L f cdv))
        (fun fl s' => Q (match fl with | .ret v => v | _ => .none) s') (fun _ _ => False) { s with heap := h₁, toks := s.toks + binds.length }) :
    wpAny (model prog w) A (call (.ref f) args) Q E s := by
  refine wpAny_call (codeAny_call_def (fd := fnOf name qual params body scope dV kV doc pm an cdv ct) (body := body) (binds := binds) hroom (X _ _ ho) rfl T.nolimit (codeRec_of X hcd) rfl hbind hcell hloc (fun h₁ hns hk₁ => ?_) hco hgen hk)
  exact wpAny_mono (h s.heap.objs.size h₁ ⟨hns, hk₁, Nat.le_refl _⟩ .nil) (fun fl s' hq => hq) fun _ _ x => x.elim

/-- what a Whitespace is -/
structure Ws where
  cnt : List Int
  b : Int
  n : Int
  nt : Int

noncomputable def wsMeths : List Str := [Str.ofString "longest_run_of_spaces", Str.ofString "indent_level", Str.ofString "equal", Str.ofString "not_equal_witness", Str.ofString "less", Str.ofString "not_less_witness"]

structure WsAt (h : Heap) (x : Addr) (d : Ws) (dx : Addr) (es : List DictEntry) (k : Nat) (an ct : Addr) (cvs : List Value) (tb tn tt : Tok) : Prop where
  inst : h.get? x = some (instObj 93 dx)
  dict : h.get? dx = some (dictOf es k)
  norm : getL (Str.ofString "norm") es = some (some (.ref an))
  n : getL (Str.ofString "n") es = some (some (.int d.n tn))
  nt : getL (Str.ofString "nt") es = some (some (.int d.nt tt))
  simple : getL (Str.ofString "is_simple") es = some (some (.bool (decide (d.cnt.length ≤ 1))))
  meth : ∀ m ∈ wsMeths, getL m es = some none
  tup : IsTup h an #[.ref ct, .int d.b tb]
  ctup : IsTup h ct cvs.toArray
  areInts : IntsAre cvs d.cnt
  short : d.cnt.length < 1000
  pos : ∀ c ∈ d.cnt, 0 ≤ c ∧ c < 1000
  lim : 0 ≤ d.b ∧ d.b < 1000 ∧ 0 ≤ d.n ∧ d.n < 1000 ∧ 0 ≤ d.nt ∧ d.nt < 1000

noncomputable def WsIs (h : Heap) (x : Addr) (d : Ws) : Prop := ∃ dx es k an ct cvs tb tn tt, WsAt h x d dx es k an ct cvs tb tn tt

theorem WsAt.keeps {h h' x d dx es k an ct cvs tb tn tt} (W : WsAt h x d dx es k an ct cvs tb tn tt) (hk : ∀ b o, h.get? b = some o → h'.get? b = some o) : WsAt h' x d dx es k an ct cvs tb tn tt :=
  ⟨hk _ _ W.inst, hk _ _ W.dict, W.norm, W.n, W.nt, W.simple, W.meth, W.tup.keeps hk, W.ctup.keeps hk, W.areInts, W.short, W.pos, W.lim⟩
theorem WsIs.keeps {h h' x d} (W : WsIs h x d) (hk : ∀ b o, h.get? b = some o → h'.get? b = some o) : WsIs h' x d :=
  let ⟨_, _, _, _, _, _, _, _, _, W⟩ := W; ⟨_, _, _, _, _, _, _, _, _, W.keeps hk⟩
theorem WsAt.at {h x d dx es k an ct cvs tb tn tt} (W : WsAt h x d dx es k an ct cvs tb tn tt) : InstAt h x (instObj 93 dx) 93 (some (dictOf es k)) :=
  ⟨W.inst, rfl, rfl, W.dict⟩


noncomputable def Stop (P : Prop) : Prop := P
theorem Stop.out {P : Prop} (h : Stop P) : P := h

abbrev noE : Value → Shared → Prop := fun _ _ => False

/-- how a turn ends -/
noncomputable def TurnX (h₀ : Heap) (L : Addr) (Q : Flow → Shared → Prop) (s₂ : Shared) (I : Addr) (oI : Obj) (Jn : (Str → Option Value) → List (Addr × Obj) → Array GenState → Prop) (f : Flow) (s' : Shared) : Prop :=
  match f with
  | .ret v => Q (.ret v) s'
  | .brk => Q .next s'
  | _ => ∃ h' g' tk' m' news', s' = { s₂ with heap := h', gens := g', toks := tk' } ∧ Fr h₀ L h' m' ∧ News h₀ L h' ((I, oI) :: news') ∧ (∀ p ∈ news', p.1 ≠ I) ∧ Jn m' news' g'

theorem TurnX.intro {h₀ h' : Heap} {L I : Addr} {Q : Flow → Shared → Prop} {s₂ : Shared} {oI : Obj} {Jn : (Str → Option Value) → List (Addr × Obj) → Array GenState → Prop} {g' : Array GenState} {tk' : Nat} {m' : Str → Option Value} {news' all : List (Addr × Obj)}
    (F : Fr h₀ L h' m') (N : News h₀ L h' all) (sub : ∀ p ∈ (I, oI) :: news', p ∈ all) (off : ∀ p ∈ news', p.1 ≠ I) (hJ : Jn m' news' g') : TurnX h₀ L Q s₂ I oI Jn .next { s₂ with heap := h', gens := g', toks := tk' } :=
  ⟨h', g', tk', m', news', rfl, F, fun p hp => N p (sub p hp), off, hJ⟩
section
variable {prog : Program} {w : World} {A : Around} {s s₂ : Shared} {env : Env} {h₀ : Heap} {x : Str} {px : Pos} {body : List Stmt} {Q : Flow → Shared → Prop}

theorem forX {I : Addr} {n : Nat} {P : Nat → Value → Prop} {St : Nat → Heap → Prop} {m : Str → Option Value} {news : List (Addr × Obj)}
    (W : Walks prog w A I [I] [I] n P St) (hIo : ∀ i h, St i h → ∃ o, h.get? I = some o) (hIL : I ≠ env.locals) (hI₀ : h₀.get? I = none) (hst : St 0 s₂.heap) (hnI : ∀ p ∈ news, p.1 ≠ I)
    (F : Fr h₀ env.locals s₂.heap m) (N : News h₀ env.locals s₂.heap news)
    (J : Nat → (Str → Option Value) → List (Addr × Obj) → Array GenState → Prop) (h0 : J 0 m news s₂.gens)
    (turn : ∀ i v m₁ news₁ oI h g tk, i < n → P i v → J i m₁ news₁ g → (∀ p ∈ news₁, p.1 ≠ I) → Fr h₀ env.locals h m₁ → News h₀ env.locals h ((I, oI) :: news₁) →
      wpAny (model prog w) A (storeName env x v) (fun _ s₃ => wpAny (model prog w) A (execs body env) (TurnX h₀ env.locals Q s₂ I oI (J (i + 1))) noE s₃) noE { s₂ with heap := h, gens := g, toks := tk })
    (done : ∀ m₁ news₁ h g tk, J n m₁ news₁ g → Fr h₀ env.locals h m₁ → News h₀ env.locals h news₁ → Q .next { s₂ with heap := h, gens := g, toks := tk }) :
    codeAny (model prog w) A (.forLoop (.Name x px) (.ref I) body [] env) (fun r s' => match r with | .ok f => Q f s' | .error e => cameBackBy (model prog w) A env noE e s') s₂ := by
  have next : ∀ (h' h₁ : Heap) m' news', Fr h₀ env.locals h' m' → News h₀ env.locals h' news' → (∀ p ∈ news', p.1 ≠ I) → (∀ b o, b ∉ [I] → h'.get? b = some o → h₁.get? b = some o) → Fr h₀ env.locals h₁ m' ∧ News h₀ env.locals h₁ news' := fun h' h₁ m' news' F' N' hnw' hk₁ =>
    ⟨⟨F'.ns.at' fun o e => hk₁ _ o (by simpa using Ne.symm hIL) e, fun b o e => hk₁ b o (by intro hb; rw [List.mem_singleton.mp hb, hI₀] at e; cases e) (F'.keep b o e), F'.above⟩,
      fun p hp => ⟨hk₁ _ _ (by simpa using hnw' p hp) (N' p hp).1, (N' p hp).2⟩⟩
  refine codeAny_forLoop (fun k s' => ∃ h' g' tk m' news' i, s' = { s₂ with heap := h', gens := g', toks := tk } ∧ St i h' ∧ Fr h₀ env.locals h' m' ∧ News h₀ env.locals h' news' ∧ (∀ p ∈ news', p.1 ≠ I) ∧ J i m' news' g' ∧ i ≤ n ∧ k = n + 1 - i) ?_ (n + 1)
    ⟨s₂.heap, s₂.gens, s₂.toks, m, news, 0, rfl, hst, F, N, hnI, h0, Nat.zero_le _, rfl⟩
  rintro k s' ⟨h', g', tk, m', news', i, rfl, hst', F', N', hnw', hJ, hi, rfl⟩
  by_cases hlt : i < n
  · refine W.item i _ _ _ hlt hst' fun v h₁ tk₁ hP hst₁ hk₁ => ?_
    obtain ⟨F₁, N₁⟩ := next h' h₁ m' news' F' N' hnw' hk₁
    obtain ⟨oI, hoI⟩ := hIo _ _ hst₁
    refine wpAny_assign_Name (wpAny_mono (turn i v m' news' oI h₁ g' tk₁ hlt hP hJ hnw' F₁ (fun p hp => ?_)) (fun _ s₃ h₃ => wpAny_mono h₃ (fun f s₄ h₄ => ?_) fun _ _ e => e.elim) fun _ _ e => e.elim)
    · rcases List.mem_cons.mp hp with rfl | hp
      · exact ⟨hoI, hIL, hI₀⟩
      · exact N₁ p hp
    · have fin : (∃ h' g' tk' m' news', s₄ = { s₂ with heap := h', gens := g', toks := tk' } ∧ Fr h₀ env.locals h' m' ∧ News h₀ env.locals h' ((I, oI) :: news') ∧ (∀ p ∈ news', p.1 ≠ I) ∧ J (i + 1) m' news' g') →
          ∃ m, m < n + 1 - i ∧ ∃ h' g' tk m' news' i, s₄ = { s₂ with heap := h', gens := g', toks := tk } ∧ St i h' ∧ Fr h₀ env.locals h' m' ∧ News h₀ env.locals h' news' ∧ (∀ p ∈ news', p.1 ≠ I) ∧ J i m' news' g' ∧ i ≤ n ∧ m = n + 1 - i := by
        rintro ⟨h₅, g₅, tk₅, m₅, news₅, rfl, F₅, N₅, off₅, hJ₅⟩
        refine ⟨n + 1 - (i + 1), by omega, h₅, g₅, tk₅, m₅, news₅, i + 1, rfl, ?_, F₅, fun p hp => N₅ p (List.mem_cons_of_mem _ hp), off₅, hJ₅, hlt, rfl⟩
        refine W.frame _ _ _ hst₁ fun b hb o e => ?_
        obtain rfl := List.mem_singleton.mp hb
        rw [hoI] at e; cases e
        exact (N₅ _ List.mem_cons_self).1
      cases f with
      | ret v => exact h₄
      | brk => exact h₄
      | cont => exact fin h₄
      | next => exact fin h₄
  · have hin : i = n := by omega
    subst hin
    refine W.done _ _ _ hst' fun h₁ tk₁ hk₁ => wpAny_execs_nil ?_
    obtain ⟨F₁, N₁⟩ := next h' h₁ m' news' F' N' hnw' hk₁
    exact done m' news' h₁ g' tk₁ hJ F₁ N₁

/-- a loop over a range -/
theorem iterRange {r : Addr} {a b : Int} {t u v : Tok} {n : Nat} {m : Str → Option Value} {news : List (Addr × Obj)} (hh : A.handled = none) (hr : IsRange s.heap r a b 1 t u v)
    (hsm : Builtin.Range.small a b 1 = true) (hn : Builtin.Range.rangeSize a b 1 = (n : Int)) (F : Fr h₀ env.locals s.heap m) (N : News h₀ env.locals s.heap news)
    (J : Nat → (Str → Option Value) → List (Addr × Obj) → Array GenState → Prop) (h0 : J 0 m news s.gens)
    (turn : ∀ i tv m₁ news₁ I oI h g tk, i < n → J i m₁ news₁ g → (∀ p ∈ news₁, p.1 ≠ I) → Fr h₀ env.locals h m₁ → News h₀ env.locals h ((I, oI) :: news₁) →
      wpAny (model prog w) A (storeName env x (.int (a + (i : Int)) tv)) (fun _ s₃ => wpAny (model prog w) A (execs body env) (TurnX h₀ env.locals Q s I oI (J (i + 1))) noE s₃) noE { s with heap := h, gens := g, toks := tk })
    (done : ∀ m₁ news₁ h g tk, J n m₁ news₁ g → Fr h₀ env.locals h m₁ → News h₀ env.locals h news₁ → Q .next { s with heap := h, gens := g, toks := tk }) :
    wpAny (model prog w) A (pyIter (.ref r)) (fun it s₂ => codeAny (model prog w) A (.forLoop (.Name x px) it body [] env) (fun r s' => match r with | .ok f => Q f s' | .error e => cameBackBy (model prog w) A env noE e s') s₂) noE s := by
  refine wpAny_pyIter_range hr hsm ?_
  rw [hn]
  refine forX (W := LCg.range_walks hh a n) (fun i h st => ⟨_, st⟩) (Nat.ne_of_gt F.ns.lt) (next_is_new F) (by show IsRangeIter _ _ _ _ _; simpa using Heap.get?_push_size _ rfl) (fun p hp => Nat.ne_of_lt (Heap.lt_size (N p hp).1)) (F.push _)
    (N.grown fun _ _ e => Heap.get?_push_of_some _ e) J h0 (fun i v m₁ news₁ oI h g tk hi hP hJ hoff F₁ N₁ => ?_) fun m₁ news₁ h g tk hJ F₁ N₁ => done m₁ news₁ h g tk hJ F₁ N₁
  obtain ⟨tv, rfl⟩ := hP
  exact turn i tv m₁ news₁ _ oI h g tk hi hJ hoff F₁ N₁

/-- a loop over a text's signs -/
theorem iterStr {y : Str} {t : Tok} {m : Str → Option Value} {news : List (Addr × Obj)} (hh : A.handled = none) (F : Fr h₀ env.locals s.heap m) (N : News h₀ env.locals s.heap news)
    (J : Nat → (Str → Option Value) → List (Addr × Obj) → Array GenState → Prop) (h0 : J 0 m news s.gens)
    (turn : ∀ i c tv m₁ news₁ I oI h g tk, y.cps[i]? = some c → J i m₁ news₁ g → (∀ p ∈ news₁, p.1 ≠ I) → Fr h₀ env.locals h m₁ → News h₀ env.locals h ((I, oI) :: news₁) →
      wpAny (model prog w) A (storeName env x (.str ⟨#[c]⟩ tv)) (fun _ s₃ => wpAny (model prog w) A (execs body env) (TurnX h₀ env.locals Q s I oI (J (i + 1))) noE s₃) noE { s with heap := h, gens := g, toks := tk })
    (done : ∀ m₁ news₁ h g tk, J y.cps.size m₁ news₁ g → Fr h₀ env.locals h m₁ → News h₀ env.locals h news₁ → Q .next { s with heap := h, gens := g, toks := tk }) :
    wpAny (model prog w) A (pyIter (.str y t)) (fun it s₂ => codeAny (model prog w) A (.forLoop (.Name x px) it body [] env) (fun r s' => match r with | .ok f => Q f s' | .error e => cameBackBy (model prog w) A env noE e s') s₂) noE s := by
  refine wpAny_pyIter_strU ?_
  have W : Walks prog w A s.heap.objs.size [s.heap.objs.size] [s.heap.objs.size] y.cps.size (SignAt y) (fun i h => h.IsStrIter s.heap.objs.size (strIterType y) y t i) := by
    unfold strIterType
    cases ha : y.cps.all (· < 128)
    · exact Walks.strWide hh _ y t
    · exact Walks.strAscii hh _ y t
  refine forX (W := W) (fun i h st => let ⟨o, e, _⟩ := st; ⟨o, e⟩) (Nat.ne_of_gt F.ns.lt) (next_is_new F) ⟨_, Heap.get?_push_size _ rfl, rfl, rfl⟩ (fun p hp => Nat.ne_of_lt (Heap.lt_size (N p hp).1)) (F.push _)
    (N.grown fun _ _ e => Heap.get?_push_of_some _ e) J h0 (fun i v m₁ news₁ oI h g tk hi hP hJ hoff F₁ N₁ => ?_) fun m₁ news₁ h g tk hJ F₁ N₁ => done m₁ news₁ h g tk hJ F₁ N₁
  obtain ⟨c, tv, hc, rfl⟩ := hP
  exact turn i c tv m₁ news₁ _ oI h g tk hc hJ hoff F₁ N₁
end

section
variable {M : Model} {A : Around} {E : Value → Shared → Prop} {s : Shared} {K : Frag} {h₀ : Heap} {L C : Addr} {m mg mb : Str → Option Value} {scope : Scope} {cl : List (Str × Addr)} {env : Env} {p : Program} {loose : List Str} {x : Str} {pos : Pos} {v : Value} {Q : Value → Shared → Prop}
/-- a name of the top, read within a comprehension -/
theorem comp_global (F : Fr h₀ L s.heap m) (X : K.In h₀) (T : TopRead p loose mg mb h₀) (e : nsIn K mainGlobals x = some (some v)) (h : Q v s) (hg : env.globals = mainGlobals := by rfl)
    (hk : (compEnvC scope cl C env).scope.kind = .function := by rfl) (hx : (compEnvC scope cl C env).kindOf x = some .globalImplicit := by rfl) (hd : (x == ("__debug__" : Str)) = false := by decide) :
    wpAny M A (eval (.Name x pos) (compEnvC scope cl C env)) Q E s := by
  refine Calls.Name_function_global hk hx (Calls.loadGlobal_global (mg := mg) ?_ (mg_of X T.g e) h) hd
  show s.heap.Ns env.globals mg
  rw [hg]; exact T.g.keeps F.keep
/-- a built-in's name, read within a comprehension -/
theorem comp_built (F : Fr h₀ L s.heap m) (X : K.In h₀) (T : TopRead p loose mg mb h₀) (e : nsIn K mainGlobals x = some none) (hv : bootBuiltins x = some v) (hn : x ≠ "__name__") (h : Q v s) (hg : env.globals = mainGlobals := by rfl)
    (hb : env.builtins = builtinsNs := by rfl) (hk : (compEnvC scope cl C env).scope.kind = .function := by rfl) (hx : (compEnvC scope cl C env).kindOf x = some .globalImplicit := by rfl)
    (hd : (x == ("__debug__" : Str)) = false := by decide) : wpAny M A (eval (.Name x pos) (compEnvC scope cl C env)) Q E s := by
  refine Calls.Name_function_global hk hx (Calls.loadGlobal_builtin (mg := mg) (mb := mb) ?_ (mg_none_of X T.g e) ?_ ((T.builtins x hn).trans hv) h) hd
  · show s.heap.Ns env.globals mg
    rw [hg]; exact T.g.keeps F.keep
  · show s.heap.Ns env.builtins mb
    rw [hb]; exact T.b.keeps F.keep
end
theorem slen_append (a b : Str) : (a ++ b).length = a.length + b.length := by show (a.cps ++ b.cps).size = _; rw [Array.size_append]; rfl
theorem slen_lit : (Str.ofString "at tab size").length = 11 ∧ (Str.ofString "s").length = 1 ∧ (Str.ofString "").length = 0 ∧ (Str.ofString " ").length = 1 ∧ (Str.ofString ", ").length = 2 ∧ (Str.ofString ".").length = 1 ∧ (Str.ofString "\t").length = 1 ∧
    (Str.ofString "a").length = 1 ∧ (Str.ofString "b").length = 1 ∧ (Str.ofString "c").length = 1 ∧ (Str.ofString "a\r\n").length = 3 ∧ (Str.ofString "b\r\n").length = 3 ∧ (Str.ofString "c\r\n").length = 3 ∧ (Str.ofString "\r\n").length = 2 ∧ (Str.ofString "\n").length = 1 ∧ (Str.ofString "\r").length = 1 ∧
    sizeLine = 16777216 := by decide
theorem rangeSize_one (a b : Int) : Builtin.Range.rangeSize a b 1 = ((b - a).toNat : Int) := by
  unfold Builtin.Range.rangeSize
  simp only [show (1 : Int) > 0 from by decide, if_true, Int.ediv_one]
  split <;> omega
end
section
open PySem
/-- the count of made values never falls -/
theorem runs_toks {M : Model} {Γ : Ctx} {p : Pos} {t : Sem Fin} {fs : List Frame} {s s' : Shared} {e : End} (h : Runs M Γ p t fs s e s') : s.toks ≤ s'.toks := by
  induction h <;> first
    | exact Nat.le_refl _
    | assumption
    | omega
    | (simp only [Shared.setGen] at *; omega)
theorem wakes_toks {M : Model} {Γ : Ctx} {p : Pos} {g : Nat} {r : Resume} {s s' : Shared} {res : GenResult} (h : Wakes M Γ p g r s res s') : s.toks ≤ s'.toks := by
  unfold Wakes at h
  split at h
  · exact h.elim
  · split at h
    · obtain ⟨e₁, s₁, hr, _, _, rfl⟩ := h; have := runs_toks hr; exact this
    · obtain ⟨_, rfl⟩ := h; exact Nat.le_refl _
    · obtain ⟨_, rfl⟩ := h; exact Nat.le_refl _
  · obtain ⟨e₁, s₁, hr, _, _, rfl⟩ := h; have := runs_toks hr; exact this
  · obtain ⟨_, rfl⟩ := h; exact Nat.le_refl _
  · obtain ⟨_, rfl⟩ := h; exact Nat.le_refl _
theorem wp_tok {α : Type} {M : Model} {Γ : Ctx} {Q : α → Pos → Shared → Prop} {E : Value → Pos → Shared → Prop} {k : Nat} (t : Sem α) : ∀ (p : Pos) (s : Shared), k ≤ s.toks → Sem.wp M Γ t (fun a p' s' => k ≤ s'.toks → Q a p' s') E p s → Sem.wp M Γ t Q E p s := by
  induction t with
  | pure a => intro p s hk h; exact h hk
  | raise e => intro p s hk h; exact h
  | unsupported _ => intro p s hk h; exact h
  | finish _ => intro p s hk h; exact h
  | rule _ _ ih => intro p s hk h; exact ih _ p s hk h
  | «at» _ _ ih => intro p s hk h; exact ih _ _ s hk h
  | load _ _ _ ih => intro p s hk h; obtain ⟨o, ho, h⟩ := h; exact ⟨o, ho, ih _ p s hk h⟩
  | update _ _ _ _ ih => intro p s hk h; exact ⟨h.1, ih _ p _ hk h.2⟩
  | loadIfAlive _ _ ih => intro p s hk h; exact ih _ p s hk h
  | point _ _ ih => intro p s hk h; exact ih _ p s hk h
  | register _ _ _ => intro p s hk h; exact h
  | alloc _ _ ih => intro p s hk h; exact ih _ p _ hk h
  | fresh _ ih => intro p s hk h; exact ih _ p _ (Nat.le_succ_of_le hk) h
  | ask _ ih => intro p s hk h; exact ih _ p s hk h
  | choose _ _ _ ih => intro p s hk h; exact ⟨h.1, ih _ p _ hk h.2⟩
  | os _ _ _ ih => intro p s hk h; exact ih _ p _ hk h
  | call _ _ _ _ _ ih => intro p s hk h; obtain ⟨r, s', hr, h⟩ := h; exact ⟨r, s', hr, ih _ p s' (Nat.le_trans hk (runs_toks hr)) h⟩
  | handled _ _ ih => intro p s hk h; exact ih _ p s hk h
  | genState _ _ ih => intro p s hk h; obtain ⟨o, ho, h⟩ := h; exact ⟨o, ho, ih _ p s hk h⟩
  | newGen _ _ ih => intro p s hk h; exact ih _ p _ hk h
  | resume _ _ _ _ ih => intro p s hk h; obtain ⟨r, s', hr, h⟩ := h; exact ⟨r, s', hr, ih _ p s' (Nat.le_trans hk (wakes_toks hr)) h⟩
  | yield _ _ _ _ _ => intro p s hk h; exact h
  | stack _ ih => intro p s hk h; exact ih _ p s hk h
  | fork _ _ _ => intro p s hk h; exact h
  | thread _ ih => intro p s hk h; exact ih _ p s hk h
  | await _ _ _ _ _ _ => intro p s hk h; exact h
theorem wpAny_tok {α : Type} {M : Model} {A : Around} {t : Sem α} {Q : α → Shared → Prop} {E : Value → Shared → Prop} {s : Shared} (h : wpAny M A t (fun a s' => s.toks ≤ s'.toks → Q a s') E s) : wpAny M A t Q E s :=
  fun Γ p hΓ => wp_tok t p s (Nat.le_refl _) (h Γ p hΓ)
theorem codeAny_tok {M : Model} {A : Around} {c : Code} {R : Result → Shared → Prop} {s : Shared} (h : codeAny M A c (fun r s' => s.toks ≤ s'.toks → R r s') s) : codeAny M A c R s :=
  fun Γ p hc hΓ => let ⟨r, s', hr, h⟩ := h Γ p hc hΓ; ⟨r, s', hr, h (runs_toks hr)⟩
end
section
open PySem
namespace Rx
open PySem.Sre PySem.Sre.M

/-- the machine, run from m, comes within k steps to an end of which R is true -/
noncomputable def EndsIn (k : Nat) (m : M) (R : M → Prop) : Prop := ∀ n, k ≤ n → (runFor n m).outcome.isSome = true ∧ R (runFor n m)
theorem runFor_done {m : M} (h : m.outcome.isSome = true) : ∀ n, runFor n m = m
  | 0 => rfl
  | n + 1 => by rw [runFor, if_pos h]
theorem EndsIn.now {m : M} {R : M → Prop} (h : m.outcome.isSome = true) (hr : R m) : EndsIn 0 m R := fun n _ => by rw [runFor_done h]; exact ⟨h, hr⟩
theorem EndsIn.step {m : M} {R : M → Prop} {k : Nat} (h : m.outcome = none) (hs : EndsIn k m.step R) : EndsIn (k + 1) m R := fun n hn => by
  obtain ⟨n', rfl⟩ : ∃ n', n = n' + 1 := ⟨n - 1, by omega⟩
  rw [runFor, if_neg (by rw [h]; simp)]
  exact hs n' (by omega)
theorem EndsIn.mono {m : M} {R R' : M → Prop} {k k' : Nat} (h : EndsIn k m R) (hk : k ≤ k') (hR : ∀ m, R m → R' m) : EndsIn k' m R' := fun n hn => ⟨(h n (by omega)).1, hR _ (h n (by omega)).2⟩
theorem runFor_add (a b : Nat) : ∀ m : M, runFor (a + b) m = runFor b (runFor a m) := by
  induction a with
  | zero => intro m; rw [Nat.zero_add]; rfl
  | succ a ih =>
    intro m
    by_cases h : m.outcome.isSome = true
    · rw [runFor_done h, runFor_done h, runFor_done h]
    · rw [show a + 1 + b = (a + b) + 1 by omega, runFor, if_neg h, ih, runFor, if_neg h]

-- one step, by what stands
theorem step_exec {m : M} (ho : m.outcome = none) (ha : m.answer = none) (hp : m.pc < m.code.size) : m.step = m.exec := by
  unfold M.step
  rw [ho, ha]
  simp [hp]
theorem step_answer {m : M} {yes : Bool} {f : Sre.Frame} {rest : List Sre.Frame} (ho : m.outcome = none) (ha : m.answer = some yes) (hf : m.frames = f :: rest) :
    m.step = resume { m with answer := none, frames := rest, weight := m.weight - (1 + f.kept.marks.size), pc := f.pc, pos := f.pos, outermost := f.outermost } f yes := by
  unfold M.step
  rw [ho, ha, hf]
  simp
theorem step_end {m : M} {yes : Bool} (ho : m.outcome = none) (ha : m.answer = some yes) (hf : m.frames = []) : m.step = { m with outcome := some (if yes then .matched else .failed) } := by
  unfold M.step
  rw [ho, ha, hf]
  simp
theorem exec_literal {m : M} {c : Nat} (h : ops[m.word 0]? = some .LITERAL) (hw : m.word 1 = c) :
    m.exec = (let m' := { m with seen := m.seen.add (m.word 0) }; if m.pos ≥ m.lim then m'.say false else if (m.text.getD m.pos 0 == c) = true then { m' with pc := m.pc + 2, pos := m.pos + 1 } else m'.say false) := by
  unfold M.exec
  rw [h]
  dsimp only
  split
  · rfl
  · have ha : accepts m.code m.pc (m.text.getD m.pos 0) (m.seen.add (m.word 0)) = .ok (m.text.getD m.pos 0 == c, m.seen.add (m.word 0)) := by
      unfold accepts
      have h' : ops[m.code.getD m.pc 0]? = some .LITERAL := h
      rw [h']
      dsimp only
      rw [← hw]; rfl
    rw [ha]
    have hi : itemWidth m.code m.pc = 2 := by
      unfold itemWidth
      have h' : ops[m.code.getD m.pc 0]? = some .LITERAL := h
      rw [h']
    rw [hi]
    split <;> simp_all
theorem exec_jump {m : M} {k : Nat} (h : ops[m.word 0]? = some .JUMP) (hw : m.word 1 = k) : m.exec = { m with seen := m.seen.add (m.word 0), pc := m.pc + 1 + k } := by
  unfold M.exec
  rw [h, ← hw]
  rfl
theorem exec_success {m : M} (h : ops[m.word 0]? = some .SUCCESS) (hw : m.wholeText = false) (hm : m.mustAdvance = false) : m.exec = ({ m with seen := m.seen.add (m.word 0), handed := m.pos } : M).say true := by
  unfold M.exec
  rw [h]
  dsimp only
  rw [hw, hm]
  simp
theorem exec_at1 {m : M} (h : ops[m.word 0]? = some .AT) (hw : m.word 1 = 1) :
    m.exec = (let m' := { m with seen := (m.seen.add (m.word 0)).add 44 }; if (m.pos == 0 || m.text.getD (m.pos - 1) 0 == 10) = true then { m' with pc := m.pc + 2 } else m'.say false) := by
  unfold M.exec
  rw [h]
  dsimp only
  have h1 : M.word { m with seen := m.seen.add (m.word 0) } 1 = 1 := hw
  rw [h1]
  unfold isAt
  dsimp only
  rfl
theorem exec_branch {m : M} (h : ops[m.word 0]? = some .BRANCH) (hi : m.inner = none) :
    m.exec = ({ m with seen := m.seen.add (m.word 0) } : M).alternative (m.pc + 1) { lastmark := m.lastmark, lastindex := m.lastindex, whole := false, marks := #[] } := by
  unfold M.exec
  rw [h]
  dsimp only
  rw [hi]
  rfl
theorem exec_assertNot {m : M} (h : ops[m.word 0]? = some .ASSERT_NOT) (hw : m.word 2 = 0) (hi : m.inner = none) :
    m.exec = ({ m with seen := m.seen.add (m.word 0) } : M).attempt { wait := .lookNot, pc := m.pc, pos := m.pos, outermost := m.outermost, kept := { lastmark := m.lastmark, lastindex := m.lastindex, whole := false, marks := #[] } } (m.pc + 3) m.pos false := by
  unfold M.exec
  rw [h]
  dsimp only
  have h1 : M.word { m with seen := m.seen.add (m.word 0) } 2 = 0 := hw
  rw [h1, if_neg (by simp), hi]
  rfl
end Rx
end
section
open PySem
namespace Rx
open PySem.Sre PySem.Sre.M

noncomputable def code2 : Array Nat := #[14, 9, 4, 1, 2, 16, 10, 16, 13, 0, 7, 7, 16, 13, 16, 10, 15, 18, 5, 16, 10, 15, 13, 11, 16, 13, 5, 5, 0, 16, 10, 1, 15, 2, 0, 1]
noncomputable def code1 : Array Nat := #[14, 4, 0, 1, 1, 6, 1, 16, 46, 1]

/-- a state of the machine -/
noncomputable def S (code text : Array Nat) (lim ls start pc pos handed : Nat) (om : Bool) (frames : List Sre.Frame) (weight : Nat) (ans : Option Bool) (seen : Seen) : M :=
  { code, text, lim, start, lastStart := ls, wholeText := false, mustAdvance := false, pc, pos, handed, outermost := om, marks := #[], lastmark := -1, lastindex := -1, loops := #[], inner := none, frames, weight, answer := ans, seen, outcome := none }
noncomputable def K0 : Sre.Kept := { lastmark := -1, lastindex := -1, whole := false, marks := #[] }
noncomputable def FS (pc pos : Nat) (om : Bool) : Sre.Frame := { wait := .nextStart, pc, pos, outermost := om }
noncomputable def FB (pc pos : Nat) (om : Bool) : Sre.Frame := { wait := .nextBranch, pc, pos, outermost := om, kept := K0 }
noncomputable def FL (pc pos : Nat) (om : Bool) : Sre.Frame := { wait := .lookNot, pc, pos, outermost := om, kept := K0 }
noncomputable def Hit (p q : Nat) (m : M) : Prop := m.outcome = some .matched ∧ m.start = p ∧ m.handed = q

section
variable {code text : Array Nat} {lim ls start pc pos handed : Nat} {om : Bool} {frames : List Sre.Frame} {weight : Nat} {seen : Seen} {R : M → Prop} {k : Nat}
theorem lit_ok {c : Nat} (hp : pc < code.size) (ho : ops[code.getD pc 0]? = some .LITERAL) (hc : code.getD (pc + 1) 0 = c) (h1 : pos < lim) (h2 : text.getD pos 0 = c)
    (h : ∀ seen', EndsIn k (S code text lim ls start (pc + 2) (pos + 1) handed om frames weight none seen') R) : EndsIn (k + 1) (S code text lim ls start pc pos handed om frames weight none seen) R := by
  refine EndsIn.step rfl ?_
  rw [step_exec rfl rfl hp, exec_literal (m := S code text lim ls start pc pos handed om frames weight none seen) (c := c) ho hc]
  have e1 : ¬ (S code text lim ls start pc pos handed om frames weight none seen).pos ≥ (S code text lim ls start pc pos handed om frames weight none seen).lim := Nat.not_le.mpr h1
  have e2 : ((S code text lim ls start pc pos handed om frames weight none seen).text.getD (S code text lim ls start pc pos handed om frames weight none seen).pos 0 == c) = true := by show (text.getD pos 0 == c) = true; rw [h2]; simp
  dsimp only
  rw [if_neg e1, if_pos e2]
  exact h _
theorem lit_no {c : Nat} (hp : pc < code.size) (ho : ops[code.getD pc 0]? = some .LITERAL) (hc : code.getD (pc + 1) 0 = c) (h1 : pos ≥ lim ∨ text.getD pos 0 ≠ c)
    (h : ∀ seen', EndsIn k (S code text lim ls start pc pos handed om frames weight (some false) seen') R) : EndsIn (k + 1) (S code text lim ls start pc pos handed om frames weight none seen) R := by
  refine EndsIn.step rfl ?_
  rw [step_exec rfl rfl hp, exec_literal (m := S code text lim ls start pc pos handed om frames weight none seen) (c := c) ho hc]
  dsimp only
  by_cases e1 : (S code text lim ls start pc pos handed om frames weight none seen).pos ≥ (S code text lim ls start pc pos handed om frames weight none seen).lim
  · rw [if_pos e1]; exact h _
  · have h2 : text.getD pos 0 ≠ c := h1.resolve_left e1
    have e2 : ¬ ((S code text lim ls start pc pos handed om frames weight none seen).text.getD (S code text lim ls start pc pos handed om frames weight none seen).pos 0 == c) = true := by show ¬ (text.getD pos 0 == c) = true; intro hh; exact h2 (eq_of_beq hh)
    rw [if_neg e1, if_neg e2]; exact h _
theorem jump {j : Nat} (hp : pc < code.size) (ho : ops[code.getD pc 0]? = some .JUMP) (hc : code.getD (pc + 1) 0 = j)
    (h : ∀ seen', EndsIn k (S code text lim ls start (pc + 1 + j) pos handed om frames weight none seen') R) : EndsIn (k + 1) (S code text lim ls start pc pos handed om frames weight none seen) R := by
  refine EndsIn.step rfl ?_
  rw [step_exec rfl rfl hp, exec_jump (m := S code text lim ls start pc pos handed om frames weight none seen) (k := j) ho hc]
  exact h _
theorem success (hp : pc < code.size) (ho : ops[code.getD pc 0]? = some .SUCCESS)
    (h : ∀ seen', EndsIn k (S code text lim ls start pc pos pos om frames weight (some true) seen') R) : EndsIn (k + 1) (S code text lim ls start pc pos handed om frames weight none seen) R := by
  refine EndsIn.step rfl ?_
  rw [step_exec rfl rfl hp, exec_success (m := S code text lim ls start pc pos handed om frames weight none seen) ho rfl rfl]
  exact h _
theorem at_line (hp : pc < code.size) (ho : ops[code.getD pc 0]? = some .AT) (hc : code.getD (pc + 1) 0 = 1) (b : Bool) (hb : (pos == 0 || text.getD (pos - 1) 0 == 10) = b)
    (h : ∀ seen', EndsIn k (if b = true then S code text lim ls start (pc + 2) pos handed om frames weight none seen' else S code text lim ls start pc pos handed om frames weight (some false) seen') R) :
    EndsIn (k + 1) (S code text lim ls start pc pos handed om frames weight none seen) R := by
  refine EndsIn.step rfl ?_
  rw [step_exec rfl rfl hp, exec_at1 (m := S code text lim ls start pc pos handed om frames weight none seen) ho hc]
  dsimp only
  have e : ((S code text lim ls start pc pos handed om frames weight none seen).pos == 0 || (S code text lim ls start pc pos handed om frames weight none seen).text.getD ((S code text lim ls start pc pos handed om frames weight none seen).pos - 1) 0 == 10) = b := hb
  rw [e]
  have := h ((seen.add ((S code text lim ls start pc pos handed om frames weight none seen).word 0)).add 44)
  cases b with
  | true => exact this
  | false => exact this
theorem branch (hp : pc < code.size) (ho : ops[code.getD pc 0]? = some .BRANCH) (hw : weight < 1000) (hj : (code.getD (pc + 1) 0 == 0) = false)
    (h : ∀ seen', EndsIn k (S code text lim ls start (pc + 1 + 1) pos pos om (FB (pc + 1) pos om :: frames) (weight + 1) none seen') R) : EndsIn (k + 1) (S code text lim ls start pc pos handed om frames weight none seen) R := by
  refine EndsIn.step rfl ?_
  rw [step_exec rfl rfl hp, exec_branch (m := S code text lim ls start pc pos handed om frames weight none seen) ho rfl]
  unfold alternative
  have e : (((S code text lim ls start pc pos handed om frames weight none seen).code.getD ((S code text lim ls start pc pos handed om frames weight none seen).pc + 1) 0) == 0) = false := hj
  dsimp only
  rw [e, if_neg (by simp)]
  unfold attempt
  rw [if_neg (by show ¬ weight + 1 + 0 > 16777216; omega)]
  exact h _
theorem next_alt {pc' pos' : Nat} {om' : Bool} {alt : Nat} (hw : weight < 1000) (hw1 : 1 ≤ weight) (ha : alt = pc' + code.getD pc' 0) (hj : (code.getD alt 0 == 0) = false)
    (h : ∀ seen', EndsIn k (S code text lim ls start (alt + 1) pos' pos' om' (FB alt pos' om' :: frames) weight none seen') R) : EndsIn (k + 1) (S code text lim ls start pc pos handed om (FB pc' pos' om' :: frames) weight (some false) seen) R := by
  subst ha
  refine EndsIn.step rfl ?_
  rw [step_answer rfl rfl rfl]
  unfold M.resume
  dsimp only [FB]
  rw [if_neg (by simp)]
  unfold alternative
  have e : (code.getD (pc' + code.getD pc' 0) 0 == 0) = false := hj
  show EndsIn k (if (code.getD (pc' + code.getD pc' 0) 0 == 0) = true then _ else _) R
  rw [e, if_neg (by simp)]
  unfold attempt
  rw [if_neg (by show ¬ weight - (1 + 0) + 1 + 0 > 16777216; omega)]
  have hh := h seen
  have e2 : weight - (1 + 0) + 1 + 0 = weight := by omega
  show EndsIn k (S code text lim ls start (pc' + code.getD pc' 0 + 1) pos' pos' om' (FB (pc' + code.getD pc' 0) pos' om' :: frames) (weight - (1 + 0) + 1 + 0) none seen) R
  rw [e2]; exact hh
theorem alt_yes {pc' pos' : Nat} {om' : Bool}
    (h : EndsIn k (S code text lim ls start pc' pos' handed om' frames (weight - 1) (some true) seen) R) : EndsIn (k + 1) (S code text lim ls start pc pos handed om (FB pc' pos' om' :: frames) weight (some true) seen) R := by
  refine EndsIn.step rfl ?_
  rw [step_answer rfl rfl rfl]
  exact h
theorem look_not (hp : pc < code.size) (ho : ops[code.getD pc 0]? = some .ASSERT_NOT) (hc : code.getD (pc + 2) 0 = 0) (hw : weight < 1000)
    (h : ∀ seen', EndsIn k (S code text lim ls start (pc + 3) pos pos false (FL pc pos om :: frames) (weight + 1) none seen') R) : EndsIn (k + 1) (S code text lim ls start pc pos handed om frames weight none seen) R := by
  refine EndsIn.step rfl ?_
  rw [step_exec rfl rfl hp, exec_assertNot (m := S code text lim ls start pc pos handed om frames weight none seen) ho hc rfl]
  unfold attempt
  dsimp only
  rw [if_neg (by show ¬ weight + 1 + 0 > 16777216; omega)]
  exact h _
theorem look_off {pc' pos' : Nat} {om' : Bool} {j : Nat} (hj : code.getD (pc' + 1) 0 = j)
    (h : EndsIn k (S code text lim ls start (pc' + 1 + j) pos' handed om' frames (weight - 1) none seen) R) : EndsIn (k + 1) (S code text lim ls start pc pos handed om (FL pc' pos' om' :: frames) weight (some false) seen) R := by
  subst hj
  refine EndsIn.step rfl ?_
  rw [step_answer rfl rfl rfl]
  exact h
theorem found {pc' pos' : Nat} {om' : Bool} : EndsIn 2 (S code text lim ls start pc pos handed om [FS pc' pos' om'] weight (some true) seen) (Hit start handed) := by
  refine EndsIn.step rfl ?_
  rw [step_answer rfl rfl rfl]
  refine EndsIn.step rfl ?_
  refine EndsIn.now rfl ⟨rfl, rfl, rfl⟩
end
end Rx
end
section
open PySem
namespace Rx
open PySem.Sre PySem.Sre.M

noncomputable def Miss (m : M) : Prop := m.outcome = some .failed
section
variable {text : Array Nat} {lim ls start pos handed : Nat} {om : Bool} {seen : Seen}

/-- the second pattern, at a line end -/
theorem at_lf (hp : start < lim) (hc : text.getD start 0 = 10) : EndsIn 20 (S code2 text lim ls start 10 start start om [FS 10 start om] 1 none seen) (Hit start (start + 1)) := by
  refine EndsIn.mono (k := 2 + 1 + 1 + 1 + 1 + 1 + 1 + 1) ?_ (by omega) (fun _ h => h)
  refine branch (by decide) rfl (by decide) rfl fun seen => ?_
  refine lit_no (c := 13) (by decide) rfl rfl (Or.inr (by rw [hc]; decide)) fun seen => ?_
  refine next_alt (alt := 18) (by decide) (by decide) rfl rfl fun seen => ?_
  refine lit_ok (c := 10) (by decide) rfl rfl hp hc fun seen => ?_
  refine jump (j := 13) (by decide) rfl rfl fun seen => ?_
  refine success (by decide) rfl fun seen => ?_
  refine alt_yes ?_
  exact found
theorem at_crlf (hp : start + 1 < lim) (hc : text.getD start 0 = 13) (hd : text.getD (start + 1) 0 = 10) : EndsIn 20 (S code2 text lim ls start 10 start start om [FS 10 start om] 1 none seen) (Hit start (start + 2)) := by
  refine EndsIn.mono (k := 2 + 1 + 1 + 1 + 1 + 1 + 1) ?_ (by omega) (fun _ h => h)
  refine branch (by decide) rfl (by decide) rfl fun seen => ?_
  refine lit_ok (c := 13) (by decide) rfl rfl (by omega) hc fun seen => ?_
  refine lit_ok (c := 10) (by decide) rfl rfl hp hd fun seen => ?_
  refine jump (j := 18) (by decide) rfl rfl fun seen => ?_
  refine success (by decide) rfl fun seen => ?_
  refine alt_yes ?_
  exact found
theorem at_cr (hp : start < lim) (hc : text.getD start 0 = 13) (hd : start + 1 ≥ lim ∨ text.getD (start + 1) 0 ≠ 10) : EndsIn 20 (S code2 text lim ls start 10 start start om [FS 10 start om] 1 none seen) (Hit start (start + 1)) := by
  refine EndsIn.mono (k := 2 + 1 + 1 + 1 + 1 + 1 + 1 + 1 + 1 + 1 + 1 + 1 + 1 + 1) ?_ (by omega) (fun _ h => h)
  refine branch (by decide) rfl (by decide) rfl fun seen => ?_
  refine lit_ok (c := 13) (by decide) rfl rfl hp hc fun seen => ?_
  refine lit_no (c := 10) (by decide) rfl rfl hd fun seen => ?_
  refine next_alt (alt := 18) (by decide) (by decide) rfl rfl fun seen => ?_
  refine lit_no (c := 10) (by decide) rfl rfl (Or.inr (by rw [hc]; decide)) fun seen => ?_
  refine next_alt (alt := 23) (by decide) (by decide) rfl rfl fun seen => ?_
  refine lit_ok (c := 13) (by decide) rfl rfl hp hc fun seen => ?_
  refine look_not (by decide) rfl rfl (by decide) fun seen => ?_
  refine lit_no (c := 10) (by decide) rfl rfl hd fun seen => ?_
  refine look_off (j := 5) rfl ?_
  refine jump (j := 2) (by decide) rfl rfl fun seen => ?_
  refine success (by decide) rfl fun seen => ?_
  refine alt_yes ?_
  exact found

theorem in2 (c : Nat) (seen : Seen) : ∃ seen', inSet code2 c code2.size 5 true seen = .ok (c == 10 || c == 13, seen') := by
  have e : code2.size = 33 + 1 + 1 + 1 := rfl
  rw [e]
  have i3 : ∀ seen, ∃ seen', inSet code2 c (33 + 1) 9 true seen = .ok (false, seen') := fun seen => ⟨_, rfl⟩
  have i2 : ∀ seen, ∃ seen', inSet code2 c (33 + 1 + 1) 7 true seen = .ok (c == 13, seen') := fun seen => by
    rw [inSet]
    dsimp only
    rw [show ops[code2.getD (7 + 0) 0]? = some .LITERAL from rfl]
    dsimp only
    by_cases h : c = 13
    · subst h; exact ⟨_, rfl⟩
    · have hf : (c == code2.getD (7 + 1) 0) = false := by rw [show code2.getD (7 + 1) 0 = 13 from rfl]; simpa using h
      rw [hf, if_neg (by simp)]
      have : (c == 13) = false := by simpa using h
      rw [this]
      exact i3 _
  rw [inSet]
  dsimp only
  rw [show ops[code2.getD (5 + 0) 0]? = some .LITERAL from rfl]
  dsimp only
  by_cases h : c = 10
  · subst h; exact ⟨_, rfl⟩
  · have hf : (c == code2.getD (5 + 1) 0) = false := by rw [show code2.getD (5 + 1) 0 = 10 from rfl]; simpa using h
    rw [hf, if_neg (by simp)]
    have : (c == 10) = false := by simpa using h
    rw [this, Bool.false_or]
    exact i2 _

noncomputable def isEol (c : Nat) : Bool := c == 10 || c == 13
/-- the first line end at or behind s, in the first `fuel` places -/
theorem admitted_hit {m : M} (hcode : m.code = code2) : ∀ (fuel s p : Nat) (seen : Seen), s ≤ p → p < m.lim → p < s + fuel → (∀ i, s ≤ i → i < p → isEol (m.text.getD i 0) = false) → isEol (m.text.getD p 0) = true →
    ∃ seen', admitted m fuel s seen = .ok (some p, seen')
  | 0, s, p, seen, h1, h2, h3, h4, h5 => by omega
  | fuel + 1, s, p, seen, h1, h2, h3, h4, h5 => by
    rw [admitted, if_neg (by omega), hcode]
    obtain ⟨seen', e⟩ := in2 (m.text.getD s 0) seen
    rw [e]
    by_cases hs : s = p
    · subst hs
      have : (m.text.getD s 0 == 10 || m.text.getD s 0 == 13) = true := h5
      rw [this]; exact ⟨_, rfl⟩
    · have : (m.text.getD s 0 == 10 || m.text.getD s 0 == 13) = false := h4 s (by omega) (by omega)
      rw [this]
      exact admitted_hit hcode fuel (s + 1) p seen' (by omega) h2 (by omega) (fun i hi hj => h4 i (by omega) hj) h5
theorem admitted_miss {m : M} (hcode : m.code = code2) : ∀ (fuel s : Nat) (seen : Seen), (∀ i, s ≤ i → i < m.lim → isEol (m.text.getD i 0) = false) →
    ∃ seen', admitted m fuel s seen = .ok (none, seen')
  | 0, s, seen, h4 => ⟨_, rfl⟩
  | fuel + 1, s, seen, h4 => by
    rw [admitted]
    by_cases hs : s ≥ m.lim
    · rw [if_pos hs]; exact ⟨_, rfl⟩
    · rw [if_neg hs, hcode]
      obtain ⟨seen', e⟩ := in2 (m.text.getD s 0) seen
      rw [e]
      have : (m.text.getD s 0 == 10 || m.text.getD s 0 == 13) = false := h4 s (by omega) (by omega)
      rw [this]
      exact admitted_miss hcode fuel (s + 1) seen' (fun i hi hj => h4 i (by omega) hj)

theorem say_no {pc : Nat} {code : Array Nat} {frames} {weight} (hf : frames = []) : EndsIn 1 (S code text lim ls start pc pos handed om frames weight (some false) seen) Miss := by
  subst hf
  refine EndsIn.step rfl ?_
  exact EndsIn.now rfl rfl

/-- where a line end at p ends -/
noncomputable def eolEnd (text : Array Nat) (p : Nat) : Nat := if text.getD p 0 = 13 ∧ p + 1 < text.size ∧ text.getD (p + 1) 0 = 10 then p + 2 else p + 1
theorem search2_hit {p : Nat} (h1 : start ≤ p) (h2 : p < text.size) (h4 : ∀ i, start ≤ i → i < p → isEol (text.getD i 0) = false) (h5 : isEol (text.getD p 0) = true) :
    EndsIn 20 (forSearch code2 text 0 start text.size false) (Hit p (eolEnd text p)) := by
  have e0 : forSearch code2 text 0 start text.size false = (if (decide (start > text.size) || decide (text.size - start < 1)) = true then S code2 text text.size 0 start 10 start start true [] 0 (some false) (({} : Seen).add 14)
      else (S code2 text text.size text.size start 10 start start true [] 0 none (({} : Seen).add 14)).attemptFrom start true) := rfl
  rw [e0, if_neg (by simp; omega)]
  unfold attemptFrom
  rw [show hasFirstSet (S code2 text text.size text.size start 10 start start true [] 0 none (({} : Seen).add 14)) = true from rfl]
  obtain ⟨seen', e⟩ := admitted_hit (m := S code2 text text.size text.size start 10 start start true [] 0 none (({} : Seen).add 14)) rfl (text.size + 1 - start) start p (({} : Seen).add 14) h1 h2 (by omega) h4 h5
  rw [if_neg (by simp)]
  have e' : admitted (S code2 text text.size text.size start 10 start start true [] 0 none (({} : Seen).add 14)) ((S code2 text text.size text.size start 10 start start true [] 0 none (({} : Seen).add 14)).lim + 1 - start) start (S code2 text text.size text.size start 10 start start true [] 0 none (({} : Seen).add 14)).seen = .ok (some p, seen') := e
  rw [e']
  show EndsIn 20 (S code2 text text.size text.size p 10 p p true [FS 10 p true] 1 none seen') _
  unfold eolEnd
  by_cases hc : text.getD p 0 = 13
  · by_cases hd : p + 1 < text.size ∧ text.getD (p + 1) 0 = 10
    · rw [if_pos ⟨hc, hd⟩]; exact at_crlf hd.1 hc hd.2
    · rw [if_neg (fun h => hd h.2)]
      refine at_cr h2 hc ?_
      by_cases hs : p + 1 < text.size
      · exact Or.inr fun h => hd ⟨hs, h⟩
      · exact Or.inl (by omega)
  · rw [if_neg (fun h => hc h.1)]
    refine at_lf h2 ?_
    unfold isEol at h5
    simp only [Bool.or_eq_true, beq_iff_eq] at h5
    exact h5.resolve_right hc
theorem search2_miss (h4 : ∀ i, start ≤ i → i < text.size → isEol (text.getD i 0) = false) :
    EndsIn 1 (forSearch code2 text 0 start text.size false) Miss := by
  have e0 : forSearch code2 text 0 start text.size false = (if (decide (start > text.size) || decide (text.size - start < 1)) = true then S code2 text text.size 0 start 10 start start true [] 0 (some false) (({} : Seen).add 14)
      else (S code2 text text.size text.size start 10 start start true [] 0 none (({} : Seen).add 14)).attemptFrom start true) := rfl
  rw [e0]
  by_cases hs : (decide (start > text.size) || decide (text.size - start < 1)) = true
  · rw [if_pos hs]; exact say_no rfl
  rw [if_neg hs]
  unfold attemptFrom
  rw [show hasFirstSet (S code2 text text.size text.size start 10 start start true [] 0 none (({} : Seen).add 14)) = true from rfl]
  obtain ⟨seen', e⟩ := admitted_miss (m := S code2 text text.size text.size start 10 start start true [] 0 none (({} : Seen).add 14)) rfl (text.size + 1 - start) start (({} : Seen).add 14) h4
  rw [if_neg (by simp)]
  have e' : admitted (S code2 text text.size text.size start 10 start start true [] 0 none (({} : Seen).add 14)) ((S code2 text text.size text.size start 10 start start true [] 0 none (({} : Seen).add 14)).lim + 1 - start) start (S code2 text text.size text.size start 10 start start true [] 0 none (({} : Seen).add 14)).seen = .ok (none, seen') := e
  rw [e']
  exact say_no rfl

-- the first pattern: a dot at a line's beginning
noncomputable def isDot (text : Array Nat) (p : Nat) : Bool := (p == 0 || text.getD (p - 1) 0 == 10) && text.getD p 0 == 46
theorem dot_yes (hp : start < lim) (hd : isDot text start = true) : EndsIn 5 (S code1 text lim ls start 5 start start om [FS 5 start om] 1 none seen) (Hit start (start + 1)) := by
  unfold isDot at hd
  rw [Bool.and_eq_true] at hd
  refine EndsIn.mono (k := 2 + 1 + 1 + 1) ?_ (by omega) (fun _ h => h)
  refine at_line (by decide) rfl rfl true hd.1 fun seen => ?_
  rw [if_pos rfl]
  refine lit_ok (c := 46) (by decide) rfl rfl hp (eq_of_beq hd.2) fun seen => ?_
  refine success (by decide) rfl fun seen => ?_
  exact found
theorem dot_no {R : M → Prop} {k : Nat} (hd : start ≥ lim ∨ isDot text start = false) (h : ∀ pc seen, EndsIn k (S code1 text lim ls start pc start start om [FS 5 start om] 1 (some false) seen) R) :
    EndsIn (k + 2) (S code1 text lim ls start 5 start start om [FS 5 start om] 1 none seen) R := by
  by_cases h1 : (start == 0 || text.getD (start - 1) 0 == 10) = true
  · refine at_line (by decide) rfl rfl true h1 fun seen => ?_
    rw [if_pos rfl]
    refine lit_no (c := 46) (by decide) rfl rfl ?_ fun seen => h _ _
    rcases hd with hd | hd
    · exact Or.inl hd
    · unfold isDot at hd
      rw [h1, Bool.true_and] at hd
      exact Or.inr (by simpa using hd)
  · refine EndsIn.mono (k := k + 1) ?_ (by omega) (fun _ h => h)
    refine at_line (by decide) rfl rfl false (by simpa using h1) fun seen => ?_
    rw [if_neg (by simp)]
    exact h _ _
theorem dot_next {R : M → Prop} {k pc : Nat} (hs : start < lim) (h : EndsIn k (S code1 text lim lim (start + 1) 5 (start + 1) (start + 1) false [FS 5 (start + 1) false] 1 none seen) R) :
    EndsIn (k + 1) (S code1 text lim lim start pc pos handed om [FS 5 start om] 1 (some false) seen) R := by
  refine EndsIn.step rfl ?_
  rw [step_answer rfl rfl rfl]
  unfold M.resume
  dsimp only [FS]
  rw [if_neg (by simp)]
  show EndsIn k (if start < lim then _ else _) R
  rw [if_pos hs]
  exact h
theorem dot_stop {pc : Nat} : EndsIn 2 (S code1 text lim lim lim pc pos handed om [FS 5 lim om] 1 (some false) seen) Miss := by
  refine EndsIn.step rfl ?_
  rw [step_answer rfl rfl rfl]
  unfold M.resume
  dsimp only [FS]
  rw [if_neg (by simp)]
  show EndsIn 1 (if lim < lim then _ else _) Miss
  rw [if_neg (by omega)]
  refine EndsIn.step rfl ?_
  exact EndsIn.now rfl rfl
theorem run1_hit {p : Nat} (hp : p < lim) (hd : isDot text p = true) : ∀ (d st : Nat) (om : Bool) (seen : Seen), st + d = p → (∀ i, st ≤ i → i < p → isDot text i = false) →
    EndsIn (5 + 3 * d) (S code1 text lim lim st 5 st st om [FS 5 st om] 1 none seen) (Hit p (p + 1))
  | 0, st, om, seen, e, h => by
    obtain rfl : st = p := by omega
    exact dot_yes hp hd
  | d + 1, st, om, seen, e, h => by
    rw [show 5 + 3 * (d + 1) = (5 + 3 * d) + 1 + 2 by omega]
    refine dot_no (Or.inr (h st (by omega) (by omega))) fun pc seen => ?_
    refine dot_next (by omega) ?_
    exact run1_hit hp hd d (st + 1) false seen (by omega) (fun i hi hj => h i (by omega) hj)
theorem run1_miss : ∀ (d st : Nat) (om : Bool) (seen : Seen), st + d = lim → (∀ i, st ≤ i → i < lim → isDot text i = false) →
    EndsIn (4 + 3 * d) (S code1 text lim lim st 5 st st om [FS 5 st om] 1 none seen) Miss
  | 0, st, om, seen, e, h => by
    obtain rfl : st = lim := by omega
    refine dot_no (k := 2) (Or.inl (Nat.le_refl _)) fun pc seen => ?_
    exact dot_stop
  | d + 1, st, om, seen, e, h => by
    rw [show 4 + 3 * (d + 1) = (4 + 3 * d) + 1 + 2 by omega]
    refine dot_no (Or.inr (h st (by omega) (by omega))) fun pc seen => ?_
    refine dot_next (by omega) ?_
    exact run1_miss d (st + 1) false seen (by omega) (fun i hi hj => h i (by omega) hj)
theorem search1_hit {p : Nat} (h1 : start ≤ p) (h2 : p < text.size) (h4 : ∀ i, start ≤ i → i < p → isDot text i = false) (h5 : isDot text p = true) :
    EndsIn (5 + 3 * text.size) (forSearch code1 text 0 start text.size false) (Hit p (p + 1)) := by
  have e0 : forSearch code1 text 0 start text.size false = (if (decide (start > text.size) || decide (text.size - start < 1)) = true then S code1 text text.size 0 start 5 start start true [] 0 (some false) (({} : Seen).add 14)
      else S code1 text text.size text.size start 5 start start true [FS 5 start true] 1 none (({} : Seen).add 14)) := rfl
  rw [e0, if_neg (by simp; omega)]
  exact EndsIn.mono (run1_hit h2 h5 (p - start) start true _ (by omega) h4) (by omega) (fun _ h => h)
theorem search1_miss (h4 : ∀ i, start ≤ i → i < text.size → isDot text i = false) :
    EndsIn (5 + 3 * text.size) (forSearch code1 text 0 start text.size false) Miss := by
  have e0 : forSearch code1 text 0 start text.size false = (if (decide (start > text.size) || decide (text.size - start < 1)) = true then S code1 text text.size 0 start 5 start start true [] 0 (some false) (({} : Seen).add 14)
      else S code1 text text.size text.size start 5 start start true [FS 5 start true] 1 none (({} : Seen).add 14)) := rfl
  rw [e0]
  by_cases hs : (decide (start > text.size) || decide (text.size - start < 1)) = true
  · rw [if_pos hs]; exact (say_no rfl).mono (by omega) (fun _ h => h)
  rw [if_neg hs]
  simp at hs
  exact EndsIn.mono (run1_miss (text.size - start) start true _ (by omega) h4) (by omega) (fun _ h => h)
end
end Rx
end
section
open PySem PySem.Builtin PySem.Builtin.Re
namespace Rx
open PySem.Sre

section
variable {M : Model} {A : Around} {E : Value → Shared → Prop} {s : Shared}
theorem drive {R : Sre.M → Prop} {Q : Sre.M → Shared → Prop} (hq : ∀ m, m.outcome.isSome = true → R m → Q m s) : ∀ (turns k : Nat) (m : Sre.M), EndsIn k m R → k < 4 * turns → wpAny M A (reDrive turns m) Q E s
  | 0, k, m, h, hk => by omega
  | turns + 1, k, m, h, hk => by
    rw [reDrive]
    show wpAny M A (if (Sre.M.runFor 4 m).outcome.isSome = true then _ else _) Q E s
    by_cases ho : (Sre.M.runFor 4 m).outcome.isSome = true
    · rw [if_pos ho]
      refine wpAny_pure (hq _ ho ?_)
      have := (h (4 + k) (by omega)).2
      rw [runFor_add, runFor_done ho] at this
      exact this
    · rw [if_neg ho]
      refine wpAny_bind (wpAny_rule ?_)
      refine drive hq turns (k - 4) _ (fun n hn => ?_) ?_
      · rw [show Sre.M.runFor reTurnSteps m = Sre.M.runFor 4 m from rfl, ← runFor_add]; exact h _ (by omega)
      · by_cases h4 : k ≤ 4
        · exact absurd (h 4 h4).1 ho
        · omega
theorem loopUnit {α : Type} {f : α → PUnit → Sem (ForInStep PUnit)} {Q : PUnit → Shared → Prop} (hf : ∀ a u (Q' : ForInStep PUnit → Shared → Prop), Q' (.yield PUnit.unit) s → wpAny M A (f a u) Q' E s) (hq : Q PUnit.unit s) :
    ∀ (l : List α), wpAny M A (forIn l PUnit.unit f) Q E s
  | [] => by rw [List.forIn_nil]; exact wpAny_pure hq
  | a :: l => by
    rw [List.forIn_cons]
    refine wpAny_bind (hf a _ _ ?_)
    exact loopUnit hf hq l
theorem toEnd_hit {k : Nat} {m : Sre.M} {p q : Nat} {Q : Option Sre.M → Shared → Prop} (h : EndsIn k m (Hit p q)) (hk : k < 2 ^ 40) (hq : ∀ m', m'.start = p → m'.handed = q → Q (some m') s) : wpAny M A (reRunToEnd m) Q E s := by
  unfold reRunToEnd
  refine wpAny_bind (drive (R := Hit p q) (fun m' _ hm' => ?_) _ k m h (by omega))
  refine wpAny_bind (loopUnit (fun a u Q' hQ' => ?_) ?_ _)
  · split
    · exact wpAny_bind (wpAny_rule (wpAny_pure hQ'))
    · first | exact wpAny_bind (wpAny_pure (wpAny_pure hQ')) | exact wpAny_pure hQ'
  · rw [hm'.1]
    exact wpAny_pure (hq m' hm'.2.1 hm'.2.2)
theorem toEnd_miss {k : Nat} {m : Sre.M} {Q : Option Sre.M → Shared → Prop} (h : EndsIn k m Miss) (hk : k < 2 ^ 40) (hq : Q none s) : wpAny M A (reRunToEnd m) Q E s := by
  unfold reRunToEnd
  refine wpAny_bind (drive (R := Miss) (fun m' _ hm' => ?_) _ k m h (by omega))
  refine wpAny_bind (loopUnit (fun a u Q' hQ' => ?_) ?_ _)
  · split
    · exact wpAny_bind (wpAny_rule (wpAny_pure hQ'))
    · first | exact wpAny_bind (wpAny_pure (wpAny_pure hQ')) | exact wpAny_pure hQ'
  · rw [show m'.outcome = some .failed from hm']
    exact wpAny_pure hq

/-- a compiled pattern over strs, with no groups -/
structure PatAt (h : Heap) (P T : Addr) (code : Array Nat) (fs : Array Value) (o ot : Obj) (its : Array Value) (n : Nat) : Prop where
  obj : h.get? P = some o
  cls : o.cls = .type "re.Pattern"
  nod : o.dict = none
  dat : o.data = .fields fs
  tup : h.get? T = some ot
  seq : ot.data = .seq its n
  gr : reRawNat (fs.getD 2 .none) = 0
  at5 : fs.getD 5 .none = .ref T
  kd : reRawNat (fs.getD 6 .none) = 0
  code : (its.map reRawOf).map (·.toNat) = code
theorem PatAt.keeps {h h' : Heap} {P T code fs o ot its n} (X : PatAt h P T code fs o ot its n) (hk : ∀ b o, h.get? b = some o → h'.get? b = some o) : PatAt h' P T code fs o ot its n :=
  { X with obj := hk _ _ X.obj, tup := hk _ _ X.tup }

theorem target {P T code fs o ot its n} {x : Str} {t : Tok} {Q : ReTarget → Shared → Prop} (X : PatAt s.heap P T code fs o ot its n)
    (h : Q { pattern := .ref P, string := .str x t, code := code, text := x.cps, kind := 0, groups := 0, pos := 0, lim := x.cps.size } s) : wpAny M A (reWholeTarget (.ref P) (.str x t)) Q E s := by
  unfold reWholeTarget
  refine wpAny_bind (wpAny_fieldsOf X.obj X.dat ?_)
  refine wpAny_bind (wpAny_of_eq (a := (x.cps, 0)) rfl ?_)
  dsimp only
  rw [X.kd, X.gr, X.at5]
  refine wpAny_bind (wpAny_pure ?_)
  refine wpAny_bind (wpAny_bind (wpAny_seqItems X.tup X.seq (wpAny_pure ?_)))
  refine wpAny_pure ?_
  have : (((some its).getD #[]).map reRawOf).map (·.toNat) = code := X.code
  rw [this]
  exact h
end
end Rx
end
section
open PySem PySem.W PyProof.Rows
example : PySem.Challenge.rw_pe0145_01 = PySem.Challenge.rw_pe0145_01 ∧ hd.heap_39 = hd.heap_39 := by k_fill; exact ⟨rfl, rfl⟩
end
section
open PySem PySem.W PyProof.Rows
local macro_rules | `(tactic| walk_at $s:str) => `(tactic| k_extra $s)
section
open PySem PySem.W PyProof.Rows
example : True := by
  k_with_none
  k_with "getAttr ref" => (k_dflt (refine' get_own (by assumption) (by assumption) (by exact (WsAt.keeps (by assumption) (Fr.keep (by assumption))).at) (by k_is) (by k_is) (by k_is) (by k_is) (by first | exact WsAt.norm (by assumption) | exact WsAt.n (by assumption) | exact WsAt.nt (by assumption) | exact WsAt.simple (by assumption)) (by rfl) ?_))
  trivial

theorem len_ints {prog : Program} {w : World} {A : Around} {E : Value → Shared → Prop} {s : Shared} {h₀ : Heap} {L ct : Addr} {m : Str → Option Value} {cvs : List Value} {cnt : List Int} {Q : Value → Shared → Prop}
    (F : Fr h₀ L s.heap m) (ht : IsTup h₀ ct cvs.toArray) (hi : IntsAre cvs cnt) (hs : cnt.length < 1000) (h : ∀ t tk, Q (.int (cnt.length : Int) t) { s with toks := tk }) :
    wpAny (model prog w) A (call (.builtin "len") [.ref ct]) Q E s := by
  have e : cvs.toArray.size = cnt.length := by simp [hi.length]
  refine len_tuple (F.tup ht) (by rw [e]; omega) ?_
  rw [e]; exact h _ _
example : True := by
  k_with "call builtin:len" => (refine len_ints (by assumption) (by assumption) (by assumption) (by assumption) ?_; intro _ _)
  k_with "exec For Name Call cons nil" => k_dflt (refine wpAny_For ?_)
  trivial

example : True := by
  k_with "eval Name" => (k_dflt (refine' PyProof.Rows.ld (by assumption) (by first | exact rfl | assumption) ?_))
  trivial
noncomputable def wsLongest (d : Ws) : Int := if d.b > (d.cnt.length : Int) - 1 then d.b else (d.cnt.length : Int) - 1

theorem longest_spec {w : World} {dp un : Nat} {fr : Option (List Env)} {gd : Option (List Code)} {E : Value → Shared → Prop} {s : Shared} {mg mb : Str → Option Value} {Q : Value → Shared → Prop} {x : Addr} {d : Ws}
    (X : (hd.heap_39 w.params).In s.heap) (T : TopRead hd.view_39 LO mg mb s.heap) (W : WsIs s.heap x d) (hA : dp < 500)
    (h : ∀ t h' tk', (∀ b o, s.heap.get? b = some o → h'.get? b = some o) → Q (.int (wsLongest d) t) { s with heap := h', toks := tk' }) :
    wpAny (model PySem.Challenge.rw_pe0145_01.row.prog w) ⟨none, dp, fr, gd, un⟩ (call (.ref 55) [.ref x]) Q E s := by
  obtain ⟨dx, es, k, an, ct, cvs, tb, tn, tt, W⟩ := W
  refine callFn X T (by show dp < 1000; omega) (by with_unfolding_all rfl) (by with_unfolding_all rfl) (by exact BindsTo.of_eq rfl) (by exact locs rfl) (by decide) rfl rfl rfl fun L h₁ F N => ?_
  have hT := W.tup
  have hC := W.ctup
  have hI := W.areInts
  have hS := W.short
  dsimp only
  show wpAny _ _ _ _ _ _
  k_fold
  k_steps
  exact h _ _ _ (Fr.keep (by assumption))


noncomputable def ilAt (cnt : List Int) (ts : Int) (i : Nat) : Int := ((List.range i).map fun (k : Nat) => (ts + (k : Int)).fdiv ts * cnt.getD (ts + (k : Int)).toNat 0).sum
theorem ilAt_succ (cnt : List Int) (ts : Int) (i : Nat) : ilAt cnt ts (i + 1) = ilAt cnt ts i + (ts + (i : Int)).fdiv ts * cnt.getD (ts + (i : Int)).toNat 0 := by
  unfold ilAt
  rw [List.range_succ, List.map_append, List.sum_append]
  simp
noncomputable def wsLevel (d : Ws) (ts : Int) : Int := d.b + ts * (ilAt d.cnt ts ((d.cnt.length : Int) - ts).toNat + d.nt)
theorem WsAt.pos' {h x d dx es k an ct cvs tb tn tt} (W : WsAt h x d dx es k an ct cvs tb tn tt) (j : Nat) : 0 ≤ d.cnt.getD j 0 ∧ d.cnt.getD j 0 < 1000 := by
  rw [List.getD_eq_getElem?_getD]
  cases e : d.cnt[j]? with
  | none => simp
  | some c => exact W.pos c (List.mem_of_getElem? e)

theorem indent_spec {w : World} {dp un : Nat} {fr : Option (List Env)} {gd : Option (List Code)} {E : Value → Shared → Prop} {s : Shared} {mg mb : Str → Option Value} {Q : Value → Shared → Prop} {x : Addr} {d : Ws} {ts : Int} {tts : Tok}
    (X : (hd.heap_39 w.params).In s.heap) (T : TopRead hd.view_39 LO mg mb s.heap) (W : WsIs s.heap x d) (hA : dp < 500) (hts : 1 ≤ ts) (hts' : ts < 1000)
    (h : ∀ t h' tk', (∀ b o, s.heap.get? b = some o → h'.get? b = some o) → Q (.int (wsLevel d ts) t) { s with heap := h', toks := tk' }) :
    wpAny (model PySem.Challenge.rw_pe0145_01.row.prog w) ⟨none, dp, fr, gd, un⟩ (call (.ref 62) [.ref x, .int ts tts]) Q E s := by
  obtain ⟨dx, es, k, an, ct, cvs, tb, tn, tt, W⟩ := W
  refine callFn X T (by show dp < 1000; omega) (by with_unfolding_all rfl) (by with_unfolding_all rfl) (by exact BindsTo.of_eq rfl) (by exact locs rfl) (by decide) rfl rfl rfl fun L h₁ F N => ?_
  have hT := W.tup
  have hC := W.ctup
  have hI := W.areInts
  have hS := W.short
  have hl := W.lim
  dsimp only
  show wpAny _ _ _ _ _ _
  k_fold
  k_steps
  rename Fr _ _ _ _ => F1
  refine iterRange (n := ((d.cnt.length : Int) - ts).toNat) rfl (by assumption) (small_one (by omega) (by omega) (by omega) (by omega)) (rangeSize_one _ _) F1 (by assumption)
    (fun i m news g => ∃ t, news = [] ∧ g = s.gens ∧ m (Str.ofString "il") = some (.int (ilAt d.cnt ts i) t) ∧ m (Str.ofString "count") = some (.ref ct) ∧ m (Str.ofString "trailing") = some (.int d.b tb) ∧
      m (Str.ofString "tabsize") = some (.int ts tts) ∧ m (Str.ofString "self") = some (.ref x)) ⟨_, rfl, rfl, rfl, rfl, rfl, rfl, rfl⟩ ?_ ?_
  · rintro i tv m₁ news₁ I oI h₂ g tk hi ⟨t, rfl, rfl, m1, m2, m3, m4, m5⟩ hoff F₁ N₁
    have hc := W.pos' (ts + (i : Int)).toNat
    show wpAny _ _ _ _ _ _
    k_fold
    k_steps
    refine' TurnX.intro ?F ?N (fun _ hp => hp) hoff ?J
    case F => assumption
    case N => assumption
    case J => exact ⟨_, rfl, rfl, by rw [ilAt_succ]; rfl, m2, m3, m4, m5⟩
  · rintro m₁ news₁ h₂ g tk ⟨t, rfl, rfl, m1, m2, m3, m4, m5⟩ F₁ N₁
    dsimp only
    k_steps
    exact h _ _ _ (Fr.keep (by assumption))
end
section
open PySem PySem.W PyProof.Rows
example : True := by
  k_with_none
  k_with "getAttr ref" => (k_dflt (refine' get_own (by assumption) (by assumption) (by exact (WsAt.keeps (by assumption) (Fr.keep (by assumption))).at) (by k_is) (by k_is) (by k_is) (by k_is) (by first | exact WsAt.norm (by assumption) | exact WsAt.n (by assumption) | exact WsAt.nt (by assumption) | exact WsAt.simple (by assumption)) (by rfl) ?_))
  k_with "exec For Name Call cons nil" => k_dflt (refine wpAny_For ?_)
  k_with "exec For Name Name cons nil" => k_dflt (refine wpAny_For ?_)
  k_with "exec For Name Attribute cons nil" => k_dflt (refine wpAny_For ?_)
  k_with "eval Name" => (k_dflt (refine' PyProof.Rows.ld (by assumption) (by first | exact rfl | assumption) ?_))
  k_with "execs cons Assign cons" => (k_dflt (refine wpAny_execs_cons ?_))
  k_with "execs cons Assign nil" => (k_dflt (refine wpAny_execs_cons ?_))
  trivial

theorem strOne_eq (c k : Nat) : ((⟨#[c]⟩ : Str) == ⟨#[k]⟩) = decide (c = k) := by
  by_cases h : c = k
  · subst h; simp
  · have : (⟨#[c]⟩ : Str) ≠ ⟨#[k]⟩ := fun e => h (by have := congrArg Str.cps e; simpa using this)
    simp [h, this]
noncomputable def colStep (sz at_ : Int) (c : Nat) : Int := if c = 9 then at_ - at_.fmod sz + sz else at_ + 1
noncomputable def colOf (sz : Int) (l : List Nat) : Int := l.foldl (colStep sz) 0
theorem colOf_succ (sz : Int) (y : Array Nat) (i c : Nat) (h : y[i]? = some c) : colOf sz (y.toList.take (i + 1)) = colStep sz (colOf sz (y.toList.take i)) c := by
  unfold colOf
  rw [List.take_add_one, show y.toList[i]? = some c from by simpa using h]; simp
theorem col_spec {w : World} {dp un : Nat} {fr : Option (List Env)} {gd : Option (List Code)} {E : Value → Shared → Prop} {s : Shared} {mg mb : Str → Option Value} {Q : Value → Shared → Prop} {y : Str} {ty : Tok} {sz : Int} {tsz : Tok}
    (X : (hd.heap_39 w.params).In s.heap) (T : TopRead hd.view_39 LO mg mb s.heap) (hA : dp < 500) (hsz : 1 ≤ sz)
    (h : ∀ t h' tk', (∀ b o, s.heap.get? b = some o → h'.get? b = some o) → Q (.int (colOf sz y.cps.toList) t) { s with heap := h', toks := tk' }) :
    wpAny (model PySem.Challenge.rw_pe0145_01.row.prog w) ⟨none, dp, fr, gd, un⟩ (call (.ref 135) [.str y ty, .int sz tsz]) Q E s := by
  refine callFn X T (by show dp < 1000; omega) (by with_unfolding_all rfl) (by with_unfolding_all rfl) (by exact BindsTo.of_eq rfl) (by exact locs rfl) (by decide) rfl rfl rfl fun L h₁ F N => ?_
  dsimp only
  show wpAny _ _ _ _ _ _
  k_fold
  k_steps
  refine iterStr rfl (by assumption) (by assumption)
    (fun i m news g => ∃ t, news = [] ∧ g = s.gens ∧ m (Str.ofString "at") = some (.int (colOf sz (y.cps.toList.take i)) t) ∧ m (Str.ofString "size") = some (.int sz tsz)) ⟨_, rfl, rfl, rfl, rfl⟩ ?_ ?_
  · rintro i c tv m₁ news₁ I oI h₂ g tk hi ⟨t, rfl, rfl, m1, m2⟩ hoff F₁ N₁
    show wpAny _ _ _ _ _ _
    k_fold
    k_steps
    · have hc := ‹(({ cps := #[c] } : Str) == Str.ofString "\t") = true›
      rw [show Str.ofString "\t" = ⟨#[9]⟩ from by decide, strOne_eq, decide_eq_true_eq] at hc
      refine' TurnX.intro ?F ?N (fun _ hp => hp) hoff ?J
      case F => assumption
      case N => assumption
      case J => exact ⟨_, rfl, rfl, by rw [colOf_succ sz y.cps i c hi, colStep, if_pos hc]; rfl, m2⟩
    · have hc := ‹(({ cps := #[c] } : Str) == Str.ofString "\t") = false›
      rw [show Str.ofString "\t" = ⟨#[9]⟩ from by decide, strOne_eq, decide_eq_false_iff_not] at hc
      refine' TurnX.intro ?F ?N (fun _ hp => hp) hoff ?J
      case F => assumption
      case N => assumption
      case J => exact ⟨_, rfl, rfl, by rw [colOf_succ sz y.cps i c hi, colStep, if_neg hc]; rfl, m2⟩
  · rintro m₁ news₁ h₂ g tk ⟨t, rfl, rfl, m1, m2⟩ F₁ N₁
    rw [show y.cps.toList.take y.cps.size = y.cps.toList from List.take_of_length_le (by simp)] at m1
    dsimp only
    k_steps
    exact h _ _ _ (Fr.keep (by assumption))
end
section
open PySem PySem.W PyProof.Rows
example : True := by
  k_with_none
  k_with "getAttr ref" => (k_dflt (refine' get_own (by assumption) (by assumption) (by exact (WsAt.keeps (by assumption) (Fr.keep (by assumption))).at) (by k_is) (by k_is) (by k_is) (by k_is) (by first | exact WsAt.norm (by assumption) | exact WsAt.n (by assumption) | exact WsAt.nt (by assumption) | exact WsAt.simple (by assumption)) (by rfl) ?_))
  k_with "exec For Name Call cons nil" => k_dflt (refine wpAny_For ?_)
  k_with "exec For Name Name cons nil" => k_dflt (refine wpAny_For ?_)
  k_with "exec For Name Attribute cons nil" => k_dflt (refine wpAny_For ?_)
  k_with "eval Name" => (k_dflt (refine' PyProof.Rows.ld (by assumption) (by first | exact rfl | assumption) ?_))
  k_with "execs cons Assign cons" => (k_dflt (refine wpAny_execs_cons ?_))
  k_with "execs cons Assign nil" => (k_dflt (refine wpAny_execs_cons ?_))
  trivial

abbrev Row3 := Int × Int × Int
/-- a tuple of three ints in the ledger -/
noncomputable def RowIn (l : List (Addr × Obj)) (v : Value) (r : Row3) : Prop := ∃ a t1 t2 t3 k, v = .ref a ∧ (a, ({ cls := .type "tuple", data := .seq #[.int r.1 t1, .int r.2.1 t2, .int r.2.2 t3] k } : Obj)) ∈ l
inductive RowsIn (l : List (Addr × Obj)) : List Value → List Row3 → Prop
  | nil : RowsIn l [] []
  | snoc {vs rs v r} : RowsIn l vs rs → RowIn l v r → RowsIn l (vs ++ [v]) (rs ++ [r])
theorem RowIn.mono {l l' : List (Addr × Obj)} {v r} (h : RowIn l v r) (hs : ∀ p ∈ l, p ∈ l') : RowIn l' v r := let ⟨a, t1, t2, t3, k, e, hm⟩ := h; ⟨a, t1, t2, t3, k, e, hs _ hm⟩
theorem RowsIn.mono {l l' : List (Addr × Obj)} {vs rs} (h : RowsIn l vs rs) (hs : ∀ p ∈ l, p ∈ l') : RowsIn l' vs rs := by
  induction h with
  | nil => exact .nil
  | snoc _ hr ih => exact .snoc ih (hr.mono hs)
theorem RowsIn.length {l : List (Addr × Obj)} {vs rs} (h : RowsIn l vs rs) : vs.length = rs.length := by
  induction h with
  | nil => rfl
  | snoc _ _ ih => simp [ih]
/-- a list of such rows in the ledger -/
noncomputable def ListIn (l : List (Addr × Obj)) (la : Addr) (rs : List Row3) : Prop := ∃ vs n, (la, listOf vs.toArray n) ∈ l ∧ RowsIn l vs rs
theorem ListIn.mono {l l' : List (Addr × Obj)} {la rs} (h : ListIn l la rs) (hs : ∀ p ∈ l, p ∈ l') : ListIn l' la rs := let ⟨vs, n, hm, hr⟩ := h; ⟨vs, n, hs _ hm, hr.mono hs⟩

section
variable {w : World} {dp un : Nat} {fr : Option (List Env)} {gd : Option (List Code)} {E : Value → Shared → Prop} {s : Shared} {mg mb : Str → Option Value} {Q : Value → Shared → Prop} {x : Addr} {d : Ws} {ts : Int} {tts : Tok} {h₀ : Heap} {L : Addr} {m : Str → Option Value} {news : List (Addr × Obj)}
theorem longest_call (F : Fr h₀ L s.heap m) (N : News h₀ L s.heap news) (X : (hd.heap_39 w.params).In h₀) (T : TopRead hd.view_39 LO mg mb h₀) (W : WsIs h₀ x d) (hA : dp < 500)
    (h : ∀ t h' tk', Fr h₀ L h' m → News h₀ L h' news → Q (.int (wsLongest d) t) { s with heap := h', toks := tk' }) :
    wpAny (model PySem.Challenge.rw_pe0145_01.row.prog w) ⟨none, dp, fr, gd, un⟩ (call (.ref 55) [.ref x]) Q E s :=
  longest_spec (X.keeps F.keep) (T.keeps F.keep) (W.keeps F.keep) hA fun t h' tk' hk => h t h' tk' (F.grownK hk) (N.grown hk)
theorem indent_call (F : Fr h₀ L s.heap m) (N : News h₀ L s.heap news) (X : (hd.heap_39 w.params).In h₀) (T : TopRead hd.view_39 LO mg mb h₀) (W : WsIs h₀ x d) (hA : dp < 500) (hts : 1 ≤ ts) (hts' : ts < 1000)
    (h : ∀ t h' tk', Fr h₀ L h' m → News h₀ L h' news → Q (.int (wsLevel d ts) t) { s with heap := h', toks := tk' }) :
    wpAny (model PySem.Challenge.rw_pe0145_01.row.prog w) ⟨none, dp, fr, gd, un⟩ (call (.ref 62) [.ref x, .int ts tts]) Q E s :=
  indent_spec (X.keeps F.keep) (T.keeps F.keep) (W.keeps F.keep) hA hts hts' fun t h' tk' hk => h t h' tk' (F.grownK hk) (N.grown hk)
end
example : True := by
  k_with "call ref" => (k_dflt (refine' longest_call (by assumption) (by assumption) (by assumption) (by assumption) (by assumption) (by first | omega | (dsimp only; omega)) ?_); intro _ _ _ _ _; (try k_sweep))
  k_with "call ref" => (k_dflt (refine' indent_call (by assumption) (by assumption) (by assumption) (by assumption) (by assumption) (by first | omega | (dsimp only; omega)) (by omega) (by omega) ?_); intro _ _ _ _ _; (try k_sweep))
  k_with "getMethod ref" => (k_dflt (refine' method_inst (by assumption) (by assumption) (by exact (WsAt.keeps (by assumption) (Fr.keep (by assumption))).at) (by k_is) (by k_is) (by k_is) (by exact WsAt.meth (by assumption) _ (by decide)) ?_))
  trivial

theorem append_turn {prog : Program} {w : World} {A : Around} {E : Value → Shared → Prop} {s : Shared} {h₀ : Heap} {L D' I D : Addr} {o' oI : Obj} {m : Str → Option Value} {vs : List Value} {n : Nat} {x : Value} {tups : List (Addr × Obj)} {Q : Value → Shared → Prop}
    (F : Fr h₀ L s.heap m) (N : News h₀ L s.heap ((D', o') :: (I, oI) :: (D, listOf vs.toArray n) :: tups)) (h1 : D' ≠ D) (h2 : D ≠ I) (off : ∀ p ∈ tups, p.1 ≠ D) (hz : vs.length ≤ 10000)
    (h : ∀ h', Fr h₀ L h' m → News h₀ L h' ((I, oI) :: (D, listOf (vs ++ [x]).toArray (n + 1)) :: (D', o') :: tups) → Q .none { s with heap := h' }) :
    wpAny (model prog w) A (call (.builtin "list.append") [.ref D, x]) Q E s := by
  have z := N (D, listOf vs.toArray n) (by first | (with_reducible (repeat (first | exact List.mem_cons_self | assumption | exact List.mem_append_left _ (by assumption) | exact List.mem_append_left _ (List.mem_append_left _ (by assumption)) | exact List.mem_append_left _ (List.mem_append_right _ (by assumption)) | refine List.mem_cons_of_mem _ ?_ | refine List.mem_append_right _ ?_)); done) | simp)
  refine append_at (hsz := by show vs.toArray.size ≤ 2 ^ 24; rw [List.size_toArray]; omega) z.1 fun h' hs ho' => h h' (F.change hs z.2.1 z.2.2) fun p hp => ?_
  simp only [List.mem_cons] at hp
  rcases hp with rfl | rfl | rfl | hp
  · exact ⟨hs.extBut _ _ (Ne.symm h2) (N _ (by first | (with_reducible (repeat (first | exact List.mem_cons_self | assumption | exact List.mem_append_left _ (by assumption) | exact List.mem_append_left _ (List.mem_append_left _ (by assumption)) | exact List.mem_append_left _ (List.mem_append_right _ (by assumption)) | refine List.mem_cons_of_mem _ ?_ | refine List.mem_append_right _ ?_)); done) | simp)).1, (N _ (by first | (with_reducible (repeat (first | exact List.mem_cons_self | assumption | exact List.mem_append_left _ (by assumption) | exact List.mem_append_left _ (List.mem_append_left _ (by assumption)) | exact List.mem_append_left _ (List.mem_append_right _ (by assumption)) | refine List.mem_cons_of_mem _ ?_ | refine List.mem_append_right _ ?_)); done) | simp)).2⟩
  · exact ⟨by rw [ho']; simp, z.2⟩
  · exact ⟨hs.extBut _ _ h1 (N _ (by first | (with_reducible (repeat (first | exact List.mem_cons_self | assumption | exact List.mem_append_left _ (by assumption) | exact List.mem_append_left _ (List.mem_append_left _ (by assumption)) | exact List.mem_append_left _ (List.mem_append_right _ (by assumption)) | refine List.mem_cons_of_mem _ ?_ | refine List.mem_append_right _ ?_)); done) | simp)).1, (N _ (by first | (with_reducible (repeat (first | exact List.mem_cons_self | assumption | exact List.mem_append_left _ (by assumption) | exact List.mem_append_left _ (List.mem_append_left _ (by assumption)) | exact List.mem_append_left _ (List.mem_append_right _ (by assumption)) | refine List.mem_cons_of_mem _ ?_ | refine List.mem_append_right _ ?_)); done) | simp)).2⟩
  · exact ⟨hs.extBut _ _ (off p hp) (N _ (by first | (with_reducible (repeat (first | exact List.mem_cons_self | assumption | exact List.mem_append_left _ (by assumption) | exact List.mem_append_left _ (List.mem_append_left _ (by assumption)) | exact List.mem_append_left _ (List.mem_append_right _ (by assumption)) | refine List.mem_cons_of_mem _ ?_ | refine List.mem_append_right _ ?_)); done) | simp [hp])).1, (N _ (by first | (with_reducible (repeat (first | exact List.mem_cons_self | assumption | exact List.mem_append_left _ (by assumption) | exact List.mem_append_left _ (List.mem_append_left _ (by assumption)) | exact List.mem_append_left _ (List.mem_append_right _ (by assumption)) | refine List.mem_cons_of_mem _ ?_ | refine List.mem_append_right _ ?_)); done) | simp [hp])).2⟩
noncomputable def wsWits (d e : Ws) (n : Nat) : List Row3 := (List.range n).filterMap fun (k : Nat) => if wsLevel d (1 + (k : Int)) ≠ wsLevel e (1 + (k : Int)) then some (1 + (k : Int), wsLevel d (1 + (k : Int)), wsLevel e (1 + (k : Int))) else none
theorem wsWits_pos {d e : Ws} {i : Nat} (h : wsLevel d (1 + (i : Int)) ≠ wsLevel e (1 + (i : Int))) : wsWits d e (i + 1) = wsWits d e i ++ [(1 + (i : Int), wsLevel d (1 + (i : Int)), wsLevel e (1 + (i : Int)))] := by
  unfold wsWits
  rw [List.range_succ, List.filterMap_append]
  simp [h]
theorem wsWits_neg {d e : Ws} {i : Nat} (h : wsLevel d (1 + (i : Int)) = wsLevel e (1 + (i : Int))) : wsWits d e (i + 1) = wsWits d e i := by
  unfold wsWits
  rw [List.range_succ, List.filterMap_append]
  simp [h]
theorem wsWits_length (d e : Ws) (i : Nat) : (wsWits d e i).length ≤ i := by
  unfold wsWits; exact Nat.le_trans (List.length_filterMap_le ..) (by first | (with_reducible (repeat (first | exact List.mem_cons_self | assumption | exact List.mem_append_left _ (by assumption) | exact List.mem_append_left _ (List.mem_append_left _ (by assumption)) | exact List.mem_append_left _ (List.mem_append_right _ (by assumption)) | refine List.mem_cons_of_mem _ ?_ | refine List.mem_append_right _ ?_)); done) | simp)
noncomputable def wsTop (d e : Ws) : Int := (if wsLongest e > wsLongest d then wsLongest e else wsLongest d) + 1
theorem wits_spec {w : World} {dp un : Nat} {fr : Option (List Env)} {gd : Option (List Code)} {E : Value → Shared → Prop} {s : Shared} {mg mb : Str → Option Value} {Q : Value → Shared → Prop} {x x' : Addr} {d e : Ws}
    (X : (hd.heap_39 w.params).In s.heap) (T : TopRead hd.view_39 LO mg mb s.heap) (W : WsIs s.heap x d) (W' : WsIs s.heap x' e) (hA : dp < 400) (hB : 0 ≤ wsTop d e ∧ wsTop d e < 900)
    (h : ∀ la l h' tk', (∀ b o, s.heap.get? b = some o → h'.get? b = some o) → (∀ p ∈ l, h'.get? p.1 = some p.2 ∧ s.heap.get? p.1 = none) → ListIn l la (wsWits d e (wsTop d e).toNat) → Q (.ref la) { s with heap := h', toks := tk' }) :
    wpAny (model PySem.Challenge.rw_pe0145_01.row.prog w) ⟨none, dp, fr, gd, un⟩ (call (.ref 76) [.ref x, .ref x']) Q E s := by
  have W0 := W
  have W1 := W'
  obtain ⟨dx, es, k, an, ct, cvs, tb, tn, tt, W⟩ := W
  obtain ⟨dx', es', k', an', ct', cvs', tb', tn', tt', W'⟩ := W'
  refine callFn X T (by show dp < 1000; omega) (by with_unfolding_all rfl) (by with_unfolding_all rfl) (by exact BindsTo.of_eq rfl) (by exact locs rfl) (by decide) rfl rfl rfl fun L h₁ F N => ?_
  dsimp only
  show wpAny _ _ _ _ _ _
  k_fold
  k_steps
  have hx : ∀ k : Nat, k < (wsTop d e).toNat → (1 : Int) + (k : Int) < 1000 := fun k hk => by omega
  refine iterRange (n := (wsTop d e).toNat) rfl (by assumption) (by show Builtin.Range.small 1 (wsTop d e + 1) 1 = true; have := hB; exact small_one (by omega) (by omega) (by omega) (by omega)) (by show Builtin.Range.rangeSize 1 (wsTop d e + 1) 1 = _; rw [rangeSize_one]; congr 1; omega) (by assumption) (by assumption)
    (fun i m news g => ∃ la vs n tups, news = (la, listOf vs.toArray n) :: tups ∧ (∀ p ∈ tups, p.1 ≠ la) ∧ RowsIn tups vs (wsWits d e i) ∧ m (Str.ofString "a") = some (.ref la) ∧ m (Str.ofString "self") = some (.ref x) ∧ m (Str.ofString "other") = some (.ref x') ∧ g = s.gens)
    ?_ ?_ ?_
  · exact ⟨_, [], _, [], rfl, (fun _ hp => nomatch hp), .nil, rfl, rfl, rfl, rfl⟩
  · rintro i tv m₁ news₁ I oI h₂ g tk hi ⟨la, vs, n, tups, rfl, off, hR, m1, m2, m3, rfl⟩ hoff F₁ N₁
    have hi' := hx i hi
    show wpAny _ _ _ _ _ _
    k_fold
    k_steps
    · refine' append_turn ?F ?N ?h1 ?h2 off ?z ?_
      case F => assumption
      case N => assumption
      case h1 => refine neN ?_; omega
      case h2 => exact hoff _ List.mem_cons_self
      case z => have := wsWits_length d e i; rw [hR.length]; omega
      intro h' F' N'
      k_steps
      refine' TurnX.intro (news' := (la, _) :: _ :: tups) ?F ?N (fun _ hp => hp) ?off ?J
      case F => assumption
      case N => assumption
      case off =>
        intro p hp
        simp only [List.mem_cons] at hp
        rcases hp with rfl | rfl | hp
        · exact hoff (la, listOf vs.toArray n) List.mem_cons_self
        · refine neN ?_; dsimp only; omega
        · exact hoff _ (List.mem_cons_of_mem _ hp)
      case J =>
        refine ⟨la, _, _, _, rfl, ?_, ?_, m1, m2, m3, rfl⟩
        · intro p hp
          rcases List.mem_cons.mp hp with rfl | hp
          · refine neN ?_; dsimp only; omega
          · exact off p hp
        · rw [wsWits_pos (d := d) (e := e) (i := i) (by assumption)]
          exact .snoc (hR.mono fun _ hp => List.mem_cons_of_mem _ hp) ⟨_, _, _, _, _, rfl, List.mem_cons_self⟩
    · refine' TurnX.intro ?F ?N (fun _ hp => hp) hoff ?J
      case F => assumption
      case N => assumption
      case J => exact ⟨la, _, _, _, rfl, off, by rw [wsWits_neg (d := d) (e := e) (i := i) (by assumption)]; exact hR, m1, m2, m3, rfl⟩
  · rintro m₁ news₁ h₂ g tk ⟨la, vs, n, tups, rfl, off, hR, m1, m2, m3, rfl⟩ F₁ N₁
    dsimp only
    k_steps
    exact h la _ _ _ (Fr.keep (by assumption)) (fun p hp => ⟨(N₁ p hp).1, (N₁ p hp).2.2⟩) ⟨_, _, List.mem_cons_self, hR.mono fun _ hp => List.mem_cons_of_mem _ hp⟩
end
section
open PySem PySem.W PyProof.Rows
example : True := by
  k_with_none
  k_with "getAttr ref" => (k_dflt (refine' get_own (by assumption) (by assumption) (by exact (WsAt.keeps (by assumption) (Fr.keep (by assumption))).at) (by k_is) (by k_is) (by k_is) (by k_is) (by first | exact WsAt.norm (by assumption) | exact WsAt.n (by assumption) | exact WsAt.nt (by assumption) | exact WsAt.simple (by assumption)) (by rfl) ?_))
  k_with "exec For Name Call cons nil" => k_dflt (refine wpAny_For ?_)
  k_with "exec For Name Name cons nil" => k_dflt (refine wpAny_For ?_)
  k_with "exec For Name Attribute cons nil" => k_dflt (refine wpAny_For ?_)
  k_with "eval Name" => (k_dflt (refine' PyProof.Rows.ld (by assumption) (by first | exact rfl | assumption) ?_))
  k_with "execs cons Assign cons" => (k_dflt (refine wpAny_execs_cons ?_))
  k_with "execs cons Assign nil" => (k_dflt (refine wpAny_execs_cons ?_))
  k_with "call ref" => (k_dflt (refine' longest_call (by assumption) (by assumption) (by assumption) (by assumption) (by assumption) (by first | omega | (dsimp only; omega)) ?_); intro _ _ _ _ _; (try k_sweep))
  k_with "call ref" => (k_dflt (refine' indent_call (by assumption) (by assumption) (by assumption) (by assumption) (by assumption) (by first | omega | (dsimp only; omega)) (by omega) (by omega) ?_); intro _ _ _ _ _; (try k_sweep))
  k_with "getMethod ref" => (k_dflt (refine' method_inst (by assumption) (by assumption) (by exact (WsAt.keeps (by assumption) (Fr.keep (by assumption))).at) (by k_is) (by k_is) (by k_is) (by exact WsAt.meth (by assumption) _ (by decide)) ?_))
  trivial

noncomputable def wsBlind (d e : Ws) (n : Nat) : List Row3 := (List.range n).filterMap fun (k : Nat) => if wsLevel d (1 + (k : Int)) ≥ wsLevel e (1 + (k : Int)) then some (1 + (k : Int), wsLevel d (1 + (k : Int)), wsLevel e (1 + (k : Int))) else none
theorem wsBlind_pos {d e : Ws} {i : Nat} (h : wsLevel d (1 + (i : Int)) ≥ wsLevel e (1 + (i : Int))) : wsBlind d e (i + 1) = wsBlind d e i ++ [(1 + (i : Int), wsLevel d (1 + (i : Int)), wsLevel e (1 + (i : Int)))] := by
  unfold wsBlind
  rw [List.range_succ, List.filterMap_append]
  simp [h]
theorem wsBlind_neg {d e : Ws} {i : Nat} (h : wsLevel d (1 + (i : Int)) < wsLevel e (1 + (i : Int))) : wsBlind d e (i + 1) = wsBlind d e i := by
  unfold wsBlind
  rw [List.range_succ, List.filterMap_append]
  simp [h]
theorem wsBlind_length (d e : Ws) (i : Nat) : (wsBlind d e i).length ≤ i := by
  unfold wsBlind; exact Nat.le_trans (List.length_filterMap_le ..) (by first | (with_reducible (repeat (first | exact List.mem_cons_self | assumption | exact List.mem_append_left _ (by assumption) | exact List.mem_append_left _ (List.mem_append_left _ (by assumption)) | exact List.mem_append_left _ (List.mem_append_right _ (by assumption)) | refine List.mem_cons_of_mem _ ?_ | refine List.mem_append_right _ ?_)); done) | simp)
theorem blind_spec {w : World} {dp un : Nat} {fr : Option (List Env)} {gd : Option (List Code)} {E : Value → Shared → Prop} {s : Shared} {mg mb : Str → Option Value} {Q : Value → Shared → Prop} {x x' : Addr} {d e : Ws}
    (X : (hd.heap_39 w.params).In s.heap) (T : TopRead hd.view_39 LO mg mb s.heap) (W : WsIs s.heap x d) (W' : WsIs s.heap x' e) (hA : dp < 400) (hB : 0 ≤ wsTop d e ∧ wsTop d e < 900)
    (h : ∀ la l h' tk', (∀ b o, s.heap.get? b = some o → h'.get? b = some o) → (∀ p ∈ l, h'.get? p.1 = some p.2 ∧ s.heap.get? p.1 = none) → ListIn l la (wsBlind d e (wsTop d e).toNat) → Q (.ref la) { s with heap := h', toks := tk' }) :
    wpAny (model PySem.Challenge.rw_pe0145_01.row.prog w) ⟨none, dp, fr, gd, un⟩ (call (.ref 90) [.ref x, .ref x']) Q E s := by
  have W0 := W
  have W1 := W'
  obtain ⟨dx, es, k, an, ct, cvs, tb, tn, tt, W⟩ := W
  obtain ⟨dx', es', k', an', ct', cvs', tb', tn', tt', W'⟩ := W'
  refine callFn X T (by show dp < 1000; omega) (by with_unfolding_all rfl) (by with_unfolding_all rfl) (by exact BindsTo.of_eq rfl) (by exact locs rfl) (by decide) rfl rfl rfl fun L h₁ F N => ?_
  dsimp only
  show wpAny _ _ _ _ _ _
  k_fold
  k_steps
  have hx : ∀ k : Nat, k < (wsTop d e).toNat → (1 : Int) + (k : Int) < 1000 := fun k hk => by omega
  refine iterRange (n := (wsTop d e).toNat) rfl (by assumption) (by show Builtin.Range.small 1 (wsTop d e + 1) 1 = true; have := hB; exact small_one (by omega) (by omega) (by omega) (by omega)) (by show Builtin.Range.rangeSize 1 (wsTop d e + 1) 1 = _; rw [rangeSize_one]; congr 1; omega) (by assumption) (by assumption)
    (fun i m news g => ∃ la vs n tups, news = (la, listOf vs.toArray n) :: tups ∧ (∀ p ∈ tups, p.1 ≠ la) ∧ RowsIn tups vs (wsBlind d e i) ∧ m (Str.ofString "a") = some (.ref la) ∧ m (Str.ofString "self") = some (.ref x) ∧ m (Str.ofString "other") = some (.ref x') ∧ g = s.gens)
    ?_ ?_ ?_
  · exact ⟨_, [], _, [], rfl, (fun _ hp => nomatch hp), .nil, rfl, rfl, rfl, rfl⟩
  · rintro i tv m₁ news₁ I oI h₂ g tk hi ⟨la, vs, n, tups, rfl, off, hR, m1, m2, m3, rfl⟩ hoff F₁ N₁
    have hi' := hx i hi
    show wpAny _ _ _ _ _ _
    k_fold
    k_steps
    · refine' append_turn ?F ?N ?h1 ?h2 off ?z ?_
      case F => assumption
      case N => assumption
      case h1 => refine neN ?_; omega
      case h2 => exact hoff _ List.mem_cons_self
      case z => have := wsBlind_length d e i; rw [hR.length]; omega
      intro h' F' N'
      k_steps
      refine' TurnX.intro (news' := (la, _) :: _ :: tups) ?F ?N (fun _ hp => hp) ?off ?J
      case F => assumption
      case N => assumption
      case off =>
        intro p hp
        simp only [List.mem_cons] at hp
        rcases hp with rfl | rfl | hp
        · exact hoff (la, listOf vs.toArray n) List.mem_cons_self
        · refine neN ?_; dsimp only; omega
        · exact hoff _ (List.mem_cons_of_mem _ hp)
      case J =>
        refine ⟨la, _, _, _, rfl, ?_, ?_, m1, m2, m3, rfl⟩
        · intro p hp
          rcases List.mem_cons.mp hp with rfl | hp
          · refine neN ?_; dsimp only; omega
          · exact off p hp
        · rw [wsBlind_pos (d := d) (e := e) (i := i) (by omega)]
          exact .snoc (hR.mono fun _ hp => List.mem_cons_of_mem _ hp) ⟨_, _, _, _, _, rfl, List.mem_cons_self⟩
    · refine' TurnX.intro ?F ?N (fun _ hp => hp) hoff ?J
      case F => assumption
      case N => assumption
      case J => exact ⟨la, _, _, _, rfl, off, by rw [wsBlind_neg (d := d) (e := e) (i := i) (by omega)]; exact hR, m1, m2, m3, rfl⟩
  · rintro m₁ news₁ h₂ g tk ⟨la, vs, n, tups, rfl, off, hR, m1, m2, m3, rfl⟩ F₁ N₁
    dsimp only
    k_steps
    exact h la _ _ _ (Fr.keep (by assumption)) (fun p hp => ⟨(N₁ p hp).1, (N₁ p hp).2.2⟩) ⟨_, _, List.mem_cons_self, hR.mono fun _ hp => List.mem_cons_of_mem _ hp⟩
end
section
open PySem PySem.W PyProof.Rows
example : True := by
  k_with_none
  k_with "getAttr ref" => (k_dflt (refine' get_own (by assumption) (by assumption) (by exact (WsAt.keeps (by assumption) (Fr.keep (by assumption))).at) (by k_is) (by k_is) (by k_is) (by k_is) (by first | exact WsAt.norm (by assumption) | exact WsAt.n (by assumption) | exact WsAt.nt (by assumption) | exact WsAt.simple (by assumption)) (by rfl) ?_))
  k_with "exec For Name Call cons nil" => k_dflt (refine wpAny_For ?_)
  k_with "exec For Name Name cons nil" => k_dflt (refine wpAny_For ?_)
  k_with "exec For Name Attribute cons nil" => k_dflt (refine wpAny_For ?_)
  k_with "eval Name" => (k_dflt (refine' PyProof.Rows.ld (by assumption) (by first | exact rfl | assumption) ?_))
  k_with "execs cons Assign cons" => (k_dflt (refine wpAny_execs_cons ?_))
  k_with "execs cons Assign nil" => (k_dflt (refine wpAny_execs_cons ?_))
  k_with "call ref" => (k_dflt (refine' longest_call (by assumption) (by assumption) (by assumption) (by assumption) (by assumption) (by first | omega | (dsimp only; omega)) ?_); intro _ _ _ _ _; (try k_sweep))
  k_with "call ref" => (k_dflt (refine' indent_call (by assumption) (by assumption) (by assumption) (by assumption) (by assumption) (by first | omega | (dsimp only; omega)) (by omega) (by omega) ?_); intro _ _ _ _ _; (try k_sweep))
  k_with "getMethod ref" => (k_dflt (refine' method_inst (by assumption) (by assumption) (by exact (WsAt.keeps (by assumption) (Fr.keep (by assumption))).at) (by k_is) (by k_is) (by k_is) (by exact WsAt.meth (by assumption) _ (by decide)) ?_))
  trivial


noncomputable def wsLess (d e : Ws) : Bool := if d.n ≥ e.n then false else if d.cnt.length ≤ 1 ∧ e.cnt.length ≤ 1 then decide (d.nt ≤ e.nt) else (List.range (wsTop d e - 1).toNat).all fun (k : Nat) => decide (wsLevel d (2 + (k : Int)) < wsLevel e (2 + (k : Int)))
theorem less_spec {w : World} {dp un : Nat} {fr : Option (List Env)} {gd : Option (List Code)} {E : Value → Shared → Prop} {s : Shared} {mg mb : Str → Option Value} {Q : Value → Shared → Prop} {x x' : Addr} {d e : Ws}
    (X : (hd.heap_39 w.params).In s.heap) (T : TopRead hd.view_39 LO mg mb s.heap) (W : WsIs s.heap x d) (W' : WsIs s.heap x' e) (hA : dp < 400) (hB : 0 ≤ wsTop d e ∧ wsTop d e < 900)
    (h : ∀ h' tk', (∀ b o, s.heap.get? b = some o → h'.get? b = some o) → Q (.bool (wsLess d e)) { s with heap := h', toks := tk' }) :
    wpAny (model PySem.Challenge.rw_pe0145_01.row.prog w) ⟨none, dp, fr, gd, un⟩ (call (.ref 83) [.ref x, .ref x']) Q E s := by
  have W0 := W
  have W1 := W'
  obtain ⟨dx, es, k, an, ct, cvs, tb, tn, tt, W⟩ := W
  obtain ⟨dx', es', k', an', ct', cvs', tb', tn', tt', W'⟩ := W'
  refine callFn X T (by show dp < 1000; omega) (by with_unfolding_all rfl) (by with_unfolding_all rfl) (by exact BindsTo.of_eq rfl) (by exact locs rfl) (by decide) rfl rfl rfl fun L h₁ F N => ?_
  dsimp only
  show wpAny _ _ _ _ _ _
  k_fold
  k_steps
  · have key : wsLess d e = false := by unfold wsLess; rw [if_pos (by assumption)]
    rw [key] at h
    exact h _ _ (Fr.keep (by assumption))
  · have key : wsLess d e = decide (d.nt ≤ e.nt) := by unfold wsLess; rw [if_neg (by assumption), if_pos ⟨by assumption, by assumption⟩]
    rw [key] at h
    exact h _ _ (Fr.keep (by assumption))
  all_goals
    have key : wsLess d e = (List.range (wsTop d e - 1).toNat).all fun (k : Nat) => decide (wsLevel d (2 + (k : Int)) < wsLevel e (2 + (k : Int))) := by unfold wsLess; rw [if_neg (by assumption), if_neg (by omega)]
    rw [key] at h
    have hx : ∀ k : Nat, k < (wsTop d e - 1).toNat → (2 : Int) + (k : Int) < 1000 := fun k hk => by omega
    refine iterRange (n := (wsTop d e - 1).toNat) rfl (by assumption) (by show Builtin.Range.small 2 (wsTop d e + 1) 1 = true; have := hB; exact small_one (by omega) (by omega) (by omega) (by omega)) (by show Builtin.Range.rangeSize 2 (wsTop d e + 1) 1 = _; rw [rangeSize_one]; congr 1; omega) (by assumption) (by assumption)
      (fun i m news g => news = [] ∧ (∀ k, k < i → wsLevel d (2 + (k : Int)) < wsLevel e (2 + (k : Int))) ∧ m (Str.ofString "self") = some (.ref x) ∧ m (Str.ofString "other") = some (.ref x') ∧ g = s.gens)
      ?_ ?_ ?_
    · exact ⟨rfl, (fun k hk => absurd hk (Nat.not_lt_zero k)), rfl, rfl, rfl⟩
    · rintro i tv m₁ news₁ I oI h₂ g tk hi ⟨rfl, hR, m2, m3, rfl⟩ hoff F₁ N₁
      have hi' := hx i hi
      show wpAny _ _ _ _ _ _
      k_fold
      k_steps
      · have kf : ((List.range (wsTop d e - 1).toNat).all fun (k : Nat) => decide (wsLevel d (2 + (k : Int)) < wsLevel e (2 + (k : Int)))) = false := by
          rw [Bool.eq_false_iff]
          intro hall
          have := List.all_eq_true.mp hall i (List.mem_range.mpr hi)
          rw [decide_eq_true_eq] at this
          omega
        rw [kf] at h
        exact h _ _ (Fr.keep (by assumption))
      · refine' TurnX.intro ?F ?N (fun _ hp => hp) hoff ?J
        case F => assumption
        case N => assumption
        case J =>
          refine ⟨rfl, fun k hk => ?_, m2, m3, rfl⟩
          rcases Nat.lt_succ_iff_lt_or_eq.mp hk with h1 | rfl
          · exact hR k h1
          · omega
    · rintro m₁ news₁ h₂ g tk ⟨rfl, hR, m2, m3, rfl⟩ F₁ N₁
      have kt : ((List.range (wsTop d e - 1).toNat).all fun (k : Nat) => decide (wsLevel d (2 + (k : Int)) < wsLevel e (2 + (k : Int)))) = true := by
        rw [List.all_eq_true]
        intro k hk
        rw [decide_eq_true_eq]
        exact hR k (List.mem_range.mp hk)
      rw [kt] at h
      dsimp only
      k_steps
      exact h _ _ (Fr.keep (by assumption))
end
section
open PySem PySem.W PyProof.Rows
example : True := by
  k_with_none
  k_with "getAttr ref" => (k_dflt (refine' get_own (by assumption) (by assumption) (by exact (WsAt.keeps (by assumption) (Fr.keep (by assumption))).at) (by k_is) (by k_is) (by k_is) (by k_is) (by first | exact WsAt.norm (by assumption) | exact WsAt.n (by assumption) | exact WsAt.nt (by assumption) | exact WsAt.simple (by assumption)) (by rfl) ?_))
  k_with "exec For Name Call cons nil" => k_dflt (refine wpAny_For ?_)
  k_with "exec For Name Name cons nil" => k_dflt (refine wpAny_For ?_)
  k_with "exec For Name Attribute cons nil" => k_dflt (refine wpAny_For ?_)
  k_with "eval Name" => (k_dflt (refine' PyProof.Rows.ld (by assumption) (by first | exact rfl | assumption) ?_))
  k_with "execs cons Assign cons" => (k_dflt (refine wpAny_execs_cons ?_))
  k_with "execs cons Assign nil" => (k_dflt (refine wpAny_execs_cons ?_))
  trivial

open PySem.Spec in
theorem readsAll_ints {h : Heap} : ∀ {vs : List Value} {ns : List Int}, IntsAre vs ns → ReadsAll h vs (ns.map PyData.int) []
  | _, _, .nil => .nil
  | _, _, .cons n t r => .cons (as := []) (.int n t) (readsAll_ints r)
theorem shaped_norm (ns : List Int) (b : Int) : SeqAt.shaped (.tuple [.tuple (ns.map PyData.int), .int b]) = true := by
  simp [SeqAt.shaped, PyData.canLay0, PyData.canLayAll0, PyData.depth, PyData.depthAll, ke_canLayAll0, ke_depthAll]
theorem eqv_norm (ns ms : List Int) (b c : Int) : PyData.eqv (.tuple [.tuple (ns.map PyData.int), .int b]) (.tuple [.tuple (ms.map PyData.int), .int c]) = decide (ns = ms ∧ b = c) := by
  simp only [PyData.eqv, PyData.eqvAll, ked_eqvAll]
  by_cases h : ns = ms <;> by_cases h' : b = c <;> simp [h, h']
open PySem.Spec in
theorem WsAt.reads {h x d dx es k an ct cvs tb tn tt} (W : WsAt h x d dx es k an ct cvs tb tn tt) : ∃ as, Reads h (.ref an) (.tuple [.tuple (d.cnt.map PyData.int), .int d.b]) as := by
  obtain ⟨o, ho, hc, n, hd⟩ := W.tup
  obtain ⟨o', ho', hc', n', hd'⟩ := W.ctup
  exact ⟨_, .tuple ho hc hd (.cons (.tuple ho' hc' hd' (by simpa using readsAll_ints W.areInts)) (.cons (.int _ _) .nil))⟩

theorem equal_spec {w : World} {dp un : Nat} {fr : Option (List Env)} {gd : Option (List Code)} {E : Value → Shared → Prop} {s : Shared} {mg mb : Str → Option Value} {Q : Value → Shared → Prop} {x x' : Addr} {d e : Ws}
    (X : (hd.heap_39 w.params).In s.heap) (T : TopRead hd.view_39 LO mg mb s.heap) (W : WsIs s.heap x d) (W' : WsIs s.heap x' e) (hA : dp < 400) (hU : un < 5000)
    (h : ∀ h' tk', (∀ b o, s.heap.get? b = some o → h'.get? b = some o) → Q (.bool (decide (d.cnt = e.cnt ∧ d.b = e.b))) { s with heap := h', toks := tk' }) :
    wpAny (model PySem.Challenge.rw_pe0145_01.row.prog w) ⟨none, dp, fr, gd, un⟩ (call (.ref 69) [.ref x, .ref x']) Q E s := by
  obtain ⟨dx, es, k, an, ct, cvs, tb, tn, tt, W⟩ := W
  obtain ⟨dx', es', k', an', ct', cvs', tb', tn', tt', W'⟩ := W'
  refine callFn X T (by show dp < 1000; omega) (by with_unfolding_all rfl) (by with_unfolding_all rfl) (by exact BindsTo.of_eq rfl) (by exact locs rfl) (by decide) rfl rfl rfl fun L h₁ F N => ?_
  dsimp only
  show wpAny _ _ _ _ _ _
  k_fold
  k_steps
  obtain ⟨as, R⟩ := (W.keeps (Fr.keep F)).reads
  obtain ⟨as', R'⟩ := (W'.keeps (Fr.keep F)).reads
  refine eq_dataH R R' (shaped_norm _ _) (shaped_norm _ _) (by show un + 3 + 64 < 9900; omega) ?_
  rw [eqv_norm]
  k_steps
  exact h _ _ (Fr.keep (by assumption))

/-- two lists of rows compared -/
noncomputable def rowData (r : Row3) : PyData := .tuple [.int r.1, .int r.2.1, .int r.2.2]
theorem shaped_rows (rs : List Row3) : SeqAt.shaped (.list (rs.map rowData)) = true := by
  have h1 : ∀ rs : List Row3, PyData.canLayAll0 (rs.map rowData) = true := by
    intro rs; induction rs with
    | nil => rfl
    | cons r t ih => simp [PyData.canLayAll0, PyData.canLay0, rowData, ih]
  have h2 : ∀ rs : List Row3, PyData.depthAll (rs.map rowData) ≤ 1 := by
    intro rs; induction rs with
    | nil => simp [PyData.depthAll]
    | cons r t ih => simp only [List.map_cons, PyData.depthAll, rowData, PyData.depth]; omega
  have := h2 rs
  simp only [SeqAt.shaped, PyData.canLay0, PyData.depth, h1, Bool.true_and]
  exact decide_eq_true (by omega)
theorem eqvAll_rows : ∀ rs ts : List Row3, PyData.eqvAll (rs.map rowData) (ts.map rowData) = decide (rs = ts)
  | [], [] => by simp [PyData.eqvAll]
  | [], _ :: _ => by simp [PyData.eqvAll]
  | _ :: _, [] => by simp [PyData.eqvAll]
  | (a, b, c) :: r, (a', b', c') :: t => by
    simp only [List.map_cons, PyData.eqvAll, PyData.eqv, rowData, eqvAll_rows r t]
    by_cases h1 : a = a' <;> by_cases h2 : b = b' <;> by_cases h3 : c = c' <;> by_cases h : r = t <;> simp [h1, h2, h3, h]
theorem eqv_rows (rs ts : List Row3) : PyData.eqv (.list (rs.map rowData)) (.list (ts.map rowData)) = decide (rs = ts) := by
  simp only [PyData.eqv]; exact eqvAll_rows rs ts
open PySem.Spec in
theorem readsAll_snoc {h : Heap} {vs : List Value} {ds : List PyData} {as : List Addr} (H : ReadsAll h vs ds as) {v : Value} {d : PyData} {bs : List Addr} (r : Reads h v d bs) : ∃ cs, ReadsAll h (vs ++ [v]) (ds ++ [d]) cs := by
  induction vs generalizing ds as with
  | nil => cases H; exact ⟨_, .cons r .nil⟩
  | cons v' vs ih =>
    cases H with
    | cons h1 h2 => obtain ⟨cs, ih⟩ := ih h2; exact ⟨_, .cons h1 ih⟩
open PySem.Spec in
theorem RowsIn.reads {h : Heap} {l : List (Addr × Obj)} (N : ∀ p ∈ l, h.get? p.1 = some p.2) {vs : List Value} {rs : List Row3} (H : RowsIn l vs rs) : ∃ as, ReadsAll h vs (rs.map rowData) as := by
  induction H with
  | nil => exact ⟨_, .nil⟩
  | snoc _ hr ih =>
    obtain ⟨as, ih⟩ := ih
    obtain ⟨a, t1, t2, t3, k, rfl, hm⟩ := hr
    rw [List.map_append]
    exact readsAll_snoc ih (.tuple (N _ hm) rfl rfl (.cons (.int _ _) (.cons (.int _ _) (.cons (.int _ _) .nil))))
open PySem.Spec in
theorem ListIn.reads {h : Heap} {l : List (Addr × Obj)} (N : ∀ p ∈ l, h.get? p.1 = some p.2) {la : Addr} {rs : List Row3} (H : ListIn l la rs) : ∃ as, Reads h (.ref la) (.list (rs.map rowData)) as := by
  obtain ⟨vs, n, hm, hr⟩ := H
  obtain ⟨as, R⟩ := hr.reads N
  exact ⟨_, .list (N _ hm) rfl rfl (by simpa using R)⟩
theorem ne_rows {prog : Program} {w : World} {A : Around} {E : Value → Shared → Prop} {s : Shared} {a b : Addr} {l : List (Addr × Obj)} {rs ts : List Row3} {Q : Value → Shared → Prop} (N : ∀ p ∈ l, s.heap.get? p.1 = some p.2)
    (ha : ListIn l a rs) (hb : ListIn l b ts) (hu : A.units + 64 < cLine) (h : Q (.bool (!decide (rs = ts))) s) : wpAny (model prog w) A (compareOp .NotEq (.ref a) (.ref b)) Q E s := by
  obtain ⟨as, R⟩ := ha.reads N
  obtain ⟨as', R'⟩ := hb.reads N
  refine ne_dataH R R' (shaped_rows _) (shaped_rows _) hu ?_
  rw [eqv_rows]; exact h
end
section
open PySem PySem.W PyProof.Rows
example : True := by
  k_with_none
  k_with "getAttr ref" => (k_dflt (refine' get_own (by assumption) (by assumption) (by exact (WsAt.keeps (by assumption) (Fr.keep (by assumption))).at) (by k_is) (by k_is) (by k_is) (by k_is) (by first | exact WsAt.norm (by assumption) | exact WsAt.n (by assumption) | exact WsAt.nt (by assumption) | exact WsAt.simple (by assumption)) (by rfl) ?_))
  k_with "exec For Name Call cons nil" => k_dflt (refine wpAny_For ?_)
  k_with "exec For Name Name cons nil" => k_dflt (refine wpAny_For ?_)
  k_with "exec For Name Attribute cons nil" => k_dflt (refine wpAny_For ?_)
  k_with "eval Name" => (k_dflt (refine' PyProof.Rows.ld (by assumption) (by first | exact rfl | assumption) ?_))
  k_with "execs cons Assign cons" => (k_dflt (refine wpAny_execs_cons ?_))
  k_with "execs cons Assign nil" => (k_dflt (refine wpAny_execs_cons ?_))
  k_with "eval ListComp" => (k_dflt (refine LCg.ListComp_U (F₀ := by assumption) (by with_unfolding_all rfl) (by decide) (by rfl) (by decide) (by rfl) ?_))
  k_with "CompSrc" => refine Stop.out ?_
  k_with "binaryOp Add str str" => (k_dflt (refine PyProof.Rows.add_str (hsz := (by first | decide | (simp only [slen_append, slen_lit]; omega) | (simp only [slen_append]; omega))) ?_); intro _ _)
  k_with "eval Name" => ((with_reducible show wpAny _ _ (eval (Expr.Name _ _) (compEnvC _ _ _ _)) _ _ _); k_dflt (first | refine comp_global (by assumption) (by assumption) (by assumption) (by k_is) ?_ | refine comp_built (by assumption) (by assumption) (by assumption) (by k_is) (by boot_by_name) (by decide) ?_))
  trivial

/-- how an element's reckoning ends -/
noncomputable def EltEnd (s : Shared) (h : Heap) (Rn : Value → List (Addr × Obj) → Prop) (y : Value) (s' : Shared) : Prop :=
  ∃ h' tk' nl', s' = { s with heap := h', toks := tk' } ∧ (∀ b o, h.get? b = some o → h'.get? b = some o) ∧ (∀ p ∈ nl', h'.get? p.1 = some p.2 ∧ h.get? p.1 = none) ∧ Rn y nl'
theorem EltEnd.same {s : Shared} {h : Heap} {Rn : Value → List (Addr × Obj) → Prop} {y : Value} {tk : Nat} (hr : Rn y []) : EltEnd s h Rn y { s with heap := h, toks := tk } := ⟨h, tk, [], rfl, fun _ _ e => e, (fun _ hp => nomatch hp), hr⟩
/-- the turns of a comprehension, by what holds of the values so far and of what they made -/
theorem comp_rest {prog : Program} {w : World} {A : Around} {s : Shared} {h₀ : Heap} {L : Addr} {m : Str → Option Value} {env : Env} {elt : Expr} {x : Str} {scope : Scope} {cl : List (Str × Addr)} {S : List (Addr × Obj) → Prop} {P : Nat → Value → Prop}
    {Fin : List Value → List (Addr × Obj) → Prop} {n : Nat} {news : List (Addr × Obj)} (R : Nat → List Value → List (Addr × Obj) → Prop) (hS : ∀ nl, S (nl ++ news)) (h0 : R 0 [] [])
    (turn : ∀ i v ys nl I oI C oC D m₂ h tk, i < n → P i v → R i ys nl → LCg.NsObj oC m₂ → m₂ x = some v → Fr h₀ L h m → News h₀ L h ((I, oI) :: (C, oC) :: (D, LCg.lst ys) :: (nl ++ news)) →
      wpAny (model prog w) A (eval elt (compEnvC scope cl C env)) (EltEnd s h fun y nl' => R (i + 1) (ys ++ [y]) (nl' ++ nl)) noE { s with heap := h, toks := tk })
    (fin : ∀ ys nl, R n ys nl → Fin ys (nl ++ news)) :
    LCg.CompRest prog w A h₀ L m env elt x scope cl s S P Fin n 0 [] news := by
  suffices H : ∀ k i ys nl, i + k = n → R i ys nl → LCg.CompRest prog w A h₀ L m env elt x scope cl s S P Fin k i ys (nl ++ news) from H n 0 [] [] (by omega) h0
  intro k
  induction k with
  | zero => intro i ys nl hi hR; obtain rfl : i = n := by omega
            exact fin ys nl hR
  | succ k ih =>
    intro i ys nl hi hR v I oI C oC D m₂ h tk E' hP hC hx F N off ne
    refine wpAny_mono (turn i v ys nl I oI C oC D m₂ h tk (by omega) hP hR hC hx F N) (fun y s' hy => ?_) fun _ _ e => e.elim
    obtain ⟨h', tk', nl', rfl, hk, hnew, hR'⟩ := hy
    have N' := N.grown hk
    have hLs : ∃ o, h.get? L = some o := let ⟨o, _, _, e, _⟩ := F.ns; ⟨o, e⟩
    have fresh : ∀ p ∈ nl', ∀ q o, h.get? q = some o → p.1 ≠ q := fun p hp q o e e' => by rw [← e', (hnew p hp).2] at e; cases e
    refine ⟨h', tk', nl' ++ (nl ++ news), rfl, F.grownK hk, fun p hp => ?_, ?_, by rw [← List.append_assoc]; exact hS _, by rw [← List.append_assoc]; exact ih (i + 1) _ _ (by omega) hR'⟩
    · have : p ∈ (I, oI) :: (C, oC) :: (D, LCg.lst ys) :: (nl ++ news) ∨ p ∈ nl' := by
        simp only [List.mem_cons, List.mem_append] at hp ⊢
        rcases hp with h1 | h1 | h1 | h1 | h1 | h1
        · exact .inl (.inl h1)
        · exact .inl (.inr (.inl h1))
        · exact .inl (.inr (.inr (.inl h1)))
        · exact .inr h1
        · exact .inl (.inr (.inr (.inr (.inl h1))))
        · exact .inl (.inr (.inr (.inr (.inr h1))))
      rcases this with h1 | h1
      · exact N' p h1
      · refine ⟨(hnew p h1).1, ?_, ?_⟩
        · obtain ⟨o, e⟩ := hLs; exact fresh p h1 L o e
        · cases e : h₀.get? p.1 with
          | none => rfl
          | some o => have := F.keep _ _ e; rw [(hnew p h1).2] at this; cases this
    · refine LCg.Off3.of fun p hp => ?_
      rcases List.mem_append.mp hp with h1 | h1
      · exact ⟨fresh p h1 I oI (N (I, oI) (by first | (with_reducible (repeat (first | exact List.mem_cons_self | assumption | exact List.mem_append_left _ (by assumption) | exact List.mem_append_left _ (List.mem_append_left _ (by assumption)) | exact List.mem_append_left _ (List.mem_append_right _ (by assumption)) | refine List.mem_cons_of_mem _ ?_ | refine List.mem_append_right _ ?_)); done) | simp)).1, fresh p h1 C oC (N (C, oC) (by first | (with_reducible (repeat (first | exact List.mem_cons_self | assumption | exact List.mem_append_left _ (by assumption) | exact List.mem_append_left _ (List.mem_append_left _ (by assumption)) | exact List.mem_append_left _ (List.mem_append_right _ (by assumption)) | refine List.mem_cons_of_mem _ ?_ | refine List.mem_append_right _ ?_)); done) | simp)).1, fresh p h1 D _ (N (D, LCg.lst ys) (by first | (with_reducible (repeat (first | exact List.mem_cons_self | assumption | exact List.mem_append_left _ (by assumption) | exact List.mem_append_left _ (List.mem_append_left _ (by assumption)) | exact List.mem_append_left _ (List.mem_append_right _ (by assumption)) | refine List.mem_cons_of_mem _ ?_ | refine List.mem_append_right _ ?_)); done) | simp)).1⟩
      · exact off.mem p h1
theorem RowsIn.get {l : List (Addr × Obj)} {vs : List Value} {rs : List Row3} (H : RowsIn l vs rs) : ∀ (i : Nat) (v : Value), vs[i]? = some v → ∃ r, rs[i]? = some r ∧ RowIn l v r := by
  induction H with
  | nil => intro i v h; simp at h
  | @snoc vs rs v r H hr ih =>
    intro i v' h
    have hlen := H.length
    by_cases hi : i < vs.length
    · rw [List.getElem?_append_left hi] at h
      obtain ⟨r', h1, h2⟩ := ih i v' h
      exact ⟨r', by rw [List.getElem?_append_left (by omega)]; exact h1, h2⟩
    · rw [List.getElem?_append_right (by omega)] at h
      have : i - vs.length = 0 := by
        cases hk : i - vs.length with
        | zero => rfl
        | succ k => rw [hk] at h; simp at h
      rw [this] at h
      simp only [List.getElem?_cons_zero, Option.some.injEq] at h
      subst h
      exact ⟨r, by rw [List.getElem?_append_right (by omega), show i - rs.length = 0 by omega]; rfl, hr⟩
theorem StrsAre.snoc {vs : List Value} {ys : List Str} (h : StrsAre vs ys) (y : Str) (t : Tok) : StrsAre (vs ++ [.str y t]) (ys ++ [y]) := by
  induction h with
  | nil => exact .cons _ _ .nil
  | cons y' t' _ ih => exact .cons y' t' ih
/-- the text that names the sizes -/
noncomputable def firstStrs (rs : List Row3) : List Str := rs.map fun r => Str.ofString (toString r.1)
theorem firstStrs_len (rs : List Row3) (hb : ∀ r ∈ rs, 0 ≤ r.1 ∧ r.1 < 1000) : ((firstStrs rs).map (·.length)).sum ≤ 1002 * rs.length := by
  induction rs with
  | nil => simp [firstStrs]
  | cons r t ih =>
    have h1 := len_str_of_int r.1
    have h2 := hb r List.mem_cons_self
    have h3 := ih fun r hr => hb r (List.mem_cons_of_mem _ hr)
    simp only [firstStrs, List.map_cons, List.sum_cons, List.length_cons, List.map_map] at h3 ⊢
    omega
theorem len_rows {prog : Program} {w : World} {A : Around} {E : Value → Shared → Prop} {s : Shared} {h₀ : Heap} {L la : Addr} {m : Str → Option Value} {vs : List Value} {rs : List Row3} {l : List (Addr × Obj)} {Q : Value → Shared → Prop}
    (F : Fr h₀ L s.heap m) (hl : h₀.IsList la vs.toArray) (hr : RowsIn l vs rs) (hs : rs.length < 100) (h : ∀ t tk, Q (.int (rs.length : Int) t) { s with toks := tk }) :
    wpAny (model prog w) A (call (.builtin "len") [.ref la]) Q E s := by
  have e : vs.toArray.size = rs.length := by simp [hr.length]
  obtain ⟨o, ho, r⟩ := hl
  refine len_list (l := la) (items := vs.toArray) ⟨o, F.keep _ _ ho, r⟩ (by rw [e]; omega) ?_
  rw [e]; exact h _ _
theorem slen_join (sep : Str) : ∀ ys : List Str, (Str.join sep ys).length ≤ (ys.map (·.length)).sum + ys.length * sep.length
  | [] => by simp [Str.join, Str.empty, Str.length]
  | [x] => by simp [Str.join]
  | x :: y :: r => by
    have ih := slen_join sep (y :: r)
    simp only [Str.join, slen_append, List.map_cons, List.sum_cons, List.length_cons] at ih ⊢
    rw [Nat.add_mul (r.length + 1) 1, Nat.one_mul]
    omega
theorem txt_join (sep : Str) (ys : List Str) : Txt.join sep ys = Str.join sep ys := beq_iff_eq.mp (join_closes rfl)
noncomputable def sizesText (rs : List Row3) : Str := Str.ofString "at tab size" ++ (if 1 < (rs.length : Int) then Str.ofString "s" else Str.ofString "") ++ Str.ofString " " ++ Str.join (Str.ofString ", ") (firstStrs rs)
example : True := by
  k_with "call builtin:len" => (k_dflt (refine len_rows (by assumption) (by assumption) (by assumption) (by assumption) ?_); intro _ _)
  trivial
theorem words_spec {w : World} {dp un : Nat} {fr : Option (List Env)} {gd : Option (List Code)} {E : Value → Shared → Prop} {s : Shared} {mg mb : Str → Option Value} {Q : Value → Shared → Prop} {la : Addr} {l : List (Addr × Obj)} {rs : List Row3}
    (X : (hd.heap_39 w.params).In s.heap) (T : TopRead hd.view_39 LO mg mb s.heap) (Nl : ∀ p ∈ l, s.heap.get? p.1 = some p.2) (hl : ListIn l la rs) (hA : dp < 400) (hU : un < 5000) (hn : rs.length < 100) (hb : ∀ r ∈ rs, 0 ≤ r.1 ∧ r.1 < 1000)
    (h : ∀ t h' tk', (∀ b o, s.heap.get? b = some o → h'.get? b = some o) → Q (.str (sizesText rs) t) { s with heap := h', toks := tk' }) :
    wpAny (model PySem.Challenge.rw_pe0145_01.row.prog w) ⟨none, dp, fr, gd, un⟩ (call (.ref 140) [.ref la]) Q E s := by
  obtain ⟨vs, n, hm, hr⟩ := hl
  have hL : s.heap.IsList la vs.toArray := ⟨_, Nl _ hm, rfl, _, rfl⟩
  refine callFn X T (by show dp < 1000; omega) (by with_unfolding_all rfl) (by with_unfolding_all rfl) (by exact BindsTo.of_eq rfl) (by exact locs rfl) (by decide) rfl rfl rfl fun L h₁ F N => ?_
  dsimp only
  show wpAny _ _ _ _ _ _
  k_fold
  k_steps
  all_goals
    unfold Stop
    refine LCg.CompSrc.base rfl (by assumption) (by assumption) hL (by rw [List.size_toArray, hr.length]; show _ ≤ 16777216; omega) ?_
    intro g
    refine comp_rest (R := fun i ys nl => nl = [] ∧ StrsAre ys (firstStrs (rs.take i))) (fun nl => .inl hL) ⟨rfl, .nil⟩ ?_ ?_
    · rintro i v ys nl I oI C oC D m₂ h₂ tk hi hP ⟨rfl, hR⟩ hC hx F₂ N₂
      have hP' : vs[i]? = some v := by simpa using hP
      obtain ⟨r, hri, a, t1, t2, t3, k3, rfl, hma⟩ := hr.get i v hP'
      have hT : IsTup s.heap a #[.int r.1 t1, .int r.2.1 t2, .int r.2.2 t3] := ⟨_, Nl _ hma, rfl, _, rfl⟩
      have hrb := hb r (List.mem_of_getElem? hri)
      show wpAny _ _ _ _ _ _
      k_fold
      k_steps
      refine EltEnd.same ⟨rfl, ?_⟩
      have e : firstStrs (rs.take (i + 1)) = firstStrs (rs.take i) ++ [Str.ofString (toString r.1)] := by
        unfold firstStrs; rw [List.take_add_one, hri]; simp
      rw [e]
      exact StrsAre.snoc hR _ _
    · rintro ys nl ⟨rfl, hR⟩
      rw [show rs.take vs.toArray.size = rs from List.take_of_length_le (by rw [List.size_toArray, hr.length]; exact Nat.le_refl _)] at hR
      intro D h₂ tk F₂ N₂ off
      dsimp only
      have hw := firstStrs_len rs hb
      have hwl : (firstStrs rs).length = rs.length := by simp [firstStrs]
      k_steps
      refine join_listW (ys := firstStrs rs) ⟨_, (N₂ _ List.mem_cons_self).1, rfl, _, rfl⟩ (by simpa using hR) (by decide) (by omega) ?_
      intro t9 k9
      rw [txt_join]
      have hj := slen_join (Str.ofString ", ") (firstStrs rs)
      rw [slen_lit.2.2.2.2.1, hwl] at hj
      have hj' : (Str.join (Str.ofString ", ") (firstStrs rs)).length ≤ 200000 := by omega
      k_steps
      unfold sizesText at h
      first | rw [if_pos (by assumption)] at h | rw [if_neg (by assumption)] at h
      exact h _ _ _ (Fr.keep (by assumption))
end
section
open PySem PySem.W PyProof.Rows
example : True := by
  k_with_none
  k_with "getAttr ref" => (k_dflt (refine' get_own (by assumption) (by assumption) (by exact (WsAt.keeps (by assumption) (Fr.keep (by assumption))).at) (by k_is) (by k_is) (by k_is) (by k_is) (by first | exact WsAt.norm (by assumption) | exact WsAt.n (by assumption) | exact WsAt.nt (by assumption) | exact WsAt.simple (by assumption)) (by rfl) ?_))
  k_with "exec For Name Call cons nil" => k_dflt (refine wpAny_For ?_)
  k_with "exec For Name Name cons nil" => k_dflt (refine wpAny_For ?_)
  k_with "exec For Name Attribute cons nil" => k_dflt (refine wpAny_For ?_)
  k_with "eval Name" => (k_dflt (refine' PyProof.Rows.ld (by assumption) (by first | exact rfl | assumption) ?_))
  k_with "execs cons Assign cons" => (k_dflt (refine wpAny_execs_cons ?_))
  k_with "execs cons Assign nil" => (k_dflt (refine wpAny_execs_cons ?_))
  k_with "eval ListComp" => (k_dflt (refine LCg.ListComp_U (F₀ := by assumption) (by with_unfolding_all rfl) (by decide) (by rfl) (by decide) (by rfl) ?_))
  k_with "CompSrc" => refine Stop.out ?_
  k_with "binaryOp Add str str" => (k_dflt (refine PyProof.Rows.add_str (hsz := (by first | decide | (simp only [slen_append, slen_lit]; omega) | (simp only [slen_append]; omega))) ?_); intro _ _)
  k_with "eval Name" => ((with_reducible show wpAny _ _ (eval (Expr.Name _ _) (compEnvC _ _ _ _)) _ _ _); k_dflt (first | refine comp_global (by assumption) (by assumption) (by assumption) (by k_is) ?_ | refine comp_built (by assumption) (by assumption) (by assumption) (by k_is) (by boot_by_name) (by decide) ?_))
  trivial

example : True := by
  k_with "call builtin:len" => (k_dflt (refine len_rows (by assumption) (by assumption) (by assumption) (by assumption) ?_); intro _ _)
  trivial
/-- the table of format_witnesses's code (the one old object that the law's call changes) -/
abbrev tabObj (ps : Array Value) : Obj := { cls := .none, data := .fields ps }
structure FTab (h : Heap) (ps : Array Value) : Prop where
  get : h.get? 99 = some (tabObj ps)
  tri : TriplesOk ps.toList
abbrev hide99 (h : Heap) : Heap := hideAll h [99]
theorem hide99_get {h : Heap} {b : Addr} {o : Obj} (e : h.get? b = some o) (hb : b ≠ 99) : (hide99 h).get? b = some o := hideAll_get _ e (by simpa using hb)
theorem of_hide99 {h : Heap} {b : Addr} {o : Obj} (e : (hide99 h).get? b = some o) : h.get? b = some o := of_hideAll _ e
theorem hide99_ne {h : Heap} {b : Addr} {o : Obj} (e : (hide99 h).get? b = some o) : b ≠ 99 := fun q => by
  have : (hide99 h).get? 99 = none := hideAll_none _ (by first | (with_reducible (repeat (first | exact List.mem_cons_self | assumption | exact List.mem_append_left _ (by assumption) | exact List.mem_append_left _ (List.mem_append_left _ (by assumption)) | exact List.mem_append_left _ (List.mem_append_right _ (by assumption)) | refine List.mem_cons_of_mem _ ?_ | refine List.mem_append_right _ ?_)); done) | simp)
  rw [q, this] at e; cases e
theorem K99 (P : Params) : ∀ a o, (hd.heap_39 P).lookup a = some o → a ≠ 99 := by
  rintro a o h rfl
  have : (hd.heap_39 P).lookup 99 = none := by with_unfolding_all rfl
  rw [this] at h; cases h
theorem In.hide99 {w : World} {h : Heap} (X : (hd.heap_39 w.params).In h) : (hd.heap_39 w.params).In (hide99 h) := fun a o e => hide99_get (X a o e) (K99 _ a o e)
theorem TopRead.hide99 {p : Program} {loose : List Str} {mg mb : Str → Option Value} {h : Heap} (T : TopRead p loose mg mb h) : TopRead p loose mg mb (hide99 h) :=
  ⟨T.g.at' fun o e => hide99_get e (by decide), T.b.at' fun o e => hide99_get e (by decide), let ⟨mc, h1, h2⟩ := T.nolimit; ⟨mc, h1.at' fun o e => hide99_get e (by decide), h2⟩, T.builtins, T.free⟩
theorem Fr.hide99 {h₀ h : Heap} {L : Addr} {m : Str → Option Value} (F : Fr h₀ L h m) : Fr (hide99 h₀) L h m := ⟨F.ns, fun b o e => F.keep b o (of_hide99 e), Nat.le_trans (Nat.le_of_eq (hideAll_size _ _)) F.above⟩
theorem FTab.isCode {w : World} {h : Heap} {ps : Array Value} (X : (hd.heap_39 w.params).In h) (t : FTab h ps) : h.IsCode 103 99 ps :=
  ⟨_, _, _, _, _, _, _, _, _, _, X 103 _ (by with_unfolding_all rfl), rfl, by with_unfolding_all rfl, by with_unfolding_all rfl, by with_unfolding_all rfl, by with_unfolding_all rfl, by with_unfolding_all rfl, t.get, rfl, t.tri, by decide⟩
theorem FTab.tableAt {w : World} {h : Heap} {ps : Array Value} (X : (hd.heap_39 w.params).In h) (t : FTab h ps) : h.TableAt 103 99 ps :=
  ⟨⟨_, _, X 103 _ (by with_unfolding_all rfl), rfl, rfl, by with_unfolding_all rfl⟩, t.get⟩

noncomputable def baseFp (h₀ : Heap) (I : Addr) : List Addr := I :: (List.range h₀.objs.size).filter fun b => (h₀.get? b).isSome
theorem mem_baseFp {h₀ : Heap} {I b : Addr} {o : Obj} (e : h₀.get? b = some o) : b ∈ baseFp h₀ I :=
  List.mem_cons_of_mem _ (List.mem_filter.mpr ⟨List.mem_range.mpr (Heap.lt_size e), by rw [e]; rfl⟩)
theorem of_baseFp {h₀ : Heap} {I b : Addr} (hb : b ∈ baseFp h₀ I) : b = I ∨ ∃ o, h₀.get? b = some o := by
  rcases List.mem_cons.mp hb with h | h
  · exact .inl h
  · exact .inr (Option.isSome_iff_exists.mp (List.mem_filter.mp h).2)
abbrev allPass : Nat → Bool := fun _ => true
theorem passing_all (n : Nat) : passing allPass n 0 = List.range n := by
  unfold passing; rw [List.drop_zero, List.filter_eq_self]; intro _ _; rfl
/-- a generator that stands, unwoken -/
noncomputable def GenLive (prog : Program) (w : World) (A : Around) (h₀ : Heap) (a C I : Addr) (n : Nat) (Fy : Nat → Value → Prop) (h : Heap) (gens : Array GenState) : Prop :=
  ∃ g, WalksS prog w A.in4 a (a :: C :: baseFp h₀ I) [C, I] (GenOnlyQ g) (passing allPass n 0).length (fun j y => ∃ i, (passing allPass n 0)[j]? = some i ∧ Fy i y) (GenAt prog w A.in4 a g C (baseFp h₀ I) [I] allPass n Fy) ∧
    ∀ d tk os, GenAt prog w A.in4 a g C (baseFp h₀ I) [I] allPass n Fy 0 ⟨h, gens, d, tk, os⟩
theorem GenLive.move {prog : Program} {w : World} {A : Around} {h₀ h h' : Heap} {a C I : Addr} {n : Nat} {Fy : Nat → Value → Prop} {gens : Array GenState} {mc : Str → Option Value} (G : GenLive prog w A h₀ a C I n Fy h gens)
    (hk : ∀ b, (b = a ∨ b = C ∨ b = I ∨ ∃ o, h₀.get? b = some o) → ∀ o, h.get? b = some o → h'.get? b = some o) (hcs : h₀.Ns cStatics mc) : GenLive prog w A h₀ a C I n Fy h' gens := by
  obtain ⟨g, W, G⟩ := G
  have hk' : ∀ b ∈ a :: C :: baseFp h₀ I, ∀ o, h.get? b = some o → h'.get? b = some o := fun b hb o e => by
    rcases List.mem_cons.mp hb with q | hb
    · exact hk b (.inl q) o e
    · rcases List.mem_cons.mp hb with q | hb
      · exact hk b (.inr (.inl q)) o e
      · rcases of_baseFp hb with q | q
        · exact hk b (.inr (.inr (.inl q))) o e
        · exact hk b (.inr (.inr (.inr q))) o e
  refine ⟨g, W, fun d tk os => ?_⟩
  obtain ⟨⟨o, nm, qn, ho, r⟩, ⟨mc', hns, hnn⟩, gs, hgs, hgo⟩ := G d tk os
  refine ⟨⟨o, nm, qn, hk' a List.mem_cons_self o ho, r⟩, ⟨mc', hns.at' fun o e => ?_, hnn⟩, gs, hgs, fun s'' hal => hgo s'' fun b hb o e => hal b hb o (hk' b (List.mem_cons_of_mem _ hb) o e)⟩
  obtain ⟨oc, _, _, hoc, _⟩ := hcs
  exact hk cStatics (.inr (.inr (.inr ⟨oc, hoc⟩))) o e
theorem GenLive.join {prog : Program} {w : World} {A : Around} {E : Value → Shared → Prop} {s : Shared} {h₀ : Heap} {a C I : Addr} {n : Nat} {Fy : Nat → Value → Prop} {sep : Str} {t : Tok} {Q : Value → Shared → Prop} {ys : List Str}
    (G : GenLive prog w A h₀ a C I n Fy s.heap s.gens) (hfp : ∀ b, (b = a ∨ b = C ∨ b = I ∨ ∃ o, h₀.get? b = some o) → b < s.heap.objs.size) (hy : ys.length = n) (hF : ∀ i v, Fy i v → ∃ u y, ys[i]? = some y ∧ v = .str y u) (hn : n ≤ 10000)
    (hok : JoinOk sep ys = true)
    (h : ∀ h' g' tk t', (∀ b o, b ≠ C → b ≠ I → s.heap.get? b = some o → h'.get? b = some o) → (AllBare s.gens → AllBare g') → Q (.str (Txt.join sep ys) t') { s with heap := h', gens := g', toks := tk }) :
    wpAny (model prog w) A (call (.builtin "str.join") [.str sep t, .ref a]) Q E s := by
  obtain ⟨g, W, G⟩ := G
  have hp : (passing allPass n 0).length = n := by rw [passing_all, List.length_range]
  refine SC.joinGen W.in4_2 (fun i s' st => st.1.typeIs) (G s.drawn s.toks s.os) (fun b hb => ?_) List.mem_cons_self ?_ ?_ (by rw [hp]; show n ≤ 16777216; omega)
  · rcases List.mem_cons.mp hb with q | hb
    · exact hfp b (.inl q)
    · rcases List.mem_cons.mp hb with q | hb
      · exact hfp b (.inr (.inl q))
      · rcases of_baseFp hb with q | q
        · exact hfp b (.inr (.inr (.inl q)))
        · exact hfp b (.inr (.inr (.inr q)))
  · rintro j v ⟨i, _, hv⟩
    obtain ⟨u, y, _, e⟩ := hF i v hv
    exact ⟨y, u, e⟩
  · intro s' lt hm hacc
    have hl : lt.map (·.1) = ys := by
      apply List.ext_getElem?
      intro j
      have hsz : lt.length = n := by have := hacc.1; rw [hp] at this; simpa [strValues] using this
      by_cases hj : j < n
      · have hj' : j < lt.length := hsz ▸ hj
        obtain ⟨i, hi, hv⟩ := hacc.2 j (.str lt[j].1 lt[j].2) (by simp [strValues, List.getElem?_eq_getElem hj'])
        rw [passing_all, List.getElem?_range hj] at hi
        cases hi
        obtain ⟨u, y, h1, h2⟩ := hF j _ hv
        injection h2 with h3 _
        rw [h1, List.getElem?_map, List.getElem?_eq_getElem hj', Option.map_some, h3]
      · rw [List.getElem?_eq_none (by simpa [hsz] using Nat.le_of_not_lt hj), List.getElem?_eq_none (by omega)]
    rw [hl]
    refine ⟨hok, fun t' k => ?_⟩
    obtain ⟨hh, hg, hd, ho, _⟩ := hm
    have := h s'.heap s'.gens k t' (fun b o h1 h2 e => hh b o (by simp [h1, h2]) e) (fun hb => hb.moved hg)
    rw [← hd, ← ho] at this
    exact this

theorem leN {a b : Nat} (h : a ≤ b) : a ≤ b := h
/-- a generator expression over an old list, within format_witnesses -/
theorem gen_make {prog : Program} {w : World} {A : Around} {E : Value → Shared → Prop} {s : Shared} {env : Env} {elt iter : Expr} {x : Str} {px : Pos} {scope : Scope} {pos : Pos} {Q : Value → Shared → Prop} {la : Addr} {items : Array Value}
    {h₀ : Heap} {L bm : Addr} {ob : Obj} {m mg mb : Str → Option Value} {ps : Array Value} {p : Program} {loose : List Str} (Fy : Nat → Value → Prop)
    (hcode : env.code = .ref 103) (hgl : env.globals = mainGlobals) (hbl : env.builtins = builtinsNs) (hh : A.handled = none) (hroom : A.depth < recursionLimit)
    (hco : scope.isCoroutine = false) (hclos : closureFor scope env = pure []) (hcell : ∀ y ∈ scope.names, y.2 ≠ .cell) (h0 : scope.names.lookup (".0" : Str) = some NameKind.local) (hx : scope.names.lookup x = some .local) (hkind : scope.kind = .function)
    (F : Fr h₀ L s.heap m) (N : News h₀ L s.heap [(99, tabObj ps)]) (X : (hd.heap_39 w.params).In h₀) (T : TopRead p loose mg mb h₀) (BM : BMod h₀ mainGlobals mg bm ob) (tri : TriplesOk ps.toList) (hL : h₀.IsList la items)
    (hiter : ∀ Q' : Value → Shared → Prop, Q' (.ref la) s → wpAny (model prog w) A (eval iter env) Q' E s)
    (helt : ∀ (A' : Around) (E' : Value → Shared → Prop) C code i v (s₂ : Shared) m₂, A'.handled = none → items[i]? = some v → s₂.heap.Ns C m₂ → m₂ x = some v → (∀ b o, h₀.get? b = some o → s₂.heap.get? b = some o) →
      wpAny (model prog w) A' (eval elt (genEnv scope [] C code builtinsNs env)) (fun y s₃ => Fy i y ∧ Keeps s₂ s₃) E' s₂)
    (h : ∀ a C I oa oC oI more h₅ tk gens', TriplesOk (ps ++ more).toList → Fr h₀ L h₅ m → News h₀ L h₅ [(a, oa), (C, oC), (I, oI), (99, tabObj (ps ++ more))] → ((99 : Addr) ≠ C ∧ (99 : Addr) ≠ I) → (AllBare s.gens → AllBare gens') → GenLive prog w A h₀ a C I items.size Fy h₅ gens' →
      Q (.ref a) { s with heap := h₅, gens := gens', toks := tk })
    (hs : ∀ x, genFold iter env x = pure x) :
    wpAny (model prog w) A (eval (.GeneratorExp elt [⟨.Name x px, iter, [], 0⟩] scope pos) env) Q E s := by
  refine wpAny_GeneratorExp_make hco hclos hcell h0 hkind hroom (hiter _ ?_) hs
  have hLs : s.heap.IsList la items := hL.at fun o e => F.keep la o e
  refine wpAny_pyIter_list hLs ?_
  have hla := ltN (show la < h₀.objs.size by obtain ⟨_, e, _⟩ := hL; exact Heap.lt_size e)
  have hLI := ltN F.ns.lt
  have up : ∀ b o, s.heap.get? b = some o → (s.heap.push { cls := .type "list_iterator", data := .fields #[.ref la, .int 0 0] }).get? b = some o := fun b o e => Heap.get?_push_of_some _ e
  have F2 := F.grownK up
  have N2 := N.grown up
  have hsz2 : (s.heap.push { cls := .type "list_iterator", data := .fields #[.ref la, .int 0 0] }).objs.size = s.heap.objs.size + 1 := Heap.size_push _ _
  have hI2 : (s.heap.push { cls := .type "list_iterator", data := .fields #[.ref la, .int 0 0] }).get? s.heap.objs.size = some { cls := .type "list_iterator", data := .fields #[.ref la, .int 0 0] } := Heap.get?_push_size _ rfl
  have h99 := ltN (Heap.lt_size (N _ List.mem_cons_self).1)
  have hI0 : h₀.get? s.heap.objs.size = none := next_is_new F
  generalize hH2 : s.heap.push { cls := .type "list_iterator", data := .fields #[.ref la, .int 0 0] } = h₂ at F2 N2 hsz2 hI2 ⊢
  have X2 := X.keeps F2.keep
  have Ft2 : FTab h₂ ps := ⟨(N2 _ List.mem_cons_self).1, tri⟩
  refine ⟨T.nolimit.keeps F2.keep, ?_⟩
  suffices key : ∀ (code : Value) h₃ tk₃ more, (∀ b o, b ≠ 99 → h₂.get? b = some o → h₃.get? b = some o) → h₂.objs.size ≤ h₃.objs.size → FTab h₃ (ps ++ more) →
      wpAny (model prog w) A (builtinsFor env.globals env.builtins) (fun bi s₄ => ∀ h', h'.Ns s₄.heap.objs.size (fun y => if y = ".0" then some (.ref s.heap.objs.size) else none) →
        Heap.SameBut s₄.heap.objs.size (s₄.heap.push { cls := .type "frame", data := .dict #[] }) h' →
          Q (.ref h'.objs.size) { s₄ with
            gens := s₄.gens.push (.fresh (.compStart (.GeneratorExp elt [⟨.Name x px, iter, [], 0⟩] scope pos) 0 (.ref s.heap.objs.size) .none (genEnv scope [] s₄.heap.objs.size code bi env))),
            toks := s₄.toks + 1 + 1 + 1,
            heap := h'.push { cls := .type "generator", data := .fields #[.int s₄.gens.size 0, .str "<genexpr>" (s₄.toks + 1), .str (env.qual ++ "<genexpr>") (s₄.toks + 1 + 1)] } }) E { s with heap := h₃, toks := tk₃ } by
    cases hq : codeAmong pos ps.toList with
    | none =>
      refine wpAny_genexprCodeX hcode (Ft2.isCode X2) (Ft2.tableAt X2) hq fun c' h₃ tk₃ hx₃ hge hlt hcode₃ _ htab₃ _ => ?_
      refine key _ h₃ tk₃ _ (fun b o hb e => hx₃ b o hb e) (Nat.le_trans hge (Nat.le_of_lt hlt)) ⟨htab₃.2, ?_⟩
      obtain ⟨_, _, _, _, _, _, _, _, _, _, _, _, _, _, _, _, _, _, _, htr, _⟩ := hcode₃
      exact htr
    | some c' =>
      refine wpAny_genexprCode_hit hcode (Ft2.isCode X2) hq ?_
      exact key c' h₂ s.toks #[] (fun _ _ _ e => e) (Nat.le_refl _) (by rw [Array.append_empty]; exact Ft2)
  intro code h₃ tk₃ more hx₃ hsz₃ Ft₃
  have b99 : ∀ b o, h₀.get? b = some o → b ≠ 99 := fun b o e q => by rw [q, (N _ List.mem_cons_self).2.2] at e; cases e
  have keep₃ : ∀ b o, h₀.get? b = some o → h₃.get? b = some o := fun b o e => hx₃ b o (b99 b o e) (F2.keep b o e)
  have BM3 := BM.keeps keep₃
  rw [hgl]
  refine wpAny_builtinsFor BM3.ns BM3.name BM3.ne BM3.obj BM3.cls BM3.dict BM3.data ?_
  intro h' hn' hs'
  dsimp only at hn' hs' ⊢
  have hsz4 : h'.objs.size = h₃.objs.size + 1 := by rw [hs'.1, Heap.size_push]
  have keep4 : ∀ b o, h₃.get? b = some o → h'.get? b = some o := fun b o e => hs'.extBut b o (Nat.ne_of_lt (Heap.lt_size e)) (Heap.get?_push_of_some _ e)
  have keep5 : ∀ b o, h'.get? b = some o → (h'.push { cls := .type "generator", data := .fields #[.int s.gens.size 0, .str "<genexpr>" (tk₃ + 1), .str (env.qual ++ "<genexpr>") (tk₃ + 1 + 1)] }).get? b = some o := fun b o e => Heap.get?_push_of_some _ e
  have hgen5 : (h'.push { cls := .type "generator", data := .fields #[.int s.gens.size 0, .str "<genexpr>" (tk₃ + 1), .str (env.qual ++ "<genexpr>") (tk₃ + 1 + 1)] }).get? h'.objs.size = some { cls := .type "generator", data := .fields #[.int s.gens.size 0, .str "<genexpr>" (tk₃ + 1), .str (env.qual ++ "<genexpr>") (tk₃ + 1 + 1)] } := Heap.get?_push_size _ rfl
  generalize hH5 : h'.push { cls := .type "generator", data := .fields #[.int s.gens.size 0, .str "<genexpr>" (tk₃ + 1), .str (env.qual ++ "<genexpr>") (tk₃ + 1 + 1)] } = h₅ at keep5 hgen5 ⊢
  have keep35 : ∀ b o, h₃.get? b = some o → h₅.get? b = some o := fun b o e => keep5 b o (keep4 b o e)
  obtain ⟨oC, _, _, hoC, _⟩ := id hn'
  have hIlt3 : s.heap.objs.size < h₃.objs.size := by omega
  have hL99 : L ≠ 99 := fun q => (N _ List.mem_cons_self).2.1 q.symm
  have F5 : Fr h₀ L h₅ m := ⟨F2.ns.at' fun o e => keep35 L o (hx₃ L o hL99 e), fun b o e => keep35 b o (keep₃ b o e), F.above⟩
  have hI3 : h₃.get? s.heap.objs.size = some { cls := .type "list_iterator", data := .fields #[.ref la, .int 0 0] } := hx₃ _ _ (Nat.ne_of_gt h99) hI2
  have hnone : ∀ b, s.heap.objs.size ≤ b → h₀.get? b = none := fun b hb => by
    cases e : h₀.get? b with
    | none => rfl
    | some o => exact absurd (Heap.lt_size (F.keep b o e)) (Nat.not_lt.mpr hb)
  obtain ⟨oa, hoa⟩ : ∃ oa, h₅.get? h'.objs.size = some oa := ⟨_, hgen5⟩
  obtain ⟨oI, hoI⟩ : ∃ oI, h₅.get? s.heap.objs.size = some oI := ⟨_, keep35 _ _ hI3⟩
  have N5 : News h₀ L h₅ [(h'.objs.size, oa), (h₃.objs.size, oC), (s.heap.objs.size, oI), (99, tabObj (ps ++ more))] := by
    intro q hq
    simp only [List.mem_cons, List.not_mem_nil, or_false] at hq
    rcases hq with rfl | rfl | rfl | rfl
    · exact ⟨hoa, by refine neN ?_; dsimp only; omega, hnone _ (by omega)⟩
    · exact ⟨keep5 _ _ hoC, by refine neN ?_; dsimp only; omega, hnone _ (by omega)⟩
    · exact ⟨hoI, by refine neN ?_; dsimp only; omega, hI0⟩
    · exact ⟨keep35 _ _ Ft₃.get, Ne.symm hL99, (N _ List.mem_cons_self).2.2⟩
  refine h h'.objs.size h₃.objs.size s.heap.objs.size _ oC _ more h₅ (tk₃ + 1 + 1 + 1) _ Ft₃.tri F5 N5 ⟨by refine neN ?_; omega, by refine neN ?_; omega⟩ (fun hb => hb.push rfl) ?_
  obtain ⟨mc, hcs, hcn⟩ := id T.nolimit
  obtain ⟨ocs, _, _, hocs, _⟩ := id hcs
  have hcslt := ltN (Heap.lt_size hocs)
  have habove := leN F.above
  have hla5 : la ≠ s.heap.objs.size := by refine neN ?_; omega
  refine ⟨s.gens.size, WalksS.genexpQ (A := A.in4) hh _ _ _ _ _ allPass _ Fy (by refine neN ?_; omega) ?_ (fun b hb => ?_) hroom (mem_baseFp hocs) (by refine neN ?_; omega) ?_, fun d tk os => ?_⟩
  · intro hm
    rcases of_baseFp hm with q | ⟨o, q⟩
    · exact absurd q (by refine neN ?_; omega)
    · rw [hnone _ (by omega)] at q; cases q
  · rw [List.mem_singleton.mp hb]; exact List.mem_cons_self
  · intro hm; exact absurd (List.mem_singleton.mp hm) (by refine neN ?_; omega)
  · refine GenAt.fresh (A := A.in4) (cenv := genEnv scope [] h₃.objs.size code builtinsNs env) (x := x) (px := px) (ifs := []) (elt := elt) (iter := iter) (scope := scope) (pos := pos) (I := s.heap.objs.size) hh
      (fun A' hA => (Walks.list hA s.heap.objs.size la hla5 items).mono_fp fun b hb => ?_) allPass Fy hx (by simp [genEnv, hkind]) hco ?_ ⟨?_, ?_⟩ ⟨_, _, _, hgen5, rfl, rfl, rfl⟩ (Array.getElem?_push_size ..) ?_ (hn'.keeps keep5) ⟨mc, hcs.keeps F5.keep, hcn⟩
    · rcases List.mem_cons.mp hb with rfl | hb
      · exact List.mem_cons_self
      · rw [List.mem_singleton.mp hb]; obtain ⟨o, e, _⟩ := hL; exact mem_baseFp e
    · intro hm
      rcases of_baseFp hm with q | ⟨o, q⟩
      · exact absurd q (by refine neN ?_; dsimp only [genEnv]; omega)
      · have q : h₀.get? h₃.objs.size = some o := q
        rw [hnone _ (by omega)] at q; cases q
    · intro A' E' i v s₂ m₂ _ _ _ _ _
      exact wpAny_tests_nil ⟨rfl, s₂.heap, s₂.toks, rfl, fun _ _ e => e⟩
    · intro A' E' i v s₂ m₂ hA' hP _ hn₂ hx₂ hk₂
      exact helt A' E' _ code i v s₂ m₂ hA' hP hn₂ hx₂ fun b o e => hk₂ b (mem_baseFp e) (fun hm => by rw [List.mem_singleton.mp hm, hI0] at e; cases e) o (F5.keep b o e)
    · exact ⟨⟨_, keep35 _ _ hI3, rfl, rfl⟩, hL.at fun o e => F5.keep la o e⟩
end
section
open PySem PySem.W PyProof.Rows
example : True := by
  k_with_none
  k_with "getAttr ref" => (k_dflt (refine' get_own (by assumption) (by assumption) (by exact (WsAt.keeps (by assumption) (Fr.keep (by assumption))).at) (by k_is) (by k_is) (by k_is) (by k_is) (by first | exact WsAt.norm (by assumption) | exact WsAt.n (by assumption) | exact WsAt.nt (by assumption) | exact WsAt.simple (by assumption)) (by rfl) ?_))
  k_with "exec For Name Call cons nil" => k_dflt (refine wpAny_For ?_)
  k_with "exec For Name Name cons nil" => k_dflt (refine wpAny_For ?_)
  k_with "exec For Name Attribute cons nil" => k_dflt (refine wpAny_For ?_)
  k_with "eval Name" => (k_dflt (refine' PyProof.Rows.ld (by assumption) (by first | exact rfl | assumption) ?_))
  k_with "execs cons Assign cons" => (k_dflt (refine wpAny_execs_cons ?_))
  k_with "execs cons Assign nil" => (k_dflt (refine wpAny_execs_cons ?_))
  k_with "eval ListComp" => (k_dflt (refine LCg.ListComp_U (F₀ := by assumption) (by with_unfolding_all rfl) (by decide) (by rfl) (by decide) (by rfl) ?_))
  k_with "CompSrc" => refine Stop.out ?_
  k_with "binaryOp Add str str" => (k_dflt (refine PyProof.Rows.add_str (hsz := (by first | decide | (simp only [slen_append, slen_lit]; omega) | (simp only [slen_append]; omega))) ?_); intro _ _)
  k_with "eval Name" => ((with_reducible show wpAny _ _ (eval (Expr.Name _ _) (compEnvC _ _ _ _)) _ _ _); k_dflt (first | refine comp_global (by assumption) (by assumption) (by assumption) (by k_is) ?_ | refine comp_built (by assumption) (by assumption) (by assumption) (by k_is) (by boot_by_name) (by decide) ?_))
  trivial

example : True := by
  k_with "call builtin:len" => (k_dflt (refine len_rows (by assumption) (by assumption) (by assumption) (by assumption) ?_); intro _ _)
  k_with "eval GeneratorExp" => refine Stop.out ?_
  k_with "call builtin:str.join" => refine Stop.out ?_
  trivial
theorem fmt_spec {w : World} {dp un : Nat} {fr : Option (List Env)} {gd : Option (List Code)} {E : Value → Shared → Prop} {s : Shared} {mg mb : Str → Option Value} {Q : Value → Shared → Prop} {la : Addr} {l : List (Addr × Obj)} {rs : List Row3} {bm : Addr} {ob : Obj} {ps : Array Value}
    (X : (hd.heap_39 w.params).In s.heap) (T : TopRead hd.view_39 LO mg mb s.heap) (BM : BMod s.heap mainGlobals mg bm ob) (Ft : FTab s.heap ps) (Nl : ∀ p ∈ l, s.heap.get? p.1 = some p.2) (hl : ListIn l la rs) (hA : dp < 400) (hU : un < 5000) (hn : rs.length < 100) (hb : ∀ r ∈ rs, 0 ≤ r.1 ∧ r.1 < 1000)
    (h : ∀ t h' g' tk' more, (∀ b o, b ≠ 99 → s.heap.get? b = some o → h'.get? b = some o) → FTab h' (ps ++ more) → (AllBare s.gens → AllBare g') → Q (.str (sizesText rs) t) { s with heap := h', gens := g', toks := tk' }) :
    wpAny (model PySem.Challenge.rw_pe0145_01.row.prog w) ⟨none, dp, fr, gd, un⟩ (call (.ref 104) [.ref la]) Q E s := by
  obtain ⟨vs, n, hm, hr⟩ := hl
  have ne99 : ∀ a o, s.heap.get? a = some o → o.cls ≠ .none → a ≠ 99 := fun a o e hc q => by rw [q, Ft.get] at e; cases e; exact hc rfl
  have hL : (hide99 s.heap).IsList la vs.toArray := ⟨_, hide99_get (Nl _ hm) (ne99 _ _ (Nl _ hm) (by first | (with_reducible (repeat (first | exact List.mem_cons_self | assumption | exact List.mem_append_left _ (by assumption) | exact List.mem_append_left _ (List.mem_append_left _ (by assumption)) | exact List.mem_append_left _ (List.mem_append_right _ (by assumption)) | refine List.mem_cons_of_mem _ ?_ | refine List.mem_append_right _ ?_)); done) | simp)), rfl, _, rfl⟩
  have hrow : ∀ (i : Nat) (v : Value), vs[i]? = some v → ∃ r a t1 t2 t3, rs[i]? = some r ∧ v = .ref a ∧ IsTup (hide99 s.heap) a #[.int r.1 t1, .int r.2.1 t2, .int r.2.2 t3] := fun i v e => by
    obtain ⟨r, hri, a, t1, t2, t3, k3, e', hma⟩ := hr.get i v e
    exact ⟨r, a, t1, t2, t3, hri, e', _, hide99_get (Nl _ hma) (ne99 _ _ (Nl _ hma) (by first | (with_reducible (repeat (first | exact List.mem_cons_self | assumption | exact List.mem_append_left _ (by assumption) | exact List.mem_append_left _ (List.mem_append_left _ (by assumption)) | exact List.mem_append_left _ (List.mem_append_right _ (by assumption)) | refine List.mem_cons_of_mem _ ?_ | refine List.mem_append_right _ ?_)); done) | simp)), rfl, _, rfl⟩
  have X0 := In.hide99 X
  have T0 := TopRead.hide99 T
  have BM0 : BMod (hide99 s.heap) mainGlobals mg bm ob := ⟨BM.ns.at' fun o e => hide99_get e (by decide), BM.name, BM.ne, hide99_get BM.obj (ne99 _ _ BM.obj (by rw [BM.cls]; simp)), BM.cls, BM.dict, BM.data⟩
  refine callFn X T (by show dp < 1000; omega) (by with_unfolding_all rfl) (by with_unfolding_all rfl) (by exact BindsTo.of_eq rfl) (by exact locs rfl) (by decide) rfl rfl rfl fun L h₁ F N => ?_
  have F0 := Fr.hide99 F
  have N0 : News (hide99 s.heap) L h₁ [(99, tabObj ps)] := by
    intro p hp
    rw [List.mem_singleton.mp hp]
    exact ⟨F.keep _ _ Ft.get, Nat.ne_of_lt (Nat.lt_of_lt_of_le (Heap.lt_size Ft.get) F.above), hideAll_none _ (by first | (with_reducible (repeat (first | exact List.mem_cons_self | assumption | exact List.mem_append_left _ (by assumption) | exact List.mem_append_left _ (List.mem_append_left _ (by assumption)) | exact List.mem_append_left _ (List.mem_append_right _ (by assumption)) | refine List.mem_cons_of_mem _ ?_ | refine List.mem_append_right _ ?_)); done) | simp)⟩
  have hs0 : (hide99 s.heap).objs.size = s.heap.objs.size := hideAll_size _ _
  have fin : ∀ b o, b ≠ 99 → s.heap.get? b = some o → (hide99 s.heap).get? b = some o := fun b o hb e => hide99_get e hb
  have Ftri := Ft.tri
  clear F N X T BM
  generalize hH0 : hide99 s.heap = h₀ at *
  dsimp only
  show wpAny _ _ _ _ _ _
  k_fold
  k_steps
  unfold Stop
  refine gen_make (Fy := fun i y => ∃ r u, rs[i]? = some r ∧ y = .str (Str.ofString (toString r.1)) u) rfl rfl rfl rfl (by show dp + 1 < 1000; omega) rfl (by with_unfolding_all rfl) (by decide) rfl rfl rfl F0 N0 X0 T0 BM0 Ftri hL (fun Q' hq => ld F0 rfl hq) ?_ ?_ (by intro _; rfl)
  · have hstr : mg (Str.ofString "str") = none := mg_none_of X0 T0.g (by k_is)
    have hstr2 : mb (Str.ofString "str") = some (.type "str") := (T0.builtins _ (by decide)).trans PyProof.Rows.Boot.str
    intro A' E' C code i v s₂ m₂ hA' hP hn₂ hx₂ hk₂
    have hP' : vs[i]? = some v := by simpa using hP
    obtain ⟨r, a, t1, t2, t3, hri, rfl, hT⟩ := hrow i v hP'
    have hrb := hb r (List.mem_of_getElem? hri)
    have hT2 := hT.keeps hk₂
    have hg2 := T0.g.keeps hk₂
    have hb2 := T0.b.keeps hk₂
    refine Call_ ?_
    refine Calls.Name_function_global rfl rfl (Calls.loadGlobal_builtin hg2 hstr hb2 hstr2 ?_) (by decide)
    refine Pv.callWith_type1 ?_
    refine spliced_more ?_
    refine Subscript_ ?_
    refine wpAny_Name (wpAny_loadName_local rfl rfl hn₂ hx₂ ?_) (by decide)
    refine wpAny_Constant_int ?_
    refine item_tupleT (l := [.int r.1 t1, .int r.2.1 t2, .int r.2.2 t3]) hT2 (by decide) (by decide) rfl rfl ?_
    refine spliced_none ?_
    refine P.str_of_int (by have := @shown r.1 (2 ^ 10) (by omega) (by omega) (by decide); exact this) ?_
    exact ⟨⟨r, _, hri, rfl⟩, s₂.heap, _, rfl, fun _ _ e => e⟩
  · intro a C I oa oC oI more h₅ tk gens' htri F5 N5 n9 hbare hlive
    have hsz : (firstStrs rs).length = vs.toArray.size := by rw [List.size_toArray, hr.length]; simp [firstStrs]
    have ga := (N5 (a, oa) (by first | (with_reducible (repeat (first | exact List.mem_cons_self | assumption | exact List.mem_append_left _ (by assumption) | exact List.mem_append_left _ (List.mem_append_left _ (by assumption)) | exact List.mem_append_left _ (List.mem_append_right _ (by assumption)) | refine List.mem_cons_of_mem _ ?_ | refine List.mem_append_right _ ?_)); done) | simp)).1
    have gC := (N5 (C, oC) (by first | (with_reducible (repeat (first | exact List.mem_cons_self | assumption | exact List.mem_append_left _ (by assumption) | exact List.mem_append_left _ (List.mem_append_left _ (by assumption)) | exact List.mem_append_left _ (List.mem_append_right _ (by assumption)) | refine List.mem_cons_of_mem _ ?_ | refine List.mem_append_right _ ?_)); done) | simp)).1
    have gI := (N5 (I, oI) (by first | (with_reducible (repeat (first | exact List.mem_cons_self | assumption | exact List.mem_append_left _ (by assumption) | exact List.mem_append_left _ (List.mem_append_left _ (by assumption)) | exact List.mem_append_left _ (List.mem_append_right _ (by assumption)) | refine List.mem_cons_of_mem _ ?_ | refine List.mem_append_right _ ?_)); done) | simp)).1
    have nC := (N5 (C, oC) (by first | (with_reducible (repeat (first | exact List.mem_cons_self | assumption | exact List.mem_append_left _ (by assumption) | exact List.mem_append_left _ (List.mem_append_left _ (by assumption)) | exact List.mem_append_left _ (List.mem_append_right _ (by assumption)) | refine List.mem_cons_of_mem _ ?_ | refine List.mem_append_right _ ?_)); done) | simp)).2
    have nI := (N5 (I, oI) (by first | (with_reducible (repeat (first | exact List.mem_cons_self | assumption | exact List.mem_append_left _ (by assumption) | exact List.mem_append_left _ (List.mem_append_left _ (by assumption)) | exact List.mem_append_left _ (List.mem_append_right _ (by assumption)) | refine List.mem_cons_of_mem _ ?_ | refine List.mem_append_right _ ?_)); done) | simp)).2
    have n9C := n9.1
    have n9I := n9.2
    have k5 := F5.keep
    obtain ⟨mc, hcs, _⟩ := id T0.nolimit
    have hw := firstStrs_len rs hb
    have hwl : (firstStrs rs).length = rs.length := by simp [firstStrs]
    have hj := slen_join (Str.ofString ", ") (firstStrs rs)
    rw [slen_lit.2.2.2.2.1, hwl] at hj
    have hj' : (Str.join (Str.ofString ", ") (firstStrs rs)).length ≤ 200000 := by omega
    dsimp only
    show wpAny _ _ _ _ _ _
    k_steps
    all_goals
      unfold Stop
      rename Fr _ _ _ _ => F6
      rename News _ _ _ _ => N6
      refine GenLive.join (ys := firstStrs rs) (hlive.move (fun b hb' o e => ?_) hcs) (fun b hb' => ?_) hsz ?_ (by rw [List.size_toArray, hr.length]; omega) (joinOk_of (by rw [slen_lit.2.2.2.2.1, hwl]; omega)) ?_
      · rcases hb' with rfl | rfl | rfl | ⟨o', e'⟩
        · rw [ga] at e; cases e; exact (N6 (_, oa) (by first | (with_reducible (repeat (first | exact List.mem_cons_self | assumption | exact List.mem_append_left _ (by assumption) | exact List.mem_append_left _ (List.mem_append_left _ (by assumption)) | exact List.mem_append_left _ (List.mem_append_right _ (by assumption)) | refine List.mem_cons_of_mem _ ?_ | refine List.mem_append_right _ ?_)); done) | simp)).1
        · rw [gC] at e; cases e; exact (N6 (_, oC) (by first | (with_reducible (repeat (first | exact List.mem_cons_self | assumption | exact List.mem_append_left _ (by assumption) | exact List.mem_append_left _ (List.mem_append_left _ (by assumption)) | exact List.mem_append_left _ (List.mem_append_right _ (by assumption)) | refine List.mem_cons_of_mem _ ?_ | refine List.mem_append_right _ ?_)); done) | simp)).1
        · rw [gI] at e; cases e; exact (N6 (_, oI) (by first | (with_reducible (repeat (first | exact List.mem_cons_self | assumption | exact List.mem_append_left _ (by assumption) | exact List.mem_append_left _ (List.mem_append_left _ (by assumption)) | exact List.mem_append_left _ (List.mem_append_right _ (by assumption)) | refine List.mem_cons_of_mem _ ?_ | refine List.mem_append_right _ ?_)); done) | simp)).1
        · rw [k5 b o' e'] at e; cases e; exact F6.keep b _ e'
      · rcases hb' with rfl | rfl | rfl | ⟨o', e'⟩
        · exact Heap.lt_size (N6 (_, oa) (by first | (with_reducible (repeat (first | exact List.mem_cons_self | assumption | exact List.mem_append_left _ (by assumption) | exact List.mem_append_left _ (List.mem_append_left _ (by assumption)) | exact List.mem_append_left _ (List.mem_append_right _ (by assumption)) | refine List.mem_cons_of_mem _ ?_ | refine List.mem_append_right _ ?_)); done) | simp)).1
        · exact Heap.lt_size (N6 (_, oC) (by first | (with_reducible (repeat (first | exact List.mem_cons_self | assumption | exact List.mem_append_left _ (by assumption) | exact List.mem_append_left _ (List.mem_append_left _ (by assumption)) | exact List.mem_append_left _ (List.mem_append_right _ (by assumption)) | refine List.mem_cons_of_mem _ ?_ | refine List.mem_append_right _ ?_)); done) | simp)).1
        · exact Heap.lt_size (N6 (_, oI) (by first | (with_reducible (repeat (first | exact List.mem_cons_self | assumption | exact List.mem_append_left _ (by assumption) | exact List.mem_append_left _ (List.mem_append_left _ (by assumption)) | exact List.mem_append_left _ (List.mem_append_right _ (by assumption)) | refine List.mem_cons_of_mem _ ?_ | refine List.mem_append_right _ ?_)); done) | simp)).1
        · exact Heap.lt_size (F6.keep b _ e')
      · rintro i v ⟨r, u, hri, rfl⟩
        exact ⟨u, _, by unfold firstStrs; rw [List.getElem?_map, hri]; rfl, rfl⟩
      · intro h7 g7 tk7 t7 hk7 hb7
        rw [txt_join]
        have F7 : Fr h₀ L h7 _ := ⟨F6.ns.at' fun o e => hk7 L o (Ne.symm nC.1) (Ne.symm nI.1) e, fun b o e => hk7 b o (fun q => by rw [q, nC.2] at e; cases e) (fun q => by rw [q, nI.2] at e; cases e) (F6.keep b o e), F6.above⟩
        have g99 := hk7 _ _ n9C n9I (N6 (99, tabObj (ps ++ more)) (by first | (with_reducible (repeat (first | exact List.mem_cons_self | assumption | exact List.mem_append_left _ (by assumption) | exact List.mem_append_left _ (List.mem_append_left _ (by assumption)) | exact List.mem_append_left _ (List.mem_append_right _ (by assumption)) | refine List.mem_cons_of_mem _ ?_ | refine List.mem_append_right _ ?_)); done) | simp)).1
        have N7 : News h₀ L h7 [] := .nil
        clear F6 N6
        k_steps
        unfold sizesText at h
        first | rw [if_pos (by assumption)] at h | rw [if_neg (by assumption)] at h
        exact h _ _ _ _ more (fun b o hb e => F7.keep b o (fin b o hb e)) ⟨g99, htri⟩ (fun hb => hb7 (hbare hb))
end
section
open PySem PySem.W PyProof.Rows
example : True := by
  k_with_none
  k_with "getAttr ref" => (k_dflt (refine' get_own (by assumption) (by assumption) (by exact (WsAt.keeps (by assumption) (Fr.keep (by assumption))).at) (by k_is) (by k_is) (by k_is) (by k_is) (by first | exact WsAt.norm (by assumption) | exact WsAt.n (by assumption) | exact WsAt.nt (by assumption) | exact WsAt.simple (by assumption)) (by rfl) ?_))
  k_with "exec For Name Call cons nil" => k_dflt (refine wpAny_For ?_)
  k_with "exec For Name Name cons nil" => k_dflt (refine wpAny_For ?_)
  k_with "exec For Name Attribute cons nil" => k_dflt (refine wpAny_For ?_)
  k_with "eval Name" => (k_dflt (refine' PyProof.Rows.ld (by assumption) (by first | exact rfl | assumption) ?_))
  k_with "execs cons Assign cons" => (k_dflt (refine wpAny_execs_cons ?_))
  k_with "execs cons Assign nil" => (k_dflt (refine wpAny_execs_cons ?_))
  k_with "eval ListComp" => (k_dflt (refine LCg.ListComp_U (F₀ := by assumption) (by with_unfolding_all rfl) (by decide) (by rfl) (by decide) (by rfl) ?_))
  k_with "CompSrc" => refine Stop.out ?_
  k_with "binaryOp Add str str" => (k_dflt (refine PyProof.Rows.add_str (hsz := (by first | decide | (simp only [slen_append, slen_lit]; omega) | (simp only [slen_append]; omega))) ?_); intro _ _)
  k_with "eval Name" => ((with_reducible show wpAny _ _ (eval (Expr.Name _ _) (compEnvC _ _ _ _)) _ _ _); k_dflt (first | refine comp_global (by assumption) (by assumption) (by assumption) (by k_is) ?_ | refine comp_built (by assumption) (by assumption) (by assumption) (by k_is) (by boot_by_name) (by decide) ?_))
  trivial

/-- what __init__ reckons: the state behind the signs so far, or none behind a sign that is neither a blank nor a tab -/
structure WsSt where
  cnt : List Int
  b : Nat
  n : Nat
  nt : Nat
noncomputable def bump (cnt : List Int) (b : Nat) : List Int := let c := if b ≥ cnt.length then cnt ++ List.replicate (b - cnt.length + 1) 0 else cnt; c.set b (c.getD b 0 + 1)
noncomputable def wsStep (st : WsSt) (c : Nat) : Option WsSt :=
  if c = 32 then some { st with n := st.n + 1, b := st.b + 1 }
  else if c = 9 then some { cnt := bump st.cnt st.b, b := 0, n := st.n + 1, nt := st.nt + 1 }
  else none
noncomputable def wsGo : WsSt → List Nat → WsSt
  | st, [] => st
  | st, c :: r => match wsStep st c with | some st' => wsGo st' r | none => st
noncomputable def wsOf (l : List Nat) : Ws := let st := wsGo ⟨[], 0, 0, 0⟩ l; ⟨st.cnt, st.b, st.n, st.nt⟩
noncomputable def ws0 : WsSt := ⟨[], 0, 0, 0⟩
noncomputable def wsRun (l : List Nat) : Option WsSt := l.foldlM wsStep ws0
theorem wsGo_run (l r : List Nat) : ∀ (st st' : WsSt), l.foldlM wsStep st = some st' → wsGo st (l ++ r) = wsGo st' r := by
  induction l with
  | nil => intro st st' h; cases h; rfl
  | cons c l ih =>
    intro st st' h
    rw [List.foldlM_cons] at h
    cases e : wsStep st c with
    | none => rw [e] at h; cases h
    | some st₁ =>
      rw [e] at h
      rw [List.cons_append, wsGo, e]
      exact ih st₁ st' h
theorem wsRun_succ {l : Array Nat} {i c : Nat} {st : WsSt} (hi : l[i]? = some c) (h : wsRun (l.toList.take i) = some st) : wsRun (l.toList.take (i + 1)) = wsStep st c := by
  unfold wsRun at *
  rw [List.take_add_one, show l.toList[i]? = some c from by simpa using hi, List.foldlM_append, h]
  show (wsStep st c >>= fun x => pure x) = wsStep st c
  cases wsStep st c <;> rfl
noncomputable def QD (D : Shared → Prop) (Q : Flow → Shared → Prop) (f : Flow) (s' : Shared) : Prop := match f with
  | .next => D s'
  | f => Q f s'
/-- a loop over a text's signs that may be left, its end told by D -/
theorem iterStrD {prog : Program} {w : World} {A : Around} {s : Shared} {env : Env} {h₀ : Heap} {x : Str} {px : Pos} {body : List Stmt} {Q : Flow → Shared → Prop} {y : Str} {t : Tok} {m : Str → Option Value} {news : List (Addr × Obj)} (D : Shared → Prop)
    (hh : A.handled = none) (F : Fr h₀ env.locals s.heap m) (N : News h₀ env.locals s.heap news)
    (J : Nat → (Str → Option Value) → List (Addr × Obj) → Array GenState → Prop) (h0 : J 0 m news s.gens)
    (turn : ∀ i c tv m₁ news₁ I oI h g tk, y.cps[i]? = some c → J i m₁ news₁ g → (∀ p ∈ news₁, p.1 ≠ I) → Fr h₀ env.locals h m₁ → News h₀ env.locals h ((I, oI) :: news₁) →
      wpAny (model prog w) A (storeName env x (.str ⟨#[c]⟩ tv)) (fun _ s₃ => wpAny (model prog w) A (execs body env) (TurnX h₀ env.locals (QD D Q) s I oI (J (i + 1))) noE s₃) noE { s with heap := h, gens := g, toks := tk })
    (done : ∀ m₁ news₁ h g tk, J y.cps.size m₁ news₁ g → Fr h₀ env.locals h m₁ → News h₀ env.locals h news₁ → D { s with heap := h, gens := g, toks := tk })
    (after : ∀ s', D s' → Q .next s') :
    wpAny (model prog w) A (pyIter (.str y t)) (fun it s₂ => codeAny (model prog w) A (.forLoop (.Name x px) it body [] env) (fun r s' => match r with | .ok f => Q f s' | .error e => cameBackBy (model prog w) A env noE e s') s₂) noE s := by
  refine wpAny_mono (iterStr (Q := QD D Q) hh F N J h0 turn done) (fun it s₂ h => codeAny_mono h fun r s' hr => ?_) fun _ _ e => e
  cases r with
  | error e => exact hr
  | ok f => cases f with
    | next => exact after s' hr
    | brk => exact hr
    | cont => exact hr
    | ret v => exact hr
theorem News.drop2 {h₀ h : Heap} {L : Addr} {a b : Addr × Obj} {r : List (Addr × Obj)} (N : News h₀ L h (a :: b :: r)) : News h₀ L h (a :: r) := fun p hp => N p (by
  rcases List.mem_cons.mp hp with rfl | hp
  · exact List.mem_cons_self
  · exact List.mem_cons_of_mem _ (List.mem_cons_of_mem _ hp))
theorem News.sel {h₀ h : Heap} {L : Addr} {a b c i e x d : Addr × Obj} (N : News h₀ L h [a, b, c, i, e, x, d]) : News h₀ L h [i, a, x, d] := fun p hp => N p (by
  first
    | (revert hp; revert p; (repeat' (first | exact sub_nil | refine sub_app ?_ ?_ | refine sub_cons (by with_reducible (repeat (first | exact List.mem_cons_self | assumption | exact List.mem_append_left _ (by assumption) | exact List.mem_append_left _ (List.mem_append_left _ (by assumption)) | exact List.mem_append_left _ (List.mem_append_right _ (by assumption)) | refine List.mem_cons_of_mem _ ?_ | refine List.mem_append_right _ ?_))) ?_ | (intro p hp; with_reducible (repeat (first | exact List.mem_cons_self | assumption | exact List.mem_append_left _ (by assumption) | exact List.mem_append_left _ (List.mem_append_left _ (by assumption)) | exact List.mem_append_left _ (List.mem_append_right _ (by assumption)) | refine List.mem_cons_of_mem _ ?_ | refine List.mem_append_right _ ?_)); done))); done)
    | (simp only [List.mem_cons, List.not_mem_nil, or_false] at hp ⊢; rcases hp with h | h | h | h <;> simp [h]))
theorem flat_zero (k : Nat) : (List.replicate k [(0 : Int)]).flatten = List.replicate k 0 := by
  induction k with
  | zero => rfl
  | succ k ih => rw [List.replicate_succ, List.flatten_cons, ih]; rfl
theorem bump_ext {cnt : List Int} {b : Nat} (h : (cnt.length : Int) ≤ (b : Int)) :
    (cnt ++ (List.replicate ((b : Int) - (cnt.length : Int) + 1).toNat [(0 : Int)]).flatten).set ((b : Int)).toNat ((cnt ++ (List.replicate ((b : Int) - (cnt.length : Int) + 1).toNat [(0 : Int)]).flatten).getD ((b : Int)).toNat 0 + 1) = bump cnt b := by
  have h' : b ≥ cnt.length := by omega
  have e : ((b : Int) - (cnt.length : Int) + 1).toNat = b - cnt.length + 1 := by omega
  unfold bump
  rw [flat_zero, e, Int.toNat_natCast, if_pos h']
theorem bump_in {cnt : List Int} {b : Nat} (h : ¬ (cnt.length : Int) ≤ (b : Int)) : cnt.set ((b : Int)).toNat (cnt.getD ((b : Int)).toNat 0 + 1) = bump cnt b := by
  have h' : ¬ b ≥ cnt.length := by omega
  unfold bump
  rw [Int.toNat_natCast, if_neg h']
theorem bump_length (cnt : List Int) (b : Nat) : (bump cnt b).length ≤ max cnt.length (b + 1) := by
  unfold bump
  dsimp only
  rw [List.length_set]
  split
  · rw [List.length_append, List.length_replicate]; omega
  · omega
/-- a Whitespace in the ledger -/
noncomputable def WsIn (l : List (Addr × Obj)) (x : Addr) (d : Ws) : Prop := ∃ (dx : Addr) (es : List DictEntry) (k : Nat) (an ct : Addr) (cvs : List Value) (tb tn tt : Tok) (n1 n2 : Nat), (x, instObj 93 dx) ∈ l ∧ (dx, dictOf es k) ∈ l ∧
  getL (Str.ofString "norm") es = some (some (.ref an)) ∧ getL (Str.ofString "n") es = some (some (.int d.n tn)) ∧ getL (Str.ofString "nt") es = some (some (.int d.nt tt)) ∧
  getL (Str.ofString "is_simple") es = some (some (.bool (decide (d.cnt.length ≤ 1)))) ∧ (∀ m ∈ wsMeths, getL m es = some none) ∧
  (an, ({ cls := .type "tuple", data := .seq #[.ref ct, .int d.b tb] n1 } : Obj)) ∈ l ∧ (ct, ({ cls := .type "tuple", data := .seq cvs.toArray n2 } : Obj)) ∈ l ∧ IntsAre cvs d.cnt ∧
  d.cnt.length < 1000 ∧ (∀ c ∈ d.cnt, 0 ≤ c ∧ c < 1000) ∧ (0 ≤ d.b ∧ d.b < 1000 ∧ 0 ≤ d.n ∧ d.n < 1000 ∧ 0 ≤ d.nt ∧ d.nt < 1000)
theorem WsIn.is {l : List (Addr × Obj)} {x : Addr} {d : Ws} {h : Heap} (H : WsIn l x d) (N : ∀ p ∈ l, h.get? p.1 = some p.2) : WsIs h x d := by
  obtain ⟨dx, es, k, an, ct, cvs, tb, tn, tt, n1, n2, h1, h2, h3, h4, h5, h6, h7, h8, h9, h10, h11, h12, h13⟩ := H
  exact ⟨dx, es, k, an, ct, cvs, tb, tn, tt, N _ h1, N _ h2, h3, h4, h5, h6, h7, ⟨_, N _ h8, rfl, _, rfl⟩, ⟨_, N _ h9, rfl, _, rfl⟩, h10, h11, h12, h13⟩
theorem WsIn.mono {l l' : List (Addr × Obj)} {x : Addr} {d : Ws} (H : WsIn l x d) (hs : ∀ p ∈ l, p ∈ l') : WsIn l' x d := by
  obtain ⟨dx, es, k, an, ct, cvs, tb, tn, tt, n1, n2, h1, h2, h3, h4, h5, h6, h7, h8, h9, h10⟩ := H
  exact ⟨dx, es, k, an, ct, cvs, tb, tn, tt, n1, n2, hs _ h1, hs _ h2, h3, h4, h5, h6, h7, hs _ h8, hs _ h9, h10⟩
structure WsOk (st : WsSt) (k : Nat) : Prop where
  pos : ∀ c ∈ st.cnt, 0 ≤ c ∧ c ≤ (st.nt : Int)
  b : st.b ≤ k
  n : st.n ≤ k
  nt : st.nt ≤ k
  len : st.cnt.length ≤ k
theorem bump_pos {cnt : List Int} {b nt : Nat} (h : ∀ c ∈ cnt, 0 ≤ c ∧ c ≤ (nt : Int)) : ∀ c ∈ bump cnt b, 0 ≤ c ∧ c ≤ ((nt + 1 : Nat) : Int) := by
  have key : ∀ c ∈ (if b ≥ cnt.length then cnt ++ List.replicate (b - cnt.length + 1) (0 : Int) else cnt), 0 ≤ c ∧ c ≤ (nt : Int) := by
    intro c hc
    split at hc
    · rcases List.mem_append.mp hc with h1 | h1
      · exact h c h1
      · rw [List.eq_of_mem_replicate h1]; omega
    · exact h c hc
  intro c hc
  unfold bump at hc
  dsimp only at hc
  generalize (if b ≥ cnt.length then cnt ++ List.replicate (b - cnt.length + 1) (0 : Int) else cnt) = l at hc key
  rcases List.mem_or_eq_of_mem_set hc with h1 | h1
  · have := key c h1; omega
  · rw [h1, List.getD_eq_getElem?_getD]
    cases e : l[b]? with
    | none => simp; omega
    | some x => have := key x (List.mem_of_getElem? e); simp only [Option.getD_some]; omega
theorem wsStep_ok {st st' : WsSt} {k c : Nat} (H : WsOk st k) (h : wsStep st c = some st') : WsOk st' (k + 1) := by
  unfold wsStep at h
  split at h
  · cases h
    exact ⟨H.pos, Nat.succ_le_succ H.b, Nat.succ_le_succ H.n, Nat.le_succ_of_le H.nt, Nat.le_succ_of_le H.len⟩
  · split at h
    · cases h
      have h1 := bump_length st.cnt st.b
      have h2 := H.len
      have h3 := H.b
      exact ⟨bump_pos H.pos, Nat.zero_le _, Nat.succ_le_succ H.n, Nat.succ_le_succ H.nt, by show (bump st.cnt st.b).length ≤ k + 1; omega⟩
    · cases h
theorem wsGo_ok (l : List Nat) : ∀ (st : WsSt) (k : Nat), WsOk st k → WsOk (wsGo st l) (k + l.length) := by
  induction l with
  | nil => intro st k H; exact H
  | cons c r ih =>
    intro st k H
    rw [wsGo]
    cases e : wsStep st c with
    | none => exact ⟨H.pos, Nat.le_trans H.b (Nat.le_add_right ..), Nat.le_trans H.n (Nat.le_add_right ..), Nat.le_trans H.nt (Nat.le_add_right ..), Nat.le_trans H.len (Nat.le_add_right ..)⟩
    | some st' =>
      have := ih st' (k + 1) (wsStep_ok H e)
      rw [List.length_cons, show k + (r.length + 1) = k + 1 + r.length by omega]
      exact this
theorem ws0_ok : WsOk ws0 0 := ⟨(fun _ h => nomatch h), Nat.le_refl _, Nat.le_refl _, Nat.le_refl _, Nat.le_refl _⟩
/-- a def called on a newly made object -/
theorem callInit {prog : Program} {w : World} {A : Around} {K : Frag} {p : Program} {loose : List Str} {mg mb : Str → Option Value} {R : Result → Shared → Prop} {h : Heap} {g : Array GenState} {d : Drawn} {t : Nat} {os : OsState} {C : Addr}
    {name qual : Str} {params : Arguments} {body : List Stmt} {scope : Scope} {dV kV doc pm cdv ct oc : Value} {an od : Option Addr} {osl : Array (Option Value)} {f : Addr} {args : List Value} {binds : List (Str × Value)}
    (X : K.In h) (T : TopRead p loose mg mb h) (hroom : A.depth < recursionLimit)
    (ho : K.lookup f = some ⟨oc, od, .func (fnOf name qual params body scope dV kV doc pm an cdv ct), osl⟩) (hcd : codeIn K cdv qual = true)
    (hbind : ∀ s, BindsTo s (fnOf name qual params body scope dV kV doc pm an cdv ct) ⟨args, []⟩ binds) (hloc : ∀ y ∈ binds, scope.names.lookup y.1 = some .local)
    (hcell : ∀ x ∈ scope.names, x.2 ≠ .cell) (hco : scope.isCoroutine = false) (hgen : scope.isGenerator = false) (hk : scope.kind = .function)
    (hh : ∀ L h₁ tk, Fr h L h₁ (fun y => binds.reverse.lookup y) → News h L h₁ [(h.objs.size + 1, instObj C h.objs.size), (h.objs.size, dictOf [] 0)] →
      wpAny (model prog w) (A.deeper (envOf qual scope L f cdv)) (execs body (envOf qual scope L f cdv))
        (fun fl s' => R (.ok (.ret (match fl with | .ret v => v | _ => .none))) s') (fun _ _ => False) ⟨h₁, g, d, tk, os⟩) :
    codeAny (model prog w) A (.call (.ref f) ⟨args, []⟩) R ⟨(h.push emptyDict).push (instObj C h.objs.size), g, d, t, os⟩ := by
  have k2 : ∀ b o, h.get? b = some o → ((h.push emptyDict).push (instObj C h.objs.size)).get? b = some o := fun b o e => Heap.get?_push_of_some _ (Heap.get?_push_of_some _ e)
  have sz : ((h.push emptyDict).push (instObj C h.objs.size)).objs.size = h.objs.size + 2 := by rw [Heap.size_push, Heap.size_push]
  have gx : ((h.push emptyDict).push (instObj C h.objs.size)).get? (h.objs.size + 1) = some (instObj C h.objs.size) := by
    have := Heap.get?_push_size (h := h.push emptyDict) (o := instObj C h.objs.size) rfl
    rwa [Heap.size_push] at this
  have gd' : ((h.push emptyDict).push (instObj C h.objs.size)).get? h.objs.size = some (dictOf [] 0) := Heap.get?_push_of_some _ (Heap.get?_push_size _ rfl)
  refine codeAny_call_def (fd := fnOf name qual params body scope dV kV doc pm an cdv ct) (body := body) (binds := binds) hroom (k2 _ _ (X _ _ ho)) rfl (T.nolimit.keeps k2) (codeRec_of (X.keeps k2) hcd) rfl (hbind _) hcell hloc (fun h₁ hns hk₁ => ?_) hco hgen hk
  dsimp only at hns hk₁ ⊢
  rw [sz] at hns ⊢
  have none_of : ∀ b, h.objs.size ≤ b → h.get? b = none := fun b hb => by
    cases e : h.get? b with
    | none => rfl
    | some o => exact absurd (Heap.lt_size e) (Nat.not_lt.mpr hb)
  refine wpAny_mono (hh (h.objs.size + 2) h₁ (t + binds.length) ⟨hns, fun b o e => hk₁ b o (k2 b o e), Nat.le_add_right _ _⟩ ?_) (fun fl s' hq => hq) fun _ _ x => x.elim
  intro q hq
  simp only [List.mem_cons, List.not_mem_nil, or_false] at hq
  rcases hq with rfl | rfl
  · exact ⟨hk₁ _ _ gx, by refine neN ?_; dsimp only; omega, none_of _ (Nat.le_succ _)⟩
  · exact ⟨hk₁ _ _ gd', by refine neN ?_; dsimp only; omega, none_of _ (Nat.le_refl _)⟩
theorem tuple_list {prog : Program} {w : World} {A : Around} {E : Value → Shared → Prop} {s : Shared} {h₀ : Heap} {L lc : Addr} {m : Str → Option Value} {news : List (Addr × Obj)} {cvs : List Value} {cnt : List Int} {k : Nat} {Q : Value → Shared → Prop}
    (F : Fr h₀ L s.heap m) (N : News h₀ L s.heap news) (hm : (lc, listOf cvs.toArray k) ∈ news) (hI : IntsAre cvs cnt) (hz : cnt.length ≤ 500)
    (h : ∀ D h', Fr h₀ L h' m → News h₀ L h' ((D, ({ cls := .type "tuple", data := .seq cvs.toArray } : Obj)) :: news) → (∀ p ∈ news, p.1 < D) → Q (.ref D) { s with heap := h' }) : wpAny (model prog w) A (call (.type "tuple") [.ref lc]) Q E s :=
  kde_tupleOf (zs := cvs) F N (News.isList N hm) (by rw [List.size_toArray, hI.length]; omega) rfl h
example : True := by
  k_with "call type:tuple" => (k_dflt (refine' tuple_list (by assumption) (by assumption) (by k_mem) (by assumption) (by omega) ?_); intro _ _ _ _ l1; (try k_lt l1); (try k_sweep))
  trivial
theorem make_spec {w : World} {dp un : Nat} {fr : Option (List Env)} {gd : Option (List Code)} {E : Value → Shared → Prop} {s : Shared} {mg mb : Str → Option Value} {Q : Value → Shared → Prop} {ws : Str} {tw : Tok}
    (X : (hd.heap_39 w.params).In s.heap) (T : TopRead hd.view_39 LO mg mb s.heap) (hA : dp < 400) (hU : un < 5000) (hn : ws.length < 500)
    (h : ∀ x l h' tk', (∀ b o, s.heap.get? b = some o → h'.get? b = some o) → (∀ p ∈ l, h'.get? p.1 = some p.2 ∧ s.heap.get? p.1 = none) → WsIn l x (wsOf ws.cps.toList) → Q (.ref x) { s with heap := h', toks := tk' }) :
    wpAny (model PySem.Challenge.rw_pe0145_01.row.prog w) ⟨none, dp, fr, gd, un⟩ (call (.ref 93) [.str ws tw]) Q E s := by
  obtain ⟨h₀, g, dr, tks, os⟩ := s
  have hm : makesIn (hd.heap_39 w.params) 93 = true := by k_is
  have hi : findIn (hd.heap_39 w.params) (.ref 93) (Str.ofString "__init__") = some (some (.ref 48)) := by k_is
  have hf : typeIn (hd.heap_39 w.params) (.ref 48) = some (.type "function") := by k_is
  refine wpAny_call (make_core (init := .ref 48) (makes_of X hm) (looks_findIn X hi) (fun self => bind_fn X self hf) (.inl rfl) ?_)
  refine callInit X T (by show dp + 1 < 1000; omega) (by with_unfolding_all rfl) (by with_unfolding_all rfl) (fun s => by exact BindsTo.of_eq rfl) (by exact locs rfl) (by decide) rfl rfl rfl fun L h₁ tk F N => ?_
  dsimp only at X T h
  dsimp only [InitBack]
  show wpAny _ _ _ _ _ _
  k_fold
  k_steps
  rename Fr _ _ _ _ => F1
  rename News _ _ _ _ => N1
  obtain ⟨lc, hh, tt, m₀, t1, t2, t3, t4, t5, F2, N2, hlc, e1, e2, e3, e4, e5, e6, e7⟩ : ∃ (lc : Addr) (hh : Int) (tt : Tok) (m₀ : Str → Option Value) (t1 t2 t3 t4 t5 : Tok), Fr h₀ L _ m₀ ∧
      News h₀ L _ [(lc, listOf ([] : List Value).toArray 0), (h₀.objs.size + 1, instObj 93 h₀.objs.size), (h₀.objs.size, dictOf [⟨hh, .str (Str.ofString "raw") tt, .str ws tw⟩] 1)] ∧ h₀.objs.size + 1 < lc ∧
      m₀ (Str.ofString "self") = some (.ref (h₀.objs.size + 1)) ∧ m₀ (Str.ofString "S") = some (.str (Str.ofString " ") t1) ∧ m₀ (Str.ofString "T") = some (.str (Str.ofString "\t") t2) ∧
      m₀ (Str.ofString "count") = some (.ref lc) ∧ m₀ (Str.ofString "b") = some (.int 0 t3) ∧ m₀ (Str.ofString "n") = some (.int 0 t4) ∧ m₀ (Str.ofString "nt") = some (.int 0 t5) := ⟨_, _, _, _, _, _, _, _, _, F1, News.drop2 N1, by omega, rfl, rfl, rfl, rfl, rfl, rfl, rfl⟩
  refine iterStrD (D := fun s' => ∃ (h' : Heap) (tk' : Nat) (m : Str → Option Value) (lc : Addr) (cvs : List Value) (k : Nat) (st : WsSt) (t3 t4 t5 : Tok), s' = ⟨h', g, dr, tk', os⟩ ∧ Fr h₀ L h' m ∧ News h₀ L h' [(lc, listOf cvs.toArray k), (h₀.objs.size + 1, instObj 93 h₀.objs.size), (h₀.objs.size, dictOf [⟨hh, .str (Str.ofString "raw") tt, .str ws tw⟩] 1)] ∧ h₀.objs.size + 1 < lc ∧
      IntsAre cvs st.cnt ∧ wsGo ws0 ws.cps.toList = st ∧ (st.cnt.length ≤ 500 ∧ st.b ≤ 500) ∧ m (Str.ofString "self") = some (.ref (h₀.objs.size + 1)) ∧
      m (Str.ofString "count") = some (.ref lc) ∧ m (Str.ofString "b") = some (.int st.b t3) ∧ m (Str.ofString "n") = some (.int st.n t4) ∧ m (Str.ofString "nt") = some (.int st.nt t5)) rfl F2 N2
    (fun i m news g' => ∃ (lc : Addr) (cvs : List Value) (k : Nat) (st : WsSt) (t1 t2 t3 t4 t5 : Tok), news = [(lc, listOf cvs.toArray k), (h₀.objs.size + 1, instObj 93 h₀.objs.size), (h₀.objs.size, dictOf [⟨hh, .str (Str.ofString "raw") tt, .str ws tw⟩] 1)] ∧ h₀.objs.size + 1 < lc ∧
      IntsAre cvs st.cnt ∧ wsRun (ws.cps.toList.take i) = some st ∧ (st.cnt.length ≤ i ∧ st.b ≤ i) ∧ g' = g ∧ m (Str.ofString "self") = some (.ref (h₀.objs.size + 1)) ∧ m (Str.ofString "S") = some (.str (Str.ofString " ") t1) ∧ m (Str.ofString "T") = some (.str (Str.ofString "\t") t2) ∧
      m (Str.ofString "count") = some (.ref lc) ∧ m (Str.ofString "b") = some (.int st.b t3) ∧ m (Str.ofString "n") = some (.int st.n t4) ∧ m (Str.ofString "nt") = some (.int st.nt t5)) ?_ ?_ ?_ ?_
  · exact ⟨lc, [], 0, ws0, t1, t2, t3, t4, t5, rfl, hlc, .nil, rfl, ⟨Nat.le_refl _, Nat.le_refl _⟩, rfl, e1, e2, e3, e4, e5, e6, e7⟩
  · clear F1 N1 F2 N2 e1 e2 e3 e4 e5 e6 e7 hlc
    rintro i c tv m₁ news₁ I oI h₂ g' tk hi ⟨lc, cvs, k, st, t1, t2, t3, t4, t5, rfl, hlc, hI, hrun, hlen, rfl, m1, m2, m3, m4, m5, m6, m7⟩ hoff F₁ N₁
    have hil : i < 500 := by
      have := (Array.getElem?_eq_some_iff.mp hi).1
      unfold Str.length at hn
      omega
    have d1 := neN (hoff (lc, listOf cvs.toArray k) (by first | (with_reducible (repeat (first | exact List.mem_cons_self | assumption | exact List.mem_append_left _ (by assumption) | exact List.mem_append_left _ (List.mem_append_left _ (by assumption)) | exact List.mem_append_left _ (List.mem_append_right _ (by assumption)) | refine List.mem_cons_of_mem _ ?_ | refine List.mem_append_right _ ?_)); done) | simp))
    have d2 := neN (hoff (h₀.objs.size + 1, instObj 93 h₀.objs.size) (by first | (with_reducible (repeat (first | exact List.mem_cons_self | assumption | exact List.mem_append_left _ (by assumption) | exact List.mem_append_left _ (List.mem_append_left _ (by assumption)) | exact List.mem_append_left _ (List.mem_append_right _ (by assumption)) | refine List.mem_cons_of_mem _ ?_ | refine List.mem_append_right _ ?_)); done) | simp))
    have d3 := neN (hoff (h₀.objs.size, dictOf [⟨hh, .str (Str.ofString "raw") tt, .str ws tw⟩] 1) (by first | (with_reducible (repeat (first | exact List.mem_cons_self | assumption | exact List.mem_append_left _ (by assumption) | exact List.mem_append_left _ (List.mem_append_left _ (by assumption)) | exact List.mem_append_left _ (List.mem_append_right _ (by assumption)) | refine List.mem_cons_of_mem _ ?_ | refine List.mem_append_right _ ?_)); done) | simp))
    dsimp only at d1 d2 d3
    have hstep := wsRun_succ hi hrun
    show wpAny _ _ _ _ _ _
    k_fold
    k_steps
    · have hc := ‹(({ cps := #[c] } : Str) == Str.ofString " ") = true›
      rw [show Str.ofString " " = ⟨#[32]⟩ from by decide, strOne_eq, decide_eq_true_eq] at hc
      refine' TurnX.intro ?F ?N (fun _ hp => hp) hoff ?J
      case F => assumption
      case N => assumption
      case J => exact ⟨lc, cvs, k, { st with n := st.n + 1, b := st.b + 1 }, t1, t2, _, _, t5, rfl, hlc, hI, by rw [hstep, wsStep, if_pos hc], ⟨by dsimp only; omega, by dsimp only; omega⟩, rfl, m1, m2, m3, m4, rfl, rfl, m7⟩
    · have hc := ‹(({ cps := #[c] } : Str) == Str.ofString " ") = false›
      rw [show Str.ofString " " = ⟨#[32]⟩ from by decide, strOne_eq, decide_eq_false_iff_not] at hc
      have hc' := ‹(({ cps := #[c] } : Str) == Str.ofString "\t") = true›
      rw [show Str.ofString "\t" = ⟨#[9]⟩ from by decide, strOne_eq, decide_eq_true_eq] at hc'
      have hi2 := ‹IntsAre (List.set _ _ _) _›
      rw [bump_ext (by assumption)] at hi2
      have hbl := bump_length st.cnt st.b
      rename Fr _ _ _ _ => F9
      rename News _ _ _ _ => N9
      refine TurnX.intro F9 (News.sel N9) (fun _ hp => hp) ?O ?J
      case J => exact ⟨_, _, _, ⟨bump st.cnt st.b, 0, st.n + 1, st.nt + 1⟩, t1, t2, _, _, _, rfl, by omega, hi2, by rw [hstep, wsStep, if_neg hc, if_pos hc'], ⟨by dsimp only; omega, by dsimp only; omega⟩, rfl, m1, m2, m3, rfl, rfl, rfl, rfl⟩
      case O =>
        intro p hp
        simp only [List.mem_cons, List.not_mem_nil, or_false] at hp
        rcases hp with h | h | h
        · rw [h]; refine neN ?_; try dsimp only
          omega
        · rw [h]; exact d2
        · rw [h]; exact d3
    · have hc := ‹(({ cps := #[c] } : Str) == Str.ofString " ") = false›
      rw [show Str.ofString " " = ⟨#[32]⟩ from by decide, strOne_eq, decide_eq_false_iff_not] at hc
      have hc' := ‹(({ cps := #[c] } : Str) == Str.ofString "\t") = true›
      rw [show Str.ofString "\t" = ⟨#[9]⟩ from by decide, strOne_eq, decide_eq_true_eq] at hc'
      have hi2 := ‹IntsAre (List.set _ _ _) _›
      rw [bump_in (by assumption)] at hi2
      have hbl := bump_length st.cnt st.b
      rename Fr _ _ _ _ => F9
      rename News _ _ _ _ => N9
      refine TurnX.intro F9 N9 (fun _ hp => hp) ?O ?J
      case J => exact ⟨_, _, _, ⟨bump st.cnt st.b, 0, st.n + 1, st.nt + 1⟩, t1, t2, _, _, _, rfl, by omega, hi2, by rw [hstep, wsStep, if_neg hc, if_pos hc'], ⟨by dsimp only; omega, by dsimp only; omega⟩, rfl, m1, m2, m3, m4, rfl, rfl, rfl⟩
      case O =>
        intro p hp
        simp only [List.mem_cons, List.not_mem_nil, or_false] at hp
        rcases hp with h | h | h
        · rw [h]; exact d1
        · rw [h]; exact d2
        · rw [h]; exact d3
    · have hc := ‹(({ cps := #[c] } : Str) == Str.ofString " ") = false›
      rw [show Str.ofString " " = ⟨#[32]⟩ from by decide, strOne_eq, decide_eq_false_iff_not] at hc
      have hc' := ‹(({ cps := #[c] } : Str) == Str.ofString "\t") = false›
      rw [show Str.ofString "\t" = ⟨#[9]⟩ from by decide, strOne_eq, decide_eq_false_iff_not] at hc'
      have hg : wsGo ws0 ws.cps.toList = st := by
        have h1 := wsGo_run (ws.cps.toList.take i) (ws.cps.toList.drop i) ws0 st hrun
        rw [List.take_append_drop] at h1
        obtain ⟨hlt, hce⟩ := Array.getElem?_eq_some_iff.mp hi
        rw [h1, List.drop_eq_getElem_cons (by simpa using hlt), wsGo]
        have h2 : ws.cps.toList[i]'(by simpa using hlt) = c := by rw [← hce]; simp
        rw [h2, wsStep, if_neg hc, if_neg hc']
      dsimp only
      unfold TurnX QD
      dsimp only
      rename Fr _ _ _ _ => F9
      rename News _ _ _ _ => N9
      exact ⟨_, _, _, lc, cvs, k, st, t3, t4, t5, rfl, F9, fun p hp => N9 p (List.mem_cons_of_mem _ hp), hlc, hI, hg, ⟨by omega, by omega⟩, m1, m4, m5, m6, m7⟩
  · rintro m₁ news₁ h₂ g' tk ⟨lc, cvs, k, st, t1, t2, t3, t4, t5, rfl, hlc, hI, hrun, hlen, rfl, m1, m2, m3, m4, m5, m6, m7⟩ F₁ N₁
    have e : ws.cps.toList.take ws.cps.size = ws.cps.toList := List.take_of_length_le (by first | (with_reducible (repeat (first | exact List.mem_cons_self | assumption | exact List.mem_append_left _ (by assumption) | exact List.mem_append_left _ (List.mem_append_left _ (by assumption)) | exact List.mem_append_left _ (List.mem_append_right _ (by assumption)) | refine List.mem_cons_of_mem _ ?_ | refine List.mem_append_right _ ?_)); done) | simp)
    rw [e] at hrun
    have hg := wsGo_run ws.cps.toList [] ws0 st hrun
    rw [List.append_nil] at hg
    unfold Str.length at hn
    exact ⟨h₂, tk, m₁, lc, cvs, k, st, t3, t4, t5, rfl, F₁, N₁, hlc, hI, hg, ⟨by omega, by omega⟩, m1, m4, m5, m6, m7⟩
  · clear F1 N1 F2 N2 e1 e2 e3 e4 e5 e6 e7 hlc
    rintro s' ⟨h₂, tk', m₁, lc, cvs, k, st, t3, t4, t5, rfl, F₁, N₁, hlc, hI, hg, hlen, m1, m4, m5, m6, m7⟩
    dsimp only
    show wpAny _ _ _ _ _ _
    k_steps
    have Hok := wsGo_ok ws.cps.toList ws0 0 ws0_ok
    rw [hg] at Hok
    have hlw : ws.cps.toList.length < 500 := by unfold Str.length at hn; simpa using hn
    have o1 := Hok.b
    have o2 := Hok.n
    have o3 := Hok.nt
    have o4 := Hok.len
    rename Fr _ _ _ _ => F9
    rename News _ _ _ _ => N9
    refine h _ _ _ _ F9.keep (fun p hp => ⟨(N9 p hp).1, (N9 p hp).2.2⟩) ?_
    have hW : wsOf ws.cps.toList = ⟨st.cnt, st.b, st.n, st.nt⟩ := by unfold wsOf; rw [show (⟨[], 0, 0, 0⟩ : WsSt) = ws0 from rfl, hg]
    rw [hW]
    refine ⟨h₀.objs.size, _, _, _, _, cvs, _, _, _, _, _, .tail _ (.tail _ (.tail _ (.head _))), .tail _ (.tail _ (.tail _ (.tail _ (.head _)))), by k_get, by k_get, by k_get,
      (by rw [show decide (st.cnt.length ≤ 1) = decide ((st.cnt.length : Int) ≤ 1) from by rw [decide_eq_decide]; omega]; k_get), ?_, .head _, .tail _ (.head _), hI, by dsimp only; omega, ?_, by dsimp only; omega⟩
    · intro m hm
      simp only [wsMeths, List.mem_cons, List.not_mem_nil, or_false] at hm
      rcases hm with rfl | rfl | rfl | rfl | rfl | rfl <;> k_get
    · intro c hc
      have := Hok.pos c hc
      omega
end
section
open PySem PySem.W PyProof.Rows PySem.Builtin.Re
namespace Rx
open PySem.Sre

/-- what the second pass over a text lays out, from place d on -/
inductive Subs (code text : Array Nat) (rp : List Nat) : Nat → List Nat → Prop
  | stop (d : Nat) : EndsIn (5 + 3 * text.size) (forSearch code text 0 d text.size false) Miss → Subs code text rp d (text.toList.drop d)
  | hit (d p q : Nat) (out : List Nat) : d ≤ p → p < q → q ≤ text.size → EndsIn (20 + 3 * text.size) (forSearch code text 0 d text.size false) (Hit p q) → Subs code text rp q out →
      Subs code text rp d ((text.toList.drop d).take (p - d) ++ rp ++ out)

theorem plain_loop : plainId "re.Pattern.sub.loop" = true := by decide +kernel
theorem entry_loop : entryFor table "re.Pattern.sub.loop" = some Builtin.«re.Pattern.sub.loop» := entryFor_of_tree (by kernel_rfl)
theorem strsAre_snoc {vs : List Value} {ys : List Str} (h : PyProof.Rows.StrsAre vs ys) (y : Str) (t : Tok) : PyProof.Rows.StrsAre (vs ++ [.str y t]) (ys ++ [y]) := by
  induction h with
  | nil => exact .cons y t .nil
  | cons y' t' _ ih => exact .cons y' t' ih
noncomputable def flat (ys : List Str) : List Nat := ys.flatMap (·.cps.toList)
theorem flat_snoc (ys : List Str) (y : Str) : flat (ys ++ [y]) = flat ys ++ y.cps.toList := by simp [flat]
theorem join_empty : ∀ ys : List Str, Str.join ⟨#[]⟩ ys = ⟨(flat ys).toArray⟩
  | [] => rfl
  | [x] => by simp [Str.join, flat]
  | x :: y :: r => by
    have ih := join_empty (y :: r)
    rw [show Str.join ⟨#[]⟩ (x :: y :: r) = x ++ ⟨#[]⟩ ++ Str.join ⟨#[]⟩ (y :: r) from rfl, ih]
    show (⟨x.cps ++ #[] ++ (flat (y :: r)).toArray⟩ : Str) = _
    congr 1
    apply Array.toList_inj.mp
    simp [flat]
theorem toList_extract (text : Array Nat) (d p : Nat) : (text.extract d p).toList = (text.toList.drop d).take (p - d) := by
  rw [Array.toList_extract]

section
variable {prog : Program} {w : World} {A : Around} {R : Result → Shared → Prop} {P T la : Addr} {code : Array Nat} {fs : Array Value} {o ot : Obj} {its : Array Value} {nn : Nat} {x rp : Str} {tx tr : Tok} {h₀ : Heap}
theorem push_part {E : Value → Shared → Prop} {s : Shared} {vs : List Value} {k : Nat} {v : Value} {Q : Unit → Shared → Prop} (hl : s.heap.get? la = some (W.listOf vs.toArray k)) (hz : vs.length ≤ 1000000)
    (hkeep : ∀ b o, h₀.get? b = some o → s.heap.get? b = some o) (hnew : h₀.get? la = none)
    (h : ∀ h', h'.get? la = some (W.listOf (vs ++ [v]).toArray (k + 1)) → (∀ b o, h₀.get? b = some o → h'.get? b = some o) → Q () { s with heap := h' }) :
    wpAny (model prog w) A (updateSeq la (·.push v)) Q E s := by
  refine wpAny_updateSeq (xs := vs.toArray) (n := k) hl rfl (h _ ?_ fun b ob e => ?_) (hz := by rw [List.size_toArray]; show vs.length ≤ 16777216; omega) (_hz' := by rw [Array.size_push, List.size_toArray]; show vs.length + 1 ≤ 16777216 + 1; omega)
  · refine (Heap.get?_update_self _ hl rfl).trans ?_
    show some (_ : Obj) = _
    congr 1
    simp [Obj.mapSeq, W.listOf]
  · refine (Heap.get?_update_other _ _ ?_).trans (hkeep b ob e)
    rintro rfl; rw [hnew] at e; cases e

theorem strsAre_len {vs : List Value} {ys : List Str} (h : StrsAre vs ys) : ys.length = vs.length := by
  induction h with
  | nil => rfl
  | cons _ _ _ ih => simp [ih]
noncomputable def loopArgs (P : Addr) (x rp : Str) (tx tr : Tok) (n d : Int) (la : Addr) : Args := ⟨[.ref P, .str x tx, .str rp tr, rawInt 0, rawInt 0, rawInt n, rawInt d, rawInt d, .bool false, .ref la, .bool false], []⟩
theorem subLoop {d : Nat} {out : List Nat} (D : Subs code x.cps rp.cps.toList d out) (hx : x.cps.size ≤ 100000) (hrp : rp.cps.size ≤ 2) (Pt : PatAt h₀ P T code fs o ot its nn) (hnew : h₀.get? la = none) :
    ∀ (n : Int) (vs : List Value) (ys : List Str) (k : Nat) (s : Shared), s.heap.get? la = some (W.listOf vs.toArray k) → StrsAre vs ys → (∀ b o, h₀.get? b = some o → s.heap.get? b = some o) →
    (ys.map (·.length)).sum + 2 * vs.length + 10 * (x.cps.size - d) + 10 ≤ 1048576 →
    (∀ h' t' tk', (∀ b o, h₀.get? b = some o → h'.get? b = some o) → R (.ok (.ret (.str ⟨(flat ys ++ out).toArray⟩ t'))) { s with heap := h', toks := tk' }) →
    codeAny (model prog w) A (.builtin "re.Pattern.sub.loop" (loopArgs P x rp tx tr n d la)) R s := by
  induction D with
  | stop d hm =>
    intro n vs ys k s hl hs hk hw h
    refine codeAny_builtin entry_loop ?_
    rw [Around.under_plainId plain_loop _]
    unfold Builtin.«re.Pattern.sub.loop» loopArgs rawInt
    dsimp only
    refine wpAny_bind (target (Pt.keeps hk) ?_)
    dsimp only
    rw [if_pos (by decide)]
    refine wpAny_bind (wpAny_of_eq (a := ()) rfl ?_)
    rw [if_neg (by simp)]
    have ed : ((d : Int)).toNat = d := rfl
    rw [ed]
    refine wpAny_bind (toEnd_miss hm (by omega) ?_)
    dsimp only
    have fin : ∀ (vs : List Value) (ys : List Str) (k : Nat) (s₁ : Shared), s₁.heap.get? la = some (W.listOf vs.toArray k) → StrsAre vs ys → (∀ b o, h₀.get? b = some o → s₁.heap.get? b = some o) → (ys.map (·.length)).sum + ys.length ≤ 1048576 →
        (∀ h' t' tk', (∀ b o, h₀.get? b = some o → h'.get? b = some o) → R (.ok (.ret (.str ⟨(flat ys).toArray⟩ t'))) { s₁ with heap := h', toks := tk' }) →
        wpAny (model prog w) A.in1 (do
          let joiner ← reSlice x.cps 0 0 0
          let __do_lift ← seqItems? (Value.ref la)
          if (__do_lift.getD #[]).isEmpty = true then do
            let text ← pure joiner
            if (false : Bool) = true then do
              let __do_lift ← holding [text] (do let __do_lift ← mkInt n; newTuple [text, __do_lift])
              ret __do_lift
            else ret text
          else do
            let text ← call (.builtin (if (0 == 0 : Bool) = true then "str.join" else "bytes.join")) [joiner, .ref la]
            if (false : Bool) = true then do
              let __do_lift ← holding [text] (do let __do_lift ← mkInt n; newTuple [text, __do_lift])
              ret __do_lift
            else ret text)
          (fun fin s' => match fin with | .done f => R (.ok f) s' | .again c' => c'.quiet = true ∧ codeAny (model prog w) A c' R s') (fun e s' => R (.error e) s') s₁ := by
      intro vs ys k s₁ hl hs hk hw h
      unfold reSlice
      rw [if_pos (by decide)]
      have e0 : x.cps.extract 0 0 = #[] := by simp
      rw [e0]
      refine wpAny_bind (wpAny_mkStr ?_ (hx := by decide))
      refine wpAny_bind (wpAny_seqItems hl rfl ?_)
      cases hs with
      | nil =>
        rw [if_pos (by rfl)]
        refine wpAny_bind (wpAny_pure ?_)
        rw [if_neg (by simp)]
        exact wpAny_pure (h _ _ _ hk)
      | cons y t hs' =>
        rw [if_neg (by simp)]
        refine wpAny_bind ?_
        rw [if_pos (by decide)]
        refine join_listW ⟨_, hl, rfl, _, rfl⟩ (by simpa using StrsAre.cons y t hs') (by decide) hw fun t' k' => ?_
        rw [if_neg (by simp), txt_join, join_empty]
        exact wpAny_pure (h _ _ _ hk)
    by_cases hd : d < x.cps.size
    · rw [if_pos hd]
      unfold reSlice
      rw [if_pos (by decide)]
      have hsz : (x.cps.extract d x.cps.size).size = x.cps.size - d := by simp
      refine wpAny_bind (wpAny_mkStr ?_ (hx := by show (x.cps.extract d x.cps.size).size ≤ 16777216; omega))
      refine wpAny_bind (push_part hl (by omega) hk hnew fun h₁ hl₁ hk₁ => ?_)
      refine fin _ _ _ _ hl₁ (strsAre_snoc hs _ _) hk₁ ?_ fun h' t' tk' hk' => ?_
      · simp only [List.map_append, List.sum_append, List.length_append, List.map_cons, List.map_nil, List.sum_cons, List.sum_nil, List.length_cons, List.length_nil]
        have : Str.length ⟨x.cps.extract d x.cps.size⟩ = x.cps.size - d := hsz
        have hlen := strsAre_len hs
        omega
      · have := h h' t' tk' hk'
        rw [flat_snoc, toList_extract]
        rw [List.take_of_length_le (by simp)]
        exact this
    · rw [if_neg hd]
      have hlen := strsAre_len hs
      refine fin vs ys k s hl hs hk (by omega) fun h' t' tk' hk' => ?_
      have := h h' t' tk' hk'
      rw [List.drop_eq_nil_of_le (by simpa using hd), List.append_nil] at this
      exact this
  | hit d p q out h1 h2 h3 hm _ ih =>
    intro n vs ys k s hl hs hk hw h
    have hlen := strsAre_len hs
    refine codeAny_builtin entry_loop ?_
    rw [Around.under_plainId plain_loop _]
    unfold Builtin.«re.Pattern.sub.loop» loopArgs rawInt
    dsimp only
    refine wpAny_bind (target (Pt.keeps hk) ?_)
    dsimp only
    rw [if_pos (by decide)]
    refine wpAny_bind (wpAny_of_eq (a := ()) rfl ?_)
    rw [if_neg (by simp)]
    have ed : ((d : Int)).toNat = d := rfl
    rw [ed]
    refine wpAny_bind (toEnd_hit hm (by omega) fun m' e1 e2 => ?_)
    dsimp only
    rw [e1, e2]
    have eqp : (q == p) = false := by simp; omega
    rw [eqp]
    have rest : ∀ (vs : List Value) (ys : List Str) (k : Nat) (s₁ : Shared), s₁.heap.get? la = some (W.listOf vs.toArray k) → StrsAre vs ys → (∀ b o, h₀.get? b = some o → s₁.heap.get? b = some o) →
        (ys.map (·.length)).sum + 2 * vs.length + 10 * (x.cps.size - q) + 14 ≤ 1048576 →
        (∀ h' t' tk', (∀ b o, h₀.get? b = some o → h'.get? b = some o) → R (.ok (.ret (.str ⟨(flat ys ++ rp.cps.toList ++ out).toArray⟩ t'))) { s₁ with heap := h', toks := tk' }) →
        wpAny (model prog w) A.in1 (do
          updateSeq la fun x => x.push (.str rp tr)
          again (.builtin "re.Pattern.sub.loop" (loopArgs P x rp tx tr (n + 1) q la)))
          (fun fin s' => match fin with | .done f => R (.ok f) s' | .again c' => c'.quiet = true ∧ codeAny (model prog w) A c' R s') (fun e s' => R (.error e) s') s₁ := by
      intro vs ys k s₁ hl hs hk hw h
      refine wpAny_bind (push_part hl (by omega) hk hnew fun h₁ hl₁ hk₁ => ?_)
      refine wpAny_pure ⟨plainId_quiet plain_loop _, ?_⟩
      refine ih (n + 1) _ _ _ _ hl₁ (strsAre_snoc hs rp tr) hk₁ ?_ fun h' t' tk' hk' => ?_
      · simp only [List.map_append, List.sum_append, List.length_append, List.map_cons, List.map_nil, List.sum_cons, List.sum_nil, List.length_cons, List.length_nil]
        have : rp.length = rp.cps.size := rfl
        omega
      · rw [flat_snoc]; exact h h' t' tk' hk'
    by_cases hd : d < p
    · rw [if_pos hd]
      unfold reSlice
      rw [if_pos (by decide)]
      have hsz : (x.cps.extract d p).size = p - d := by simp; omega
      refine wpAny_bind (wpAny_mkStr ?_ (hx := by show (x.cps.extract d p).size ≤ 16777216; omega))
      refine wpAny_bind (push_part hl (by omega) hk hnew fun h₁ hl₁ hk₁ => ?_)
      rw [if_pos (by decide)]
      refine wpAny_bind (wpAny_pure ?_)
      rw [if_pos (by simp)]
      refine rest _ _ _ _ hl₁ (strsAre_snoc hs _ _) hk₁ ?_ fun h' t' tk' hk' => ?_
      · simp only [List.map_append, List.sum_append, List.length_append, List.map_cons, List.map_nil, List.sum_cons, List.sum_nil, List.length_cons, List.length_nil]
        have : Str.length ⟨x.cps.extract d p⟩ = p - d := hsz
        omega
      · have := h h' t' tk' hk'
        rw [flat_snoc, toList_extract]
        simp only [List.append_assoc] at this ⊢
        exact this
    · rw [if_neg hd]
      rw [if_pos (by decide)]
      refine wpAny_bind (wpAny_pure ?_)
      rw [if_pos (by simp)]
      refine rest vs ys k s hl hs hk (by omega) fun h' t' tk' hk' => ?_
      have := h h' t' tk' hk'
      rw [show p - d = 0 by omega, List.take_zero, List.nil_append, ← List.append_assoc] at this
      exact this
end
end Rx
end
section
open PySem PySem.W PyProof.Rows PySem.Builtin.Re
namespace Rx
open PySem.Sre
theorem plainAttrs_pat : PlainAttrs "re.Pattern" :=
  ⟨⟨"object.__getattribute__", by rw [typeLookup_type, builtinLookup_eq_fast]; kernel_rfl, by decide +kernel⟩, by rw [typeLookup_type, builtinLookup_eq_fast]; kernel_rfl⟩
theorem slot_sub : Slot "re.Pattern" "sub" "re.Pattern.sub" :=
  .of (owner := "re.Pattern") (n := "sub") (by rw [typeLookup_type, builtinLookup_eq_fast]; kernel_rfl) (by decide +kernel) (by decide +kernel) (by decide +kernel)
    (by first | exact .inl (by decide +kernel) | exact .inr (by decide +kernel)) (by rw [isSubtype_type]; kernel_rfl)
theorem type_sub : typeOf (.builtin "re.Pattern.sub") = pure (.type "method_descriptor") := by show builtinType _ = _; rw [builtinType_eq_fast]; kernel_rfl
theorem entry_sub : entryFor table "re.Pattern.sub" = some Builtin.«re.Pattern.sub» := entryFor_of_tree (by kernel_rfl)
theorem args_sub (a b c : Value) : argsOk "re.Pattern.sub" ⟨[a, b, c], []⟩ := by
  unfold argsOk; kernel_rfl
theorem no_call_str : typeLookup (.type "str") "__call__" = pure none := by rw [typeLookup_type, builtinLookup_eq_fast]; kernel_rfl
theorem named_sub (a b : Value) : reNamed "re.Pattern.sub" "sub" ["repl", "string", "count"] 2 [a, b] [] = pure [some a, some b, none] := by
  rfl
theorem top_none (h : Heap) : h.get? h.objs.size = none := by
  cases e : h.get? h.objs.size with
  | none => rfl
  | some o => exact absurd (Heap.lt_size e) (Nat.lt_irrefl _)
section
variable {prog : Program} {w : World} {A : Around} {E : Value → Shared → Prop} {s : Shared} {P T : Addr} {code : Array Nat} {fs : Array Value} {o ot : Obj} {its : Array Value} {nn : Nat} {x rp : Str} {tx tr : Tok} {Q : Value → Shared → Prop}
theorem sub_method {pl : Sem Bool} {Q : Value × List Value → Shared → Prop} (Pt : PatAt s.heap P T code fs o ot its nn) (h : Q (.builtin "re.Pattern.sub", [.ref P]) s) : wpAny (model prog w) A (getMethod (.ref P) (Str.ofString "sub") pl) Q E s :=
  getMethod_builtin ⟨_, Pt.obj, Pt.cls⟩ plainAttrs_pat slot_sub type_sub (fun a e => by cases e; exact ⟨_, Pt.obj, Pt.nod⟩) h
theorem sub_call {out : List Nat} (D : Subs code x.cps rp.cps.toList 0 out) (hx : x.cps.size ≤ 100000) (hrp : rp.cps.size ≤ 2) (hb : rp.cps.contains 92 = false) (Pt : PatAt s.heap P T code fs o ot its nn)
    (h : ∀ t' h' tk', (∀ b o, s.heap.get? b = some o → h'.get? b = some o) → Q (.str ⟨out.toArray⟩ t') { s with heap := h', toks := tk' }) :
    wpAny (model prog w) A (call (.builtin "re.Pattern.sub") [.ref P, .str rp tr, .str x tx]) Q E s := by
  refine wpAny_call (codeAny_call_builtin slot_sub.plain entry_sub (slot_sub.check _ _ _ _ _ _ _ _ (⟨_, Pt.obj, Pt.cls⟩ : s.TypeIs (.ref P) "re.Pattern") (args_sub _ _ _) ?_))
  unfold Builtin.«re.Pattern.sub» reSubstitute
  dsimp only
  rw [named_sub]
  refine wpAny_bind (wpAny_pure ?_)
  dsimp only
  refine wpAny_bind (wpAny_pure ?_)
  refine wpAny_bind (wpAny_specialOf (typeIs_str _ _ _) no_call_str ?_)
  rw [if_neg (by simp)]
  refine wpAny_bind (wpAny_of_eq (a := some rp) rfl ?_)
  dsimp only
  refine wpAny_bind (wpAny_pure ?_)
  rw [if_neg (by simp), hb, if_pos (by rfl)]
  refine wpAny_bind (wpAny_pure ?_)
  dsimp only
  refine wpAny_bind (wpAny_holding (target Pt ?_))
  rw [if_neg (by decide)]
  refine wpAny_bind (wpAny_newList ?_)
  refine wpAny_pure ⟨plainId_quiet plain_loop _, ?_⟩
  refine subLoop (d := 0) (h₀ := s.heap) (la := s.heap.objs.size) D hx hrp Pt (top_none _) 0 [] [] 0 _ (Heap.get?_push_size _ rfl) .nil (fun b ob e => Heap.get?_push_of_some _ e) (by simp; omega) fun h' t' tk' hk => ?_
  exact h t' h' tk' hk
end

noncomputable def fixE : List Nat → List Nat
  | 13 :: 10 :: t => 13 :: 10 :: fixE t
  | 10 :: t => 13 :: 10 :: fixE t
  | 13 :: t => 13 :: 10 :: fixE t
  | c :: t => c :: fixE t
  | [] => []
theorem fixE_cr (t : List Nat) (h : t.head? ≠ some 10) : fixE (13 :: t) = 13 :: 10 :: fixE t := by
  match t, h with
  | [], _ => rfl
  | c :: t, h =>
    have hc : c ≠ 10 := fun e => h (by rw [e]; rfl)
    rw [fixE]
    intro t' e; cases e; exact hc rfl
theorem fixE_other (c : Nat) (t : List Nat) (h : isEol c = false) : fixE (c :: t) = c :: fixE t := by
  unfold isEol at h
  simp only [Bool.or_eq_false_iff, beq_eq_false_iff_ne] at h
  rw [fixE]
  · intro t' e; exact fun _ => h.2 e
  · intro e; exact h.1 e
  · intro e; exact h.2 e
theorem drop_cons {text : Array Nat} {i c : Nat} {t : List Nat} (e : text.toList.drop i = c :: t) : i < text.size ∧ text.getD i 0 = c ∧ text.toList.drop (i + 1) = t := by
  have h1 : i < text.toList.length := by
    rcases Nat.lt_or_ge i text.toList.length with h | h
    · exact h
    · rw [List.drop_eq_nil_of_le h] at e; cases e
  rw [List.drop_eq_getElem_cons h1] at e
  injection e with e1 e2
  refine ⟨by simpa using h1, ?_, e2⟩
  rw [← e1]
  simp only [Array.length_toList] at h1
  simp [Array.getD, h1]
theorem drop_nil {text : Array Nat} {i : Nat} (e : text.toList.drop i = []) : text.size ≤ i := by
  have := congrArg List.length e
  simp at this; omega
theorem take_more {text : Array Nat} {d i c : Nat} {t : List Nat} (hd : d ≤ i) (e : text.toList.drop i = c :: t) : (text.toList.drop d).take (i + 1 - d) = (text.toList.drop d).take (i - d) ++ [c] := by
  rw [show i + 1 - d = (i - d) + 1 by omega, List.take_add_one]
  congr 1
  rw [List.getElem?_drop, show d + (i - d) = i by omega]
  have : text.toList[i]? = (text.toList.drop i)[0]? := by rw [List.getElem?_drop]; rfl
  rw [this, e]; rfl
theorem subs_fix (text : Array Nat) : ∀ (n : Nat) (l : List Nat) (d i : Nat), l.length ≤ n → d ≤ i → text.toList.drop i = l → (∀ j, d ≤ j → j < i → isEol (text.getD j 0) = false) →
    Subs code2 text [13, 10] d ((text.toList.drop d).take (i - d) ++ fixE l) := by
  intro n
  induction n with
  | zero =>
    intro l d i hl hd e hno
    obtain rfl : l = [] := List.length_eq_zero_iff.mp (by omega)
    have hi := drop_nil e
    rw [show fixE [] = [] from rfl, List.append_nil, List.take_of_length_le (by simp; omega)]
    exact .stop d ((search2_miss fun j hj hj' => hno j hj (by omega)).mono (by omega) fun _ h => h)
  | succ n ih =>
    intro l d i hl hd e hno
    match l, hl, e with
    | [], hl, e => exact ih [] d i (by simp) hd e hno
    | c :: t, hl, e =>
      obtain ⟨h1, h2, h3⟩ := drop_cons e
      simp only [List.length_cons] at hl
      by_cases hc : isEol c = true
      · have hh := search2_hit (start := d) (text := text) hd h1 hno (by rw [h2]; exact hc)
        by_cases hcr : c = 13
        · subst hcr
          match t, hl, e, h3 with
          | 10 :: t', hl, e, h3 =>
            obtain ⟨h4, h5, h6⟩ := drop_cons h3
            rw [eolEnd, if_pos ⟨h2, h4, h5⟩] at hh
            simp only [List.length_cons] at hl
            have := ih t' (i + 2) (i + 2) (by omega) (Nat.le_refl _) h6 (fun j a b => absurd a (by omega))
            rw [show i + 2 - (i + 2) = 0 by omega, List.take_zero, List.nil_append] at this
            have := Subs.hit d i (i + 2) _ hd (by omega) (by omega) (hh.mono (by omega) fun _ h => h) this
            rw [show fixE (13 :: 10 :: t') = [13, 10] ++ fixE t' from rfl, ← List.append_assoc]
            exact this
          | [], hl, e, h3 =>
            have h4 := drop_nil h3
            rw [eolEnd, if_neg (by omega)] at hh
            have := ih [] (i + 1) (i + 1) (by simp) (Nat.le_refl _) h3 (fun j a b => absurd a (by omega))
            rw [show i + 1 - (i + 1) = 0 by omega, List.take_zero, List.nil_append] at this
            have := Subs.hit d i (i + 1) _ hd (by omega) (by omega) (hh.mono (by omega) fun _ h => h) this
            rw [show fixE [13] = [13, 10] ++ fixE [] from rfl, ← List.append_assoc]
            exact this
          | c' :: t', hl, e, h3 =>
            by_cases hc' : c' = 10
            · subst hc'
              obtain ⟨h4, h5, h6⟩ := drop_cons h3
              rw [eolEnd, if_pos ⟨h2, h4, h5⟩] at hh
              simp only [List.length_cons] at hl
              have := ih t' (i + 2) (i + 2) (by omega) (Nat.le_refl _) h6 (fun j a b => absurd a (by omega))
              rw [show i + 2 - (i + 2) = 0 by omega, List.take_zero, List.nil_append] at this
              have := Subs.hit d i (i + 2) _ hd (by omega) (by omega) (hh.mono (by omega) fun _ h => h) this
              rw [show fixE (13 :: 10 :: t') = [13, 10] ++ fixE t' from rfl, ← List.append_assoc]
              exact this
            · obtain ⟨h4, h5, h6⟩ := drop_cons h3
              rw [eolEnd, if_neg (fun h => hc' (h5.symm.trans h.2.2))] at hh
              have := ih (c' :: t') (i + 1) (i + 1) (by omega) (Nat.le_refl _) h3 (fun j a b => absurd a (by omega))
              rw [show i + 1 - (i + 1) = 0 by omega, List.take_zero, List.nil_append] at this
              have := Subs.hit d i (i + 1) _ hd (by omega) (by omega) (hh.mono (by omega) fun _ h => h) this
              rw [fixE_cr _ (by simpa using hc'), show (13 :: 10 :: fixE (c' :: t')) = [13, 10] ++ fixE (c' :: t') from rfl, ← List.append_assoc]
              exact this
        · have hlf : c = 10 := by unfold isEol at hc; simp at hc; exact hc.resolve_right hcr
          subst hlf
          rw [eolEnd, if_neg (fun h => hcr (h2.symm.trans h.1))] at hh
          have := ih t (i + 1) (i + 1) (by omega) (Nat.le_refl _) h3 (fun j a b => absurd a (by omega))
          rw [show i + 1 - (i + 1) = 0 by omega, List.take_zero, List.nil_append] at this
          have := Subs.hit d i (i + 1) _ hd (by omega) (by omega) (hh.mono (by omega) fun _ h => h) this
          rw [show fixE (10 :: t) = [13, 10] ++ fixE t from by rw [fixE]; rfl, ← List.append_assoc]
          exact this
      · have hc' : isEol c = false := by simpa using hc
        have := ih t d (i + 1) (by omega) (by omega) h3 (fun j a b => by
          by_cases hj : j = i
          · rw [hj, h2]; exact hc'
          · exact hno j a (by omega))
        rw [take_more hd e, List.append_assoc] at this
        rw [fixE_other c t hc']
        exact this

/-- one more dot ahead of a row that begins with one; b: a row begins here -/
noncomputable def quoteD : Bool → List Nat → List Nat
  | _, [] => []
  | b, c :: t => if b && c == 46 then 46 :: 46 :: quoteD false t else c :: quoteD (c == 10) t
noncomputable def bol (text : Array Nat) (i : Nat) : Bool := i == 0 || text.getD (i - 1) 0 == 10
theorem bol_succ {text : Array Nat} {i c : Nat} (h : text.getD i 0 = c) : bol text (i + 1) = (c == 10) := by
  unfold bol; rw [Nat.add_sub_cancel, h]; simp
theorem subs_quote (text : Array Nat) : ∀ (n : Nat) (l : List Nat) (d i : Nat), l.length ≤ n → d ≤ i → text.toList.drop i = l → (∀ j, d ≤ j → j < i → isDot text j = false) →
    Subs code1 text [46, 46] d ((text.toList.drop d).take (i - d) ++ quoteD (bol text i) l) := by
  intro n
  induction n with
  | zero =>
    intro l d i hl hd e hno
    obtain rfl : l = [] := List.length_eq_zero_iff.mp (by omega)
    have hi := drop_nil e
    rw [show quoteD (bol text i) [] = [] from rfl, List.append_nil, List.take_of_length_le (by simp; omega)]
    exact .stop d ((search1_miss fun j hj hj' => hno j hj (by omega)).mono (by omega) fun _ h => h)
  | succ n ih =>
    intro l d i hl hd e hno
    match l, hl, e with
    | [], hl, e => exact ih [] d i (by simp) hd e hno
    | c :: t, hl, e =>
      obtain ⟨h1, h2, h3⟩ := drop_cons e
      simp only [List.length_cons] at hl
      by_cases hc : (bol text i && c == 46) = true
      · have hdot : isDot text i = true := by unfold isDot; rw [h2]; exact hc
        have hh := search1_hit (start := d) (text := text) hd h1 hno hdot
        have := ih t (i + 1) (i + 1) (by omega) (Nat.le_refl _) h3 (fun j a b => absurd a (by omega))
        rw [show i + 1 - (i + 1) = 0 by omega, List.take_zero, List.nil_append, bol_succ h2] at this
        have := Subs.hit d i (i + 1) _ hd (by omega) (by omega) (hh.mono (by omega) fun _ h => h) this
        rw [Bool.and_eq_true] at hc
        have hcc : c = 46 := eq_of_beq hc.2
        rw [quoteD, if_pos (by rw [Bool.and_eq_true]; exact hc)]
        rw [hcc, show ((46 : Nat) == 10) = false from rfl] at this
        rw [show (46 :: 46 :: quoteD false t) = [46, 46] ++ quoteD false t from rfl, ← List.append_assoc]
        exact this
      · have hnd : isDot text i = false := by unfold isDot; rw [h2]; simpa [bol] using hc
        have := ih t d (i + 1) (by omega) (by omega) h3 (fun j a b => by
          by_cases hj : j = i
          · rw [hj]; exact hnd
          · exact hno j a (by omega))
        rw [take_more hd e, List.append_assoc, bol_succ h2] at this
        rw [quoteD, if_neg hc]
        exact this
theorem subs_fix0 (text : Array Nat) : Subs code2 text [13, 10] 0 (fixE text.toList) := by
  have := subs_fix text text.toList.length text.toList 0 0 (Nat.le_refl _) (Nat.le_refl _) rfl (fun j a b => absurd b (by omega))
  simpa using this
theorem subs_quote0 (text : Array Nat) : Subs code1 text [46, 46] 0 (quoteD true text.toList) := by
  have := subs_quote text text.toList.length text.toList 0 0 (Nat.le_refl _) (Nat.le_refl _) rfl (fun j a b => absurd b (by omega))
  simpa [bol] using this
end Rx
end
section
open PySem PySem.W PyProof.Rows
example : True := by
  k_with_none
  k_with "getAttr ref" => (k_dflt (refine' get_own (by assumption) (by assumption) (by exact (WsAt.keeps (by assumption) (Fr.keep (by assumption))).at) (by k_is) (by k_is) (by k_is) (by k_is) (by first | exact WsAt.norm (by assumption) | exact WsAt.n (by assumption) | exact WsAt.nt (by assumption) | exact WsAt.simple (by assumption)) (by rfl) ?_))
  k_with "exec For Name Call cons nil" => k_dflt (refine wpAny_For ?_)
  k_with "exec For Name Name cons nil" => k_dflt (refine wpAny_For ?_)
  k_with "exec For Name Attribute cons nil" => k_dflt (refine wpAny_For ?_)
  k_with "eval Name" => (k_dflt (refine' PyProof.Rows.ld (by assumption) (by first | exact rfl | assumption) ?_))
  k_with "execs cons Assign cons" => (k_dflt (refine wpAny_execs_cons ?_))
  k_with "execs cons Assign nil" => (k_dflt (refine wpAny_execs_cons ?_))
  k_with "eval ListComp" => (k_dflt (refine LCg.ListComp_U (F₀ := by assumption) (by with_unfolding_all rfl) (by decide) (by rfl) (by decide) (by rfl) ?_))
  k_with "CompSrc" => refine Stop.out ?_
  k_with "binaryOp Add str str" => (k_dflt (refine PyProof.Rows.add_str (hsz := (by first | decide | (simp only [slen_append, slen_lit]; omega) | (simp only [slen_append]; omega))) ?_); intro _ _)
  k_with "eval Name" => ((with_reducible show wpAny _ _ (eval (Expr.Name _ _) (compEnvC _ _ _ _)) _ _ _); k_dflt (first | refine comp_global (by assumption) (by assumption) (by assumption) (by k_is) ?_ | refine comp_built (by assumption) (by assumption) (by assumption) (by k_is) (by boot_by_name) (by decide) ?_))
  trivial
open Rx
theorem pat2 {w : World} {h : Heap} (X : (hd.heap_39 w.params).In h) : ∃ fs o ot its n, PatAt h 114 113 code2 fs o ot its n :=
  ⟨_, _, _, _, _, ⟨X _ _ (by with_unfolding_all rfl), rfl, rfl, rfl, X _ _ (by with_unfolding_all rfl), rfl, rfl, rfl, rfl, by simp [Builtin.Re.reRawOf]; rfl⟩⟩
theorem pat1 {w : World} {h : Heap} (X : (hd.heap_39 w.params).In h) : ∃ fs o ot its n, PatAt h 109 108 code1 fs o ot its n :=
  ⟨_, _, _, _, _, ⟨X _ _ (by with_unfolding_all rfl), rfl, rfl, rfl, X _ _ (by with_unfolding_all rfl), rfl, rfl, rfl, rfl, by simp [Builtin.Re.reRawOf]; rfl⟩⟩
noncomputable def fixS (x : Str) : Str := ⟨(fixE x.cps.toList).toArray⟩
noncomputable def quoteS (x : Str) : Str := ⟨(quoteD true x.cps.toList).toArray⟩
theorem crlf_cps : (Str.ofString "\r\n").cps.toList = [13, 10] ∧ (Str.ofString "\r\n").cps.size ≤ 2 ∧ (Str.ofString "\r\n").cps.contains 92 = false ∧ (Str.ofString "..").cps.toList = [46, 46] ∧ (Str.ofString "..").cps.size ≤ 2 ∧ (Str.ofString "..").cps.contains 92 = false := by decide +kernel
section
variable {w : World} {A : Around} {E : Value → Shared → Prop} {s : Shared} {h₀ : Heap} {L : Addr} {m : Str → Option Value} {news : List (Addr × Obj)} {x : Str} {tx tr : Tok} {Q : Value → Shared → Prop}
theorem meth2 {pl : Sem Bool} {Q : Value × List Value → Shared → Prop} (F : Fr h₀ L s.heap m) (X : (hd.heap_39 w.params).In h₀) (h : Q (.builtin "re.Pattern.sub", [.ref 114]) s) :
    wpAny (model PySem.Challenge.rw_pe0145_01.row.prog w) A (getMethod (.ref 114) (Str.ofString "sub") pl) Q E s :=
  let ⟨_, _, _, _, _, Pt⟩ := pat2 X; sub_method (Pt.keeps F.keep) h
theorem meth1 {pl : Sem Bool} {Q : Value × List Value → Shared → Prop} (F : Fr h₀ L s.heap m) (X : (hd.heap_39 w.params).In h₀) (h : Q (.builtin "re.Pattern.sub", [.ref 109]) s) :
    wpAny (model PySem.Challenge.rw_pe0145_01.row.prog w) A (getMethod (.ref 109) (Str.ofString "sub") pl) Q E s :=
  let ⟨_, _, _, _, _, Pt⟩ := pat1 X; sub_method (Pt.keeps F.keep) h
theorem call2 (F : Fr h₀ L s.heap m) (N : News h₀ L s.heap news) (X : (hd.heap_39 w.params).In h₀) (hx : x.cps.size ≤ 100000)
    (h : ∀ t' h' tk', Fr h₀ L h' m → News h₀ L h' news → Q (.str (fixS x) t') { s with heap := h', toks := tk' }) :
    wpAny (model PySem.Challenge.rw_pe0145_01.row.prog w) A (call (.builtin "re.Pattern.sub") [.ref 114, .str (Str.ofString "\r\n") tr, .str x tx]) Q E s :=
  let ⟨_, _, _, _, _, Pt⟩ := pat2 X
  sub_call (out := fixE x.cps.toList) (by rw [crlf_cps.1]; exact subs_fix0 _) hx crlf_cps.2.1 crlf_cps.2.2.1 (Pt.keeps F.keep) fun t' h' tk' hk => h t' h' tk' (F.grownK hk) (N.grown hk)
theorem call1 (F : Fr h₀ L s.heap m) (N : News h₀ L s.heap news) (X : (hd.heap_39 w.params).In h₀) (hx : x.cps.size ≤ 100000)
    (h : ∀ t' h' tk', Fr h₀ L h' m → News h₀ L h' news → Q (.str (quoteS x) t') { s with heap := h', toks := tk' }) :
    wpAny (model PySem.Challenge.rw_pe0145_01.row.prog w) A (call (.builtin "re.Pattern.sub") [.ref 109, .str (Str.ofString "..") tr, .str x tx]) Q E s :=
  let ⟨_, _, _, _, _, Pt⟩ := pat1 X
  sub_call (out := quoteD true x.cps.toList) (by rw [crlf_cps.2.2.2.1]; exact subs_quote0 _) hx crlf_cps.2.2.2.2.1 crlf_cps.2.2.2.2.2 (Pt.keeps F.keep) fun t' h' tk' hk => h t' h' tk' (F.grownK hk) (N.grown hk)
end
example : True := by
  k_with "getMethod ref" => (k_dflt (first | refine meth2 (by assumption) (by assumption) ?_ | refine meth1 (by assumption) (by assumption) ?_))
  k_with "call builtin:re.Pattern.sub" => (k_dflt (first | refine call2 (by assumption) (by assumption) (by assumption) (by omega) ?_ | refine call1 (by assumption) (by assumption) (by assumption) (by omega) ?_); intro _ _ _ _ _; (try k_sweep))
  trivial
theorem fix_len : ∀ l : List Nat, (fixE l).length ≤ 2 * l.length
  | [] => by simp [fixE]
  | [c] => by
    by_cases h : isEol c = true
    · unfold isEol at h; simp at h; rcases h with rfl | rfl <;> decide
    · rw [fixE_other c [] (by simpa using h)]; simp [fixE]
  | c :: d :: t => by
    have ih1 := fix_len t
    have ih2 := fix_len (d :: t)
    simp only [List.length_cons] at ih2 ⊢
    by_cases h : isEol c = true
    · unfold isEol at h; simp at h; rcases h with rfl | rfl
      · rw [show fixE (10 :: d :: t) = 13 :: 10 :: fixE (d :: t) from by rw [fixE]]; simp only [List.length_cons]; omega
      · by_cases hd : d = 10
        · subst hd; rw [fixE]; simp only [List.length_cons]; omega
        · rw [fixE_cr _ (by simpa using hd)]; simp only [List.length_cons]; omega
    · rw [fixE_other c _ (by simpa using h)]; simp only [List.length_cons]; omega
theorem fix_spec {w : World} {dp un : Nat} {fr : Option (List Env)} {gd : Option (List Code)} {E : Value → Shared → Prop} {s : Shared} {mg mb : Str → Option Value} {Q : Value → Shared → Prop} {x : Str} {tx : Tok}
    (X : (hd.heap_39 w.params).In s.heap) (T : TopRead hd.view_39 LO mg mb s.heap) (hA : dp < 500) (hx : x.cps.size ≤ 10000)
    (h : ∀ t' h' tk', (∀ b o, s.heap.get? b = some o → h'.get? b = some o) → Q (.str (fixS x) t') { s with heap := h', toks := tk' }) :
    wpAny (model PySem.Challenge.rw_pe0145_01.row.prog w) ⟨none, dp, fr, gd, un⟩ (call (.ref 128) [.str x tx]) Q E s := by
  refine callFn X T (by show dp < 1000; omega) (by with_unfolding_all rfl) (by with_unfolding_all rfl) (by exact BindsTo.of_eq rfl) (by exact locs rfl) (by decide) rfl rfl rfl fun L h₁ F N => ?_
  dsimp only
  show wpAny _ _ _ _ _ _
  k_fold
  k_steps
  exact h _ _ _ (Fr.keep (by assumption))
theorem quote_spec {w : World} {dp un : Nat} {fr : Option (List Env)} {gd : Option (List Code)} {E : Value → Shared → Prop} {s : Shared} {mg mb : Str → Option Value} {Q : Value → Shared → Prop} {x : Str} {tx : Tok}
    (X : (hd.heap_39 w.params).In s.heap) (T : TopRead hd.view_39 LO mg mb s.heap) (hA : dp < 500) (hx : x.cps.size ≤ 10000)
    (h : ∀ t' h' tk', (∀ b o, s.heap.get? b = some o → h'.get? b = some o) → Q (.str (quoteS (fixS x)) t') { s with heap := h', toks := tk' }) :
    wpAny (model PySem.Challenge.rw_pe0145_01.row.prog w) ⟨none, dp, fr, gd, un⟩ (call (.ref 121) [.str x tx]) Q E s := by
  have hx2 : (fixS x).cps.size ≤ 20000 := by
    have := fix_len x.cps.toList
    show (fixE x.cps.toList).toArray.size ≤ _
    rw [List.size_toArray]; simp only [Array.length_toList] at this; omega
  refine callFn X T (by show dp < 1000; omega) (by with_unfolding_all rfl) (by with_unfolding_all rfl) (by exact BindsTo.of_eq rfl) (by exact locs rfl) (by decide) rfl rfl rfl fun L h₁ F N => ?_
  dsimp only
  show wpAny _ _ _ _ _ _
  k_fold
  k_steps
  exact h _ _ _ (Fr.keep (by assumption))
end
section
open PySem PySem.W PyProof.Rows
noncomputable def stNo : Stmt := .Pass ⟨0, 0, 0, 0⟩
noncomputable def stBody : Stmt → List Stmt
  | .FunctionDef _ _ b _ _ _ _ _ _ _ => b
  | .For _ _ b _ _ => b
  | _ => []
noncomputable def stScope : Stmt → Scope
  | .FunctionDef _ _ _ _ _ _ s _ _ _ => s
  | _ => ⟨.function, [], false, false, []⟩
noncomputable def stIsFor : Stmt → Bool
  | .For .. => true
  | _ => false
noncomputable def stHead : List Stmt → Stmt
  | a :: _ => a
  | [] => stNo
noncomputable def stLast : List Stmt → Stmt
  | [] => stNo
  | [a] => a
  | _ :: b :: r => stLast (b :: r)
noncomputable def stFrom : List Stmt → List Stmt
  | [] => []
  | a :: r => match stIsFor a with
    | true => a :: r
    | false => stFrom r
/-- a thing, told by what it comes to -/
noncomputable def pick {α : Type} (p x : α) (_ : p = x) : α := x
noncomputable def lawStmt : Stmt := stLast hd.view_39.main.body
noncomputable def lawScope : Scope := by
  apply pick (stScope lawStmt)
  conv => lhs; whnf
noncomputable def lawBody : List Stmt := by
  apply pick (stBody lawStmt)
  conv => lhs; whnf
noncomputable def lawB : List Stmt := by
  apply pick ((stBody lawStmt).drop 9)
  conv => lhs; whnf
noncomputable def lawP : List Stmt := by
  apply pick ((stBody lawStmt).drop 13)
  conv => lhs; whnf
noncomputable def sentBody : List Stmt := by
  apply pick (stBody (stHead ((stBody lawStmt).drop 12)))
  conv => lhs; whnf
noncomputable def sentMid : List Stmt := by
  apply pick ((stBody (stHead ((stBody lawStmt).drop 12))).drop 1)
  conv => lhs; whnf
noncomputable def sentTail : List Stmt := by
  apply pick ((stBody (stHead ((stBody lawStmt).drop 12))).drop 3)
  conv => lhs; whnf
noncomputable def laterBody : List Stmt := by
  apply pick (stBody (stHead ((stBody lawStmt).drop 13)))
  conv => lhs; whnf
noncomputable def soonerBody : List Stmt := by
  apply pick (stBody (stHead (stBody (stHead ((stBody lawStmt).drop 13)))))
  conv => lhs; whnf
noncomputable def sizeBody : List Stmt := by
  apply pick (stBody (stHead (stFrom (stBody (stHead (stBody (stHead ((stBody lawStmt).drop 13))))))))
  conv => lhs; whnf
noncomputable def pairTail : List Stmt := by
  apply pick ((stFrom (stBody (stHead (stBody (stHead ((stBody lawStmt).drop 13)))))).drop 1)
  conv => lhs; whnf
end
section
open PySem PySem.W PyProof.Rows
open Rx
section
variable {M : Model} {A : Around} {E : Value → Shared → Prop} {s : Shared} {h₀ : Heap} {L C c : Addr} {scope : Scope} {cl : List (Str × Addr)} {env : Env} {x : Str} {pos : Pos} {v : Value} {Q : Value → Shared → Prop} {news : List (Addr × Obj)} {o : Obj}
/-- a captured name, read within a comprehension -/
theorem comp_free (N : News h₀ L s.heap news) (hc : cl.lookup x = some c) (hm : (c, o) ∈ news) (hd : o.data = .cell (some v)) (h : Q v s)
    (hk : (compEnvC scope cl C env).scope.kind = .function := by rfl) (hx : (compEnvC scope cl C env).kindOf x = some .free := by rfl) (hb : (x == ("__debug__" : Str)) = false := by decide) (hn : (x == ("__classdict__" : Str)) = false := by decide) :
    wpAny M A (eval (.Name x pos) (compEnvC scope cl C env)) Q E s := wpAny_Name (wpAny_loadName_free hk hx hc ⟨o, N.get hm, hd⟩ h hn) hb
end
theorem ld_cell {M : Model} {A : Around} {E : Value → Shared → Prop} {s : Shared} {h₀ : Heap} {L L' fa c : Addr} {nm : Str} {scope : Scope} {cd : Value} {x : Str} {pos : Pos} {v : Value} {Q : Value → Shared → Prop} {news : List (Addr × Obj)} {o : Obj}
    (N : News h₀ L' s.heap news) (hx : (envOfC nm scope L fa cd).kindOf x = some .cell) (hc : (envOfC nm scope L fa cd).cells.lookup x = some c) (hm : (c, o) ∈ news) (hd : o.data = .cell (some v)) (h : Q v s)
    (hk : (envOfC nm scope L fa cd).scope.kind = .function := by rfl) (hb : (x == ("__debug__" : Str)) = false := by decide) :
    wpAny M A (eval (.Name x pos) (envOfC nm scope L fa cd)) Q E s := wpAny_Name (wpAny_loadName_cell hk hx hc ⟨o, N.get hm, hd⟩ h) hb
theorem comp_cell {M : Model} {A : Around} {E : Value → Shared → Prop} {s : Shared} {h₀ : Heap} {L C c : Addr} {scope : Scope} {cl : List (Str × Addr)} {env : Env} {x : Str} {pos : Pos} {v : Value} {Q : Value → Shared → Prop} {news : List (Addr × Obj)} {o : Obj}
    (N : News h₀ L s.heap news) (hx : (compEnvC scope cl C env).kindOf x = some .cell) (hc : cl.lookup x = some c) (hm : (c, o) ∈ news) (hd : o.data = .cell (some v)) (h : Q v s)
    (hk : (compEnvC scope cl C env).scope.kind = .function := by rfl) (hb : (x == ("__debug__" : Str)) = false := by decide) :
    wpAny M A (eval (.Name x pos) (compEnvC scope cl C env)) Q E s := wpAny_Name (wpAny_loadName_cell hk hx hc ⟨o, N.get hm, hd⟩ h) hb
section
variable {w : World} {dp un : Nat} {fr : Option (List Env)} {gd : Option (List Code)} {E : Value → Shared → Prop} {s : Shared} {h₀ : Heap} {L : Addr} {m mg mb : Str → Option Value} {news : List (Addr × Obj)} {x y : Str} {tx ty : Tok} {sz : Int} {tsz : Tok} {Q : Value → Shared → Prop}
theorem fix_call (F : Fr h₀ L s.heap m) (N : News h₀ L s.heap news) (X : (hd.heap_39 w.params).In h₀) (T : TopRead hd.view_39 LO mg mb h₀) (hA : dp < 500) (hx : x.cps.size ≤ 10000)
    (h : ∀ t' h' tk', Fr h₀ L h' m → News h₀ L h' news → Q (.str (fixS x) t') { s with heap := h', toks := tk' }) :
    wpAny (model PySem.Challenge.rw_pe0145_01.row.prog w) ⟨none, dp, fr, gd, un⟩ (call (.ref 128) [.str x tx]) Q E s :=
  fix_spec (X.keeps F.keep) (T.keeps F.keep) hA hx fun t h' tk' hk => h t h' tk' (F.grownK hk) (N.grown hk)
theorem quote_call (F : Fr h₀ L s.heap m) (N : News h₀ L s.heap news) (X : (hd.heap_39 w.params).In h₀) (T : TopRead hd.view_39 LO mg mb h₀) (hA : dp < 500) (hx : x.cps.size ≤ 10000)
    (h : ∀ t' h' tk', Fr h₀ L h' m → News h₀ L h' news → Q (.str (quoteS (fixS x)) t') { s with heap := h', toks := tk' }) :
    wpAny (model PySem.Challenge.rw_pe0145_01.row.prog w) ⟨none, dp, fr, gd, un⟩ (call (.ref 121) [.str x tx]) Q E s :=
  quote_spec (X.keeps F.keep) (T.keeps F.keep) hA hx fun t h' tk' hk => h t h' tk' (F.grownK hk) (N.grown hk)
theorem col_call (F : Fr h₀ L s.heap m) (N : News h₀ L s.heap news) (X : (hd.heap_39 w.params).In h₀) (T : TopRead hd.view_39 LO mg mb h₀) (hA : dp < 500) (hsz : 1 ≤ sz)
    (h : ∀ t h' tk', (∀ b o, s.heap.get? b = some o → h'.get? b = some o) → Fr h₀ L h' m → News h₀ L h' news → Q (.int (colOf sz y.cps.toList) t) { s with heap := h', toks := tk' }) :
    wpAny (model PySem.Challenge.rw_pe0145_01.row.prog w) ⟨none, dp, fr, gd, un⟩ (call (.ref 135) [.str y ty, .int sz tsz]) Q E s :=
  col_spec (X.keeps F.keep) (T.keeps F.keep) hA hsz fun t h' tk' hk => h t h' tk' hk (F.grownK hk) (N.grown hk)
end
end
section
open PySem PySem.W PyProof.Rows
open Rx
noncomputable def toldS (bare : Int) (still : Str) (dots : Int) (rest : Str) (i : Int) : Str :=
  Txt.mul (Str.ofString ".") (bare + i) ++ Str.ofString "a\r\n" ++ still ++ Str.ofString "b\r\n" ++ Txt.mul (Str.ofString ".") (dots + i) ++ rest ++ Str.ofString "c\r\n"
structure Ld where
  a : Ws
  b : Ws
  c : Ws
noncomputable def Lead (l : List (Addr × Obj)) (v : Value) (d : Ld) : Prop := ∃ la a b c n, v = .ref la ∧ (la, W.listOf #[.ref a, .ref b, .ref c] n) ∈ l ∧ WsIn l a d.a ∧ WsIn l b d.b ∧ WsIn l c d.c
theorem Lead.mono {l l' : List (Addr × Obj)} {v : Value} {d : Ld} (H : Lead l v d) (hs : ∀ p ∈ l, p ∈ l') : Lead l' v d :=
  let ⟨la, a, b, c, n, e, h1, h2, h3, h4⟩ := H; ⟨la, a, b, c, n, e, hs _ h1, h2.mono hs, h3.mono hs, h4.mono hs⟩
noncomputable def blank (r : Str) : List Nat := (Txt.replace r (Str.ofString ".") (Str.ofString " ")).cps.toList
/-- what the page's part gives: the parts of which the later loops know -/
structure LawPre (page still rest : Str) (bare dots : Int) (ld : Nat → Ld) : Prop where
  pg : page.cps.size ≤ 10000
  rs : rest.length ≤ 100
  st : still.length ≤ 100
  len : ∀ i : Int, 0 ≤ i → i ≤ 3 → (toldS bare still dots rest i).cps.size ≤ 10000
  b : 1 ≤ bare ∧ bare ≤ 3
  d : 1 ≤ dots ∧ dots ≤ 5
  fix : fixS page = toldS bare still dots rest 0
  one : quoteS (fixS page) = toldS bare still dots rest 1
  two : quoteS (fixS (toldS bare still dots rest 1)) = toldS bare still dots rest 2
  rows : ∀ i : Nat, i < 3 → ∃ r0 r1 r2 r3, Txt.split (toldS bare still dots rest (i : Int)) (Str.ofString "\r\n") = [r0, r1, r2, r3] ∧ wsOf (blank r0) = (ld i).a ∧ wsOf (blank r1) = (ld i).b ∧ wsOf (blank r2) = (ld i).c
noncomputable def pageAt (page still rest : Str) (bare dots : Int) (i : Nat) : Str := if i ≤ 1 then page else toldS bare still dots rest ((i : Int) - 1)
noncomputable def behindOf (rest : Str) : List Int := (List.range 8).map fun (k : Nat) => (1 + (k : Int)) + colOf (1 + (k : Int)) (Txt.slice rest (some 1) none).cps.toList
/-- none of the addresses that the law's body keeps -/
noncomputable def OffC (L Db : Addr) (l : List (Addr × Obj)) : Prop := ∀ p ∈ l, p.1 ≠ Db ∧ p.1 ≠ 99 ∧ p.1 ≠ L + 1 + 1 + 1 + 1 + 1 ∧ p.1 ≠ L + 1 + 1 + 1 + 1 ∧ p.1 ≠ L + 1 + 1 + 1 ∧ p.1 ≠ L + 1 + 1 ∧ p.1 ≠ L + 1
/-- what stands between the turns of the loop over the sendings -/
structure SentJ (L : Addr) (page still rest : Str) (bare dots : Int) (ld : Nat → Ld) (Dl Db : Addr) (bs : List Value) (o1 o2 o3 o4 o5 : Obj) (ps : Array Value) (g₀ : Array GenState) (i : Nat) (m : Str → Option Value) (news : List (Addr × Obj)) (g : Array GenState) : Prop where
  page : ∃ t, m (Str.ofString "page") = some (.str (pageAt page still rest bare dots i) t)
  mail : i = 0 → ∃ t, m (Str.ofString "mail") = some (.str (toldS bare still dots rest 0) t)
  still : ∃ t, m (Str.ofString "still") = some (.str still t)
  dots : ∃ t, m (Str.ofString "dots") = some (.int dots t)
  behind : m (Str.ofString "behind") = some (.ref Db)
  leads : m (Str.ofString "leads") = some (.ref Dl)
  news : ∃ (vs : List Value) (n : Nat) (old : List (Addr × Obj)), news = (Dl, W.listOf vs.toArray n) :: (Db, LCg.lst bs) :: (L + 1 + 1 + 1 + 1 + 1, o1) :: (L + 1 + 1 + 1 + 1, o2) :: (L + 1 + 1 + 1, o3) :: (L + 1 + 1, o4) :: (L + 1, o5) :: (99, tabObj ps) :: old ∧
    vs.length = i ∧ (∀ j v, vs[j]? = some v → Lead old v (ld j)) ∧ (∀ p ∈ old, p.1 ≠ Dl) ∧ OffC L Db old ∧ Dl ≠ Db ∧ Dl ≠ L + 1 + 1 + 1 + 1 + 1 ∧ Dl ≠ L + 1 + 1 + 1 + 1 ∧ Dl ≠ L + 1 + 1 + 1 ∧ Dl ≠ L + 1 + 1 ∧ Dl ≠ L + 1 ∧ Dl ≠ 99
  gens : g = g₀
end
section
open PySem PySem.W PyProof.Rows
/-! plain maths: the columns of a lead -/
noncomputable def sumTo (f : Nat → Int) : Nat → Int
  | 0 => 0
  | n + 1 => sumTo f n + f n
theorem sumTo_congr {f g : Nat → Int} : ∀ n, (∀ i, i < n → f i = g i) → sumTo f n = sumTo g n
  | 0, _ => rfl
  | n + 1, h => by rw [sumTo, sumTo, sumTo_congr n fun i hi => h i (by omega), h n (by omega)]
theorem sumTo_zero {f : Nat → Int} : ∀ n, (∀ i, i < n → f i = 0) → sumTo f n = 0
  | 0, _ => rfl
  | n + 1, h => by rw [sumTo, sumTo_zero n fun i hi => h i (by omega), h n (by omega)]; rfl
theorem sumTo_ext {f : Nat → Int} {n : Nat} : ∀ k, (∀ i, n ≤ i → f i = 0) → sumTo f (n + k) = sumTo f n
  | 0, _ => rfl
  | k + 1, h => by rw [← Nat.add_assoc, sumTo, sumTo_ext k h, h _ (by omega)]; omega
theorem sumTo_ind (f : Nat → Int) (g : Nat → Int) (b : Nat) : ∀ n, sumTo (fun i => f i * (g i + if i = b then 1 else 0)) n = sumTo (fun i => f i * g i) n + if b < n then f b else 0
  | 0 => rfl
  | n + 1 => by
    rw [sumTo, sumTo, sumTo_ind f g b n]
    by_cases h : n = b
    · subst h
      rw [if_pos rfl, if_neg (Nat.lt_irrefl _), if_pos (Nat.lt_succ_self _), Int.mul_add, Int.mul_one]; omega
    · rw [if_neg h, Int.add_zero]
      by_cases h2 : b < n
      · rw [if_pos h2, if_pos (by omega)]; omega
      · rw [if_neg h2, if_neg (by omega)]; omega
noncomputable def wt (T : Nat) (cnt : List Int) (i : Nat) : Int := ((i / T : Nat) : Int) * cnt.getD i 0
theorem ilAt_sum (cnt : List Int) (T : Nat) (hT : 1 ≤ T) : ∀ n, ilAt cnt (T : Int) n = sumTo (wt T cnt) (T + n)
  | 0 => by
    rw [show ilAt cnt (T : Int) 0 = 0 from rfl]
    refine (sumTo_zero _ fun i hi => ?_).symm
    unfold wt
    rw [Nat.div_eq_of_lt (by omega)]; simp
  | n + 1 => by
    rw [ilAt_succ, ilAt_sum cnt T hT n, ← Nat.add_assoc, sumTo]
    congr 1
    unfold wt
    have e : ((T : Int) + (n : Int)) = ((T + n : Nat) : Int) := by simp
    rw [e, Int.fdiv_eq_ediv_of_nonneg _ (by omega), Int.toNat_natCast]
    rfl
theorem wt_out {T : Nat} {cnt : List Int} {i : Nat} (h : cnt.length ≤ i) : wt T cnt i = 0 := by
  unfold wt
  rw [List.getD_eq_getElem?_getD, List.getElem?_eq_none h]; simp
theorem ilAt_all (cnt : List Int) (T : Nat) (hT : 1 ≤ T) : ilAt cnt (T : Int) ((cnt.length : Int) - (T : Int)).toNat = sumTo (wt T cnt) cnt.length := by
  rw [ilAt_sum cnt T hT]
  rcases Nat.le_total T cnt.length with h | h
  · congr 1; omega
  · have e : ((cnt.length : Int) - (T : Int)).toNat = 0 := by omega
    rw [e, Nat.add_zero]
    obtain ⟨k, rfl⟩ := Nat.exists_eq_add_of_le h
    exact sumTo_ext k fun i hi => wt_out hi
theorem bump_get (cnt : List Int) (b i : Nat) : (bump cnt b).getD i 0 = cnt.getD i 0 + if i = b then 1 else 0 := by
  unfold bump
  dsimp only
  have key : ∀ c : List Int, b < c.length → (∀ j, c.getD j 0 = cnt.getD j 0) → (c.set b (c.getD b 0 + 1)).getD i 0 = cnt.getD i 0 + if i = b then 1 else 0 := by
    intro c hc hg
    by_cases h : i = b
    · subst h
      rw [if_pos rfl, List.getD_eq_getElem?_getD, List.getElem?_set_self hc]
      simp only [Option.getD_some, hg]
    · rw [if_neg h, List.getD_eq_getElem?_getD, List.getElem?_set_ne (Ne.symm h), ← List.getD_eq_getElem?_getD, hg]; omega
  split
  · rename_i h
    refine key _ (by simp; omega) fun j => ?_
    rw [List.getD_eq_getElem?_getD, List.getD_eq_getElem?_getD]
    by_cases hj : j < cnt.length
    · rw [List.getElem?_append_left hj]
    · rw [List.getElem?_append_right (by omega), List.getElem?_eq_none (l := cnt) (by omega), List.getElem?_replicate]
      split <;> rfl
  · exact key _ (by omega) fun j => rfl
theorem bump_len (cnt : List Int) (b : Nat) : (bump cnt b).length = max cnt.length (b + 1) := by
  unfold bump
  dsimp only
  rw [List.length_set]
  split
  · rw [List.length_append, List.length_replicate]; omega
  · omega
theorem sum_bump (T : Nat) (cnt : List Int) (b : Nat) : sumTo (wt T (bump cnt b)) (bump cnt b).length = sumTo (wt T cnt) cnt.length + ((b / T : Nat) : Int) := by
  have e1 : sumTo (wt T (bump cnt b)) (bump cnt b).length = sumTo (fun i => ((i / T : Nat) : Int) * (cnt.getD i 0 + if i = b then 1 else 0)) (bump cnt b).length := sumTo_congr _ fun i _ => by unfold wt; rw [bump_get]
  rw [e1, sumTo_ind, if_pos (by rw [bump_len]; omega)]
  congr 1
  rw [bump_len]
  have : max cnt.length (b + 1) = cnt.length + (max cnt.length (b + 1) - cnt.length) := by omega
  rw [this]
  exact sumTo_ext (f := wt T cnt) _ fun i hi => wt_out hi
noncomputable def lv (T : Nat) (st : WsSt) : Int := (st.b : Int) + (T : Int) * (sumTo (wt T st.cnt) st.cnt.length + (st.nt : Int))
theorem fmod_step (T b : Nat) (K : Int) (hT : 1 ≤ T) : ((b : Int) + (T : Int) * K) - ((b : Int) + (T : Int) * K).fmod (T : Int) = (T : Int) * (K + ((b / T : Nat) : Int)) := by
  rw [Int.fmod_eq_emod_of_nonneg _ (by omega), Int.add_mul_emod_self_left, Int.mul_add]
  have h := Nat.div_add_mod b T
  have h' : (T : Int) * ((b / T : Nat) : Int) + ((b % T : Nat) : Int) = (b : Int) := by exact_mod_cast h
  have h2 : ((b : Int) % (T : Int)) = ((b % T : Nat) : Int) := rfl
  rw [h2]
  omega
theorem step_lv {T : Nat} (hT : 1 ≤ T) {st st' : WsSt} {c : Nat} (h : wsStep st c = some st') : colStep (T : Int) (lv T st) c = lv T st' := by
  unfold wsStep at h
  split at h
  · rename_i hc
    cases h
    subst hc
    unfold colStep lv
    rw [if_neg (by decide)]
    simp only
    omega
  · split at h
    · rename_i hc
      cases h
      unfold colStep lv
      rw [if_pos hc, fmod_step T _ _ hT]
      simp only [sum_bump]
      rw [show ((st.nt + 1 : Nat) : Int) = (st.nt : Int) + 1 from rfl]
      simp only [Int.mul_add, Int.mul_one]
      omega
    · cases h
noncomputable def blankC (c : Nat) : Prop := c = 32 ∨ c = 9
noncomputable def stepB (st : WsSt) (c : Nat) : WsSt := if c = 32 then { st with n := st.n + 1, b := st.b + 1 } else { cnt := bump st.cnt st.b, b := 0, n := st.n + 1, nt := st.nt + 1 }
theorem stepB_eq {st : WsSt} {c : Nat} (h : blankC c) : wsStep st c = some (stepB st c) := by
  unfold wsStep stepB
  rcases h with rfl | rfl <;> simp
theorem go_run (q : List Nat) : ∀ (st : WsSt), (∀ c ∈ q, blankC c) → ∀ (z : Nat) (r : List Nat), ¬ blankC z → wsGo st (q ++ z :: r) = q.foldl stepB st := by
  induction q with
  | nil =>
    intro st _ z r hz
    show wsGo st (z :: r) = st
    have : wsStep st z = none := by
      unfold wsStep
      rw [if_neg (fun e => hz (.inl e)), if_neg (fun e => hz (.inr e))]
    unfold wsGo
    rw [this]
  | cons c q ih =>
    intro st h z r hz
    show wsGo st (c :: (q ++ z :: r)) = _
    unfold wsGo
    rw [stepB_eq (h c List.mem_cons_self)]
    exact ih _ (fun c' hc => h c' (List.mem_cons_of_mem _ hc)) z r hz
theorem run_lv {T : Nat} (hT : 1 ≤ T) (q : List Nat) : ∀ st, (∀ c ∈ q, blankC c) → q.foldl (colStep (T : Int)) (lv T st) = lv T (q.foldl stepB st) := by
  induction q with
  | nil => intro st _; rfl
  | cons c q ih =>
    intro st h
    rw [List.foldl_cons, List.foldl_cons, step_lv hT (stepB_eq (h c List.mem_cons_self))]
    exact ih _ fun c' hc => h c' (List.mem_cons_of_mem _ hc)
noncomputable def wsS (st : WsSt) : Ws := ⟨st.cnt, st.b, st.n, st.nt⟩
theorem wsOf_run {q : List Nat} (h : ∀ c ∈ q, blankC c) (z : Nat) (r : List Nat) (hz : ¬ blankC z) : wsOf (q ++ z :: r) = wsS (q.foldl stepB ws0) := by
  show wsS (wsGo ws0 _) = _
  rw [go_run q _ h z r hz]
theorem level_col {T : Nat} (hT : 1 ≤ T) {q : List Nat} (h : ∀ c ∈ q, blankC c) : wsLevel (wsS (q.foldl stepB ws0)) (T : Int) = colOf (T : Int) q := by
  have h1 := run_lv hT q ws0 h
  have h0 : lv T ws0 = 0 := by unfold lv ws0; simp [sumTo]
  rw [h0] at h1
  unfold colOf
  rw [h1]
  unfold wsLevel lv wsS
  dsimp only
  rw [ilAt_all _ T hT]
end
section
open PySem PySem.W PyProof.Rows
theorem col_shift {T : Nat} (hT : 1 ≤ T) (M : Int) (q : List Nat) : ∀ x : Int, q.foldl (colStep (T : Int)) ((T : Int) * M + x) = (T : Int) * M + q.foldl (colStep (T : Int)) x := by
  induction q with
  | nil => intro x; rfl
  | cons c q ih =>
    intro x
    rw [List.foldl_cons, List.foldl_cons]
    have e : colStep (T : Int) ((T : Int) * M + x) c = (T : Int) * M + colStep (T : Int) x c := by
      unfold colStep
      split
      · rw [Int.fmod_eq_emod_of_nonneg _ (by omega), Int.fmod_eq_emod_of_nonneg _ (by omega), Int.add_comm ((T : Int) * M) x, Int.add_mul_emod_self_left]; omega
      · omega
    rw [e, ih]
theorem col_map (T : Int) (f : Nat → Nat) (hf : ∀ c, f c = 9 ↔ c = 9) (q : List Nat) : ∀ x : Int, (q.map f).foldl (colStep T) x = q.foldl (colStep T) x := by
  induction q with
  | nil => intro x; rfl
  | cons c q ih =>
    intro x
    rw [List.map_cons, List.foldl_cons, List.foldl_cons]
    have e : colStep T x (f c) = colStep T x c := by
      unfold colStep
      by_cases h : c = 9
      · rw [if_pos h, if_pos ((hf c).mpr h)]
      · rw [if_neg h, if_neg (fun e => h ((hf c).mp e))]
    rw [e, ih]
theorem col_spaces (T : Int) (d : Nat) : ∀ x : Int, (List.replicate d 32).foldl (colStep T) x = x + d := by
  induction d with
  | zero => intro x; simp
  | succ d ih => intro x; rw [List.replicate_succ, List.foldl_cons, ih]; unfold colStep; rw [if_neg (by decide)]; simp; omega
theorem run_spaces (d : Nat) : ∀ st : WsSt, (List.replicate d 32).foldl stepB st = { st with n := st.n + d, b := st.b + d } := by
  induction d with
  | zero => intro st; rfl
  | succ d ih => intro st; rw [List.replicate_succ, List.foldl_cons, ih]; unfold stepB; simp; omega
/-- the lead of the third row: spaces, a tab, the rest -/
noncomputable def tailB (ks : List Nat) (e : Nat) : List Nat := (ks.flatMap fun k => List.replicate k 32 ++ [9]) ++ List.replicate e 32
noncomputable def leadB (d : Nat) (ks : List Nat) (e : Nat) : List Nat := List.replicate d 32 ++ 9 :: tailB ks e
theorem tailB_blank (ks : List Nat) (e : Nat) : ∀ c ∈ tailB ks e, blankC c := by
  intro c hc
  unfold tailB at hc
  simp only [List.mem_append, List.mem_flatMap, List.mem_replicate, List.mem_singleton] at hc
  rcases hc with ⟨k, _, ⟨_, h⟩ | h⟩ | ⟨_, h⟩
  · exact .inl h
  · exact .inr h
  · exact .inl h
theorem leadB_blank (d : Nat) (ks : List Nat) (e : Nat) : ∀ c ∈ leadB d ks e, blankC c := by
  intro c hc
  unfold leadB at hc
  rcases List.mem_append.mp hc with h | h
  · exact .inl (List.mem_replicate.mp h).2
  · rcases List.mem_cons.mp h with h | h
    · exact .inr h
    · exact tailB_blank ks e c h
noncomputable def rowC (d : Nat) (ks : List Nat) (e : Nat) : Ws := wsS ((leadB d ks e).foldl stepB ws0)
noncomputable def behAt (T : Nat) (ks : List Nat) (e : Nat) : Int := (T : Int) + colOf (T : Int) (tailB ks e)
theorem rowC_level {T : Nat} (hT : 1 ≤ T) (d : Nat) (ks : List Nat) (e : Nat) : wsLevel (rowC d ks e) (T : Int) = ((d / T * T : Nat) : Int) + behAt T ks e := by
  unfold rowC
  rw [level_col hT (leadB_blank d ks e)]
  unfold colOf leadB
  rw [List.foldl_append, col_spaces, List.foldl_cons]
  have e1 : colStep (T : Int) (0 + (d : Int)) 9 = (T : Int) * (((d / T : Nat) : Int) + 1) + 0 := by
    unfold colStep
    rw [if_pos rfl]
    have h := fmod_step T d 0 hT
    simp only [Int.mul_zero, Int.add_zero, Int.zero_add] at h ⊢
    rw [h, Int.mul_add, Int.mul_one]
  rw [e1, col_shift hT]
  unfold behAt colOf
  rw [Int.mul_add, Int.mul_one, Int.natCast_mul, Int.mul_comm]
  omega
theorem run_nt (q : List Nat) : ∀ st, (q.foldl stepB st).n = st.n + q.length := by
  induction q with
  | nil => intro st; rfl
  | cons c q ih => intro st; rw [List.foldl_cons, ih]; unfold stepB; split <;> simp <;> omega
theorem rowC_n (d : Nat) (ks : List Nat) (e : Nat) : (rowC d ks e).n = ((d + (1 + (tailB ks e).length) : Nat) : Int) := by
  show (((leadB d ks e).foldl stepB ws0).n : Int) = _
  rw [run_nt]
  unfold leadB ws0
  simp
  omega
theorem run_tabs (q : List Nat) : ∀ st st' : WsSt, st.nt = st'.nt → (q.foldl stepB st).nt = (q.foldl stepB st').nt := by
  induction q with
  | nil => intro st st' h; exact h
  | cons c q ih =>
    intro st st' h
    rw [List.foldl_cons, List.foldl_cons]
    refine ih _ _ ?_
    unfold stepB; split <;> simp [h]
theorem rowC_nt (d d' : Nat) (ks : List Nat) (e : Nat) : (rowC d ks e).nt = (rowC d' ks e).nt := by
  show (((leadB d ks e).foldl stepB ws0).nt : Int) = ((leadB d' ks e).foldl stepB ws0).nt
  unfold leadB
  rw [List.foldl_append, List.foldl_append, run_spaces, run_spaces]
  congr 1
  exact run_tabs _ _ _ rfl
theorem run_len (ks : List Nat) (hk : ∀ k ∈ ks, k ≤ 2) (lo : Nat) : ∀ st : WsSt, st.b = 0 → lo ≤ st.cnt.length → st.cnt.length ≤ max lo 3 →
    let st' := (ks.flatMap fun k => List.replicate k 32 ++ [9]).foldl stepB st; st'.b = 0 ∧ lo ≤ st'.cnt.length ∧ st'.cnt.length ≤ max lo 3 := by
  induction ks with
  | nil => intro st h1 h2 h3; exact ⟨h1, h2, h3⟩
  | cons k ks ih =>
    intro st h1 h2 h3
    dsimp only
    rw [List.flatMap_cons, List.foldl_append, List.foldl_append, run_spaces]
    have hk0 := hk k List.mem_cons_self
    refine ih (fun k' h => hk k' (List.mem_cons_of_mem _ h)) _ rfl ?_ ?_
    · show lo ≤ (bump st.cnt (st.b + k)).length
      rw [bump_len]; omega
    · show (bump st.cnt (st.b + k)).length ≤ _
      rw [bump_len, h1]; omega
theorem rowC_long {d : Nat} {ks : List Nat} {e : Nat} (hk : ∀ k ∈ ks, k ≤ 2) (he : e ≤ 2) : (rowC d ks e).b = (e : Int) ∧ d + 1 ≤ (rowC d ks e).cnt.length ∧ (rowC d ks e).cnt.length ≤ max (d + 1) 3 := by
  have h0 : (bump [] d).length = d + 1 := by rw [bump_len]; simp
  have h := run_len ks hk (d + 1) ⟨bump [] d, 0, d + 1, 1⟩ rfl (by rw [h0]; exact Nat.le_refl _) (by show (bump [] d).length ≤ _; rw [h0]; omega)
  have e1 : (leadB d ks e).foldl stepB ws0 = { (ks.flatMap fun k => List.replicate k 32 ++ [9]).foldl stepB (⟨bump [] d, 0, d + 1, 1⟩ : WsSt) with n := ((ks.flatMap fun k => List.replicate k 32 ++ [9]).foldl stepB (⟨bump [] d, 0, d + 1, 1⟩ : WsSt)).n + e, b := ((ks.flatMap fun k => List.replicate k 32 ++ [9]).foldl stepB (⟨bump [] d, 0, d + 1, 1⟩ : WsSt)).b + e } := by
    unfold leadB tailB
    rw [List.foldl_append, run_spaces, List.foldl_cons, List.foldl_append, run_spaces]
    simp [stepB, ws0]
  unfold rowC
  rw [e1]
  refine ⟨?_, h.2⟩
  show (((ks.flatMap fun k => List.replicate k 32 ++ [9]).foldl stepB (⟨bump [] d, 0, d + 1, 1⟩ : WsSt)).b + e : Nat) = (e : Int)
  rw [h.1]; simp
theorem rowC_longest {d : Nat} {ks : List Nat} {e : Nat} (hk : ∀ k ∈ ks, k ≤ 2) (he : e ≤ 2) : (d : Int) ≤ wsLongest (rowC d ks e) ∧ wsLongest (rowC d ks e) ≤ max (d : Int) 2 := by
  obtain ⟨h1, h2, h3⟩ := rowC_long (d := d) hk he
  unfold wsLongest
  rw [h1]
  split <;> omega
theorem rowC_top {d d' : Nat} {ks : List Nat} {e : Nat} (hk : ∀ k ∈ ks, k ≤ 2) (he : e ≤ 2) (hd : d < d') (h2 : 2 ≤ d') : wsTop (rowC d ks e) (rowC d' ks e) = (d' : Int) + 1 ∧ wsTop (rowC d' ks e) (rowC d ks e) = (d' : Int) + 1 := by
  obtain ⟨a1, a2⟩ := rowC_longest (d := d) hk he
  obtain ⟨b1, b2⟩ := rowC_longest (d := d') hk he
  unfold wsTop
  constructor <;> split <;> omega
/-! what the law lays out for the third row -/
noncomputable def hitsOf (D1 D2 : Nat) (s : Int) : List Int := ((List.range (D2 - D1)).map fun (k : Nat) => ((D1 : Int) + 1 + (k : Int))).filter fun c => decide (c.fmod s = 0)
noncomputable def colAt (D1 : Nat) (beh : List Int) (k : Nat) : Int := (D1 : Int).fdiv (1 + (k : Int)) * (1 + (k : Int)) + beh.getD k 0
noncomputable def seenAt (D1 D2 : Nat) (beh : List Int) (k : Nat) : Option Row3 := if hitsOf D1 D2 (1 + (k : Int)) = [] then none else some (1 + (k : Int), colAt D1 beh k, (hitsOf D1 D2 (1 + (k : Int))).getLastD 0 + beh.getD k 0)
noncomputable def blindAt (D1 D2 : Nat) (beh : List Int) (k : Nat) : Option Row3 := if hitsOf D1 D2 (1 + (k : Int)) = [] then some (1 + (k : Int), colAt D1 beh k, colAt D1 beh k) else none
noncomputable def backAt (D1 D2 : Nat) (beh : List Int) (k : Nat) : Option Row3 := if hitsOf D1 D2 (1 + (k : Int)) = [] then some (1 + (k : Int), colAt D1 beh k, colAt D1 beh k) else some (1 + (k : Int), (hitsOf D1 D2 (1 + (k : Int))).getLastD 0 + beh.getD k 0, colAt D1 beh k)
noncomputable def seenOf (D1 D2 : Nat) (beh : List Int) (n : Nat) : List Row3 := (List.range n).filterMap (seenAt D1 D2 beh)
noncomputable def blindOf (D1 D2 : Nat) (beh : List Int) (n : Nat) : List Row3 := (List.range n).filterMap (blindAt D1 D2 beh)
noncomputable def backOf (D1 D2 : Nat) (beh : List Int) (n : Nat) : List Row3 := (List.range n).filterMap (backAt D1 D2 beh)
theorem hits_fact : ∀ D1 : Nat, D1 < 7 → ∀ g : Nat, g < 2 → ∀ k : Nat, k < 8 → (hitsOf D1 (D1 + 1 + g) (1 + (k : Int)) = [] → D1 / (k + 1) * (k + 1) = (D1 + 1 + g) / (k + 1) * (k + 1)) ∧
    (hitsOf D1 (D1 + 1 + g) (1 + (k : Int)) ≠ [] → D1 / (k + 1) * (k + 1) < (D1 + 1 + g) / (k + 1) * (k + 1) ∧ (hitsOf D1 (D1 + 1 + g) (1 + (k : Int))).getLastD 0 = Int.ofNat ((D1 + 1 + g) / (k + 1) * (k + 1))) := by decide +kernel
end
section
open PySem PySem.W PyProof.Rows
/-- what the pair's part of the law asks of two leads -/
structure PairOk (bare dots : Int) (beh : List Int) (j1 j2 : Nat) (d e : Ld) : Prop where
  ta : wsTop d.a e.a = bare + (j2 : Int) + 1
  wa : wsWits d.a e.a (wsTop d.a e.a).toNat = (List.range (bare + (j2 : Int) + 1).toNat).map fun (k : Nat) => (1 + (k : Int), bare + (j1 : Int), bare + (j2 : Int))
  la : wsLess d.a e.a = true
  tb : 0 ≤ wsTop d.b e.b ∧ wsTop d.b e.b < 900
  wb : wsWits d.b e.b (wsTop d.b e.b).toNat = []
  eb : d.b.cnt = e.b.cnt ∧ d.b.b = e.b.b
  tc : wsTop d.c e.c = dots + (j2 : Int) + 1 ∧ wsTop e.c d.c = dots + (j2 : Int) + 1
  wc : wsWits d.c e.c (wsTop d.c e.c).toNat = seenOf (dots + (j1 : Int)).toNat (dots + (j2 : Int)).toNat beh (dots + (j2 : Int) + 1).toNat
  nc : wsBlind d.c e.c (wsTop d.c e.c).toNat = blindOf (dots + (j1 : Int)).toNat (dots + (j2 : Int)).toNat beh (dots + (j2 : Int) + 1).toNat
  wr : wsWits e.c d.c (wsTop e.c d.c).toNat = (seenOf (dots + (j1 : Int)).toNat (dots + (j2 : Int)).toNat beh (dots + (j2 : Int) + 1).toNat).map fun r => (r.1, r.2.2, r.2.1)
  nr : wsBlind e.c d.c (wsTop e.c d.c).toNat = backOf (dots + (j1 : Int)).toNat (dots + (j2 : Int)).toNat beh (dots + (j2 : Int) + 1).toNat
  lc : wsLess d.c e.c = false
  lr : wsLess e.c d.c = false
  ec : ¬ (d.c.cnt = e.c.cnt ∧ d.c.b = e.c.b)
theorem filterMap_congr' {α β : Type} {f g : α → Option β} : ∀ {l : List α}, (∀ a ∈ l, f a = g a) → l.filterMap f = l.filterMap g
  | [], _ => rfl
  | a :: l, h => by rw [List.filterMap_cons, List.filterMap_cons, h a List.mem_cons_self, filterMap_congr' fun b hb => h b (List.mem_cons_of_mem _ hb)]
theorem mapMap' {α β γ : Type} (f : α → Option β) (g : β → γ) : ∀ l : List α, (l.filterMap f).map g = l.filterMap fun a => (f a).map g
  | [] => rfl
  | a :: l => by
    rw [List.filterMap_cons, List.filterMap_cons, ← mapMap' f g l]
    cases f a <;> rfl
theorem wsWits_self (d : Ws) (n : Nat) : wsWits d d n = [] := by
  unfold wsWits
  rw [List.filterMap_eq_nil_iff]
  intro k _
  rw [if_neg (fun h => h rfl)]
noncomputable def rowA (n : Nat) : Ws := ⟨[], n, n, 0⟩
theorem rowA_level (n : Nat) (T : Int) (hT : 1 ≤ T) : wsLevel (rowA n) T = n := by
  unfold wsLevel rowA
  dsimp only
  have : (((([] : List Int).length : Nat) : Int) - T).toNat = 0 := by
    rw [List.length_nil]; omega
  rw [this]
  show (n : Int) + T * (0 + 0) = n
  simp
theorem rowA_ok {n1 n2 : Nat} (h : n1 < n2) : wsTop (rowA n1) (rowA n2) = (n2 : Int) + 1 ∧ wsWits (rowA n1) (rowA n2) (n2 + 1) = (List.range (n2 + 1)).map (fun (k : Nat) => (1 + (k : Int), (n1 : Int), (n2 : Int))) ∧ wsLess (rowA n1) (rowA n2) = true := by
  have hl : ∀ n, wsLongest (rowA n) = (n : Int) := fun n => by
    unfold wsLongest rowA
    dsimp only
    rw [List.length_nil]
    rw [if_pos (by omega)]
  refine ⟨?_, ?_, ?_⟩
  · unfold wsTop
    rw [hl, hl, if_pos (by omega)]
  · unfold wsWits
    rw [← List.filterMap_eq_map]
    refine filterMap_congr' fun k _ => ?_
    rw [rowA_level _ _ (by omega), rowA_level _ _ (by omega), if_pos (by omega)]
    rfl
  · unfold wsLess rowA
    dsimp only
    rw [if_neg (by omega), if_pos ⟨by simp, by simp⟩]
    rfl
theorem rowC_ok {D1 D2 : Nat} {ks : List Nat} {e : Nat} {beh : List Int} (hk : ∀ k ∈ ks, k ≤ 2) (he : e ≤ 2) (h1 : 1 ≤ D1) (h7 : D1 < 7) (h12 : D2 = D1 + 1 ∨ D2 = D1 + 2) (h8 : D2 < 8)
    (hb : ∀ k : Nat, k < 8 → beh.getD k 0 = behAt (k + 1) ks e) :
    wsWits (rowC D1 ks e) (rowC D2 ks e) (D2 + 1) = seenOf D1 D2 beh (D2 + 1) ∧ wsBlind (rowC D1 ks e) (rowC D2 ks e) (D2 + 1) = blindOf D1 D2 beh (D2 + 1) ∧
    wsWits (rowC D2 ks e) (rowC D1 ks e) (D2 + 1) = (seenOf D1 D2 beh (D2 + 1)).map (fun r => (r.1, r.2.2, r.2.1)) ∧ wsBlind (rowC D2 ks e) (rowC D1 ks e) (D2 + 1) = backOf D1 D2 beh (D2 + 1) ∧
    wsLess (rowC D1 ks e) (rowC D2 ks e) = false ∧ wsLess (rowC D2 ks e) (rowC D1 ks e) = false ∧ ¬ ((rowC D1 ks e).cnt = (rowC D2 ks e).cnt ∧ (rowC D1 ks e).b = (rowC D2 ks e).b) := by
  have lev : ∀ d k, wsLevel (rowC d ks e) (1 + (k : Nat)) = ((d / (k + 1) * (k + 1) : Nat) : Int) + behAt (k + 1) ks e := fun d k => by
    have := rowC_level (T := k + 1) (by omega) d ks e
    rw [← this, Int.add_comm]; rfl
  have fact : ∀ k : Nat, k < 8 → (hitsOf D1 D2 (1 + (k : Int)) = [] → D1 / (k + 1) * (k + 1) = D2 / (k + 1) * (k + 1)) ∧
    (hitsOf D1 D2 (1 + (k : Int)) ≠ [] → D1 / (k + 1) * (k + 1) < D2 / (k + 1) * (k + 1) ∧ (hitsOf D1 D2 (1 + (k : Int))).getLastD 0 = Int.ofNat (D2 / (k + 1) * (k + 1))) := fun k hk8 => by
    rcases h12 with rfl | rfl
    · exact hits_fact D1 h7 0 (by decide) k hk8
    · exact hits_fact D1 h7 1 (by decide) k hk8
  have col : ∀ k : Nat, k < 8 → colAt D1 beh k = ((D1 / (k + 1) * (k + 1) : Nat) : Int) + behAt (k + 1) ks e := fun k hk8 => by
    unfold colAt
    rw [hb k hk8, Int.fdiv_eq_ediv_of_nonneg _ (by omega)]
    congr 1
    rw [show (1 + (k : Int)) = ((k + 1 : Nat) : Int) from by rw [Int.add_comm]; rfl]
    rfl
  have rng : ∀ k, k ∈ List.range (D2 + 1) → k < 8 := fun k hk' => by have := List.mem_range.mp hk'; omega
  refine ⟨filterMap_congr' fun k hk' => ?_, filterMap_congr' fun k hk' => ?_, ?_, filterMap_congr' fun k hk' => ?_, ?_, ?_, ?_⟩
  · have h8' := rng k hk'
    obtain ⟨f1, f2⟩ := fact k h8'
    unfold seenAt
    rw [lev, lev, col k h8', hb k h8']
    by_cases hh : hitsOf D1 D2 (1 + (k : Int)) = []
    · rw [if_pos hh, if_neg (by rw [f1 hh]; simp)]
    · obtain ⟨g1, g2⟩ := f2 hh
      rw [if_neg hh, if_pos (by omega), g2]
      rfl
  · have h8' := rng k hk'
    obtain ⟨f1, f2⟩ := fact k h8'
    unfold blindAt
    rw [lev, lev, col k h8']
    by_cases hh : hitsOf D1 D2 (1 + (k : Int)) = []
    · rw [if_pos hh, if_pos (by rw [f1 hh]; exact Int.le_refl _), f1 hh]
    · obtain ⟨g1, g2⟩ := f2 hh
      rw [if_neg hh, if_neg (by omega)]
  · unfold seenOf
    rw [mapMap']
    refine filterMap_congr' fun k hk' => ?_
    have h8' := rng k hk'
    obtain ⟨f1, f2⟩ := fact k h8'
    unfold seenAt
    rw [lev, lev, col k h8', hb k h8']
    by_cases hh : hitsOf D1 D2 (1 + (k : Int)) = []
    · rw [if_pos hh, if_neg (by rw [f1 hh]; simp)]; rfl
    · obtain ⟨g1, g2⟩ := f2 hh
      rw [if_neg hh, if_pos (by omega), g2]
      rfl
  · have h8' := rng k hk'
    obtain ⟨f1, f2⟩ := fact k h8'
    unfold backAt
    rw [lev, lev, col k h8', hb k h8']
    by_cases hh : hitsOf D1 D2 (1 + (k : Int)) = []
    · rw [if_pos hh, if_pos (by rw [f1 hh]; exact Int.le_refl _), f1 hh]
    · obtain ⟨g1, g2⟩ := f2 hh
      rw [if_neg hh, if_pos (by omega), g2]
      rfl
  · unfold wsLess
    obtain ⟨_, b2, _⟩ := rowC_long (d := D1) hk he
    rw [if_neg (by rw [rowC_n, rowC_n]; omega), if_neg (by omega), (rowC_top hk he (by omega) (by omega)).1]
    rw [List.all_eq_false]
    refine ⟨D2 - 1, List.mem_range.mpr (by omega), ?_⟩
    have e2 : (2 + ((D2 - 1 : Nat) : Int)) = 1 + ((D2 : Nat) : Int) := by omega
    rw [e2, lev, lev, Nat.div_eq_of_lt (by omega), Nat.div_eq_of_lt (by omega)]
    simp
  · unfold wsLess
    rw [if_pos (by rw [rowC_n, rowC_n]; omega)]
  · intro ⟨c1, c2⟩
    have l1 := lev D1 0
    have l2 := lev D2 0
    have : wsLevel (rowC D1 ks e) (1 + (0 : Nat)) = wsLevel (rowC D2 ks e) (1 + (0 : Nat)) := by
      unfold wsLevel
      rw [c1, c2, rowC_nt D1 D2]
    rw [l1, l2] at this
    simp at this
    omega
end
section
open PySem PySem.W PyProof.Rows
open Rx PySem.StrLaws Builtin Builtin.Str
/-! plain maths: the texts -/
theorem dot_lit : Str.ofString "." = ⟨#[46]⟩ := by decide +kernel
theorem spc_lit : Str.ofString " " = ⟨#[32]⟩ := by decide +kernel
noncomputable def crlf : Str := Str.ofString "\r\n"
theorem crlf_l : crlf.cps.toList = [13, 10] := crlf_cps.1
theorem crlf_n : crlf.length = 2 := by decide +kernel
theorem at_crlf {x : Str} {k : Nat} : At x crlf x.length k ↔ (x.cps.toList.drop k).take 2 = [13, 10] := by
  unfold At
  rw [subAt_eq, crlf_n, crlf_l, beq_iff_eq]
  refine ⟨fun h => h.2, fun h => ⟨?_, h⟩⟩
  have := congrArg List.length h
  simp [Str.length] at this ⊢
  omega
theorem noAt {x : Str} {a : Nat} {r t : List Nat} (h : x.cps.toList.drop a = r ++ t) (hr : 13 ∉ r) : ∀ k, a ≤ k → k < a + r.length → ¬ At x crlf x.length k := by
  intro k h1 h2 hA
  rw [at_crlf] at hA
  obtain ⟨j, rfl⟩ := Nat.exists_eq_add_of_le h1
  rw [← List.drop_drop, h, List.drop_append_of_le_length (by omega)] at hA
  cases e : r.drop j with
  | nil => have := congrArg List.length e; simp at this; omega
  | cons c q =>
    rw [e] at hA
    simp at hA
    have hm : c ∈ r.drop j := by rw [e]; exact List.mem_cons_self
    exact hr (hA.1 ▸ List.mem_of_mem_drop hm)
theorem noEnd {x : Str} {a : Nat} (h : x.cps.toList.drop a = []) : ∀ k, a ≤ k → ¬ At x crlf x.length k := by
  intro k h1 hA
  rw [at_crlf] at hA
  obtain ⟨j, rfl⟩ := Nat.exists_eq_add_of_le h1
  rw [← List.drop_drop, h] at hA
  simp at hA
theorem chain_uniq {x y : Str} {hi : Nat} : ∀ {cs : List Nat} {a f : Nat} {cs' : List Nat} {f' : Nat}, ChainG x y hi a cs f → (∀ k, f ≤ k → ¬ At x y hi k) → ChainG x y hi a cs' f' → (∀ k, f' ≤ k → ¬ At x y hi k) → cs = cs'
  | [], a, f, [], f', _, _, _, _ => rfl
  | [], a, f, c :: r, f', h, hn, h', _ => by
    have e : f = a := h
    subst e
    exact absurd h'.2.1 (hn c h'.1)
  | c :: r, a, f, [], f', h, _, h', hn' => by
    have e : f' = a := h'
    subst e
    exact absurd h.2.1 (hn' c h.1)
  | c :: r, a, f, c' :: r', f', h, hn, h', hn' => by
    have e : c = c' := by
      rcases Nat.lt_trichotomy c c' with hl | hl | hl
      · exact absurd h.2.1 (h'.2.2.1 c h.1 hl)
      · exact hl
      · exact absurd h'.2.1 (h.2.2.1 c' h'.1 hl)
    subst e
    rw [chain_uniq h.2.2.2 hn h'.2.2.2 hn']
noncomputable def cutsA : Nat → List (List Nat) → List Nat
  | _, [] => []
  | a, r :: rs => (a + r.length) :: cutsA (a + r.length + 2) rs
noncomputable def rowsT (rs : List (List Nat)) : List Nat := rs.flatMap (· ++ [13, 10])
theorem rowsT_cons (r : List Nat) (rs : List (List Nat)) : rowsT (r :: rs) = r ++ 13 :: 10 :: rowsT rs := by
  unfold rowsT
  rw [List.flatMap_cons, List.append_assoc]; rfl
theorem chain_rows {x : Str} : ∀ (rs : List (List Nat)) (a : Nat), (∀ r ∈ rs, 13 ∉ r) → x.cps.toList.drop a = rowsT rs →
    ∃ f, ChainG x crlf x.length a (cutsA a rs) f ∧ (∀ k, f ≤ k → ¬ At x crlf x.length k) ∧ partsFrom x 2 a (cutsA a rs) = rs.map (fun r => ⟨r.toArray⟩) ++ [⟨#[]⟩]
  | [], a, _, h => by
    refine ⟨a, rfl, noEnd h, ?_⟩
    show [strSub x a x.length] = [⟨#[]⟩]
    congr 1
    apply Str.ext'
    apply Array.toList_inj.mp
    rw [strSub_toList, h]; simp [rowsT]
  | r :: rs, a, hr, h => by
    rw [rowsT_cons] at h
    have h2 : x.cps.toList.drop (a + r.length) = 13 :: 10 :: rowsT rs := by rw [← List.drop_drop, h]; simp
    have h3 : x.cps.toList.drop (a + r.length + 2) = rowsT rs := by rw [← List.drop_drop, h2]; rfl
    obtain ⟨f, c1, c2, c3⟩ := chain_rows rs (a + r.length + 2) (fun r' h' => hr r' (List.mem_cons_of_mem _ h')) h3
    refine ⟨f, ⟨by omega, at_crlf.mpr (by rw [h2]; rfl), noAt h (hr r List.mem_cons_self), by rw [crlf_n]; exact c1⟩, c2, ?_⟩
    show strSub x a (a + r.length) :: partsFrom x 2 (a + r.length + 2) (cutsA (a + r.length + 2) rs) = _
    rw [c3]
    show _ = (⟨r.toArray⟩ : Str) :: _
    congr 1
    apply Str.ext'
    apply Array.toList_inj.mp
    rw [strSub_toList, h]
    simp
theorem split_rows {x : Str} {r : List Nat} {rs : List (List Nat)} (hx : x.cps.toList = rowsT (r :: rs)) (hr : ∀ q ∈ r :: rs, 13 ∉ q) : Txt.split x crlf = (r :: rs).map (fun r => (⟨r.toArray⟩ : Str)) ++ [⟨#[]⟩] := by
  obtain ⟨f, c1, c2, c3⟩ := chain_rows (x := x) (r :: rs) 0 hr (by rw [List.drop_zero]; exact hx)
  obtain ⟨f', g1, g2⟩ := occ_tight x crlf (by rw [crlf_n]; decide)
  have e := chain_uniq g1 g2 c1 c2
  unfold Txt.split
  have hl : 2 ≤ x.length := by
    show 2 ≤ x.cps.size
    have := congrArg List.length hx
    rw [rowsT_cons] at this
    simp at this
    omega
  have hk : strKind crlf = 1 := by decide +kernel
  have hk2 : ¬ strKind x < 1 := by unfold Builtin.Str.strKind; split <;> (try split) <;> omega
  rw [if_neg (by rw [crlf_n, hk]; simp only [Bool.or_eq_true, decide_eq_true_eq, not_or]; exact ⟨by omega, hk2⟩), e, if_neg (by simp [cutsA]), partsBetween_eq, crlf_n, c3]
noncomputable def dotC (c : Nat) : Nat := if c = 46 then 32 else c
theorem join_map : ∀ ps : List Str, (∀ p ∈ ps, 46 ∉ p.cps.toList) → (Str.join ⟨#[32]⟩ ps).cps.toList = (Str.join ⟨#[46]⟩ ps).cps.toList.map dotC := by
  have one : ∀ p : Str, 46 ∉ p.cps.toList → p.cps.toList.map dotC = p.cps.toList := fun p hp => by
    conv => rhs; rw [← List.map_id p.cps.toList]
    refine List.map_congr_left fun c hc => ?_
    unfold dotC
    have hne : c ≠ 46 := fun e => hp (by rw [← e]; exact hc)
    rw [if_neg hne]; rfl
  intro ps
  induction ps with
  | nil => intro _; rfl
  | cons p ps ih =>
    intro h
    cases ps with
    | nil => show p.cps.toList = p.cps.toList.map dotC; rw [one p (h p List.mem_cons_self)]
    | cons q r =>
      have ih := ih fun p' hp => h p' (List.mem_cons_of_mem _ hp)
      show (p ++ ⟨#[32]⟩ ++ Str.join ⟨#[32]⟩ (q :: r)).cps.toList = (p ++ ⟨#[46]⟩ ++ Str.join ⟨#[46]⟩ (q :: r)).cps.toList.map dotC
      simp only [Str.cps_append, Array.toList_append, List.map_append, one p (h p List.mem_cons_self), ih]
      rfl
theorem blank_map (x : Str) : blank x = x.cps.toList.map dotC := by
  unfold blank
  rw [dot_lit, spc_lit, replace_one, join_map _ (split_free x 46), join_split]
theorem hrep_all (r : Str) : (Txt.replace r (Str.ofString ".") (Str.ofString " ")).length = r.length := by
  have := congrArg List.length (blank_map r)
  unfold blank at this
  simpa [Str.length] using this
theorem fixE_plain : ∀ (l t : List Nat), (∀ c ∈ l, c ≠ 10 ∧ c ≠ 13) → fixE (l ++ t) = l ++ fixE t
  | [], t, _ => rfl
  | c :: l, t, h => by
    have hc := h c List.mem_cons_self
    show fixE (c :: (l ++ t)) = _
    rw [fixE_other c _ (by unfold isEol; simp [hc]), fixE_plain l t fun c' h' => h c' (List.mem_cons_of_mem _ h')]
    rfl
theorem fixE_rows : ∀ rs : List (List Nat), (∀ r ∈ rs, ∀ c ∈ r, c ≠ 10 ∧ c ≠ 13) → fixE (rowsT rs) = rowsT rs
  | [], _ => rfl
  | r :: rs, h => by
    rw [rowsT_cons, fixE_plain r _ (h r List.mem_cons_self)]
    rw [show fixE (13 :: 10 :: rowsT rs) = 13 :: 10 :: fixE (rowsT rs) from by rw [fixE], fixE_rows rs fun r' h' => h r' (List.mem_cons_of_mem _ h')]
noncomputable def isEnd (l : List Nat) : Prop := l = [13, 10] ∨ l = [10] ∨ l = [13]
theorem fixE_end {E t : List Nat} (h : isEnd E) (ht : t.head? ≠ some 10) : fixE (E ++ t) = 13 :: 10 :: fixE t := by
  rcases h with rfl | rfl | rfl
  · show fixE (13 :: 10 :: t) = _; rw [fixE]
  · show fixE (10 :: t) = _; rw [fixE]
  · exact fixE_cr t ht
theorem quoteD_plain : ∀ (l t : List Nat), (∀ c ∈ l, c ≠ 10) → quoteD false (l ++ t) = l ++ quoteD false t
  | [], t, _ => rfl
  | c :: l, t, h => by
    have hc := h c List.mem_cons_self
    show quoteD false (c :: (l ++ t)) = _
    rw [quoteD]
    have e : (c == 10) = false := by simp [hc]
    rw [e]
    simp only [Bool.false_and, Bool.false_eq_true, if_false]
    rw [quoteD_plain l t fun c' h' => h c' (List.mem_cons_of_mem _ h')]
    rfl
theorem quoteD_dot {l t : List Nat} (h : ∀ c ∈ l, c ≠ 10) : quoteD true (46 :: (l ++ 13 :: 10 :: t)) = 46 :: 46 :: (l ++ 13 :: 10 :: quoteD true t) := by
  rw [quoteD]
  simp only [Bool.true_and, beq_self_eq_true, if_true]
  rw [quoteD_plain l _ h]
  simp [quoteD]
theorem quoteD_no {c : Nat} {l t : List Nat} (hc : c ≠ 46) (h : ∀ c' ∈ c :: l, c' ≠ 10) : quoteD true (c :: (l ++ 13 :: 10 :: t)) = c :: (l ++ 13 :: 10 :: quoteD true t) := by
  rw [quoteD]
  have e1 : (c == 46) = false := by simp [hc]
  have e2 : (c == 10) = false := by simp [h c List.mem_cons_self]
  rw [e1, e2]
  simp only [Bool.and_false, Bool.false_eq_true, if_false]
  rw [quoteD_plain l _ fun c' h' => h c' (List.mem_cons_of_mem _ h')]
  simp [quoteD]
end
section
open PySem PySem.W PyProof.Rows
open Rx PySem.StrLaws Builtin Builtin.Str
noncomputable def tailD (ks : List Nat) (e : Nat) : List Nat := (ks.flatMap fun k => List.replicate k 46 ++ [9]) ++ List.replicate e 46
noncomputable def rwA (n : Nat) : List Nat := List.replicate n 46 ++ [97]
noncomputable def rwB (z : Nat) : List Nat := 9 :: List.replicate z 46 ++ [98]
noncomputable def rwC (n : Nat) (ks : List Nat) (e : Nat) : List Nat := List.replicate n 46 ++ (9 :: tailD ks e ++ [99])
theorem mul_dot (n : Nat) : (Txt.mul (Str.ofString ".") (n : Int)).cps.toList = List.replicate n 46 := by
  rw [dot_lit, mul_one_list, Int.toNat_natCast]
theorem tail_len (ks : List Nat) (e : Nat) (hk : ∀ k ∈ ks, k ≤ 2) (hl : ks.length ≤ 4) (he : e ≤ 2) : (tailD ks e).length ≤ 14 := by
  have : ∀ ks : List Nat, (∀ k ∈ ks, k ≤ 2) → (ks.flatMap fun k => List.replicate k 46 ++ [9]).length ≤ 3 * ks.length := by
    intro ks
    induction ks with
    | nil => intro _; simp
    | cons k ks ih =>
      intro h
      rw [List.flatMap_cons, List.length_append]
      have := ih fun k' h' => h k' (List.mem_cons_of_mem _ h')
      have := h k List.mem_cons_self
      simp at *
      omega
  have := this ks hk
  unfold tailD
  rw [List.length_append, List.length_replicate]
  omega
theorem tailD_mem {ks : List Nat} {e c : Nat} (h : c ∈ tailD ks e) : c = 46 ∨ c = 9 := by
  unfold tailD at h
  simp only [List.mem_append, List.mem_flatMap, List.mem_replicate, List.mem_singleton] at h
  rcases h with ⟨k, _, ⟨_, h⟩ | h⟩ | ⟨_, h⟩
  · exact .inl h
  · exact .inr h
  · exact .inl h
theorem tailD_map (ks : List Nat) (e : Nat) : (tailD ks e).map dotC = tailB ks e := by
  unfold tailD tailB
  rw [List.map_append, List.map_flatMap]
  simp [dotC]
theorem rwA_mem {n c : Nat} (h : c ∈ rwA n) : c ≠ 10 ∧ c ≠ 13 := by
  unfold rwA at h
  simp only [List.mem_append, List.mem_replicate, List.mem_singleton] at h
  rcases h with ⟨_, rfl⟩ | rfl <;> decide
theorem rwB_mem {z c : Nat} (h : c ∈ rwB z) : c ≠ 10 ∧ c ≠ 13 := by
  unfold rwB at h
  simp only [List.mem_append, List.mem_cons, List.mem_replicate, List.not_mem_nil, or_false] at h
  rcases h with (rfl | ⟨_, rfl⟩) | rfl <;> decide
theorem rwC_mem {n e c : Nat} {ks : List Nat} (h : c ∈ rwC n ks e) : c ≠ 10 ∧ c ≠ 13 := by
  unfold rwC at h
  simp only [List.mem_append, List.mem_cons, List.mem_replicate, List.not_mem_nil, or_false] at h
  rcases h with ⟨_, rfl⟩ | (rfl | h) | rfl
  · decide
  · decide
  · rcases tailD_mem h with rfl | rfl <;> decide
  · decide
theorem rows_mem {n m z e : Nat} {ks : List Nat} : ∀ r ∈ [rwA n, rwB z, rwC m ks e], ∀ c ∈ r, c ≠ 10 ∧ c ≠ 13 := by
  intro r hr c hc
  simp only [List.mem_cons, List.not_mem_nil, or_false] at hr
  rcases hr with rfl | rfl | rfl
  · exact rwA_mem hc
  · exact rwB_mem hc
  · exact rwC_mem hc
section
variable {b d z e : Nat} {ks : List Nat} {page still rest : Str}
theorem told_list (hs : still.cps.toList = 9 :: List.replicate z 46) (hr : rest.cps.toList = 9 :: tailD ks e) (i : Nat) :
    (toldS (b : Int) still (d : Int) rest (i : Int)).cps.toList = rowsT [rwA (b + i), rwB z, rwC (d + i) ks e] := by
  unfold toldS
  have e1 : ((b : Int) + (i : Int)) = ((b + i : Nat) : Int) := rfl
  have e2 : ((d : Int) + (i : Int)) = ((d + i : Nat) : Int) := rfl
  have l1 : (Str.ofString "a\r\n").cps.toList = [97, 13, 10] := by decide +kernel
  have l2 : (Str.ofString "b\r\n").cps.toList = [98, 13, 10] := by decide +kernel
  have l3 : (Str.ofString "c\r\n").cps.toList = [99, 13, 10] := by decide +kernel
  rw [e1, e2]
  simp only [Str.cps_append, Array.toList_append, mul_dot, hs, hr, l1, l2, l3, rowsT_cons, rwA, rwB, rwC]
  simp [rowsT]
theorem told_eq {x : Str} (hs : still.cps.toList = 9 :: List.replicate z 46) (hr : rest.cps.toList = 9 :: tailD ks e) (i : Nat) (h : x.cps.toList = rowsT [rwA (b + i), rwB z, rwC (d + i) ks e]) :
    x = toldS (b : Int) still (d : Int) rest (i : Int) := by
  apply Str.ext'
  apply Array.toList_inj.mp
  rw [told_list hs hr, h]
theorem quote_rows {n m : Nat} : quoteD true (rowsT [rwA (n + 1), rwB z, rwC (m + 1) ks e]) = rowsT [rwA (n + 1 + 1), rwB z, rwC (m + 1 + 1) ks e] := by
  simp only [rowsT_cons]
  have a1 : ∀ n, rwA (n + 1) = 46 :: rwA n := fun n => rfl
  have c1 : ∀ n, rwC (n + 1) ks e = 46 :: rwC n ks e := fun n => rfl
  rw [a1 (n + 1), a1 n, c1 (m + 1), c1 m]
  show quoteD true (46 :: (rwA n ++ 13 :: 10 :: (rwB z ++ 13 :: 10 :: (46 :: (rwC m ks e ++ 13 :: 10 :: []))))) = _
  rw [quoteD_dot fun c hc => (rwA_mem hc).1]
  have hB : ∀ t, quoteD true (rwB z ++ 13 :: 10 :: t) = rwB z ++ 13 :: 10 :: quoteD true t := fun t => by
    show quoteD true (9 :: ((List.replicate z 46 ++ [98]) ++ 13 :: 10 :: t)) = 9 :: ((List.replicate z 46 ++ [98]) ++ 13 :: 10 :: quoteD true t)
    exact quoteD_no (by decide) fun c hc => (rwB_mem (z := z) hc).1
  rw [hB, quoteD_dot fun c hc => (rwC_mem hc).1]
  rfl
theorem fix_page {E1 E2 E3 : List Nat} (h1 : isEnd E1) (h2 : isEnd E2) (h3 : isEnd E3) {n m : Nat} :
    fixE (rwA n ++ E1 ++ rwB z ++ E2 ++ rwC (m + 1) ks e ++ E3) = rowsT [rwA n, rwB z, rwC (m + 1) ks e] := by
  simp only [rowsT_cons, List.append_assoc]
  rw [fixE_plain _ _ fun c hc => rwA_mem hc, fixE_end h1 (by simp [rwB]), fixE_plain _ _ fun c hc => rwB_mem hc, fixE_end h2 (by simp [rwC, List.replicate_succ]), fixE_plain _ _ fun c hc => rwC_mem hc]
  have : fixE (E3 ++ []) = 13 :: 10 :: fixE [] := fixE_end h3 (by simp)
  rw [List.append_nil] at this
  rw [this]
  rfl
noncomputable def rowB (z : Nat) : Ws := wsOf (9 :: List.replicate z 32 ++ [98])
noncomputable def leadsOf (b d z e : Nat) (ks : List Nat) (i : Nat) : Ld := ⟨rowA (b + i), rowB z, rowC (d + i) ks e⟩
theorem ws_rows (n m : Nat) : wsOf (blank ⟨(rwA n).toArray⟩) = rowA n ∧ wsOf (blank ⟨(rwB z).toArray⟩) = rowB z ∧ wsOf (blank ⟨(rwC m ks e).toArray⟩) = rowC m ks e := by
  simp only [blank_map]
  refine ⟨?_, ?_, ?_⟩
  · have : (rwA n).map dotC = List.replicate n 32 ++ 97 :: [] := by unfold rwA; simp [dotC]
    rw [this, wsOf_run (fun c hc => .inl (List.mem_replicate.mp hc).2) 97 [] (by unfold blankC; decide), run_spaces]
    simp [wsS, rowA, ws0]
  · have : (rwB z).map dotC = 9 :: List.replicate z 32 ++ [98] := by unfold rwB; simp [dotC]
    rw [this]
    rfl
  · have : (rwC m ks e).map dotC = leadB m ks e ++ 99 :: [] := by
      unfold rwC leadB
      rw [← tailD_map]
      simp [dotC]
    rw [this, wsOf_run (leadB_blank m ks e) 99 [] (by unfold blankC; decide)]
    rfl
theorem law_pre {E1 E2 E3 : List Nat} (hb : 1 ≤ b ∧ b ≤ 3) (hd : 1 ≤ d ∧ d ≤ 5) (hz : z ≤ 2) (hk : ∀ k ∈ ks, k ≤ 2) (hl : ks.length ≤ 4) (he : e ≤ 2)
    (hs : still.cps.toList = 9 :: List.replicate z 46) (hr : rest.cps.toList = 9 :: tailD ks e) (h1 : isEnd E1) (h2 : isEnd E2) (h3 : isEnd E3)
    (hp : page.cps.toList = rwA b ++ E1 ++ rwB z ++ E2 ++ rwC d ks e ++ E3) : LawPre page still rest (b : Int) (d : Int) (leadsOf b d z e ks) := by
  have hrl : rest.length ≤ 15 := by
    show rest.cps.size ≤ 15
    have := congrArg List.length hr
    have := tail_len ks e hk hl he
    simp at *
    omega
  have hsl : still.length ≤ 3 := by
    show still.cps.size ≤ 3
    have := congrArg List.length hs
    simp at this
    omega
  have hel : ∀ E, isEnd E → E.length ≤ 2 := fun E h => by rcases h with rfl | rfl | rfl <;> decide
  have tl := tail_len ks e hk hl he
  have hfix : fixE page.cps.toList = rowsT [rwA (b + 0), rwB z, rwC (d + 0) ks e] := by
    obtain ⟨m, rfl⟩ : ∃ m, d = m + 1 := ⟨d - 1, by omega⟩
    rw [hp]
    exact fix_page h1 h2 h3
  have hq : ∀ i, quoteD true (rowsT [rwA (b + i), rwB z, rwC (d + i) ks e]) = rowsT [rwA (b + (i + 1)), rwB z, rwC (d + (i + 1)) ks e] := fun i => by
    obtain ⟨m, rfl⟩ : ∃ m, d = m + 1 := ⟨d - 1, by omega⟩
    obtain ⟨n, rfl⟩ : ∃ n, b = n + 1 := ⟨b - 1, by omega⟩
    have := quote_rows (z := z) (ks := ks) (e := e) (n := n + i) (m := m + i)
    rw [show n + 1 + i = n + i + 1 from by omega, show m + 1 + i = m + i + 1 from by omega, show n + 1 + (i + 1) = n + i + 1 + 1 from by omega, show m + 1 + (i + 1) = m + i + 1 + 1 from by omega]
    exact this
  refine ⟨?_, by omega, by omega, ?_, by omega, by omega, ?_, ?_, ?_, ?_⟩
  · have := congrArg List.length hp
    have := hel _ h1
    have := hel _ h2
    have := hel _ h3
    simp [rwA, rwB, rwC] at *
    omega
  · intro i h0 h3'
    obtain ⟨k, rfl⟩ := Int.eq_ofNat_of_zero_le h0
    have := congrArg List.length (told_list (b := b) (d := d) hs hr k)
    simp [rowsT_cons, rwA, rwB, rwC, rowsT] at this
    omega
  · refine told_eq hs hr 0 ?_
    show (fixE page.cps.toList).toArray.toList = _
    exact hfix
  · refine told_eq hs hr 1 ?_
    show (quoteD true (fixE page.cps.toList).toArray.toList).toArray.toList = _
    rw [List.toList_toArray, List.toList_toArray, hfix, hq]
  · refine told_eq hs hr 2 ?_
    show (quoteD true (fixE (toldS (b : Int) still (d : Int) rest ((1 : Nat) : Int)).cps.toList).toArray.toList).toArray.toList = _
    rw [List.toList_toArray, List.toList_toArray, told_list hs hr 1, fixE_rows _ rows_mem, hq]
  · intro i _
    have := split_rows (told_list (b := b) (d := d) hs hr i) fun r hr' h13 => (rows_mem r hr' 13 h13).2 rfl
    obtain ⟨w1, w2, w3⟩ := ws_rows (z := z) (ks := ks) (e := e) (b + i) (d + i)
    exact ⟨_, _, _, _, this, w1, w2, w3⟩
theorem beh_get (hr : rest.cps.toList = 9 :: tailD ks e) (k : Nat) (h8 : k < 8) : (behindOf rest).getD k 0 = behAt (k + 1) ks e := by
  unfold behindOf
  rw [List.getD_eq_getElem?_getD, List.getElem?_map, List.getElem?_range h8]
  show (1 + (k : Int)) + _ = _
  have es : (Txt.slice rest (some 1) none).cps.toList = tailD ks e := by
    show (sliceText rest (some 1) none).cps.toList = _
    rw [sliceText_from ⟨by decide, by rw [hr, List.length_cons]; omega⟩, hr]
    simp
  rw [es]
  unfold behAt colOf
  rw [← tailD_map, col_map _ dotC (fun c => by unfold dotC; split <;> omega)]
  rw [show ((k + 1 : Nat) : Int) = 1 + (k : Int) from by rw [Int.add_comm]; rfl]
theorem pair_ok (hb : 1 ≤ b ∧ b ≤ 3) (hd : 1 ≤ d ∧ d ≤ 5) (hk : ∀ k ∈ ks, k ≤ 2) (he : e ≤ 2) (hz : z ≤ 2) (hr : rest.cps.toList = 9 :: tailD ks e) {j1 j2 : Nat} (h12 : j1 < j2) (h3 : j2 < 3) :
    PairOk (b : Int) (d : Int) (behindOf rest) j1 j2 (leadsOf b d z e ks j1) (leadsOf b d z e ks j2) := by
  obtain ⟨a1, a2, a3⟩ := rowA_ok (n1 := b + j1) (n2 := b + j2) (by omega)
  obtain ⟨t1, t2⟩ := rowC_top (d := d + j1) (d' := d + j2) hk he (by omega) (by omega)
  obtain ⟨c1, c2, c3, c4, c5, c6, c7⟩ := rowC_ok (D1 := d + j1) (D2 := d + j2) hk he (by omega) (by omega) (by omega) (by omega) (beh_get hr)
  have eD1 : ((d : Int) + (j1 : Int)).toNat = d + j1 := by omega
  have eD2 : ((d : Int) + (j2 : Int)).toNat = d + j2 := by omega
  have eD3 : ((d : Int) + (j2 : Int) + 1).toNat = d + j2 + 1 := by omega
  have eB3 : ((b : Int) + (j2 : Int) + 1).toNat = b + j2 + 1 := by omega
  have eN : (((d + j2 : Nat) : Int) + 1).toNat = d + j2 + 1 := by omega
  have eM : (((b + j2 : Nat) : Int) + 1).toNat = b + j2 + 1 := by omega
  have hzt : ∀ z, z ≤ 2 → 0 ≤ wsTop (rowB z) (rowB z) ∧ wsTop (rowB z) (rowB z) < 900 := by decide +kernel
  refine ⟨a1, ?_, a3, hzt z hz, wsWits_self _ _, ⟨rfl, rfl⟩, ⟨t1, t2⟩, ?_, ?_, ?_, ?_, c5, c6, c7⟩
  · show wsWits (rowA (b + j1)) (rowA (b + j2)) (wsTop (rowA (b + j1)) (rowA (b + j2))).toNat = _
    rw [a1, eM, a2, eB3]; rfl
  · show wsWits (rowC (d + j1) ks e) (rowC (d + j2) ks e) (wsTop (rowC (d + j1) ks e) (rowC (d + j2) ks e)).toNat = _
    rw [t1, eN, c1, eD1, eD2, eD3]
  · show wsBlind (rowC (d + j1) ks e) (rowC (d + j2) ks e) (wsTop (rowC (d + j1) ks e) (rowC (d + j2) ks e)).toNat = _
    rw [t1, eN, c2, eD1, eD2, eD3]
  · show wsWits (rowC (d + j2) ks e) (rowC (d + j1) ks e) (wsTop (rowC (d + j2) ks e) (rowC (d + j1) ks e)).toNat = _
    rw [t2, eN, c3, eD1, eD2, eD3]
  · show wsBlind (rowC (d + j2) ks e) (rowC (d + j1) ks e) (wsTop (rowC (d + j2) ks e) (rowC (d + j1) ks e)).toNat = _
    rw [t2, eN, c4, eD1, eD2, eD3]
end
end
section
open PySem PySem.W PyProof.Rows
open Rx PySem.StrLaws Builtin Builtin.Str
theorem fm3 (x : Int) : x.fmod 3 = x % 3 := Int.fmod_eq_emod_of_nonneg x (by decide)
theorem fm5 (x : Int) : x.fmod 5 = x % 5 := Int.fmod_eq_emod_of_nonneg x (by decide)
noncomputable def endOf (k : Int) : Str := if k = 0 then Str.ofString "\r\n" else if k = 1 then Str.ofString "\n" else Str.ofString "\r"
theorem end_len (k : Int) : (endOf k).length ≤ 2 := by
  unfold endOf
  split
  · decide
  · split <;> decide
theorem end_is (k : Int) : isEnd (endOf k).cps.toList := by
  unfold endOf isEnd
  split
  · exact .inl (by decide +kernel)
  · split
    · exact .inr (.inl (by decide +kernel))
    · exact .inr (.inr (by decide +kernel))
noncomputable def elemS (n : Int) : Str := Txt.mul (Str.ofString ".") (n.fmod 3) ++ Str.ofString "\t"
theorem tab_l : (Str.ofString "\t").cps.toList = [9] := by decide +kernel
theorem mul_fm (x : Int) (k : Nat) (h : x = (k : Int)) : (Txt.mul (Str.ofString ".") x).cps.toList = List.replicate k 46 := by rw [h, mul_dot]
theorem elem_l (n : Int) : (elemS n).cps.toList = List.replicate (n.fmod 3).toNat 46 ++ [9] := by
  unfold elemS
  rw [Str.cps_append, Array.toList_append, tab_l, mul_fm _ (n.fmod 3).toNat (by rw [fm3]; omega)]
theorem join_elems : ∀ q : List Int, (Str.join (Str.ofString "") (q.map elemS)).cps.toList = (q.map fun n => (n.fmod 3).toNat).flatMap fun k => List.replicate k 46 ++ [9]
  | [] => by simp [Str.join, Str.empty]
  | [n] => by
    show (elemS n).cps.toList = _
    rw [elem_l]; simp
  | n :: m :: r => by
    have ih := join_elems (m :: r)
    have e0 : (Str.ofString "").cps.toList = [] := by decide +kernel
    show (elemS n ++ Str.ofString "" ++ Str.join (Str.ofString "") ((m :: r).map elemS)).cps.toList = _
    rw [Str.cps_append, Array.toList_append, Str.cps_append, Array.toList_append, e0, ih, elem_l]
    simp
theorem law_texts (S n : Int) (q : List Int) (hq : q.length ≤ 4) {page still rest : Str} (es : still = Str.ofString "\t" ++ Txt.mul (Str.ofString ".") (n.fmod 3))
    (er : rest = Str.ofString "\t" ++ (Str.ofString "").join (q.map elemS) ++ Txt.mul (Str.ofString ".") ((S.fdiv 12).fmod 3))
    (ep : page = Txt.mul (Str.ofString ".") (1 + (S.fdiv 4).fmod 3) ++ Str.ofString "a" ++ endOf (S.fmod 3) ++ still ++ Str.ofString "b" ++ endOf (n.fmod 3) ++ Txt.mul (Str.ofString ".") (1 + S.fmod 5) ++ rest ++ Str.ofString "c" ++ endOf ((S.fdiv 3).fmod 3)) :
    ∃ ld, LawPre page still rest (1 + (S.fdiv 4).fmod 3) (1 + S.fmod 5) ld ∧ ∀ j1 j2, j1 < j2 → j2 < 3 → PairOk (1 + (S.fdiv 4).fmod 3) (1 + S.fmod 5) (behindOf rest) j1 j2 (ld j1) (ld j2) := by
  have hb : (1 + (S.fdiv 4).fmod 3) = (((1 + (S.fdiv 4).fmod 3).toNat : Nat) : Int) := by rw [fm3]; omega
  have hd : (1 + S.fmod 5) = (((1 + S.fmod 5).toNat : Nat) : Int) := by rw [fm5]; omega
  have hz : (n.fmod 3) = (((n.fmod 3).toNat : Nat) : Int) := by rw [fm3]; omega
  have he : ((S.fdiv 12).fmod 3) = ((((S.fdiv 12).fmod 3).toNat : Nat) : Int) := by rw [fm3]; omega
  have b1 : 1 ≤ (1 + (S.fdiv 4).fmod 3).toNat ∧ (1 + (S.fdiv 4).fmod 3).toNat ≤ 3 := by rw [fm3]; omega
  have b2 : 1 ≤ (1 + S.fmod 5).toNat ∧ (1 + S.fmod 5).toNat ≤ 5 := by rw [fm5]; omega
  have b3 : (n.fmod 3).toNat ≤ 2 := by rw [fm3]; omega
  have b4 : ((S.fdiv 12).fmod 3).toNat ≤ 2 := by rw [fm3]; omega
  have hk : ∀ k ∈ q.map (fun n => (n.fmod 3).toNat), k ≤ 2 := fun k hk => by
    obtain ⟨x, _, rfl⟩ := List.mem_map.mp hk
    rw [fm3]; omega
  have hs : still.cps.toList = 9 :: List.replicate (n.fmod 3).toNat 46 := by
    rw [es, Str.cps_append, Array.toList_append, tab_l, mul_fm _ _ hz]; rfl
  have hr : rest.cps.toList = 9 :: tailD (q.map fun n => (n.fmod 3).toNat) ((S.fdiv 12).fmod 3).toNat := by
    rw [er, Str.cps_append, Array.toList_append, Str.cps_append, Array.toList_append, tab_l, join_elems, mul_fm _ _ he]
    unfold tailD
    simp
  have l1 : (Str.ofString "a").cps.toList = [97] := by decide +kernel
  have l2 : (Str.ofString "b").cps.toList = [98] := by decide +kernel
  have l3 : (Str.ofString "c").cps.toList = [99] := by decide +kernel
  have hp : page.cps.toList = rwA (1 + (S.fdiv 4).fmod 3).toNat ++ (endOf (S.fmod 3)).cps.toList ++ rwB (n.fmod 3).toNat ++ (endOf (n.fmod 3)).cps.toList ++ rwC (1 + S.fmod 5).toNat (q.map fun n => (n.fmod 3).toNat) ((S.fdiv 12).fmod 3).toNat ++ (endOf ((S.fdiv 3).fmod 3)).cps.toList := by
    rw [ep]
    simp only [Str.cps_append, Array.toList_append, hs, hr, l1, l2, l3, mul_fm _ _ hb, mul_fm _ _ hd, rwA, rwB, rwC]
    simp
  refine ⟨leadsOf (1 + (S.fdiv 4).fmod 3).toNat (1 + S.fmod 5).toNat (n.fmod 3).toNat ((S.fdiv 12).fmod 3).toNat (q.map fun n => (n.fmod 3).toNat), ?_, fun j1 j2 h12 h3 => ?_⟩
  · rw [hb, hd]
    exact law_pre b1 b2 b3 hk (by rw [List.length_map]; exact hq) b4 hs hr (end_is _) (end_is _) (end_is _) hp
  · rw [hb, hd]
    exact pair_ok b1 b2 hk b4 b3 hr h12 h3
end
section
open PySem PySem.W PyProof.Rows
/-- the source of a list comprehension: a list of the ledger; each turn may count on the tokens made so far -/
noncomputable def SrcX (prog : Program) (w : World) (A : Around) (h₀ : Heap) (L : Addr) (m : Str → Option Value) (env : Env) (elt : Expr) (x : Str) (scope : Scope) (cl : List (Str × Addr)) (Q : Value → Shared → Prop) (xv : Value) (s₁ : Shared) : Prop :=
  ∃ (ax : Addr) (its : Array Value) (k : Nat) (news : List (Addr × Obj)) (R : Nat → List Value → List (Addr × Obj) → Prop), xv = .ref ax ∧ A.handled = none ∧ Fr h₀ L s₁.heap m ∧ News h₀ L s₁.heap news ∧ (ax, W.listOf its k) ∈ news ∧ its.size ≤ sizeLine ∧ R 0 [] [] ∧
    (∀ i v ys nl I oI C oC D m₂ h tk, i < its.size → its[i]? = some v → R i ys nl → s₁.toks ≤ tk → LCg.NsObj oC m₂ → m₂ x = some v → Fr h₀ L h m → News h₀ L h ((I, oI) :: (C, oC) :: (D, LCg.lst ys) :: (nl ++ news)) →
      wpAny (model prog w) A (eval elt (compEnvC scope cl C env)) (EltEnd s₁ h fun y nl' => R (i + 1) (ys ++ [y]) (nl' ++ nl)) noE { s₁ with heap := h, toks := tk }) ∧
    (∀ D h tk ys nl, R its.size ys nl → Fr h₀ L h m → News h₀ L h ((D, LCg.lst ys) :: (nl ++ news)) → (∀ p ∈ nl ++ news, p.1 ≠ D) → Q (.ref D) { s₁ with heap := h, toks := tk })

theorem compX {prog : Program} {w : World} {A : Around} {E : Value → Shared → Prop} {s : Shared} {h₀ : Heap} {L : Addr} {m : Str → Option Value} {env : Env} {elt iter : Expr} {x : Str} {px : Pos} {scope : Scope} {cl : List (Str × Addr)} {pos : Pos} {Q : Value → Shared → Prop}
    (_F₀ : Fr h₀ L s.heap m) (hclos : closureFor scope env = pure cl) (hcell : ∀ y ∈ scope.names, y.2 ≠ .cell) (hkind : scope.kind = .function)
    (hnames : ∀ y ∈ scope.names, y.2 = .local → scope.names.lookup y.1 = some .local) (hx : scope.names.lookup x = some .local)
    (h : wpAny (model prog w) A (eval iter env) (SrcX prog w A h₀ L m env elt x scope cl Q) E s)
    (hs : ∀ x, foldedSetIterable iter env x = pure x := by intro _; rfl) :
    wpAny (model prog w) A (eval (.ListComp elt [⟨.Name x px, iter, [], 0⟩] scope pos) env) Q E s := by
  rw [eval_ListComp]
  refine wpAny_comprehension_free (use := none) rfl hs hclos hkind hnames (wpAny_mono h (fun xv s₁ h₁ => ?_) fun _ _ e => e)
  obtain ⟨ax, its, k, news, R, rfl, hh, F, N, hm, hsz, R0, turn, fin⟩ := h₁
  have hax := N _ hm
  have hl : s₁.heap.IsList ax its := ⟨_, hax.1, rfl, _, rfl⟩
  have hlt : ax < s₁.heap.objs.size := Heap.lt_size hax.1
  refine wpAny_pyIter_list hl ?_
  refine wpAny_newObj_type (wpAny_newFunctionEnv hcell (by intro y hy; simp at hy) (fun h₁ hns₁ hsb₁ => ?_) hkind)
  dsimp only at hns₁ hsb₁ ⊢
  generalize eI : s₁.heap.push { cls := .type "list_iterator", data := .fields #[.ref ax, .int 0 0] } = HI at hns₁ hsb₁ ⊢
  generalize eD : HI.push { cls := .type "list", dict := none, data := .seq ([] : List Value).toArray } = HD at hns₁ hsb₁ ⊢
  have zI : HI.objs.size = s₁.heap.objs.size + 1 := by rw [← eI, Heap.size_push]
  have zD : HD.objs.size = HI.objs.size + 1 := by rw [← eD, Heap.size_push]
  generalize hIn : s₁.heap.objs.size = I at *
  generalize hDn : HI.objs.size = D at *
  generalize hCn : HD.objs.size = C at *
  have old : ∀ b o, s₁.heap.get? b = some o → h₁.get? b = some o ∧ b < I := fun b o e => by
    have hb : b < I := hIn ▸ Heap.lt_size e
    have hb' : @LT.lt Nat _ b I := hb
    have hne : @Ne Nat b C := by omega
    exact ⟨hsb₁.extBut b o hne (Heap.get?_push_of_some _ (by rw [← eD]; exact Heap.get?_push_of_some _ (by rw [← eI]; exact Heap.get?_push_of_some _ e))), hb⟩
  have nw : ∀ a, I ≤ a → h₀.get? a = none := fun a ha => by
    cases e : h₀.get? a with
    | none => rfl
    | some o => have := (old a o (F.keep a o e)).2; exact absurd this (Nat.not_lt.mpr ha)
  have hI1 : h₁.IsListIter I ax 0 := ⟨_, hsb₁.extBut I _ (by show @Ne Nat I C; omega) (Heap.get?_push_of_some _ (by rw [← eD]; exact Heap.get?_push_of_some _ (by rw [← eI, ← hIn]; exact Heap.get?_push_size _ rfl))), rfl, rfl⟩
  have hD1 : h₁.get? D = some (LCg.lst []) := hsb₁.extBut D _ (by show @Ne Nat D C; omega) (Heap.get?_push_of_some _ (by rw [← eD, ← hDn]; exact Heap.get?_push_size _ rfl))
  have hLI : L < I := by obtain ⟨o, _, _, e, _⟩ := F.ns; exact (old L o e).2
  have hL' : @LT.lt Nat _ L I := hLI
  have ne1 : ∀ p ∈ news, @LT.lt Nat _ p.1 I := fun p hp => (old _ _ (N p hp).1).2
  have loop : codeAny (model prog w) A (.compLoop (.ListComp elt [⟨.Name x px, iter, [], 0⟩] scope pos) 0 (.ref I) (.ref D) (compEnvC scope cl C env)) (compPost (model prog w) A E none Q (.ref D) C)
      { s₁ with heap := h₁, toks := s₁.toks + ([] : List (Str × Value)).length } := by
    refine codeAny_compLoop_tests
      (fun j s' => ∃ h' tk i ys m' nl, s' = { s₁ with heap := h', toks := tk } ∧ s₁.toks ≤ tk ∧ i ≤ its.size ∧ j = its.size + 1 - i ∧ ys.length = i ∧ h'.IsListIter I ax i ∧ Fr h₀ L h' m ∧ h'.Ns C m' ∧ News h₀ L h' ((D, LCg.lst ys) :: (nl ++ news)) ∧
        (∀ p ∈ nl, @Ne Nat p.1 I ∧ @Ne Nat p.1 C ∧ @Ne Nat p.1 D) ∧ R i ys nl) ?_ (its.size + 1)
      ⟨h₁, _, 0, [], _, [], rfl, Nat.le_add_right _ _, Nat.zero_le _, rfl, rfl, hI1, F.keeps fun b o e => (old b o e).1, hns₁, fun p hp => ?_, (fun _ hp => nomatch hp), R0⟩
    · rintro j s' ⟨h', tk, i, ys, m', nl, rfl, htk, hi, rfl, hyl, hit, F', hn', N', off', hR⟩
      have N'' : News h₀ L h' (nl ++ news) := fun p hp => N' p (List.mem_cons_of_mem _ hp)
      have offs : ∀ p ∈ nl ++ news, @Ne Nat p.1 I ∧ @Ne Nat p.1 C ∧ @Ne Nat p.1 D := fun p hp => by
        rcases List.mem_append.mp hp with hp | hp
        · exact off' p hp
        · have := ne1 p hp; omega
      have haxI : @Ne Nat I ax := by have : @LT.lt Nat _ ax I := hIn ▸ hlt; omega
      have hlax : h'.IsList ax its := ⟨_, (N'' _ (List.mem_append_right _ hm)).1, rfl, _, rfl⟩
      have W := Walks.list (prog := prog) (w := w) hh I ax (Ne.symm haxI) its
      by_cases hlt' : i < its.size
      · refine wpAny_tok (W.item i _ _ _ hlt' ⟨hit, hlax⟩ fun v h₂ tk₂ hPv hst₂ hk₂ => ?_)
        intro htk₂
        dsimp only at htk₂ ⊢
        refine wpAny_tok (wpAny_assign_Name (wpAny_storeName_local (lookup_relabel_local hx) (hn'.at' fun o e => hk₂ _ o (by simp; show ¬ @Eq Nat C I; omega) e) (fun h₃ hn₃ hs₃ => ?_) (by simp [compEnvC, relabel, hkind])))
        intro htk₃
        dsimp only at htk₃ ⊢
        refine wpAny_tests_nil ?_
        simp only [if_true]
        have F₂ : Fr h₀ L h₂ m := LCg.fr_but F' hk₂ (by show @Ne Nat L I; omega) (nw I (Nat.le_refl _))
        have N₂ : News h₀ L h₂ ((D, LCg.lst ys) :: (nl ++ news)) := LCg.news_but N' hk₂ fun p hp => by
          rcases List.mem_cons.mp hp with rfl | hp
          · show (D : Nat) ≠ I; omega
          · exact (offs p hp).1
        obtain ⟨oI, heI, hoI⟩ := hst₂.1
        obtain ⟨oC, heC, hoC⟩ := LCg.ns_obj hn₃
        have hCL : C ≠ L := by show @Ne Nat C L; omega
        have F₃ : Fr h₀ L h₃ m := F₂.change hs₃ hCL (nw C (by show @LE.le Nat _ I C; omega))
        have heI₃ : h₃.get? I = some oI := hs₃.extBut I _ (by show @Ne Nat I C; omega) heI
        have N₃ : News h₀ L h₃ ((I, oI) :: (C, oC) :: (D, LCg.lst ys) :: (nl ++ news)) := fun p hp => by
          rcases List.mem_cons.mp hp with rfl | hp
          · exact ⟨heI₃, by show @Ne Nat I L; omega, nw I (Nat.le_refl _)⟩
          · rcases List.mem_cons.mp hp with rfl | hp
            · exact ⟨heC, hCL, nw C (by show @LE.le Nat _ I C; omega)⟩
            · refine ⟨hs₃.extBut _ _ ?_ (N₂ p hp).1, (N₂ p hp).2⟩
              rcases List.mem_cons.mp hp with rfl | hp
              · show (D : Nat) ≠ C; omega
              · exact (offs p hp).2.1
        refine wpAny_tok (wpAny_mono (turn i v ys nl I oI C oC D _ h₃ _ hlt' hPv hR (by show s₁.toks ≤ _; omega) hoC (by first | (with_reducible (repeat (first | exact List.mem_cons_self | assumption | exact List.mem_append_left _ (by assumption) | exact List.mem_append_left _ (List.mem_append_left _ (by assumption)) | exact List.mem_append_left _ (List.mem_append_right _ (by assumption)) | refine List.mem_cons_of_mem _ ?_ | refine List.mem_append_right _ ?_)); done) | simp) F₃ N₃) (fun y s₄ h₄ => ?_) fun _ _ e => e.elim)
        intro htk₄
        obtain ⟨h₄, tk₄, nl', rfl, hk₄, hnew, hR₄⟩ := h₄
        dsimp only at htk₄ ⊢
        have hfr : ∀ p ∈ nl', ∀ q o, h₃.get? q = some o → @Ne Nat p.1 q := fun p hp q o e e' => by have e'' : p.1 = q := e'; rw [← e'', (hnew p hp).2] at e; cases e
        have N₄ := N₃.grown hk₄
        have zD₄ := (N₄ (D, LCg.lst ys) (by first | (with_reducible (repeat (first | exact List.mem_cons_self | assumption | exact List.mem_append_left _ (by assumption) | exact List.mem_append_left _ (List.mem_append_left _ (by assumption)) | exact List.mem_append_left _ (List.mem_append_right _ (by assumption)) | refine List.mem_cons_of_mem _ ?_ | refine List.mem_append_right _ ?_)); done) | simp)).1
        have zI₄ := (N₄ (I, oI) (by first | (with_reducible (repeat (first | exact List.mem_cons_self | assumption | exact List.mem_append_left _ (by assumption) | exact List.mem_append_left _ (List.mem_append_left _ (by assumption)) | exact List.mem_append_left _ (List.mem_append_right _ (by assumption)) | refine List.mem_cons_of_mem _ ?_ | refine List.mem_append_right _ ?_)); done) | simp)).1
        have zC₄ := (N₄ (C, oC) (by first | (with_reducible (repeat (first | exact List.mem_cons_self | assumption | exact List.mem_append_left _ (by assumption) | exact List.mem_append_left _ (List.mem_append_left _ (by assumption)) | exact List.mem_append_left _ (List.mem_append_right _ (by assumption)) | refine List.mem_cons_of_mem _ ?_ | refine List.mem_append_right _ ?_)); done) | simp)).1
        have F₄ := F₃.grownK hk₄
        refine append_at (hsz := by show ys.toArray.size ≤ sizeLine; rw [List.size_toArray, hyl]; exact Nat.le_trans hi hsz) zD₄ fun h₅ hs₅ hD₅ => ?_
        have hDL : D ≠ L := by show @Ne Nat D L; omega
        refine ⟨its.size + 1 - (i + 1), by omega, h₅, tk₄, i + 1, ys ++ [y], _, nl' ++ nl, rfl, by omega, hlt', rfl, by rw [List.length_append, List.length_singleton, hyl], ?_, F₄.change hs₅ hDL (nw D (by show @LE.le Nat _ I D; omega)), (hoC.ns zC₄).sameBut hs₅ (by show @Ne Nat C D; omega), fun p hp => ?_, fun p hp => ?_, hR₄⟩
        · exact ⟨oI, hs₅.extBut I _ (by show @Ne Nat I D; omega) zI₄, hoI⟩
        · rcases List.mem_cons.mp hp with rfl | hp
          · exact ⟨hD₅.trans (congrArg some (LCg.lst_snoc ys y)), hDL, nw D (by show @LE.le Nat _ I D; omega)⟩
          · rw [List.append_assoc] at hp
            rcases List.mem_append.mp hp with hp | hp
            · refine ⟨hs₅.extBut _ _ (hfr p hp D _ (N₃ (D, LCg.lst ys) (by first | (with_reducible (repeat (first | exact List.mem_cons_self | assumption | exact List.mem_append_left _ (by assumption) | exact List.mem_append_left _ (List.mem_append_left _ (by assumption)) | exact List.mem_append_left _ (List.mem_append_right _ (by assumption)) | refine List.mem_cons_of_mem _ ?_ | refine List.mem_append_right _ ?_)); done) | simp)).1) (hnew p hp).1, ?_, ?_⟩
              · obtain ⟨o, _, _, e, _⟩ := F₃.ns; exact hfr p hp L o e
              · cases e : h₀.get? p.1 with
                | none => rfl
                | some o => have := F₃.keep _ _ e; rw [(hnew p hp).2] at this; cases this
            · exact ⟨hs₅.extBut _ _ (offs p hp).2.2 (N₄ p (by first | (with_reducible (repeat (first | exact List.mem_cons_self | assumption | exact List.mem_append_left _ (by assumption) | exact List.mem_append_left _ (List.mem_append_left _ (by assumption)) | exact List.mem_append_left _ (List.mem_append_right _ (by assumption)) | refine List.mem_cons_of_mem _ ?_ | refine List.mem_append_right _ ?_)); done) | simp [hp])).1, (N₄ p (by first | (with_reducible (repeat (first | exact List.mem_cons_self | assumption | exact List.mem_append_left _ (by assumption) | exact List.mem_append_left _ (List.mem_append_left _ (by assumption)) | exact List.mem_append_left _ (List.mem_append_right _ (by assumption)) | refine List.mem_cons_of_mem _ ?_ | refine List.mem_append_right _ ?_)); done) | simp [hp])).2⟩
        · rcases List.mem_append.mp hp with hp | hp
          · exact ⟨hfr p hp I _ heI₃, hfr p hp C _ heC, hfr p hp D _ (N₃ (D, LCg.lst ys) (by first | (with_reducible (repeat (first | exact List.mem_cons_self | assumption | exact List.mem_append_left _ (by assumption) | exact List.mem_append_left _ (List.mem_append_left _ (by assumption)) | exact List.mem_append_left _ (List.mem_append_right _ (by assumption)) | refine List.mem_cons_of_mem _ ?_ | refine List.mem_append_right _ ?_)); done) | simp)).1⟩
          · exact off' p hp
      · obtain rfl : i = its.size := Nat.le_antisymm hi (Nat.not_lt.mp hlt')
        refine W.done _ _ _ ⟨hit, hlax⟩ fun h₂ tk₂ hk₂ => ?_
        refine ⟨_, hn'.at' fun o e => hk₂ _ o (by simp; show ¬ @Eq Nat C I; omega) e, fun h'' hs'' => ?_⟩
        have F₂ : Fr h₀ L h₂ m := LCg.fr_but F' hk₂ (by show @Ne Nat L I; omega) (nw I (Nat.le_refl _))
        refine fin D h'' tk₂ ys nl hR (F₂.change hs'' (by show @Ne Nat C L; omega) (nw C (by show @LE.le Nat _ I C; omega))) (fun p hp => ?_) (fun p hp => (offs p hp).2.2)
        have hpI : p.1 ≠ I ∧ p.1 ≠ C := by
          rcases List.mem_cons.mp hp with rfl | hp
          · exact ⟨by show @Ne Nat D I; omega, by show @Ne Nat D C; omega⟩
          · exact ⟨(offs p hp).1, (offs p hp).2.1⟩
        exact ⟨hs''.extBut _ _ hpI.2 (hk₂ _ _ (by simpa using hpI.1) (N' p hp).1), (N' p hp).2⟩
    · rcases List.mem_cons.mp hp with rfl | hp
      · exact ⟨hD1, by show @Ne Nat D L; omega, nw D (by show @LE.le Nat _ I D; omega)⟩
      · have hp' : p ∈ news := by simpa using hp
        exact ⟨(old _ _ (N p hp').1).1, (N p hp').2⟩
  have hlax1 : h₁.IsList ax its := ⟨_, (old _ _ hax.1).1, rfl, _, rfl⟩
  have haxI : @Ne Nat I ax := by have : @LT.lt Nat _ ax I := hIn ▸ hlt; omega
  exact codeAny_compStart_list loop ((Walks.list (prog := prog) (w := w) hh I ax (Ne.symm haxI) its).self 0 _ _ _ ⟨hI1, hlax1⟩ loop)
end
section
open PySem PySem.W PyProof.Rows
/-- how a turn that ends upon the ledger ends upon a comprehension -/
theorem EltEnd.comp {s : Shared} {h₀ h : Heap} {L I C D : Addr} {oI oC : Obj} {m : Str → Option Value} {ys : List Value} {nl news : List (Addr × Obj)} {S : List (Addr × Obj) → Prop} {tk : Nat} {Rn : Value → List (Addr × Obj) → Prop} {K : Value → List (Addr × Obj) → Prop} {y : Value} {s' : Shared}
    (hy : EltEnd s h Rn y s') (F : Fr h₀ L h m) (N : News h₀ L h ((I, oI) :: (C, oC) :: (D, LCg.lst ys) :: (nl ++ news))) (off : LCg.Off3 I C D (nl ++ news)) (hS : ∀ nl, S (nl ++ news)) (hk : ∀ nl', Rn y nl' → K y ((nl' ++ nl) ++ news)) :
    LCg.CompEnd h₀ L m { s with heap := h, toks := tk } I oI C oC D (LCg.lst ys) S K y s' := by
  obtain ⟨h', tk', nl', rfl, hkp, hnew, hR'⟩ := hy
  have N' := N.grown hkp
  have hLs : ∃ o, h.get? L = some o := let ⟨o, _, _, e, _⟩ := F.ns; ⟨o, e⟩
  have fresh : ∀ p ∈ nl', ∀ q o, h.get? q = some o → p.1 ≠ q := fun p hp q o e e' => by rw [← e', (hnew p hp).2] at e; cases e
  refine ⟨h', tk', nl' ++ (nl ++ news), rfl, F.grownK hkp, fun p hp => ?_, ?_, by rw [← List.append_assoc]; exact hS _, by rw [← List.append_assoc]; exact hk _ hR'⟩
  · have : p ∈ (I, oI) :: (C, oC) :: (D, LCg.lst ys) :: (nl ++ news) ∨ p ∈ nl' := by
      simp only [List.mem_cons, List.mem_append] at hp ⊢
      rcases hp with h1 | h1 | h1 | h1 | h1 | h1
      · exact .inl (.inl h1)
      · exact .inl (.inr (.inl h1))
      · exact .inl (.inr (.inr (.inl h1)))
      · exact .inr h1
      · exact .inl (.inr (.inr (.inr (.inl h1))))
      · exact .inl (.inr (.inr (.inr (.inr h1))))
    rcases this with h1 | h1
    · exact N' p h1
    · refine ⟨(hnew p h1).1, ?_, ?_⟩
      · obtain ⟨o, e⟩ := hLs; exact fresh p h1 L o e
      · cases e : h₀.get? p.1 with
        | none => rfl
        | some o => have := F.keep _ _ e; rw [(hnew p h1).2] at this; cases this
  · refine LCg.Off3.of fun p hp => ?_
    rcases List.mem_append.mp hp with h1 | h1
    · exact ⟨fresh p h1 I oI (N (I, oI) (by first | (with_reducible (repeat (first | exact List.mem_cons_self | assumption | exact List.mem_append_left _ (by assumption) | exact List.mem_append_left _ (List.mem_append_left _ (by assumption)) | exact List.mem_append_left _ (List.mem_append_right _ (by assumption)) | refine List.mem_cons_of_mem _ ?_ | refine List.mem_append_right _ ?_)); done) | simp)).1, fresh p h1 C oC (N (C, oC) (by first | (with_reducible (repeat (first | exact List.mem_cons_self | assumption | exact List.mem_append_left _ (by assumption) | exact List.mem_append_left _ (List.mem_append_left _ (by assumption)) | exact List.mem_append_left _ (List.mem_append_right _ (by assumption)) | refine List.mem_cons_of_mem _ ?_ | refine List.mem_append_right _ ?_)); done) | simp)).1, fresh p h1 D _ (N (D, LCg.lst ys) (by first | (with_reducible (repeat (first | exact List.mem_cons_self | assumption | exact List.mem_append_left _ (by assumption) | exact List.mem_append_left _ (List.mem_append_left _ (by assumption)) | exact List.mem_append_left _ (List.mem_append_right _ (by assumption)) | refine List.mem_cons_of_mem _ ?_ | refine List.mem_append_right _ ?_)); done) | simp)).1⟩
    · exact off.mem p h1
theorem comp_restT {prog : Program} {w : World} {A : Around} {s : Shared} {h₀ : Heap} {L : Addr} {m : Str → Option Value} {env : Env} {ct elt : Expr} {x : Str} {scope : Scope} {cl : List (Str × Addr)} {S : List (Addr × Obj) → Prop} {P : Nat → Value → Prop}
    {Fin : List Value → List (Addr × Obj) → Prop} {n : Nat} {news : List (Addr × Obj)} (R : Nat → List Value → List (Addr × Obj) → Prop) (hS : ∀ nl, S (nl ++ news)) (h0 : R 0 [] [])
    (turn : ∀ i v ys nl I oI C oC D m₂ h tk, i < n → P i v → R i ys nl → LCg.NsObj oC m₂ → m₂ x = some v → Fr h₀ L h m → News h₀ L h ((I, oI) :: (C, oC) :: (D, LCg.lst ys) :: (nl ++ news)) →
      wpAny (model prog w) A (isTrue ct (compEnvC scope cl C env) (eval ct (compEnvC scope cl C env))) (fun ok s' => if ok = true then
        wpAny (model prog w) A (eval elt (compEnvC scope cl C env)) (EltEnd s h fun y nl' => R (i + 1) (ys ++ [y]) (nl' ++ nl)) noE s'
        else EltEnd s h (fun _ nl' => R (i + 1) ys (nl' ++ nl)) Value.none s') noE { s with heap := h, toks := tk })
    (fin : ∀ ys nl, R n ys nl → Fin ys (nl ++ news)) :
    LCt.CompRestT prog w A h₀ L m env ct elt x scope cl s S P Fin n 0 [] news := by
  suffices H : ∀ k i ys nl, i + k = n → R i ys nl → LCt.CompRestT prog w A h₀ L m env ct elt x scope cl s S P Fin k i ys (nl ++ news) from H n 0 [] [] (by omega) h0
  intro k
  induction k with
  | zero => intro i ys nl hi hR; obtain rfl : i = n := by omega
            exact fin ys nl hR
  | succ k ih =>
    intro i ys nl hi hR v I oI C oC D m₂ h tk E' hP hC hx F N off ne
    refine wpAny_mono (turn i v ys nl I oI C oC D m₂ h tk (by omega) hP hR hC hx F N) (fun ok s' hok => ?_) fun _ _ e => e.elim
    cases ok with
    | true =>
      simp only [if_true] at hok ⊢
      exact wpAny_mono hok (fun y s'' hy => hy.comp F N off hS fun nl' r => ih (i + 1) _ _ (by omega) r) fun _ _ e => e.elim
    | false =>
      simp only [Bool.false_eq_true, if_false] at hok ⊢
      exact hok.comp F N off hS fun nl' r => ih (i + 1) _ _ (by omega) r
end
section
open PySem PySem.W PyProof.Rows
example : True := by
  k_with_none
  k_with "getAttr ref" => (k_dflt (refine' get_own (by assumption) (by assumption) (by exact (WsAt.keeps (by assumption) (Fr.keep (by assumption))).at) (by k_is) (by k_is) (by k_is) (by k_is) (by first | exact WsAt.norm (by assumption) | exact WsAt.n (by assumption) | exact WsAt.nt (by assumption) | exact WsAt.simple (by assumption)) (by rfl) ?_))
  k_with "exec For Name Call cons nil" => k_dflt (refine wpAny_For ?_)
  k_with "exec For Name Name cons nil" => k_dflt (refine wpAny_For ?_)
  k_with "exec For Name Attribute cons nil" => k_dflt (refine wpAny_For ?_)
  k_with "eval Name" => (k_dflt (refine' PyProof.Rows.ld (by assumption) (by first | exact rfl | assumption) ?_))
  k_with "execs cons Assign cons" => (k_dflt (refine wpAny_execs_cons ?_))
  k_with "execs cons Assign nil" => (k_dflt (refine wpAny_execs_cons ?_))
  k_with "eval ListComp" => (k_dflt (refine LCg.ListComp_U (F₀ := by assumption) (by with_unfolding_all rfl) (by decide) (by rfl) (by decide) (by rfl) ?_))
  k_with "CompSrc" => refine Stop.out ?_
  k_with "binaryOp Add str str" => (k_dflt (refine PyProof.Rows.add_str (hsz := (by first | decide | (simp only [slen_append, slen_lit]; omega) | (simp only [slen_append]; omega))) ?_); intro _ _)
  k_with "eval Name" => ((with_reducible show wpAny _ _ (eval (Expr.Name _ _) (compEnvC _ _ _ _)) _ _ _); k_dflt (first | refine comp_global (by assumption) (by assumption) (by assumption) (by k_is) ?_ | refine comp_built (by assumption) (by assumption) (by assumption) (by k_is) (by boot_by_name) (by decide) ?_))
  trivial
open Rx
example : True := by
  k_with "eval ListComp" => (k_dflt (refine compX (by assumption) (by with_unfolding_all rfl) (by decide) (by rfl) (by decide) (by rfl) ?_))
  k_with "SrcX" => refine Stop.out ?_
  trivial
section
variable {w : World} {dp un : Nat} {fr : Option (List Env)} {gd : Option (List Code)} {E : Value → Shared → Prop} {s : Shared} {h₀ : Heap} {L : Addr} {m mg mb : Str → Option Value} {news : List (Addr × Obj)} {ws : Str} {tw : Tok} {Q : Value → Shared → Prop}
theorem make_call (F : Fr h₀ L s.heap m) (N : News h₀ L s.heap news) (X : (hd.heap_39 w.params).In h₀) (T : TopRead hd.view_39 LO mg mb h₀) (hA : dp < 400) (hU : un < 5000) (hn : ws.length < 500)
    (h : ∀ x l h' tk', (∀ b o, s.heap.get? b = some o → h'.get? b = some o) → (∀ p ∈ l, h'.get? p.1 = some p.2 ∧ s.heap.get? p.1 = none) → WsIn l x (wsOf ws.cps.toList) → Q (.ref x) { s with heap := h', toks := tk' }) :
    wpAny (model PySem.Challenge.rw_pe0145_01.row.prog w) ⟨none, dp, fr, gd, un⟩ (call (.ref 93) [.str ws tw]) Q E s :=
  make_spec (X.keeps F.keep) (T.keeps F.keep) hA hU hn h
end
example : True := by
  k_with "call builtin:str.replace" => (k_dflt (refine PySem.SC.replaceW (by omega) (by omega) (by omega) (by decide) (by omega) (by decide) ?_); intro _ _)
  k_with "call ref" => (k_dflt (refine' make_call (by assumption) (by assumption) (by assumption) (by assumption) (by first | omega | (dsimp only; omega)) (by first | omega | (dsimp only; omega)) (by assumption) ?_); intro _ _ _ _ _ _ _)
  k_with "call builtin:str.split" => (k_dflt (refine wpAny_tok ?_; refine KSpl.split1 (by assumption) (by assumption) (by decide) ?_ (by show _ ≤ 16777216; omega)); intro _ _ _ _ _ _ _ _ l1 _; dsimp only at htk')
  trivial
theorem lead_tail {w : World} {dp un : Nat} {fr : Option (List Env)} {gd : Option (List Code)} {s : Shared} {h₀ : Heap} {L fa : Addr} {cd : Value} {mg mb m : Str → Option Value} {Q : Flow → Shared → Prop} {told : Str} {tm : Tok} {news : List (Addr × Obj)}
    {Dl : Addr} {vs : List Value} {n : Nat} {r0 r1 r2 r3 : Str}
    (X : (hd.heap_39 w.params).In h₀) (T : TopRead hd.view_39 LO mg mb h₀) (hA : dp < 350) (hU : un < 4000) (hto : told.length ≤ 400) (hrep : ∀ r : Str, (Txt.replace r (Str.ofString ".") (Str.ofString " ")).length = r.length) (hvs : vs.length ≤ 10)
    (F : Fr h₀ L s.heap m) (N : News h₀ L s.heap ((Dl, W.listOf vs.toArray n) :: news)) (off : ∀ p ∈ news, p.1 ≠ Dl)
    (mm : m (Str.ofString "mail") = some (.str told tm)) (ml : m (Str.ofString "leads") = some (.ref Dl))
    (e : Txt.split told (Str.ofString "\r\n") = [r0, r1, r2, r3])
    (h : ∀ v l n' h' tk', Fr h₀ L h' m → News h₀ L h' ((Dl, W.listOf (vs ++ [v]).toArray n') :: (l ++ news)) → (∀ p ∈ l, ∀ q ∈ (Dl, W.listOf vs.toArray n) :: news, p.1 ≠ q.1) → Lead l v ⟨wsOf (blank r0), wsOf (blank r1), wsOf (blank r2)⟩ → Q .next { s with heap := h', toks := tk' }) :
    wpAny (model PySem.Challenge.rw_pe0145_01.row.prog w) ⟨none, dp, fr, gd, un⟩ (execs sentTail (envOfC (Str.ofString "law") lawScope L fa cd)) Q noE s := by
  delta sentTail lawScope pick
  k_steps
  all_goals try k_data
  unfold Stop
  rename List.map _ _ = Txt.split _ _ => e'
  have hlen : ∀ a ∈ Txt.split told (Str.ofString "\r\n"), a.length ≤ told.length := fun a ha => part_short ha
  rw [e] at e'
  rename List (Str × Tok) => l'
  obtain ⟨t0, t1, t2, t3, rfl⟩ : ∃ t0 t1 t2 t3, l' = [(r0, t0), (r1, t1), (r2, t2), (r3, t3)] := by
    rcases l' with _ | ⟨⟨a0, t0⟩, _ | ⟨⟨a1, t1⟩, _ | ⟨⟨a2, t2⟩, _ | ⟨⟨a3, t3⟩, _ | ⟨_, _⟩⟩⟩⟩⟩ <;> simp at e'
    obtain ⟨rfl, rfl, rfl, rfl⟩ := e'
    exact ⟨_, _, _, _, rfl⟩
  have hl0 : r0.length ≤ 400 := Nat.le_trans (hlen r0 (by rw [e]; simp)) hto
  have hl1 : r1.length ≤ 400 := Nat.le_trans (hlen r1 (by rw [e]; simp)) hto
  have hl2 : r2.length ≤ 400 := Nat.le_trans (hlen r2 (by rw [e]; simp)) hto
  rename News _ _ _ _ => N9
  rename Fr _ _ _ _ => F9
  refine ⟨_, #[.str r0 t0, .str r1 t1, .str r2 t2], _, _, fun i ys nl => i = ys.length ∧ (∀ j v, ys[j]? = some v → ∃ a, v = .ref a ∧ WsIn nl a (wsOf (blank ([r0, r1, r2].getD j r0)))) ∧ (∀ p ∈ nl, ∀ q ∈ (Dl, W.listOf vs.toArray n) :: news, p.1 ≠ q.1), rfl, rfl, F9, N9, by exact List.mem_cons_self, by show 3 ≤ 16777216; decide, ⟨rfl, fun j v e => by simp at e, fun _ hp => nomatch hp⟩, ?_, ?_⟩
  · rintro i v ys nl I oI C oC D m₂ h₂ tk hi hP ⟨hiy, hR, hoff⟩ htk' hC hx F₂ N₂
    obtain ⟨r, t, rfl, hr, hrl⟩ : ∃ r t, v = .str r t ∧ r = [r0, r1, r2].getD i r0 ∧ r.length ≤ 400 := by
      rcases i with _ | _ | _ | i
      · simp at hP; exact ⟨_, _, hP.symm, rfl, hl0⟩
      · simp at hP; exact ⟨_, _, hP.symm, rfl, hl1⟩
      · simp at hP; exact ⟨_, _, hP.symm, rfl, hl2⟩
      · simp at hi; omega
    show wpAny _ _ _ _ _ _
    dsimp only at htk'
    have htk2 : 0 < tk := by omega
    k_steps
    refine PySem.SC.replaceW (Nat.pos_iff_ne_zero.mp htk2) (Nat.succ_ne_zero _) (Nat.ne_of_lt (Nat.lt_succ_self _)) (by decide) (by omega) (by decide) ?_
    intro t9 k9
    have hbl : (Txt.replace r (Str.ofString ".") (Str.ofString " ")).length < 500 := by rw [hrep]; omega
    k_steps
    rename List (Addr × Obj) => l9
    refine ⟨_, _, l9, rfl, by assumption, by assumption, by simp [hiy], fun j v hj => ?_, fun p hp q hq => ?_⟩
    · rcases Nat.lt_or_ge j ys.length with hlt | hge
      · rw [List.getElem?_append_left hlt] at hj
        obtain ⟨a, e1, e2⟩ := hR j v hj
        exact ⟨a, e1, e2.mono fun p hp => List.mem_append_right _ hp⟩
      · rw [List.getElem?_append_right hge] at hj
        have hj0 : j - ys.length = 0 := by
          rcases hq : j - ys.length with _ | q
          · rfl
          · rw [hq] at hj; simp at hj
        rw [hj0] at hj
        simp only [List.getElem?_cons_zero, Option.some.injEq] at hj
        subst hj
        have hji : j = i := by omega
        subst hji
        rename WsIn _ _ _ => hw9
        refine ⟨_, rfl, ?_⟩
        rw [← hr]
        exact hw9.mono fun p hp => List.mem_append_left _ hp
    · rcases List.mem_append.mp hp with hp | hp
      · rename ∀ p ∈ l9, _ => hn9
        intro e9
        have := (hn9 p hp).2
        rw [e9] at this
        have z := (N₂ q (List.mem_cons_of_mem _ (List.mem_cons_of_mem _ (List.mem_cons_of_mem _ (List.mem_append_right _ (List.mem_cons_of_mem _ (List.mem_cons_of_mem _ hq))))))).1
        rw [this] at z; cases z
      · exact hoff p hp q hq
  · rintro D h₂ tk ys nl ⟨hyl, hR, hoff⟩ F₂ N₂ off₂
    dsimp only
    k_steps
    have hD : @Ne Nat D Dl := fun q => off₂ (Dl, W.listOf vs.toArray n) (by first | (with_reducible (repeat (first | exact List.mem_cons_self | assumption | exact List.mem_append_left _ (by assumption) | exact List.mem_append_left _ (List.mem_append_left _ (by assumption)) | exact List.mem_append_left _ (List.mem_append_right _ (by assumption)) | refine List.mem_cons_of_mem _ ?_ | refine List.mem_append_right _ ?_)); done) | simp) q.symm
    have zl := N₂ (Dl, W.listOf vs.toArray n) (by first | (with_reducible (repeat (first | exact List.mem_cons_self | assumption | exact List.mem_append_left _ (by assumption) | exact List.mem_append_left _ (List.mem_append_left _ (by assumption)) | exact List.mem_append_left _ (List.mem_append_right _ (by assumption)) | refine List.mem_cons_of_mem _ ?_ | refine List.mem_append_right _ ?_)); done) | simp)
    refine append_at (hsz := by show vs.toArray.size ≤ 2 ^ 24; rw [List.size_toArray]; omega) zl.1 fun h' hs ho' => ?_
    k_steps
    obtain ⟨a, b, c, rfl, ha, hb, hc⟩ : ∃ a b c, ys = [.ref a, .ref b, .ref c] ∧ WsIn nl a (wsOf (blank r0)) ∧ WsIn nl b (wsOf (blank r1)) ∧ WsIn nl c (wsOf (blank r2)) := by
      rcases ys with _ | ⟨v0, _ | ⟨v1, _ | ⟨v2, _ | ⟨v3, ys⟩⟩⟩⟩ <;> simp at hyl
      obtain ⟨a, rfl, ha⟩ := hR 0 _ rfl
      obtain ⟨b, rfl, hb⟩ := hR 1 _ rfl
      obtain ⟨c, rfl, hc⟩ := hR 2 _ rfl
      exact ⟨a, b, c, rfl, ha, hb, hc⟩
    refine h (.ref D) ((D, LCg.lst [.ref a, .ref b, .ref c]) :: nl) (n + 1) h' _ (F₂.change hs zl.2.1 zl.2.2) (fun p hp => ?_) (fun p hp q hq => ?_) ?_
    · rcases List.mem_cons.mp hp with rfl | hp
      · exact ⟨by rw [ho']; simp, zl.2⟩
      · have hp2 : p ∈ (D, LCg.lst [.ref a, .ref b, .ref c]) :: nl ∨ p ∈ news := by simpa [or_assoc] using hp
        have hpn : p.1 ≠ Dl := by
          rcases hp2 with hp2 | hp2
          · rcases List.mem_cons.mp hp2 with rfl | hp2
            · exact hD
            · exact hoff p hp2 _ List.mem_cons_self
          · exact off p hp2
        have hpN := N₂ p (by
          rcases hp2 with hp2 | hp2
          · rcases List.mem_cons.mp hp2 with rfl | hp2
            · exact List.mem_cons_self
            · simp [hp2]
          · simp [hp2])
        exact ⟨hs.extBut _ _ hpn hpN.1, hpN.2⟩
    · rcases List.mem_cons.mp hp with rfl | hp2
      · intro e9
        exact off₂ q (List.mem_append_right _ (List.mem_cons_of_mem _ (List.mem_cons_of_mem _ hq))) e9.symm
      · exact hoff p hp2 q hq
    · exact ⟨D, a, b, c, 3, rfl, by simp, ha.mono (by intro p hp; simp [hp]), hb.mono (by intro p hp; simp [hp]), hc.mono (by intro p hp; simp [hp])⟩
end
section
open PySem PySem.W PyProof.Rows
example : True := by
  k_with_none
  k_with "getAttr ref" => (k_dflt (refine' get_own (by assumption) (by assumption) (by exact (WsAt.keeps (by assumption) (Fr.keep (by assumption))).at) (by k_is) (by k_is) (by k_is) (by k_is) (by first | exact WsAt.norm (by assumption) | exact WsAt.n (by assumption) | exact WsAt.nt (by assumption) | exact WsAt.simple (by assumption)) (by rfl) ?_))
  k_with "exec For Name Call cons nil" => k_dflt (refine wpAny_For ?_)
  k_with "exec For Name Name cons nil" => k_dflt (refine wpAny_For ?_)
  k_with "exec For Name Attribute cons nil" => k_dflt (refine wpAny_For ?_)
  k_with "eval Name" => (k_dflt (refine' PyProof.Rows.ld (by assumption) (by first | exact rfl | assumption) ?_))
  k_with "execs cons Assign cons" => (k_dflt (refine wpAny_execs_cons ?_))
  k_with "execs cons Assign nil" => (k_dflt (refine wpAny_execs_cons ?_))
  k_with "eval ListComp" => (k_dflt (refine LCg.ListComp_U (F₀ := by assumption) (by with_unfolding_all rfl) (by decide) (by rfl) (by decide) (by rfl) ?_))
  k_with "CompSrc" => refine Stop.out ?_
  k_with "binaryOp Add str str" => (k_dflt (refine PyProof.Rows.add_str (hsz := (by first | decide | (simp only [slen_append, slen_lit]; omega) | (simp only [slen_append]; omega))) ?_); intro _ _)
  k_with "eval Name" => ((with_reducible show wpAny _ _ (eval (Expr.Name _ _) (compEnvC _ _ _ _)) _ _ _); k_dflt (first | refine comp_global (by assumption) (by assumption) (by assumption) (by k_is) ?_ | refine comp_built (by assumption) (by assumption) (by assumption) (by k_is) (by boot_by_name) (by decide) ?_))
  trivial
open Rx

example : True := by
  k_with "call ref" => (k_dflt (refine' quote_call (by assumption) (by assumption) (by assumption) (by assumption) (by first | omega | (dsimp only; omega)) (by assumption) ?_); intro _ _ _ _ _; (try k_sweep))
  k_with "exec Expr" => refine Stop.out ?_
  k_with "execs cons Expr nil" => refine Stop.out ?_
  k_with "execs cons Expr" => refine Stop.out ?_
  trivial

example : True := by
  k_with "eval Name" => ((with_reducible show wpAny _ _ (eval (Expr.Name _ _) (compEnvC _ _ _ _)) _ _ _); k_dflt (refine' comp_free (by assumption) (by rfl) (by k_mem) (by assumption) ?_ (by rfl) (by rfl)))
  k_with "eval Name" => ((with_reducible show wpAny _ _ (eval (Expr.Name _ _) (envOfC _ _ _ _ _)) _ _ _); k_dflt (refine' ld_cell (by assumption) (by rfl) (by rfl) (by with_reducible (repeat (first | exact List.mem_cons_self | apply List.mem_cons_of_mem))) (by with_reducible assumption) ?_))
  k_with "eval Name" => ((with_reducible show wpAny _ _ (eval (Expr.Name _ _) (compEnvC _ _ _ _)) _ _ _); k_dflt (refine' comp_cell (by assumption) (by rfl) (by rfl) (by with_reducible (repeat (first | exact List.mem_cons_self | apply List.mem_cons_of_mem))) (by with_reducible assumption) ?_))
  trivial
theorem sent_mid {w : World} {dp un : Nat} {fr : Option (List Env)} {gd : Option (List Code)} {s : Shared} {h₀ : Heap} {L fa : Addr} {cd : Value} {m mg mb : Str → Option Value} {o1 o2 o3 o4 o5 : Obj} {ps : Array Value} {still rest ml : Str} {tr tb tm ts td tv : Tok} {bare dots : Int} {Q : Flow → Shared → Prop}
    {Dl Db I : Addr} {bs : List Value} (hrep : ∀ r : Str, (Txt.replace r (Str.ofString ".") (Str.ofString " ")).length = r.length)
    (X : (hd.heap_39 w.params).In h₀) (T : TopRead hd.view_39 LO mg mb h₀) (hA : dp < 350) (hU : un < 4000)
    (d4 : o4.data = .cell (some (.str rest tr))) (d5 : o5.data = .cell (some (.int bare tb)))
    (hb1 : 1 ≤ bare) (hb2 : bare ≤ 3) (hd1 : 1 ≤ dots) (hd2 : dots ≤ 5) (hrs : rest.length ≤ 100) (hst : still.length ≤ 100)
    {i : Nat} {oI : Obj} {old : List (Addr × Obj)} {vs : List Value} {n : Nat} {r0 r1 r2 r3 : Str} (hi : i < 3)
    (F : Fr h₀ L s.heap m) (N : News h₀ L s.heap ((Dl, W.listOf vs.toArray n) :: (I, oI) :: (Db, LCg.lst bs) :: (L + 1 + 1 + 1 + 1 + 1, o1) :: (L + 1 + 1 + 1 + 1, o2) :: (L + 1 + 1 + 1, o3) :: (L + 1 + 1, o4) :: (L + 1, o5) :: (99, tabObj ps) :: old))
    (off : ∀ p ∈ (I, oI) :: (Db, LCg.lst bs) :: (L + 1 + 1 + 1 + 1 + 1, o1) :: (L + 1 + 1 + 1 + 1, o2) :: (L + 1 + 1 + 1, o3) :: (L + 1 + 1, o4) :: (L + 1, o5) :: (99, tabObj ps) :: old, p.1 ≠ Dl)
    (hvs : vs.length ≤ 10)
    (msent : m (Str.ofString "sent") = some (.int (0 + (i : Int)) tv)) (mml : m (Str.ofString "mail") = some (.str ml tm)) (mst : m (Str.ofString "still") = some (.str still ts)) (md : m (Str.ofString "dots") = some (.int dots td)) (mld : m (Str.ofString "leads") = some (.ref Dl))
    (hml : ml = toldS bare still dots rest (0 + (i : Int))) (e : Txt.split ml (Str.ofString "\r\n") = [r0, r1, r2, r3])
    (h : ∀ v tt l n' h' tk', Fr h₀ L h' (fun y => if y = Str.ofString "told" then some (.str ml tt) else m y) → News h₀ L h' ((Dl, W.listOf (vs ++ [v]).toArray n') :: (l ++ ((I, oI) :: (Db, LCg.lst bs) :: (L + 1 + 1 + 1 + 1 + 1, o1) :: (L + 1 + 1 + 1 + 1, o2) :: (L + 1 + 1 + 1, o3) :: (L + 1 + 1, o4) :: (L + 1, o5) :: (99, tabObj ps) :: old))) →
      (∀ p ∈ l, ∀ q ∈ (Dl, W.listOf vs.toArray n) :: (I, oI) :: (Db, LCg.lst bs) :: (L + 1 + 1 + 1 + 1 + 1, o1) :: (L + 1 + 1 + 1 + 1, o2) :: (L + 1 + 1 + 1, o3) :: (L + 1 + 1, o4) :: (L + 1, o5) :: (99, tabObj ps) :: old, p.1 ≠ q.1) → Lead l v ⟨wsOf (blank r0), wsOf (blank r1), wsOf (blank r2)⟩ → Q .next { s with heap := h', toks := tk' }) :
    wpAny (model PySem.Challenge.rw_pe0145_01.row.prog w) ⟨none, dp, fr, gd, un⟩ (execs sentMid (envOfC (Str.ofString "law") lawScope L fa cd)) Q noE s := by
  delta sentMid lawScope pick
  k_steps
  all_goals try k_data
  · exfalso
    rename (_ != _) = true => hne
    rw [hml] at hne
    unfold toldS at hne
    simp at hne
  · unfold Stop
    dsimp only
    rename Fr _ _ _ _ => F8
    rename News _ _ _ _ => N8
    have hto : ml.length ≤ 400 := by
      rw [hml]; unfold toldS; simp only [slen_append, slen_lit]; omega
    have hml' := hml
    unfold toldS at hml'
    rw [← hml'] at F8
    refine lead_tail (fa := fa) (cd := cd) (tm := tm) X T hA hU hto hrep hvs F8 N8 off ?_ ?_ e ?_
    · exact mml
    · exact mld
    · intro v l n' h' tk' F9 N9 o9 L9
      exact h v _ l n' h' tk' F9 N9 o9 L9
end
section
open PySem PySem.W PyProof.Rows
open Rx
theorem sent_fin {w : World} {dp un : Nat} {fr : Option (List Env)} {gd : Option (List Code)} {s : Shared} {h₀ : Heap} {L fa : Addr} {cd : Value} {mg mb : Str → Option Value} {o1 o2 o3 o4 o5 : Obj} {ps : Array Value} {page still rest : Str} {tr tb : Tok} {bare dots : Int} {ld : Nat → Ld} {Q : Flow → Shared → Prop}
    {B : List Stmt} {Sc : Scope} (hB : B = sentMid) (hS : Sc = lawScope) {Dl Db : Addr} {bs : List Value} (hrep : ∀ r : Str, (Txt.replace r (Str.ofString ".") (Str.ofString " ")).length = r.length)
    (X : (hd.heap_39 w.params).In h₀) (T : TopRead hd.view_39 LO mg mb h₀) (hA : dp < 350) (hU : un < 4000)
    (d4 : o4.data = .cell (some (.str rest tr))) (d5 : o5.data = .cell (some (.int bare tb)))
    (P : LawPre page still rest bare dots ld) {i : Nat} {tv ts td : Tok} {I : Addr} {oI : Obj} (hi : i < 3) {vs : List Value} {n : Nat} {old : List (Addr × Obj)}
    (off : ∀ p ∈ (Dl, W.listOf vs.toArray n) :: (Db, LCg.lst bs) :: (L + 1 + 1 + 1 + 1 + 1, o1) :: (L + 1 + 1 + 1 + 1, o2) :: (L + 1 + 1 + 1, o3) :: (L + 1 + 1, o4) :: (L + 1, o5) :: (99, tabObj ps) :: old, p.1 ≠ I)
    (hvl : vs.length = i) (hlead : ∀ j v, vs[j]? = some v → Lead old v (ld j)) (offD : ∀ p ∈ old, p.1 ≠ Dl) (offC : OffC L Db old) (hg1 : Dl ≠ Db) (hg2 : Dl ≠ L + 1 + 1 + 1 + 1 + 1) (hg3 : Dl ≠ L + 1 + 1 + 1 + 1) (hg4 : Dl ≠ L + 1 + 1 + 1) (hg5 : Dl ≠ L + 1 + 1) (hg6 : Dl ≠ L + 1) (hg7 : Dl ≠ 99)
    (h' : Heap) (m' : Str → Option Value) (tk : Nat) (tp' tm : Tok) (F' : Fr h₀ L h' m') (N' : News h₀ L h' ((I, oI) :: (Dl, W.listOf vs.toArray n) :: (Db, LCg.lst bs) :: (L + 1 + 1 + 1 + 1 + 1, o1) :: (L + 1 + 1 + 1 + 1, o2) :: (L + 1 + 1 + 1, o3) :: (L + 1 + 1, o4) :: (L + 1, o5) :: (99, tabObj ps) :: old))
    (e1 : m' (Str.ofString "sent") = some (.int (0 + (i : Int)) tv)) (e2 : m' (Str.ofString "mail") = some (.str (toldS bare still dots rest (i : Int)) tm)) (e3 : m' (Str.ofString "page") = some (.str (pageAt page still rest bare dots (i + 1)) tp')) (e4 : m' (Str.ofString "still") = some (.str still ts)) (e5 : m' (Str.ofString "dots") = some (.int dots td))
    (e6 : m' (Str.ofString "behind") = some (.ref Db)) (e7 : m' (Str.ofString "leads") = some (.ref Dl)) :
    wpAny (model PySem.Challenge.rw_pe0145_01.row.prog w) ⟨none, dp, fr, gd, un⟩ (execs B (envOfC (Str.ofString "law") Sc L fa cd)) (TurnX h₀ L Q s I oI (SentJ L page still rest bare dots ld Dl Db bs o1 o2 o3 o4 o5 ps s.gens (i + 1))) noE { s with heap := h', toks := tk } := by
  subst hB
  subst hS
  obtain ⟨r0, r1, r2, r3, er, eA, eB, eC⟩ := P.rows i hi
  have hDI : Dl ≠ I := off (Dl, W.listOf vs.toArray n) (by first | (with_reducible (repeat (first | exact List.mem_cons_self | assumption | exact List.mem_append_left _ (by assumption) | exact List.mem_append_left _ (List.mem_append_left _ (by assumption)) | exact List.mem_append_left _ (List.mem_append_right _ (by assumption)) | refine List.mem_cons_of_mem _ ?_ | refine List.mem_append_right _ ?_)); done) | simp)
  have N2 : News h₀ L h' ((Dl, W.listOf vs.toArray n) :: (I, oI) :: (Db, LCg.lst bs) :: (L + 1 + 1 + 1 + 1 + 1, o1) :: (L + 1 + 1 + 1 + 1, o2) :: (L + 1 + 1 + 1, o3) :: (L + 1 + 1, o4) :: (L + 1, o5) :: (99, tabObj ps) :: old) := fun p hp => N' p (by
    simp only [List.mem_cons] at hp ⊢
    rcases hp with h1 | h1 | h1
    · exact .inr (.inl h1)
    · exact .inl h1
    · exact .inr (.inr h1))
  with_reducible refine sent_mid (fa := fa) (cd := cd) (tm := tm) (ts := ts) (td := td) (tv := tv) hrep X T hA hU d4 d5 P.b.1 P.b.2 P.d.1 P.d.2 P.rs P.st hi F' N2 ?_ ?g1 e1 e2 e4 e5 e7 ?g2 er ?_
  case g1 => rw [hvl]; omega
  case g2 => rw [Int.zero_add]
  · intro p hp
    simp only [List.mem_cons] at hp
    rcases hp with rfl | rfl | rfl | rfl | rfl | rfl | rfl | rfl | hp
    · exact Ne.symm hDI
    · exact Ne.symm hg1
    · exact Ne.symm hg2
    · exact Ne.symm hg3
    · exact Ne.symm hg4
    · exact Ne.symm hg5
    · exact Ne.symm hg6
    · exact Ne.symm hg7
    · exact offD p hp
  · intro v tt l n' h9 tk9 F9 N9 o9 L9
    have hlI : ∀ p ∈ l, p.1 ≠ I := fun p hp => o9 p hp (I, oI) (by first | (with_reducible (repeat (first | exact List.mem_cons_self | assumption | exact List.mem_append_left _ (by assumption) | exact List.mem_append_left _ (List.mem_append_left _ (by assumption)) | exact List.mem_append_left _ (List.mem_append_right _ (by assumption)) | refine List.mem_cons_of_mem _ ?_ | refine List.mem_append_right _ ?_)); done) | simp)
    refine TurnX.intro F9 N9 (news' := (Dl, W.listOf (vs ++ [v]).toArray n') :: (Db, LCg.lst bs) :: (L + 1 + 1 + 1 + 1 + 1, o1) :: (L + 1 + 1 + 1 + 1, o2) :: (L + 1 + 1 + 1, o3) :: (L + 1 + 1, o4) :: (L + 1, o5) :: (99, tabObj ps) :: (l ++ old)) ?_ ?_ ?_
    · intro p hp
      first
        | (revert hp; revert p; (repeat' (first | exact sub_nil | refine sub_app ?_ ?_ | refine sub_cons (by with_reducible (repeat (first | exact List.mem_cons_self | assumption | exact List.mem_append_left _ (by assumption) | exact List.mem_append_left _ (List.mem_append_left _ (by assumption)) | exact List.mem_append_left _ (List.mem_append_right _ (by assumption)) | refine List.mem_cons_of_mem _ ?_ | refine List.mem_append_right _ ?_))) ?_ | (intro p hp; with_reducible (repeat (first | exact List.mem_cons_self | assumption | exact List.mem_append_left _ (by assumption) | exact List.mem_append_left _ (List.mem_append_left _ (by assumption)) | exact List.mem_append_left _ (List.mem_append_right _ (by assumption)) | refine List.mem_cons_of_mem _ ?_ | refine List.mem_append_right _ ?_)); done))); done)
        | (simp only [List.mem_cons, List.mem_append] at hp ⊢; rcases hp with h1 | h1 | h1 | h1 | h1 | h1 | h1 | h1 | h1 | h1 | h1 <;> simp [h1])
    · intro p hp
      simp only [List.mem_cons, List.mem_append] at hp
      rcases hp with rfl | h1 | h1 | h1 | h1 | h1 | h1 | h1 | h1 | h1
      · exact hDI
      · exact off p (by first | (with_reducible (repeat (first | exact List.mem_cons_self | assumption | exact List.mem_append_left _ (by assumption) | exact List.mem_append_left _ (List.mem_append_left _ (by assumption)) | exact List.mem_append_left _ (List.mem_append_right _ (by assumption)) | refine List.mem_cons_of_mem _ ?_ | refine List.mem_append_right _ ?_)); done) | simp [h1])
      · exact off p (by first | (with_reducible (repeat (first | exact List.mem_cons_self | assumption | exact List.mem_append_left _ (by assumption) | exact List.mem_append_left _ (List.mem_append_left _ (by assumption)) | exact List.mem_append_left _ (List.mem_append_right _ (by assumption)) | refine List.mem_cons_of_mem _ ?_ | refine List.mem_append_right _ ?_)); done) | simp [h1])
      · exact off p (by first | (with_reducible (repeat (first | exact List.mem_cons_self | assumption | exact List.mem_append_left _ (by assumption) | exact List.mem_append_left _ (List.mem_append_left _ (by assumption)) | exact List.mem_append_left _ (List.mem_append_right _ (by assumption)) | refine List.mem_cons_of_mem _ ?_ | refine List.mem_append_right _ ?_)); done) | simp [h1])
      · exact off p (by first | (with_reducible (repeat (first | exact List.mem_cons_self | assumption | exact List.mem_append_left _ (by assumption) | exact List.mem_append_left _ (List.mem_append_left _ (by assumption)) | exact List.mem_append_left _ (List.mem_append_right _ (by assumption)) | refine List.mem_cons_of_mem _ ?_ | refine List.mem_append_right _ ?_)); done) | simp [h1])
      · exact off p (by first | (with_reducible (repeat (first | exact List.mem_cons_self | assumption | exact List.mem_append_left _ (by assumption) | exact List.mem_append_left _ (List.mem_append_left _ (by assumption)) | exact List.mem_append_left _ (List.mem_append_right _ (by assumption)) | refine List.mem_cons_of_mem _ ?_ | refine List.mem_append_right _ ?_)); done) | simp [h1])
      · exact off p (by first | (with_reducible (repeat (first | exact List.mem_cons_self | assumption | exact List.mem_append_left _ (by assumption) | exact List.mem_append_left _ (List.mem_append_left _ (by assumption)) | exact List.mem_append_left _ (List.mem_append_right _ (by assumption)) | refine List.mem_cons_of_mem _ ?_ | refine List.mem_append_right _ ?_)); done) | simp [h1])
      · exact off p (by first | (with_reducible (repeat (first | exact List.mem_cons_self | assumption | exact List.mem_append_left _ (by assumption) | exact List.mem_append_left _ (List.mem_append_left _ (by assumption)) | exact List.mem_append_left _ (List.mem_append_right _ (by assumption)) | refine List.mem_cons_of_mem _ ?_ | refine List.mem_append_right _ ?_)); done) | simp [h1])
      · exact hlI p h1
      · exact off p (by first | (with_reducible (repeat (first | exact List.mem_cons_self | assumption | exact List.mem_append_left _ (by assumption) | exact List.mem_append_left _ (List.mem_append_left _ (by assumption)) | exact List.mem_append_left _ (List.mem_append_right _ (by assumption)) | refine List.mem_cons_of_mem _ ?_ | refine List.mem_append_right _ ?_)); done) | simp [h1])
    · refine ⟨⟨tp', e3⟩, fun q => absurd q (Nat.succ_ne_zero _), ⟨ts, e4⟩, ⟨td, e5⟩, e6, e7, ⟨vs ++ [v], n', l ++ old, rfl, by simp [hvl], fun j v' hj => ?_, fun p hp => ?_, fun p hp => ?_, hg1, hg2, hg3, hg4, hg5, hg6, hg7⟩, rfl⟩
      · rcases Nat.lt_or_ge j vs.length with hlt | hge
        · rw [List.getElem?_append_left hlt] at hj
          exact (hlead j v' hj).mono fun p hp => List.mem_append_right _ hp
        · rw [List.getElem?_append_right hge] at hj
          have hj0 : j - vs.length = 0 := by
            rcases hq : j - vs.length with _ | q
            · rfl
            · rw [hq] at hj; simp at hj
          rw [hj0] at hj
          simp only [List.getElem?_cons_zero, Option.some.injEq] at hj
          subst hj
          have hji : j = i := by omega
          subst hji
          have := L9.mono (l' := l ++ old) fun p hp => List.mem_append_left _ hp
          rw [eA, eB, eC] at this
          exact this
      · rcases List.mem_append.mp hp with h1 | h1
        · exact o9 p h1 _ List.mem_cons_self
        · exact offD p h1
      · rcases List.mem_append.mp hp with h1 | h1
        · exact ⟨o9 p h1 (Db, LCg.lst bs) (by first | (with_reducible (repeat (first | exact List.mem_cons_self | assumption | exact List.mem_append_left _ (by assumption) | exact List.mem_append_left _ (List.mem_append_left _ (by assumption)) | exact List.mem_append_left _ (List.mem_append_right _ (by assumption)) | refine List.mem_cons_of_mem _ ?_ | refine List.mem_append_right _ ?_)); done) | simp), o9 p h1 (99, tabObj ps) (by first | (with_reducible (repeat (first | exact List.mem_cons_self | assumption | exact List.mem_append_left _ (by assumption) | exact List.mem_append_left _ (List.mem_append_left _ (by assumption)) | exact List.mem_append_left _ (List.mem_append_right _ (by assumption)) | refine List.mem_cons_of_mem _ ?_ | refine List.mem_append_right _ ?_)); done) | simp), o9 p h1 (_, o1) (by first | (with_reducible (repeat (first | exact List.mem_cons_self | assumption | exact List.mem_append_left _ (by assumption) | exact List.mem_append_left _ (List.mem_append_left _ (by assumption)) | exact List.mem_append_left _ (List.mem_append_right _ (by assumption)) | refine List.mem_cons_of_mem _ ?_ | refine List.mem_append_right _ ?_)); done) | simp), o9 p h1 (_, o2) (by first | (with_reducible (repeat (first | exact List.mem_cons_self | assumption | exact List.mem_append_left _ (by assumption) | exact List.mem_append_left _ (List.mem_append_left _ (by assumption)) | exact List.mem_append_left _ (List.mem_append_right _ (by assumption)) | refine List.mem_cons_of_mem _ ?_ | refine List.mem_append_right _ ?_)); done) | simp), o9 p h1 (_, o3) (by first | (with_reducible (repeat (first | exact List.mem_cons_self | assumption | exact List.mem_append_left _ (by assumption) | exact List.mem_append_left _ (List.mem_append_left _ (by assumption)) | exact List.mem_append_left _ (List.mem_append_right _ (by assumption)) | refine List.mem_cons_of_mem _ ?_ | refine List.mem_append_right _ ?_)); done) | simp), o9 p h1 (_, o4) (by first | (with_reducible (repeat (first | exact List.mem_cons_self | assumption | exact List.mem_append_left _ (by assumption) | exact List.mem_append_left _ (List.mem_append_left _ (by assumption)) | exact List.mem_append_left _ (List.mem_append_right _ (by assumption)) | refine List.mem_cons_of_mem _ ?_ | refine List.mem_append_right _ ?_)); done) | simp), o9 p h1 (_, o5) (by first | (with_reducible (repeat (first | exact List.mem_cons_self | assumption | exact List.mem_append_left _ (by assumption) | exact List.mem_append_left _ (List.mem_append_left _ (by assumption)) | exact List.mem_append_left _ (List.mem_append_right _ (by assumption)) | refine List.mem_cons_of_mem _ ?_ | refine List.mem_append_right _ ?_)); done) | simp)⟩
        · exact offC p h1
end
section
open PySem PySem.W PyProof.Rows
example : True := by
  k_with_none
  k_with "getAttr ref" => (k_dflt (refine' get_own (by assumption) (by assumption) (by exact (WsAt.keeps (by assumption) (Fr.keep (by assumption))).at) (by k_is) (by k_is) (by k_is) (by k_is) (by first | exact WsAt.norm (by assumption) | exact WsAt.n (by assumption) | exact WsAt.nt (by assumption) | exact WsAt.simple (by assumption)) (by rfl) ?_))
  k_with "exec For Name Call cons nil" => k_dflt (refine wpAny_For ?_)
  k_with "exec For Name Name cons nil" => k_dflt (refine wpAny_For ?_)
  k_with "exec For Name Attribute cons nil" => k_dflt (refine wpAny_For ?_)
  k_with "eval Name" => (k_dflt (refine' PyProof.Rows.ld (by assumption) (by first | exact rfl | assumption) ?_))
  k_with "execs cons Assign cons" => (k_dflt (refine wpAny_execs_cons ?_))
  k_with "execs cons Assign nil" => (k_dflt (refine wpAny_execs_cons ?_))
  k_with "eval ListComp" => (k_dflt (refine LCg.ListComp_U (F₀ := by assumption) (by with_unfolding_all rfl) (by decide) (by rfl) (by decide) (by rfl) ?_))
  k_with "CompSrc" => refine Stop.out ?_
  k_with "binaryOp Add str str" => (k_dflt (refine PyProof.Rows.add_str (hsz := (by first | decide | (simp only [slen_append, slen_lit]; omega) | (simp only [slen_append]; omega))) ?_); intro _ _)
  k_with "eval Name" => ((with_reducible show wpAny _ _ (eval (Expr.Name _ _) (compEnvC _ _ _ _)) _ _ _); k_dflt (first | refine comp_global (by assumption) (by assumption) (by assumption) (by k_is) ?_ | refine comp_built (by assumption) (by assumption) (by assumption) (by k_is) (by boot_by_name) (by decide) ?_))
  trivial
open Rx

example : True := by
  k_with "call ref" => (k_dflt (refine' quote_call (by assumption) (by assumption) (by assumption) (by assumption) (by first | omega | (dsimp only; omega)) (by assumption) ?_); intro _ _ _ _ _; (try k_sweep))
  k_with "execs cons Assign cons" => ((with_reducible show wpAny _ _ (execs (Stmt.Assign [Expr.Name (Str.ofString "told") _] _ _ :: _) _) _ _ _); refine Stop.out ?_)
  k_with "eval Name" => ((with_reducible show wpAny _ _ (eval (Expr.Name _ _) (compEnvC _ _ _ _)) _ _ _); k_dflt (refine' comp_free (by assumption) (by rfl) (by k_mem) (by assumption) ?_ (by rfl) (by rfl)))
  k_with "eval Name" => ((with_reducible show wpAny _ _ (eval (Expr.Name _ _) (envOfC _ _ _ _ _)) _ _ _); k_dflt (refine' ld_cell (by assumption) (by rfl) (by rfl) (by with_reducible (repeat (first | exact List.mem_cons_self | apply List.mem_cons_of_mem))) (by with_reducible assumption) ?_))
  k_with "eval Name" => ((with_reducible show wpAny _ _ (eval (Expr.Name _ _) (compEnvC _ _ _ _)) _ _ _); k_dflt (refine' comp_cell (by assumption) (by rfl) (by rfl) (by with_reducible (repeat (first | exact List.mem_cons_self | apply List.mem_cons_of_mem))) (by with_reducible assumption) ?_))
  k_with "ite" => (k_dflt (first | with_reducible refine PySem.W.ite_pos (by decide) ?_ | with_reducible refine PySem.W.ite_neg (by decide) ?_))
  trivial
theorem sent_turn {w : World} {dp un : Nat} {fr : Option (List Env)} {gd : Option (List Code)} {s : Shared} {h₀ : Heap} {L fa : Addr} {cd : Value} {mg mb : Str → Option Value} {o1 o2 o3 o4 o5 : Obj} {ps : Array Value} {page still rest : Str} {tr tb : Tok} {bare dots : Int} {ld : Nat → Ld} {Q : Flow → Shared → Prop}
    {Dl Db : Addr} {bs : List Value} (hrep : ∀ r : Str, (Txt.replace r (Str.ofString ".") (Str.ofString " ")).length = r.length)
    (X : (hd.heap_39 w.params).In h₀) (T : TopRead hd.view_39 LO mg mb h₀) (hA : dp < 350) (hU : un < 4000)
    (d4 : o4.data = .cell (some (.str rest tr))) (d5 : o5.data = .cell (some (.int bare tb)))
    (P : LawPre page still rest bare dots ld) {i : Nat} {tv : Tok} {m₁ : Str → Option Value} {news₁ : List (Addr × Obj)} {I : Addr} {oI : Obj} {h : Heap} {g : Array GenState} {tk : Nat} (hi : i < 3)
    (J : SentJ L page still rest bare dots ld Dl Db bs o1 o2 o3 o4 o5 ps s.gens i m₁ news₁ g) (off : ∀ p ∈ news₁, p.1 ≠ I) (F : Fr h₀ L h m₁) (N : News h₀ L h ((I, oI) :: news₁)) :
    wpAny (model PySem.Challenge.rw_pe0145_01.row.prog w) ⟨none, dp, fr, gd, un⟩ (storeName (envOfC (Str.ofString "law") lawScope L fa cd) (Str.ofString "sent") (.int (0 + (i : Int)) tv))
      (fun _ s₃ => wpAny (model PySem.Challenge.rw_pe0145_01.row.prog w) ⟨none, dp, fr, gd, un⟩ (execs sentBody (envOfC (Str.ofString "law") lawScope L fa cd))
        (TurnX h₀ L Q s I oI (SentJ L page still rest bare dots ld Dl Db bs o1 o2 o3 o4 o5 ps s.gens (i + 1))) noE s₃) noE { s with heap := h, gens := g, toks := tk } := by
  obtain ⟨⟨tp, mp⟩, mml, ⟨ts, mst⟩, ⟨td, md⟩, mbh, mld, ⟨vs, n, old, rfl, hvl, hlead, offD, offC, hg1, hg2, hg3, hg4, hg5, hg6, hg7⟩, rfl⟩ := J
  have hpg : (pageAt page still rest bare dots i).cps.size ≤ 10000 := by
    unfold pageAt
    split
    · exact P.pg
    · exact P.len _ (by omega) (by omega)
  delta sentBody lawScope pick
  rcases i with _ | i
  · obtain ⟨tm, mml⟩ := mml rfl
    k_steps
    all_goals try k_data
    unfold Stop
    rename Fr _ _ _ _ => F8
    rename News _ _ _ _ => N8
    dsimp only
    with_reducible refine sent_fin (fa := fa) (cd := cd) (tr := tr) (tb := tb) (ts := ts) (td := td) (tv := tv) ?hB ?hS hrep X T hA hU d4 d5 P hi off hvl hlead offD offC hg1 hg2 hg3 hg4 hg5 hg6 hg7 _ _ _ tp tm F8 N8 ?e0 ?_ ?_ ?_ ?_ ?_ ?_
    case e0 => rfl
    case hB => rfl
    case hS => rfl
    · exact mml
    · exact mp
    · exact mst
    · exact md
    · exact mbh
    · exact mld
  · have hq : quoteS (fixS (pageAt page still rest bare dots (i + 1))) = toldS bare still dots rest ((i + 1 : Nat) : Int) := by
      rcases i with _ | _ | i
      · exact P.one
      · exact P.two
      · omega
    have hp2 : pageAt page still rest bare dots (i + 1 + 1) = toldS bare still dots rest ((i + 1 : Nat) : Int) := by
      unfold pageAt
      rw [if_neg (by omega)]
      congr 1
      omega
    k_steps
    all_goals try k_data
    unfold Stop
    rename Fr _ _ _ _ => F8
    rename News _ _ _ _ => N8
    rw [hq] at F8
    dsimp only
    with_reducible refine sent_fin (fa := fa) (cd := cd) (tr := tr) (tb := tb) (ts := ts) (td := td) (tv := tv) ?hC ?hT hrep X T hA hU d4 d5 P hi off hvl hlead offD offC hg1 hg2 hg3 hg4 hg5 hg6 hg7 _ _ _ ?tp ?tm F8 N8 ?e1 ?e2 ?e3 ?e4 ?e5 ?e6 ?e7
    case hC => rfl
    case hT => rfl
    case e1 => rfl
    case e2 => rfl
    case e3 => rw [hp2]; rfl
    case e4 => exact mst
    case e5 => exact md
    case e6 => exact mbh
    case e7 => exact mld
end
section
open PySem PySem.W PyProof.Rows
open Rx
/-- rows of three ints, read off a heap -/
noncomputable def RefRows (h₀ : Heap) (L : Addr) (h : Heap) (a : Addr) (rs : List Row3) : Prop := ∃ l, News h₀ L h l ∧ ListIn l a rs
theorem News.made {h₀ h h' : Heap} {L : Addr} {m : Str → Option Value} {l : List (Addr × Obj)} (F : Fr h₀ L h m) (hl : ∀ p ∈ l, h'.get? p.1 = some p.2 ∧ h.get? p.1 = none) : News h₀ L h' l := fun p hp => by
  refine ⟨(hl p hp).1, fun e => ?_, ?_⟩
  · obtain ⟨o, _, _, z, _⟩ := F.ns
    rw [← e, (hl p hp).2] at z; cases z
  · cases e : h₀.get? p.1 with
    | none => rfl
    | some o => have := F.keep _ _ e; rw [(hl p hp).2] at this; cases this
theorem News.app {h₀ h : Heap} {L : Addr} {l l' : List (Addr × Obj)} (N : News h₀ L h l) (N' : News h₀ L h l') : News h₀ L h (l ++ l') := fun p hp => (List.mem_append.mp hp).elim (N p) (N' p)
theorem News.more {h₀ h : Heap} {L : Addr} {l : List (Addr × Obj)} {p : Addr × Obj} (N : News h₀ L h l) (hp : p ∈ l) : News h₀ L h (p :: l) := fun q hq => by
  rcases List.mem_cons.mp hq with rfl | hq
  · exact N _ hp
  · exact N q hq
theorem EltEnd.one {s : Shared} {h h' : Heap} {Rn : Value → List (Addr × Obj) → Prop} {o : Obj} {tk : Nat} (hg : h'.get? h.objs.size = some o) (hk : ∀ b o, h.get? b = some o → h'.get? b = some o) (hr : Rn (.ref h.objs.size) [(h.objs.size, o)]) :
    EltEnd s h Rn (.ref h.objs.size) { s with heap := h', toks := tk } := by
  refine ⟨_, _, [(h.objs.size, o)], rfl, hk, fun p hp => ?_, hr⟩
  rw [List.mem_singleton.mp hp]
  refine ⟨hg, ?_⟩
  cases e9 : h.get? h.objs.size with
  | none => rfl
  | some o => exact absurd (Heap.lt_size e9) (Nat.lt_irrefl _)
theorem RefRows.of {h₀ h : Heap} {L a : Addr} {news : List (Addr × Obj)} {rs : List Row3} (N : News h₀ L h news) (H : ListIn news a rs) : RefRows h₀ L h a rs := ⟨news, N, H⟩
theorem RefRows.sub {h₀ h : Heap} {L a : Addr} {l news : List (Addr × Obj)} {rs : List Row3} (N : News h₀ L h news) (H : ListIn l a rs) (hs : ∀ p ∈ l, p ∈ news) : RefRows h₀ L h a rs := ⟨news, N, H.mono hs⟩
theorem RefRows.nil {h₀ h : Heap} {L a : Addr} {n : Nat} {news : List (Addr × Obj)} (N : News h₀ L h news) (H : (a, listOf ([] : List Value).toArray n) ∈ news) : RefRows h₀ L h a [] := .of N ⟨[], n, H, .nil⟩
theorem ne_same {prog : Program} {w : World} {A : Around} {E : Value → Shared → Prop} {s : Shared} {h₀ : Heap} {L a b : Addr} {rs : List Row3} {Q : Value → Shared → Prop} (R : RefRows h₀ L s.heap a rs) (R' : RefRows h₀ L s.heap b rs) (hu : A.units + 64 < cLine) (h : Q (.bool false) s) :
    wpAny (model prog w) A (compareOp .NotEq (.ref a) (.ref b)) Q E s := by
  obtain ⟨l, N, H⟩ := R
  obtain ⟨l', N', H'⟩ := R'
  refine ne_rows (l := l ++ l') (rs := rs) (ts := rs) (fun p hp => (News.app N N' p hp).1) (H.mono fun p hp => List.mem_append_left _ hp) (H'.mono fun p hp => List.mem_append_right _ hp) hu ?_
  simpa using h
section
variable {w : World} {dp un : Nat} {fr : Option (List Env)} {gd : Option (List Code)} {E : Value → Shared → Prop} {s : Shared} {mg mb : Str → Option Value} {x x' : Addr} {d e : Ws} {h₀ : Heap} {L : Addr} {m : Str → Option Value} {news old : List (Addr × Obj)}
theorem ws_meth {pl : Sem Bool} {f : Addr} {name : Str} {Q : Value × List Value → Shared → Prop} (F : Fr h₀ L s.heap m) (N : News h₀ L s.heap news) (X : (hd.heap_39 w.params).In h₀) (W : WsIn old x d) (sub : ∀ p ∈ old, p ∈ news) (hm : name ∈ wsMeths)
    (hg : plainGet (hd.heap_39 w.params) 93 name = true) (hf : findIn (hd.heap_39 w.params) (.ref 93) name = some (some (.ref f))) (ht : isFn (hd.heap_39 w.params) (.ref f) = true) (h : Q (.ref f, [.ref x]) s) :
    wpAny (model PySem.Challenge.rw_pe0145_01.row.prog w) ⟨none, dp, fr, gd, un⟩ (getMethod (.ref x) name pl) Q E s := by
  obtain ⟨dx, es, k, an, ct, cvs, tb, tn, tt, W'⟩ := W.is fun p hp => (N p (sub p hp)).1
  exact method_inst F X W'.at hg hf ht (W'.meth _ hm) h
variable {Q : Value → Shared → Prop}
theorem wits_call {rs : List Row3} (F : Fr h₀ L s.heap m) (N : News h₀ L s.heap news) (X : (hd.heap_39 w.params).In h₀) (T : TopRead hd.view_39 LO mg mb h₀) (W : WsIn old x d) (W' : WsIn old x' e) (sub : ∀ p ∈ old, p ∈ news) (hA : dp < 400) (hB : 0 ≤ wsTop d e ∧ wsTop d e < 900)
    (hrs : wsWits d e (wsTop d e).toNat = rs) (h : ∀ la h' tk', Fr h₀ L h' m → News h₀ L h' news → RefRows h₀ L h' la rs → Q (.ref la) { s with heap := h', toks := tk' }) :
    wpAny (model PySem.Challenge.rw_pe0145_01.row.prog w) ⟨none, dp, fr, gd, un⟩ (call (.ref 76) [.ref x, .ref x']) Q E s :=
  wits_spec (X.keeps F.keep) (T.keeps F.keep) (W.is fun p hp => (N p (sub p hp)).1) (W'.is fun p hp => (N p (sub p hp)).1) hA hB fun la l h' tk' hk hl H => h la h' tk' (F.grownK hk) (N.grown hk) ⟨l, News.made F hl, hrs ▸ H⟩
theorem blind_call {rs : List Row3} (F : Fr h₀ L s.heap m) (N : News h₀ L s.heap news) (X : (hd.heap_39 w.params).In h₀) (T : TopRead hd.view_39 LO mg mb h₀) (W : WsIn old x d) (W' : WsIn old x' e) (sub : ∀ p ∈ old, p ∈ news) (hA : dp < 400) (hB : 0 ≤ wsTop d e ∧ wsTop d e < 900)
    (hrs : wsBlind d e (wsTop d e).toNat = rs) (h : ∀ la h' tk', Fr h₀ L h' m → News h₀ L h' news → RefRows h₀ L h' la rs → Q (.ref la) { s with heap := h', toks := tk' }) :
    wpAny (model PySem.Challenge.rw_pe0145_01.row.prog w) ⟨none, dp, fr, gd, un⟩ (call (.ref 90) [.ref x, .ref x']) Q E s :=
  blind_spec (X.keeps F.keep) (T.keeps F.keep) (W.is fun p hp => (N p (sub p hp)).1) (W'.is fun p hp => (N p (sub p hp)).1) hA hB fun la l h' tk' hk hl H => h la h' tk' (F.grownK hk) (N.grown hk) ⟨l, News.made F hl, hrs ▸ H⟩
theorem less_call {b : Bool} (F : Fr h₀ L s.heap m) (N : News h₀ L s.heap news) (X : (hd.heap_39 w.params).In h₀) (T : TopRead hd.view_39 LO mg mb h₀) (W : WsIn old x d) (W' : WsIn old x' e) (sub : ∀ p ∈ old, p ∈ news) (hA : dp < 400) (hB : 0 ≤ wsTop d e ∧ wsTop d e < 900)
    (hrs : wsLess d e = b) (h : ∀ h' tk', Fr h₀ L h' m → News h₀ L h' news → Q (.bool b) { s with heap := h', toks := tk' }) :
    wpAny (model PySem.Challenge.rw_pe0145_01.row.prog w) ⟨none, dp, fr, gd, un⟩ (call (.ref 83) [.ref x, .ref x']) Q E s :=
  less_spec (X.keeps F.keep) (T.keeps F.keep) (W.is fun p hp => (N p (sub p hp)).1) (W'.is fun p hp => (N p (sub p hp)).1) hA hB fun h' tk' hk => hrs ▸ h h' tk' (F.grownK hk) (N.grown hk)
theorem equal_call {b : Bool} (F : Fr h₀ L s.heap m) (N : News h₀ L s.heap news) (X : (hd.heap_39 w.params).In h₀) (T : TopRead hd.view_39 LO mg mb h₀) (W : WsIn old x d) (W' : WsIn old x' e) (sub : ∀ p ∈ old, p ∈ news) (hA : dp < 400) (hU : un < 5000)
    (hrs : decide (d.cnt = e.cnt ∧ d.b = e.b) = b) (h : ∀ h' tk', Fr h₀ L h' m → News h₀ L h' news → Q (.bool b) { s with heap := h', toks := tk' }) :
    wpAny (model PySem.Challenge.rw_pe0145_01.row.prog w) ⟨none, dp, fr, gd, un⟩ (call (.ref 69) [.ref x, .ref x']) Q E s :=
  equal_spec (X.keeps F.keep) (T.keeps F.keep) (W.is fun p hp => (N p (sub p hp)).1) (W'.is fun p hp => (N p (sub p hp)).1) hA hU fun h' tk' hk => hrs ▸ h h' tk' (F.grownK hk) (N.grown hk)
theorem words_call {la : Addr} {l : List (Addr × Obj)} {rs : List Row3} (F : Fr h₀ L s.heap m) (N : News h₀ L s.heap news) (X : (hd.heap_39 w.params).In h₀) (T : TopRead hd.view_39 LO mg mb h₀) (H : ListIn l la rs) (sub : ∀ p ∈ l, p ∈ news) (hA : dp < 400) (hU : un < 5000)
    (hn : rs.length < 100 ∧ ∀ r ∈ rs, 0 ≤ r.1 ∧ r.1 < 1000) (h : ∀ t h' tk', Fr h₀ L h' m → News h₀ L h' news → Q (.str (sizesText rs) t) { s with heap := h', toks := tk' }) :
    wpAny (model PySem.Challenge.rw_pe0145_01.row.prog w) ⟨none, dp, fr, gd, un⟩ (call (.ref 140) [.ref la]) Q E s :=
  words_spec (X.keeps F.keep) (T.keeps F.keep) (fun p hp => (N p (sub p hp)).1) H hA hU hn.1 hn.2 fun t h' tk' hk => h t h' tk' (F.grownK hk) (N.grown hk)
/-- the code table: what it was, and more -/
noncomputable def TabIn (ps₀ ps : Array Value) : Prop := TriplesOk ps.toList ∧ ∃ more, ps = ps₀ ++ more
theorem fmt_call {ps₀ : Array Value} {la : Addr} {l rest : List (Addr × Obj)} {rs : List Row3} {bm : Addr} {ob : Obj} {ps : Array Value} (F : Fr h₀ L s.heap m) (N : News h₀ L s.heap ((99, tabObj ps) :: rest)) (off : ∀ p ∈ rest, p.1 ≠ 99) (X : (hd.heap_39 w.params).In h₀) (T : TopRead hd.view_39 LO mg mb h₀)
    (BM : BMod h₀ mainGlobals mg bm ob) (tri : TabIn ps₀ ps) (ag : AllBare s.gens) (H : ListIn l la rs) (sub : ∀ p ∈ l, p ∈ rest) (hA : dp < 400) (hU : un < 5000)
    (hn : rs.length < 100 ∧ ∀ r ∈ rs, 0 ≤ r.1 ∧ r.1 < 1000) (h : ∀ t h' g' tk' ps', Fr h₀ L h' m → News h₀ L h' ((99, tabObj ps') :: rest) → TabIn ps₀ ps' → AllBare g' → Q (.str (sizesText rs) t) { s with heap := h', gens := g', toks := tk' }) :
    wpAny (model PySem.Challenge.rw_pe0145_01.row.prog w) ⟨none, dp, fr, gd, un⟩ (call (.ref 104) [.ref la]) Q E s := by
  have z := N (99, tabObj ps) List.mem_cons_self
  refine fmt_spec (X.keeps F.keep) (T.keeps F.keep) (BM.keeps F.keep) ⟨z.1, tri.1⟩ (fun p hp => (N p (List.mem_cons_of_mem _ (sub p hp))).1) H hA hU hn.1 hn.2 fun t h' g' tk' more hk Ft hg => h t h' g' tk' (ps ++ more) ?_ ?_ ⟨Ft.tri, let ⟨m', e'⟩ := tri.2; ⟨m' ++ more, by rw [e', Array.append_assoc]⟩⟩ (hg ag)
  · exact ⟨F.ns.at' fun o e => hk _ o (Ne.symm z.2.1) e, fun b o e => hk _ o (fun q => by rw [q, z.2.2] at e; cases e) (F.keep b o e), F.above⟩
  · intro p hp
    rcases List.mem_cons.mp hp with rfl | hp
    · exact ⟨Ft.get, z.2⟩
    · exact ⟨hk _ _ (off p hp) (N p (List.mem_cons_of_mem _ hp)).1, (N p (List.mem_cons_of_mem _ hp)).2⟩
/-- a cell stored -/
theorem store_cell {env : Env} {y : Str} {v : Value} {v₀ : Option Value} {c : Addr} {o : Obj} {rest : List (Addr × Obj)} {Q : Unit → Shared → Prop} {M : Model} {A : Around} (hk : env.scope.kind = .function) (hx : env.kindOf y = some .cell) (hc : env.cells.lookup y = some c)
    (F : Fr h₀ L s.heap m) (N : News h₀ L s.heap ((c, o) :: rest)) (off : ∀ p ∈ rest, p.1 ≠ c) (hd : o.data = .cell v₀)
    (h : ∀ h' o', Fr h₀ L h' m → News h₀ L h' ((c, o') :: rest) → o'.data = .cell (some v) → Q () { s with heap := h' }) : wpAny M A (storeName env y v) Q E s := by
  have z := N (c, o) List.mem_cons_self
  refine wpAny_storeName_cell hk hx hc ⟨o, z.1, hd⟩ fun h' hv hs => ?_
  obtain ⟨o', ho', hd'⟩ := hv
  refine h h' o' (F.change hs z.2.1 z.2.2) (fun p hp => ?_) hd'
  rcases List.mem_cons.mp hp with rfl | hp
  · exact ⟨ho', z.2⟩
  · exact ⟨hs.extBut _ _ (off p hp) (N p (List.mem_cons_of_mem _ hp)).1, (N p (List.mem_cons_of_mem _ hp)).2⟩
end
end
section
open PySem PySem.W PyProof.Rows
example : True := by
  k_with_none
  k_with "getAttr ref" => (k_dflt (refine' get_own (by assumption) (by assumption) (by exact (WsAt.keeps (by assumption) (Fr.keep (by assumption))).at) (by k_is) (by k_is) (by k_is) (by k_is) (by first | exact WsAt.norm (by assumption) | exact WsAt.n (by assumption) | exact WsAt.nt (by assumption) | exact WsAt.simple (by assumption)) (by rfl) ?_))
  k_with "exec For Name Call cons nil" => k_dflt (refine wpAny_For ?_)
  k_with "exec For Name Name cons nil" => k_dflt (refine wpAny_For ?_)
  k_with "exec For Name Attribute cons nil" => k_dflt (refine wpAny_For ?_)
  k_with "eval Name" => (k_dflt (refine' PyProof.Rows.ld (by assumption) (by first | exact rfl | assumption) ?_))
  k_with "execs cons Assign cons" => (k_dflt (refine wpAny_execs_cons ?_))
  k_with "execs cons Assign nil" => (k_dflt (refine wpAny_execs_cons ?_))
  k_with "eval ListComp" => (k_dflt (refine LCg.ListComp_U (F₀ := by assumption) (by with_unfolding_all rfl) (by decide) (by rfl) (by decide) (by rfl) ?_))
  k_with "CompSrc" => refine Stop.out ?_
  k_with "binaryOp Add str str" => (k_dflt (refine PyProof.Rows.add_str (hsz := (by first | decide | (simp only [slen_append, slen_lit]; omega) | (simp only [slen_append]; omega))) ?_); intro _ _)
  k_with "eval Name" => ((with_reducible show wpAny _ _ (eval (Expr.Name _ _) (compEnvC _ _ _ _)) _ _ _); k_dflt (first | refine comp_global (by assumption) (by assumption) (by assumption) (by k_is) ?_ | refine comp_built (by assumption) (by assumption) (by assumption) (by k_is) (by boot_by_name) (by decide) ?_))
  trivial
open Rx
example : True := by
  k_with "getMethod ref" => (k_dflt (refine' ws_meth (by assumption) (by assumption) (by assumption) (by assumption) (by (intro p hp; repeat (first | exact hp | apply List.mem_cons_of_mem | apply List.mem_append_right))) (by decide) (by k_is) (by k_is) (by k_is) ?_))
  k_with "call ref" => (k_dflt ((first | refine' wits_call (by assumption) (by assumption) (by assumption) (by assumption) (by assumption) (by assumption) (by (intro p hp; repeat (first | exact hp | apply List.mem_cons_of_mem | apply List.mem_append_right))) (by first | omega | (dsimp only; omega)) (by assumption) (by assumption) ?_ | refine' blind_call (by assumption) (by assumption) (by assumption) (by assumption) (by assumption) (by assumption) (by (intro p hp; repeat (first | exact hp | apply List.mem_cons_of_mem | apply List.mem_append_right))) (by first | omega | (dsimp only; omega)) (by assumption) (by assumption) ?_)); intro _ _ _ _ _ _; (try k_sweep))
  k_with "call ref" => (k_dflt ((first | refine' less_call (by assumption) (by assumption) (by assumption) (by assumption) (by assumption) (by assumption) (by (intro p hp; repeat (first | exact hp | apply List.mem_cons_of_mem | apply List.mem_append_right))) (by first | omega | (dsimp only; omega)) (by first | assumption | omega | (dsimp only; omega)) (by assumption) ?_ | refine' equal_call (by assumption) (by assumption) (by assumption) (by assumption) (by assumption) (by assumption) (by (intro p hp; repeat (first | exact hp | apply List.mem_cons_of_mem | apply List.mem_append_right))) (by first | omega | (dsimp only; omega)) (by first | assumption | omega | (dsimp only; omega)) (by assumption) ?_)); intro _ _ _ _; (try k_sweep))
  k_with "call ref" => (k_dflt (refine' words_call (by assumption) (by assumption) (by assumption) (by assumption) (by assumption) (by (intro p hp; repeat (first | exact hp | apply List.mem_cons_of_mem | apply List.mem_append_right))) (by first | omega | (dsimp only; omega)) (by first | omega | (dsimp only; omega)) (by assumption) ?_); intro _ _ _ _ _; (try k_sweep))
  k_with "call ref" => (k_dflt (refine' fmt_call (by assumption) (by assumption) (by assumption) (by assumption) (by assumption) (by assumption) (by assumption) (by assumption) (by assumption) (by (intro p hp; repeat (first | exact hp | apply List.mem_cons_of_mem | apply List.mem_append_right))) (by first | omega | (dsimp only; omega)) (by first | omega | (dsimp only; omega)) (by assumption) ?_); intro _ _ _ _ _ _ _ _ _; (try k_sweep))
  k_with "compareOp NotEq ref ref" => (k_dflt (refine' ne_same (by assumption) (by first | assumption | exact RefRows.sub (by assumption) (by assumption) (by intro p hp; repeat (first | exact hp | apply List.mem_cons_of_mem | apply List.mem_append_right)) | exact RefRows.nil (by assumption) (by k_mem)) (by show _ + 64 < 9900; dsimp only; omega) ?_))
  k_with "eval ListComp" => (k_dflt (refine compX (by assumption) (by with_unfolding_all rfl) (by decide) (by rfl) (by decide) (by rfl) ?_))
  k_with "SrcX" => refine Stop.out ?_
  k_with "newTuple" => (k_dflt (refine newTuple_NK (by assumption) (by assumption) ?_); intro _ _ _ _)
  k_with "eval Name" => ((with_reducible show wpAny _ _ (eval (Expr.Name _ _) (compEnvC _ _ _ _)) _ _ _); k_dflt (refine' comp_free (by assumption) (by rfl) (by k_mem) (by assumption) ?_ (by rfl) (by rfl)))
  k_with "eval Name" => ((with_reducible show wpAny _ _ (eval (Expr.Name _ _) (envOfC _ _ _ _ _)) _ _ _); k_dflt (refine' ld_cell (by assumption) (by rfl) (by rfl) (by with_reducible (repeat (first | exact List.mem_cons_self | apply List.mem_cons_of_mem))) (by with_reducible assumption) ?_))
  k_with "eval Name" => ((with_reducible show wpAny _ _ (eval (Expr.Name _ _) (compEnvC _ _ _ _)) _ _ _); k_dflt (refine' comp_cell (by assumption) (by rfl) (by rfl) (by with_reducible (repeat (first | exact List.mem_cons_self | apply List.mem_cons_of_mem))) (by with_reducible assumption) ?_))
  trivial
theorem pair_tail {w : World} {dp un : Nat} {fr : Option (List Env)} {gd : Option (List Code)} {s : Shared} {h₀ : Heap} {L fa : Addr} {cd : Value} {m mg mb : Str → Option Value} {Q : Flow → Shared → Prop} {bm : Addr} {ob : Obj} {ps₀ ps : Array Value}
    {la1 la2 a1 b1 c1 a2 b2 c2 ls lb lk : Addr} {n1 n2 : Nat} {rest : List (Addr × Obj)} {d e : Ws} {seen blind back : List Row3}
    (X : (hd.heap_39 w.params).In h₀) (T : TopRead hd.view_39 LO mg mb h₀) (BM : BMod h₀ mainGlobals mg bm ob) (hA : dp < 350) (hU : un < 4000) (tri : TabIn ps₀ ps) (ag : AllBare s.gens)
    (F : Fr h₀ L s.heap m) (N : News h₀ L s.heap ((99, tabObj ps) :: (la1, W.listOf #[.ref a1, .ref b1, .ref c1] n1) :: (la2, W.listOf #[.ref a2, .ref b2, .ref c2] n2) :: rest))
    (off : ∀ p ∈ (la1, W.listOf #[.ref a1, .ref b1, .ref c1] n1) :: (la2, W.listOf #[.ref a2, .ref b2, .ref c2] n2) :: rest, p.1 ≠ 99)
    (W1 : WsIn rest c1 d) (W2 : WsIn rest c2 e) (mo : m (Str.ofString "one") = some (.ref la1)) (mt : m (Str.ofString "two") = some (.ref la2)) (ms : m (Str.ofString "seen") = some (.ref ls)) (mbl : m (Str.ofString "blind") = some (.ref lb)) (mk : m (Str.ofString "back") = some (.ref lk))
    (Hs : ListIn rest ls seen) (Hb : ListIn rest lb blind) (Hk : ListIn rest lk back) (hB : 0 ≤ wsTop d e ∧ wsTop d e < 900) (hB' : 0 ≤ wsTop e d ∧ wsTop e d < 900)
    (hw : wsWits d e (wsTop d e).toNat = seen) (hn : wsBlind d e (wsTop d e).toNat = blind) (hw' : wsWits e d (wsTop e d).toNat = seen.map fun r => (r.1, r.2.2, r.2.1)) (hn' : wsBlind e d (wsTop e d).toNat = back)
    (l1 : wsLess d e = false) (l2 : wsLess e d = false) (he : decide (d.cnt = e.cnt ∧ d.b = e.b) = false) (bs : seen.length < 100 ∧ ∀ r ∈ seen, 0 ≤ r.1 ∧ r.1 < 1000) (bb : blind.length < 100 ∧ ∀ r ∈ blind, 0 ≤ r.1 ∧ r.1 < 1000)
    (h : ∀ h' g' tk' ps', Fr h₀ L h' m → News h₀ L h' ((99, tabObj ps') :: (la1, W.listOf #[.ref a1, .ref b1, .ref c1] n1) :: (la2, W.listOf #[.ref a2, .ref b2, .ref c2] n2) :: rest) → TabIn ps₀ ps' → AllBare g' → Q .next { s with heap := h', gens := g', toks := tk' }) :
    wpAny (model PySem.Challenge.rw_pe0145_01.row.prog w) ⟨none, dp, fr, gd, un⟩ (execs pairTail (envOfC (Str.ofString "law") lawScope L fa cd)) Q noE s := by
  delta pairTail lawScope pick
  k_steps
  all_goals try k_data
  unfold Stop
  rename News _ _ _ _ => N8
  rename Fr _ _ _ _ => F8
  rename RefRows _ _ _ _ _ => R8
  obtain ⟨l8, Nl8, Hl8⟩ := R8
  have Hs' := Hs
  obtain ⟨vs, nv, hm, hr⟩ := Hs'
  have hvl : vs.length = seen.length := hr.length
  refine ⟨ls, vs.toArray, nv, _, fun i ys nl => RowsIn nl ys ((seen.take i).map fun r => (r.1, r.2.2, r.2.1)), rfl, rfl, F8, News.app Nl8 N8, ?_, ?_, .nil, ?_, ?_⟩
  · exact List.mem_append_right _ (List.mem_cons_of_mem _ (List.mem_cons_of_mem _ (List.mem_cons_of_mem _ hm)))
  · show vs.toArray.size ≤ 16777216
    rw [List.size_toArray]; omega
  · rintro i v ys nl I oI C oC D m₂ h₂ tk hi hP hR htk hC hx F₂ N₂
    have hv : vs[i]? = some v := by simpa using hP
    obtain ⟨r, hri, a, t1, t2, t3, k3, rfl, hma⟩ := hr.get i v hv
    have N₃ := News.more N₂ (p := (a, _)) (by
      refine List.mem_cons_of_mem _ (List.mem_cons_of_mem _ (List.mem_cons_of_mem _ (List.mem_append_right _ (List.mem_append_right _ (List.mem_cons_of_mem _ (List.mem_cons_of_mem _ (List.mem_cons_of_mem _ hma)))))))) 
    clear N₂ N8 Nl8
    show wpAny _ _ _ _ _ _
    k_steps
    rename News _ _ _ _ => N5
    rename ∀ b o, h₂.get? b = some o → _ => hk5
    refine EltEnd.one (N5 _ List.mem_cons_self).1 hk5 ?_
    rw [List.take_add_one, hri, List.map_append]
    exact .snoc (hR.mono fun p hp => List.mem_append_right _ hp) ⟨_, _, _, _, _, rfl, List.mem_append_left _ List.mem_cons_self⟩
  · rintro D h₂ tk ys nl hR F₂ N₂ off₂
    dsimp only
    have RL := RefRows.sub N₂ Hl8 (fun p hp => List.mem_cons_of_mem _ (List.mem_append_right _ (List.mem_append_left _ hp)))
    have hR' : RowsIn nl ys (seen.map fun r => (r.1, r.2.2, r.2.1)) := by
      rw [List.size_toArray, hvl, List.take_length] at hR; exact hR
    have RR : RefRows h₀ L h₂ D (seen.map fun r => (r.1, r.2.2, r.2.1)) := RefRows.of N₂ ⟨ys, _, List.mem_cons_self, hR'.mono fun p hp => List.mem_cons_of_mem _ (List.mem_append_left _ hp)⟩
    have N₄ : News h₀ L h₂ ((99, tabObj ps) :: (la1, W.listOf #[.ref a1, .ref b1, .ref c1] n1) :: (la2, W.listOf #[.ref a2, .ref b2, .ref c2] n2) :: rest) := fun p hp => N₂ p (List.mem_cons_of_mem _ (List.mem_append_right _ (List.mem_append_right _ hp)))
    clear N₂ N8 Nl8
    k_steps
    all_goals try k_data
    all_goals first
      | (exfalso; rename (_ != _) = true => hne; simp at hne; done)
      | exact h _ _ _ _ (by assumption) (by assumption) (by assumption) (by assumption)
end
section
open PySem PySem.W PyProof.Rows
example : True := by
  k_with_none
  k_with "getAttr ref" => (k_dflt (refine' get_own (by assumption) (by assumption) (by exact (WsAt.keeps (by assumption) (Fr.keep (by assumption))).at) (by k_is) (by k_is) (by k_is) (by k_is) (by first | exact WsAt.norm (by assumption) | exact WsAt.n (by assumption) | exact WsAt.nt (by assumption) | exact WsAt.simple (by assumption)) (by rfl) ?_))
  k_with "exec For Name Call cons nil" => k_dflt (refine wpAny_For ?_)
  k_with "exec For Name Name cons nil" => k_dflt (refine wpAny_For ?_)
  k_with "exec For Name Attribute cons nil" => k_dflt (refine wpAny_For ?_)
  k_with "eval Name" => (k_dflt (refine' PyProof.Rows.ld (by assumption) (by first | exact rfl | assumption) ?_))
  k_with "execs cons Assign cons" => (k_dflt (refine wpAny_execs_cons ?_))
  k_with "execs cons Assign nil" => (k_dflt (refine wpAny_execs_cons ?_))
  k_with "eval ListComp" => (k_dflt (refine LCg.ListComp_U (F₀ := by assumption) (by with_unfolding_all rfl) (by decide) (by rfl) (by decide) (by rfl) ?_))
  k_with "CompSrc" => refine Stop.out ?_
  k_with "binaryOp Add str str" => (k_dflt (refine PyProof.Rows.add_str (hsz := (by first | decide | (simp only [slen_append, slen_lit]; omega) | (simp only [slen_append]; omega))) ?_); intro _ _)
  k_with "eval Name" => ((with_reducible show wpAny _ _ (eval (Expr.Name _ _) (compEnvC _ _ _ _)) _ _ _); k_dflt (first | refine comp_global (by assumption) (by assumption) (by assumption) (by k_is) ?_ | refine comp_built (by assumption) (by assumption) (by assumption) (by k_is) (by boot_by_name) (by decide) ?_))
  trivial
open Rx
example : True := by
  k_with "eval Name" => ((with_reducible show wpAny _ _ (eval (Expr.Name _ _) (compEnvC _ _ _ _)) _ _ _); k_dflt (refine' comp_free (by assumption) (by rfl) (by k_mem) (by assumption) ?_ (by rfl) (by rfl)))
  k_with "exec Assign cons ListComp" => (k_dflt (refine LCt.Assign_ListComp_T (F₀ := by assumption) (by rfl) (by with_unfolding_all rfl) (by with_unfolding_all rfl) (by decide) (by rfl) (by decide) (by rfl) (by rfl) (by rfl) ?_))
  k_with "CompSrcT" => refine Stop.out ?_
  trivial
theorem newTuple_N2 {M : Model} {A : Around} {E : Value → Shared → Prop} {s : Shared} {h₀ : Heap} {L : Addr} {m : Str → Option Value} {news : List (Addr × Obj)} {vs : List Value} {Q : Value → Shared → Prop} (F : Fr h₀ L s.heap m) (N : News h₀ L s.heap news)
    (h : ∀ D o h', o = ({ cls := .type "tuple", data := .seq vs.toArray } : Obj) → Fr h₀ L h' m → News h₀ L h' ((D, o) :: news) → (∀ p ∈ news, p.1 ≠ D) → Q (.ref D) { s with heap := h' }) (hsz : vs.length ≤ sizeLine := by size_fits) :
    wpAny M A (newTuple vs) Q E s := newTuple_NK F N (fun h' F' N' _ => h _ _ h' rfl F' N' fun p hp => Nat.ne_of_lt (Heap.lt_size (N p hp).1)) hsz
theorem last_item {ys : List Value} {ns : List Int} (hI : IntsAre ys ns) (hne : ns ≠ []) : ∃ j t, seqIndex? (-1) ys.length = some j ∧ ys[j]? = some (.int (ns.getLastD 0) t) := by
  have hl := hI.length
  have hp : 0 < ns.length := List.length_pos_iff.mpr hne
  obtain ⟨t, ht⟩ := hI.get (ns.length - 1) (ns.getLastD 0) (by
    rw [List.getLastD_eq_getLast?, ← List.getLast?_eq_getElem?]
    obtain ⟨a, ha⟩ := Option.ne_none_iff_exists'.mp (mt List.getLast?_eq_none_iff.mp hne)
    rw [ha]; rfl)
  refine ⟨ns.length - 1, t, ?_, ht⟩
  unfold seqIndex?
  have e : (if (-1 : Int) < 0 then (-1 : Int) + ((ys.length : Nat) : Int) else -1) = ((ns.length - 1 : Nat) : Int) := by rw [if_pos (by decide), hl]; omega
  simp only [e]
  rw [if_pos (by simp; omega)]
  rfl
theorem eq_intsB {prog : Program} {w : World} {A : Around} {E : Value → Shared → Prop} {s : Shared} {a b : Addr} {vs us : List Value} {ns ms : List Int} {r : Bool} {Q : Value → Shared → Prop} (hl : s.heap.IsList a vs.toArray) (hi : IntsAre vs ns) (hl' : s.heap.IsList b us.toArray) (hi' : IntsAre us ms) (hu : A.units + 64 < cLine)
    (hd : decide (ns = ms) = r) (h : Q (.bool r) s) : wpAny (model prog w) A (compareOp .Eq (.ref a) (.ref b)) Q E s := eq_intsK hl hi hl' hi' hu (hd ▸ h)
example : True := by
  k_with "newTuple" => (k_dflt (refine newTuple_N2 (by assumption) (by assumption) ?_); intro _ _ _ _ _ _ _)
  k_with "call builtin:list.append" => refine Stop.out ?_
  k_with "compareOp Eq ref ref" => (k_dflt (refine' eq_intsB (by is_list) (by assumption) (by is_list) (by exact .nil) (by show _ + 64 < 9900; dsimp only; omega) (by assumption) ?_))
  k_with "subscriptTail" => ((with_reducible show wpAny _ _ (subscriptTail _ (PySem.Expr.UnaryOp _ _ _) _ _) _ _ _); k_dflt (refine' kde_neg (by is_list) (by decide) (by decide) (by assumption) (by assumption) ?_ (by with_unfolding_all rfl)))
  trivial
theorem fm_succ {f : Nat → Option Row3} (n : Nat) : (List.range (n + 1)).filterMap f = (List.range n).filterMap f ++ (match f n with | some r => [r] | none => []) := by
  rw [List.range_succ, List.filterMap_append, List.filterMap_cons]
  cases f n <;> rfl
noncomputable abbrev sizeIf : List Stmt := sizeBody.drop 2
example : True := by
  k_with "eval Name" => ((with_reducible show wpAny _ _ (eval (Expr.Name _ _) (envOfC _ _ _ _ _)) _ _ _); k_dflt (refine' ld_cell (by assumption) (by rfl) (by rfl) (by with_reducible (repeat (first | exact List.mem_cons_self | apply List.mem_cons_of_mem))) (by with_reducible assumption) ?_))
  k_with "eval Name" => ((with_reducible show wpAny _ _ (eval (Expr.Name _ _) (compEnvC _ _ _ _)) _ _ _); k_dflt (refine' comp_cell (by assumption) (by rfl) (by rfl) (by with_reducible (repeat (first | exact List.mem_cons_self | apply List.mem_cons_of_mem))) (by with_reducible assumption) ?_))
  trivial
/-- what stands between the turns of the loop over the sizes -/
structure SizeJ (h₀ : Heap) (L : Addr) (D1 D2 : Nat) (beh : List Int) (m₀ : Str → Option Value) (cS : Addr) (base : List (Addr × Obj)) (g₀ : Array GenState) (i : Nat) (m : Str → Option Value) (news : List (Addr × Obj)) (g : Array GenState) : Prop where
  map : ∀ y, y ≠ Str.ofString "column" → y ≠ Str.ofString "hits" → m y = m₀ y
  news : ∃ ls lb lk vs bs ks n1 n2 n3 oS v tups, news = (cS, oS) :: (ls, W.listOf vs.toArray n1) :: (lb, W.listOf bs.toArray n2) :: (lk, W.listOf ks.toArray n3) :: (tups ++ base) ∧
    m₀ (Str.ofString "seen") = some (.ref ls) ∧ m₀ (Str.ofString "blind") = some (.ref lb) ∧ m₀ (Str.ofString "back") = some (.ref lk) ∧ oS.data = .cell v ∧
    RowsIn tups vs (seenOf D1 D2 beh i) ∧ RowsIn tups bs (blindOf D1 D2 beh i) ∧ RowsIn tups ks (backOf D1 D2 beh i) ∧
    (∀ p ∈ tups ++ base, p.1 ≠ cS ∧ p.1 ≠ ls ∧ p.1 ≠ lb ∧ p.1 ≠ lk) ∧ (∀ p ∈ tups, p.1 ≠ 99) ∧ cS ≠ ls ∧ cS ≠ lb ∧ cS ≠ lk ∧ ls ≠ lb ∧ ls ≠ lk ∧ lb ≠ lk
  gens : g = g₀
theorem append_in {prog : Program} {w : World} {A : Around} {E : Value → Shared → Prop} {s : Shared} {h₀ : Heap} {L D : Addr} {m : Str → Option Value} {vs : List Value} {n : Nat} {x : Value} {news : List (Addr × Obj)} (rest : List (Addr × Obj)) {Q : Value → Shared → Prop}
    (F : Fr h₀ L s.heap m) (N : News h₀ L s.heap news) (hm : (D, W.listOf vs.toArray n) ∈ news) (sub : ∀ p ∈ rest, p ∈ news) (off : ∀ p ∈ rest, p.1 ≠ D) (hz : vs.length ≤ 10000)
    (h : ∀ h', Fr h₀ L h' m → News h₀ L h' ((D, W.listOf (vs ++ [x]).toArray (n + 1)) :: rest) → Q .none { s with heap := h' }) :
    wpAny (model prog w) A (call (.builtin "list.append") [.ref D, x]) Q E s := by
  have z := N _ hm
  refine append_at (hsz := by show vs.toArray.size ≤ 2 ^ 24; rw [List.size_toArray]; omega) z.1 fun h' hs ho' => h h' (F.change hs z.2.1 z.2.2) fun p hp => ?_
  rcases List.mem_cons.mp hp with rfl | hp
  · exact ⟨by rw [ho']; simp, z.2⟩
  · exact ⟨hs.extBut _ _ (off p hp) (N _ (sub p hp)).1, (N _ (sub p hp)).2⟩
theorem size_if {w : World} {dp un : Nat} {fr : Option (List Env)} {gd : Option (List Code)} {s : Shared} {h₀ : Heap} {L fa : Addr} {cd : Value} {Q : Flow → Shared → Prop}
    {D1 D2 : Nat} {m₁ : Str → Option Value} {more : List (Addr × Obj)} {Db D ls lb lk : Addr} {bvs ys vs bs ks : List Value} {beh hits : List Int} {n1 n2 n3 nD : Nat} {oS : Obj} {i : Nat} {tv tc : Tok} (hi : i < 8)
    (hbe : IntsAre bvs beh) (h8 : beh.length = 8) (hA : dp < 350) (hU : un < 4000) (hI : IntsAre ys hits) (hhits : hits = hitsOf D1 D2 (1 + (i : Int))) (dS : oS.data = .cell (some (.int (1 + (i : Int)) tv))) 
    (hvl : vs.length ≤ 100) (hbl : bs.length ≤ 100) (hkl : ks.length ≤ 100)
    (F : Fr h₀ L s.heap (fun y => if y = Str.ofString "hits" then some (.ref D) else if y = Str.ofString "column" then some (.int (colAt D1 beh i) tc) else m₁ y))
    (N : News h₀ L s.heap ((L + 1 + 1 + 1, oS) :: (ls, W.listOf vs.toArray n1) :: (lb, W.listOf bs.toArray n2) :: (lk, W.listOf ks.toArray n3) :: (Db, LCg.lst bvs) :: (D, W.listOf ys.toArray nD) :: more))
    (offD : D ≠ ls ∧ D ≠ lb ∧ D ≠ lk) (offM : ∀ p ∈ more, p.1 ≠ ls ∧ p.1 ≠ lb ∧ p.1 ≠ lk) (offB : Db ≠ ls ∧ Db ≠ lb ∧ Db ≠ lk)
    (q1 : L + 1 + 1 + 1 ≠ ls) (q2 : L + 1 + 1 + 1 ≠ lb) (q3 : L + 1 + 1 + 1 ≠ lk) (q4 : ls ≠ lb) (q5 : ls ≠ lk) (q6 : lb ≠ lk)
    (mm2 : m₁ (Str.ofString "behind") = some (.ref Db)) (mm3 : m₁ (Str.ofString "seen") = some (.ref ls)) (mm4 : m₁ (Str.ofString "blind") = some (.ref lb)) (mm5 : m₁ (Str.ofString "back") = some (.ref lk))
    (h : ∀ h' tk' vs' bs' ks' n1' n2' n3' tups, Fr h₀ L h' (fun y => if y = Str.ofString "hits" then some (.ref D) else if y = Str.ofString "column" then some (.int (colAt D1 beh i) tc) else m₁ y) →
      News h₀ L h' ((L + 1 + 1 + 1, oS) :: (ls, W.listOf vs'.toArray n1') :: (lb, W.listOf bs'.toArray n2') :: (lk, W.listOf ks'.toArray n3') :: (Db, LCg.lst bvs) :: (tups ++ more)) →
      (∀ l, RowsIn l vs (seenOf D1 D2 beh i) → RowsIn (tups ++ l) vs' (seenOf D1 D2 beh (i + 1))) → (∀ l, RowsIn l bs (blindOf D1 D2 beh i) → RowsIn (tups ++ l) bs' (blindOf D1 D2 beh (i + 1))) → (∀ l, RowsIn l ks (backOf D1 D2 beh i) → RowsIn (tups ++ l) ks' (backOf D1 D2 beh (i + 1))) →
      (∀ p ∈ tups, p.1 ≠ L + 1 + 1 + 1 ∧ p.1 ≠ ls ∧ p.1 ≠ lb ∧ p.1 ≠ lk ∧ ∀ q ∈ more, p.1 ≠ q.1) → Q .next { s with heap := h', toks := tk' }) :
    wpAny (model PySem.Challenge.rw_pe0145_01.row.prog w) ⟨none, dp, fr, gd, un⟩ (execs sizeIf (envOfC (Str.ofString "law") lawScope L fa cd)) Q noE s := by
  conv in sizeIf => whnf
  delta lawScope pick
  have ei : ((1 : Int) + (i : Int) - 1).toNat = i := by omega
  by_cases hh : hits = []
  · have hdec : decide (hits = []) = true := decide_eq_true hh
    have hz : hitsOf D1 D2 (1 + (i : Int)) = [] := hhits ▸ hh
    have e1 : seenOf D1 D2 beh (i + 1) = seenOf D1 D2 beh i := by unfold seenOf; rw [fm_succ]; unfold seenAt; rw [if_pos hz]; exact List.append_nil _
    have e2 : blindOf D1 D2 beh (i + 1) = blindOf D1 D2 beh i ++ [(1 + (i : Int), colAt D1 beh i, colAt D1 beh i)] := by unfold blindOf; rw [fm_succ]; unfold blindAt; rw [if_pos hz]
    have e3 : backOf D1 D2 beh (i + 1) = backOf D1 D2 beh i ++ [(1 + (i : Int), colAt D1 beh i, colAt D1 beh i)] := by unfold backOf; rw [fm_succ]; unfold backAt; rw [if_pos hz]
    k_steps
    all_goals try k_data
    unfold Stop
    rename_i Da oa h9 ea F9 N9 off9
    refine append_in (vs := bs) (n := n2) ((Da, oa) :: (L + 1 + 1 + 1, oS) :: (ls, W.listOf vs.toArray n1) :: (lk, W.listOf ks.toArray n3) :: (Db, LCg.lst bvs) :: (D, W.listOf ys.toArray nD) :: more) F9 N9 (by first | (with_reducible (repeat (first | exact List.mem_cons_self | assumption | exact List.mem_append_left _ (by assumption) | exact List.mem_append_left _ (List.mem_append_left _ (by assumption)) | exact List.mem_append_left _ (List.mem_append_right _ (by assumption)) | refine List.mem_cons_of_mem _ ?_ | refine List.mem_append_right _ ?_)); done) | simp) (fun p hp => by simp only [List.mem_cons] at hp ⊢; rcases hp with z | z | z | z | z | z | z <;> simp [z]) ?_ (by omega) ?_
    · intro p hp
      simp only [List.mem_cons] at hp
      rcases hp with rfl | rfl | rfl | rfl | rfl | rfl | hp
      · exact Ne.symm (off9 (lb, W.listOf bs.toArray n2) (by first | (with_reducible (repeat (first | exact List.mem_cons_self | assumption | exact List.mem_append_left _ (by assumption) | exact List.mem_append_left _ (List.mem_append_left _ (by assumption)) | exact List.mem_append_left _ (List.mem_append_right _ (by assumption)) | refine List.mem_cons_of_mem _ ?_ | refine List.mem_append_right _ ?_)); done) | simp))
      · exact q2
      · exact q4
      · exact Ne.symm q6
      · exact offB.2.1
      · exact offD.2.1
      · exact (offM p hp).2.1
    intro h10 F10 N10
    clear F9 N9
    k_steps
    all_goals try k_data
    unfold Stop
    rename_i Dc oc h11 ec F11 N11 off11
    refine append_in (vs := ks) (n := n3) ((Dc, oc) :: (Da, oa) :: (L + 1 + 1 + 1, oS) :: (ls, W.listOf vs.toArray n1) :: (lb, W.listOf (bs ++ [Value.ref Da]).toArray (n2 + 1)) :: (Db, LCg.lst bvs) :: (D, W.listOf ys.toArray nD) :: more) F11 N11 (by first | (with_reducible (repeat (first | exact List.mem_cons_self | assumption | exact List.mem_append_left _ (by assumption) | exact List.mem_append_left _ (List.mem_append_left _ (by assumption)) | exact List.mem_append_left _ (List.mem_append_right _ (by assumption)) | refine List.mem_cons_of_mem _ ?_ | refine List.mem_append_right _ ?_)); done) | simp) (fun p hp => by simp only [List.mem_cons] at hp ⊢; rcases hp with z | z | z | z | z | z | z | z <;> simp [z]) ?_ (by omega) ?_
    · intro p hp
      simp only [List.mem_cons] at hp
      rcases hp with rfl | rfl | rfl | rfl | rfl | rfl | rfl | hp
      · exact Ne.symm (off11 (lk, W.listOf ks.toArray n3) (by first | (with_reducible (repeat (first | exact List.mem_cons_self | assumption | exact List.mem_append_left _ (by assumption) | exact List.mem_append_left _ (List.mem_append_left _ (by assumption)) | exact List.mem_append_left _ (List.mem_append_right _ (by assumption)) | refine List.mem_cons_of_mem _ ?_ | refine List.mem_append_right _ ?_)); done) | simp))
      · exact Ne.symm (off9 (lk, W.listOf ks.toArray n3) (by first | (with_reducible (repeat (first | exact List.mem_cons_self | assumption | exact List.mem_append_left _ (by assumption) | exact List.mem_append_left _ (List.mem_append_left _ (by assumption)) | exact List.mem_append_left _ (List.mem_append_right _ (by assumption)) | refine List.mem_cons_of_mem _ ?_ | refine List.mem_append_right _ ?_)); done) | simp))
      · exact q3
      · exact q5
      · exact q6
      · exact offB.2.2
      · exact offD.2.2
      · exact (offM p hp).2.2
    intro h12 F12 N12
    clear F11 N11
    k_steps
    refine h h12 _ vs (bs ++ [Value.ref Da]) (ks ++ [Value.ref Dc]) n1 (n2 + 1) (n3 + 1) [(Dc, oc), (Da, oa)] F12 (fun p hp => N12 p ?_) ?_ ?_ ?_ ?_
    · first
        | (revert hp; revert p; (repeat' (first | exact sub_nil | refine sub_app ?_ ?_ | refine sub_cons (by with_reducible (repeat (first | exact List.mem_cons_self | assumption | exact List.mem_append_left _ (by assumption) | exact List.mem_append_left _ (List.mem_append_left _ (by assumption)) | exact List.mem_append_left _ (List.mem_append_right _ (by assumption)) | refine List.mem_cons_of_mem _ ?_ | refine List.mem_append_right _ ?_))) ?_ | (intro p hp; with_reducible (repeat (first | exact List.mem_cons_self | assumption | exact List.mem_append_left _ (by assumption) | exact List.mem_append_left _ (List.mem_append_left _ (by assumption)) | exact List.mem_append_left _ (List.mem_append_right _ (by assumption)) | refine List.mem_cons_of_mem _ ?_ | refine List.mem_append_right _ ?_)); done))); done)
        | (simp only [List.cons_append, List.nil_append, List.mem_cons] at hp ⊢; rcases hp with z | z | z | z | z | z | z | z <;> simp [z])
    · intro l H
      rw [e1]
      exact H.mono fun p hp => List.mem_append_right _ hp
    · intro l H
      rw [e2]
      subst ea ec
      exact .snoc (H.mono fun p hp => List.mem_append_right _ hp) ⟨_, _, _, _, _, rfl, List.mem_append_left _ (List.mem_cons_of_mem _ List.mem_cons_self)⟩
    · intro l H
      rw [e3]
      subst ea ec
      exact .snoc (H.mono fun p hp => List.mem_append_right _ hp) ⟨_, _, _, _, _, rfl, List.mem_append_left _ List.mem_cons_self⟩
    · intro p hp
      simp only [List.mem_cons, List.not_mem_nil, or_false] at hp
      rcases hp with rfl | rfl
      · exact ⟨Ne.symm (off11 (L + 1 + 1 + 1, oS) (by first | (with_reducible (repeat (first | exact List.mem_cons_self | assumption | exact List.mem_append_left _ (by assumption) | exact List.mem_append_left _ (List.mem_append_left _ (by assumption)) | exact List.mem_append_left _ (List.mem_append_right _ (by assumption)) | refine List.mem_cons_of_mem _ ?_ | refine List.mem_append_right _ ?_)); done) | simp)), Ne.symm (off11 (ls, W.listOf vs.toArray n1) (by first | (with_reducible (repeat (first | exact List.mem_cons_self | assumption | exact List.mem_append_left _ (by assumption) | exact List.mem_append_left _ (List.mem_append_left _ (by assumption)) | exact List.mem_append_left _ (List.mem_append_right _ (by assumption)) | refine List.mem_cons_of_mem _ ?_ | refine List.mem_append_right _ ?_)); done) | simp)), Ne.symm (off11 (lb, W.listOf (bs ++ [Value.ref Da]).toArray (n2 + 1)) (by first | (with_reducible (repeat (first | exact List.mem_cons_self | assumption | exact List.mem_append_left _ (by assumption) | exact List.mem_append_left _ (List.mem_append_left _ (by assumption)) | exact List.mem_append_left _ (List.mem_append_right _ (by assumption)) | refine List.mem_cons_of_mem _ ?_ | refine List.mem_append_right _ ?_)); done) | simp)), Ne.symm (off11 (lk, W.listOf ks.toArray n3) (by first | (with_reducible (repeat (first | exact List.mem_cons_self | assumption | exact List.mem_append_left _ (by assumption) | exact List.mem_append_left _ (List.mem_append_left _ (by assumption)) | exact List.mem_append_left _ (List.mem_append_right _ (by assumption)) | refine List.mem_cons_of_mem _ ?_ | refine List.mem_append_right _ ?_)); done) | simp)), fun q hq => Ne.symm (off11 q (by simp [hq]))⟩
      · exact ⟨Ne.symm (off9 (L + 1 + 1 + 1, oS) (by first | (with_reducible (repeat (first | exact List.mem_cons_self | assumption | exact List.mem_append_left _ (by assumption) | exact List.mem_append_left _ (List.mem_append_left _ (by assumption)) | exact List.mem_append_left _ (List.mem_append_right _ (by assumption)) | refine List.mem_cons_of_mem _ ?_ | refine List.mem_append_right _ ?_)); done) | simp)), Ne.symm (off9 (ls, W.listOf vs.toArray n1) (by first | (with_reducible (repeat (first | exact List.mem_cons_self | assumption | exact List.mem_append_left _ (by assumption) | exact List.mem_append_left _ (List.mem_append_left _ (by assumption)) | exact List.mem_append_left _ (List.mem_append_right _ (by assumption)) | refine List.mem_cons_of_mem _ ?_ | refine List.mem_append_right _ ?_)); done) | simp)), Ne.symm (off9 (lb, W.listOf bs.toArray n2) (by first | (with_reducible (repeat (first | exact List.mem_cons_self | assumption | exact List.mem_append_left _ (by assumption) | exact List.mem_append_left _ (List.mem_append_left _ (by assumption)) | exact List.mem_append_left _ (List.mem_append_right _ (by assumption)) | refine List.mem_cons_of_mem _ ?_ | refine List.mem_append_right _ ?_)); done) | simp)), Ne.symm (off9 (lk, W.listOf ks.toArray n3) (by first | (with_reducible (repeat (first | exact List.mem_cons_self | assumption | exact List.mem_append_left _ (by assumption) | exact List.mem_append_left _ (List.mem_append_left _ (by assumption)) | exact List.mem_append_left _ (List.mem_append_right _ (by assumption)) | refine List.mem_cons_of_mem _ ?_ | refine List.mem_append_right _ ?_)); done) | simp)), fun q hq => Ne.symm (off9 q (by simp [hq]))⟩
  · have hdec : decide (hits = []) = false := decide_eq_false hh
    have hz : ¬ hitsOf D1 D2 (1 + (i : Int)) = [] := hhits ▸ hh
    have e1 : seenOf D1 D2 beh (i + 1) = seenOf D1 D2 beh i ++ [(1 + (i : Int), colAt D1 beh i, hits.getLastD 0 + beh.getD i 0)] := by unfold seenOf; rw [fm_succ]; unfold seenAt; rw [if_neg hz, hhits]
    have e2 : blindOf D1 D2 beh (i + 1) = blindOf D1 D2 beh i := by unfold blindOf; rw [fm_succ]; unfold blindAt; rw [if_neg hz]; exact List.append_nil _
    have e3 : backOf D1 D2 beh (i + 1) = backOf D1 D2 beh i ++ [(1 + (i : Int), hits.getLastD 0 + beh.getD i 0, colAt D1 beh i)] := by unfold backOf; rw [fm_succ]; unfold backAt; rw [if_neg hz, hhits]
    obtain ⟨jj, tj, hj1, hj2⟩ := last_item hI hh
    k_steps
    all_goals try k_data
    unfold Stop
    rename_i Da oa h9 ea F9 N9 off9
    rw [ei] at ea
    refine append_in (vs := vs) (n := n1) ((Da, oa) :: (L + 1 + 1 + 1, oS) :: (lb, W.listOf bs.toArray n2) :: (lk, W.listOf ks.toArray n3) :: (Db, LCg.lst bvs) :: (D, W.listOf ys.toArray nD) :: more) F9 N9 (by first | (with_reducible (repeat (first | exact List.mem_cons_self | assumption | exact List.mem_append_left _ (by assumption) | exact List.mem_append_left _ (List.mem_append_left _ (by assumption)) | exact List.mem_append_left _ (List.mem_append_right _ (by assumption)) | refine List.mem_cons_of_mem _ ?_ | refine List.mem_append_right _ ?_)); done) | simp) (fun p hp => by simp only [List.mem_cons] at hp ⊢; rcases hp with z | z | z | z | z | z | z <;> simp [z]) ?_ (by omega) ?_
    · intro p hp
      simp only [List.mem_cons] at hp
      rcases hp with rfl | rfl | rfl | rfl | rfl | rfl | hp
      · exact Ne.symm (off9 (ls, W.listOf vs.toArray n1) (by first | (with_reducible (repeat (first | exact List.mem_cons_self | assumption | exact List.mem_append_left _ (by assumption) | exact List.mem_append_left _ (List.mem_append_left _ (by assumption)) | exact List.mem_append_left _ (List.mem_append_right _ (by assumption)) | refine List.mem_cons_of_mem _ ?_ | refine List.mem_append_right _ ?_)); done) | simp))
      · exact q1
      · exact Ne.symm q4
      · exact Ne.symm q5
      · exact offB.1
      · exact offD.1
      · exact (offM p hp).1
    intro h10 F10 N10
    clear F9 N9
    k_steps
    all_goals try k_data
    unfold Stop
    rename_i Dc oc h11 ec F11 N11 off11
    rw [ei] at ec
    refine append_in (vs := ks) (n := n3) ((Dc, oc) :: (Da, oa) :: (L + 1 + 1 + 1, oS) :: (ls, W.listOf (vs ++ [Value.ref Da]).toArray (n1 + 1)) :: (lb, W.listOf bs.toArray n2) :: (Db, LCg.lst bvs) :: (D, W.listOf ys.toArray nD) :: more) F11 N11 (by first | (with_reducible (repeat (first | exact List.mem_cons_self | assumption | exact List.mem_append_left _ (by assumption) | exact List.mem_append_left _ (List.mem_append_left _ (by assumption)) | exact List.mem_append_left _ (List.mem_append_right _ (by assumption)) | refine List.mem_cons_of_mem _ ?_ | refine List.mem_append_right _ ?_)); done) | simp) (fun p hp => by simp only [List.mem_cons] at hp ⊢; rcases hp with z | z | z | z | z | z | z | z <;> simp [z]) ?_ (by omega) ?_
    · intro p hp
      simp only [List.mem_cons] at hp
      rcases hp with rfl | rfl | rfl | rfl | rfl | rfl | rfl | hp
      · exact Ne.symm (off11 (lk, W.listOf ks.toArray n3) (by first | (with_reducible (repeat (first | exact List.mem_cons_self | assumption | exact List.mem_append_left _ (by assumption) | exact List.mem_append_left _ (List.mem_append_left _ (by assumption)) | exact List.mem_append_left _ (List.mem_append_right _ (by assumption)) | refine List.mem_cons_of_mem _ ?_ | refine List.mem_append_right _ ?_)); done) | simp))
      · exact Ne.symm (off9 (lk, W.listOf ks.toArray n3) (by first | (with_reducible (repeat (first | exact List.mem_cons_self | assumption | exact List.mem_append_left _ (by assumption) | exact List.mem_append_left _ (List.mem_append_left _ (by assumption)) | exact List.mem_append_left _ (List.mem_append_right _ (by assumption)) | refine List.mem_cons_of_mem _ ?_ | refine List.mem_append_right _ ?_)); done) | simp))
      · exact q3
      · exact q5
      · exact q6
      · exact offB.2.2
      · exact offD.2.2
      · exact (offM p hp).2.2
    intro h12 F12 N12
    clear F11 N11
    k_steps
    refine h h12 _ (vs ++ [Value.ref Da]) bs (ks ++ [Value.ref Dc]) (n1 + 1) n2 (n3 + 1) [(Dc, oc), (Da, oa)] F12 (fun p hp => N12 p ?_) ?_ ?_ ?_ ?_
    · first
        | (revert hp; revert p; (repeat' (first | exact sub_nil | refine sub_app ?_ ?_ | refine sub_cons (by with_reducible (repeat (first | exact List.mem_cons_self | assumption | exact List.mem_append_left _ (by assumption) | exact List.mem_append_left _ (List.mem_append_left _ (by assumption)) | exact List.mem_append_left _ (List.mem_append_right _ (by assumption)) | refine List.mem_cons_of_mem _ ?_ | refine List.mem_append_right _ ?_))) ?_ | (intro p hp; with_reducible (repeat (first | exact List.mem_cons_self | assumption | exact List.mem_append_left _ (by assumption) | exact List.mem_append_left _ (List.mem_append_left _ (by assumption)) | exact List.mem_append_left _ (List.mem_append_right _ (by assumption)) | refine List.mem_cons_of_mem _ ?_ | refine List.mem_append_right _ ?_)); done))); done)
        | (simp only [List.cons_append, List.nil_append, List.mem_cons] at hp ⊢; rcases hp with z | z | z | z | z | z | z | z <;> simp [z])
    · intro l H
      rw [e1]
      subst ea ec
      exact .snoc (H.mono fun p hp => List.mem_append_right _ hp) ⟨_, _, _, _, _, rfl, List.mem_append_left _ (List.mem_cons_of_mem _ List.mem_cons_self)⟩
    · intro l H
      rw [e2]
      exact H.mono fun p hp => List.mem_append_right _ hp
    · intro l H
      rw [e3]
      subst ea ec
      exact .snoc (H.mono fun p hp => List.mem_append_right _ hp) ⟨_, _, _, _, _, rfl, List.mem_append_left _ List.mem_cons_self⟩
    · intro p hp
      simp only [List.mem_cons, List.not_mem_nil, or_false] at hp
      rcases hp with rfl | rfl
      · exact ⟨Ne.symm (off11 (L + 1 + 1 + 1, oS) (by first | (with_reducible (repeat (first | exact List.mem_cons_self | assumption | exact List.mem_append_left _ (by assumption) | exact List.mem_append_left _ (List.mem_append_left _ (by assumption)) | exact List.mem_append_left _ (List.mem_append_right _ (by assumption)) | refine List.mem_cons_of_mem _ ?_ | refine List.mem_append_right _ ?_)); done) | simp)), Ne.symm (off11 (ls, W.listOf (vs ++ [Value.ref Da]).toArray (n1 + 1)) (by first | (with_reducible (repeat (first | exact List.mem_cons_self | assumption | exact List.mem_append_left _ (by assumption) | exact List.mem_append_left _ (List.mem_append_left _ (by assumption)) | exact List.mem_append_left _ (List.mem_append_right _ (by assumption)) | refine List.mem_cons_of_mem _ ?_ | refine List.mem_append_right _ ?_)); done) | simp)), Ne.symm (off11 (lb, W.listOf bs.toArray n2) (by first | (with_reducible (repeat (first | exact List.mem_cons_self | assumption | exact List.mem_append_left _ (by assumption) | exact List.mem_append_left _ (List.mem_append_left _ (by assumption)) | exact List.mem_append_left _ (List.mem_append_right _ (by assumption)) | refine List.mem_cons_of_mem _ ?_ | refine List.mem_append_right _ ?_)); done) | simp)), Ne.symm (off11 (lk, W.listOf ks.toArray n3) (by first | (with_reducible (repeat (first | exact List.mem_cons_self | assumption | exact List.mem_append_left _ (by assumption) | exact List.mem_append_left _ (List.mem_append_left _ (by assumption)) | exact List.mem_append_left _ (List.mem_append_right _ (by assumption)) | refine List.mem_cons_of_mem _ ?_ | refine List.mem_append_right _ ?_)); done) | simp)), fun q hq => Ne.symm (off11 q (by simp [hq]))⟩
      · exact ⟨Ne.symm (off9 (L + 1 + 1 + 1, oS) (by first | (with_reducible (repeat (first | exact List.mem_cons_self | assumption | exact List.mem_append_left _ (by assumption) | exact List.mem_append_left _ (List.mem_append_left _ (by assumption)) | exact List.mem_append_left _ (List.mem_append_right _ (by assumption)) | refine List.mem_cons_of_mem _ ?_ | refine List.mem_append_right _ ?_)); done) | simp)), Ne.symm (off9 (ls, W.listOf vs.toArray n1) (by first | (with_reducible (repeat (first | exact List.mem_cons_self | assumption | exact List.mem_append_left _ (by assumption) | exact List.mem_append_left _ (List.mem_append_left _ (by assumption)) | exact List.mem_append_left _ (List.mem_append_right _ (by assumption)) | refine List.mem_cons_of_mem _ ?_ | refine List.mem_append_right _ ?_)); done) | simp)), Ne.symm (off9 (lb, W.listOf bs.toArray n2) (by first | (with_reducible (repeat (first | exact List.mem_cons_self | assumption | exact List.mem_append_left _ (by assumption) | exact List.mem_append_left _ (List.mem_append_left _ (by assumption)) | exact List.mem_append_left _ (List.mem_append_right _ (by assumption)) | refine List.mem_cons_of_mem _ ?_ | refine List.mem_append_right _ ?_)); done) | simp)), Ne.symm (off9 (lk, W.listOf ks.toArray n3) (by first | (with_reducible (repeat (first | exact List.mem_cons_self | assumption | exact List.mem_append_left _ (by assumption) | exact List.mem_append_left _ (List.mem_append_left _ (by assumption)) | exact List.mem_append_left _ (List.mem_append_right _ (by assumption)) | refine List.mem_cons_of_mem _ ?_ | refine List.mem_append_right _ ?_)); done) | simp)), fun q hq => Ne.symm (off9 q (by simp [hq]))⟩
end
section
open PySem PySem.W PyProof.Rows
example : True := by
  k_with_none
  k_with "getAttr ref" => (k_dflt (refine' get_own (by assumption) (by assumption) (by exact (WsAt.keeps (by assumption) (Fr.keep (by assumption))).at) (by k_is) (by k_is) (by k_is) (by k_is) (by first | exact WsAt.norm (by assumption) | exact WsAt.n (by assumption) | exact WsAt.nt (by assumption) | exact WsAt.simple (by assumption)) (by rfl) ?_))
  k_with "exec For Name Call cons nil" => k_dflt (refine wpAny_For ?_)
  k_with "exec For Name Name cons nil" => k_dflt (refine wpAny_For ?_)
  k_with "exec For Name Attribute cons nil" => k_dflt (refine wpAny_For ?_)
  k_with "eval Name" => (k_dflt (refine' PyProof.Rows.ld (by assumption) (by first | exact rfl | assumption) ?_))
  k_with "execs cons Assign cons" => (k_dflt (refine wpAny_execs_cons ?_))
  k_with "execs cons Assign nil" => (k_dflt (refine wpAny_execs_cons ?_))
  k_with "eval ListComp" => (k_dflt (refine LCg.ListComp_U (F₀ := by assumption) (by with_unfolding_all rfl) (by decide) (by rfl) (by decide) (by rfl) ?_))
  k_with "CompSrc" => refine Stop.out ?_
  k_with "binaryOp Add str str" => (k_dflt (refine PyProof.Rows.add_str (hsz := (by first | decide | (simp only [slen_append, slen_lit]; omega) | (simp only [slen_append]; omega))) ?_); intro _ _)
  k_with "eval Name" => ((with_reducible show wpAny _ _ (eval (Expr.Name _ _) (compEnvC _ _ _ _)) _ _ _); k_dflt (first | refine comp_global (by assumption) (by assumption) (by assumption) (by k_is) ?_ | refine comp_built (by assumption) (by assumption) (by assumption) (by k_is) (by boot_by_name) (by decide) ?_))
  trivial
open Rx
example : True := by
  k_with "eval Name" => ((with_reducible show wpAny _ _ (eval (Expr.Name _ _) (compEnvC _ _ _ _)) _ _ _); k_dflt (refine' comp_free (by assumption) (by rfl) (by k_mem) (by assumption) ?_ (by rfl) (by rfl)))
  k_with "exec Assign cons ListComp" => (k_dflt (refine LCt.Assign_ListComp_T (F₀ := by assumption) (by rfl) (by with_unfolding_all rfl) (by with_unfolding_all rfl) (by decide) (by rfl) (by decide) (by rfl) (by rfl) (by rfl) ?_))
  k_with "CompSrcT" => refine Stop.out ?_
  k_with "eval Name" => ((with_reducible show wpAny _ _ (eval (Expr.Name _ _) (envOfC _ _ _ _ _)) _ _ _); k_dflt (refine' ld_cell (by assumption) (by rfl) (by rfl) (by with_reducible (repeat (first | exact List.mem_cons_self | apply List.mem_cons_of_mem))) (by with_reducible assumption) ?_))
  k_with "eval Name" => ((with_reducible show wpAny _ _ (eval (Expr.Name _ _) (compEnvC _ _ _ _)) _ _ _); k_dflt (refine' comp_cell (by assumption) (by rfl) (by rfl) (by with_reducible (repeat (first | exact List.mem_cons_self | apply List.mem_cons_of_mem))) (by with_reducible assumption) ?_))
  k_with "execs cons If nil" => refine Stop.out ?_
  k_with "execs cons If" => refine Stop.out ?_
  trivial
theorem off1_mem {D : Addr} : ∀ {l : List (Addr × Obj)}, LCg.Off1 D l → ∀ p ∈ l, p.1 ≠ D
  | [], _, _, hp => nomatch hp
  | _ :: _, h, p, hp => (List.mem_cons.mp hp).elim (fun e => e ▸ h.1) (off1_mem h.2 p)
theorem ints_snoc {vs : List Value} {ns : List Int} (h : IntsAre vs ns) (n : Int) (t : Tok) : IntsAre (vs ++ [.int n t]) (ns ++ [n]) := by
  induction h with
  | nil => exact .cons n t .nil
  | cons n' t' _ ih => exact .cons n' t' ih
theorem size_turn {w : World} {dp un : Nat} {fr : Option (List Env)} {gd : Option (List Code)} {s : Shared} {h₀ : Heap} {L fa : Addr} {cd : Value} {mg mb : Str → Option Value} {Q : Flow → Shared → Prop}
    {D1 D2 : Nat} {m₀ : Str → Option Value} {rest : List (Addr × Obj)} {o1 o2 : Obj} {Db : Addr} {bvs : List Value} {beh : List Int} {so la dots : Int} {t1 t2 td : Tok} {o99 : Obj} (h99 : (99, o99) ∈ rest)
    (X : (hd.heap_39 w.params).In h₀) (T : TopRead hd.view_39 LO mg mb h₀) (hA : dp < 350) (hU : un < 4000)
    (d1 : o1.data = .cell (some (.int so t1))) (d2 : o2.data = .cell (some (.int la t2))) (hbe : IntsAre bvs beh) (h8 : beh.length = 8)
    (hD1 : dots + so = (D1 : Int)) (hD2 : dots + la = (D2 : Int)) (h12 : D1 < D2) (hD8 : D2 < 8)
    (mdots : m₀ (Str.ofString "dots") = some (.int dots td)) (mbeh : m₀ (Str.ofString "behind") = some (.ref Db))
    {i : Nat} {tv : Tok} {m₁ : Str → Option Value} {news₁ : List (Addr × Obj)} {I : Addr} {oI : Obj} {h : Heap} {g : Array GenState} {tk : Nat} (hi : i < 8)
    (J : SizeJ h₀ L D1 D2 beh m₀ (L + 1 + 1 + 1) ((L + 1 + 1 + 1 + 1 + 1, o1) :: (L + 1 + 1 + 1 + 1, o2) :: (Db, LCg.lst bvs) :: rest) s.gens i m₁ news₁ g) (off : ∀ p ∈ news₁, p.1 ≠ I) (F : Fr h₀ L h m₁) (N : News h₀ L h ((I, oI) :: news₁)) :
    wpAny (model PySem.Challenge.rw_pe0145_01.row.prog w) ⟨none, dp, fr, gd, un⟩ (storeName (envOfC (Str.ofString "law") lawScope L fa cd) (Str.ofString "size") (.int (1 + (i : Int)) tv))
      (fun _ s₃ => wpAny (model PySem.Challenge.rw_pe0145_01.row.prog w) ⟨none, dp, fr, gd, un⟩ (execs sizeBody (envOfC (Str.ofString "law") lawScope L fa cd))
        (TurnX h₀ L Q s I oI (SizeJ h₀ L D1 D2 beh m₀ (L + 1 + 1 + 1) ((L + 1 + 1 + 1 + 1 + 1, o1) :: (L + 1 + 1 + 1 + 1, o2) :: (Db, LCg.lst bvs) :: rest) s.gens (i + 1))) noE s₃) noE { s with heap := h, gens := g, toks := tk } := by
  obtain ⟨hmap, ⟨ls, lb, lk, vs, bs, ks, n1, n2, n3, oS, v, tups, rfl, ms, mb', mk, dS, hRs, hRb, hRk, offb, ht9, q1, q2, q3, q4, q5, q6⟩, rfl⟩ := J
  have mm1 := (hmap (Str.ofString "dots") (by decide) (by decide)).trans mdots
  have mm2 := (hmap (Str.ofString "behind") (by decide) (by decide)).trans mbeh
  have mm3 := (hmap (Str.ofString "seen") (by decide) (by decide)).trans ms
  have mm4 := (hmap (Str.ofString "blind") (by decide) (by decide)).trans mb'
  have mm5 := (hmap (Str.ofString "back") (by decide) (by decide)).trans mk
  have N1 : News h₀ L h ((L + 1 + 1 + 1, oS) :: (ls, W.listOf vs.toArray n1) :: (lb, W.listOf bs.toArray n2) :: (lk, W.listOf ks.toArray n3) :: (L + 1 + 1 + 1 + 1 + 1, o1) :: (L + 1 + 1 + 1 + 1, o2) :: (Db, LCg.lst bvs) :: (I, oI) :: (tups ++ rest)) := fun p hp => N p (by
    first
      | (revert hp; revert p; (repeat' (first | exact sub_nil | refine sub_app ?_ ?_ | refine sub_cons (by with_reducible (repeat (first | exact List.mem_cons_self | assumption | exact List.mem_append_left _ (by assumption) | exact List.mem_append_left _ (List.mem_append_left _ (by assumption)) | exact List.mem_append_left _ (List.mem_append_right _ (by assumption)) | refine List.mem_cons_of_mem _ ?_ | refine List.mem_append_right _ ?_))) ?_ | (intro p hp; with_reducible (repeat (first | exact List.mem_cons_self | assumption | exact List.mem_append_left _ (by assumption) | exact List.mem_append_left _ (List.mem_append_left _ (by assumption)) | exact List.mem_append_left _ (List.mem_append_right _ (by assumption)) | refine List.mem_cons_of_mem _ ?_ | refine List.mem_append_right _ ?_)); done))); done)
      | (simp only [List.mem_cons, List.mem_append] at hp ⊢; rcases hp with h | h | h | h | h | h | h | h | h | h <;> simp [h]))
  refine store_cell (c := L + 1 + 1 + 1) rfl rfl rfl F N1 ?_ dS ?_
  · intro p hp
    simp only [List.mem_cons, List.mem_append] at hp
    rcases hp with rfl | rfl | rfl | rfl | rfl | rfl | rfl | h | h
    · exact Ne.symm q1
    · exact Ne.symm q2
    · exact Ne.symm q3
    · exact (offb _ (by first | (with_reducible (repeat (first | exact List.mem_cons_self | assumption | exact List.mem_append_left _ (by assumption) | exact List.mem_append_left _ (List.mem_append_left _ (by assumption)) | exact List.mem_append_left _ (List.mem_append_right _ (by assumption)) | refine List.mem_cons_of_mem _ ?_ | refine List.mem_append_right _ ?_)); done) | simp)).1
    · exact (offb _ (by first | (with_reducible (repeat (first | exact List.mem_cons_self | assumption | exact List.mem_append_left _ (by assumption) | exact List.mem_append_left _ (List.mem_append_left _ (by assumption)) | exact List.mem_append_left _ (List.mem_append_right _ (by assumption)) | refine List.mem_cons_of_mem _ ?_ | refine List.mem_append_right _ ?_)); done) | simp)).1
    · exact (offb _ (by first | (with_reducible (repeat (first | exact List.mem_cons_self | assumption | exact List.mem_append_left _ (by assumption) | exact List.mem_append_left _ (List.mem_append_left _ (by assumption)) | exact List.mem_append_left _ (List.mem_append_right _ (by assumption)) | refine List.mem_cons_of_mem _ ?_ | refine List.mem_append_right _ ?_)); done) | simp)).1
    · exact Ne.symm (off (L + 1 + 1 + 1, oS) (by first | (with_reducible (repeat (first | exact List.mem_cons_self | assumption | exact List.mem_append_left _ (by assumption) | exact List.mem_append_left _ (List.mem_append_left _ (by assumption)) | exact List.mem_append_left _ (List.mem_append_right _ (by assumption)) | refine List.mem_cons_of_mem _ ?_ | refine List.mem_append_right _ ?_)); done) | simp))
    · exact (offb p (by first | (with_reducible (repeat (first | exact List.mem_cons_self | assumption | exact List.mem_append_left _ (by assumption) | exact List.mem_append_left _ (List.mem_append_left _ (by assumption)) | exact List.mem_append_left _ (List.mem_append_right _ (by assumption)) | refine List.mem_cons_of_mem _ ?_ | refine List.mem_append_right _ ?_)); done) | simp [h])).1
    · exact (offb p (by first | (with_reducible (repeat (first | exact List.mem_cons_self | assumption | exact List.mem_append_left _ (by assumption) | exact List.mem_append_left _ (List.mem_append_left _ (by assumption)) | exact List.mem_append_left _ (List.mem_append_right _ (by assumption)) | refine List.mem_cons_of_mem _ ?_ | refine List.mem_append_right _ ?_)); done) | simp [h])).1
  intro h' oS' F1 N2 dS'
  delta sizeBody lawScope pick
  clear F N N1
  k_steps
  all_goals try k_data
  unfold Stop
  rename Fr _ _ _ _ => F8
  rename News _ _ _ _ => N8
  rename IsRange _ _ _ _ _ _ _ _ => R8
  refine LCt.CompSrcT.range (n := D2 - D1) rfl F8 N8 R8 (small_one (by omega) (by omega) (by omega) (by omega)) (by rw [rangeSize_one]; congr 1; omega) (by show _ ≤ 16777216; omega) ?_
  intro g'
  refine comp_restT (R := fun j ys nl => nl = [] ∧ IntsAre ys (((List.range j).map fun (k : Nat) => ((D1 : Int) + 1 + (k : Int))).filter fun c => decide (c.fmod (1 + (i : Int)) = 0))) (fun _ => trivial) ⟨rfl, .nil⟩ ?_ ?_
  · rintro j v' ys nl I' oI' C oC D m₂ h₂ tk' hj ⟨tv', rfl⟩ ⟨rfl, hR⟩ hC hx F₂ N₂
    clear N8 F8
    show wpAny _ _ _ _ _ _
    have hs : ∀ q : Int, q = (D1 : Int) + 1 + (j : Int) → ((List.range (j + 1)).map fun (k : Nat) => ((D1 : Int) + 1 + (k : Int))).filter (fun c => decide (c.fmod (1 + (i : Int)) = 0)) =
        (((List.range j).map fun (k : Nat) => ((D1 : Int) + 1 + (k : Int))).filter fun c => decide (c.fmod (1 + (i : Int)) = 0)) ++ (if q.fmod (1 + (i : Int)) = 0 then [q] else []) := by
      rintro q rfl
      rw [List.range_succ, List.map_append, List.filter_append]
      congr 1
      simp only [List.map_cons, List.map_nil, List.filter_cons, List.filter_nil, decide_eq_true_eq]
    have hs := hs (dots + so + 1 + (j : Int)) (by rw [hD1])
    k_steps
    all_goals refine EltEnd.same ⟨rfl, ?_⟩
    · rw [hs, if_pos (by assumption)]
      exact ints_snoc hR _ _
    · rw [hs, if_neg (by assumption), List.append_nil]
      exact hR
  · rintro ys nl ⟨rfl, hR⟩
    intro D h₂ tk F₂ N₂ off₂
    clear N8 F8
    rw [List.nil_append] at N₂ off₂
    have ei : ((1 : Int) + (i : Int) - 1).toNat = i := by omega
    rw [ei, hD1] at F₂
    have hoff : ∀ p ∈ ((L + 1 + 1 + 1, oS') :: (ls, W.listOf vs.toArray n1) :: (lb, W.listOf bs.toArray n2) :: (lk, W.listOf ks.toArray n3) :: (L + 1 + 1 + 1 + 1 + 1, o1) :: (L + 1 + 1 + 1 + 1, o2) :: (Db, LCg.lst bvs) :: (I, oI) :: (tups ++ rest)), p.1 ≠ D := off1_mem off₂
    dsimp only
    k_steps
    unfold Stop
    have hle : ∀ n : Nat, n ≤ 8 → vs.length ≤ 100 ∧ bs.length ≤ 100 ∧ ks.length ≤ 100 := fun n hn => by
      have a1 := hRs.length
      have a2 := hRb.length
      have a3 := hRk.length
      have b1 : (seenOf D1 D2 beh i).length ≤ i := Nat.le_trans (List.length_filterMap_le ..) (by first | (with_reducible (repeat (first | exact List.mem_cons_self | assumption | exact List.mem_append_left _ (by assumption) | exact List.mem_append_left _ (List.mem_append_left _ (by assumption)) | exact List.mem_append_left _ (List.mem_append_right _ (by assumption)) | refine List.mem_cons_of_mem _ ?_ | refine List.mem_append_right _ ?_)); done) | simp)
      have b2 : (blindOf D1 D2 beh i).length ≤ i := Nat.le_trans (List.length_filterMap_le ..) (by first | (with_reducible (repeat (first | exact List.mem_cons_self | assumption | exact List.mem_append_left _ (by assumption) | exact List.mem_append_left _ (List.mem_append_left _ (by assumption)) | exact List.mem_append_left _ (List.mem_append_right _ (by assumption)) | refine List.mem_cons_of_mem _ ?_ | refine List.mem_append_right _ ?_)); done) | simp)
      have b3 : (backOf D1 D2 beh i).length ≤ i := Nat.le_trans (List.length_filterMap_le ..) (by first | (with_reducible (repeat (first | exact List.mem_cons_self | assumption | exact List.mem_append_left _ (by assumption) | exact List.mem_append_left _ (List.mem_append_left _ (by assumption)) | exact List.mem_append_left _ (List.mem_append_right _ (by assumption)) | refine List.mem_cons_of_mem _ ?_ | refine List.mem_append_right _ ?_)); done) | simp)
      omega
    obtain ⟨l1, l2, l3⟩ := hle 8 (by omega)
    refine size_if (fa := fa) (cd := cd) (D1 := D1) (D2 := D2) (m₁ := m₁) (more := (L + 1 + 1 + 1 + 1 + 1, o1) :: (L + 1 + 1 + 1 + 1, o2) :: (I, oI) :: (tups ++ rest)) (D := D) (ys := ys) (nD := ys.length) (n1 := n1) (n2 := n2) (n3 := n3) (i := i) hi hbe h8 hA hU hR (by unfold hitsOf; rfl) dS' l1 l2 l3 F₂ ?_ ?_ ?_ ?_ q1 q2 q3 q4 q5 q6 mm2 mm3 mm4 mm5 ?_
    · intro p hp
      refine N₂ p ?_
      simp only [List.mem_cons] at hp ⊢
      rcases hp with z | z | z | z | z | z | z | z | z | z
      all_goals first | (simp [z]; done) | (rw [z]; left; rfl)
    · exact ⟨Ne.symm (hoff (ls, W.listOf vs.toArray n1) (by first | (with_reducible (repeat (first | exact List.mem_cons_self | assumption | exact List.mem_append_left _ (by assumption) | exact List.mem_append_left _ (List.mem_append_left _ (by assumption)) | exact List.mem_append_left _ (List.mem_append_right _ (by assumption)) | refine List.mem_cons_of_mem _ ?_ | refine List.mem_append_right _ ?_)); done) | simp)), Ne.symm (hoff (lb, W.listOf bs.toArray n2) (by first | (with_reducible (repeat (first | exact List.mem_cons_self | assumption | exact List.mem_append_left _ (by assumption) | exact List.mem_append_left _ (List.mem_append_left _ (by assumption)) | exact List.mem_append_left _ (List.mem_append_right _ (by assumption)) | refine List.mem_cons_of_mem _ ?_ | refine List.mem_append_right _ ?_)); done) | simp)), Ne.symm (hoff (lk, W.listOf ks.toArray n3) (by first | (with_reducible (repeat (first | exact List.mem_cons_self | assumption | exact List.mem_append_left _ (by assumption) | exact List.mem_append_left _ (List.mem_append_left _ (by assumption)) | exact List.mem_append_left _ (List.mem_append_right _ (by assumption)) | refine List.mem_cons_of_mem _ ?_ | refine List.mem_append_right _ ?_)); done) | simp))⟩
    · intro p hp
      simp only [List.mem_cons, List.mem_append] at hp
      rcases hp with rfl | rfl | rfl | hp | hp
      · exact (offb _ (by first | (with_reducible (repeat (first | exact List.mem_cons_self | assumption | exact List.mem_append_left _ (by assumption) | exact List.mem_append_left _ (List.mem_append_left _ (by assumption)) | exact List.mem_append_left _ (List.mem_append_right _ (by assumption)) | refine List.mem_cons_of_mem _ ?_ | refine List.mem_append_right _ ?_)); done) | simp)).2
      · exact (offb _ (by first | (with_reducible (repeat (first | exact List.mem_cons_self | assumption | exact List.mem_append_left _ (by assumption) | exact List.mem_append_left _ (List.mem_append_left _ (by assumption)) | exact List.mem_append_left _ (List.mem_append_right _ (by assumption)) | refine List.mem_cons_of_mem _ ?_ | refine List.mem_append_right _ ?_)); done) | simp)).2
      · exact ⟨Ne.symm (off (ls, W.listOf vs.toArray n1) (by first | (with_reducible (repeat (first | exact List.mem_cons_self | assumption | exact List.mem_append_left _ (by assumption) | exact List.mem_append_left _ (List.mem_append_left _ (by assumption)) | exact List.mem_append_left _ (List.mem_append_right _ (by assumption)) | refine List.mem_cons_of_mem _ ?_ | refine List.mem_append_right _ ?_)); done) | simp)), Ne.symm (off (lb, W.listOf bs.toArray n2) (by first | (with_reducible (repeat (first | exact List.mem_cons_self | assumption | exact List.mem_append_left _ (by assumption) | exact List.mem_append_left _ (List.mem_append_left _ (by assumption)) | exact List.mem_append_left _ (List.mem_append_right _ (by assumption)) | refine List.mem_cons_of_mem _ ?_ | refine List.mem_append_right _ ?_)); done) | simp)), Ne.symm (off (lk, W.listOf ks.toArray n3) (by first | (with_reducible (repeat (first | exact List.mem_cons_self | assumption | exact List.mem_append_left _ (by assumption) | exact List.mem_append_left _ (List.mem_append_left _ (by assumption)) | exact List.mem_append_left _ (List.mem_append_right _ (by assumption)) | refine List.mem_cons_of_mem _ ?_ | refine List.mem_append_right _ ?_)); done) | simp))⟩
      · exact (offb p (by first | (with_reducible (repeat (first | exact List.mem_cons_self | assumption | exact List.mem_append_left _ (by assumption) | exact List.mem_append_left _ (List.mem_append_left _ (by assumption)) | exact List.mem_append_left _ (List.mem_append_right _ (by assumption)) | refine List.mem_cons_of_mem _ ?_ | refine List.mem_append_right _ ?_)); done) | simp [hp])).2
      · exact (offb p (by first | (with_reducible (repeat (first | exact List.mem_cons_self | assumption | exact List.mem_append_left _ (by assumption) | exact List.mem_append_left _ (List.mem_append_left _ (by assumption)) | exact List.mem_append_left _ (List.mem_append_right _ (by assumption)) | refine List.mem_cons_of_mem _ ?_ | refine List.mem_append_right _ ?_)); done) | simp [hp])).2
    · exact (offb (Db, LCg.lst bvs) (by first | (with_reducible (repeat (first | exact List.mem_cons_self | assumption | exact List.mem_append_left _ (by assumption) | exact List.mem_append_left _ (List.mem_append_left _ (by assumption)) | exact List.mem_append_left _ (List.mem_append_right _ (by assumption)) | refine List.mem_cons_of_mem _ ?_ | refine List.mem_append_right _ ?_)); done) | simp)).2
    · intro h' tk' vs' bs' ks' n1' n2' n3' tups' F' N' r1 r2 r3 offt
      have offI : ∀ p ∈ tups', p.1 ≠ I := fun p hp => (offt p hp).2.2.2.2 (I, oI) (by first | (with_reducible (repeat (first | exact List.mem_cons_self | assumption | exact List.mem_append_left _ (by assumption) | exact List.mem_append_left _ (List.mem_append_left _ (by assumption)) | exact List.mem_append_left _ (List.mem_append_right _ (by assumption)) | refine List.mem_cons_of_mem _ ?_ | refine List.mem_append_right _ ?_)); done) | simp)
      refine TurnX.intro F' N' (news' := (L + 1 + 1 + 1, oS') :: (ls, W.listOf vs'.toArray n1') :: (lb, W.listOf bs'.toArray n2') :: (lk, W.listOf ks'.toArray n3') :: ((tups' ++ tups) ++ ((L + 1 + 1 + 1 + 1 + 1, o1) :: (L + 1 + 1 + 1 + 1, o2) :: (Db, LCg.lst bvs) :: rest))) ?_ ?_ ?_
      · intro p hp
        first
          | (revert hp; revert p; (repeat' (first | exact sub_nil | refine sub_app ?_ ?_ | refine sub_cons (by with_reducible (repeat (first | exact List.mem_cons_self | assumption | exact List.mem_append_left _ (by assumption) | exact List.mem_append_left _ (List.mem_append_left _ (by assumption)) | exact List.mem_append_left _ (List.mem_append_right _ (by assumption)) | refine List.mem_cons_of_mem _ ?_ | refine List.mem_append_right _ ?_))) ?_ | (intro p hp; with_reducible (repeat (first | exact List.mem_cons_self | assumption | exact List.mem_append_left _ (by assumption) | exact List.mem_append_left _ (List.mem_append_left _ (by assumption)) | exact List.mem_append_left _ (List.mem_append_right _ (by assumption)) | refine List.mem_cons_of_mem _ ?_ | refine List.mem_append_right _ ?_)); done))); done)
          | (simp only [List.mem_cons, List.mem_append] at hp ⊢; rcases hp with z | z | z | z | z | (z | z) | z | z | z | z <;> simp [z])
      · intro p hp
        simp only [List.mem_cons, List.mem_append] at hp
        rcases hp with rfl | rfl | rfl | rfl | (z | z) | z | z | z | z
        · exact off (L + 1 + 1 + 1, oS) (by first | (with_reducible (repeat (first | exact List.mem_cons_self | assumption | exact List.mem_append_left _ (by assumption) | exact List.mem_append_left _ (List.mem_append_left _ (by assumption)) | exact List.mem_append_left _ (List.mem_append_right _ (by assumption)) | refine List.mem_cons_of_mem _ ?_ | refine List.mem_append_right _ ?_)); done) | simp)
        · exact off (ls, W.listOf vs.toArray n1) (by first | (with_reducible (repeat (first | exact List.mem_cons_self | assumption | exact List.mem_append_left _ (by assumption) | exact List.mem_append_left _ (List.mem_append_left _ (by assumption)) | exact List.mem_append_left _ (List.mem_append_right _ (by assumption)) | refine List.mem_cons_of_mem _ ?_ | refine List.mem_append_right _ ?_)); done) | simp)
        · exact off (lb, W.listOf bs.toArray n2) (by first | (with_reducible (repeat (first | exact List.mem_cons_self | assumption | exact List.mem_append_left _ (by assumption) | exact List.mem_append_left _ (List.mem_append_left _ (by assumption)) | exact List.mem_append_left _ (List.mem_append_right _ (by assumption)) | refine List.mem_cons_of_mem _ ?_ | refine List.mem_append_right _ ?_)); done) | simp)
        · exact off (lk, W.listOf ks.toArray n3) (by first | (with_reducible (repeat (first | exact List.mem_cons_self | assumption | exact List.mem_append_left _ (by assumption) | exact List.mem_append_left _ (List.mem_append_left _ (by assumption)) | exact List.mem_append_left _ (List.mem_append_right _ (by assumption)) | refine List.mem_cons_of_mem _ ?_ | refine List.mem_append_right _ ?_)); done) | simp)
        · exact offI p z
        · exact off p (by first | (with_reducible (repeat (first | exact List.mem_cons_self | assumption | exact List.mem_append_left _ (by assumption) | exact List.mem_append_left _ (List.mem_append_left _ (by assumption)) | exact List.mem_append_left _ (List.mem_append_right _ (by assumption)) | refine List.mem_cons_of_mem _ ?_ | refine List.mem_append_right _ ?_)); done) | simp [z])
        · exact off p (by first | (with_reducible (repeat (first | exact List.mem_cons_self | assumption | exact List.mem_append_left _ (by assumption) | exact List.mem_append_left _ (List.mem_append_left _ (by assumption)) | exact List.mem_append_left _ (List.mem_append_right _ (by assumption)) | refine List.mem_cons_of_mem _ ?_ | refine List.mem_append_right _ ?_)); done) | simp [z])
        · exact off p (by first | (with_reducible (repeat (first | exact List.mem_cons_self | assumption | exact List.mem_append_left _ (by assumption) | exact List.mem_append_left _ (List.mem_append_left _ (by assumption)) | exact List.mem_append_left _ (List.mem_append_right _ (by assumption)) | refine List.mem_cons_of_mem _ ?_ | refine List.mem_append_right _ ?_)); done) | simp [z])
        · exact off p (by first | (with_reducible (repeat (first | exact List.mem_cons_self | assumption | exact List.mem_append_left _ (by assumption) | exact List.mem_append_left _ (List.mem_append_left _ (by assumption)) | exact List.mem_append_left _ (List.mem_append_right _ (by assumption)) | refine List.mem_cons_of_mem _ ?_ | refine List.mem_append_right _ ?_)); done) | simp [z])
        · exact off p (by first | (with_reducible (repeat (first | exact List.mem_cons_self | assumption | exact List.mem_append_left _ (by assumption) | exact List.mem_append_left _ (List.mem_append_left _ (by assumption)) | exact List.mem_append_left _ (List.mem_append_right _ (by assumption)) | refine List.mem_cons_of_mem _ ?_ | refine List.mem_append_right _ ?_)); done) | simp [z])
      · refine ⟨fun y hy1 hy2 => ?_, ⟨ls, lb, lk, vs', bs', ks', n1', n2', n3', oS', _, tups' ++ tups, rfl, ms, mb', mk, dS', r1 tups hRs, r2 tups hRb, r3 tups hRk, ?_, ?_, q1, q2, q3, q4, q5, q6⟩, rfl⟩
        · exact (if_neg hy2).trans ((if_neg hy1).trans (hmap y hy1 hy2))
        · intro p hp
          simp only [List.mem_cons, List.mem_append] at hp
          rcases hp with (z | z) | z | z | z | z
          · exact ⟨(offt p z).1, (offt p z).2.1, (offt p z).2.2.1, (offt p z).2.2.2.1⟩
          · exact offb p (by first | (with_reducible (repeat (first | exact List.mem_cons_self | assumption | exact List.mem_append_left _ (by assumption) | exact List.mem_append_left _ (List.mem_append_left _ (by assumption)) | exact List.mem_append_left _ (List.mem_append_right _ (by assumption)) | refine List.mem_cons_of_mem _ ?_ | refine List.mem_append_right _ ?_)); done) | simp [z])
          · exact offb p (by first | (with_reducible (repeat (first | exact List.mem_cons_self | assumption | exact List.mem_append_left _ (by assumption) | exact List.mem_append_left _ (List.mem_append_left _ (by assumption)) | exact List.mem_append_left _ (List.mem_append_right _ (by assumption)) | refine List.mem_cons_of_mem _ ?_ | refine List.mem_append_right _ ?_)); done) | simp [z])
          · exact offb p (by first | (with_reducible (repeat (first | exact List.mem_cons_self | assumption | exact List.mem_append_left _ (by assumption) | exact List.mem_append_left _ (List.mem_append_left _ (by assumption)) | exact List.mem_append_left _ (List.mem_append_right _ (by assumption)) | refine List.mem_cons_of_mem _ ?_ | refine List.mem_append_right _ ?_)); done) | simp [z])
          · exact offb p (by first | (with_reducible (repeat (first | exact List.mem_cons_self | assumption | exact List.mem_append_left _ (by assumption) | exact List.mem_append_left _ (List.mem_append_left _ (by assumption)) | exact List.mem_append_left _ (List.mem_append_right _ (by assumption)) | refine List.mem_cons_of_mem _ ?_ | refine List.mem_append_right _ ?_)); done) | simp [z])
          · exact offb p (by first | (with_reducible (repeat (first | exact List.mem_cons_self | assumption | exact List.mem_append_left _ (by assumption) | exact List.mem_append_left _ (List.mem_append_left _ (by assumption)) | exact List.mem_append_left _ (List.mem_append_right _ (by assumption)) | refine List.mem_cons_of_mem _ ?_ | refine List.mem_append_right _ ?_)); done) | simp [z])
        · intro p hp
          rcases List.mem_append.mp hp with z | z
          · exact (offt p z).2.2.2.2 (99, o99) (by simp [h99])
          · exact ht9 p z
end
section
open PySem PySem.W PyProof.Rows
example : True := by
  k_with_none
  k_with "getAttr ref" => (k_dflt (refine' get_own (by assumption) (by assumption) (by exact (WsAt.keeps (by assumption) (Fr.keep (by assumption))).at) (by k_is) (by k_is) (by k_is) (by k_is) (by first | exact WsAt.norm (by assumption) | exact WsAt.n (by assumption) | exact WsAt.nt (by assumption) | exact WsAt.simple (by assumption)) (by rfl) ?_))
  k_with "exec For Name Call cons nil" => k_dflt (refine wpAny_For ?_)
  k_with "exec For Name Name cons nil" => k_dflt (refine wpAny_For ?_)
  k_with "exec For Name Attribute cons nil" => k_dflt (refine wpAny_For ?_)
  k_with "eval Name" => (k_dflt (refine' PyProof.Rows.ld (by assumption) (by first | exact rfl | assumption) ?_))
  k_with "execs cons Assign cons" => (k_dflt (refine wpAny_execs_cons ?_))
  k_with "execs cons Assign nil" => (k_dflt (refine wpAny_execs_cons ?_))
  k_with "eval ListComp" => (k_dflt (refine LCg.ListComp_U (F₀ := by assumption) (by with_unfolding_all rfl) (by decide) (by rfl) (by decide) (by rfl) ?_))
  k_with "CompSrc" => refine Stop.out ?_
  k_with "binaryOp Add str str" => (k_dflt (refine PyProof.Rows.add_str (hsz := (by first | decide | (simp only [slen_append, slen_lit]; omega) | (simp only [slen_append]; omega))) ?_); intro _ _)
  k_with "eval Name" => ((with_reducible show wpAny _ _ (eval (Expr.Name _ _) (compEnvC _ _ _ _)) _ _ _); k_dflt (first | refine comp_global (by assumption) (by assumption) (by assumption) (by k_is) ?_ | refine comp_built (by assumption) (by assumption) (by assumption) (by k_is) (by boot_by_name) (by decide) ?_))
  trivial
open Rx
example : True := by
  k_with "eval Name" => ((with_reducible show wpAny _ _ (eval (Expr.Name _ _) (compEnvC _ _ _ _)) _ _ _); k_dflt (refine' comp_free (by assumption) (by rfl) (by k_mem) (by assumption) ?_ (by rfl) (by rfl)))
  k_with "getMethod ref" => (k_dflt (refine' ws_meth (by assumption) (by assumption) (by assumption) (by assumption) (by (intro p hp; repeat (first | exact hp | apply List.mem_cons_of_mem | apply List.mem_append_right))) (by decide) (by k_is) (by k_is) (by k_is) ?_))
  k_with "call ref" => (k_dflt ((first | refine' wits_call (by assumption) (by assumption) (by assumption) (by assumption) (by assumption) (by assumption) (by (intro p hp; repeat (first | exact hp | apply List.mem_cons_of_mem | apply List.mem_append_right))) (by first | omega | (dsimp only; omega)) (by assumption) (by assumption) ?_ | refine' blind_call (by assumption) (by assumption) (by assumption) (by assumption) (by assumption) (by assumption) (by (intro p hp; repeat (first | exact hp | apply List.mem_cons_of_mem | apply List.mem_append_right))) (by first | omega | (dsimp only; omega)) (by assumption) (by assumption) ?_)); intro _ _ _ _ _ _; (try k_sweep))
  k_with "call ref" => (k_dflt ((first | refine' less_call (by assumption) (by assumption) (by assumption) (by assumption) (by assumption) (by assumption) (by (intro p hp; repeat (first | exact hp | apply List.mem_cons_of_mem | apply List.mem_append_right))) (by first | omega | (dsimp only; omega)) (by first | assumption | omega | (dsimp only; omega)) (by assumption) ?_ | refine' equal_call (by assumption) (by assumption) (by assumption) (by assumption) (by assumption) (by assumption) (by (intro p hp; repeat (first | exact hp | apply List.mem_cons_of_mem | apply List.mem_append_right))) (by first | omega | (dsimp only; omega)) (by first | assumption | omega | (dsimp only; omega)) (by assumption) ?_)); intro _ _ _ _; (try k_sweep))
  k_with "call ref" => (k_dflt (refine' words_call (by assumption) (by assumption) (by assumption) (by assumption) (by assumption) (by (intro p hp; repeat (first | exact hp | apply List.mem_cons_of_mem | apply List.mem_append_right))) (by first | omega | (dsimp only; omega)) (by first | omega | (dsimp only; omega)) (by assumption) ?_); intro _ _ _ _ _; (try k_sweep))
  k_with "call ref" => (k_dflt (refine' fmt_call (by assumption) (by assumption) (by assumption) (by assumption) (by assumption) (by assumption) (by assumption) (by assumption) (by assumption) (by (intro p hp; repeat (first | exact hp | apply List.mem_cons_of_mem | apply List.mem_append_right))) (by first | omega | (dsimp only; omega)) (by first | omega | (dsimp only; omega)) (by assumption) ?_); intro _ _ _ _ _ _ _ _ _; (try k_sweep))
  k_with "compareOp NotEq ref ref" => (k_dflt (refine' ne_same (by assumption) (by first | assumption | exact RefRows.sub (by assumption) (by assumption) (by intro p hp; repeat (first | exact hp | apply List.mem_cons_of_mem | apply List.mem_append_right)) | exact RefRows.nil (by assumption) (by k_mem)) (by show _ + 64 < 9900; dsimp only; omega) ?_))
  k_with "eval Name" => ((with_reducible show wpAny _ _ (eval (Expr.Name _ _) (envOfC _ _ _ _ _)) _ _ _); k_dflt (refine' ld_cell (by assumption) (by rfl) (by rfl) (by with_reducible (repeat (first | exact List.mem_cons_self | apply List.mem_cons_of_mem))) (by with_reducible assumption) ?_))
  k_with "eval Name" => ((with_reducible show wpAny _ _ (eval (Expr.Name _ _) (compEnvC _ _ _ _)) _ _ _); k_dflt (refine' comp_cell (by assumption) (by rfl) (by rfl) (by with_reducible (repeat (first | exact List.mem_cons_self | apply List.mem_cons_of_mem))) (by with_reducible assumption) ?_))
  trivial

theorem RefRows.keeps {h₀ h h' : Heap} {L a : Addr} {rs : List Row3} (R : RefRows h₀ L h a rs) (hk : ∀ b o, h.get? b = some o → h'.get? b = some o) : RefRows h₀ L h' a rs := let ⟨l, N, H⟩ := R; ⟨l, N.grown hk, H⟩
example : True := by
  k_with "compareOp NotEq ref ref" => (k_dflt (refine' ne_same (by first | assumption | exact RefRows.keeps (by assumption) (by assumption)) (by first | exact RefRows.nil (by assumption) List.mem_cons_self | assumption | exact RefRows.sub (by assumption) (by assumption) (by intro p hp; with_reducible (repeat (first | exact hp | apply List.mem_cons_of_mem | apply List.mem_append_right)))) (by show _ + 64 < 9900; dsimp only; omega) ?_))
  trivial
theorem item_at {prog : Program} {w : World} {A : Around} {E : Value → Shared → Prop} {s : Shared} {value slice : PySem.Expr} {l : Addr} {vs : List Value} {k : Int} {u : Tok} {v : Value} {Q : Value → Shared → Prop} (hl : s.heap.IsList l vs.toArray)
    (h0 : 0 ≤ k) (hfit : k < 2 ^ 63) (hx : vs[k.toNat]? = some v) (h : Q v s)
    (hs : subscripted slice false (.ref l) (.int k u) = operate [.ref l, .int k u] (getItem (.ref l) (.int k u)) := by with_unfolding_all rfl) :
    wpAny (model prog w) A (subscriptTail value slice (.ref l) (.int k u)) Q E s :=
  tail_any hl.typeIs slot_list_getitem.lookup (wpAny_getItem_list hl h0 hfit (by simpa using hx) h) hs
theorem newList_N2 {M : Model} {A : Around} {E : Value → Shared → Prop} {s : Shared} {h₀ : Heap} {L : Addr} {m : Str → Option Value} {news : List (Addr × Obj)} {vs : List Value} {Q : Value → Shared → Prop} (F : Fr h₀ L s.heap m) (N : News h₀ L s.heap news)
    (h : ∀ D h', (∀ b o, s.heap.get? b = some o → h'.get? b = some o) → Fr h₀ L h' m → News h₀ L h' ((D, W.listOf vs.toArray 0) :: news) → (∀ p ∈ news, p.1 ≠ D) → Q (.ref D) { s with heap := h' }) (hsz : vs.length ≤ sizeLine := by size_fits) :
    wpAny M A (newList vs) Q E s := newList_NK F N (fun h' F' N' hk => h _ h' hk F' N' fun p hp => Nat.ne_of_lt (Heap.lt_size (N p hp).1)) hsz
example : True := by
  k_with "newList" => (k_dflt (refine newList_N2 (by assumption) (by assumption) ?_); intro _ _ _ _ _ _)
  k_with "newTuple" => (k_dflt (refine newTuple_NK (by assumption) (by assumption) ?_); intro _ _ _ _)
  k_with "subscriptTail" => ((with_reducible show wpAny _ _ (subscriptTail _ (PySem.Expr.Name _ _) (Value.ref _) (Value.int _ _)) _ _ _); k_dflt (refine' item_at (by is_list) (by omega) (by omega) (by assumption) ?_ (by with_unfolding_all rfl)))
  k_with "subscriptTail" => ((with_reducible show wpAny _ _ (subscriptTail _ (PySem.Expr.Constant _ _ _) (Value.ref _) (Value.int _ _)) _ _ _); k_dflt (refine' item_at (by is_list) (by decide) (by decide) (by exact rfl) ?_ (by with_unfolding_all rfl)))
  k_with "exec Assign cons ListComp" => (k_dflt (refine LCg.Assign_ListComp_U (F₀ := by assumption) (by rfl) (by with_unfolding_all rfl) (by with_unfolding_all rfl) (by decide) (by rfl) (by decide) (by rfl) (by rfl) (by rfl) ?_))
  k_with "pyIter ref" => refine Stop.out ?_
  k_with "pyIter" => refine Stop.out ?_
  trivial
theorem size_loop {w : World} {dp un : Nat} {fr : Option (List Env)} {gd : Option (List Code)} {s : Shared} {h₀ : Heap} {L fa r : Addr} {cd : Value} {mg mb : Str → Option Value} {Q : Flow → Shared → Prop} {px : Pos}
    {D1 D2 : Nat} {m₀ : Str → Option Value} {rest news : List (Addr × Obj)} {o1 o2 o3 : Obj} {v3 : Option Value} {Db ls lb lk : Addr} {bvs : List Value} {beh : List Int} {so la dots : Int} {t1 t2 td t u v : Tok} {o99 : Obj} (h99 : (99, o99) ∈ rest) (hl9 : ls ≠ 99 ∧ lb ≠ 99 ∧ lk ≠ 99)
    (X : (hd.heap_39 w.params).In h₀) (T : TopRead hd.view_39 LO mg mb h₀) (hA : dp < 350) (hU : un < 4000)
    (d1 : o1.data = .cell (some (.int so t1))) (d2 : o2.data = .cell (some (.int la t2))) (d3 : o3.data = .cell v3) (hbe : IntsAre bvs beh) (h8 : beh.length = 8)
    (hD1 : dots + so = (D1 : Int)) (hD2 : dots + la = (D2 : Int)) (h12 : D1 < D2) (hD8 : D2 < 8)
    (mdots : m₀ (Str.ofString "dots") = some (.int dots td)) (mbeh : m₀ (Str.ofString "behind") = some (.ref Db))
    (ms : m₀ (Str.ofString "seen") = some (.ref ls)) (mbl : m₀ (Str.ofString "blind") = some (.ref lb)) (mk : m₀ (Str.ofString "back") = some (.ref lk))
    (F : Fr h₀ L s.heap m₀) (N : News h₀ L s.heap news) (R : IsRange s.heap r 1 (dots + la + 2) 1 t u v)
    (sub : ∀ p ∈ (L + 1 + 1 + 1, o3) :: (ls, W.listOf ([] : List Value).toArray 0) :: (lb, W.listOf ([] : List Value).toArray 0) :: (lk, W.listOf ([] : List Value).toArray 0) :: (L + 1 + 1 + 1 + 1 + 1, o1) :: (L + 1 + 1 + 1 + 1, o2) :: (Db, LCg.lst bvs) :: rest, p ∈ news)
    (offb : ∀ p ∈ (L + 1 + 1 + 1 + 1 + 1, o1) :: (L + 1 + 1 + 1 + 1, o2) :: (Db, LCg.lst bvs) :: rest, p.1 ≠ L + 1 + 1 + 1 ∧ p.1 ≠ ls ∧ p.1 ≠ lb ∧ p.1 ≠ lk)
    (q1 : L + 1 + 1 + 1 ≠ ls) (q2 : L + 1 + 1 + 1 ≠ lb) (q3 : L + 1 + 1 + 1 ≠ lk) (q4 : ls ≠ lb) (q5 : ls ≠ lk) (q6 : lb ≠ lk)
    (done : ∀ h' tk' m' tups oS, Fr h₀ L h' m' → (∀ y, y ≠ Str.ofString "column" → y ≠ Str.ofString "hits" → m' y = m₀ y) → (∃ v, oS.data = .cell v) →
      News h₀ L h' ((L + 1 + 1 + 1, oS) :: (tups ++ (L + 1 + 1 + 1 + 1 + 1, o1) :: (L + 1 + 1 + 1 + 1, o2) :: (Db, LCg.lst bvs) :: rest)) →
      ListIn tups ls (seenOf D1 D2 beh (D2 + 1)) → ListIn tups lb (blindOf D1 D2 beh (D2 + 1)) → ListIn tups lk (backOf D1 D2 beh (D2 + 1)) → (∀ p ∈ tups, p.1 ≠ 99) →
      Q .next { s with heap := h', toks := tk' }) :
    wpAny (model PySem.Challenge.rw_pe0145_01.row.prog w) ⟨none, dp, fr, gd, un⟩ (pyIter (.ref r)) (fun it s₂ => codeAny (model PySem.Challenge.rw_pe0145_01.row.prog w) ⟨none, dp, fr, gd, un⟩ (.forLoop (.Name (Str.ofString "size") px) it sizeBody [] (envOfC (Str.ofString "law") lawScope L fa cd))
      (fun r s' => match r with | .ok f => Q f s' | .error e => cameBackBy (model PySem.Challenge.rw_pe0145_01.row.prog w) ⟨none, dp, fr, gd, un⟩ (envOfC (Str.ofString "law") lawScope L fa cd) noE e s') s₂) noE s := by
  refine iterRange (n := D2 + 1) (h₀ := h₀) (m := m₀) (news := (L + 1 + 1 + 1, o3) :: (ls, W.listOf ([] : List Value).toArray 0) :: (lb, W.listOf ([] : List Value).toArray 0) :: (lk, W.listOf ([] : List Value).toArray 0) :: (L + 1 + 1 + 1 + 1 + 1, o1) :: (L + 1 + 1 + 1 + 1, o2) :: (Db, LCg.lst bvs) :: rest) rfl R (small_one (by omega) (by omega) (by omega) (by omega)) (by rw [rangeSize_one]; congr 1; omega) F (fun p hp => N p (sub p hp))
    (SizeJ h₀ L D1 D2 beh m₀ (L + 1 + 1 + 1) ((L + 1 + 1 + 1 + 1 + 1, o1) :: (L + 1 + 1 + 1 + 1, o2) :: (Db, LCg.lst bvs) :: rest) s.gens) ?_ ?_ ?_
  · exact ⟨fun _ _ _ => rfl, ⟨ls, lb, lk, [], [], [], 0, 0, 0, o3, v3, [], rfl, ms, mbl, mk, d3, .nil, .nil, .nil, offb, (fun _ hp => nomatch hp), q1, q2, q3, q4, q5, q6⟩, rfl⟩
  · intro i tv m₁ news₁ I oI h g tk hi J off F N
    exact size_turn h99 X T hA hU d1 d2 hbe h8 hD1 hD2 h12 hD8 mdots mbeh (by omega) J off F N
  · rintro m₁ news₁ h g tk ⟨hmap, ⟨ls', lb', lk', vs, bs, ks, n1, n2, n3, oS, v, tups, rfl, ms', mb', mk', dS, hRs, hRb, hRk, offb', ht9, _⟩, rfl⟩ F₁ N₁
    obtain rfl : ls = ls' := by rw [ms] at ms'; injection ms' with e; injection e
    obtain rfl : lb = lb' := by rw [mbl] at mb'; injection mb' with e; injection e
    obtain rfl : lk = lk' := by rw [mk] at mk'; injection mk' with e; injection e
    refine done h tk m₁ ((ls, W.listOf vs.toArray n1) :: (lb, W.listOf bs.toArray n2) :: (lk, W.listOf ks.toArray n3) :: tups) oS F₁ hmap ⟨v, dS⟩ N₁ ⟨vs, n1, by simp, hRs.mono fun p hp => by simp [hp]⟩ ⟨bs, n2, by simp, hRb.mono fun p hp => by simp [hp]⟩ ⟨ks, n3, by simp, hRk.mono fun p hp => by simp [hp]⟩ (fun p hp => ?_)
    simp only [List.mem_cons] at hp
    rcases hp with rfl | rfl | rfl | hp
    · exact hl9.1
    · exact hl9.2.1
    · exact hl9.2.2
    · exact ht9 p hp
theorem row_bound {f : Nat → Option Row3} (hf : ∀ k r, f k = some r → r.1 = 1 + (k : Int)) (n : Nat) (hn : n ≤ 8) : ((List.range n).filterMap f).length < 100 ∧ ∀ r ∈ (List.range n).filterMap f, 0 ≤ r.1 ∧ r.1 < 1000 := by
  refine ⟨Nat.lt_of_le_of_lt (List.length_filterMap_le ..) (by simp; omega), fun r hr => ?_⟩
  obtain ⟨k, hk, e⟩ := List.mem_filterMap.mp hr
  have := List.mem_range.mp hk
  rw [hf k r e]
  omega
theorem seen_bound {D1 D2 : Nat} {beh : List Int} (n : Nat) (hn : n ≤ 8) : (seenOf D1 D2 beh n).length < 100 ∧ ∀ r ∈ seenOf D1 D2 beh n, 0 ≤ r.1 ∧ r.1 < 1000 := by
  refine row_bound (fun k r e => ?_) n hn
  unfold seenAt at e
  split at e
  · cases e
  · cases e; rfl
theorem blind_bound {D1 D2 : Nat} {beh : List Int} (n : Nat) (hn : n ≤ 8) : (blindOf D1 D2 beh n).length < 100 ∧ ∀ r ∈ blindOf D1 D2 beh n, 0 ≤ r.1 ∧ r.1 < 1000 := by
  refine row_bound (fun k r e => ?_) n hn
  unfold blindAt at e
  split at e
  · cases e; rfl
  · cases e
theorem pair_body {w : World} {dp un : Nat} {fr : Option (List Env)} {gd : Option (List Code)} {s : Shared} {h₀ : Heap} {L fa : Addr} {cd : Value} {m mg mb : Str → Option Value} {Q : Flow → Shared → Prop} {bm : Addr} {ob : Obj} {ps₀ ps : Array Value}
    {Dl Db la1 la2 a1 b1 c1 a2 b2 c2 : Addr} {nl n1 n2 : Nat} {lvs bvs : List Value} {rest : List (Addr × Obj)} {d e : Ld} {o1 o2 o3 o5 : Obj} {v3 : Option Value} {bare dots : Int} {beh : List Int} {j1 j2 : Nat} {t1 t2 tb td : Tok}
    (X : (hd.heap_39 w.params).In h₀) (T : TopRead hd.view_39 LO mg mb h₀) (BM : BMod h₀ mainGlobals mg bm ob) (hA : dp < 350) (hU : un < 4000) (tri : TabIn ps₀ ps) (ag : AllBare s.gens)
    (P : PairOk bare dots beh j1 j2 d e) (h12 : j1 < j2) (h23 : j2 < 3) (hb1 : 1 ≤ bare) (hb2 : bare ≤ 3) (hd1 : 1 ≤ dots) (hd2 : dots ≤ 5) (hbe : IntsAre bvs beh) (h8 : beh.length = 8)
    (d1 : o1.data = .cell (some (.int (j1 : Int) t1))) (d2 : o2.data = .cell (some (.int (j2 : Int) t2))) (d3 : o3.data = .cell v3) (d5 : o5.data = .cell (some (.int bare tb)))
    (F : Fr h₀ L s.heap m) (N : News h₀ L s.heap ((99, tabObj ps) :: (L + 1 + 1 + 1, o3) :: (L + 1 + 1 + 1 + 1 + 1, o1) :: (L + 1 + 1 + 1 + 1, o2) :: (L + 1, o5) :: (Db, LCg.lst bvs) :: (Dl, W.listOf lvs.toArray nl) :: (la1, W.listOf #[.ref a1, .ref b1, .ref c1] n1) :: (la2, W.listOf #[.ref a2, .ref b2, .ref c2] n2) :: rest))
    (off9 : ∀ p ∈ (L + 1 + 1 + 1, o3) :: (L + 1 + 1 + 1 + 1 + 1, o1) :: (L + 1 + 1 + 1 + 1, o2) :: (L + 1, o5) :: (Db, LCg.lst bvs) :: (Dl, W.listOf lvs.toArray nl) :: (la1, W.listOf #[.ref a1, .ref b1, .ref c1] n1) :: (la2, W.listOf #[.ref a2, .ref b2, .ref c2] n2) :: rest, p.1 ≠ 99)
    (off3 : ∀ p ∈ (99, tabObj ps) :: (L + 1 + 1 + 1 + 1 + 1, o1) :: (L + 1 + 1 + 1 + 1, o2) :: (L + 1, o5) :: (Db, LCg.lst bvs) :: (Dl, W.listOf lvs.toArray nl) :: (la1, W.listOf #[.ref a1, .ref b1, .ref c1] n1) :: (la2, W.listOf #[.ref a2, .ref b2, .ref c2] n2) :: rest, p.1 ≠ L + 1 + 1 + 1)
    (A1 : WsIn rest a1 d.a) (B1 : WsIn rest b1 d.b) (C1 : WsIn rest c1 d.c) (A2 : WsIn rest a2 e.a) (B2 : WsIn rest b2 e.b) (C2 : WsIn rest c2 e.c)
    (ml : m (Str.ofString "leads") = some (.ref Dl)) (mbh : m (Str.ofString "behind") = some (.ref Db)) (md : m (Str.ofString "dots") = some (.int dots td))
    (x1 : lvs[((j1 : Int)).toNat]? = some (.ref la1)) (x2 : lvs[((j2 : Int)).toNat]? = some (.ref la2))
    (h : ∀ h' g' tk' ps' m' o3', Fr h₀ L h' m' → m' (Str.ofString "leads") = some (.ref Dl) → m' (Str.ofString "behind") = some (.ref Db) → m' (Str.ofString "dots") = some (.int dots td) → (∃ v, o3'.data = .cell v) →
      News h₀ L h' ((99, tabObj ps') :: (L + 1 + 1 + 1, o3') :: (L + 1 + 1 + 1 + 1 + 1, o1) :: (L + 1 + 1 + 1 + 1, o2) :: (L + 1, o5) :: (Db, LCg.lst bvs) :: (Dl, W.listOf lvs.toArray nl) :: (la1, W.listOf #[.ref a1, .ref b1, .ref c1] n1) :: (la2, W.listOf #[.ref a2, .ref b2, .ref c2] n2) :: rest) → TabIn ps₀ ps' → AllBare g' → Q .next { s with heap := h', gens := g', toks := tk' }) :
    wpAny (model PySem.Challenge.rw_pe0145_01.row.prog w) ⟨none, dp, fr, gd, un⟩ (execs soonerBody (envOfC (Str.ofString "law") lawScope L fa cd)) Q noE s := by
  delta soonerBody lawScope pick
  have pa := P.wa
  have pla := P.la
  have pb := P.wb
  have pta : 0 ≤ wsTop d.a e.a ∧ wsTop d.a e.a < 900 := by rw [P.ta]; omega
  have ptb := P.tb
  have peb : decide (d.b.cnt = e.b.cnt ∧ d.b.b = e.b.b) = true := decide_eq_true P.eb
  k_steps
  all_goals try k_data
  unfold Stop
  rename Fr _ _ _ _ => F8
  rename News _ _ _ _ => N8
  rename IsRange _ _ _ _ _ _ _ _ => R8
  refine LCg.CompSrc.range (n := (bare + (j2 : Int) + 1).toNat) rfl F8 N8 R8 (small_one (by omega) (by omega) (by omega) (by omega)) (by rw [rangeSize_one]; congr 1; omega) (by show _ ≤ 16777216; omega) ?_
  intro g'
  refine comp_rest (R := fun i ys nl => RowsIn nl ys ((List.range i).map fun (k : Nat) => (1 + (k : Int), bare + (j1 : Int), bare + (j2 : Int)))) (fun _ => trivial) .nil ?_ ?_
  · rintro i v ys nl' I oI C oC D m₂ h₂ tk hi ⟨tv, rfl⟩ hR hC hx F₂ N₂
    have N₃ : News h₀ L h₂ ((I, oI) :: (C, oC) :: (L + 1 + 1 + 1 + 1 + 1, o1) :: (L + 1 + 1 + 1 + 1, o2) :: (L + 1, o5) :: (D, LCg.lst ys) :: nl') := fun p hp => N₂ p (by
      first
        | (revert hp; revert p; (repeat' (first | exact sub_nil | refine sub_app ?_ ?_ | refine sub_cons (by with_reducible (repeat (first | exact List.mem_cons_self | assumption | exact List.mem_append_left _ (by assumption) | exact List.mem_append_left _ (List.mem_append_left _ (by assumption)) | exact List.mem_append_left _ (List.mem_append_right _ (by assumption)) | refine List.mem_cons_of_mem _ ?_ | refine List.mem_append_right _ ?_))) ?_ | (intro p hp; with_reducible (repeat (first | exact List.mem_cons_self | assumption | exact List.mem_append_left _ (by assumption) | exact List.mem_append_left _ (List.mem_append_left _ (by assumption)) | exact List.mem_append_left _ (List.mem_append_right _ (by assumption)) | refine List.mem_cons_of_mem _ ?_ | refine List.mem_append_right _ ?_)); done))); done)
        | (simp only [List.mem_cons, List.mem_append] at hp ⊢; rcases hp with z | z | z | z | z | z | z <;> simp [z]))
    clear F8 N8 N₂ R8
    show wpAny _ _ _ _ _ _
    k_steps
    rename News _ _ _ _ => N5
    rename ∀ b o, h₂.get? b = some o → _ => hk5
    refine EltEnd.one (N5 _ List.mem_cons_self).1 hk5 ?_
    rw [List.range_succ, List.map_append]
    exact .snoc (hR.mono fun p hp => List.mem_append_right _ hp) ⟨_, _, _, _, _, rfl, List.mem_append_left _ List.mem_cons_self⟩
  · rintro ys nlv hR
    intro De h₂ tk F₂ N₂ off₂
    clear F8 N8 R8
    have HE : ListIn ((De, LCg.lst ys) :: (nlv ++ rest)) De ((List.range (bare + (j2 : Int) + 1).toNat).map fun (k : Nat) => (1 + (k : Int), bare + (j1 : Int), bare + (j2 : Int))) := ⟨ys, _, List.mem_cons_self, hR.mono fun p hp => List.mem_cons_of_mem _ (List.mem_append_left _ hp)⟩
    have N₄ : News h₀ L h₂ ((99, tabObj ps) :: (L + 1 + 1 + 1, o3) :: (L + 1 + 1 + 1 + 1 + 1, o1) :: (L + 1 + 1 + 1 + 1, o2) :: (L + 1, o5) :: (Db, LCg.lst bvs) :: (Dl, W.listOf lvs.toArray nl) :: (la1, W.listOf #[.ref a1, .ref b1, .ref c1] n1) :: (la2, W.listOf #[.ref a2, .ref b2, .ref c2] n2) :: (De, LCg.lst ys) :: (nlv ++ rest)) := fun p hp => N₂ p (by
      first
        | (revert hp; revert p; (repeat' (first | exact sub_nil | refine sub_app ?_ ?_ | refine sub_cons (by with_reducible (repeat (first | exact List.mem_cons_self | assumption | exact List.mem_append_left _ (by assumption) | exact List.mem_append_left _ (List.mem_append_left _ (by assumption)) | exact List.mem_append_left _ (List.mem_append_right _ (by assumption)) | refine List.mem_cons_of_mem _ ?_ | refine List.mem_append_right _ ?_))) ?_ | (intro p hp; with_reducible (repeat (first | exact List.mem_cons_self | assumption | exact List.mem_append_left _ (by assumption) | exact List.mem_append_left _ (List.mem_append_left _ (by assumption)) | exact List.mem_append_left _ (List.mem_append_right _ (by assumption)) | refine List.mem_cons_of_mem _ ?_ | refine List.mem_append_right _ ?_)); done))); done)
        | (simp only [List.mem_cons, List.mem_append] at hp ⊢; rcases hp with z | z | z | z | z | z | z | z | z | z | z | z <;> simp [z]))
    have offE : ∀ p ∈ (99, tabObj ps) :: (L + 1 + 1 + 1, o3) :: (L + 1 + 1 + 1 + 1 + 1, o1) :: (L + 1 + 1 + 1 + 1, o2) :: (L + 1, o5) :: (Db, LCg.lst bvs) :: (Dl, W.listOf lvs.toArray nl) :: (la1, W.listOf #[.ref a1, .ref b1, .ref c1] n1) :: (la2, W.listOf #[.ref a2, .ref b2, .ref c2] n2) :: (nlv ++ rest), p.1 ≠ De := fun p hp => off1_mem off₂ p (by
      first
        | (revert hp; revert p; (repeat' (first | exact sub_nil | refine sub_app ?_ ?_ | refine sub_cons (by with_reducible (repeat (first | exact List.mem_cons_self | assumption | exact List.mem_append_left _ (by assumption) | exact List.mem_append_left _ (List.mem_append_left _ (by assumption)) | exact List.mem_append_left _ (List.mem_append_right _ (by assumption)) | refine List.mem_cons_of_mem _ ?_ | refine List.mem_append_right _ ?_))) ?_ | (intro p hp; with_reducible (repeat (first | exact List.mem_cons_self | assumption | exact List.mem_append_left _ (by assumption) | exact List.mem_append_left _ (List.mem_append_left _ (by assumption)) | exact List.mem_append_left _ (List.mem_append_right _ (by assumption)) | refine List.mem_cons_of_mem _ ?_ | refine List.mem_append_right _ ?_)); done))); done)
        | (simp only [List.mem_cons, List.mem_append] at hp ⊢; rcases hp with z | z | z | z | z | z | z | z | z | z | z <;> simp [z]))
    clear N₂ off₂ hR
    dsimp only
    k_steps
    all_goals try k_data
    unfold Stop
    rename_i D0 _ _ f0 _ _ Ds _ _ fs _ Dbl _ _ fb _ Dk _ _ fk _ F7 N7 h8' tk8 _ _ _ R8 F8 N8 _
    have hD1 : dots + (j1 : Int) = ((dots + (j1 : Int)).toNat : Int) := by omega
    have hD2 : dots + (j2 : Int) = ((dots + (j2 : Int)).toNat : Int) := by omega
    refine size_loop (fa := fa) (cd := cd) (D1 := (dots + (j1 : Int)).toNat) (D2 := (dots + (j2 : Int)).toNat) (ls := Ds) (lb := Dbl) (lk := Dk) (rest := (99, tabObj ps) :: (L + 1, o5) :: (Dl, W.listOf lvs.toArray nl) :: (la1, W.listOf #[.ref a1, .ref b1, .ref c1] n1) :: (la2, W.listOf #[.ref a2, .ref b2, .ref c2] n2) :: rest)
      (o99 := tabObj ps) (by first | (with_reducible (repeat (first | exact List.mem_cons_self | assumption | exact List.mem_append_left _ (by assumption) | exact List.mem_append_left _ (List.mem_append_left _ (by assumption)) | exact List.mem_append_left _ (List.mem_append_right _ (by assumption)) | refine List.mem_cons_of_mem _ ?_ | refine List.mem_append_right _ ?_)); done) | simp) ⟨Ne.symm (fs (99, tabObj ps) (by first | (with_reducible (repeat (first | exact List.mem_cons_self | assumption | exact List.mem_append_left _ (by assumption) | exact List.mem_append_left _ (List.mem_append_left _ (by assumption)) | exact List.mem_append_left _ (List.mem_append_right _ (by assumption)) | refine List.mem_cons_of_mem _ ?_ | refine List.mem_append_right _ ?_)); done) | simp)), Ne.symm (fb (99, tabObj ps) (by first | (with_reducible (repeat (first | exact List.mem_cons_self | assumption | exact List.mem_append_left _ (by assumption) | exact List.mem_append_left _ (List.mem_append_left _ (by assumption)) | exact List.mem_append_left _ (List.mem_append_right _ (by assumption)) | refine List.mem_cons_of_mem _ ?_ | refine List.mem_append_right _ ?_)); done) | simp)), Ne.symm (fk (99, tabObj ps) (by first | (with_reducible (repeat (first | exact List.mem_cons_self | assumption | exact List.mem_append_left _ (by assumption) | exact List.mem_append_left _ (List.mem_append_left _ (by assumption)) | exact List.mem_append_left _ (List.mem_append_right _ (by assumption)) | refine List.mem_cons_of_mem _ ?_ | refine List.mem_append_right _ ?_)); done) | simp))⟩ X T hA hU d1 d2 d3 hbe h8 hD1 hD2 (by omega) (by omega) (by exact md) (by exact mbh) (by rfl) (by rfl) (by rfl) F8 N8 R8 ?_ ?_ ?_ ?_ ?_ ?_ ?_ ?_ ?_
    · intro p hp
      first
        | (revert hp; revert p; (repeat' (first | exact sub_nil | refine sub_app ?_ ?_ | refine sub_cons (by with_reducible (repeat (first | exact List.mem_cons_self | assumption | exact List.mem_append_left _ (by assumption) | exact List.mem_append_left _ (List.mem_append_left _ (by assumption)) | exact List.mem_append_left _ (List.mem_append_right _ (by assumption)) | refine List.mem_cons_of_mem _ ?_ | refine List.mem_append_right _ ?_))) ?_ | (intro p hp; with_reducible (repeat (first | exact List.mem_cons_self | assumption | exact List.mem_append_left _ (by assumption) | exact List.mem_append_left _ (List.mem_append_left _ (by assumption)) | exact List.mem_append_left _ (List.mem_append_right _ (by assumption)) | refine List.mem_cons_of_mem _ ?_ | refine List.mem_append_right _ ?_)); done))); done)
        | (simp only [List.mem_cons, List.mem_append] at hp ⊢; rcases hp with z | z | z | z | z | z | z | z | z | z | z | z | z <;> simp [z])
    · intro p hp
      have hp' : p ∈ (99, tabObj ps) :: (L + 1 + 1 + 1 + 1 + 1, o1) :: (L + 1 + 1 + 1 + 1, o2) :: (L + 1, o5) :: (Db, LCg.lst bvs) :: (Dl, W.listOf lvs.toArray nl) :: (la1, W.listOf #[.ref a1, .ref b1, .ref c1] n1) :: (la2, W.listOf #[.ref a2, .ref b2, .ref c2] n2) :: rest := by
        first
          | (revert hp; revert p; (repeat' (first | exact sub_nil | refine sub_app ?_ ?_ | refine sub_cons (by with_reducible (repeat (first | exact List.mem_cons_self | assumption | exact List.mem_append_left _ (by assumption) | exact List.mem_append_left _ (List.mem_append_left _ (by assumption)) | exact List.mem_append_left _ (List.mem_append_right _ (by assumption)) | refine List.mem_cons_of_mem _ ?_ | refine List.mem_append_right _ ?_))) ?_ | (intro p hp; with_reducible (repeat (first | exact List.mem_cons_self | assumption | exact List.mem_append_left _ (by assumption) | exact List.mem_append_left _ (List.mem_append_left _ (by assumption)) | exact List.mem_append_left _ (List.mem_append_right _ (by assumption)) | refine List.mem_cons_of_mem _ ?_ | refine List.mem_append_right _ ?_)); done))); done)
          | (simp only [List.mem_cons] at hp ⊢; rcases hp with z | z | z | z | z | z | z | z | z <;> simp [z])
      have hs := fs p (by first | (revert hp; revert p; (repeat' (first | exact sub_nil | refine sub_app ?_ ?_ | refine sub_cons (by with_reducible (repeat (first | exact List.mem_cons_self | assumption | exact List.mem_append_left _ (by assumption) | exact List.mem_append_left _ (List.mem_append_left _ (by assumption)) | exact List.mem_append_left _ (List.mem_append_right _ (by assumption)) | refine List.mem_cons_of_mem _ ?_ | refine List.mem_append_right _ ?_))) ?_ | (intro p hp; with_reducible (repeat (first | exact List.mem_cons_self | assumption | exact List.mem_append_left _ (by assumption) | exact List.mem_append_left _ (List.mem_append_left _ (by assumption)) | exact List.mem_append_left _ (List.mem_append_right _ (by assumption)) | refine List.mem_cons_of_mem _ ?_ | refine List.mem_append_right _ ?_)); done))); done) | (simp only [List.mem_cons, List.mem_append] at hp ⊢; rcases hp with z | z | z | z | z | z | z | z | z <;> simp [z]))
      have hb := fb p (by first | (revert hp; revert p; (repeat' (first | exact sub_nil | refine sub_app ?_ ?_ | refine sub_cons (by with_reducible (repeat (first | exact List.mem_cons_self | assumption | exact List.mem_append_left _ (by assumption) | exact List.mem_append_left _ (List.mem_append_left _ (by assumption)) | exact List.mem_append_left _ (List.mem_append_right _ (by assumption)) | refine List.mem_cons_of_mem _ ?_ | refine List.mem_append_right _ ?_))) ?_ | (intro p hp; with_reducible (repeat (first | exact List.mem_cons_self | assumption | exact List.mem_append_left _ (by assumption) | exact List.mem_append_left _ (List.mem_append_left _ (by assumption)) | exact List.mem_append_left _ (List.mem_append_right _ (by assumption)) | refine List.mem_cons_of_mem _ ?_ | refine List.mem_append_right _ ?_)); done))); done) | (simp only [List.mem_cons, List.mem_append] at hp ⊢; rcases hp with z | z | z | z | z | z | z | z | z <;> simp [z]))
      have hk := fk p (by first | (revert hp; revert p; (repeat' (first | exact sub_nil | refine sub_app ?_ ?_ | refine sub_cons (by with_reducible (repeat (first | exact List.mem_cons_self | assumption | exact List.mem_append_left _ (by assumption) | exact List.mem_append_left _ (List.mem_append_left _ (by assumption)) | exact List.mem_append_left _ (List.mem_append_right _ (by assumption)) | refine List.mem_cons_of_mem _ ?_ | refine List.mem_append_right _ ?_))) ?_ | (intro p hp; with_reducible (repeat (first | exact List.mem_cons_self | assumption | exact List.mem_append_left _ (by assumption) | exact List.mem_append_left _ (List.mem_append_left _ (by assumption)) | exact List.mem_append_left _ (List.mem_append_right _ (by assumption)) | refine List.mem_cons_of_mem _ ?_ | refine List.mem_append_right _ ?_)); done))); done) | (simp only [List.mem_cons, List.mem_append] at hp ⊢; rcases hp with z | z | z | z | z | z | z | z | z <;> simp [z]))
      exact ⟨off3 p hp', hs, hb, hk⟩
    · exact fs (L + 1 + 1 + 1, o3) (by first | (with_reducible (repeat (first | exact List.mem_cons_self | assumption | exact List.mem_append_left _ (by assumption) | exact List.mem_append_left _ (List.mem_append_left _ (by assumption)) | exact List.mem_append_left _ (List.mem_append_right _ (by assumption)) | refine List.mem_cons_of_mem _ ?_ | refine List.mem_append_right _ ?_)); done) | simp)
    · exact fb (L + 1 + 1 + 1, o3) (by first | (with_reducible (repeat (first | exact List.mem_cons_self | assumption | exact List.mem_append_left _ (by assumption) | exact List.mem_append_left _ (List.mem_append_left _ (by assumption)) | exact List.mem_append_left _ (List.mem_append_right _ (by assumption)) | refine List.mem_cons_of_mem _ ?_ | refine List.mem_append_right _ ?_)); done) | simp)
    · exact fk (L + 1 + 1 + 1, o3) (by first | (with_reducible (repeat (first | exact List.mem_cons_self | assumption | exact List.mem_append_left _ (by assumption) | exact List.mem_append_left _ (List.mem_append_left _ (by assumption)) | exact List.mem_append_left _ (List.mem_append_right _ (by assumption)) | refine List.mem_cons_of_mem _ ?_ | refine List.mem_append_right _ ?_)); done) | simp)
    · exact fb (Ds, W.listOf ([] : List Value).toArray 0) (by first | (with_reducible (repeat (first | exact List.mem_cons_self | assumption | exact List.mem_append_left _ (by assumption) | exact List.mem_append_left _ (List.mem_append_left _ (by assumption)) | exact List.mem_append_left _ (List.mem_append_right _ (by assumption)) | refine List.mem_cons_of_mem _ ?_ | refine List.mem_append_right _ ?_)); done) | simp)
    · exact fk (Ds, W.listOf ([] : List Value).toArray 0) (by first | (with_reducible (repeat (first | exact List.mem_cons_self | assumption | exact List.mem_append_left _ (by assumption) | exact List.mem_append_left _ (List.mem_append_left _ (by assumption)) | exact List.mem_append_left _ (List.mem_append_right _ (by assumption)) | refine List.mem_cons_of_mem _ ?_ | refine List.mem_append_right _ ?_)); done) | simp)
    · exact fk (Dbl, W.listOf ([] : List Value).toArray 0) (by first | (with_reducible (repeat (first | exact List.mem_cons_self | assumption | exact List.mem_append_left _ (by assumption) | exact List.mem_append_left _ (List.mem_append_left _ (by assumption)) | exact List.mem_append_left _ (List.mem_append_right _ (by assumption)) | refine List.mem_cons_of_mem _ ?_ | refine List.mem_append_right _ ?_)); done) | simp)
    · intro h9 tk9 m9 tups oS F9 hmap hoS N9 Hs Hb Hk ht9
      obtain ⟨v9, hv9⟩ := hoS
      have eD3 : (dots + (j2 : Int) + 1).toNat = (dots + (j2 : Int)).toNat + 1 := by omega
      have tk : ∀ y v, y ≠ Str.ofString "column" → y ≠ Str.ofString "hits" → _ = some v → m9 y = some v := fun y v z1 z2 z3 => (hmap y z1 z2).trans z3
      dsimp only
      refine pair_tail (fa := fa) (cd := cd) (la1 := la1) (la2 := la2) (a1 := a1) (b1 := b1) (c1 := c1) (a2 := a2) (b2 := b2) (c2 := c2) (n1 := n1) (n2 := n2) (ls := Ds) (lb := Dbl) (lk := Dk) (d := d.c) (e := e.c)
        (rest := (L + 1 + 1 + 1, oS) :: (tups ++ (L + 1 + 1 + 1 + 1 + 1, o1) :: (L + 1 + 1 + 1 + 1, o2) :: (Db, LCg.lst bvs) :: (L + 1, o5) :: (Dl, W.listOf lvs.toArray nl) :: rest)) X T BM hA hU tri ag F9 (fun p hp => N9 p ?_) ?_ (C1.mono ?_) (C2.mono ?_) (tk _ _ (by decide) (by decide) (by rfl)) (tk _ _ (by decide) (by decide) (by rfl)) (tk _ _ (by decide) (by decide) (by rfl)) (tk _ _ (by decide) (by decide) (by rfl)) (tk _ _ (by decide) (by decide) (by rfl))
        (Hs.mono ?_) (Hb.mono ?_) (Hk.mono ?_) ?_ ?_ ?_ ?_ ?_ ?_ P.lc P.lr (decide_eq_false P.ec) ?_ ?_ ?_
      · first
          | (revert hp; revert p; (repeat' (first | exact sub_nil | refine sub_app ?_ ?_ | refine sub_cons (by with_reducible (repeat (first | exact List.mem_cons_self | assumption | exact List.mem_append_left _ (by assumption) | exact List.mem_append_left _ (List.mem_append_left _ (by assumption)) | exact List.mem_append_left _ (List.mem_append_right _ (by assumption)) | refine List.mem_cons_of_mem _ ?_ | refine List.mem_append_right _ ?_))) ?_ | (intro p hp; with_reducible (repeat (first | exact List.mem_cons_self | assumption | exact List.mem_append_left _ (by assumption) | exact List.mem_append_left _ (List.mem_append_left _ (by assumption)) | exact List.mem_append_left _ (List.mem_append_right _ (by assumption)) | refine List.mem_cons_of_mem _ ?_ | refine List.mem_append_right _ ?_)); done))); done)
          | (simp only [List.mem_cons, List.mem_append] at hp ⊢; rcases hp with z | z | z | z | z | z | z | z | z | z | z <;> simp [z])
      · intro p hp
        have h9' : ∀ p, p ∈ tups ∨ p ∈ (L + 1 + 1 + 1 + 1 + 1, o1) :: (L + 1 + 1 + 1 + 1, o2) :: (L + 1, o5) :: (Db, LCg.lst bvs) :: (Dl, W.listOf lvs.toArray nl) :: (la1, W.listOf #[.ref a1, .ref b1, .ref c1] n1) :: (la2, W.listOf #[.ref a2, .ref b2, .ref c2] n2) :: rest → p.1 ≠ 99 := fun p hp => hp.elim (ht9 p) fun z => off9 p (List.mem_cons_of_mem _ z)
        have hq : p = (L + 1 + 1 + 1, oS) ∨ (p ∈ tups ∨ p ∈ (L + 1 + 1 + 1 + 1 + 1, o1) :: (L + 1 + 1 + 1 + 1, o2) :: (L + 1, o5) :: (Db, LCg.lst bvs) :: (Dl, W.listOf lvs.toArray nl) :: (la1, W.listOf #[.ref a1, .ref b1, .ref c1] n1) :: (la2, W.listOf #[.ref a2, .ref b2, .ref c2] n2) :: rest) := by
          first
            | (revert hp; revert p; (repeat' (first | exact sub_nil | refine sub_app ?_ ?_ | refine sub_cons (by with_reducible (repeat (first | exact List.mem_cons_self | assumption | exact List.mem_append_left _ (by assumption) | exact List.mem_append_left _ (List.mem_append_left _ (by assumption)) | exact List.mem_append_left _ (List.mem_append_right _ (by assumption)) | refine List.mem_cons_of_mem _ ?_ | refine List.mem_append_right _ ?_))) ?_ | (intro p hp; with_reducible (repeat (first | exact List.mem_cons_self | assumption | exact List.mem_append_left _ (by assumption) | exact List.mem_append_left _ (List.mem_append_left _ (by assumption)) | exact List.mem_append_left _ (List.mem_append_right _ (by assumption)) | refine List.mem_cons_of_mem _ ?_ | refine List.mem_append_right _ ?_)); done))); done)
            | (simp only [List.mem_cons, List.mem_append] at hp ⊢; rcases hp with z | z | z | z | z | z | z | z | z | z <;> simp [z])
        rcases hq with rfl | z
        · exact off9 (L + 1 + 1 + 1, o3) (by first | (with_reducible (repeat (first | exact List.mem_cons_self | assumption | exact List.mem_append_left _ (by assumption) | exact List.mem_append_left _ (List.mem_append_left _ (by assumption)) | exact List.mem_append_left _ (List.mem_append_right _ (by assumption)) | refine List.mem_cons_of_mem _ ?_ | refine List.mem_append_right _ ?_)); done) | simp)
        · exact h9' p z
      · intro p hp; simp [hp]
      · intro p hp; simp [hp]
      · intro p hp; simp [hp]
      · intro p hp; simp [hp]
      · intro p hp; simp [hp]
      · rw [P.tc.1]; omega
      · rw [P.tc.2]; omega
      · rw [P.wc, eD3]
      · rw [P.nc, eD3]
      · rw [P.wr, eD3]
      · rw [P.nr, eD3]
      · exact seen_bound _ (by omega)
      · exact blind_bound _ (by omega)
      · intro h' g' tk' ps' F' N' tri' ag'
        refine h h' g' tk' ps' m9 oS F' (tk _ _ (by decide) (by decide) (by exact ml)) (tk _ _ (by decide) (by decide) (by exact mbh)) (tk _ _ (by decide) (by decide) (by exact md)) ⟨v9, hv9⟩ (fun p hp => N' p ?_) tri' ag'
        first
          | (revert hp; revert p; (repeat' (first | exact sub_nil | refine sub_app ?_ ?_ | refine sub_cons (by with_reducible (repeat (first | exact List.mem_cons_self | assumption | exact List.mem_append_left _ (by assumption) | exact List.mem_append_left _ (List.mem_append_left _ (by assumption)) | exact List.mem_append_left _ (List.mem_append_right _ (by assumption)) | refine List.mem_cons_of_mem _ ?_ | refine List.mem_append_right _ ?_))) ?_ | (intro p hp; with_reducible (repeat (first | exact List.mem_cons_self | assumption | exact List.mem_append_left _ (by assumption) | exact List.mem_append_left _ (List.mem_append_left _ (by assumption)) | exact List.mem_append_left _ (List.mem_append_right _ (by assumption)) | refine List.mem_cons_of_mem _ ?_ | refine List.mem_append_right _ ?_)); done))); done)
          | (simp only [List.mem_cons, List.mem_append] at hp ⊢; rcases hp with z | z | z | z | z | z | z | z | z | z <;> simp [z])
end
section
open PySem PySem.W PyProof.Rows
example : True := by
  k_with_none
  k_with "getAttr ref" => (k_dflt (refine' get_own (by assumption) (by assumption) (by exact (WsAt.keeps (by assumption) (Fr.keep (by assumption))).at) (by k_is) (by k_is) (by k_is) (by k_is) (by first | exact WsAt.norm (by assumption) | exact WsAt.n (by assumption) | exact WsAt.nt (by assumption) | exact WsAt.simple (by assumption)) (by rfl) ?_))
  k_with "exec For Name Call cons nil" => k_dflt (refine wpAny_For ?_)
  k_with "exec For Name Name cons nil" => k_dflt (refine wpAny_For ?_)
  k_with "exec For Name Attribute cons nil" => k_dflt (refine wpAny_For ?_)
  k_with "eval Name" => (k_dflt (refine' PyProof.Rows.ld (by assumption) (by first | exact rfl | assumption) ?_))
  k_with "execs cons Assign cons" => (k_dflt (refine wpAny_execs_cons ?_))
  k_with "execs cons Assign nil" => (k_dflt (refine wpAny_execs_cons ?_))
  k_with "eval ListComp" => (k_dflt (refine LCg.ListComp_U (F₀ := by assumption) (by with_unfolding_all rfl) (by decide) (by rfl) (by decide) (by rfl) ?_))
  k_with "CompSrc" => refine Stop.out ?_
  k_with "binaryOp Add str str" => (k_dflt (refine PyProof.Rows.add_str (hsz := (by first | decide | (simp only [slen_append, slen_lit]; omega) | (simp only [slen_append]; omega))) ?_); intro _ _)
  k_with "eval Name" => ((with_reducible show wpAny _ _ (eval (Expr.Name _ _) (compEnvC _ _ _ _)) _ _ _); k_dflt (first | refine comp_global (by assumption) (by assumption) (by assumption) (by k_is) ?_ | refine comp_built (by assumption) (by assumption) (by assumption) (by k_is) (by boot_by_name) (by decide) ?_))
  trivial
open Rx
example : True := by
  k_with "eval Name" => ((with_reducible show wpAny _ _ (eval (Expr.Name _ _) (compEnvC _ _ _ _)) _ _ _); k_dflt (refine' comp_free (by assumption) (by rfl) (by k_mem) (by assumption) ?_ (by rfl) (by rfl)))
  k_with "getMethod ref" => (k_dflt (refine' ws_meth (by assumption) (by assumption) (by assumption) (by assumption) (by (intro p hp; repeat (first | exact hp | apply List.mem_cons_of_mem | apply List.mem_append_right))) (by decide) (by k_is) (by k_is) (by k_is) ?_))
  k_with "call ref" => (k_dflt ((first | refine' wits_call (by assumption) (by assumption) (by assumption) (by assumption) (by assumption) (by assumption) (by (intro p hp; repeat (first | exact hp | apply List.mem_cons_of_mem | apply List.mem_append_right))) (by first | omega | (dsimp only; omega)) (by assumption) (by assumption) ?_ | refine' blind_call (by assumption) (by assumption) (by assumption) (by assumption) (by assumption) (by assumption) (by (intro p hp; repeat (first | exact hp | apply List.mem_cons_of_mem | apply List.mem_append_right))) (by first | omega | (dsimp only; omega)) (by assumption) (by assumption) ?_)); intro _ _ _ _ _ _; (try k_sweep))
  k_with "call ref" => (k_dflt ((first | refine' less_call (by assumption) (by assumption) (by assumption) (by assumption) (by assumption) (by assumption) (by (intro p hp; repeat (first | exact hp | apply List.mem_cons_of_mem | apply List.mem_append_right))) (by first | omega | (dsimp only; omega)) (by first | assumption | omega | (dsimp only; omega)) (by assumption) ?_ | refine' equal_call (by assumption) (by assumption) (by assumption) (by assumption) (by assumption) (by assumption) (by (intro p hp; repeat (first | exact hp | apply List.mem_cons_of_mem | apply List.mem_append_right))) (by first | omega | (dsimp only; omega)) (by first | assumption | omega | (dsimp only; omega)) (by assumption) ?_)); intro _ _ _ _; (try k_sweep))
  k_with "call ref" => (k_dflt (refine' words_call (by assumption) (by assumption) (by assumption) (by assumption) (by assumption) (by (intro p hp; repeat (first | exact hp | apply List.mem_cons_of_mem | apply List.mem_append_right))) (by first | omega | (dsimp only; omega)) (by first | omega | (dsimp only; omega)) (by assumption) ?_); intro _ _ _ _ _; (try k_sweep))
  k_with "call ref" => (k_dflt (refine' fmt_call (by assumption) (by assumption) (by assumption) (by assumption) (by assumption) (by assumption) (by assumption) (by assumption) (by assumption) (by (intro p hp; repeat (first | exact hp | apply List.mem_cons_of_mem | apply List.mem_append_right))) (by first | omega | (dsimp only; omega)) (by first | omega | (dsimp only; omega)) (by assumption) ?_); intro _ _ _ _ _ _ _ _ _; (try k_sweep))
  k_with "compareOp NotEq ref ref" => (k_dflt (refine' ne_same (by assumption) (by first | assumption | exact RefRows.sub (by assumption) (by assumption) (by intro p hp; repeat (first | exact hp | apply List.mem_cons_of_mem | apply List.mem_append_right)) | exact RefRows.nil (by assumption) (by k_mem)) (by show _ + 64 < 9900; dsimp only; omega) ?_))
  k_with "eval Name" => ((with_reducible show wpAny _ _ (eval (Expr.Name _ _) (envOfC _ _ _ _ _)) _ _ _); k_dflt (refine' ld_cell (by assumption) (by rfl) (by rfl) (by with_reducible (repeat (first | exact List.mem_cons_self | apply List.mem_cons_of_mem))) (by with_reducible assumption) ?_))
  k_with "eval Name" => ((with_reducible show wpAny _ _ (eval (Expr.Name _ _) (compEnvC _ _ _ _)) _ _ _); k_dflt (refine' comp_cell (by assumption) (by rfl) (by rfl) (by with_reducible (repeat (first | exact List.mem_cons_self | apply List.mem_cons_of_mem))) (by with_reducible assumption) ?_))
  trivial

example : True := by
  k_with "compareOp NotEq ref ref" => (k_dflt (refine' ne_same (by first | assumption | exact RefRows.keeps (by assumption) (by assumption)) (by first | exact RefRows.nil (by assumption) List.mem_cons_self | assumption | exact RefRows.sub (by assumption) (by assumption) (by intro p hp; with_reducible (repeat (first | exact hp | apply List.mem_cons_of_mem | apply List.mem_append_right)))) (by show _ + 64 < 9900; dsimp only; omega) ?_))
  k_with "newList" => (k_dflt (refine newList_N2 (by assumption) (by assumption) ?_); intro _ _ _ _ _ _)
  k_with "newTuple" => (k_dflt (refine newTuple_NK (by assumption) (by assumption) ?_); intro _ _ _ _)
  k_with "subscriptTail" => ((with_reducible show wpAny _ _ (subscriptTail _ (PySem.Expr.Name _ _) (Value.ref _) (Value.int _ _)) _ _ _); k_dflt (refine' item_at (by is_list) (by omega) (by omega) (by assumption) ?_ (by with_unfolding_all rfl)))
  k_with "subscriptTail" => ((with_reducible show wpAny _ _ (subscriptTail _ (PySem.Expr.Constant _ _ _) (Value.ref _) (Value.int _ _)) _ _ _); k_dflt (refine' item_at (by is_list) (by decide) (by decide) (by exact rfl) ?_ (by with_unfolding_all rfl)))
  k_with "exec Assign cons ListComp" => (k_dflt (refine LCg.Assign_ListComp_U (F₀ := by assumption) (by rfl) (by with_unfolding_all rfl) (by with_unfolding_all rfl) (by decide) (by rfl) (by decide) (by rfl) (by rfl) (by rfl) ?_))
  k_with "pyIter ref" => refine Stop.out ?_
  k_with "pyIter" => refine Stop.out ?_
  trivial

/-- what stands between the turns of the loops over the pairs -/
structure PairK (L Dl Db : Addr) (dots : Int) (ps₀ : Array Value) (o2 : Obj) (base : List (Addr × Obj)) (i : Nat) (m : Str → Option Value) (news : List (Addr × Obj)) (g : Array GenState) : Prop where
  leads : m (Str.ofString "leads") = some (.ref Dl)
  behind : m (Str.ofString "behind") = some (.ref Db)
  dots : ∃ t, m (Str.ofString "dots") = some (.int dots t)
  news : ∃ ps o1 o3, news = (99, tabObj ps) :: (L + 1 + 1 + 1, o3) :: (L + 1 + 1 + 1 + 1 + 1, o1) :: (L + 1 + 1 + 1 + 1, o2) :: base ∧ TabIn ps₀ ps ∧ (∃ v, o1.data = .cell v) ∧ (∃ v, o3.data = .cell v)
  gens : AllBare g
structure PairJ (L Dl Db : Addr) (dots : Int) (ps₀ : Array Value) (base : List (Addr × Obj)) (i : Nat) (m : Str → Option Value) (news : List (Addr × Obj)) (g : Array GenState) : Prop where
  leads : m (Str.ofString "leads") = some (.ref Dl)
  behind : m (Str.ofString "behind") = some (.ref Db)
  dots : ∃ t, m (Str.ofString "dots") = some (.int dots t)
  news : ∃ ps o1 o2 o3, news = (99, tabObj ps) :: (L + 1 + 1 + 1, o3) :: (L + 1 + 1 + 1 + 1 + 1, o1) :: (L + 1 + 1 + 1 + 1, o2) :: base ∧ TabIn ps₀ ps ∧ (∃ v, o1.data = .cell v) ∧ (∃ v, o2.data = .cell v) ∧ (∃ v, o3.data = .cell v)
  gens : AllBare g
noncomputable def baseOf (L Db Dl : Addr) (o5 : Obj) (bvs lvs : List Value) (nl : Nat) (rest : List (Addr × Obj)) : List (Addr × Obj) := (L + 1, o5) :: (Db, LCg.lst bvs) :: (Dl, W.listOf lvs.toArray nl) :: rest
/-- what the walk over the pairs counts on -/
structure PairPre (L Db Dl : Addr) (o5 : Obj) (bvs lvs : List Value) (nl : Nat) (rest : List (Addr × Obj)) (bare dots : Int) (beh : List Int) (ld : Nat → Ld) : Prop where
  P : ∀ j1 j2, j1 < j2 → j2 < 3 → PairOk bare dots beh j1 j2 (ld j1) (ld j2)
  b : 1 ≤ bare ∧ bare ≤ 3
  d : 1 ≤ dots ∧ dots ≤ 5
  be : IntsAre bvs beh
  n8 : beh.length = 8
  d5 : ∃ t, o5.data = .cell (some (.int bare t))
  off : ∀ p ∈ baseOf L Db Dl o5 bvs lvs nl rest, p.1 ≠ 99 ∧ p.1 ≠ L + 1 + 1 + 1 + 1 + 1 ∧ p.1 ≠ L + 1 + 1 + 1 + 1 ∧ p.1 ≠ L + 1 + 1 + 1
  hL : @LT.lt Nat _ 99 L
  leads : ∀ j, j < 3 → ∃ v, lvs[j]? = some v ∧ Lead rest v (ld j)
theorem sooner_turn {w : World} {dp un : Nat} {fr : Option (List Env)} {gd : Option (List Code)} {s : Shared} {h₀ : Heap} {L fa : Addr} {cd : Value} {mg mb : Str → Option Value} {Q : Flow → Shared → Prop} {bm : Addr} {ob : Obj} {ps₀ : Array Value}
    {Dl Db : Addr} {nl : Nat} {lvs bvs : List Value} {rest : List (Addr × Obj)} {o2 o5 : Obj} {bare dots : Int} {beh : List Int} {ld : Nat → Ld} {j2 : Nat} {t2 : Tok}
    (X : (hd.heap_39 w.params).In h₀) (T : TopRead hd.view_39 LO mg mb h₀) (BM : BMod h₀ mainGlobals mg bm ob) (hA : dp < 350) (hU : un < 4000)
    (H : PairPre L Db Dl o5 bvs lvs nl rest bare dots beh ld) (h23 : j2 < 3) (d2 : o2.data = .cell (some (.int (j2 : Int) t2)))
    {i : Nat} {tv : Tok} {m₁ : Str → Option Value} {news₁ : List (Addr × Obj)} {I : Addr} {oI : Obj} {h : Heap} {g : Array GenState} {tk : Nat} (hi : i < j2)
    (J : PairK L Dl Db dots ps₀ o2 (baseOf L Db Dl o5 bvs lvs nl rest) i m₁ news₁ g) (off : ∀ p ∈ news₁, p.1 ≠ I) (F : Fr h₀ L h m₁) (N : News h₀ L h ((I, oI) :: news₁)) :
    wpAny (model PySem.Challenge.rw_pe0145_01.row.prog w) ⟨none, dp, fr, gd, un⟩ (storeName (envOfC (Str.ofString "law") lawScope L fa cd) (Str.ofString "sooner") (.int (0 + (i : Int)) tv))
      (fun _ s₃ => wpAny (model PySem.Challenge.rw_pe0145_01.row.prog w) ⟨none, dp, fr, gd, un⟩ (execs soonerBody (envOfC (Str.ofString "law") lawScope L fa cd))
        (TurnX h₀ L Q s I oI (PairK L Dl Db dots ps₀ o2 (baseOf L Db Dl o5 bvs lvs nl rest) (i + 1))) noE s₃) noE { s with heap := h, gens := g, toks := tk } := by
  obtain ⟨ml, mbh, ⟨td, md⟩, ⟨ps, o1, o3, rfl, tri, ⟨v1, d1⟩, ⟨v3, d3⟩⟩, ag⟩ := J
  obtain ⟨t5, d5⟩ := H.d5
  have hL := H.hL
  have N1 : News h₀ L h ((L + 1 + 1 + 1 + 1 + 1, o1) :: (99, tabObj ps) :: (L + 1 + 1 + 1, o3) :: (L + 1 + 1 + 1 + 1, o2) :: (I, oI) :: baseOf L Db Dl o5 bvs lvs nl rest) := fun p hp => N p (by
    first
      | (revert hp; revert p; (repeat' (first | exact sub_nil | refine sub_app ?_ ?_ | refine sub_cons (by with_reducible (repeat (first | exact List.mem_cons_self | assumption | exact List.mem_append_left _ (by assumption) | exact List.mem_append_left _ (List.mem_append_left _ (by assumption)) | exact List.mem_append_left _ (List.mem_append_right _ (by assumption)) | refine List.mem_cons_of_mem _ ?_ | refine List.mem_append_right _ ?_))) ?_ | (intro p hp; with_reducible (repeat (first | exact List.mem_cons_self | assumption | exact List.mem_append_left _ (by assumption) | exact List.mem_append_left _ (List.mem_append_left _ (by assumption)) | exact List.mem_append_left _ (List.mem_append_right _ (by assumption)) | refine List.mem_cons_of_mem _ ?_ | refine List.mem_append_right _ ?_)); done))); done)
      | (simp only [List.mem_cons] at hp ⊢; rcases hp with z | z | z | z | z | z <;> simp [z]))
  have ne1 : ∀ k : Nat, @Ne Nat 99 (L + 1 + k) := fun k => by omega
  refine store_cell (c := L + 1 + 1 + 1 + 1 + 1) rfl rfl rfl F N1 ?_ d1 ?_
  · intro p hp
    simp only [List.mem_cons] at hp
    rcases hp with rfl | rfl | rfl | rfl | hp
    · exact ne1 4
    · exact neN (by show ¬ @Eq Nat (L + 1 + 1 + 1) (L + 1 + 1 + 1 + 1 + 1); omega)
    · exact neN (by show ¬ @Eq Nat (L + 1 + 1 + 1 + 1) (L + 1 + 1 + 1 + 1 + 1); omega)
    · exact Ne.symm (off (L + 1 + 1 + 1 + 1 + 1, o1) (by first | (with_reducible (repeat (first | exact List.mem_cons_self | assumption | exact List.mem_append_left _ (by assumption) | exact List.mem_append_left _ (List.mem_append_left _ (by assumption)) | exact List.mem_append_left _ (List.mem_append_right _ (by assumption)) | refine List.mem_cons_of_mem _ ?_ | refine List.mem_append_right _ ?_)); done) | simp))
    · exact (H.off p hp).2.1
  intro h' o1' F1 N2 d1'
  rw [Int.zero_add] at d1'
  obtain ⟨v1, e1, la1, a1, b1, c1, n1, rfl, hm1, A1, B1, C1⟩ := H.leads i (by omega)
  obtain ⟨v2, e2, la2, a2, b2, c2, n2, rfl, hm2, A2, B2, C2⟩ := H.leads j2 h23
  have sub : ∀ p ∈ rest, p ∈ (I, oI) :: rest := fun p hp => List.mem_cons_of_mem _ hp
  have hI9 : 99 ≠ I := off (99, tabObj ps) (by first | (with_reducible (repeat (first | exact List.mem_cons_self | assumption | exact List.mem_append_left _ (by assumption) | exact List.mem_append_left _ (List.mem_append_left _ (by assumption)) | exact List.mem_append_left _ (List.mem_append_right _ (by assumption)) | refine List.mem_cons_of_mem _ ?_ | refine List.mem_append_right _ ?_)); done) | simp)
  have hI3 : L + 1 + 1 + 1 ≠ I := off (L + 1 + 1 + 1, o3) (by first | (with_reducible (repeat (first | exact List.mem_cons_self | assumption | exact List.mem_append_left _ (by assumption) | exact List.mem_append_left _ (List.mem_append_left _ (by assumption)) | exact List.mem_append_left _ (List.mem_append_right _ (by assumption)) | refine List.mem_cons_of_mem _ ?_ | refine List.mem_append_right _ ?_)); done) | simp)
  have offB := H.off
  unfold baseOf at offB N2
  refine pair_body (fa := fa) (cd := cd) (nl := nl) (n1 := n1) (n2 := n2) (rest := (I, oI) :: rest) X T BM hA hU tri ag (H.P i j2 hi h23) hi h23 H.b.1 H.b.2 H.d.1 H.d.2 H.be H.n8 d1' d2 d3 d5 F1 (fun p hp => N2 p ?_) ?_ ?_ (A1.mono sub) (B1.mono sub) (C1.mono sub) (A2.mono sub) (B2.mono sub) (C2.mono sub) ml mbh md (by rw [Int.toNat_natCast]; exact e1) (by rw [Int.toNat_natCast]; exact e2) ?_
  · simp only [List.mem_cons] at hp ⊢
    rcases hp with z | z | z | z | z | z | z | z | z | z | z
    all_goals first | (simp [z]; done) | (subst z; simp [hm1, hm2]; done)
  · intro p hp
    have hp' : p = (L + 1 + 1 + 1, o3) ∨ p = (L + 1 + 1 + 1 + 1 + 1, o1') ∨ p = (L + 1 + 1 + 1 + 1, o2) ∨ p = (I, oI) ∨ p ∈ (L + 1, o5) :: (Db, LCg.lst bvs) :: (Dl, W.listOf lvs.toArray nl) :: rest := by
      simp only [List.mem_cons] at hp ⊢
      rcases hp with z | z | z | z | z | z | z | z | z | z
      all_goals first | (simp [z]; done) | (subst z; simp [hm1, hm2]; done)
    rcases hp' with rfl | rfl | rfl | rfl | z
    · exact Ne.symm (ne1 2)
    · exact Ne.symm (ne1 4)
    · exact Ne.symm (ne1 3)
    · exact Ne.symm hI9
    · exact (offB p z).1
  · intro p hp
    have hp' : p = (99, tabObj ps) ∨ p = (L + 1 + 1 + 1 + 1 + 1, o1') ∨ p = (L + 1 + 1 + 1 + 1, o2) ∨ p = (I, oI) ∨ p ∈ (L + 1, o5) :: (Db, LCg.lst bvs) :: (Dl, W.listOf lvs.toArray nl) :: rest := by
      simp only [List.mem_cons] at hp ⊢
      rcases hp with z | z | z | z | z | z | z | z | z | z
      all_goals first | (simp [z]; done) | (subst z; simp [hm1, hm2]; done)
    rcases hp' with rfl | rfl | rfl | rfl | z
    · exact ne1 2
    · exact neN (by show ¬ @Eq Nat (L + 1 + 1 + 1 + 1 + 1) (L + 1 + 1 + 1); omega)
    · exact neN (by show ¬ @Eq Nat (L + 1 + 1 + 1 + 1) (L + 1 + 1 + 1); omega)
    · exact Ne.symm hI3
    · exact (offB p z).2.2.2
  · intro h9 g9 tk9 ps9 m9 o39 F9 ml9 mb9 md9 ho39 N9 tri9 ag9
    refine TurnX.intro F9 N9 (news' := (99, tabObj ps9) :: (L + 1 + 1 + 1, o39) :: (L + 1 + 1 + 1 + 1 + 1, o1') :: (L + 1 + 1 + 1 + 1, o2) :: baseOf L Db Dl o5 bvs lvs nl rest) ?_ ?_ ⟨ml9, mb9, ⟨td, md9⟩, ⟨ps9, o1', o39, rfl, tri9, ⟨_, d1'⟩, ho39⟩, ag9⟩
    · intro p hp
      unfold baseOf at hp
      first
        | (revert hp; revert p; (repeat' (first | exact sub_nil | refine sub_app ?_ ?_ | refine sub_cons (by with_reducible (repeat (first | exact List.mem_cons_self | assumption | exact List.mem_append_left _ (by assumption) | exact List.mem_append_left _ (List.mem_append_left _ (by assumption)) | exact List.mem_append_left _ (List.mem_append_right _ (by assumption)) | refine List.mem_cons_of_mem _ ?_ | refine List.mem_append_right _ ?_))) ?_ | (intro p hp; with_reducible (repeat (first | exact List.mem_cons_self | assumption | exact List.mem_append_left _ (by assumption) | exact List.mem_append_left _ (List.mem_append_left _ (by assumption)) | exact List.mem_append_left _ (List.mem_append_right _ (by assumption)) | refine List.mem_cons_of_mem _ ?_ | refine List.mem_append_right _ ?_)); done))); done)
        | (simp only [List.mem_cons] at hp ⊢; rcases hp with z | z | z | z | z | z | z | z | z <;> simp [z])
    · intro p hp
      simp only [List.mem_cons] at hp
      rcases hp with rfl | rfl | rfl | rfl | hp
      · exact hI9
      · exact hI3
      · exact off (L + 1 + 1 + 1 + 1 + 1, o1) (by first | (with_reducible (repeat (first | exact List.mem_cons_self | assumption | exact List.mem_append_left _ (by assumption) | exact List.mem_append_left _ (List.mem_append_left _ (by assumption)) | exact List.mem_append_left _ (List.mem_append_right _ (by assumption)) | refine List.mem_cons_of_mem _ ?_ | refine List.mem_append_right _ ?_)); done) | simp)
      · exact off (L + 1 + 1 + 1 + 1, o2) (by first | (with_reducible (repeat (first | exact List.mem_cons_self | assumption | exact List.mem_append_left _ (by assumption) | exact List.mem_append_left _ (List.mem_append_left _ (by assumption)) | exact List.mem_append_left _ (List.mem_append_right _ (by assumption)) | refine List.mem_cons_of_mem _ ?_ | refine List.mem_append_right _ ?_)); done) | simp)
      · exact off p (by first | (with_reducible (repeat (first | exact List.mem_cons_self | assumption | exact List.mem_append_left _ (by assumption) | exact List.mem_append_left _ (List.mem_append_left _ (by assumption)) | exact List.mem_append_left _ (List.mem_append_right _ (by assumption)) | refine List.mem_cons_of_mem _ ?_ | refine List.mem_append_right _ ?_)); done) | simp [hp])
theorem later_turn {w : World} {dp un : Nat} {fr : Option (List Env)} {gd : Option (List Code)} {s : Shared} {h₀ : Heap} {L fa : Addr} {cd : Value} {mg mb : Str → Option Value} {Q : Flow → Shared → Prop} {bm : Addr} {ob : Obj} {ps₀ : Array Value}
    {Dl Db : Addr} {nl : Nat} {lvs bvs : List Value} {rest : List (Addr × Obj)} {o5 : Obj} {bare dots : Int} {beh : List Int} {ld : Nat → Ld}
    (X : (hd.heap_39 w.params).In h₀) (T : TopRead hd.view_39 LO mg mb h₀) (BM : BMod h₀ mainGlobals mg bm ob) (hA : dp < 350) (hU : un < 4000)
    (H : PairPre L Db Dl o5 bvs lvs nl rest bare dots beh ld)
    {i : Nat} {tv : Tok} {m₁ : Str → Option Value} {news₁ : List (Addr × Obj)} {I : Addr} {oI : Obj} {h : Heap} {g : Array GenState} {tk : Nat} (hi : i < 2)
    (J : PairJ L Dl Db dots ps₀ (baseOf L Db Dl o5 bvs lvs nl rest) i m₁ news₁ g) (off : ∀ p ∈ news₁, p.1 ≠ I) (F : Fr h₀ L h m₁) (N : News h₀ L h ((I, oI) :: news₁)) :
    wpAny (model PySem.Challenge.rw_pe0145_01.row.prog w) ⟨none, dp, fr, gd, un⟩ (storeName (envOfC (Str.ofString "law") lawScope L fa cd) (Str.ofString "later") (.int (1 + (i : Int)) tv))
      (fun _ s₃ => wpAny (model PySem.Challenge.rw_pe0145_01.row.prog w) ⟨none, dp, fr, gd, un⟩ (execs laterBody (envOfC (Str.ofString "law") lawScope L fa cd))
        (TurnX h₀ L Q s I oI (PairJ L Dl Db dots ps₀ (baseOf L Db Dl o5 bvs lvs nl rest) (i + 1))) noE s₃) noE { s with heap := h, gens := g, toks := tk } := by
  obtain ⟨ml, mbh, ⟨td, md⟩, ⟨ps, o1, o2, o3, rfl, tri, ⟨v1, d1⟩, ⟨v2, d2⟩, ⟨v3, d3⟩⟩, ag⟩ := J
  have hL := H.hL
  have N1 : News h₀ L h ((L + 1 + 1 + 1 + 1, o2) :: (99, tabObj ps) :: (L + 1 + 1 + 1, o3) :: (L + 1 + 1 + 1 + 1 + 1, o1) :: (I, oI) :: baseOf L Db Dl o5 bvs lvs nl rest) := fun p hp => N p (by
    first
      | (revert hp; revert p; (repeat' (first | exact sub_nil | refine sub_app ?_ ?_ | refine sub_cons (by with_reducible (repeat (first | exact List.mem_cons_self | assumption | exact List.mem_append_left _ (by assumption) | exact List.mem_append_left _ (List.mem_append_left _ (by assumption)) | exact List.mem_append_left _ (List.mem_append_right _ (by assumption)) | refine List.mem_cons_of_mem _ ?_ | refine List.mem_append_right _ ?_))) ?_ | (intro p hp; with_reducible (repeat (first | exact List.mem_cons_self | assumption | exact List.mem_append_left _ (by assumption) | exact List.mem_append_left _ (List.mem_append_left _ (by assumption)) | exact List.mem_append_left _ (List.mem_append_right _ (by assumption)) | refine List.mem_cons_of_mem _ ?_ | refine List.mem_append_right _ ?_)); done))); done)
      | (simp only [List.mem_cons] at hp ⊢; rcases hp with z | z | z | z | z | z <;> simp [z]))
  have ne1 : ∀ k : Nat, @Ne Nat 99 (L + 1 + k) := fun k => by omega
  refine store_cell (c := L + 1 + 1 + 1 + 1) rfl rfl rfl F N1 ?_ d2 ?_
  · intro p hp
    simp only [List.mem_cons] at hp
    rcases hp with rfl | rfl | rfl | rfl | hp
    · exact ne1 3
    · exact neN (by show ¬ @Eq Nat (L + 1 + 1 + 1) (L + 1 + 1 + 1 + 1); omega)
    · exact neN (by show ¬ @Eq Nat (L + 1 + 1 + 1 + 1 + 1) (L + 1 + 1 + 1 + 1); omega)
    · exact Ne.symm (off (L + 1 + 1 + 1 + 1, o2) (by first | (with_reducible (repeat (first | exact List.mem_cons_self | assumption | exact List.mem_append_left _ (by assumption) | exact List.mem_append_left _ (List.mem_append_left _ (by assumption)) | exact List.mem_append_left _ (List.mem_append_right _ (by assumption)) | refine List.mem_cons_of_mem _ ?_ | refine List.mem_append_right _ ?_)); done) | simp))
    · exact (H.off p hp).2.2.1
  intro h' o2' F1 N2 d2'
  rw [show (1 : Int) + (i : Int) = ((i + 1 : Nat) : Int) by omega] at d2'
  clear N N1 F
  have offI : ∀ p ∈ (99, tabObj ps) :: (L + 1 + 1 + 1, o3) :: (L + 1 + 1 + 1 + 1 + 1, o1) :: (L + 1 + 1 + 1 + 1, o2) :: baseOf L Db Dl o5 bvs lvs nl rest, p.1 ≠ I := off
  clear off
  delta laterBody lawScope pick
  k_steps
  all_goals try k_data
  unfold Stop
  rename Fr _ _ _ _ => F8
  rename News _ _ _ _ => N8
  rename IsRange _ _ _ _ _ _ _ _ => R8
  have H' : PairPre L Db Dl o5 bvs lvs nl ((I, oI) :: rest) bare dots beh ld := ⟨H.P, H.b, H.d, H.be, H.n8, H.d5, fun p hp => by
    have hp' : p = (I, oI) ∨ p ∈ baseOf L Db Dl o5 bvs lvs nl rest := by
      unfold baseOf at hp ⊢
      first
        | (revert hp; revert p; (repeat' (first | exact sub_nil | refine sub_app ?_ ?_ | refine sub_cons (by with_reducible (repeat (first | exact List.mem_cons_self | assumption | exact List.mem_append_left _ (by assumption) | exact List.mem_append_left _ (List.mem_append_left _ (by assumption)) | exact List.mem_append_left _ (List.mem_append_right _ (by assumption)) | refine List.mem_cons_of_mem _ ?_ | refine List.mem_append_right _ ?_))) ?_ | (intro p hp; with_reducible (repeat (first | exact List.mem_cons_self | assumption | exact List.mem_append_left _ (by assumption) | exact List.mem_append_left _ (List.mem_append_left _ (by assumption)) | exact List.mem_append_left _ (List.mem_append_right _ (by assumption)) | refine List.mem_cons_of_mem _ ?_ | refine List.mem_append_right _ ?_)); done))); done)
        | (simp only [List.mem_cons] at hp ⊢; rcases hp with z | z | z | z | z <;> simp [z])
    rcases hp' with rfl | z
    · exact ⟨Ne.symm (offI (99, tabObj ps) (by first | (with_reducible (repeat (first | exact List.mem_cons_self | assumption | exact List.mem_append_left _ (by assumption) | exact List.mem_append_left _ (List.mem_append_left _ (by assumption)) | exact List.mem_append_left _ (List.mem_append_right _ (by assumption)) | refine List.mem_cons_of_mem _ ?_ | refine List.mem_append_right _ ?_)); done) | simp)), Ne.symm (offI (L + 1 + 1 + 1 + 1 + 1, o1) (by first | (with_reducible (repeat (first | exact List.mem_cons_self | assumption | exact List.mem_append_left _ (by assumption) | exact List.mem_append_left _ (List.mem_append_left _ (by assumption)) | exact List.mem_append_left _ (List.mem_append_right _ (by assumption)) | refine List.mem_cons_of_mem _ ?_ | refine List.mem_append_right _ ?_)); done) | simp)), Ne.symm (offI (L + 1 + 1 + 1 + 1, o2) (by first | (with_reducible (repeat (first | exact List.mem_cons_self | assumption | exact List.mem_append_left _ (by assumption) | exact List.mem_append_left _ (List.mem_append_left _ (by assumption)) | exact List.mem_append_left _ (List.mem_append_right _ (by assumption)) | refine List.mem_cons_of_mem _ ?_ | refine List.mem_append_right _ ?_)); done) | simp)), Ne.symm (offI (L + 1 + 1 + 1, o3) (by first | (with_reducible (repeat (first | exact List.mem_cons_self | assumption | exact List.mem_append_left _ (by assumption) | exact List.mem_append_left _ (List.mem_append_left _ (by assumption)) | exact List.mem_append_left _ (List.mem_append_right _ (by assumption)) | refine List.mem_cons_of_mem _ ?_ | refine List.mem_append_right _ ?_)); done) | simp))⟩
    · exact H.off p z, H.hL, fun j hj => let ⟨v, e, l⟩ := H.leads j hj; ⟨v, e, l.mono fun p hp => List.mem_cons_of_mem _ hp⟩⟩
  refine iterRange (n := i + 1) (h₀ := h₀) (m := m₁) (news := (99, tabObj ps) :: (L + 1 + 1 + 1, o3) :: (L + 1 + 1 + 1 + 1 + 1, o1) :: (L + 1 + 1 + 1 + 1, o2') :: baseOf L Db Dl o5 bvs lvs nl ((I, oI) :: rest)) rfl R8 (small_one (by omega) (by omega) (by omega) (by omega)) (by rw [rangeSize_one]; congr 1 <;> omega) F8 (fun p hp => N8 p ?_)
    (PairK L Dl Db dots ps₀ o2' (baseOf L Db Dl o5 bvs lvs nl ((I, oI) :: rest))) ?_ ?_ ?_
  · unfold baseOf at hp ⊢
    first
      | (revert hp; revert p; (repeat' (first | exact sub_nil | refine sub_app ?_ ?_ | refine sub_cons (by with_reducible (repeat (first | exact List.mem_cons_self | assumption | exact List.mem_append_left _ (by assumption) | exact List.mem_append_left _ (List.mem_append_left _ (by assumption)) | exact List.mem_append_left _ (List.mem_append_right _ (by assumption)) | refine List.mem_cons_of_mem _ ?_ | refine List.mem_append_right _ ?_))) ?_ | (intro p hp; with_reducible (repeat (first | exact List.mem_cons_self | assumption | exact List.mem_append_left _ (by assumption) | exact List.mem_append_left _ (List.mem_append_left _ (by assumption)) | exact List.mem_append_left _ (List.mem_append_right _ (by assumption)) | refine List.mem_cons_of_mem _ ?_ | refine List.mem_append_right _ ?_)); done))); done)
      | (simp only [List.mem_cons] at hp ⊢; rcases hp with z | z | z | z | z | z | z | z | z <;> simp [z])
  · exact ⟨ml, mbh, ⟨td, md⟩, ⟨ps, o1, o3, rfl, tri, ⟨v1, d1⟩, ⟨v3, d3⟩⟩, ag⟩
  · intro i' tv' m' news' I' oI' h9 g9 tk9 hi' J' off' F' N'
    exact sooner_turn X T BM hA hU H' (by omega) d2' hi' J' off' F' N'
  · rintro m' news' h9 g9 tk9 ⟨ml', mb', md', ⟨ps', o1', o3', rfl, tri', d1', d3'⟩, ag'⟩ F' N'
    dsimp only
    k_steps
    refine TurnX.intro F' N' (news' := (99, tabObj ps') :: (L + 1 + 1 + 1, o3') :: (L + 1 + 1 + 1 + 1 + 1, o1') :: (L + 1 + 1 + 1 + 1, o2') :: baseOf L Db Dl o5 bvs lvs nl rest) ?_ ?_ ⟨ml', mb', md', ⟨ps', o1', o2', o3', rfl, tri', d1', ⟨_, d2'⟩, d3'⟩, ag'⟩
    · intro p hp
      unfold baseOf at hp ⊢
      first
        | (revert hp; revert p; (repeat' (first | exact sub_nil | refine sub_app ?_ ?_ | refine sub_cons (by with_reducible (repeat (first | exact List.mem_cons_self | assumption | exact List.mem_append_left _ (by assumption) | exact List.mem_append_left _ (List.mem_append_left _ (by assumption)) | exact List.mem_append_left _ (List.mem_append_right _ (by assumption)) | refine List.mem_cons_of_mem _ ?_ | refine List.mem_append_right _ ?_))) ?_ | (intro p hp; with_reducible (repeat (first | exact List.mem_cons_self | assumption | exact List.mem_append_left _ (by assumption) | exact List.mem_append_left _ (List.mem_append_left _ (by assumption)) | exact List.mem_append_left _ (List.mem_append_right _ (by assumption)) | refine List.mem_cons_of_mem _ ?_ | refine List.mem_append_right _ ?_)); done))); done)
        | (simp only [List.mem_cons] at hp ⊢; rcases hp with z | z | z | z | z | z | z | z | z <;> simp [z])
    · intro p hp
      simp only [List.mem_cons] at hp
      rcases hp with rfl | rfl | rfl | rfl | hp
      · exact offI (99, tabObj ps) (by first | (with_reducible (repeat (first | exact List.mem_cons_self | assumption | exact List.mem_append_left _ (by assumption) | exact List.mem_append_left _ (List.mem_append_left _ (by assumption)) | exact List.mem_append_left _ (List.mem_append_right _ (by assumption)) | refine List.mem_cons_of_mem _ ?_ | refine List.mem_append_right _ ?_)); done) | simp)
      · exact offI (L + 1 + 1 + 1, o3) (by first | (with_reducible (repeat (first | exact List.mem_cons_self | assumption | exact List.mem_append_left _ (by assumption) | exact List.mem_append_left _ (List.mem_append_left _ (by assumption)) | exact List.mem_append_left _ (List.mem_append_right _ (by assumption)) | refine List.mem_cons_of_mem _ ?_ | refine List.mem_append_right _ ?_)); done) | simp)
      · exact offI (L + 1 + 1 + 1 + 1 + 1, o1) (by first | (with_reducible (repeat (first | exact List.mem_cons_self | assumption | exact List.mem_append_left _ (by assumption) | exact List.mem_append_left _ (List.mem_append_left _ (by assumption)) | exact List.mem_append_left _ (List.mem_append_right _ (by assumption)) | refine List.mem_cons_of_mem _ ?_ | refine List.mem_append_right _ ?_)); done) | simp)
      · exact offI (L + 1 + 1 + 1 + 1, o2) (by first | (with_reducible (repeat (first | exact List.mem_cons_self | assumption | exact List.mem_append_left _ (by assumption) | exact List.mem_append_left _ (List.mem_append_left _ (by assumption)) | exact List.mem_append_left _ (List.mem_append_right _ (by assumption)) | refine List.mem_cons_of_mem _ ?_ | refine List.mem_append_right _ ?_)); done) | simp)
      · exact offI p (by first | (with_reducible (repeat (first | exact List.mem_cons_self | assumption | exact List.mem_append_left _ (by assumption) | exact List.mem_append_left _ (List.mem_append_left _ (by assumption)) | exact List.mem_append_left _ (List.mem_append_right _ (by assumption)) | refine List.mem_cons_of_mem _ ?_ | refine List.mem_append_right _ ?_)); done) | simp [hp])
theorem lawP_walk {w : World} {dp un : Nat} {fr : Option (List Env)} {gd : Option (List Code)} {s : Shared} {h₀ : Heap} {L fa : Addr} {cd : Value} {m mg mb : Str → Option Value} {Q : Flow → Shared → Prop} {bm : Addr} {ob : Obj} {ps₀ : Array Value}
    {Dl Db : Addr} {nl : Nat} {lvs bvs : List Value} {rest : List (Addr × Obj)} {o1 o2 o3 o5 : Obj} {v1 v2 v3 : Option Value} {bare dots : Int} {beh : List Int} {ld : Nat → Ld} {td : Tok}
    (X : (hd.heap_39 w.params).In h₀) (T : TopRead hd.view_39 LO mg mb h₀) (BM : BMod h₀ mainGlobals mg bm ob) (hA : dp < 350) (hU : un < 4000)
    (H : PairPre L Db Dl o5 bvs lvs nl rest bare dots beh ld) (d1 : o1.data = .cell v1) (d2 : o2.data = .cell v2) (d3 : o3.data = .cell v3) (tri : TabIn ps₀ ps₀) (ag : AllBare s.gens)
    (ml : m (Str.ofString "leads") = some (.ref Dl)) (mbh : m (Str.ofString "behind") = some (.ref Db)) (md : m (Str.ofString "dots") = some (.int dots td))
    (F : Fr h₀ L s.heap m) (N : News h₀ L s.heap ((99, tabObj ps₀) :: (L + 1 + 1 + 1, o3) :: (L + 1 + 1 + 1 + 1 + 1, o1) :: (L + 1 + 1 + 1 + 1, o2) :: baseOf L Db Dl o5 bvs lvs nl rest))
    (h : ∀ h' g' tk' m' more, Fr h₀ L h' m' → h'.get? 99 = some (tabObj (ps₀ ++ more)) → TriplesOk (ps₀ ++ more).toList → AllBare g' → ∀ t', t' = tk' → Q (.ret (.bool true)) { s with heap := h', gens := g', toks := t' }) :
    wpAny (model PySem.Challenge.rw_pe0145_01.row.prog w) ⟨none, dp, fr, gd, un⟩ (execs lawP (envOfC (Str.ofString "law") lawScope L fa cd)) Q noE s := by
  delta lawP lawScope pick
  k_steps
  all_goals try k_data
  unfold Stop
  rename Fr _ _ _ _ => F8
  rename News _ _ _ _ => N8
  rename IsRange _ _ _ _ _ _ _ _ => R8
  refine iterRange (n := 2) (h₀ := h₀) (m := m) rfl R8 (by decide) (by decide) F8 N8 (PairJ L Dl Db dots ps₀ (baseOf L Db Dl o5 bvs lvs nl rest)) ?_ ?_ ?_
  · exact ⟨ml, mbh, ⟨td, md⟩, ⟨ps₀, o1, o2, o3, rfl, tri, ⟨v1, d1⟩, ⟨v2, d2⟩, ⟨v3, d3⟩⟩, ag⟩
  · intro i tv m₁ news₁ I oI h g tk hi J off F N
    exact later_turn X T BM hA hU H hi J off F N
  · rintro m' news' h9 g9 tk9 ⟨ml', mb', md', ⟨ps', o1', o2', o3', rfl, ⟨tri', more, rfl⟩, d1', d2', d3'⟩, ag'⟩ F' N'
    dsimp only
    k_steps
    exact h _ _ _ _ more F' (N' _ List.mem_cons_self).1 tri' ag' _ rfl
end
section
open PySem PySem.W PyProof.Rows
example : True := by
  k_with_none
  k_with "getAttr ref" => (k_dflt (refine' get_own (by assumption) (by assumption) (by exact (WsAt.keeps (by assumption) (Fr.keep (by assumption))).at) (by k_is) (by k_is) (by k_is) (by k_is) (by first | exact WsAt.norm (by assumption) | exact WsAt.n (by assumption) | exact WsAt.nt (by assumption) | exact WsAt.simple (by assumption)) (by rfl) ?_))
  k_with "exec For Name Call cons nil" => k_dflt (refine wpAny_For ?_)
  k_with "exec For Name Name cons nil" => k_dflt (refine wpAny_For ?_)
  k_with "exec For Name Attribute cons nil" => k_dflt (refine wpAny_For ?_)
  k_with "eval Name" => (k_dflt (refine' PyProof.Rows.ld (by assumption) (by first | exact rfl | assumption) ?_))
  k_with "execs cons Assign cons" => (k_dflt (refine wpAny_execs_cons ?_))
  k_with "execs cons Assign nil" => (k_dflt (refine wpAny_execs_cons ?_))
  k_with "eval ListComp" => (k_dflt (refine LCg.ListComp_U (F₀ := by assumption) (by with_unfolding_all rfl) (by decide) (by rfl) (by decide) (by rfl) ?_))
  k_with "CompSrc" => refine Stop.out ?_
  k_with "binaryOp Add str str" => (k_dflt (refine PyProof.Rows.add_str (hsz := (by first | decide | (simp only [slen_append, slen_lit]; omega) | (simp only [slen_append]; omega))) ?_); intro _ _)
  k_with "eval Name" => ((with_reducible show wpAny _ _ (eval (Expr.Name _ _) (compEnvC _ _ _ _)) _ _ _); k_dflt (first | refine comp_global (by assumption) (by assumption) (by assumption) (by k_is) ?_ | refine comp_built (by assumption) (by assumption) (by assumption) (by k_is) (by boot_by_name) (by decide) ?_))
  trivial
open Rx
example : True := by
  k_with "eval Name" => ((with_reducible show wpAny _ _ (eval (Expr.Name _ _) (compEnvC _ _ _ _)) _ _ _); k_dflt (refine' comp_free (by assumption) (by rfl) (by k_mem) (by assumption) ?_ (by rfl) (by rfl)))
  k_with "exec Assign cons ListComp" => (k_dflt (refine wpAny_Assign_Name ?_))
  k_with "call ref" => (k_dflt (refine' fix_call (by assumption) (by assumption) (by assumption) (by assumption) (by first | omega | (dsimp only; omega)) (by assumption) ?_); intro _ _ _ _ _; (try k_sweep))
  k_with "call ref" => (k_dflt (refine' col_call (by assumption) (by assumption) (by assumption) (by assumption) (by first | omega | (dsimp only; omega)) (by omega) ?_); intro _ _ _ _ _ _; (try k_sweep))
  k_with "eval Name" => ((with_reducible show wpAny _ _ (eval (Expr.Name _ _) (envOfC _ _ _ _ _)) _ _ _); k_dflt (refine' ld_cell (by assumption) (by rfl) (by rfl) (by with_reducible (repeat (first | exact List.mem_cons_self | apply List.mem_cons_of_mem))) (by with_reducible assumption) ?_))
  k_with "eval Name" => ((with_reducible show wpAny _ _ (eval (Expr.Name _ _) (compEnvC _ _ _ _)) _ _ _); k_dflt (refine' comp_cell (by assumption) (by rfl) (by rfl) (by with_reducible (repeat (first | exact List.mem_cons_self | apply List.mem_cons_of_mem))) (by with_reducible assumption) ?_))
  k_with "newList" => (k_dflt (refine newList_N2 (by assumption) (by assumption) ?_); intro _ _ _ _ _ _)
  k_with "pyIter ref" => refine Stop.out ?_
  k_with "pyIter" => refine Stop.out ?_
  trivial
theorem slice_keep {prog : Program} {w : World} {A : Around} {E : Value → Shared → Prop} {s : Shared} {h₀ : Heap} {L : Addr} {m : Str → Option Value} {news : List (Addr × Obj)} {value slice : PySem.Expr} {x : Str} {t : Tok} {Q : Value → Shared → Prop} {i : Int} {ui : Tok} (hF : Fr h₀ L s.heap m) (hN : News h₀ L s.heap news)
    (h : ∀ h' t' k, Fr h₀ L h' m → News h₀ L h' news → (∀ b o, s.heap.get? b = some o → h'.get? b = some o) → Q (.str (Txt.slice x (some i) none) t') { s with heap := h', toks := k })
    (hs : subscripted slice false (.str x t) (.ref s.heap.objs.size) = operate [.ref s.heap.objs.size, .str x t] (getItem (.str x t) (.ref s.heap.objs.size)) := by with_unfolding_all rfl)
    (ht : ∀ r, letTemporaryGo value (.str x t) r = pure () := by intro _; with_unfolding_all rfl) (hsz : x.length ≤ sizeLine := by size_fits) :
    wpAny (model prog w) A (subscriptTail value slice (.str x t) (.ref s.heap.objs.size)) Q E { s with heap := s.heap.push { cls := .type "slice", data := .fields #[.int i ui, .none, .none] } } :=
  tail_of_ItemOn (SBH.sliceItem_sn (P := fun h => Fr h₀ L h m ∧ News h₀ L h news ∧ ∀ b o, s.heap.get? b = some o → h.get? b = some o) (fun _ ob x => ⟨Fr.pushS x.1 ob, x.2.1.grown fun _ _ e => Heap.get?_push_of_some _ e, fun b o e => Heap.get?_push_of_some _ (x.2.2 b o e)⟩) ⟨hF, hN, fun _ _ e => e⟩ (fun h' t' k a => h h' t' k a.1 a.2.1 a.2.2) hsz) hs ht
example : True := by
  k_with "subscriptTail Name Slice str ref" => (k_dflt ((with_reducible rename Fr _ _ _ _ => F'); (with_reducible rename News _ _ _ _ => N'); (refine slice_keep (hsz := (by show _ ≤ 16777216; omega)) (s := ⟨_, _, _, _, _⟩) F' N' ?_)); intro _ _ _ _ _ _)
  trivial
theorem lawB_walk {w : World} {dp un : Nat} {fr : Option (List Env)} {gd : Option (List Code)} {s : Shared} {h₀ : Heap} {L fa : Addr} {cd : Value} {m mg mb : Str → Option Value} {o1 o2 o3 o4 o5 : Obj} {ps : Array Value} {page still rest : Str} {tp ts tr td tb : Tok} {bare dots : Int} {v1 v2 v3 : Option Value} {Q : Flow → Shared → Prop} {bm : Addr} {ob : Obj} {ld : Nat → Ld}
    (F : Fr h₀ L s.heap m) (N : News h₀ L s.heap [(L + 1 + 1 + 1 + 1 + 1, o1), (L + 1 + 1 + 1 + 1, o2), (L + 1 + 1 + 1, o3), (L + 1 + 1, o4), (L + 1, o5), (99, tabObj ps)])
    (X : (hd.heap_39 w.params).In h₀) (T : TopRead hd.view_39 LO mg mb h₀) (BM : BMod h₀ mainGlobals mg bm ob) (hA : dp < 350) (hU : un < 4000) (hL : @LT.lt Nat _ 99 L)
    (P : LawPre page still rest bare dots ld) (PP : ∀ j1 j2, j1 < j2 → j2 < 3 → PairOk bare dots (behindOf rest) j1 j2 (ld j1) (ld j2)) (tri : TriplesOk ps.toList) (ag : AllBare s.gens)
    (mp : m (Str.ofString "page") = some (.str page tp)) (mst : m (Str.ofString "still") = some (.str still ts)) (md : m (Str.ofString "dots") = some (.int dots td))
    (d1 : o1.data = .cell v1) (d2 : o2.data = .cell v2) (d3 : o3.data = .cell v3) (d4 : o4.data = .cell (some (.str rest tr))) (d5 : o5.data = .cell (some (.int bare tb)))
    (h : ∀ h' g' tk' m' more, Fr h₀ L h' m' → h'.get? 99 = some (tabObj (ps ++ more)) → TriplesOk (ps ++ more).toList → AllBare g' → Q (.ret (.bool true)) { s with heap := h', gens := g', toks := tk' }) :
    wpAny (model PySem.Challenge.rw_pe0145_01.row.prog w) ⟨none, dp, fr, gd, un⟩ (execs lawB (envOfC (Str.ofString "law") lawScope L fa cd)) Q noE s := by
  have hpg := P.pg
  have hrs : rest.length ≤ 1000 := Nat.le_trans P.rs (by omega)
  delta lawB lawScope pick
  k_steps
  all_goals try k_data
  unfold Stop
  rename Fr _ _ _ _ => F8
  rename News _ _ _ _ => N8
  rename IsRange _ _ _ _ _ _ _ _ => R8
  refine LCg.CompSrc.range (n := 8) rfl F8 N8 R8 (by decide) (by decide) (by decide) ?_
  intro g
  refine comp_rest (R := fun i ys nl => nl = [] ∧ IntsAre ys ((List.range i).map fun (k : Nat) => (1 + (k : Int)) + colOf (1 + (k : Int)) (Txt.slice rest (some 1) none).cps.toList)) (fun _ => trivial) ⟨rfl, .nil⟩ ?_ ?_
  · rintro i v ys nl I oI C oC D m₂ h₂ tk hi ⟨tv, rfl⟩ ⟨rfl, hR⟩ hC hx F₂ N₂
    clear N8 F8 h
    show wpAny _ _ _ _ _ _
    k_steps
    rename_i hk1 _ _ _ hk2 _ _
    refine ⟨_, _, [], rfl, fun b o e => hk2 b o (hk1 b o e), (fun _ hp => nomatch hp), rfl, ?_⟩
    rw [List.range_succ, List.map_append]
    exact ints_snoc hR _ _
  · rintro ys nl ⟨rfl, hR⟩
    intro Db h₂ tk F₂ N₂ off
    clear N8 F8
    rw [List.nil_append] at N₂ off
    dsimp only
    k_steps
    unfold Stop
    rename_i Dl _ _ offl _ F7 N7 _ tk8 _ _ _ R8 F8 N8 _
    have offb := off1_mem off
    have hbe : IntsAre ys (behindOf rest) := hR
    refine iterRange (n := 3) (h₀ := h₀) rfl R8 (by decide) (by decide) F8 N8 (SentJ L page still rest bare dots ld Dl Db ys o1 o2 o3 o4 o5 ps s.gens) ?_ ?_ ?_
    · refine ⟨⟨_, mp⟩, fun _ => ⟨_, by rw [← P.fix]; rfl⟩, ⟨_, mst⟩, ⟨_, md⟩, rfl, rfl, ⟨[], 0, [], rfl, rfl, (fun j v hj => nomatch hj), (fun _ hp => nomatch hp), (fun _ hp => nomatch hp), ?_, ?_, ?_, ?_, ?_, ?_, ?_⟩, rfl⟩
      · exact Ne.symm (offl (Db, LCg.lst ys) (by first | (with_reducible (repeat (first | exact List.mem_cons_self | assumption | exact List.mem_append_left _ (by assumption) | exact List.mem_append_left _ (List.mem_append_left _ (by assumption)) | exact List.mem_append_left _ (List.mem_append_right _ (by assumption)) | refine List.mem_cons_of_mem _ ?_ | refine List.mem_append_right _ ?_)); done) | simp))
      · exact Ne.symm (offl (_, o1) (by first | (with_reducible (repeat (first | exact List.mem_cons_self | assumption | exact List.mem_append_left _ (by assumption) | exact List.mem_append_left _ (List.mem_append_left _ (by assumption)) | exact List.mem_append_left _ (List.mem_append_right _ (by assumption)) | refine List.mem_cons_of_mem _ ?_ | refine List.mem_append_right _ ?_)); done) | simp))
      · exact Ne.symm (offl (_, o2) (by first | (with_reducible (repeat (first | exact List.mem_cons_self | assumption | exact List.mem_append_left _ (by assumption) | exact List.mem_append_left _ (List.mem_append_left _ (by assumption)) | exact List.mem_append_left _ (List.mem_append_right _ (by assumption)) | refine List.mem_cons_of_mem _ ?_ | refine List.mem_append_right _ ?_)); done) | simp))
      · exact Ne.symm (offl (_, o3) (by first | (with_reducible (repeat (first | exact List.mem_cons_self | assumption | exact List.mem_append_left _ (by assumption) | exact List.mem_append_left _ (List.mem_append_left _ (by assumption)) | exact List.mem_append_left _ (List.mem_append_right _ (by assumption)) | refine List.mem_cons_of_mem _ ?_ | refine List.mem_append_right _ ?_)); done) | simp))
      · exact Ne.symm (offl (_, o4) (by first | (with_reducible (repeat (first | exact List.mem_cons_self | assumption | exact List.mem_append_left _ (by assumption) | exact List.mem_append_left _ (List.mem_append_left _ (by assumption)) | exact List.mem_append_left _ (List.mem_append_right _ (by assumption)) | refine List.mem_cons_of_mem _ ?_ | refine List.mem_append_right _ ?_)); done) | simp))
      · exact Ne.symm (offl (_, o5) (by first | (with_reducible (repeat (first | exact List.mem_cons_self | assumption | exact List.mem_append_left _ (by assumption) | exact List.mem_append_left _ (List.mem_append_left _ (by assumption)) | exact List.mem_append_left _ (List.mem_append_right _ (by assumption)) | refine List.mem_cons_of_mem _ ?_ | refine List.mem_append_right _ ?_)); done) | simp))
      · exact Ne.symm (offl (99, tabObj ps) (by first | (with_reducible (repeat (first | exact List.mem_cons_self | assumption | exact List.mem_append_left _ (by assumption) | exact List.mem_append_left _ (List.mem_append_left _ (by assumption)) | exact List.mem_append_left _ (List.mem_append_right _ (by assumption)) | refine List.mem_cons_of_mem _ ?_ | refine List.mem_append_right _ ?_)); done) | simp))
    · intro i tv m₁ news₁ I oI h9 g9 tk9 hi J off9 F9 N9
      exact sent_turn (s := { s with heap := _, toks := _ }) hrep_all X T hA hU d4 d5 P hi J off9 F9 N9
    · rintro m₁ news₁ h9 g9 tk9 ⟨mp', _, _, ⟨td', md'⟩, mbh', ml', ⟨vs, n, old, rfl, hvl, hlead, offD, offC, hg1, hg2, hg3, hg4, hg5, hg6, hg7⟩, rfl⟩ F9 N9
      dsimp only
      obtain ⟨e1, e2, e3⟩ : vs.length = 3 ∧ (behindOf rest).length = 8 ∧ True := ⟨hvl, by unfold behindOf; rw [List.length_map, List.length_range], trivial⟩
      have offb' : ∀ p ∈ [(L + 1 + 1 + 1 + 1 + 1, o1), (L + 1 + 1 + 1 + 1, o2), (L + 1 + 1 + 1, o3), (L + 1 + 1, o4), (L + 1, o5), (99, tabObj ps)], p.1 ≠ Db := offb
      have ne1 : ∀ k : Nat, @Ne Nat 99 (L + 1 + k) := fun k => by omega
      refine lawP_walk (fa := fa) (cd := cd) (Dl := Dl) (Db := Db) (nl := n) (lvs := vs) (bvs := ys) (rest := old) (o1 := o1) (o2 := o2) (o3 := o3) (o5 := o5) (bare := bare) (dots := dots) (beh := behindOf rest) (ld := ld) X T BM hA hU ⟨PP, P.b, P.d, hbe, e2, ⟨tb, d5⟩, ?_, hL, ?_⟩ d1 d2 d3 ⟨tri, #[], by simp⟩ ag ml' mbh' md' F9 (fun p hp => N9 p ?_) ?_
      · intro p hp
        unfold baseOf at hp
        simp only [List.mem_cons] at hp
        rcases hp with rfl | rfl | rfl | hp
        · exact ⟨Ne.symm (ne1 0), neN (by show ¬ @Eq Nat (L + 1) (L + 1 + 1 + 1 + 1 + 1); omega), neN (by show ¬ @Eq Nat (L + 1) (L + 1 + 1 + 1 + 1); omega), neN (by show ¬ @Eq Nat (L + 1) (L + 1 + 1 + 1); omega)⟩
        · exact ⟨Ne.symm (offb' (99, tabObj ps) (by first | (with_reducible (repeat (first | exact List.mem_cons_self | assumption | exact List.mem_append_left _ (by assumption) | exact List.mem_append_left _ (List.mem_append_left _ (by assumption)) | exact List.mem_append_left _ (List.mem_append_right _ (by assumption)) | refine List.mem_cons_of_mem _ ?_ | refine List.mem_append_right _ ?_)); done) | simp)), Ne.symm (offb' (_, o1) (by first | (with_reducible (repeat (first | exact List.mem_cons_self | assumption | exact List.mem_append_left _ (by assumption) | exact List.mem_append_left _ (List.mem_append_left _ (by assumption)) | exact List.mem_append_left _ (List.mem_append_right _ (by assumption)) | refine List.mem_cons_of_mem _ ?_ | refine List.mem_append_right _ ?_)); done) | simp)), Ne.symm (offb' (_, o2) (by first | (with_reducible (repeat (first | exact List.mem_cons_self | assumption | exact List.mem_append_left _ (by assumption) | exact List.mem_append_left _ (List.mem_append_left _ (by assumption)) | exact List.mem_append_left _ (List.mem_append_right _ (by assumption)) | refine List.mem_cons_of_mem _ ?_ | refine List.mem_append_right _ ?_)); done) | simp)), Ne.symm (offb' (_, o3) (by first | (with_reducible (repeat (first | exact List.mem_cons_self | assumption | exact List.mem_append_left _ (by assumption) | exact List.mem_append_left _ (List.mem_append_left _ (by assumption)) | exact List.mem_append_left _ (List.mem_append_right _ (by assumption)) | refine List.mem_cons_of_mem _ ?_ | refine List.mem_append_right _ ?_)); done) | simp))⟩
        · exact ⟨hg7, hg2, hg3, hg4⟩
        · obtain ⟨_, z1, z2, z3, z4, _⟩ := offC p hp
          exact ⟨z1, z2, z3, z4⟩
      · intro j hj
        have hjl : j < vs.length := by omega
        exact ⟨vs[j], List.getElem?_eq_getElem hjl, hlead j _ (List.getElem?_eq_getElem hjl)⟩
      · unfold baseOf at hp
        first
          | (revert hp; revert p; (repeat' (first | exact sub_nil | refine sub_app ?_ ?_ | refine sub_cons (by with_reducible (repeat (first | exact List.mem_cons_self | assumption | exact List.mem_append_left _ (by assumption) | exact List.mem_append_left _ (List.mem_append_left _ (by assumption)) | exact List.mem_append_left _ (List.mem_append_right _ (by assumption)) | refine List.mem_cons_of_mem _ ?_ | refine List.mem_append_right _ ?_))) ?_ | (intro p hp; with_reducible (repeat (first | exact List.mem_cons_self | assumption | exact List.mem_append_left _ (by assumption) | exact List.mem_append_left _ (List.mem_append_left _ (by assumption)) | exact List.mem_append_left _ (List.mem_append_right _ (by assumption)) | refine List.mem_cons_of_mem _ ?_ | refine List.mem_append_right _ ?_)); done))); done)
          | (simp only [List.mem_cons] at hp ⊢; rcases hp with z | z | z | z | z | z | z | z <;> simp [z])
      · intro h' g' tk' m' more F' hg' tri' ag' t' ht'
        exact h h' g' t' m' more F' hg' tri' ag'
end
section
open PySem PySem.W PyProof.Rows
example : True := by
  k_with_none
  k_with "getAttr ref" => (k_dflt (refine' get_own (by assumption) (by assumption) (by exact (WsAt.keeps (by assumption) (Fr.keep (by assumption))).at) (by k_is) (by k_is) (by k_is) (by k_is) (by first | exact WsAt.norm (by assumption) | exact WsAt.n (by assumption) | exact WsAt.nt (by assumption) | exact WsAt.simple (by assumption)) (by rfl) ?_))
  k_with "exec For Name Call cons nil" => k_dflt (refine wpAny_For ?_)
  k_with "exec For Name Name cons nil" => k_dflt (refine wpAny_For ?_)
  k_with "exec For Name Attribute cons nil" => k_dflt (refine wpAny_For ?_)
  k_with "eval Name" => (k_dflt (refine' PyProof.Rows.ld (by assumption) (by first | exact rfl | assumption) ?_))
  k_with "execs cons Assign cons" => (k_dflt (refine wpAny_execs_cons ?_))
  k_with "execs cons Assign nil" => (k_dflt (refine wpAny_execs_cons ?_))
  k_with "eval ListComp" => (k_dflt (refine LCg.ListComp_U (F₀ := by assumption) (by with_unfolding_all rfl) (by decide) (by rfl) (by decide) (by rfl) ?_))
  k_with "CompSrc" => refine Stop.out ?_
  k_with "binaryOp Add str str" => (k_dflt (refine PyProof.Rows.add_str (hsz := (by first | decide | (simp only [slen_append, slen_lit]; omega) | (simp only [slen_append]; omega))) ?_); intro _ _)
  k_with "eval Name" => ((with_reducible show wpAny _ _ (eval (Expr.Name _ _) (compEnvC _ _ _ _)) _ _ _); k_dflt (first | refine comp_global (by assumption) (by assumption) (by assumption) (by k_is) ?_ | refine comp_built (by assumption) (by assumption) (by assumption) (by k_is) (by boot_by_name) (by decide) ?_))
  trivial
open Rx
example : True := by
  k_with "eval Name" => ((with_reducible show wpAny _ _ (eval (Expr.Name _ _) (compEnvC _ _ _ _)) _ _ _); k_dflt (refine' comp_free (by assumption) (by rfl) (by k_mem) (by assumption) ?_ (by rfl) (by rfl)))
  k_with "exec Assign cons ListComp" => (k_dflt (refine wpAny_Assign_Name ?_))
  k_with "call ref" => (k_dflt (refine' fix_call (by assumption) (by assumption) (by assumption) (by assumption) (by first | omega | (dsimp only; omega)) (by assumption) ?_); intro _ _ _ _ _; (try k_sweep))
  k_with "call ref" => (k_dflt (refine' col_call (by assumption) (by assumption) (by assumption) (by assumption) (by first | omega | (dsimp only; omega)) (by omega) ?_); intro _ _ _ _ _ _; (try k_sweep))
  k_with "eval Name" => ((with_reducible show wpAny _ _ (eval (Expr.Name _ _) (envOfC _ _ _ _ _)) _ _ _); k_dflt (refine' ld_cell (by assumption) (by rfl) (by rfl) (by with_reducible (repeat (first | exact List.mem_cons_self | apply List.mem_cons_of_mem))) (by with_reducible assumption) ?_))
  k_with "eval Name" => ((with_reducible show wpAny _ _ (eval (Expr.Name _ _) (compEnvC _ _ _ _)) _ _ _); k_dflt (refine' comp_cell (by assumption) (by rfl) (by rfl) (by with_reducible (repeat (first | exact List.mem_cons_self | apply List.mem_cons_of_mem))) (by with_reducible assumption) ?_))
  trivial
theorem dot_len (k : Int) : (Txt.mul (Str.ofString ".") k).length = k.toNat := by
  show (Txt.mul (Str.ofString ".") k).cps.size = _
  rcases Int.lt_or_le k 0 with h | h
  · have e : k.toNat = 0 := by omega
    rw [dot_lit]
    have := mul_one_list 46 k
    have z := congrArg List.length this
    simp at z
    omega
  · obtain ⟨n, rfl⟩ := Int.eq_ofNat_of_zero_le h
    have := congrArg List.length (mul_dot n)
    simp at this
    rw [this]; rfl
theorem dl3 (x : Int) : (Txt.mul (Str.ofString ".") (x.fmod 3)).length = (x % 3).toNat := by rw [dot_len, fm3]
theorem dl13 (x : Int) : (Txt.mul (Str.ofString ".") (1 + x.fmod 3)).length = (1 + x % 3).toNat := by rw [dot_len, fm3]
theorem dl15 (x : Int) : (Txt.mul (Str.ofString ".") (1 + x.fmod 5)).length = (1 + x % 5).toNat := by rw [dot_len, fm5]
example : True := by
  k_with "binaryOp Add str str" => (k_dflt (refine PyProof.Rows.add_str (hsz := (by first | decide | (simp only [slen_append, slen_lit, dl3, dl13, dl15]; omega))) ?_); intro _ _)
  trivial
theorem newList_N3 {M : Model} {A : Around} {E : Value → Shared → Prop} {s : Shared} {h₀ : Heap} {L : Addr} {m : Str → Option Value} {news : List (Addr × Obj)} {vs : List Value} {Q : Value → Shared → Prop} (F : Fr h₀ L s.heap m) (N : News h₀ L s.heap news)
    (h : ∀ D o h', o = W.listOf vs.toArray 0 → Fr h₀ L h' m → News h₀ L h' ((D, o) :: news) → (∀ p ∈ news, p.1 ≠ D) → Q (.ref D) { s with heap := h' }) (hsz : vs.length ≤ sizeLine := by size_fits) :
    wpAny M A (newList vs) Q E s := newList_NK F N (fun h' F' N' hk => h _ _ h' rfl F' N' fun p hp => Nat.ne_of_lt (Heap.lt_size (N p hp).1)) hsz
theorem item_ends {prog : Program} {w : World} {A : Around} {E : Value → Shared → Prop} {s : Shared} {h₀ : Heap} {L De : Addr} {news : List (Addr × Obj)} {value slice : PySem.Expr} {oE : Obj} {t0 t1 t2 : Tok} {n : Nat} {k : Int} {u : Tok} {Q : Value → Shared → Prop}
    (N : News h₀ L s.heap news) (hm : (De, oE) ∈ news) (e : oE = W.listOf [Value.str (Str.ofString "\r\n") t0, Value.str (Str.ofString "\n") t1, Value.str (Str.ofString "\r") t2].toArray n) (h0 : 0 ≤ k) (h3 : k < 3) (h' : ∀ t, (endOf k).length ≤ 2 → Q (.str (endOf k) t) s)
    (hs : subscripted slice false (.ref De) (.int k u) = operate [.ref De, .int k u] (getItem (.ref De) (.int k u)) := by with_unfolding_all rfl) :
    wpAny (model prog w) A (subscriptTail value slice (.ref De) (.int k u)) Q E s := by
  have hl : s.heap.IsList De [Value.str (Str.ofString "\r\n") t0, Value.str (Str.ofString "\n") t1, Value.str (Str.ofString "\r") t2].toArray := ⟨oE, N.get hm, by rw [e], n, by rw [e]⟩
  have h : ∀ t, Q (.str (endOf k) t) s := fun t => h' t (end_len k)
  have hk : k = 0 ∨ k = 1 ∨ k = 2 := by omega
  rcases hk with rfl | rfl | rfl
  · exact item_at hl h0 (by decide) rfl (h t0) hs
  · exact item_at hl h0 (by decide) rfl (h t1) hs
  · exact item_at hl h0 (by decide) rfl (h t2) hs
theorem elem_len (ns : List Int) : ((ns.map elemS).map (·.length)).sum ≤ 3 * ns.length := by
  induction ns with
  | nil => simp
  | cons n r ih =>
    have : (elemS n).length ≤ 3 := by
      unfold elemS
      simp only [slen_append, slen_lit, dot_len, fm3]
      omega
    simp only [List.map_cons, List.sum_cons, List.length_cons] at ih ⊢
    omega
theorem ints_at {vs : List Value} {ns : List Int} (h : IntsAre vs ns) {i : Nat} {v : Value} (e : vs.toArray[i]? = some v) : ∃ n t, ns[i]? = some n ∧ v = .int n t := by
  have hl := h.length
  have hi : i < vs.length := by
    have := (Array.getElem?_eq_some_iff.mp e).1
    simpa using this
  obtain ⟨t, ht⟩ := h.get i _ (List.getElem?_eq_getElem (by omega : i < ns.length))
  have e' : vs[i]? = some v := by simpa using e
  rw [ht] at e'
  exact ⟨_, t, List.getElem?_eq_getElem (by omega : i < ns.length), (Option.some.inj e').symm⟩
example : True := by
  k_with "binaryOp Mult str int" => (k_here; (with_reducible show wpAny _ _ (binaryOp Operator.Mult (Value.str _ _) (Value.int _ _)) _ _ _); (refine KXi.mul (by kxi_len) (by decide) (by kxi_fact) (by kxi_fact) ?_); intro _ _ _ _; clear kxiZ kxiN)
  k_with "newList" => (k_dflt (refine newList_N3 (by assumption) (by assumption) ?_); intro _ _ _ _ _ _ _)
  k_with "subscriptTail" => ((with_reducible show wpAny _ _ (subscriptTail (PySem.Expr.Name (Str.ofString "ends") _) _ (Value.ref _) (Value.int _ _)) _ _ _); k_dflt (refine' item_ends (by assumption) (by with_reducible (repeat (first | exact List.mem_cons_self | apply List.mem_cons_of_mem))) (by assumption) (by simp only [fm3]; omega) (by simp only [fm3]; omega) ?_ (by with_unfolding_all rfl)); intro _ _)
  k_with "call builtin:str.join" => refine Stop.out ?_
  k_with "storeName" => ((with_reducible show wpAny _ _ (storeName _ (Str.ofString "bare") _) _ _ _); refine Stop.out ?_)
  k_with "storeName" => ((with_reducible show wpAny _ _ (storeName _ (Str.ofString "rest") _) _ _ _); refine Stop.out ?_)
  k_with "exec Assign cons ListComp" => (k_dflt (refine LCg.Assign_ListComp_U (F₀ := by assumption) (by rfl) (by with_unfolding_all rfl) (by with_unfolding_all rfl) (by decide) (by rfl) (by decide) (by rfl) (by rfl) (by rfl) ?_))
  k_with "CompSrc" => refine Stop.out ?_
  k_with "execs cons Assign cons" => ((with_reducible show wpAny _ _ (execs (Stmt.Assign [Expr.Name (Str.ofString "mail") _] _ _ :: _) _) _ _ _); refine Stop.out ?_)
  trivial
theorem lawH_walk {w : World} {dp un : Nat} {fr : Option (List Env)} {gd : Option (List Code)} {s : Shared} {h₀ : Heap} {L fa la : Addr} {cd : Value} {m mg mb : Str → Option Value} {o1 o2 o3 o4 o5 : Obj} {ps : Array Value} {v1 v2 v3 v4 v5 : Option Value} {Q : Flow → Shared → Prop} {bm : Addr} {ob : Obj} {vs : List Value} {ns : List Int}
    (F : Fr h₀ L s.heap m) (N : News h₀ L s.heap [(L + 1 + 1 + 1 + 1 + 1, o1), (L + 1 + 1 + 1 + 1, o2), (L + 1 + 1 + 1, o3), (L + 1 + 1, o4), (L + 1, o5), (99, tabObj ps)])
    (X : (hd.heap_39 w.params).In h₀) (T : TopRead hd.view_39 LO mg mb h₀) (BM : BMod h₀ mainGlobals mg bm ob) (hA : dp < 350) (hU : un < 4000) (hL : @LT.lt Nat _ 99 L)
    (tri : TriplesOk ps.toList) (ag : AllBare s.gens) (hl : h₀.IsList la vs.toArray) (hI : IntsAre vs ns) (hn : ns.length ≤ 63) (ms : m (Str.ofString "script") = some (.ref la))
    (d1 : o1.data = .cell v1) (d2 : o2.data = .cell v2) (d3 : o3.data = .cell v3) (d4 : o4.data = .cell v4) (d5 : o5.data = .cell v5)
    (h : ∀ h' g' tk' m' more, Fr h₀ L h' m' → h'.get? 99 = some (tabObj (ps ++ more)) → TriplesOk (ps ++ more).toList → AllBare g' → Q (.ret (.bool true)) { s with heap := h', gens := g', toks := tk' }) :
    wpAny (model PySem.Challenge.rw_pe0145_01.row.prog w) ⟨none, dp, fr, gd, un⟩ (execs lawBody (envOfC (Str.ofString "law") lawScope L fa cd)) Q noE s := by
  delta lawBody lawScope pick
  k_steps
  all_goals try k_data
  unfold Stop
  rename Fr _ _ _ _ => F8
  rename News _ _ _ _ => N8
  rename IntsAre _ (List.take 20 ns) => hI20
  have hn20 : (List.take 20 ns).length ≤ 20 := by rw [List.length_take]; omega
  generalize List.take 20 ns = ns20 at hI20 hn20
  refine LCg.CompSrc.ledger rfl F8 N8 List.mem_cons_self (by rw [List.size_toArray, hI20.length]; show _ ≤ 16777216; omega) ?_
  intro g
  refine comp_rest (R := fun i ys nl => nl = [] ∧ IntsAre ys ((ns20.take i).map fun n => n.fmod 36)) (fun _ => ?_) ⟨rfl, .nil⟩ ?_ ?_
  · exact .inr ⟨_, List.mem_append_right _ List.mem_cons_self, rfl, _, rfl⟩
  · rintro i v ys nl I oI C oC D m₂ h₂ tk hi hP ⟨rfl, hR⟩ hC hx F₂ N₂
    obtain ⟨n, t, hni, rfl⟩ := ints_at hI20 hP
    clear N8 F8 h
    show wpAny _ _ _ _ _ _
    k_steps
    refine EltEnd.same ⟨rfl, ?_⟩
    rw [List.take_add_one, hni, List.map_append]
    exact ints_snoc hR _ _
  · rintro ys nl ⟨rfl, hR⟩
    intro Dn h₂ tk F₂ N₂ off
    rw [List.nil_append] at N₂ off
    rw [List.size_toArray, hI20.length, List.take_length] at hR
    have hnl : (ns20.map fun n => n.fmod 36).length ≤ 20 := by rw [List.length_map]; exact hn20
    generalize (ns20.map fun n => n.fmod 36) = nums at hR hnl
    clear N8 F8
    dsimp only
    k_steps
    all_goals try k_data
    unfold Stop
    dsimp only
    rename_i De oE h5 eE offe h6 F6 N6
    have offn := off1_mem off
    refine store_cell (c := L + 1) (rest := (De, oE) :: (Dn, LCg.lst ys) :: (L + 1 + 1 + 1 + 1 + 1, o1) :: (L + 1 + 1 + 1 + 1, o2) :: (L + 1 + 1 + 1, o3) :: (L + 1 + 1, o4) :: (99, tabObj ps) :: []) rfl rfl rfl F6 (fun p hp => N6 p ?_) ?_ d5 ?_
    · first
        | (revert hp; revert p; (repeat' (first | exact sub_nil | refine sub_app ?_ ?_ | refine sub_cons (by with_reducible (repeat (first | exact List.mem_cons_self | assumption | exact List.mem_append_left _ (by assumption) | exact List.mem_append_left _ (List.mem_append_left _ (by assumption)) | exact List.mem_append_left _ (List.mem_append_right _ (by assumption)) | refine List.mem_cons_of_mem _ ?_ | refine List.mem_append_right _ ?_))) ?_ | (intro p hp; with_reducible (repeat (first | exact List.mem_cons_self | assumption | exact List.mem_append_left _ (by assumption) | exact List.mem_append_left _ (List.mem_append_left _ (by assumption)) | exact List.mem_append_left _ (List.mem_append_right _ (by assumption)) | refine List.mem_cons_of_mem _ ?_ | refine List.mem_append_right _ ?_)); done))); done)
        | (simp only [List.mem_cons] at hp ⊢; rcases hp with z | z | z | z | z | z | z | z | z <;> simp [z])
    · intro p hp
      simp only [List.mem_cons, List.not_mem_nil, or_false] at hp
      rcases hp with rfl | rfl | rfl | rfl | rfl | rfl | rfl
      · exact Ne.symm (offe (L + 1, o5) (by first | (with_reducible (repeat (first | exact List.mem_cons_self | assumption | exact List.mem_append_left _ (by assumption) | exact List.mem_append_left _ (List.mem_append_left _ (by assumption)) | exact List.mem_append_left _ (List.mem_append_right _ (by assumption)) | refine List.mem_cons_of_mem _ ?_ | refine List.mem_append_right _ ?_)); done) | simp))
      · exact Ne.symm (offn (L + 1, o5) (by first | (with_reducible (repeat (first | exact List.mem_cons_self | assumption | exact List.mem_append_left _ (by assumption) | exact List.mem_append_left _ (List.mem_append_left _ (by assumption)) | exact List.mem_append_left _ (List.mem_append_right _ (by assumption)) | refine List.mem_cons_of_mem _ ?_ | refine List.mem_append_right _ ?_)); done) | simp))
      · exact neN (by show ¬ @Eq Nat (L + 1 + 1 + 1 + 1 + 1) (L + 1); omega)
      · exact neN (by show ¬ @Eq Nat (L + 1 + 1 + 1 + 1) (L + 1); omega)
      · exact neN (by show ¬ @Eq Nat (L + 1 + 1 + 1) (L + 1); omega)
      · exact neN (by show ¬ @Eq Nat (L + 1 + 1) (L + 1); omega)
      · exact neN (by show ¬ @Eq Nat 99 (L + 1); omega)
    intro h7 o5' F7 N7 d5'
    clear F6 N6
    dsimp only
    k_steps
    all_goals try k_data
    unfold Stop
    dsimp only
    rename Fr _ _ _ _ => F8
    rename News _ _ _ _ => N8
    rename IntsAre _ (List.take 4 nums) => hI4
    have hn4 : (List.take 4 nums).length ≤ 4 := by rw [List.length_take]; omega
    refine LCg.CompSrc.ledger rfl F8 N8 List.mem_cons_self (by rw [List.size_toArray, hI4.length]; show _ ≤ 16777216; omega) ?_
    intro g2
    refine comp_rest (R := fun i ys nl => StrsAre ys (((List.take 4 nums).take i).map elemS)) (fun _ => ?_) .nil ?_ ?_
    · exact .inr ⟨_, List.mem_append_right _ List.mem_cons_self, rfl, _, rfl⟩
    · intro i v ys2 nl I oI C oC D m₂ h₃ tk3 hi hP hR2 hC hx F₂ N₂
      try dsimp only
      obtain ⟨n, t, hni, rfl⟩ := ints_at hI4 hP
      have N₃ : News h₀ L h₃ ((I, oI) :: (C, oC) :: (D, LCg.lst ys2) :: []) := fun p hp => N₂ p (by
        first
          | (revert hp; revert p; (repeat' (first | exact sub_nil | refine sub_app ?_ ?_ | refine sub_cons (by with_reducible (repeat (first | exact List.mem_cons_self | assumption | exact List.mem_append_left _ (by assumption) | exact List.mem_append_left _ (List.mem_append_left _ (by assumption)) | exact List.mem_append_left _ (List.mem_append_right _ (by assumption)) | refine List.mem_cons_of_mem _ ?_ | refine List.mem_append_right _ ?_))) ?_ | (intro p hp; with_reducible (repeat (first | exact List.mem_cons_self | assumption | exact List.mem_append_left _ (by assumption) | exact List.mem_append_left _ (List.mem_append_left _ (by assumption)) | exact List.mem_append_left _ (List.mem_append_right _ (by assumption)) | refine List.mem_cons_of_mem _ ?_ | refine List.mem_append_right _ ?_)); done))); done)
          | (simp only [List.mem_cons, List.not_mem_nil, or_false] at hp ⊢; rcases hp with z | z | z <;> simp [z]))
      clear N8 F8 h N₂
      show wpAny _ _ _ _ _ _
      k_steps
      refine EltEnd.same ?_
      rw [List.take_add_one, hni, List.map_append]
      exact StrsAre.snoc hR2 _ _
    · intro ys2 nl hR2 Dj h₃ tk3 F₂ N₂ off2
      rw [List.size_toArray, hI4.length, List.take_length] at hR2
      have hw := elem_len (List.take 4 nums)
      have offj := off1_mem off2
      have N₃ : News h₀ L h₃ ((Dj, LCg.lst ys2) :: (L + 1, o5') :: (De, oE) :: (Dn, LCg.lst ys) :: (L + 1 + 1 + 1 + 1 + 1, o1) :: (L + 1 + 1 + 1 + 1, o2) :: (L + 1 + 1 + 1, o3) :: (L + 1 + 1, o4) :: (99, tabObj ps) :: []) := fun p hp => N₂ p (by
        first
          | (revert hp; revert p; (repeat' (first | exact sub_nil | refine sub_app ?_ ?_ | refine sub_cons (by with_reducible (repeat (first | exact List.mem_cons_self | assumption | exact List.mem_append_left _ (by assumption) | exact List.mem_append_left _ (List.mem_append_left _ (by assumption)) | exact List.mem_append_left _ (List.mem_append_right _ (by assumption)) | refine List.mem_cons_of_mem _ ?_ | refine List.mem_append_right _ ?_))) ?_ | (intro p hp; with_reducible (repeat (first | exact List.mem_cons_self | assumption | exact List.mem_append_left _ (by assumption) | exact List.mem_append_left _ (List.mem_append_left _ (by assumption)) | exact List.mem_append_left _ (List.mem_append_right _ (by assumption)) | refine List.mem_cons_of_mem _ ?_ | refine List.mem_append_right _ ?_)); done))); done)
          | (simp only [List.mem_cons, List.mem_append, List.not_mem_nil, or_false] at hp ⊢; rcases hp with z | z | z | z | z | z | z | z | z <;> simp [z]))
      clear N8 F8 N₂
      dsimp only
      k_steps
      all_goals try k_data
      unfold Stop
      have hj := slen_join (Str.ofString "") ((List.take 4 nums).map elemS)
      have hjs : (((List.take 4 nums).map elemS).map (·.length)).sum ≤ 12 := Nat.le_trans hw (by omega)
      have hj' : (Str.join (Str.ofString "") ((List.take 4 nums).map elemS)).length ≤ 12 := by
        refine Nat.le_trans hj ?_
        rw [slen_lit.2.2.1]
        omega
      refine join_listW (ys := (List.take 4 nums).map elemS) ⟨_, (N₃ _ List.mem_cons_self).1, rfl, _, rfl⟩ (by simpa using hR2) (by decide) (by rw [List.length_map]; omega) ?_
      intro t9 k9
      rw [txt_join]
      dsimp only
      k_steps
      all_goals try k_data
      unfold Stop
      dsimp only
      refine store_cell (c := L + 1 + 1) (rest := (L + 1, o5') :: (De, oE) :: (Dn, LCg.lst ys) :: (L + 1 + 1 + 1 + 1 + 1, o1) :: (L + 1 + 1 + 1 + 1, o2) :: (L + 1 + 1 + 1, o3) :: (99, tabObj ps) :: []) rfl rfl rfl F₂ (fun p hp => N₃ p ?_) ?_ d4 ?_
      · first
          | (revert hp; revert p; (repeat' (first | exact sub_nil | refine sub_app ?_ ?_ | refine sub_cons (by with_reducible (repeat (first | exact List.mem_cons_self | assumption | exact List.mem_append_left _ (by assumption) | exact List.mem_append_left _ (List.mem_append_left _ (by assumption)) | exact List.mem_append_left _ (List.mem_append_right _ (by assumption)) | refine List.mem_cons_of_mem _ ?_ | refine List.mem_append_right _ ?_))) ?_ | (intro p hp; with_reducible (repeat (first | exact List.mem_cons_self | assumption | exact List.mem_append_left _ (by assumption) | exact List.mem_append_left _ (List.mem_append_left _ (by assumption)) | exact List.mem_append_left _ (List.mem_append_right _ (by assumption)) | refine List.mem_cons_of_mem _ ?_ | refine List.mem_append_right _ ?_)); done))); done)
          | (simp only [List.mem_cons] at hp ⊢; rcases hp with z | z | z | z | z | z | z | z | z <;> simp [z])
      · intro p hp
        simp only [List.mem_cons, List.not_mem_nil, or_false] at hp
        rcases hp with rfl | rfl | rfl | rfl | rfl | rfl | rfl
        · exact neN (by show ¬ @Eq Nat (L + 1) (L + 1 + 1); omega)
        · exact Ne.symm (offe (L + 1 + 1, o4) (by first | (with_reducible (repeat (first | exact List.mem_cons_self | assumption | exact List.mem_append_left _ (by assumption) | exact List.mem_append_left _ (List.mem_append_left _ (by assumption)) | exact List.mem_append_left _ (List.mem_append_right _ (by assumption)) | refine List.mem_cons_of_mem _ ?_ | refine List.mem_append_right _ ?_)); done) | simp))
        · exact Ne.symm (offn (L + 1 + 1, o4) (by first | (with_reducible (repeat (first | exact List.mem_cons_self | assumption | exact List.mem_append_left _ (by assumption) | exact List.mem_append_left _ (List.mem_append_left _ (by assumption)) | exact List.mem_append_left _ (List.mem_append_right _ (by assumption)) | refine List.mem_cons_of_mem _ ?_ | refine List.mem_append_right _ ?_)); done) | simp))
        · exact neN (by show ¬ @Eq Nat (L + 1 + 1 + 1 + 1 + 1) (L + 1 + 1); omega)
        · exact neN (by show ¬ @Eq Nat (L + 1 + 1 + 1 + 1) (L + 1 + 1); omega)
        · exact neN (by show ¬ @Eq Nat (L + 1 + 1 + 1) (L + 1 + 1); omega)
        · exact neN (by show ¬ @Eq Nat 99 (L + 1 + 1); omega)
      intro h8 o4' F8 N8 d4'
      clear N₃ F₂
      dsimp only
      k_steps
      all_goals try k_data
      unfold Stop
      dsimp only
      rename Fr _ _ _ _ => F9
      rename News _ _ _ _ => N9
      obtain ⟨ld, P, PP⟩ := law_texts nums.sum (nums.length : Int) (List.take 4 nums) hn4 rfl rfl rfl
      refine lawB_walk (fa := fa) (cd := cd) F9 (fun p hp => N9 p ?_) X T BM hA hU hL P PP tri ag (by rfl) (by rfl) (by rfl) d1 d2 d3 d4' d5' ?_
      · first
          | (revert hp; revert p; (repeat' (first | exact sub_nil | refine sub_app ?_ ?_ | refine sub_cons (by with_reducible (repeat (first | exact List.mem_cons_self | assumption | exact List.mem_append_left _ (by assumption) | exact List.mem_append_left _ (List.mem_append_left _ (by assumption)) | exact List.mem_append_left _ (List.mem_append_right _ (by assumption)) | refine List.mem_cons_of_mem _ ?_ | refine List.mem_append_right _ ?_))) ?_ | (intro p hp; with_reducible (repeat (first | exact List.mem_cons_self | assumption | exact List.mem_append_left _ (by assumption) | exact List.mem_append_left _ (List.mem_append_left _ (by assumption)) | exact List.mem_append_left _ (List.mem_append_right _ (by assumption)) | refine List.mem_cons_of_mem _ ?_ | refine List.mem_append_right _ ?_)); done))); done)
          | (simp only [List.mem_cons, List.not_mem_nil, or_false] at hp ⊢; rcases hp with z | z | z | z | z | z <;> simp [z])
      · intro h' g' tk' m' more F' hg' tri' ag'
        exact h h' g' tk' m' more F' hg' tri' ag'
end
end
example : True := by
  k_with_none
  trivial
section
open PySem PySem.W PyProof.Rows
theorem tab99 {w : World} {h : Heap} {mean : ExcName → Option Value} {mg mb : Str → Option Value} {loose : List Str} (T : Top hd.view_39 loose mean mg mb h) (X : (hd.heap_39 w.params).In h) : h.get? 99 = some (tabObj #[]) := by
  have hm : mg (Str.ofString "format_witnesses") = some (.ref 104) := mg_of X T.g (by with_unfolding_all rfl)
  obtain ⟨c, P, hc, B⟩ := based_of_top T (name := Str.ofString "format_witnesses") rfl hm (X 104 _ (by with_unfolding_all rfl)) (by with_unfolding_all rfl)
  obtain ⟨⟨o, vs, h1, h2, h3, h4⟩, h5⟩ := B.tab
  have hc' : (103 : Addr) = c := by injection hc
  subst hc'
  have e := X 103 _ (by with_unfolding_all rfl)
  rw [e] at h1
  injection h1 with h1
  subst h1
  have h3' := h3
  injection h3' with h3'
  subst h3'
  have hP : (99 : Addr) = P := by
    have : some (Value.ref 99) = some (Value.ref P) := h4
    injection this with this
    injection this
  subst hP
  exact h5
end
section
open PySem PySem.W PyProof.Rows
theorem enter_law {w : World} {h₁ : Heap} {s₁ : Shared} {dp un tk : Nat} {fr : Option (List Env)} {gd : Option (List Code)} {L fa la : Addr} {cd : Value} {m mg mb : Str → Option Value} {mean : ExcName → Option Value} {o1 o2 o3 o4 o5 : Obj} {v1 v2 v3 v4 v5 : Option Value} {Q : Flow → Shared → Prop} {E : Value → Shared → Prop} {bm : Addr} {ob : Obj} {vs : List Value} {ns : List Int}
    (F : Fr s₁.heap L h₁ m) (N : News s₁.heap L h₁ [(L + 1 + 1 + 1 + 1 + 1, o1), (L + 1 + 1 + 1 + 1, o2), (L + 1 + 1 + 1, o3), (L + 1 + 1, o4), (L + 1, o5)])
    (X : (hd.heap_39 w.params).In s₁.heap) (T : Top hd.view_39 LO mean mg mb s₁.heap) (BM : BMod s₁.heap mainGlobals mg bm ob) (hL : s₁.heap.objs.size = L) (hg : s₁.gens = #[]) (hl : s₁.heap.IsList la vs.toArray) (hI : IntsAre vs ns) (hn : ns.length ≤ 63)
    (hA : dp < 350) (hU : un < 4000) (ms : m (Str.ofString "script") = some (.ref la))
    (d1 : o1.data = .cell v1) (d2 : o2.data = .cell v2) (d3 : o3.data = .cell v3) (d4 : o4.data = .cell v4) (d5 : o5.data = .cell v5)
    (h : ∀ h' g' tk', OldK s₁.heap h' → AllBare g' → Q (.ret (.bool true)) { s₁ with heap := h', gens := g', toks := tk' }) :
    wpAny (model PySem.Challenge.rw_pe0145_01.row.prog w) ⟨none, dp, fr, gd, un⟩ (execs lawBody (envOfC (Str.ofString "law") lawScope L fa cd)) Q E { s₁ with heap := h₁, toks := tk } := by
  have t99 := tab99 T X
  have ft : FTab s₁.heap #[] := ⟨t99, trivial⟩
  have ne99 : ∀ b o, s₁.heap.get? b = some o → o.cls ≠ .none → b ≠ 99 := fun b o e hc q => by
    subst q
    rw [t99] at e
    injection e with e
    subst e
    exact hc rfl
  have h99 : @LT.lt Nat _ 99 L := by rw [← hL]; exact Heap.lt_size t99
  have X' := Mine.In.hide99 X
  have T' : TopRead hd.view_39 LO mg mb (hide99 s₁.heap) := Mine.TopRead.hide99 (topRead_of T)
  have BM' : BMod (hide99 s₁.heap) mainGlobals mg bm ob := ⟨BM.ns.at' fun o e => hide99_get e (by decide), BM.name, BM.ne, hide99_get BM.obj (ne99 _ _ BM.obj (by rw [BM.cls]; simp)), BM.cls, BM.dict, BM.data⟩
  have hl' : (hide99 s₁.heap).IsList la vs.toArray := by
    obtain ⟨o, e, hc, r⟩ := hl
    exact ⟨o, hide99_get e (ne99 _ _ e (by rw [hc]; simp)), hc, r⟩
  have none99 : ∀ a, s₁.heap.get? a = none → (hide99 s₁.heap).get? a = none := fun a e => by
    cases q : (hide99 s₁.heap).get? a with
    | none => rfl
    | some o => have := of_hide99 q; rw [e] at this; cases this
  have n99 : (hide99 s₁.heap).get? 99 = none := hideAll_none _ (by simp)
  have N' : News (hide99 s₁.heap) L h₁ [(L + 1 + 1 + 1 + 1 + 1, o1), (L + 1 + 1 + 1 + 1, o2), (L + 1 + 1 + 1, o3), (L + 1 + 1, o4), (L + 1, o5), (99, tabObj #[])] := by
    intro p hp
    have hp' : p ∈ [(L + 1 + 1 + 1 + 1 + 1, o1), (L + 1 + 1 + 1 + 1, o2), (L + 1 + 1 + 1, o3), (L + 1 + 1, o4), (L + 1, o5)] ∨ p = (99, tabObj #[]) := by
      simp only [List.mem_cons, List.not_mem_nil, or_false] at hp ⊢
      rcases hp with z | z | z | z | z | z <;> simp [z]
    rcases hp' with hp | rfl
    · exact ⟨(N p hp).1, (N p hp).2.1, none99 _ (N p hp).2.2⟩
    · exact ⟨F.keep _ _ t99, neN (by show ¬ @Eq Nat 99 L; omega), n99⟩
  refine wpAny_mono (lawH_walk (s := { s₁ with heap := h₁, toks := tk }) (fa := fa) (cd := cd) (Q := Q) (Mine.Fr.hide99 F) N' X' T' BM' hA hU h99 trivial (fun y hy => by
    have hy' : y ∈ s₁.gens := hy
    rw [hg] at hy'; simp at hy') hl' hI hn ms d1 d2 d3 d4 d5 ?_) (fun _ _ q => q) (fun _ _ e => e.elim)
  intro h' g' tk' m' more F' hg' tri' ag'
  refine h h' g' tk' ?_ ag'
  have hx : ∀ b o, b ≠ 99 → s₁.heap.get? b = some o → h'.get? b = some o := fun b o hb e => F'.keep b o (hide99_get e hb)
  have Xh : (hd.heap_39 w.params).In h' := X'.keeps F'.keep
  exact (OldK.refl s₁.heap).step_table (FTab.tableAt X ft) (FTab.tableAt X ft) (FTab.tableAt (ps := #[] ++ more) Xh ⟨hg', tri'⟩) hx (by decide)
end
section
open PySem PySem.W PyProof.Rows
theorem fin : PySem.Challenge.rw_pe0145_01.Holds := Mine.hd (by
  k_fill
  intro w s₀ s₁ mg mb G Y fa o pm cd doc dV kV ho hd hcd hD hmg hg args vals as hpre hlay hrd hwl hlo
  have KX := kIn_of Y
  have X := (Ground.X G).1
  have V := (Ground.X G).2
  refine Ground.open G ?_
  intro T B D TE TW
  try (refine guard_noD D (by decide +kernel) ?_; clear D)
  obtain ⟨bm, obm, M⟩ := bmod_of_top T
  have TA := at_of_top T
  try (obtain ⟨_, _, he, B0⟩ := based_of_top T rfl hmg ho hd; have he' : cd = _ := he; subst he'; clear he)
  clear hmg
  wrow_args hpre hlay hrd hwl hlo
  all_goals (
    first | refine callC_kw (enter_call ?_) | refine enter_call ?_ | refine callC_kw (enter_callW ?_) | refine enter_callW ?_ | w_how
    w_top on
    have K0 := below_caller (Top.heap T)
    w_call any ho hd hcd hD T F
    clear hd TA
    k_drop
    skip)
  all_goals try k_fold
  rename IntsAre _ _ => hI
  rename Heap.IsList _ _ _ => hl
  rename ¬ ((63 : Int) < _) => hcn
  rename News _ _ _ _ => N0
  refine enter_law (fa := fa) F N0 KX T M rfl hg hl hI (by omega) (by decide) (by decide) (by rfl) (by assumption) (by assumption) (by assumption) (by assumption) (by assumption) ?_
  intro h' g' tk' hold hbare
  refine ⟨.inl ⟨_, _, _, rfl, ?_, .bool true, ?_, ?_⟩, hold, rfl, hbare⟩
  · intro cls; first | rfl | (with_unfolding_all rfl)
  · first | rfl | (with_unfolding_all rfl) | wrow_close
  · exact fun _ => ⟨.nil, fun _ hh => nomatch hh⟩)
end
end Mine
theorem PySem.Challenge.cw_pe0145_01_holds : PySem.Challenge.rw_pe0145_01.Holds := by
  exact Mine.fin
