import PyProof.Rows.All
import Wide.All
import OpenK.AllK
import Wide.FinOn
import PySem.Challenge.RW_pg0023_01
open PySem PySem.W PyProof.Rows PySem.Calls PySem.Spec
set_option Elab.async false

namespace Mine
set_option maxRecDepth 100000 in
set_option maxHeartbeats 8000000 in
open_top hd for PySem.Challenge.rw_pg0023_01
end Mine

namespace Mine
set_option maxRecDepth 100000

/-! the text's defs, by their place in the given term -/
def dfn (i : Nat) : Stmt := (PySem.Challenge.pw_pg0023_01.main.body).getD i (.Pass default)
def bodyOf : Stmt → List Stmt
  | .FunctionDef _ _ b _ _ _ _ _ _ _ => b
  | _ => []
def scopeOf : Stmt → Scope
  | .FunctionDef _ _ _ _ _ _ sc _ _ _ => sc
  | _ => default
def paramsOf : Stmt → Arguments
  | .FunctionDef _ a _ _ _ _ _ _ _ _ => a
  | _ => default

/-- a def of the text stands at f -/
def FnAt (h : Heap) (f : Addr) (i : Nat) (qual : Str) (cd : Value) : Prop :=
  ∃ o nm doc pm an ct, h.get? f = some o ∧ o.data = .func (fnX nm qual (paramsOf (dfn i)) (bodyOf (dfn i)) (scopeOf (dfn i)) [] .none .none doc pm an cd ct) ∧ h.CodeRec cd qual
theorem FnAt.keeps {h h' : Heap} {f i qual cd} (x : FnAt h f i qual cd) (k : ∀ b o, h.get? b = some o → h'.get? b = some o) : FnAt h' f i qual cd := by
  obtain ⟨o, nm, doc, pm, an, ct, h1, h2, c, oc, vs, t, e1, e2, e3⟩ := x
  exact ⟨o, nm, doc, pm, an, ct, k _ _ h1, h2, c, oc, vs, t, e1, k _ _ e2, e3⟩

/-- what the walks need of the top -/
structure Tp (mg mb : Str → Option Value) (cds : Nat → Value) (h : Heap) : Prop where
  g : h.Ns mainGlobals mg
  b : h.Ns builtinsNs mb
  lim : h.NoLimit
  bi : ∀ x : Str, x ≠ "__name__" → mb x = bootBuiltins x
  nac : mg "add_callers" = some (.ref 21)
  ncc : mg "count_calls" = some (.ref 28)
  nap : mg "Int2AP" = some (.ref 35)
  nrows : mg "_law_rows" = some (.ref 40)
  nword : mg "_law_word" = some (.ref 47)
  ntab : mg "_law_tables" = some (.ref 52)
  nkey : mg "_law_key" = some (.ref 59)
  nways : mg "_law_ways" = some (.ref 64)
  non : ∀ x ∈ (["int", "abs", "divmod", "isinstance", "tuple", "zip", "range", "sum", "len", "bytes", "enumerate"] : List Str), mg x = none
  fac : FnAt h 21 1 "add_callers" (cds 1)
  fcc : FnAt h 28 2 "count_calls" (cds 2)
  fap : FnAt h 35 4 "Int2AP" (cds 4)
  frows : FnAt h 40 6 "_law_rows" (cds 6)
  fword : FnAt h 47 7 "_law_word" (cds 7)
  ftab : FnAt h 52 8 "_law_tables" (cds 8)
  fkey : FnAt h 59 9 "_law_key" (cds 9)
  fways : FnAt h 64 10 "_law_ways" (cds 10)
theorem Tp.keeps {mg mb cds} {h h' : Heap} (T : Tp mg mb cds h) (k : ∀ b o, h.get? b = some o → h'.get? b = some o) : Tp mg mb cds h' :=
  ⟨T.g.keeps k, T.b.keeps k, T.lim.keeps k, T.bi, T.nac, T.ncc, T.nap, T.nrows, T.nword, T.ntab, T.nkey, T.nways, T.non, T.fac.keeps k, T.fcc.keeps k, T.fap.keeps k, T.frows.keeps k, T.fword.keeps k, T.ftab.keeps k, T.fkey.keeps k, T.fways.keeps k⟩

/-- h' keeps what h has -/
abbrev Ext (h h' : Heap) : Prop := ∀ b o, h.get? b = some o → h'.get? b = some o
/-- objects that h' has and h had not -/
def Fresh (h h' : Heap) (tl : List (Addr × Obj)) : Prop := ∀ p ∈ tl, h'.get? p.1 = some p.2 ∧ h.get? p.1 = none

/-- there is room for c more frames -/
structure Room (A : Around) (c : Nat) : Prop where
  hh : A.handled = none
  dp : A.depth + c < recursionLimit
  un : A.units + 10 * c < cLine
theorem Room.deeper {A : Around} {c : Nat} (r : Room A (c + 1)) (env : Env) : Room (A.deeper env) c :=
  ⟨r.hh, by have := r.dp; show A.depth + 1 + c < _; omega, by have := r.un; show A.units + 3 + 10 * c < _; omega⟩
theorem Room.in1 {A : Around} {c : Nat} (r : Room A (c + 1)) : Room A.in1 c :=
  ⟨r.hh, by have := r.dp; show A.depth + c < _; omega, by have := r.un; show A.units + 1 + 10 * c < _; omega⟩
theorem Room.le {A : Around} {c d : Nat} (r : Room A c) (h : d ≤ c) : Room A d := ⟨r.hh, by have := r.dp; omega, by have := r.un; omega⟩

/-- a call that changes nothing that stood, hands back v, with new objects tl -/
def Pure (prog : Program) (w : World) (A : Around) (f : Value) (args : List Value) (s : Shared) (R : Value → List (Addr × Obj) → Prop) : Prop :=
  ∀ (Q : Value → Shared → Prop) (E : Value → Shared → Prop), (∀ v h' tk tl, Ext s.heap h' → s.heap.objs.size ≤ h'.objs.size → Fresh s.heap h' tl → R v tl → Q v { s with heap := h', toks := tk }) →
    wpAny (model prog w) A (call f args) Q E s

/-- the end of a body -/
def PureEnd (s : Shared) (R : Value → List (Addr × Obj) → Prop) (f : Flow) (s' : Shared) : Prop :=
  ∃ h' tk tl, s' = { s with heap := h', toks := tk } ∧ Ext s.heap h' ∧ s.heap.objs.size ≤ h'.objs.size ∧ Fresh s.heap h' tl ∧ R (match f with | .ret v => v | _ => .none) tl

theorem pure_enter {prog : Program} {w : World} {A : Around} {s : Shared} {f : Addr} {i : Nat} {qual : Str} {cd : Value} {args : List Value} {binds : List (Str × Value)} {R : Value → List (Addr × Obj) → Prop}
    (X : FnAt s.heap f i qual cd) (hl : s.heap.NoLimit) (hroom : A.depth < recursionLimit)
    (hbind : ∀ nm doc pm an ct, bindArgs (fnX nm qual (paramsOf (dfn i)) (bodyOf (dfn i)) (scopeOf (dfn i)) [] .none .none doc pm an cd ct) ⟨args, []⟩ = pure binds)
    (hcell : ∀ x ∈ (scopeOf (dfn i)).names, x.2 ≠ .cell) (hloc : ∀ x ∈ binds, (scopeOf (dfn i)).names.lookup x.1 = some .local)
    (hco : (scopeOf (dfn i)).isCoroutine = false) (hgen : (scopeOf (dfn i)).isGenerator = false) (hk : (scopeOf (dfn i)).kind = .function)
    (h : ∀ h₁, Fr s.heap s.heap.objs.size h₁ (fun y => binds.reverse.lookup y) →
      wpAny (model prog w) (A.deeper (envX qual (scopeOf (dfn i)) s.heap.objs.size f cd [])) (execs (bodyOf (dfn i)) (envX qual (scopeOf (dfn i)) s.heap.objs.size f cd []))
        (PureEnd s R) (fun _ _ => False) { s with heap := h₁, toks := s.toks + binds.length }) :
    Pure prog w A (.ref f) args s R := by
  intro Q E hQ
  obtain ⟨o, nm, doc, pm, an, ct, ho, hd, hc⟩ := X
  refine wpAny_call ?_
  refine codeAny_call_def (fd := fnX nm qual (paramsOf (dfn i)) (bodyOf (dfn i)) (scopeOf (dfn i)) [] .none .none doc pm an cd ct) (body := bodyOf (dfn i)) (binds := binds) hroom ho hd hl hc rfl (BindsTo.of_eq (hbind ..)) hcell hloc (fun h₁ hns hk₁ => ?_) hco hgen hk
  refine wpAny_mono (h h₁ ⟨hns, hk₁, Nat.le_refl _⟩) (fun fl s' he => ?_) (fun _ _ x => x.elim)
  obtain ⟨h', tk, tl, rfl, hx, hsz, hf, hr⟩ := he
  exact hQ _ h' tk tl hx hsz hf hr
end Mine

namespace Mine
set_option maxRecDepth 100000

theorem Fresh.ne {h h' : Heap} {tl : List (Addr × Obj)} (hf : Fresh h h' tl) {p : Addr × Obj} (hp : p ∈ tl) {a : Addr} {o : Obj} (e : h.get? a = some o) : p.1 ≠ a := by
  intro q; have := (hf p hp).2; rw [q, e] at this; cases this
/-- a call's new objects onto the ledger -/
theorem News.more {h₀ h h' : Heap} {L : Addr} {m : Str → Option Value} {news tl : List (Addr × Obj)} (F : Fr h₀ L h m) (N : News h₀ L h news) (k : Ext h h') (f : Fresh h h' tl) : News h₀ L h' (tl ++ news) := by
  intro p hp
  rcases List.mem_append.mp hp with hp | hp
  · obtain ⟨oL, _, _, hL, _⟩ := F.ns
    refine ⟨(f p hp).1, f.ne hp hL, ?_⟩
    cases q : h₀.get? p.1 with
    | none => rfl
    | some o => have := (f p hp).2; rw [F.keep _ _ q] at this; cases this
  · exact ⟨k _ _ (N p hp).1, (N p hp).2⟩
theorem News.sub {h₀ h : Heap} {L : Addr} {news led : List (Addr × Obj)} (N : News h₀ L h news) (hs : ∀ p ∈ led, p ∈ news) : News h₀ L h led := fun p hp => N p (hs p hp)
/-- an object of the ledger is changed -/
theorem News.chg {h₀ h h' : Heap} {L d : Addr} {own rest : List (Addr × Obj)} {o o' : Obj} (N : News h₀ L h (own ++ (d, o) :: rest)) (h1 : ∀ p ∈ own, p.1 ≠ d) (h2 : ∀ p ∈ rest, p.1 ≠ d)
    (hs : Heap.SameBut d h h') (ho : h'.get? d = some o') : News h₀ L h' (own ++ (d, o') :: rest) := N.setIn h1 h2 hs ho

/-- how a turn of a loop ends -/
def StepEnd (h₀ : Heap) (L I : Addr) (s : Shared) (own : List (Addr × Obj)) (J : (Str → Option Value) → List (Addr × Obj) → Prop) (f : Flow) (s' : Shared) : Prop :=
  f = .next ∧ ∃ h' tk m' news', s' = { s with heap := h', toks := tk } ∧ Fr h₀ L h' m' ∧ News h₀ L h' (own ++ news') ∧ (∀ p ∈ news', p.1 ≠ I) ∧ J m' news'

section
variable {prog : Program} {w : World} {A : Around} {E : Value → Shared → Prop} {s : Shared} {env : Env} {h₀ : Heap} {target : Expr} {body : List Stmt} {Q : Flow → Shared → Prop} {m : Str → Option Value} {news : List (Addr × Obj)}

theorem turns_of {I : Addr} {fp : List Addr} {n : Nat} {P Md : Nat → Value → Heap → Prop} {St : Nat → Heap → Prop} (W : KTurns prog w A target I fp [I] n P Md St)
    {H : Heap} {t : Nat} (hLf : env.locals ∉ fp) (hst : St 0 H) (hI : h₀.get? I = none) (hlive : ∀ i h, St i h → ∃ o, h.get? I = some o) (hnI : ∀ p ∈ news, p.1 ≠ I) (F : Fr h₀ env.locals H m) (N : News h₀ env.locals H news)
    (J : Nat → (Str → Option Value) → List (Addr × Obj) → Prop) (h0 : J 0 m news)
    (step : ∀ i v m₁ news₁ h₁ tk₁ own oi, i < n → P i v h₁ → J i m₁ news₁ → (∀ p ∈ news₁, p.1 ≠ I) → (I, oi) ∈ own → (∀ p ∈ own, p.1 ∈ fp) → (∀ b ∈ fp, h₀.get? b = none → ∀ o, h₁.get? b = some o → (b, o) ∈ own) →
      Fr h₀ env.locals h₁ m₁ → News h₀ env.locals h₁ (own ++ news₁) →
      wpAny (model prog w) A (assign target env v) (fun _ s₃ => wpAny (model prog w) A (execs body env) (StepEnd h₀ env.locals I s own (J (i + 1))) (fun _ _ => False) s₃) (fun _ _ => False) { s with heap := h₁, toks := tk₁ })
    (done : ∀ h' tk m' news', Fr h₀ env.locals h' m' → News h₀ env.locals h' news' → (∀ p ∈ news', p.1 ≠ I) → J n m' news' → Q .next { s with heap := h', toks := tk }) :
    TurnsAt prog w A h₀ env target body Q E (.ref I) { s with heap := H, toks := t } := by
  refine ⟨I, fp, [I], n, P, Md, St, m, news, J, rfl, W, hLf, (fun b hb => by rw [List.mem_singleton.mp hb]; exact hI), (fun p hp hb => hnI p hp (List.mem_singleton.mp hb)), hst, F, N, h0, ?_, ?_⟩
  · intro i v m₁ news₁ h₁ tk₁ own hi hP hJ hoff hsub hget hall st F₁ N₁
    obtain ⟨oi, hoi⟩ := hlive _ _ st
    have hIfp : I ∈ fp := W.sub I (by simp)
    refine wpAny_mono (step i v m₁ news₁ h₁ tk₁ own oi hi hP hJ (fun p hp e => hoff p hp (by simp [e])) (hall I hIfp hI oi hoi) hsub hall F₁ N₁) (fun _ s₃ h₃ => wpAny_mono h₃ (fun f s' h' => ?_) (fun _ _ x => x.elim)) (fun _ _ x => x.elim)
    obtain ⟨rfl, h', tk, m', news', rfl, F', N', hne, hJ'⟩ := h'
    exact .next ⟨rfl, h', tk, m', news', rfl, F', N', fun p hp hb => hne p hp (List.mem_singleton.mp hb), hJ'⟩
  · intro h' tk m' news' F' N' hoff hJ
    exact done h' tk m' news' F' N' (fun p hp e => hoff p hp (by simp [e])) hJ

/-- for k, v in d.items() -/
theorem iter_items {d vw : Addr} {ep : Nat} {kvs : List (Int × Value)} {elts : List Expr} {kk : Nat} {pos : Pos} {H : Heap} {t : Nat} (hh : A.handled = none) (hvw : H.IsItemsView vw d) (hd : H.DictAt (intKind prog w) d kvs ep) (hdL : d ≠ env.locals)
    (F : Fr h₀ env.locals H m) (N : News h₀ env.locals H news) (J : Nat → (Str → Option Value) → List (Addr × Obj) → Prop) (h0 : J 0 m news)
    (step : ∀ i v T k t x m₁ news₁ h₁ tk₁ own I oi, kvs[i]? = some (k, x) → v = .ref T → h₁.IsTuple T #[.int k t, x] → J i m₁ news₁ → (∀ p ∈ news₁, p.1 ≠ I) → (I, oi) ∈ own → (∀ p ∈ own, p.1 = I ∨ p.1 = d) →
      Fr h₀ env.locals h₁ m₁ → News h₀ env.locals h₁ (own ++ news₁) →
      wpAny (model prog w) A (assign (.Tuple elts kk pos) env v) (fun _ s₃ => wpAny (model prog w) A (execs body env) (StepEnd h₀ env.locals I s own (J (i + 1))) (fun _ _ => False) s₃) (fun _ _ => False) { s with heap := h₁, toks := tk₁ })
    (done : ∀ h' tk m' news', Fr h₀ env.locals h' m' → News h₀ env.locals h' news' → J kvs.length m' news' → Q .next { s with heap := h', toks := tk }) :
    wpAny (model prog w) A (pyIter (.ref vw)) (fun it s₂ => TurnsAt prog w A h₀ env (.Tuple elts kk pos) body Q E it s₂) E { s with heap := H, toks := t } := by
  refine wpAny_pyIter_items (s := { s with heap := H, toks := t }) hvw hd ?_
  have hne : d ≠ H.objs.size := Nat.ne_of_lt hd.lt_size
  refine turns_of (s := s) (kti_itemsTurns (knd := intKind prog w) hh H.objs.size d hne kvs ep) ?_ ⟨⟨.none, .none, Heap.get?_push_size _ rfl⟩, hd.push _⟩ (next_is_new F) (fun i h st => ⟨_, st.1.choose_spec.choose_spec⟩) (fun p hp => Nat.ne_of_lt (Heap.lt_size (N p hp).1)) (F.push _) (fun p hp => ⟨Heap.get?_push_of_some _ (N p hp).1, (N p hp).2⟩) J h0 ?_ ?_
  · intro hm
    rcases List.mem_cons.mp hm with e | hm
    · exact absurd F.ns.lt (e ▸ Nat.lt_irrefl _)
    · exact hdL (List.mem_singleton.mp hm).symm
  · rintro i v m₁ news₁ h₁ tk₁ own oi hi ⟨T, key, k, x, rfl, hx, hk, hT⟩ hJ hoff hIo hsub hall F₁ N₁
    obtain ⟨t, rfl⟩ := Value.isInt_shape hk
    exact step i _ T k t x m₁ news₁ h₁ tk₁ own _ oi hx rfl hT hJ hoff hIo (fun p hp => by simpa using hsub p hp) F₁ N₁
  · intro h' tk m' news' F' N' _ hJ
    exact done h' tk m' news' F' N' hJ
end
end Mine

namespace Mine
set_option maxRecDepth 100000
theorem ext_of_extBut {h h' : Heap} (x : Heap.ExtBut h.objs.size h h') : Ext h h' := fun b o e => x b o (Nat.ne_of_lt (Heap.lt_size e)) e
section
variable {prog : Program} {w : World} {A : Around} {E : Value → Shared → Prop} {s : Shared} {h₀ H : Heap} {t : Nat} {m : Str → Option Value} {news : List (Addr × Obj)} {env : Env}
/-- a name is stored -/
theorem sto {x : Str} {v : Value} {Q : Unit → Shared → Prop} (F : Fr h₀ env.locals H m) (N : News h₀ env.locals H news)
    (h : ∀ h' t', Fr h₀ env.locals h' (fun y => if y = x then some v else m y) → News h₀ env.locals h' news → Q () { s with heap := h', toks := t' })
    (hk : env.scope.kind = .function := by rfl) (hx : env.kindOf x = some .local := by rfl) : wpAny (model prog w) A (storeName env x v) Q E { s with heap := H, toks := t } :=
  wpAny_storeName_local (s := { s with heap := H, toks := t }) hx F.ns (fun h' hn hs => h h' _ (F.set hn hs) (N.set hs)) (by rw [hk]; rfl)
/-- x, y = T -/
theorem assignPair {x y : Str} {px py pos : Pos} {k : Nat} {T : Addr} {v1 v2 : Value} {Q : Unit → Shared → Prop} (hh : A.handled = none) (hT : H.IsTuple T #[v1, v2]) (F : Fr h₀ env.locals H m) (N : News h₀ env.locals H news)
    (h : ∀ h' t', Fr h₀ env.locals h' (fun z => if z = y then some v2 else if z = x then some v1 else m z) → News h₀ env.locals h' news → Q () { s with heap := h', toks := t' })
    (hk : env.scope.kind = .function := by rfl) (hx : env.kindOf x = some .local := by rfl) (hy : env.kindOf y = some .local := by rfl) :
    wpAny (model prog w) A (assign (.Tuple [.Name x px, .Name y py] k pos) env (.ref T)) Q E { s with heap := H, toks := t } := by
  refine wpAny_assign_Tuple (s := { s with heap := H, toks := t }) hh hT rfl rfl fun h' hx' => ?_
  have hk' : Ext H h' := ext_of_extBut hx'
  show wpAny _ _ (do holding [v2] (assign (.Name x px) env v1); do holding [] (assign (.Name y py) env v2); pure ()) _ _ { s with heap := h', toks := t }
  refine wpAny_bind (wpAny_holding (wpAny_assign_Name (sto (F.keeps hk') (N.grown hk') (fun h₂ t₂ F₂ N₂ => ?_) hk hx)))
  refine wpAny_bind (wpAny_holding (wpAny_assign_Name (sto F₂ N₂ (fun h₃ t₃ F₃ N₃ => wpAny_pure (h h₃ t₃ F₃ N₃)) hk hy)))

variable {mg mb : Str → Option Value} {cds : Nat → Value} {Q : Value → Shared → Prop}
/-- a local name -/
theorem nmL {Q : Value → Shared → Prop} {x : Str} {pos : Pos} {v : Value} (F : Fr h₀ env.locals H m) (hv : m x = some v) (h : Q v { s with heap := H, toks := t })
    (hk : env.scope.kind = .function := by rfl) (hx : env.kindOf x = some .local := by rfl) (hd : (x == ("__debug__" : Str)) = false := by decide) :
    wpAny (model prog w) A (eval (.Name x pos) env) Q E { s with heap := H, toks := t } := wpAny_Name (wpAny_loadName_local (s := { s with heap := H, toks := t }) hk hx F.ns hv h) hd
/-- a name in a cell -/
theorem nmC {Q : Value → Shared → Prop} {x : Str} {pos : Pos} {v : Value} {c : Addr} {o : Obj} (hc : env.cells.lookup x = some c) (ho : H.get? c = some o) (hd : o.data = .cell (some v)) (h : Q v { s with heap := H, toks := t })
    (hk : env.scope.kind = .function := by rfl) (hx : env.kindOf x = some .cell := by rfl) (hb : (x == ("__debug__" : Str)) = false := by decide) :
    wpAny (model prog w) A (eval (.Name x pos) env) Q E { s with heap := H, toks := t } := wpAny_Name (wpAny_loadName_cell (s := { s with heap := H, toks := t }) hk hx hc ⟨o, ho, hd⟩ h) hb
/-- a name of the text's top -/
theorem gname {x : Str} {pos : Pos} {v : Value} (T : Tp mg mb cds h₀) (F : Fr h₀ env.locals H m) (e : mg x = some v) (h : Q v { s with heap := H, toks := t })
    (hk : env.scope.kind = .function := by rfl) (hx : env.kindOf x = some .globalImplicit := by rfl) (hd : (x == ("__debug__" : Str)) = false := by decide) (hg : env.globals = mainGlobals := by rfl) (hb : env.builtins = builtinsNs := by rfl) :
    wpAny (model prog w) A (eval (.Name x pos) env) Q E { s with heap := H, toks := t } :=
  Name_function_global hk hx (loadGlobal_global (s := { s with heap := H, toks := t }) (env := env) (hg ▸ T.g.keeps F.keep) e h) hd
/-- a name of the built-ins -/
theorem bname {x : Str} {pos : Pos} {v : Value} (T : Tp mg mb cds h₀) (F : Fr h₀ env.locals H m) (hn : x ∈ (["int", "abs", "divmod", "isinstance", "tuple", "zip", "range", "sum", "len", "bytes", "enumerate"] : List Str)) (hv : bootBuiltins x = some v) (h : Q v { s with heap := H, toks := t })
    (hnn : x ≠ "__name__" := by decide) (hk : env.scope.kind = .function := by rfl) (hx : env.kindOf x = some .globalImplicit := by rfl) (hd : (x == ("__debug__" : Str)) = false := by decide) (hg : env.globals = mainGlobals := by rfl) (hb : env.builtins = builtinsNs := by rfl) :
    wpAny (model prog w) A (eval (.Name x pos) env) Q E { s with heap := H, toks := t } :=
  Name_function_global hk hx (loadGlobal_builtin (s := { s with heap := H, toks := t }) (env := env) (hg ▸ T.g.keeps F.keep) (T.non x hn) (hb ▸ T.b.keeps F.keep) ((T.bi x hnn).trans hv) h) hd
/-- a call of a def of the text -/
theorem callDef {x : Str} {p pos : Pos} {e : Expr} {rest : List Expr} {f : Addr} {i : Nat} {qual : Str} {cd : Value} (T : Tp mg mb cds h₀) (F : Fr h₀ env.locals H m) (en : mg x = some (.ref f)) (X : FnAt h₀ f i qual cd)
    (h : wpAny (model prog w) A (spliced (backTo pos (starEach (e :: rest) env))) (fun vs s₁ => Ext h₀ s₁.heap ∧ wpAny (model prog w) A (call (.ref f) vs) Q E s₁) E { s with heap := H, toks := t })
    (he : starEach (e :: rest) env = (false, eval e env) :: starEach rest env := by rfl)
    (hk : env.scope.kind = .function := by rfl) (hx : env.kindOf x = some .globalImplicit := by rfl) (hd : (x == ("__debug__" : Str)) = false := by decide) (hg : env.globals = mainGlobals := by rfl) (hb : env.builtins = builtinsNs := by rfl) :
    wpAny (model prog w) A (eval (.Call (.Name x p) (e :: rest) [] pos) env) Q E { s with heap := H, toks := t } := by
  obtain ⟨o, nm, doc, pm, an, ct, ho, hdt, _⟩ := X
  refine Call_ (gname T F en ?_ hk hx hd hg hb) rfl
  exact callWith_def hdt (wpAny_mono h (fun vs s₁ h₁ => ⟨h₁.1 _ _ ho, h₁.2⟩) fun _ _ x => x) he
/-- a call of a built-in function by its name -/
theorem callBi {x : Str} {p pos : Pos} {e : Expr} {rest : List Expr} {id : String} (T : Tp mg mb cds h₀) (F : Fr h₀ env.locals H m) (hn : x ∈ (["int", "abs", "divmod", "isinstance", "tuple", "zip", "range", "sum", "len", "bytes", "enumerate"] : List Str)) (hv : bootBuiltins x = some (.builtin id))
    (h : wpAny (model prog w) A (spliced (backTo pos (starEach (e :: rest) env))) (fun vs s₁ => wpAny (model prog w) A (call (.builtin id) vs) Q E s₁) E { s with heap := H, toks := t })
    (he : starEach (e :: rest) env = (false, eval e env) :: starEach rest env := by rfl)
    (hplain : (backTo pos (starEach rest env)).any (·.1) = false := by rfl)
    (hnn : x ≠ "__name__" := by decide) (hk : env.scope.kind = .function := by rfl) (hx : env.kindOf x = some .globalImplicit := by rfl) (hd : (x == ("__debug__" : Str)) = false := by decide) (hg : env.globals = mainGlobals := by rfl) (hb : env.builtins = builtinsNs := by rfl) :
    wpAny (model prog w) A (eval (.Call (.Name x p) (e :: rest) [] pos) env) Q E { s with heap := H, toks := t } :=
  Call_ (bname T F hn hv (callWith_builtin1 h he hplain) hnn hk hx hd hg hb) rfl
/-- a call of a built-in class by its name -/
theorem callTy {x : Str} {p pos : Pos} {e : Expr} {rest : List Expr} {id : String} (T : Tp mg mb cds h₀) (F : Fr h₀ env.locals H m) (hn : x ∈ (["int", "abs", "divmod", "isinstance", "tuple", "zip", "range", "sum", "len", "bytes", "enumerate"] : List Str)) (hv : bootBuiltins x = some (.type id))
    (h : wpAny (model prog w) A (spliced (backTo pos (starEach (e :: rest) env))) (fun vs s₁ => wpAny (model prog w) A (call (.type id) vs) Q E s₁) E { s with heap := H, toks := t })
    (he : starEach (e :: rest) env = (false, eval e env) :: starEach rest env := by rfl)
    (hplain : (backTo pos (starEach rest env)).any (·.1) = false := by rfl)
    (hnn : x ≠ "__name__" := by decide) (hk : env.scope.kind = .function := by rfl) (hx : env.kindOf x = some .globalImplicit := by rfl) (hd : (x == ("__debug__" : Str)) = false := by decide) (hg : env.globals = mainGlobals := by rfl) (hb : env.builtins = builtinsNs := by rfl) :
    wpAny (model prog w) A (eval (.Call (.Name x p) (e :: rest) [] pos) env) Q E { s with heap := H, toks := t } :=
  Call_ (bname T F hn hv (callWith_type1 h he hplain) hnn hk hx hd hg hb) rfl
theorem boot_int : bootBuiltins "int" = some (.type "int") := by boot_by_name
theorem boot_abs : bootBuiltins "abs" = some (.builtin "abs") := by boot_by_name
theorem boot_divmod : bootBuiltins "divmod" = some (.builtin "divmod") := by boot_by_name
theorem boot_isinstance : bootBuiltins "isinstance" = some (.builtin "isinstance") := by boot_by_name
theorem boot_tuple : bootBuiltins "tuple" = some (.type "tuple") := by boot_by_name
theorem boot_range : bootBuiltins "range" = some (.type "range") := by boot_by_name
theorem boot_sum : bootBuiltins "sum" = some (.builtin "sum") := by boot_by_name
theorem boot_len : bootBuiltins "len" = some (.builtin "len") := by boot_by_name
theorem boot_bytes : bootBuiltins "bytes" = some (.type "bytes") := by boot_by_name
theorem boot_enumerate : bootBuiltins "enumerate" = some (.type "enumerate") := by boot_by_name
/-- d[k] = v, d of the ledger -/
theorem setD {own rest : List (Addr × Obj)} {d : Addr} {o : Obj} {kvs : List (Int × Value)} {k : Int} {u : Tok} {v : Value} {Q : Unit → Shared → Prop} (F : Fr h₀ env.locals H m) (N : News h₀ env.locals H (own ++ (d, o) :: rest)) (h1 : ∀ p ∈ own, p.1 ≠ d) (h2 : ∀ p ∈ rest, p.1 ≠ d)
    (hd : o.IsDictOf (intKind prog w) kvs) (hsz : kvs.length ≤ 10000)
    (h : ∀ h' o' t', Fr h₀ env.locals h' m → News h₀ env.locals h' (own ++ (d, o') :: rest) → o'.IsDictOf (intKind prog w) (stored kvs k v) → Q () { s with heap := h', toks := t' }) :
    wpAny (model prog w) A (setItem (.ref d) (.int k u) v) Q E { s with heap := H, toks := t } := by
  have hm := N (d, o) (List.mem_append_right _ (.head _))
  refine wpAny_setItem_pairs (s := { s with heap := H, toks := t }) (hsz := by rw [sizeLine_eq]; omega) (intKind_is prog w k u) (Heap.dictOf_iff.mpr ⟨o, hm.1, hd⟩) fun h' hmm hs => ?_
  obtain ⟨o', ho', hd'⟩ := Heap.dictOf_iff.mp hmm
  exact h h' o' _ (F.change hs hm.2.1 hm.2.2) (N.setIn h1 h2 hs ho') hd'
end
end Mine

namespace Mine
set_option maxRecDepth 100000

/-- dicts of ints -/
inductive IV : List (Int × Value) → List (Int × Int) → Prop
  | nil : IV [] []
  | cons (k v : Int) (t : Tok) {kvs es} : IV kvs es → IV ((k, .int v t) :: kvs) ((k, v) :: es)
theorem IV.length {kvs es} (h : IV kvs es) : kvs.length = es.length := by
  induction h with
  | nil => rfl
  | cons _ _ _ _ ih => simp [ih]
theorem IV.keys {kvs es} (h : IV kvs es) : kvs.map (·.1) = es.map (·.1) := by
  induction h with
  | nil => rfl
  | cons _ _ _ _ ih => simp [ih]
theorem IV.get {kvs es} (h : IV kvs es) : ∀ {i : Nat} {k : Int} {x : Value}, kvs[i]? = some (k, x) → ∃ v t, x = .int v t ∧ es[i]? = some (k, v) := by
  induction h with
  | nil => intro i k x e; simp at e
  | cons k v t _ ih =>
    intro i k' x e
    cases i with
    | zero => simp at e; obtain ⟨rfl, rfl⟩ := e; exact ⟨v, t, rfl, rfl⟩
    | succ i => simp at e; obtain ⟨v, t, e1, e2⟩ := ih e; exact ⟨v, t, e1, by simpa using e2⟩
def hasK (es : List (Int × Int)) (k : Int) : Bool := es.any fun e => decide (e.1 = k)
def getK (es : List (Int × Int)) (k : Int) : Int := match es.find? (fun e => decide (e.1 = k)) with
  | some e => e.2
  | none => 0
def putK (es : List (Int × Int)) (k v : Int) : List (Int × Int) := if hasK es k then es.map (fun e => if e.1 = k then (e.1, v) else e) else es ++ [(k, v)]
def bump (es : List (Int × Int)) (k v : Int) : List (Int × Int) := if hasK es k then putK es k (getK es k + v) else putK es k v
def addC (es fs : List (Int × Int)) : List (Int × Int) := fs.foldl (fun a e => bump a e.1 e.2) es
theorem IV.append {kvs es} (h : IV kvs es) (k v : Int) (t : Tok) : IV (kvs ++ [(k, .int v t)]) (es ++ [(k, v)]) := by
  induction h with
  | nil => exact .cons k v t .nil
  | cons k' v' t' _ ih => exact .cons k' v' t' ih
theorem IV.any {kvs es} (h : IV kvs es) (k : Int) : kvs.any (fun e => decide (e.1 = k)) = hasK es k := by
  induction h with
  | nil => rfl
  | cons _ _ _ _ ih => simp only [hasK, List.any_cons] at ih ⊢; rw [ih]
theorem IV.stored {kvs es} (h : IV kvs es) (k v : Int) (t : Tok) : IV (PySem.stored kvs k (.int v t)) (putK es k v) := by
  unfold PySem.stored putK
  rw [h.any]
  split
  · rename_i hh; clear hh
    induction h with
    | nil => exact .nil
    | cons k' v' t' _ ih =>
      simp only [List.map_cons]
      by_cases hk : k' = k
      · simp only [hk, if_true]; exact .cons _ _ _ ih
      · simp only [hk, if_false]; exact .cons _ _ _ ih
  · exact h.append k v t
theorem IV.valueAt {kvs es} (h : IV kvs es) (k : Int) : (PySem.valueAt kvs k).isSome = hasK es k ∧ (hasK es k = true → ∃ t, PySem.valueAt kvs k = some (.int (getK es k) t)) := by
  unfold PySem.valueAt hasK getK
  induction h with
  | nil => simp
  | cons k' v' t' _ ih =>
    by_cases hk : k' = k
    · simp [hk]
    · simp only [List.find?_cons, List.any_cons, decide_eq_false hk, Bool.false_or] at ih ⊢; exact ih

theorem putK_length (es : List (Int × Int)) (k v : Int) : (putK es k v).length ≤ es.length + 1 := by
  unfold putK; split <;> simp
theorem bump_length (es : List (Int × Int)) (k v : Int) : (bump es k v).length ≤ es.length + 1 := by
  unfold bump; split <;> exact putK_length ..
theorem addC_length (es fs : List (Int × Int)) : (addC es fs).length ≤ es.length + fs.length := by
  unfold addC
  induction fs generalizing es with
  | nil => simp
  | cons f fs ih => simp only [List.foldl_cons, List.length_cons]; have := ih (bump es f.1 f.2); have := bump_length es f.1 f.2; omega
variable {prog : Program} {w : World}
def DObj (prog : Program) (w : World) (o : Obj) (es : List (Int × Int)) : Prop := ∃ kvs, o.IsDictOf (intKind prog w) kvs ∧ IV kvs es
/-- a dict of ints stands at d -/
structure DAt (prog : Program) (w : World) (h : Heap) (d : Addr) (es : List (Int × Int)) : Prop where
  sm : (d == sysModules) = false
  at_ : ∃ o, h.get? d = some o ∧ DObj prog w o es
theorem DAt.keeps {h h' : Heap} {d es} (x : DAt prog w h d es) (k : Ext h h') : DAt prog w h' d es := ⟨x.sm, let ⟨o, a, b⟩ := x.at_; ⟨o, k _ _ a, b⟩⟩

theorem stored_take {kvs : List (Int × Value)} (hn : (kvs.map (·.1)).Nodup) {i : Nat} {k : Int} {x : Value} (hx : kvs[i]? = some (k, x)) : PySem.stored (kvs.take i) k x = kvs.take (i + 1) := by
  have hlt : i < kvs.length := (List.getElem?_eq_some_iff.mp hx).1
  have hnot : ¬ ((kvs.take i).any fun e => decide (e.1 = k)) = true := by
    intro h
    obtain ⟨e, he, hk⟩ := List.any_eq_true.mp h
    obtain ⟨j, hj, rfl⟩ := List.getElem_of_mem he
    have hj' : j < i := by simp at hj; omega
    have h1 : (kvs.map (·.1))[j]'(by simp; omega) = k := by simpa using hk
    have h2 : (kvs.map (·.1))[i]'(by simp; omega) = k := by
      have := (List.getElem?_eq_some_iff.mp hx).2
      simp [this]
    exact absurd ((List.getElem_inj (h₀ := by simp; omega) (h₁ := by simp; omega) hn).mp (h1.trans h2.symm)) (by omega)
  unfold PySem.stored
  rw [if_neg hnot, List.take_add_one, hx]
  rfl

def acEnv (L : Addr) (cd : Value) : Env := envX "add_callers" (scopeOf (dfn 1)) L 21 cd []

theorem ac_spec {mg mb cds} {A : Around} {s : Shared} {a b : Addr} {ta tb : List (Int × Int)} (T : Tp mg mb cds s.heap) (r : Room A 2) (ha : DAt prog w s.heap a ta) (hb : DAt prog w s.heap b tb) (hz : ta.length + tb.length ≤ 1000) :
    Pure prog w A (.ref 21) [.ref a, .ref b] s (fun v tl => ∃ d o, v = .ref d ∧ (d == sysModules) = false ∧ (d, o) ∈ tl ∧ DObj prog w o (addC ta tb)) := by
  refine pure_enter (binds := [("target", .ref a), ("source", .ref b)]) T.fac T.lim (by have := r.dp; omega) (fun _ _ _ _ _ => rfl) (by decide) (locs rfl) rfl rfl rfl fun h₁ F => ?_
  have r1 := r.deeper (envX "add_callers" (scopeOf (dfn 1)) s.heap.objs.size 21 (cds 1) [])
  generalize A.deeper (envX "add_callers" (scopeOf (dfn 1)) s.heap.objs.size 21 (cds 1) []) = A1 at r1 ⊢
  have T0 := T
  conv in bodyOf (dfn 1) => whnf
  refine wpAny_execs_cons ?_
  refine wpAny_Assign_Name ?_
  refine newDict_K F News.nil T.lim fun d h₂ o F2 N2 _ dsm _ _ hd0 _ => ?_
  refine storeX_L F2 N2 fun h₃ F3 N3 => ?_
  dsimp only
  refine wpAny_execs_cons ?_
  refine For_turns F3 ?_
  obtain ⟨oa, hoa, kva, hda, hva⟩ := ha.at_
  obtain ⟨ob, hob, kvb, hdb, hvb⟩ := hb.at_
  have hLa : a ≠ s.heap.objs.size := Nat.ne_of_lt (Heap.lt_size hoa)
  have hLb : b ≠ s.heap.objs.size := Nat.ne_of_lt (Heap.lt_size hob)
  have hda3 : h₃.DictOf (intKind prog w) a kva := Heap.dictOf_iff.mpr ⟨oa, F3.keep _ _ hoa, hda⟩
  refine wpAny_Call_items ha.sm hda3 rfl rfl (fun Q' hq => nameX_L F3 rfl hq) ?_
  obtain ⟨ep, hat⟩ := hda3.dictAt
  have nda : kva.length ≤ 1000 := by have := hva.length; omega
  have ndk : (kva.map (·.1)).Nodup := let ⟨_, _, _, _, _, _, q⟩ := hda; q
  have dfr : s.heap.get? d = none := (N3 (d, o) (.head _)).2.2
  refine iter_items (s := s) (d := a) (kvs := kva) (ep := ep) r1.hh ⟨_, Heap.get?_push_size _ rfl, rfl, rfl⟩ (hat.push _) hLa (F3.push _) (fun p hp => ⟨Heap.get?_push_of_some _ (N3 p hp).1, (N3 p hp).2⟩)
    (fun i m nw => (∃ o, nw = [(d, o)] ∧ o.IsDictOf (intKind prog w) (kva.take i)) ∧ m "new_callers" = some (.ref d) ∧ m "source" = some (.ref b)) ⟨⟨o, rfl, hd0⟩, rfl, rfl⟩ ?_ ?_
  · rintro i v Tu k t x m₁ news₁ h₁' tk₁ own I oi hx rfl hT ⟨⟨o₁, rfl, hd1⟩, hm1, hm2⟩ hoff hIo hsub F4 N4
    refine assignPair r1.hh hT F4 N4 fun h5 t5 F5 N5 => ?_
    refine wpAny_execs_cons ?_
    refine wpAny_Assign_Subscript ?_
    refine nameX_L F5 rfl ?_
    refine nameX_L F5 (v := .ref d) hm1 ?_
    refine nameX_L F5 rfl ?_
    refine setD F5 N5 (fun p hp e => ?_) (fun p hp => nomatch hp) hd1 (by simp; omega) fun h6 o6 t6 F6 N6 hd6 => ?_
    · rcases hsub p hp with q | q
      · exact hoff (d, o₁) (.head _) (by rw [← q, e])
      · rw [← e, q, hoa] at dfr; cases dfr
    dsimp only
    refine wpAny_execs_nil ?_
    refine ⟨rfl, h6, t6, _, [(d, o6)], rfl, F6, N6, (fun p hp => by rw [List.mem_singleton.mp hp]; exact hoff (d, o₁) (.head _)), ⟨o6, rfl, ?_⟩, ?_, ?_⟩
    · rw [stored_take ndk hx] at hd6; exact hd6
    · exact hm1
    · exact hm2
  · rintro h4 t4 m4 news4 F4 N4 ⟨⟨o4, rfl, hd4⟩, hm4, hm5⟩
    rw [List.take_length] at hd4
    dsimp only
    refine wpAny_execs_cons ?_
    refine For_turns F4 ?_
    have hdb4 : h4.DictOf (intKind prog w) b kvb := Heap.dictOf_iff.mpr ⟨ob, F4.keep _ _ hob, hdb⟩
    refine wpAny_Call_items hb.sm hdb4 rfl rfl (fun Q' hq => nameX_L F4 hm5 hq) ?_
    obtain ⟨epb, hatb⟩ := hdb4.dictAt
    refine iter_items (s := s) (d := b) (kvs := kvb) (ep := epb) r1.hh ⟨_, Heap.get?_push_size _ rfl, rfl, rfl⟩ (hatb.push _) hLb (F4.push _) (fun p hp => ⟨Heap.get?_push_of_some _ (N4 p hp).1, (N4 p hp).2⟩)
      (fun i m nw => (∃ o, nw = [(d, o)] ∧ DObj prog w o (addC ta (tb.take i))) ∧ m "new_callers" = some (.ref d)) ⟨⟨o4, rfl, kva, hd4, hva⟩, hm4⟩ ?_ ?_
    · rintro i v Tu k t x m₁ news₁ h₁' tk₁ own I oi hx rfl hT ⟨⟨o₁, rfl, kv1, hd1, hv1⟩, hm1⟩ hoff hIo hsub F5 N5
      have hne : ∀ p ∈ own, p.1 ≠ d := fun p hp e => by
        rcases hsub p hp with q | q
        · exact hoff (d, o₁) (.head _) (by rw [← q, e])
        · rw [← e, q, hob] at dfr; cases dfr
      obtain ⟨y, ty, rfl, hy⟩ := hvb.get hx
      have hsz : kv1.length ≤ 10000 := by
        rw [hv1.length]; have := addC_length ta (tb.take i); have := List.length_take_le' i tb; omega
      have hstep : addC ta (tb.take (i + 1)) = bump (addC ta (tb.take i)) k y := by
        rw [List.take_add_one, hy]; simp [addC]
      refine assignPair r1.hh hT F5 N5 fun h6 t6 F6 N6 => ?_
      refine wpAny_execs_cons ?_
      refine wpAny_If ?_
      refine wpAny_isTrue_Compare1 ?_
      refine nameX_L F6 rfl ?_
      refine nameX_L F6 (v := .ref d) hm1 ?_
      have hD6 : h6.DictOf (intKind prog w) d kv1 := Heap.dictOf_iff.mpr ⟨o₁, (N6 _ (List.mem_append_right _ (.head _))).1, hd1⟩
      refine wpAny_in_of (s := { s with heap := h6, toks := t6 }) (intKind_is prog w k t) dsm hD6.mapOf ?_
      rw [(hv1.valueAt k).1]
      refine wpAny_truthy_bool ?_
      cases hk : hasK (addC ta (tb.take i)) k with
      | true =>
        rw [if_pos rfl]
        refine wpAny_execs_cons ?_
        refine wpAny_If ?_
        refine isTrue_plain ?_
        refine callBi T F6 (by decide) boot_isinstance ?_
        refine args_cons ?_
        refine nameX_L F6 rfl ?_
        refine args_cons ?_
        refine bname T F6 (by decide) boot_tuple ?_
        refine args_nil ?_
        refine IsiPair.int_tuple ?_
        refine wpAny_truthy_bool ?_
        rw [if_neg Bool.false_ne_true]
        refine wpAny_execs_cons ?_
        refine wpAny_AugAssign_Subscript ?_
        refine nameX_L F6 (v := .ref d) hm1 ?_
        refine nameX_L F6 rfl ?_
        obtain ⟨tv, hval⟩ := (hv1.valueAt k).2 hk
        refine wpAny_getItem_of (intKind_is prog w k t) hD6.mapOf hval ?_
        refine nameX_L F6 rfl ?_
        refine iadd_int ?_
        dsimp only
        refine setD F6 N6 hne (fun p hp => nomatch hp) hd1 hsz fun h7 o7 t7 F7 N7 hd7 => ?_
        refine wpAny_execs_nil ?_
        dsimp only
        refine wpAny_execs_nil ?_
        dsimp only
        refine wpAny_execs_nil ?_
        refine ⟨rfl, h7, t7, _, [(d, o7)], rfl, F7, N7, (fun p hp => by rw [List.mem_singleton.mp hp]; exact hoff (d, o₁) (.head _)), ⟨o7, rfl, _, hd7, ?_⟩, hm1⟩
        rw [hstep, bump, if_pos hk]
        exact hv1.stored k _ _
      | false =>
        rw [if_neg Bool.false_ne_true]
        refine wpAny_execs_cons ?_
        refine wpAny_Assign_Subscript ?_
        refine nameX_L F6 rfl ?_
        refine nameX_L F6 (v := .ref d) hm1 ?_
        refine nameX_L F6 rfl ?_
        refine setD F6 N6 hne (fun p hp => nomatch hp) hd1 hsz fun h7 o7 t7 F7 N7 hd7 => ?_
        dsimp only
        refine wpAny_execs_nil ?_
        dsimp only
        refine wpAny_execs_nil ?_
        refine ⟨rfl, h7, t7, _, [(d, o7)], rfl, F7, N7, (fun p hp => by rw [List.mem_singleton.mp hp]; exact hoff (d, o₁) (.head _)), ⟨o7, rfl, _, hd7, ?_⟩, hm1⟩
        rw [hstep, bump, if_neg (by rw [hk]; exact Bool.false_ne_true)]
        exact hv1.stored k _ _
    · rintro h5 t5 m5 news5 F5 N5 ⟨⟨o5, rfl, hd5⟩, hm6⟩
      have : tb.take kvb.length = tb := by rw [hvb.length]; exact List.take_length
      rw [this] at hd5
      dsimp only
      refine wpAny_execs_cons ?_
      refine wpAny_Return_some ?_
      refine nameX_L F5 hm6 ?_
      dsimp only
      exact ⟨h5, t5, [(d, o5)], rfl, F5.keep, Nat.le_of_lt F5.ns.lt, fun p hp => ⟨(N5 p hp).1, (N5 p hp).2.2⟩, d, o5, rfl, dsm, .head _, hd5⟩
end Mine

namespace Mine
set_option maxRecDepth 100000
section
variable {prog : Program} {w : World} {A : Around} {E : Value → Shared → Prop} {s : Shared} {env : Env} {h₀ H : Heap} {t : Nat} {target : Expr} {body : List Stmt} {m : Str → Option Value} {news : List (Addr × Obj)}
theorem call_values {o : Expr} {apos pos : Pos} {d : Addr} {kvs : List (Int × Value)} {Q : Value → Shared → Prop} (hdS : (d == sysModules) = false) (hm : s.heap.DictOf (intKind prog w) d kvs)
    (ho : ∀ Q', Q' (.ref d) s → wpAny (model prog w) A (eval o env) Q' E s)
    (hQ : Q (.ref s.heap.objs.size) { s with heap := s.heap.push { cls := .type "dict_values", data := .fields #[.ref d] } })
    (hbase : attributeBase o "values" env (eval o env) = eval o env := by rfl) (hline : (apos.endLine == pos.line) = true := by rfl) :
    wpAny (model prog w) A (eval (.Call (.Attribute o "values" apos) [] [] pos) env) Q E s := by
  refine wpAny_Call_method (T := "dict") (id := "dict.values") hbase rfl hline F.plainAttrs_dict F.slot_dict_values F.type_dict_values (ho _ ⟨hm.typeIs, hm.mapOf.noDict, ?_⟩)
  show wpAny _ _ (callWith pos (.builtin "dict.values") [.ref d] [] []) Q E s
  exact method_meetsIn F.slot_dict_values F.entry_dict_values rfl (PyProof.Rows.evalArgs_none ⟨rfl, hm.typeIs, F.args_dict_values_1 _, _, meets_dict_values (intKind prog w) d hdS, ⟨kvs, hm⟩, hQ⟩)
/-- for v in d.values() -/
theorem iter_values {Q : Flow → Shared → Prop} {d vw : Addr} {ep : Nat} {kvs : List (Int × Value)} (hh : A.handled = none) (hvw : H.IsValuesView vw d) (hd : H.DictAt (intKind prog w) d kvs ep) (hdL : d ≠ env.locals)
    (F : Fr h₀ env.locals H m) (N : News h₀ env.locals H news) (J : Nat → (Str → Option Value) → List (Addr × Obj) → Prop) (h0 : J 0 m news)
    (step : ∀ i k x m₁ news₁ h₁ tk₁ own I oi, kvs[i]? = some (k, x) → J i m₁ news₁ → (∀ p ∈ news₁, p.1 ≠ I) → (I, oi) ∈ own → (∀ p ∈ own, p.1 = I ∨ p.1 = d) →
      Fr h₀ env.locals h₁ m₁ → News h₀ env.locals h₁ (own ++ news₁) →
      wpAny (model prog w) A (assign target env x) (fun _ s₃ => wpAny (model prog w) A (execs body env) (StepEnd h₀ env.locals I s own (J (i + 1))) (fun _ _ => False) s₃) (fun _ _ => False) { s with heap := h₁, toks := tk₁ })
    (done : ∀ h' tk m' news', Fr h₀ env.locals h' m' → News h₀ env.locals h' news' → J kvs.length m' news' → Q .next { s with heap := h', toks := tk }) :
    wpAny (model prog w) A (pyIter (.ref vw)) (fun it s₂ => TurnsAt prog w A h₀ env target body Q E it s₂) E { s with heap := H, toks := t } := by
  refine wpAny_pyIter_values (s := { s with heap := H, toks := t }) hvw hd ?_
  have hne : d ≠ H.objs.size := Nat.ne_of_lt hd.lt_size
  refine turns_of (s := s) (KTurns.ofWalks (Walks.dictValues (knd := intKind prog w) hh H.objs.size d hne kvs ep) fun i v s Q E st q => letGo_valiter st.1 q) ?_ ⟨⟨_, Heap.get?_push_size _ rfl, rfl, rfl⟩, hd.push _⟩ (next_is_new F) (fun i h st => ?_) (fun p hp => Nat.ne_of_lt (Heap.lt_size (N p hp).1)) (F.push _) (fun p hp => ⟨Heap.get?_push_of_some _ (N p hp).1, (N p hp).2⟩) J h0 ?_ ?_
  · intro hm
    rcases List.mem_cons.mp hm with e | hm
    · exact absurd F.ns.lt (e ▸ Nat.lt_irrefl _)
    · exact hdL (List.mem_singleton.mp hm).symm
  · obtain ⟨⟨o, ho, _⟩, _⟩ := st; exact ⟨o, ho⟩
  · rintro i v m₁ news₁ h₁ tk₁ own oi hi ⟨k, hx⟩ hJ hoff hIo hsub hall F₁ N₁
    exact step i k v m₁ news₁ h₁ tk₁ own _ oi hx hJ hoff hIo (fun p hp => by simpa using hsub p hp) F₁ N₁
  · intro h' tk m' news' F' N' _ hJ
    exact done h' tk m' news' F' N' hJ
end
def sumV (es : List (Int × Int)) : Int := es.foldl (fun a e => a + e.2) 0
theorem cc_spec {prog : Program} {w : World} {mg mb cds} {A : Around} {s : Shared} {a : Addr} {ta : List (Int × Int)} (T : Tp mg mb cds s.heap) (r : Room A 2) (ha : DAt prog w s.heap a ta) :
    Pure prog w A (.ref 28) [.ref a] s (fun v _ => ∃ t, v = .int (sumV ta) t) := by
  refine pure_enter (binds := [("callers", .ref a)]) T.fcc T.lim (by have := r.dp; omega) (fun _ _ _ _ _ => rfl) (by decide) (locs rfl) rfl rfl rfl fun h₁ F => ?_
  have r1 := r.deeper (envX "count_calls" (scopeOf (dfn 2)) s.heap.objs.size 28 (cds 2) [])
  generalize A.deeper (envX "count_calls" (scopeOf (dfn 2)) s.heap.objs.size 28 (cds 2) []) = A1 at r1 ⊢
  conv in bodyOf (dfn 2) => whnf
  refine wpAny_execs_cons ?_
  refine wpAny_Assign_Name ?_
  refine wpAny_Constant_int ?_
  refine sto F News.nil fun h2 t2 F2 N2 => ?_
  dsimp only
  refine wpAny_execs_cons ?_
  refine For_turns F2 ?_
  obtain ⟨oa, hoa, kva, hda, hva⟩ := ha.at_
  have hLa : a ≠ s.heap.objs.size := Nat.ne_of_lt (Heap.lt_size hoa)
  have hda2 : h2.DictOf (intKind prog w) a kva := Heap.dictOf_iff.mpr ⟨oa, F2.keep _ _ hoa, hda⟩
  refine call_values ha.sm hda2 (fun Q' hq => nameX_L F2 rfl hq) ?_
  obtain ⟨ep, hat⟩ := hda2.dictAt
  refine iter_values (s := s) r1.hh ⟨_, Heap.get?_push_size _ rfl, rfl, rfl⟩ (hat.push _) hLa (F2.push _) News.nil
    (fun i m nw => nw = [] ∧ ∃ t, m "nc" = some (.int (sumV (ta.take i)) t)) ⟨rfl, _, rfl⟩ ?_ ?_
  · rintro i k x m₁ news₁ h3 t3 own I oi hx ⟨rfl, tn, hm1⟩ hoff hIo hsub F3 N3
    obtain ⟨y, ty, rfl, hy⟩ := hva.get hx
    refine wpAny_assign_Name (sto F3 N3 fun h4 t4 F4 N4 => ?_)
    refine wpAny_execs_cons ?_
    refine wpAny_AugAssign_Name ?_
    refine wpAny_loadName_local (by rfl) (by rfl) F4.ns (v := .int (sumV (ta.take i)) tn) hm1 ?_
    refine nameX_L F4 rfl ?_
    refine iadd_int ?_
    refine sto F4 N4 fun h5 t5 F5 N5 => ?_
    dsimp only
    refine wpAny_execs_nil ?_
    refine ⟨rfl, h5, t5, _, [], rfl, F5, N5, (fun p hp => nomatch hp), rfl, t4, ?_⟩
    have : sumV (ta.take (i + 1)) = sumV (ta.take i) + y := by rw [List.take_add_one, hy]; simp [sumV]
    rw [this]; rfl
  · rintro h3 t3 m3 news3 F3 N3 ⟨rfl, tn, hm3⟩
    dsimp only
    refine wpAny_execs_cons ?_
    refine wpAny_Return_some ?_
    refine nameX_L F3 hm3 ?_
    dsimp only
    exact ⟨h3, t3, [], rfl, F3.keep, Nat.le_of_lt F3.ns.lt, (fun p hp => nomatch hp), tn, by rw [hva.length, List.take_length]⟩
end Mine

namespace Mine
set_option maxRecDepth 100000

theorem snocRec {motive : List Int → Prop} (nil : motive []) (snoc : ∀ p x, motive p → motive (p ++ [x])) (l : List Int) : motive l := by
  have : ∀ n, ∀ l : List Int, l.length = n → motive l := by
    intro n
    induction n with
    | zero => intro l h; rw [List.length_eq_zero_iff.mp h]; exact nil
    | succ n ih =>
      intro l h
      have hne : l ≠ [] := by intro e; simp [e] at h
      rw [← List.dropLast_concat_getLast hne]
      exact snoc _ _ (ih _ (by simp [h]))
  exact this _ l rfl
/-- the number to the base 16 -/
def numOf (ds : List Int) : Int := ds.foldl (fun a d => 16 * a + d) 0
theorem numOf_snoc (p : List Int) (x : Int) : numOf (p ++ [x]) = 16 * numOf p + x := by simp [numOf]
theorem numOf_nonneg (ds : List Int) (h : ∀ d ∈ ds, 0 ≤ d ∧ d < 16) : 0 ≤ numOf ds := by
  induction ds using snocRec with
  | nil => simp [numOf]
  | snoc p x ih =>
    rw [numOf_snoc]
    have := ih fun d hd => h d (List.mem_append_left _ hd)
    have := h x (by simp)
    omega
theorem numOf_pos (ds : List Int) (h : ∀ d ∈ ds, 0 < d ∧ d < 16) (hne : ds ≠ []) : 0 < numOf ds := by
  induction ds using snocRec with
  | nil => exact absurd rfl hne
  | snoc p x ih =>
    rw [numOf_snoc]
    have := numOf_nonneg p fun d hd => ⟨Int.le_of_lt (h d (List.mem_append_left _ hd)).1, (h d (List.mem_append_left _ hd)).2⟩
    have := h x (by simp)
    omega
theorem fdiv16 {a x : Int} (h0 : 0 ≤ a) (hx : 0 ≤ x ∧ x < 16) : (16 * a + x).fdiv 16 = a ∧ (16 * a + x).fmod 16 = x := by
  rw [Int.fdiv_eq_ediv_of_nonneg _ (by decide), Int.fmod_eq_emod_of_nonneg _ (by decide)]
  omega
def apBytes : List Int := [65, 66, 67, 68, 69, 70, 71, 72, 73, 74, 75, 76, 77, 78, 79, 80]
theorem ap_cut {x : Int} (h : 0 < x ∧ x < 16) : (apBytes.drop (clipAt 16 x)).take (clipAt 16 (x + 1) - clipAt 16 x) = [65 + x] := by
  have : ∀ n : Fin 16, (apBytes.drop (clipAt 16 (n.val : Int))).take (clipAt 16 ((n.val : Int) + 1) - clipAt 16 (n.val : Int)) = [65 + (n.val : Int)] := by decide +kernel
  have q := this ⟨x.toNat, by omega⟩
  have e : ((x.toNat : Nat) : Int) = x := by omega
  simp only [e] at q
  exact q

theorem ap_spec {prog : Program} {w : World} {mg mb cds} {A : Around} {s : Shared} {n : Int} {tn : Tok} {ds : List Int} (T : Tp mg mb cds s.heap) (r : Room A 2) (hd : ∀ d ∈ ds, 0 < d ∧ d < 16) (hz : ds.length ≤ 100) (hn : n = numOf ds ∨ n = - numOf ds) :
    Pure prog w A (.ref 35) [.int n tn] s (fun v _ => ∃ b t, v = .bytes b t ∧ KBw.bInts b = ds.map (65 + ·)) := by
  have hnn : 0 ≤ numOf ds := numOf_nonneg ds fun d h => ⟨Int.le_of_lt (hd d h).1, (hd d h).2⟩
  refine pure_enter (binds := [("num", .int n tn)]) T.fap T.lim (by have := r.dp; omega) (fun _ _ _ _ _ => rfl) (by decide) (locs rfl) rfl rfl rfl fun h₁ F => ?_
  have r1 := r.deeper (envX "Int2AP" (scopeOf (dfn 4)) s.heap.objs.size 35 (cds 4) [])
  generalize A.deeper (envX "Int2AP" (scopeOf (dfn 4)) s.heap.objs.size 35 (cds 4) []) = A1 at r1 ⊢
  conv in bodyOf (dfn 4) => whnf
  refine wpAny_execs_cons ?_
  refine wpAny_Assign_Name ?_
  refine Constant_bytes ?_
  refine sto F News.nil fun h2 t2 F2 N2 => ?_
  try dsimp only
  refine wpAny_execs_cons ?_
  refine wpAny_Assign_Name ?_
  refine Constant_bytes ?_
  refine sto F2 N2 fun h3 t3 F3 N3 => ?_
  try dsimp only
  refine wpAny_execs_cons ?_
  refine wpAny_Assign_Name ?_
  refine callTy T F3 (by decide) boot_int ?_
  refine args_cons ?_
  refine callBi T F3 (by decide) boot_abs ?_
  refine args_cons ?_
  refine nameX_L F3 rfl ?_
  refine args_nil ?_
  refine call_abs_int fun u4 t4 => ?_
  refine args_nil ?_
  refine call_int_int ?_
  try dsimp only
  refine sto F3 N3 fun h5 t5 F5 N5 => ?_
  try dsimp only
  have hab : (if n < 0 then -n else n) = numOf ds := by rcases hn with rfl | rfl <;> split <;> omega
  rw [hab] at F5
  refine wpAny_execs_cons ?_
  refine While_inv (s := { s with heap := h5, toks := t5 }) (fun k m nw => nw = [] ∧ ∃ pre suf b tb tm, ds = pre ++ suf ∧ k = pre.length ∧ m "num" = some (.int (numOf pre) tm) ∧ m "val" = some (.bytes b tb) ∧ KBw.bInts b = suf.map (65 + ·) ∧ ∃ ta, m "AP" = some (.bytes #[65, 66, 67, 68, 69, 70, 71, 72, 73, 74, 75, 76, 77, 78, 79, 80] ta))
    (n₀ := ds.length) F5 N5 ⟨rfl, ds, [], _, _, _, (List.append_nil _).symm, rfl, rfl, rfl, rfl, _, rfl⟩ ?_
  rintro k m₁ news₁ h6 t6 F6 N6 ⟨rfl, pre, suf, b, tb, tm, hds, rfl, hm1, hm2, hb, ta, hm3⟩
  try dsimp only
  refine isTrue_plain ?_
  refine nameX_L F6 hm1 ?_
  refine P.truthy_int ?_
  induction pre using snocRec with
  | nil =>
    rw [if_neg (by simp [numOf])]
    refine wpAny_execs_cons ?_
    refine wpAny_Return_some ?_
    refine nameX_L F6 hm2 ?_
    try dsimp only
    exact ⟨h6, t6, [], rfl, F6.keep, Nat.le_of_lt F6.ns.lt, (fun p hp => nomatch hp), b, tb, rfl, by rw [hb, hds]; rfl⟩
  | snoc p x ih =>
    clear ih
    have hx : 0 < x ∧ x < 16 := hd x (by rw [hds]; simp)
    have hpn : 0 ≤ numOf p := numOf_nonneg p fun d h => by have := hd d (by rw [hds]; simp [h]); omega
    obtain ⟨e1, e2⟩ := fdiv16 hpn ⟨Int.le_of_lt hx.1, hx.2⟩
    rw [numOf_snoc] at hm1 ⊢
    rw [if_pos (by simp; omega)]
    refine wpAny_execs_cons ?_
    refine Assign_Tuple ?_
    refine callBi T F6 (by decide) boot_divmod ?_
    refine args_cons ?_
    refine nameX_L F6 hm1 ?_
    refine args_cons ?_
    refine wpAny_Constant_int ?_
    refine args_nil ?_
    refine divmod_N F6 N6 (by decide) (fun h7 F7 N7 => ?_) (.inl (PyProof.noPylong_small (by decide)))
    rw [e1, e2] at N7
    dsimp only at N7 ⊢
    refine assignPair r1.hh ⟨_, (N7 _ (.head _)).1, rfl, _, rfl⟩ F7 (News.nil) fun h8 t8 F8 N8 => ?_
    try dsimp only
    refine wpAny_execs_cons ?_
    refine wpAny_Assign_Name ?_
    refine wpAny_BinOp ?_
    refine Subscript_ ?_
    refine nameX_L F8 (v := .bytes #[65, 66, 67, 68, 69, 70, 71, 72, 73, 74, 75, 76, 77, 78, 79, 80] ta) hm3 ?_
    refine wpAny_Slice ?_
    refine wpAny_evalPart_some ?_
    refine nameX_L F8 rfl ?_
    refine wpAny_evalPart_some ?_
    refine wpAny_BinOp ?_
    refine nameX_L F8 rfl ?_
    refine wpAny_Constant_int ?_
    refine add_int ?_
    refine wpAny_evalPart_none ?_
    refine KBc.slice_K (s := { s with heap := h8, toks := t8 + 1 + 1 }) F8 N8 (ks := apBytes) rfl (IsPart.int x _) (IsPart.int (x + 1) _) (by decide) fun h9 t9 k9 F9 N9 hcut => ?_
    have hcut' : KBw.bInts (KBy.picked #[65, 66, 67, 68, 69, 70, 71, 72, 73, 74, 75, 76, 77, 78, 79, 80] (some x) (some (x + 1))) = [65 + x] := hcut.trans (ap_cut hx)
    generalize KBy.picked #[65, 66, 67, 68, 69, 70, 71, 72, 73, 74, 75, 76, 77, 78, 79, 80] (some x) (some (x + 1)) = cut at hcut' ⊢
    try dsimp only
    refine nameX_L F9 (v := .bytes b tb) hm2 ?_
    have sz1 : cut.size = 1 := by rw [← KBw.ints_length, hcut']; rfl
    have sz2 : b.size ≤ 100 := by rw [← KBw.ints_length, hb, List.length_map]; rw [hds] at hz; simp at hz; omega
    refine KBy.add_bytes (by omega) fun t10 k10 => ?_
    try dsimp only
    refine sto F9 N9 fun h11 t11 F11 N11 => ?_
    try dsimp only
    refine wpAny_execs_nil ?_
    refine WhileStep.intro (s := { s with heap := h5, toks := t5 }) F11 N11 (n' := p.length) (by simp) ⟨rfl, p, x :: suf, _, _, _, by rw [hds]; simp, rfl, rfl, rfl, ?_, ta, hm3⟩
    rw [KBw.ints_app hcut' hb]; rfl
end Mine

namespace Mine
set_option maxRecDepth 100000
/-- a list of ints stands at a -/
def LAt (h : Heap) (a : Addr) (ns : List Int) : Prop := ∃ vs, h.IsList a vs.toArray ∧ IntsAre vs ns
theorem LAt.keeps {h h' : Heap} {a ns} (x : LAt h a ns) (k : Ext h h') : LAt h' a ns := let ⟨vs, ⟨o, ho, r⟩, i⟩ := x; ⟨vs, ⟨o, k _ _ ho, r⟩, i⟩
theorem LAt.at {h h' : Heap} {a ns} (x : LAt h a ns) (k : ∀ o, h.get? a = some o → h'.get? a = some o) : LAt h' a ns := let ⟨vs, ⟨o, ho, r⟩, i⟩ := x; ⟨vs, ⟨o, k _ ho, r⟩, i⟩
theorem LAt.live {h : Heap} {a ns} (x : LAt h a ns) : ∃ o, h.get? a = some o := let ⟨_, ⟨o, ho, _⟩, _⟩ := x; ⟨o, ho⟩
theorem LAt.lt {h : Heap} {a ns} (x : LAt h a ns) : a < h.objs.size := let ⟨_, ho⟩ := x.live; Heap.lt_size ho
abbrev listO (vs : List Value) (n : Nat) : Obj := { cls := .type "list", data := .seq vs.toArray n }
/-- an object that is a list of ints -/
def LObj (o : Obj) (ns : List Int) : Prop := ∃ vs n, o = listO vs n ∧ IntsAre vs ns
theorem LObj.at {h : Heap} {a : Addr} {o : Obj} {ns} (x : LObj o ns) (e : h.get? a = some o) : LAt h a ns := by
  obtain ⟨vs, n, rfl, hi⟩ := x
  exact ⟨vs, ⟨_, e, rfl, n, rfl⟩, hi⟩
theorem intsAre_get {vs : List Value} {ns : List Int} (h : IntsAre vs ns) : ∀ {i : Nat} {x : Int}, ns[i]? = some x → ∃ t, vs[i]? = some (.int x t) := fun {i x} e => h.get i x e
theorem intsAre_inv {vs : List Value} {ns : List Int} (h : IntsAre vs ns) : ∀ {i : Nat} {v : Value}, vs[i]? = some v → ∃ x t, v = .int x t ∧ ns[i]? = some x := by
  induction h with
  | nil => intro i v e; simp at e
  | cons n t _ ih =>
    intro i v e
    cases i with
    | zero => simp at e; exact ⟨n, t, e.symm, rfl⟩
    | succ i => simp at e; obtain ⟨x, t, a, b⟩ := ih e; exact ⟨x, t, a, by simpa using b⟩
section
variable {prog : Program} {w : World} {A : Around} {E : Value → Shared → Prop} {s : Shared} {env : Env} {h₀ H : Heap} {t : Nat} {target : Expr} {body : List Stmt} {m : Str → Option Value} {news : List (Addr × Obj)}
/-- xs[k] -/
theorem itemL {value slice : Expr} {l : Addr} {ns : List Int} {k x : Int} {u : Tok} {Q : Value → Shared → Prop} (hl : LAt H l ns) (h0 : 0 ≤ k) (hk : k < 2 ^ 63) (hx : ns[k.toNat]? = some x)
    (h : ∀ t', Q (.int x t') { s with heap := H, toks := t })
    (hs : subscripted slice false (.ref l) (.int k u) = operate [.ref l, .int k u] (getItem (.ref l) (.int k u)) := by with_unfolding_all rfl) :
    wpAny (model prog w) A (subscriptTail value slice (.ref l) (.int k u)) Q E { s with heap := H, toks := t } := by
  obtain ⟨vs, hl, hi⟩ := hl
  obtain ⟨tx, hv⟩ := hi.get _ _ hx
  exact item_litK (s := { s with heap := H, toks := t }) hl h0 hk hv (h tx) hs
/-- for x in xs, any objects -/
theorem iter_listV {Q : Flow → Shared → Prop} {l : Addr} {vs : List Value} (hh : A.handled = none) (hl : H.IsList l vs.toArray) (hlL : l ≠ env.locals)
    (F : Fr h₀ env.locals H m) (N : News h₀ env.locals H news) (J : Nat → (Str → Option Value) → List (Addr × Obj) → Prop) (h0 : J 0 m news)
    (step : ∀ i v m₁ news₁ h₁ tk₁ own I oi, vs[i]? = some v → J i m₁ news₁ → (∀ p ∈ news₁, p.1 ≠ I) → (I, oi) ∈ own → (∀ p ∈ own, p.1 = I ∨ p.1 = l) → I ≠ l →
      Fr h₀ env.locals h₁ m₁ → News h₀ env.locals h₁ (own ++ news₁) →
      wpAny (model prog w) A (assign target env v) (fun _ s₃ => wpAny (model prog w) A (execs body env) (StepEnd h₀ env.locals I s own (J (i + 1))) (fun _ _ => False) s₃) (fun _ _ => False) { s with heap := h₁, toks := tk₁ })
    (done : ∀ h' tk m' news', Fr h₀ env.locals h' m' → News h₀ env.locals h' news' → J vs.length m' news' → Q .next { s with heap := h', toks := tk }) :
    wpAny (model prog w) A (pyIter (.ref l)) (fun it s₂ => TurnsAt prog w A h₀ env target body Q E it s₂) E { s with heap := H, toks := t } := by
  refine wpAny_pyIter_list (s := { s with heap := H, toks := t }) hl ?_
  obtain ⟨ol, hol, _⟩ := id hl
  have hne : l ≠ H.objs.size := Nat.ne_of_lt (Heap.lt_size hol)
  have W := KTurns.ofWalks (target := target) (Walks.list (prog := prog) (w := w) hh H.objs.size l hne vs.toArray) fun i v s Q E st q => letGo_listiter st.1 q
  refine turns_of (s := s) W ?_ ⟨⟨_, Heap.get?_push_size _ rfl, rfl, rfl⟩, hl.at fun o e => Heap.get?_push_of_some _ e⟩ (next_is_new F) (fun i h st => ?_) (fun p hp => Nat.ne_of_lt (Heap.lt_size (N p hp).1)) (F.push _) (fun p hp => ⟨Heap.get?_push_of_some _ (N p hp).1, (N p hp).2⟩) J h0 ?_ ?_
  · intro hm
    rcases List.mem_cons.mp hm with e | hm
    · exact absurd F.ns.lt (e ▸ Nat.lt_irrefl _)
    · exact hlL (List.mem_singleton.mp hm).symm
  · obtain ⟨⟨o, ho, _⟩, _⟩ := st; exact ⟨o, ho⟩
  · rintro i v m₁ news₁ h₁ tk₁ own oi hi hP hJ hoff hIo hsub hall F₁ N₁
    have hx : vs[i]? = some v := by simpa using hP
    exact step i v m₁ news₁ h₁ tk₁ own _ oi hx hJ hoff hIo (fun p hp => by simpa using hsub p hp) hne.symm F₁ N₁
  · intro h' tk m' news' F' N' _ hJ
    have : vs.toArray.size = vs.length := by simp
    exact done h' tk m' news' F' N' (this ▸ hJ)
/-- for x in xs, ints -/
theorem iter_list {Q : Flow → Shared → Prop} {l : Addr} {ns : List Int} (hh : A.handled = none) (hl : LAt H l ns) (hlL : l ≠ env.locals)
    (F : Fr h₀ env.locals H m) (N : News h₀ env.locals H news) (J : Nat → (Str → Option Value) → List (Addr × Obj) → Prop) (h0 : J 0 m news)
    (step : ∀ i x u m₁ news₁ h₁ tk₁ own I oi, ns[i]? = some x → J i m₁ news₁ → (∀ p ∈ news₁, p.1 ≠ I) → (I, oi) ∈ own → (∀ p ∈ own, p.1 = I ∨ p.1 = l) → I ≠ l →
      Fr h₀ env.locals h₁ m₁ → News h₀ env.locals h₁ (own ++ news₁) →
      wpAny (model prog w) A (assign target env (.int x u)) (fun _ s₃ => wpAny (model prog w) A (execs body env) (StepEnd h₀ env.locals I s own (J (i + 1))) (fun _ _ => False) s₃) (fun _ _ => False) { s with heap := h₁, toks := tk₁ })
    (done : ∀ h' tk m' news', Fr h₀ env.locals h' m' → News h₀ env.locals h' news' → J ns.length m' news' → Q .next { s with heap := h', toks := tk }) :
    wpAny (model prog w) A (pyIter (.ref l)) (fun it s₂ => TurnsAt prog w A h₀ env target body Q E it s₂) E { s with heap := H, toks := t } := by
  obtain ⟨vs, hl, hi⟩ := hl
  refine iter_listV hh hl hlL F N J h0 ?_ ?_
  · intro i v m₁ news₁ h₁ tk₁ own I oi hx
    obtain ⟨x, u, rfl, hn⟩ := intsAre_inv hi hx
    exact step i x u m₁ news₁ h₁ tk₁ own I oi hn
  · intro h' tk m' news' F' N' hJ
    exact done h' tk m' news' F' N' (hi.length ▸ hJ)
end
theorem smallMul {a b : Int} (h : -1000000000000 < a ∧ a < 1000000000000) : IntMulOk a b := IntMulOk.of_left (intBits_le_64 (by omega) (by omega))
theorem smallMulR {a b : Int} (h : -1000000000000 < b ∧ b < 1000000000000) : IntMulOk a b := IntMulOk.of_right (intBits_le_64 (by omega) (by omega))
end Mine

namespace Mine
set_option maxRecDepth 100000

/-- the letter of a kind -/
def ltr (ls : List Int) (k : Int) : Int := ls.getD k.toNat 0
theorem ltr_get {ls : List Int} {k : Int} (h0 : 0 ≤ k) (h : k.toNat < ls.length) : ls[k.toNat]? = some (ltr ls k) := by
  unfold ltr; simp [h]

theorem word_spec {prog : Program} {w : World} {mg mb cds} {A : Around} {s : Shared} {ar al : Addr} {row ls : List Int} {b : Int} {tb : Tok} (T : Tp mg mb cds s.heap) (r : Room A 4) (hr : LAt s.heap ar row) (hl : LAt s.heap al ls)
    (hrow : ∀ k ∈ row, 0 ≤ k ∧ k.toNat < ls.length) (hls : ∀ l ∈ ls, 65 < l ∧ l < 81) (hz : row.length ≤ 100) (hll : ls.length ≤ 100) :
    Pure prog w A (.ref 47) [.ref ar, .ref al, .int b tb] s (fun v _ => ∃ c t, v = .bytes c t ∧ KBw.bInts c = row.map (ltr ls)) := by
  refine pure_enter (binds := [("row", .ref ar), ("letters", .ref al), ("turned", .int b tb)]) T.fword T.lim (by have := r.dp; omega) (fun _ _ _ _ _ => rfl) (by decide) (locs rfl) rfl rfl rfl fun h₁ F => ?_
  have r1 := r.deeper (envX "_law_word" (scopeOf (dfn 7)) s.heap.objs.size 47 (cds 7) [])
  generalize A.deeper (envX "_law_word" (scopeOf (dfn 7)) s.heap.objs.size 47 (cds 7) []) = A1 at r1 ⊢
  conv in bodyOf (dfn 7) => whnf
  refine wpAny_execs_cons ?_
  refine wpAny_Assign_Name ?_
  refine wpAny_Constant_int ?_
  refine sto F News.nil fun h2 t2 F2 N2 => ?_
  try dsimp only
  refine wpAny_execs_cons ?_
  refine For_turns F2 ?_
  refine nameX_L F2 rfl ?_
  refine iter_list (s := s) r1.hh (hr.keeps F2.keep) (Nat.ne_of_lt hr.lt) F2 N2
    (fun i m nw => nw = [] ∧ (∃ t, m "number" = some (.int (numOf ((row.take i).map fun k => ltr ls k - 65)) t)) ∧ m "letters" = some (.ref al) ∧ m "turned" = some (.int b tb)) ⟨rfl, ⟨_, rfl⟩, rfl, rfl⟩ ?_ ?_
  · rintro i x u m₁ news₁ h3 t3 own I oi hx ⟨rfl, ⟨tn, hm1⟩, hm2, hm3⟩ hoff hIo hsub hIl F3 N3
    have hxr := hrow x (List.mem_of_getElem? hx)
    refine wpAny_assign_Name (sto F3 N3 fun h4 t4 F4 N4 => ?_)
    refine wpAny_execs_cons ?_
    refine wpAny_Assign_Name ?_
    refine wpAny_BinOp ?_
    refine wpAny_BinOp ?_
    refine wpAny_BinOp ?_
    refine wpAny_Constant_int ?_
    refine nameX_L F4 (v := .int _ tn) hm1 ?_
    refine mul_int ?_ (smallMul (by decide))
    refine Subscript_ ?_
    refine nameX_L F4 (v := .ref al) hm2 ?_
    refine nameX_L F4 rfl ?_
    try dsimp only
    refine itemL (hl.keeps F4.keep) hxr.1 (by omega) (ltr_get hxr.1 hxr.2) fun tl => ?_
    refine add_int ?_
    refine wpAny_Constant_int ?_
    refine sub_int ?_
    try dsimp only
    refine sto F4 N4 fun h5 t5 F5 N5 => ?_
    try dsimp only
    refine wpAny_execs_nil ?_
    refine ⟨rfl, h5, t5, _, [], rfl, F5, N5, (fun p hp => nomatch hp), rfl, ⟨t4 + 1 + 1 + 1 + 1, ?_⟩, hm2, hm3⟩
    have : numOf ((row.take (i + 1)).map fun k => ltr ls k - 65) = 16 * numOf ((row.take i).map fun k => ltr ls k - 65) + ltr ls x - 65 := by
      rw [List.take_add_one, hx, List.map_append]
      show numOf (_ ++ [_]) = _
      rw [numOf_snoc]; dsimp only; omega
    rw [this]; exact rfl
  · rintro h3 t3 m3 news3 F3 N3 ⟨rfl, ⟨tn, hm1⟩, hm2, hm3⟩
    rw [List.take_length] at hm1
    try dsimp only
    refine wpAny_execs_cons ?_
    refine wpAny_Return_some ?_
    refine callDef T F3 T.nap T.fap ?_
    refine args_cons ?_
    have fin : ∀ (n : Int) (un : Tok) (t : Nat), (n = numOf (row.map fun k => ltr ls k - 65) ∨ n = - numOf (row.map fun k => ltr ls k - 65)) → wpAny (model prog w) A1 (call (.ref 35) [.int n un]) (fun v s' => PureEnd s (fun v _ => ∃ c t, v = .bytes c t ∧ KBw.bInts c = row.map (ltr ls)) (.ret v) s') (fun _ _ => False) { s with heap := h3, toks := t } := by
      intro n un t hn
      refine ap_spec (s := { s with heap := h3, toks := t }) (T.keeps F3.keep) (r1.le (by decide)) (ds := row.map fun k => ltr ls k - 65) ?_ (by simpa using hz) hn _ _ ?_
      · intro d hd
        obtain ⟨k, hk, rfl⟩ := List.mem_map.mp hd
        have h1 := hrow k hk
        have h2 := hls _ (List.mem_of_getElem? (ltr_get h1.1 h1.2))
        omega
      · rintro v h' tk tl hx hsz hf ⟨c, tc, rfl, hc⟩
        refine ⟨h', tk, [], rfl, fun b o e => hx b o (F3.keep b o e), Nat.le_trans (Nat.le_of_lt F3.ns.lt) hsz, (fun p hp => nomatch hp), c, tc, rfl, ?_⟩
        rw [hc, List.map_map]
        refine List.map_congr_left fun k _ => ?_
        show 65 + (ltr ls k - 65) = ltr ls k
        omega
    refine IfExp_ ?_
    refine isTrue_plain ?_
    refine nameX_L F3 hm3 ?_
    refine P.truthy_int ?_
    split
    · refine UnaryOp_ ?_
      refine nameX_L F3 hm1 ?_
      refine PyProof.Rows.neg_int ?_
      refine args_nil ⟨F3.keep, ?_⟩
      exact fin _ _ _ (.inr rfl)
    · refine nameX_L F3 hm1 ?_
      refine args_nil ⟨F3.keep, ?_⟩
      exact fin _ _ _ (.inl rfl)
end Mine

namespace Mine
set_option maxRecDepth 100000
/-- objects that a step has made -/
def Made (H h : Heap) (tl : List (Addr × Obj)) : Prop := ∀ p ∈ tl, h.get? p.1 = some p.2 ∧ H.get? p.1 = none
section
variable {prog : Program} {w : World} {A : Around} {E : Value → Shared → Prop} {s : Shared} {env : Env} {H : Heap} {t : Nat} {Q : Value → Shared → Prop}
/-- the loop of a dict comprehension over a list of ints -/
theorem dloop {scope : Scope} {kx vx iter target : Expr} {pos : Pos} {R : Result → Shared → Prop} {cenv : Env} {I D l : Addr} {vs : List Value} {ns : List Int} (hh : A.handled = none) (hne : l ≠ I) (hDI : D ≠ I) (hDl : D ≠ l) (hi : IntsAre vs ns)
    (hst : H.IsListIter I l 0 ∧ H.IsList l vs.toArray) (hD : H.DictOf (intKind prog w) D [])
    (J : Nat → Heap → List (Int × Value) → Prop) (h0 : J 0 H [])
    (hJI : ∀ i h h' kvs, J i h kvs → (∀ b o, b ≠ I → h.get? b = some o → h'.get? b = some o) → J i h' kvs)
    (step : ∀ i n u kvs h tk, ns[i]? = some n → J i h kvs → (∃ o, h.get? I = some o) → (∃ o, h.get? D = some o) →
      wpAny (model prog w) A (assign target cenv (.int n u)) (fun _ s₂ => wpAny (model prog w) A (eval kx cenv) (fun kv s₄ => wpAny (model prog w) A (eval vx cenv) (fun vv s₅ =>
        ∃ k uk h' tk', kv = .int k uk ∧ s₅ = { s with heap := h', toks := tk' } ∧ (∀ o b, (b = I ∨ b = l ∨ b = D) → h.get? b = some o → h'.get? b = some o) ∧ kvs.length ≤ 10000 ∧ ∀ h'', Heap.SameBut D h' h'' → J (i + 1) h'' (stored kvs k vv)) (fun _ _ => False) s₄) (fun _ _ => False) s₂) (fun _ _ => False) { s with heap := h, toks := tk })
    (hR : ∀ h' tk kvs, J ns.length h' kvs → h'.DictOf (intKind prog w) D kvs → R (.ok .next) { s with heap := h', toks := tk })
    (ht : ∀ v, letOwnedTupleGo target (.ref I) v = pure () := by intro _; rfl) :
    codeAny (model prog w) A (.compLoop (.DictComp kx vx [⟨target, iter, [], 0⟩] scope pos) 0 (.ref I) (.ref D) cenv) R { s with heap := H, toks := t } := by
  have W := Walks.list (prog := prog) (w := w) hh I l hne vs.toArray
  have hlen : vs.toArray.size = ns.length := by simp [hi.length]
  rw [hlen] at W
  refine codeAny_compLoop_testsD (fun k s' => ∃ h tk kvs i, s' = { s with heap := h, toks := tk } ∧ (h.IsListIter I l i ∧ h.IsList l vs.toArray) ∧ h.DictOf (intKind prog w) D kvs ∧ J i h kvs ∧ i ≤ ns.length ∧ k = ns.length + 1 - i) ?_ (ns.length + 1)
    ⟨H, t, [], 0, rfl, hst, hD, h0, Nat.zero_le _, rfl⟩ ht
  rintro k s' ⟨h, tk, kvs, i, rfl, hst', hD', hJ, hile, rfl⟩
  by_cases hlt : i < ns.length
  · refine W.item i _ _ _ hlt hst' fun v h₁ tk₁ hP hst₁ hk₁ => ?_
    have hk₁' : ∀ b o, b ≠ I → h.get? b = some o → h₁.get? b = some o := fun b o hb e => hk₁ b o (by simpa using hb) e
    have hx : vs[i]? = some v := by simpa using hP
    obtain ⟨n, u, rfl, hn⟩ := intsAre_inv hi hx
    have hD₁ : h₁.DictOf (intKind prog w) D kvs := hD'.at fun o e => hk₁' _ _ hDI e
    refine wpAny_mono (step i n u kvs h₁ tk₁ hn (hJI _ _ _ _ hJ hk₁') (let ⟨⟨o, ho, _⟩, _⟩ := hst₁; ⟨o, ho⟩) (let ⟨o, ho, _⟩ := Heap.dictOf_iff.mp hD₁; ⟨o, ho⟩)) (fun _ s₂ h₂ => ?_) fun _ _ f => f.elim
    show wpAny _ _ (pure true) _ _ _
    refine wpAny_pure ?_
    rw [if_pos rfl]
    refine wpAny_mono h₂ (fun kv s₄ h₄ => wpAny_mono h₄ (fun vv s₅ h₅ => ?_) fun _ _ f => f.elim) fun _ _ f => f.elim
    obtain ⟨kk, uk, h', tk', rfl, rfl, hkeep, hsz, hJ'⟩ := h₅
    refine wpAny_dictSet_pairs (s := { s with heap := h', toks := tk' }) (knd := intKind prog w) (hsz := by rw [sizeLine_eq]; omega) (intKind_is prog w kk uk) (hD₁.at fun o e => hkeep o D (.inr (.inr rfl)) e) fun h₆ hl₆ hs₆ => ?_
    refine ⟨ns.length + 1 - (i + 1), by omega, h₆, _, stored kvs kk vv, i + 1, rfl, ?_, hl₆, hJ' h₆ hs₆, hlt, rfl⟩
    exact W.frame _ _ h₆ hst₁ fun b hb o e => by
      have hb' : b = I ∨ b = l := by simpa using hb
      refine hs₆.extBut b o (fun q => ?_) (hkeep o b (by rcases hb' with q | q <;> simp [q]) e)
      rcases hb' with r | r
      · exact hDI (q.symm.trans r)
      · exact hDl (q.symm.trans r)
  · have hin : i = ns.length := by omega
    subst hin
    refine W.done _ _ _ hst' fun h₁ tk₁ hk₁ => ?_
    have hk₁' : ∀ b o, b ≠ I → h.get? b = some o → h₁.get? b = some o := fun b o hb e => hk₁ b o (by simpa using hb) e
    exact hR h₁ tk₁ kvs (hJI _ _ _ _ hJ hk₁') (hD'.at fun o e => hk₁' _ _ hDI e)
theorem none_of_size {h : Heap} {a : Addr} (ha : h.objs.size ≤ a) : h.get? a = none := by
  cases e : h.get? a with
  | none => rfl
  | some o' => exact absurd (Heap.lt_size e) (Nat.not_lt.mpr ha)
theorem neA {a b : Nat} (h : a ≠ b) : @Ne Addr a b := h
theorem ltA {h : Heap} {b : Addr} {o : Obj} (e : h.get? b = some o) : @LT.lt Nat _ b h.objs.size := Heap.lt_size e
/-- {kx: vx for x in xs}, xs a list of ints -/
theorem dcomp {scope : Scope} {kx vx iter : Expr} {x : Str} {px pos : Pos} {cl : List (Str × Addr)} {l : Addr} {ns : List Int} (hh : A.handled = none) (hl : LAt H l ns)
    (hit : ∀ Q', Q' (.ref l) { s with heap := H, toks := t } → wpAny (model prog w) A (eval iter env) Q' E { s with heap := H, toks := t })
    (J : Nat → List (Int × Value) → List (Addr × Obj) → Prop) (h0 : J 0 [] [])
    (step : ∀ i n u C I D oI oD kvs tl h tk m₃, ns[i]? = some n → J i kvs tl → (∀ p ∈ tl, p.1 ≠ I ∧ p.1 ≠ D) → Fr H C h m₃ → m₃ x = some (.int n u) → News H C h ([(I, oI), (D, oD)] ++ tl) →
      wpAny (model prog w) A (eval kx (compEnvC scope cl C env)) (fun kv s₄ => wpAny (model prog w) A (eval vx (compEnvC scope cl C env)) (fun vv s₅ =>
        ∃ k uk tl' h' tk' m', kv = .int k uk ∧ s₅ = { s with heap := h', toks := tk' } ∧ Fr H C h' m' ∧ News H C h' ([(I, oI), (D, oD)] ++ tl') ∧ (∀ p ∈ tl', p.1 ≠ I ∧ p.1 ≠ D) ∧ kvs.length ≤ 10000 ∧ J (i + 1) (stored kvs k vv) tl') (fun _ _ => False) s₄) (fun _ _ => False) { s with heap := h, toks := tk })
    (done : ∀ D o h' tk kvs tl, Ext H h' → H.objs.size ≤ D → h'.get? D = some o → o.IsDictOf (intKind prog w) kvs → Made H h' tl → (∀ p ∈ tl, p.1 ≠ D) → J ns.length kvs tl → Q (.ref D) { s with heap := h', toks := tk })
    (hclos : closureFor scope env = pure cl) (hcell : ∀ y ∈ scope.names, y.2 ≠ .cell) (hkind : scope.kind = .function)
    (hnames : ∀ y ∈ scope.names, y.2 = .local → scope.names.lookup y.1 = some .local) (hx : scope.names.lookup x = some .local)
    (hs : ∀ x, foldedSetIterable iter env x = pure x := by intro _; rfl) :
    wpAny (model prog w) A (eval (.DictComp kx vx [⟨.Name x px, iter, [], 0⟩] scope pos) env) Q E { s with heap := H, toks := t } := by
  obtain ⟨vs, hlv, hi⟩ := hl
  obtain ⟨ol, hol, _⟩ := id hlv
  have hlH := Heap.lt_size hol
  rw [arm_eval_DictComp]
  refine wpAny_comprehension_free (use := none) rfl hs hclos hkind hnames (hit _ ?_)
  refine wpAny_pyIter_list (s := { s with heap := H, toks := t }) hlv ?_
  refine wpAny_newObj_type (wpAny_newFunctionEnv hcell (by intro y hy; simp at hy) (fun h₁ hns₁ hsb₁ => ?_) hkind)
  dsimp only at hns₁ hsb₁ ⊢
  generalize hH1 : H.push { cls := Value.type "list_iterator", data := Data.fields #[Value.ref l, Value.int 0 0] } = H1 at hns₁ hsb₁ ⊢
  have k1 : Ext H H1 := fun b o e => hH1 ▸ Heap.get?_push_of_some _ e
  have z1 : H1.objs.size = H.objs.size + 1 := by rw [← hH1, Heap.size_push]
  have it1 : H1.get? H.objs.size = some { cls := Value.type "list_iterator", data := Data.fields #[Value.ref l, Value.int 0 0] } := hH1 ▸ Heap.get?_push_size _ rfl
  generalize hH2 : H1.push { cls := Value.type "dict", dict := none, data := Data.dict #[] } = H2 at hns₁ hsb₁ ⊢
  have k2 : Ext H1 H2 := fun b o e => hH2 ▸ Heap.get?_push_of_some _ e
  have z2 : H2.objs.size = H.objs.size + 2 := by rw [← hH2, Heap.size_push, z1]
  have d2 : H2.DictOf (intKind prog w) H1.objs.size [] := hH2 ▸ Heap.DictOf.new H1
  have k3 : Ext H2 h₁ := fun b o e => hsb₁.extBut b o (Nat.ne_of_lt (Heap.lt_size e)) (Heap.get?_push_of_some _ e)
  have hne : l ≠ H.objs.size := Nat.ne_of_lt hlH
  have loop : ∀ s₃ : Shared, s₃ = { s with heap := h₁, toks := t + ([] : List (Str × Value)).length } →
      codeAny (model prog w) A (.compLoop (.DictComp kx vx [⟨.Name x px, iter, [], 0⟩] scope pos) 0 (.ref H.objs.size) (.ref H1.objs.size) (compEnvC scope cl H2.objs.size env))
        (compPost (model prog w) A E none Q (.ref H1.objs.size) H2.objs.size) s₃ := by
    rintro s₃ rfl
    have e1 : H1.objs.size = H.objs.size + 1 := z1
    have e2 : H2.objs.size = H.objs.size + 2 := z2
    refine dloop (s := s) (l := l) (vs := vs) (ns := ns) hh hne (neA (by omega)) (neA (by have := ltA hol; omega)) hi
      ⟨⟨_, k3 _ _ (k2 _ _ it1), rfl, rfl⟩, hlv.at fun o e => k3 _ _ (k2 _ _ (k1 _ _ e))⟩ (d2.at fun o e => k3 _ _ e)
      (fun i h kvs => ∃ m tl, Fr H H2.objs.size h m ∧ News H H2.objs.size h tl ∧ (∀ p ∈ tl, p.1 ≠ H.objs.size ∧ p.1 ≠ H1.objs.size) ∧ J i kvs tl)
      ⟨_, [], ⟨hns₁, fun b o e => k3 _ _ (k2 _ _ (k1 _ _ e)), (by show H.objs.size ≤ H2.objs.size; omega)⟩, News.nil, (fun p hp => nomatch hp), h0⟩ ?_ ?_ ?_
    · rintro i h h' kvs ⟨m, tl, F, N, a4, a7⟩ hk
      exact ⟨m, tl, ⟨F.ns.at' fun o e => hk _ o (neA (by omega)) e, fun b o e => hk b o (Nat.ne_of_lt (Heap.lt_size e)) (F.keep b o e), F.above⟩, (fun p hp => ⟨hk _ _ (a4 p hp).1 (N p hp).1, (N p hp).2⟩), a4, a7⟩
    · rintro i n u kvs h tk hn ⟨m, tl, F, N, a4, a7⟩ ⟨oI, hoI⟩ ⟨oD, hoD⟩
      have N' : News H H2.objs.size h ([(H.objs.size, oI), (H1.objs.size, oD)] ++ tl) := by
        intro p hp
        rcases List.mem_append.mp hp with hp | hp
        · rcases List.mem_cons.mp hp with rfl | hp
          · exact ⟨hoI, neA (by show H.objs.size ≠ H2.objs.size; omega), none_of_size (Nat.le_refl _)⟩
          · rw [List.mem_singleton.mp hp]; exact ⟨hoD, neA (by show H1.objs.size ≠ H2.objs.size; omega), none_of_size (by show H.objs.size ≤ H1.objs.size; omega)⟩
        · exact N p hp
      refine wpAny_assign_Name (wpAny_storeName_local (s := { s with heap := h, toks := tk }) (lookup_relabel_local hx) F.ns (fun h₂ hn₂ hs₂ => ?_) (by simp [compEnvC, relabel, hkind]))
      refine wpAny_mono (step i n u H2.objs.size H.objs.size H1.objs.size oI oD kvs tl h₂ _ _ hn a7 a4 (F.set hn₂ hs₂) (by simp) (N'.set hs₂)) (fun kv s₄ h₄ => wpAny_mono h₄ (fun vv s₅ h₅ => ?_) fun _ _ f => f) fun _ _ f => f
      obtain ⟨k, uk, tl', h', tk', m', rfl, rfl, F5, N5, c5, c3, c4⟩ := h₅
      have ge : ∀ b o, (b = H.objs.size ∨ b = l ∨ b = H1.objs.size) → h.get? b = some o → h'.get? b = some o := by
        intro b o hb e
        rcases hb with rfl | rfl | rfl
        · rw [hoI] at e; cases e; exact (N5 _ (.head _)).1
        · rw [F.keep _ _ hol] at e; cases e; exact F5.keep _ _ hol
        · rw [hoD] at e; cases e; exact (N5 _ (.tail _ (.head _))).1
      refine ⟨k, uk, h', tk', rfl, rfl, fun o b hb e => ge b o hb e, c3, fun h'' hs'' => ⟨m', tl', ?_, ?_, c5, c4⟩⟩
      · exact F5.change hs'' (neA (by show H1.objs.size ≠ H2.objs.size; omega)) (none_of_size (by show H.objs.size ≤ H1.objs.size; omega))
      · exact fun p hp => ⟨hs''.extBut _ _ (c5 p hp).2 (N5 p (List.mem_append_right _ hp)).1, (N5 p (List.mem_append_right _ hp)).2⟩
    · rintro h' tk kvs ⟨m, tl, F, N, a4, a7⟩ hD
      refine ⟨m, F.ns, fun h'' hs'' => ?_⟩
      replace hs'' : Heap.SameBut H2.objs.size h' h'' := hs''
      obtain ⟨o, ho, hdo⟩ := Heap.dictOf_iff.mp hD
      exact done H1.objs.size o h'' tk kvs tl (fun b o e => hs''.extBut b o (neA (by have := ltA e; omega)) (F.keep b o e)) (by show H.objs.size ≤ H1.objs.size; omega) (hs''.extBut _ _ (neA (by omega)) ho) hdo
        (fun p hp => ⟨hs''.extBut _ _ (N p hp).2.1 (N p hp).1, (N p hp).2.2⟩) (fun p hp => (a4 p hp).2) a7
  exact codeAny_compStart_dict (loop _ rfl) (wpAny_pyIter_listiter (s := { s with heap := h₁, toks := _ }) ⟨_, k3 _ _ (k2 _ _ it1), rfl, rfl⟩ (loop _ rfl))
end
end Mine

namespace Mine
set_option maxRecDepth 100000
section
variable {prog : Program} {w : World} {A : Around} {E : Value → Shared → Prop} {s : Shared} {env : Env} {h₀ H : Heap} {t : Nat} {m : Str → Option Value} {news : List (Addr × Obj)}
/-- d[k] -/
theorem itemD {Q : Value → Shared → Prop} {value slice : Expr} {d : Addr} {kvs : List (Int × Value)} {k : Int} {u : Tok} {v : Value} (hD : H.DictOf (intKind prog w) d kvs) (hl : valueAt kvs k = some v) (h : ∀ t', Q v { s with heap := H, toks := t' })
    (hs : subscripted slice false (.ref d) (.int k u) = operate [.ref d, .int k u] (getItem (.ref d) (.int k u)) := by with_unfolding_all rfl) (hg : ∀ r, letTemporaryGo value (.ref d) r = pure () := by intro _; with_unfolding_all rfl) :
    wpAny (model prog w) A (subscriptTail value slice (.ref d) (.int k u)) Q E { s with heap := H, toks := t } :=
  subscriptTail_builtin (s := { s with heap := H, toks := t }) (hD.typeIs (s := { s with heap := H, toks := t })) slot_dict_getitem.lookup (wpAny_getItem_of (s := { s with heap := H, toks := t }) (intKind_is prog w k u) hD.mapOf hl (h _)) hs hg
/-- {k: v} -/
theorem dict1 {Q : Value → Shared → Prop} {ke ve : Expr} {pos : Pos} (F : Fr h₀ env.locals H m) (N : News h₀ env.locals H news) (hbig : h₀.NoLimit)
    (h : wpAny (model prog w) A (eval ke env) (fun kv s₁ => wpAny (model prog w) A (eval ve env) (fun vv s₂ => ∃ k uk t', kv = .int k uk ∧ s₂ = { s with heap := H.push { cls := .type "dict", data := .dict #[] }, toks := t' } ∧
      (∀ h' o t'', Fr h₀ env.locals h' m → News h₀ env.locals h' ((H.objs.size, o) :: news) → o.IsDictOf (intKind prog w) [(k, vv)] → (H.objs.size == sysModules) = false → Q (.ref H.objs.size) { s with heap := h', toks := t'' })) E s₁) E { s with heap := H.push { cls := .type "dict", data := .dict #[] }, toks := t })
    (hshape : (evalEachOpt [some ke] env).zip ((evalEach [ve] env).map fun v => do let x ← v; standAt pos; pure x) = [(eval ke env, do let x ← eval ve env; standAt pos; pure x)].map fun p => (some p.1, p.2) := by rfl) :
    wpAny (model prog w) A (eval (.Dict [some ke] [ve] pos) env) Q E { s with heap := H, toks := t } := by
  refine wpAny_Dict_pairs (knd := intKind prog w) (s := { s with heap := H, toks := t }) (pairs := [(eval ke env, do let x ← eval ve env; standAt pos; pure x)]) hshape (by simp) (by simp) ?_
  refine evalPairs_cons (wpAny_mono h (fun kv s₁ h₁ => wpAny_bind (wpAny_mono h₁ (fun vv s₂ h₂ => wpAny_bind (wpAny_standAt (wpAny_pure ?_))) fun _ _ e => e)) fun _ _ e => e)
  obtain ⟨k, uk, t', rfl, rfl, hq⟩ := h₂
  refine evalPairs_nil ?_
  exact made_int (P := fun h' => Q (.ref H.objs.size) { s with heap := h', toks := t' + 1 }) F N rfl (by show ([(k, vv)].map (·.1)).Nodup; simp) fun h' o F' N' hd => hq h' o _ F' N' hd (F.notModules (modules_low hbig))
/-- for x in b -/
theorem iter_bytes {Q : Flow → Shared → Prop} {x : Str} {px : Pos} {body : List Stmt} {b : Array UInt8} {tb : Tok} {ks : List Int} (hk : KBw.bInts b = ks) (hh : A.handled = none)
    (F : Fr h₀ env.locals H m) (N : News h₀ env.locals H news) (J : Nat → (Str → Option Value) → List (Addr × Obj) → Prop) (h0 : J 0 m news)
    (step : ∀ i c u m₁ news₁ h₁ tk₁ own I oi, ks[i]? = some c → J i m₁ news₁ → (∀ p ∈ news₁, p.1 ≠ I) → (I, oi) ∈ own → (∀ p ∈ own, p.1 = I) →
      Fr h₀ env.locals h₁ m₁ → News h₀ env.locals h₁ (own ++ news₁) →
      wpAny (model prog w) A (assign (.Name x px) env (.int c u)) (fun _ s₃ => wpAny (model prog w) A (execs body env) (StepEnd h₀ env.locals I s own (J (i + 1))) (fun _ _ => False) s₃) (fun _ _ => False) { s with heap := h₁, toks := tk₁ })
    (done : ∀ h' tk m' news', Fr h₀ env.locals h' m' → News h₀ env.locals h' news' → J ks.length m' news' → Q .next { s with heap := h', toks := tk }) :
    wpAny (model prog w) A (pyIter (.bytes b tb)) (fun it s₂ => TurnsAt prog w A h₀ env (.Name x px) body Q E it s₂) E { s with heap := H, toks := t } := by
  refine KBw.pyIter_bytes (s := { s with heap := H, toks := t }) ?_
  have W := KTurns.ofWalks (target := .Name x px) (KBw.walks (prog := prog) (w := w) hh H.objs.size b tb) fun i v s Q E st q => wpAny_pure q
  have hlen : b.size = ks.length := by rw [← hk, KBw.ints_length]
  refine turns_of (s := s) W ?_ ⟨_, Heap.get?_push_size _ rfl, rfl, rfl⟩ (next_is_new F) (fun i h st => ?_) (fun p hp => Nat.ne_of_lt (Heap.lt_size (N p hp).1)) (F.push _) (fun p hp => ⟨Heap.get?_push_of_some _ (N p hp).1, (N p hp).2⟩) J h0 ?_ ?_
  · intro hm
    exact absurd F.ns.lt ((List.mem_singleton.mp hm) ▸ Nat.lt_irrefl _)
  · obtain ⟨o, ho, _⟩ := st; exact ⟨o, ho⟩
  · rintro i v m₁ news₁ h₁ tk₁ own oi hi ⟨c, u, hc, rfl⟩ hJ hoff hIo hsub hall F₁ N₁
    exact step i _ u m₁ news₁ h₁ tk₁ own _ oi (hk ▸ KBw.ints_get hc) hJ hoff hIo (fun p hp => by simpa using hsub p hp) F₁ N₁
  · intro h' tk m' news' F' N' _ hJ
    exact done h' tk m' news' F' N' (hlen ▸ hJ)
end
end Mine

namespace Mine
set_option maxRecDepth 100000

/-- tables of callers, by letters -/
abbrev Tabs := List (Int × List (Int × Int))
inductive TV (prog : Program) (w : World) (G : Addr → Obj → Prop) : List (Int × Value) → Tabs → Prop
  | nil : TV prog w G [] []
  | cons (l : Int) {d : Addr} {o : Obj} {es : List (Int × Int)} {kvs ts} : G d o → (d == sysModules) = false → DObj prog w o es → TV prog w G kvs ts → TV prog w G ((l, .ref d) :: kvs) ((l, es) :: ts)
def TObj (prog : Program) (w : World) (G : Addr → Obj → Prop) (o : Obj) (ts : Tabs) : Prop := ∃ kvs, o.IsDictOf (intKind prog w) kvs ∧ TV prog w G kvs ts
theorem TV.mono {prog w} {G G' : Addr → Obj → Prop} {kvs ts} (h : TV prog w G kvs ts) (hg : ∀ a o, G a o → G' a o) : TV prog w G' kvs ts := by
  induction h with
  | nil => exact .nil
  | cons l a b c _ ih => exact .cons l (hg _ _ a) b c ih
theorem TV.length {prog w G kvs ts} (h : TV prog w G kvs ts) : kvs.length = ts.length := by
  induction h with
  | nil => rfl
  | cons _ _ _ _ _ ih => simp [ih]
theorem TV.keys {prog w G kvs ts} (h : TV prog w G kvs ts) : kvs.map (·.1) = ts.map (·.1) := by
  induction h with
  | nil => rfl
  | cons _ _ _ _ _ ih => simp [ih]
def getT (ts : Tabs) (k : Int) : List (Int × Int) := match ts.find? (fun e => decide (e.1 = k)) with
  | some e => e.2
  | none => []
def hasT (ts : Tabs) (k : Int) : Bool := ts.any fun e => decide (e.1 = k)
theorem TV.valueAt {prog w G kvs ts} (h : TV prog w G kvs ts) (k : Int) (hk : hasT ts k = true) : ∃ d o, PySem.valueAt kvs k = some (.ref d) ∧ G d o ∧ (d == sysModules) = false ∧ DObj prog w o (getT ts k) := by
  unfold PySem.valueAt getT
  unfold hasT at hk
  induction h with
  | nil => simp at hk
  | @cons l d o es kvs ts a b c _ ih =>
    by_cases e : l = k
    · simp only [List.find?_cons, e, decide_true]; exact ⟨d, o, rfl, a, b, c⟩
    · simp only [List.find?_cons, List.any_cons, decide_eq_false e, Bool.false_or] at ih hk ⊢; exact ih hk
theorem TV.any {prog w G kvs ts} (h : TV prog w G kvs ts) (k : Int) : kvs.any (fun e => decide (e.1 = k)) = hasT ts k := by
  induction h with
  | nil => rfl
  | cons _ _ _ _ _ ih => simp only [hasT, List.any_cons] at ih ⊢; rw [ih]
/-- one call told -/
def tput (ts : Tabs) (k : Int) (es : List (Int × Int)) : Tabs := ts.map fun e => if e.1 = k then (e.1, es) else e
theorem TV.stored {prog w G kvs ts} (h : TV prog w G kvs ts) {k : Int} (hk : hasT ts k = true) {d : Addr} {o : Obj} {es : List (Int × Int)} (a : G d o) (b : (d == sysModules) = false) (c : DObj prog w o es) :
    TV prog w G (PySem.stored kvs k (.ref d)) (tput ts k es) := by
  unfold PySem.stored
  rw [h.any, if_pos hk]
  unfold tput
  clear hk
  induction h with
  | nil => exact .nil
  | @cons l d' o' es' kvs ts a' b' c' _ ih =>
    simp only [List.map_cons]
    by_cases e : l = k
    · simp only [e, if_true]; exact .cons _ a b c ih
    · simp only [e, if_false]; exact .cons _ a' b' c' ih
theorem TV.append {prog w G kvs ts} (h : TV prog w G kvs ts) (l : Int) {d : Addr} {o : Obj} {es : List (Int × Int)} (a : G d o) (b : (d == sysModules) = false) (c : DObj prog w o es) :
    TV prog w G (kvs ++ [(l, .ref d)]) (ts ++ [(l, es)]) := by
  induction h with
  | nil => exact .cons l a b c .nil
  | cons l' a' b' c' _ ih => exact .cons l' a' b' c' ih
theorem hasT_tput (ts : Tabs) (k : Int) (es : List (Int × Int)) (j : Int) : hasT (tput ts k es) j = hasT ts j := by
  unfold hasT tput
  induction ts with
  | nil => rfl
  | cons e ts ih =>
    simp only [List.map_cons, List.any_cons, ih]
    by_cases q : e.1 = k <;> simp [q]
def tstep (st : Tabs × Int) (x : Int) : Tabs × Int := (tput st.1 x (bump (getT st.1 x) st.2 1), x)
def tabs0 (ls : List Int) : Tabs := ls.map fun l => (l, [])
def tabsOf (ls ws : List Int) : Tabs := (ws.foldl tstep (tabs0 ls, 65)).1
theorem hasT_tabs0 {ls : List Int} {k : Int} (h : k ∈ ls) : hasT (tabs0 ls) k = true := by
  unfold hasT tabs0
  rw [List.any_map, List.any_eq_true]
  exact ⟨k, h, by simp⟩
theorem hasT_fold (ws : List Int) (k : Int) : ∀ st : Tabs × Int, hasT (ws.foldl tstep st).1 k = hasT st.1 k := by
  induction ws with
  | nil => intro st; rfl
  | cons x ws ih => intro st; rw [List.foldl_cons, ih]; exact hasT_tput ..
theorem len_tput (ts : Tabs) (k : Int) (es : List (Int × Int)) : (tput ts k es).length = ts.length := by simp [tput]
theorem len_fold (ws : List Int) : ∀ st : Tabs × Int, (ws.foldl tstep st).1.length = st.1.length := by
  induction ws with
  | nil => intro st; rfl
  | cons x ws ih => intro st; rw [List.foldl_cons, ih]; exact len_tput ..

theorem getT_le {ts : Tabs} {n : Nat} (h : ∀ e ∈ ts, e.2.length ≤ n) (k : Int) : (getT ts k).length ≤ n := by
  unfold getT
  split
  · rename_i e he; exact h e (List.mem_of_find?_eq_some he)
  · simp
theorem small_fold (ws : List Int) : ∀ (st : Tabs × Int) (n : Nat), (∀ e ∈ st.1, e.2.length ≤ n) → ∀ e ∈ (ws.foldl tstep st).1, e.2.length ≤ n + ws.length := by
  induction ws with
  | nil => intro st n h; simpa using h
  | cons x ws ih =>
    intro st n h e he
    have := ih (tstep st x) (n + 1) (fun e he => ?_) e he
    · simp only [List.length_cons]; omega
    · unfold tstep tput at he
      obtain ⟨f, hf, rfl⟩ := List.mem_map.mp he
      split
      · have := bump_length (getT st.1 x) st.2 1
        have := getT_le h x
        dsimp only; omega
      · have := h f hf; omega
theorem notMod {h : Heap} {d : Addr} (x : h.NoLimit) (hd : h.objs.size ≤ d) : (d == sysModules) = false :=
  beq_eq_false_iff_ne.mpr (Nat.ne_of_gt (Nat.lt_of_lt_of_le (modules_low x) hd))
/-- a, b = (v1, v2), stored from behind -/
theorem assignSwap {prog : Program} {w : World} {A : Around} {E : Value → Shared → Prop} {s : Shared} {h₀ H : Heap} {t : Nat} {m : Str → Option Value} {news : List (Addr × Obj)} {env : Env} {x y : Str} {v1 v2 : Value} {Q : Unit → Shared → Prop} (F : Fr h₀ env.locals H m) (N : News h₀ env.locals H news)
    (h : ∀ h' t', Fr h₀ env.locals h' (fun z => if z = x then some v1 else if z = y then some v2 else m z) → News h₀ env.locals h' news → Q () { s with heap := h', toks := t' })
    (hk : env.scope.kind = .function := by rfl) (hx : env.kindOf x = some .local := by rfl) (hy : env.kindOf y = some .local := by rfl) :
    wpAny (model prog w) A (assignInOrder (([x, y] : List Str).reverse.map fun n => bindName env n) ([v1, v2] : List Value).reverse) Q E { s with heap := H, toks := t } := by
  show wpAny _ _ (do holding [v1] (bindName env y v2); do holding [] (bindName env x v1); pure ()) _ _ { s with heap := H, toks := t }
  refine wpAny_bind (wpAny_holding (bindName_ (sto F N (fun h₂ t₂ F₂ N₂ => ?_) hk hy)))
  exact wpAny_bind (wpAny_holding (bindName_ (sto F₂ N₂ (fun h₃ t₃ F₃ N₃ => wpAny_pure (h h₃ t₃ F₃ N₃)) hk hx)))
theorem tab_spec {prog : Program} {w : World} {mg mb cds} {A : Around} {s : Shared} {al : Addr} {ls ws : List Int} {b : Array UInt8} {tb : Tok} (T : Tp mg mb cds s.heap) (r : Room A 4) (hl : LAt s.heap al ls) (hb : KBw.bInts b = ws)
    (hws : ∀ k ∈ ws, k ∈ ls) (hnd : ls.Nodup) (hz : ws.length ≤ 100) (hll : ls.length ≤ 100) :
    Pure prog w A (.ref 52) [.bytes b tb, .ref al] s (fun v tl => ∃ d o, v = .ref d ∧ (d == sysModules) = false ∧ (d, o) ∈ tl ∧ TObj prog w (fun a o => (a, o) ∈ tl) o (tabsOf ls ws)) := by
  refine pure_enter (binds := [("word", .bytes b tb), ("letters", .ref al)]) T.ftab T.lim (by have := r.dp; omega) (fun _ _ _ _ _ => rfl) (by decide) (locs rfl) rfl rfl rfl fun h₁ F => ?_
  have r1 := r.deeper (envX "_law_tables" (scopeOf (dfn 8)) s.heap.objs.size 52 (cds 8) [])
  generalize A.deeper (envX "_law_tables" (scopeOf (dfn 8)) s.heap.objs.size 52 (cds 8) []) = A1 at r1 ⊢
  conv in bodyOf (dfn 8) => whnf
  refine wpAny_execs_cons ?_
  refine Assign_Tuple_swapped (names := ["tables", "ahead"]) ?_
  refine Tuple_ ?_
  refine args_cons ?_
  have T1 := T.keeps F.keep
  refine dcomp (s := s) (H := h₁) (cl := []) (ns := ls) r1.hh (hl.keeps F.keep) (fun Q' hq => nmL F rfl hq)
    (fun i kvs tl => TV prog w (fun a o => (a, o) ∈ tl) kvs (tabs0 (ls.take i))) .nil ?_ ?_ rfl (by decide) rfl (by decide) rfl
  · rintro i n u C I D oI oD kvs tl h tk m₃ hn hJ hap F3 hm3 N3
    refine nmL F3 hm3 ?_
    refine newDict_K F3 N3 T1.lim fun d h4 o F4 N4 hlt dsm _ _ hd0 _ => ?_
    have hki : kvs.map (·.1) = ls.take i := by
      have := hJ.keys; rw [this]; simp only [tabs0, List.map_map]; exact List.map_id'' (fun _ => rfl) _
    refine ⟨n, u, (d, o) :: tl, h4, tk, _, rfl, rfl, F4, News.sub N4 (by intro p hp; simp at hp ⊢; rcases hp with rfl | rfl | rfl | hp <;> simp_all), ?_, ?_, ?_⟩
    · intro p hp
      rcases List.mem_cons.mp hp with rfl | hp
      · exact ⟨Nat.ne_of_gt (hlt (I, oI) (.head _)), Nat.ne_of_gt (hlt (D, oD) (.tail _ (.head _)))⟩
      · exact hap p hp
    · rw [hJ.length]; simp [tabs0]; omega
    · have hni : ¬ (kvs.any fun e => decide (e.1 = n)) = true := by
        intro q
        obtain ⟨e, he, hk⟩ := List.any_eq_true.mp q
        have h1 : e.1 ∈ ls.take i := hki ▸ List.mem_map_of_mem he
        rw [of_decide_eq_true hk] at h1
        obtain ⟨j, hj, hjn⟩ := List.getElem_of_mem h1
        have hji : j < i := by simp at hj; omega
        have hil := (List.getElem?_eq_some_iff.mp hn)
        rw [List.getElem_take] at hjn
        have := (List.getElem_inj hnd).mp (hjn.trans hil.2.symm)
        omega
      have e1 : PySem.stored kvs n (.ref d) = kvs ++ [(n, .ref d)] := by unfold PySem.stored; rw [if_neg hni]
      have e2 : tabs0 (ls.take (i + 1)) = tabs0 (ls.take i) ++ [(n, [])] := by rw [List.take_add_one, hn]; simp [tabs0]
      rw [e1, e2]
      exact (hJ.mono fun a o h => .tail _ h).append n (.head _) dsm ⟨[], hd0, .nil⟩
  · rintro D oD h2 t2 kvs tl k2 hD0 hD hdo hmade hne hJ
    rw [List.take_length] at hJ
    have F2 := F.keeps k2
    have N2 : News s.heap s.heap.objs.size h2 (((D, oD) :: tl) ++ []) := News.more F News.nil k2 (fun p hp => by
      rcases List.mem_cons.mp hp with rfl | hp
      · exact ⟨hD, none_of_size hD0⟩
      · exact hmade p hp)
    rw [List.append_nil] at N2
    have dsm : (D == sysModules) = false := notMod T1.lim hD0
    refine args_cons ?_
    refine wpAny_Constant_int ?_
    refine args_nil ?_
    refine newTuple_N F2 N2 (fun h3 F3 N3 => ?_) (by show 2 ≤ sizeLine; rw [sizeLine_eq]; decide)
    refine unpackItemsN_ F3 N3 ⟨_, (N3 _ (.head _)).1, rfl, _, rfl⟩ r1.hh rfl fun h4 F4 N4 => ?_
    refine assignSwap (s := s) F4 (News.sub N4 fun p hp => .tail _ hp) fun h5 t5 F5 N5 => ?_
    try dsimp only
    refine wpAny_execs_cons ?_
    refine For_turns F5 ?_
    refine nmL F5 rfl ?_
    refine iter_bytes (s := s) hb r1.hh F5 N5
      (fun i m nw => (∃ oD tl, nw = (D, oD) :: tl ∧ (∀ p ∈ tl, p.1 ≠ D) ∧ TObj prog w (fun a o => (a, o) ∈ tl) oD ((ws.take i).foldl tstep (tabs0 ls, 65)).1) ∧ m "tables" = some (.ref D) ∧ ∃ t, m "ahead" = some (.int ((ws.take i).foldl tstep (tabs0 ls, 65)).2 t))
      ⟨⟨oD, tl, rfl, hne, kvs, hdo, hJ⟩, rfl, _, rfl⟩ ?_ ?_
    · rintro i c u m₁ news₁ h6 t6 own I oi hx ⟨⟨oE, tm, rfl, hne1, kv1, hd1, hv1⟩, hm1, tn, hm2⟩ hoff hIo hsub F6 N6
      have hst : (ws.take (i + 1)).foldl tstep (tabs0 ls, 65) = tstep ((ws.take i).foldl tstep (tabs0 ls, 65)) c := by
        rw [List.take_add_one, hx, List.foldl_append]; rfl
      have hlen1 : kv1.length ≤ 100 := by rw [hv1.length, len_fold]; simp [tabs0]; exact hll
      have hask : hasT ((ws.take i).foldl tstep (tabs0 ls, 65)).1 c = true := by
        rw [hasT_fold]; exact hasT_tabs0 (hws c (List.mem_of_getElem? hx))
      have hsm : ∀ e ∈ ((ws.take i).foldl tstep (tabs0 ls, 65)).1, e.2.length ≤ 100 := fun e he => by
        have := small_fold (ws.take i) (tabs0 ls, 65) 0 (fun e he => by simp [tabs0] at he; obtain ⟨_, _, rfl⟩ := he; simp) e he
        have := List.length_take_le' i ws
        omega
      rw [hst]
      generalize hstv : (ws.take i).foldl tstep (tabs0 ls, 65) = st at *
      obtain ⟨dv, ov, hval, hvin, hvsm, hvobj⟩ := hv1.valueAt c hask
      refine wpAny_assign_Name (sto F6 N6 fun h7 t7 F7 N7 => ?_)
      refine wpAny_execs_cons ?_
      refine wpAny_Assign_Subscript ?_
      refine callDef T F7 T.nac T.fac ?_
      refine args_cons ?_
      refine Subscript_ ?_
      refine nmL F7 (v := .ref D) hm1 ?_
      refine nmL F7 rfl ?_
      have hD7 : h7.DictOf (intKind prog w) D kv1 := Heap.dictOf_iff.mpr ⟨oE, (N7 _ (List.mem_append_right _ (.head _))).1, hd1⟩
      refine itemD hD7 hval fun t8 => ?_
      refine args_cons ?_
      refine dict1 F7 N7 T.lim ?_
      refine nmL (F7.push _) (v := .int st.2 tn) hm2 ?_
      refine wpAny_Constant_int ?_
      refine ⟨st.2, tn, _, rfl, rfl, fun h8 o8 t8' F8 N8 hd8 hsm8 => ?_⟩
      refine args_nil ⟨F8.keep, ?_⟩
      have hDv8 : h8.get? dv = some ov := (N8 _ (.tail _ (List.mem_append_right _ (.tail _ hvin)))).1
      refine ac_spec (s := { s with heap := h8, toks := t8' }) (T.keeps F8.keep) (r1.le (by decide)) (ta := getT st.1 c) (tb := [(st.2, 1)]) ⟨hvsm, ov, hDv8, hvobj⟩ ⟨hsm8, o8, (N8 _ (.head _)).1, _, hd8, .cons _ _ _ .nil⟩ ?_ _ _ ?_
      · have := getT_le hsm c; simp only [List.length_cons, List.length_nil]; omega
      · rintro v h9 t9 tl9 k9 hz9 fr9 ⟨d9, o9, rfl, sm9, hin9, hob9⟩
        have F9 := F8.keeps k9
        have N9 := News.more F8 N8 k9 fr9
        refine nmL F9 (v := .ref D) hm1 ?_
        refine nmL F9 rfl ?_
        have hDh8 : h8.get? D = some oE := (N8 _ (.tail _ (List.mem_append_right _ (.head _)))).1
        refine setD (own := own) (rest := tl9 ++ tm) F9 (News.sub N9 ?_) ?_ ?_ hd1 (by omega) fun h10 o10 t10 F10 N10 hd10 => ?_
        · intro p hp; simp at hp ⊢
          rcases hp with hp | hp | hp | hp
          · simp [hp]
          · simp [hp]
          · simp [hp]
          · simp [hp]
        · intro p hp e
          exact hoff (D, oE) (.head _) (by rw [← hsub p hp, e])
        · intro p hp
          rcases List.mem_append.mp hp with hp | hp
          · exact fr9.ne hp hDh8
          · exact hne1 p hp
        try dsimp only
        refine wpAny_execs_cons ?_
        refine wpAny_Assign_Name ?_
        refine nmL F10 rfl ?_
        refine sto F10 N10 fun h11 t11 F11 N11 => ?_
        try dsimp only
        refine wpAny_execs_nil ?_
        obtain ⟨oI8, hI8⟩ : ∃ o, h8.get? I = some o := ⟨oi, (N8 _ (.tail _ (List.mem_append_left _ hIo))).1⟩
        refine ⟨rfl, h11, t11, _, (D, o10) :: (tl9 ++ tm), rfl, F11, N11, ?_, ⟨o10, tl9 ++ tm, rfl, ?_, _, hd10, ?_⟩, hm1, u, rfl⟩
        · intro p hp
          rcases List.mem_cons.mp hp with rfl | hp
          · exact hoff (D, oE) (.head _)
          · rcases List.mem_append.mp hp with hp | hp
            · exact fr9.ne hp hI8
            · exact hoff p (.tail _ hp)
        · intro p hp
          rcases List.mem_append.mp hp with hp | hp
          · exact fr9.ne hp hDh8
          · exact hne1 p hp
        · exact (hv1.mono fun a o h => List.mem_append_right _ h).stored hask (List.mem_append_left _ hin9) sm9 hob9
    · rintro h6 t6 m6 news6 F6 N6 ⟨⟨oE, tm, rfl, hne1, hT⟩, hm1, _⟩
      rw [List.take_length] at hT
      try dsimp only
      refine wpAny_execs_cons ?_
      refine wpAny_Return_some ?_
      refine nmL F6 hm1 ?_
      try dsimp only
      refine ⟨h6, t6, (D, oE) :: tm, rfl, F6.keep, Nat.le_of_lt F6.ns.lt, fun p hp => ⟨(N6 p hp).1, (N6 p hp).2.2⟩, D, oE, rfl, dsm, .head _, ?_⟩
      obtain ⟨kv, a, b⟩ := hT
      exact ⟨kv, a, b.mono fun a o h => .tail _ h⟩
end Mine

namespace Mine
set_option maxRecDepth 100000
/-- tables stand at d -/
structure TAt (prog : Program) (w : World) (h : Heap) (d : Addr) (ts : Tabs) : Prop where
  sm : (d == sysModules) = false
  at_ : ∃ o, h.get? d = some o ∧ TObj prog w (fun a o => h.get? a = some o) o ts
theorem TAt.keeps {prog w} {h h' : Heap} {d ts} (x : TAt prog w h d ts) (k : Ext h h') : TAt prog w h' d ts := ⟨x.sm, let ⟨o, a, kvs, b, c⟩ := x.at_; ⟨o, k _ _ a, kvs, b, c.mono fun _ _ e => k _ _ e⟩⟩
/-- the table of a letter -/
theorem TAt.item {prog w} {h : Heap} {d ts} (x : TAt prog w h d ts) {k : Int} (hk : hasT ts k = true) : ∃ kvs e, h.DictOf (intKind prog w) d kvs ∧ valueAt kvs k = some (.ref e) ∧ DAt prog w h e (getT ts k) := by
  obtain ⟨o, ho, kvs, hd, hv⟩ := x.at_
  obtain ⟨e, oe, hval, hoe, hsm, hob⟩ := hv.valueAt k hk
  exact ⟨kvs, e, Heap.dictOf_iff.mpr ⟨o, ho, hd⟩, hval, hsm, oe, hoe, hob⟩
theorem TAt.live {prog w} {h : Heap} {d ts} (x : TAt prog w h d ts) : ∃ o, h.get? d = some o := let ⟨o, a, _⟩ := x.at_; ⟨o, a⟩
theorem DAt.dictOf {prog w} {h : Heap} {d es} (x : DAt prog w h d es) : ∃ kvs, h.DictOf (intKind prog w) d kvs ∧ IV kvs es := by
  obtain ⟨o, ho, kvs, hd, hv⟩ := x.at_
  exact ⟨kvs, Heap.dictOf_iff.mpr ⟨o, ho, hd⟩, hv⟩
/-- d.get(k, n) of a dict of ints -/
theorem callGet {prog : Program} {w : World} {A : Around} {E : Value → Shared → Prop} {s : Shared} {env : Env} {o ke ve : Expr} {apos pos : Pos} {Q : Value → Shared → Prop}
    (h : wpAny (model prog w) A (eval o env) (fun ov s₁ => ∃ d es, ov = .ref d ∧ DAt prog w s₁.heap d es ∧ wpAny (model prog w) A (eval ke env) (fun kv s₂ => wpAny (model prog w) A (eval ve env) (fun vv s₃ =>
      ∃ k uk n un, kv = .int k uk ∧ vv = .int n un ∧ DAt prog w s₃.heap d es ∧ ∀ t', Q (.int (if hasK es k then getK es k else n) t') { s₃ with toks := s₃.toks + 1 }) E s₂) E s₁) E s)
    (hbase : attributeBase o "get" env (eval o env) = eval o env := by rfl) (hline : (apos.endLine == pos.line) = true := by rfl)
    (hfew : ((backTo pos (starEach [ke, ve] env)).all (fun x => !x.1) && (backToKw pos (keywordEach [] env)).all (fun x => x.1.isSome) && decide ([ke, ve].length + ([] : List Keyword).length + (if ([] : List Keyword).isEmpty then 0 else 1) < 30)) = true := by rfl)
    (htrees : backTo pos (starEach [ke, ve] env) = [(false, eval ke env), (false, eval ve env)] := by rfl) :
    wpAny (model prog w) A (eval (.Call (.Attribute o "get" apos) [ke, ve] [] pos) env) Q E s := by
  refine wpAny_Call_method (T := "dict") (id := "dict.get") hbase hfew hline F.plainAttrs_dict F.slot_dict_get F.type_dict_get (wpAny_mono h (fun ov s₁ h₁ => ?_) fun _ _ e => e)
  obtain ⟨d, es, rfl, hd, h₁⟩ := h₁
  obtain ⟨kvs, hD, hv⟩ := hd.dictOf
  refine ⟨hD.typeIs, hD.mapOf.noDict, ?_⟩
  rw [htrees]
  refine wpAny_dict_get2 (knd := intKind prog w) hd.sm (wpAny_mono h₁ (fun kv s₂ h₂ => wpAny_mono h₂ (fun vv s₃ h₃ => ?_) fun _ _ e => e) fun _ _ e => e)
  obtain ⟨k, uk, n, un, rfl, rfl, hd3, hQ⟩ := h₃
  obtain ⟨kvs3, hD3, hv3⟩ := hd3.dictOf
  refine ⟨k, _, intKind_is prog w k uk, hD3.mapOf, ?_⟩
  have hva := hv3.valueAt k
  cases hk : hasK es k with
  | true =>
    obtain ⟨t', e⟩ := hva.2 hk
    rw [e]
    have := hQ t'
    rw [if_pos hk] at this
    exact this
  | false =>
    have : valueAt kvs3 k = none := by
      have := hva.1; rw [hk] at this; simpa using this
    rw [this]
    have := hQ un
    rw [if_neg (by rw [hk]; exact Bool.false_ne_true)] at this
    exact this
theorem getK_none {es : List (Int × Int)} {k : Int} (h : hasK es k = false) : getK es k = 0 := by
  unfold hasK at h; unfold getK
  rw [List.any_eq_false] at h
  rw [List.find?_eq_none.mpr (fun e he => by simpa using h e he)]
theorem getK_if (es : List (Int × Int)) (k : Int) : (if hasK es k then getK es k else 0) = getK es k := by
  cases h : hasK es k with
  | true => rfl
  | false => rw [getK_none h]; rfl
def keyIn (ts : Tabs) (ls : List Int) (one : Int) (key : Int) : Int := ls.foldl (fun a other => 8 * a + getK (getT ts one) other) key
def keyOf (ts : Tabs) (ls : List Int) : Int := ls.foldl (fun a one => keyIn ts ls one a) 0
theorem key_spec {prog : Program} {w : World} {mg mb cds} {A : Around} {s : Shared} {ad al : Addr} {ls : List Int} {ts : Tabs} (T : Tp mg mb cds s.heap) (r : Room A 4) (hl : LAt s.heap al ls) (hd : TAt prog w s.heap ad ts) (hls : ∀ k ∈ ls, hasT ts k = true) :
    Pure prog w A (.ref 59) [.ref ad, .ref al] s (fun v _ => ∃ t, v = .int (keyOf ts ls) t) := by
  refine pure_enter (binds := [("tables", .ref ad), ("letters", .ref al)]) T.fkey T.lim (by have := r.dp; omega) (fun _ _ _ _ _ => rfl) (by decide) (locs rfl) rfl rfl rfl fun h₁ F => ?_
  have r1 := r.deeper (envX "_law_key" (scopeOf (dfn 9)) s.heap.objs.size 59 (cds 9) [])
  generalize A.deeper (envX "_law_key" (scopeOf (dfn 9)) s.heap.objs.size 59 (cds 9) []) = A1 at r1 ⊢
  conv in bodyOf (dfn 9) => whnf
  refine wpAny_execs_cons ?_
  refine wpAny_Assign_Name ?_
  refine wpAny_Constant_int ?_
  refine sto F News.nil fun h2 t2 F2 N2 => ?_
  try dsimp only
  refine wpAny_execs_cons ?_
  refine For_turns F2 ?_
  refine nmL F2 rfl ?_
  refine iter_list (s := s) r1.hh (hl.keeps F2.keep) (Nat.ne_of_lt hl.lt) F2 N2
    (fun i m nw => nw = [] ∧ (∃ t, m "key" = some (.int ((ls.take i).foldl (fun a one => keyIn ts ls one a) 0) t)) ∧ m "tables" = some (.ref ad) ∧ m "letters" = some (.ref al)) ⟨rfl, ⟨_, rfl⟩, rfl, rfl⟩ ?_ ?_
  · rintro i x u m₁ news₁ h3 t3 own I oi hx ⟨rfl, ⟨tn, hm1⟩, hm2, hm3⟩ hoff hIo hsub hIl F3 N3
    refine wpAny_assign_Name (sto F3 N3 fun h4 t4 F4 N4 => ?_)
    refine wpAny_execs_cons ?_
    refine For_turns F4 ?_
    refine nmL F4 (v := .ref al) hm3 ?_
    refine iter_list (s := s) r1.hh (hl.keeps F4.keep) (Nat.ne_of_lt hl.lt) F4 N4
      (fun j m nw => nw = own ++ [] ∧ (∃ t, m "key" = some (.int ((ls.take j).foldl (fun a other => 8 * a + getK (getT ts x) other) ((ls.take i).foldl (fun a one => keyIn ts ls one a) 0)) t)) ∧ m "tables" = some (.ref ad) ∧ m "letters" = some (.ref al) ∧ m "one" = some (.int x u)) ⟨rfl, ⟨tn, hm1⟩, hm2, hm3, rfl⟩ ?_ ?_
    · rintro j y v m₂ news₂ h5 t5 own2 I2 oi2 hy ⟨rfl, ⟨tn2, hm4⟩, hm5, hm6, hm7⟩ hoff2 hIo2 hsub2 hIl2 F5 N5
      refine wpAny_assign_Name (sto F5 N5 fun h6 t6 F6 N6 => ?_)
      refine wpAny_execs_cons ?_
      refine wpAny_Assign_Name ?_
      refine wpAny_BinOp ?_
      refine wpAny_BinOp ?_
      refine wpAny_Constant_int ?_
      refine nmL F6 (v := .int _ tn2) hm4 ?_
      refine mul_int ?_ (smallMul (by decide))
      refine callGet ?_
      refine Subscript_ ?_
      refine nmL F6 (v := .ref ad) hm5 ?_
      refine nmL F6 (v := .int x u) hm7 ?_
      obtain ⟨kvs, e, hD, hval, hde⟩ := (hd.keeps F6.keep).item (hls x (List.mem_of_getElem? hx))
      try dsimp only
      refine itemD hD hval fun t7 => ?_
      refine ⟨e, _, rfl, hde, ?_⟩
      refine nmL F6 rfl ?_
      refine wpAny_Constant_int ?_
      refine ⟨y, v, 0, _, rfl, rfl, hde, fun t8 => ?_⟩
      rw [getK_if]
      refine add_int ?_
      try dsimp only
      refine sto F6 N6 fun h7 t9 F7 N7 => ?_
      try dsimp only
      refine wpAny_execs_nil ?_
      refine ⟨rfl, h7, t9, _, own ++ [], rfl, F7, N7, hoff2, rfl, ⟨t7 + 1 + 1, ?_⟩, hm5, hm6, hm7⟩
      rw [List.take_add_one, hy]
      simp only [List.foldl_append, Option.toList_some, List.foldl_cons, List.foldl_nil]
      exact rfl
    · rintro h5 t5 m5 news5 F5 N5 ⟨rfl, ⟨tn2, hm4⟩, hm5, hm6, hm7⟩
      rw [List.take_length] at hm4
      try dsimp only
      refine wpAny_execs_nil ?_
      refine ⟨rfl, h5, t5, _, [], rfl, F5, N5, (fun p hp => nomatch hp), rfl, ⟨tn2, ?_⟩, hm5, hm6⟩
      rw [List.take_add_one, hx]
      simp only [List.foldl_append, Option.toList_some, List.foldl_cons, List.foldl_nil]
      exact hm4
  · rintro h3 t3 m3 news3 F3 N3 ⟨rfl, ⟨tn, hm1⟩, hm2, hm3⟩
    rw [List.take_length] at hm1
    try dsimp only
    refine wpAny_execs_cons ?_
    refine wpAny_Return_some ?_
    refine nmL F3 hm1 ?_
    try dsimp only
    exact ⟨h3, t3, [], rfl, F3.keep, Nat.le_of_lt F3.ns.lt, (fun p hp => nomatch hp), tn, rfl⟩
end Mine

namespace Mine
set_option maxRecDepth 100000
abbrev envC (qual : Str) (i : Nat) (L f : Addr) (cd : Value) : Env := envX qual (scopeOf (dfn i)) L f cd (cellsFrom (L + 1) (scopeOf (dfn i)).names [])
theorem pure_enterC {prog : Program} {w : World} {A : Around} {s : Shared} {f : Addr} {i : Nat} {qual : Str} {cd : Value} {args : List Value} {binds : List (Str × Value)} {R : Value → List (Addr × Obj) → Prop}
    (X : FnAt s.heap f i qual cd) (hl : s.heap.NoLimit) (hroom : A.depth < recursionLimit)
    (hbind : ∀ nm doc pm an ct, bindArgs (fnX nm qual (paramsOf (dfn i)) (bodyOf (dfn i)) (scopeOf (dfn i)) [] .none .none doc pm an cd ct) ⟨args, []⟩ = pure binds)
    (hkind : (binds.all fun y => (scopeOf (dfn i)).names.lookup y.1 == some .local || (scopeOf (dfn i)).names.lookup y.1 == some .cell) = true)
    (hnd : ((cellsFrom 0 (scopeOf (dfn i)).names []).map (·.1)).Nodup)
    (hco : (scopeOf (dfn i)).isCoroutine = false) (hgen : (scopeOf (dfn i)).isGenerator = false) (hk : (scopeOf (dfn i)).kind = .function)
    (h : ∀ h₁ tk cells, Fr s.heap s.heap.objs.size h₁ (bindL (envC qual i s.heap.objs.size f cd).kindOf binds fun _ => none) → News s.heap s.heap.objs.size h₁ cells →
      CellsAre (bindC (envC qual i s.heap.objs.size f cd).kindOf binds fun _ => none) (cellsFrom (s.heap.objs.size + 1) (scopeOf (dfn i)).names []) cells →
      wpAny (model prog w) (A.deeper (envC qual i s.heap.objs.size f cd)) (execs (bodyOf (dfn i)) (envC qual i s.heap.objs.size f cd))
        (PureEnd s R) (fun _ _ => False) { s with heap := h₁, toks := tk }) :
    Pure prog w A (.ref f) args s R := by
  intro Q E hQ
  obtain ⟨o, nm, doc, pm, an, ct, ho, hd, hc⟩ := X
  refine wpAny_call ?_
  refine codeAny_call_function hroom ho hd hco hgen rfl hc ?_
  rw [hbind]
  refine wpAny_pure (wpAny_newFunctionEnv_cells hk (kindsX hkind _) fun env' he s' x => ?_)
  subst he
  refine ⟨hl.keeps x.toInCall.keep, codeAny_func ?_⟩
  obtain ⟨h₁, tk, rfl, _⟩ := x.done
  have hk₁ := x.toInCall.keep
  obtain ⟨cells, NC, Y⟩ := Cl.news (h₀ := s.heap) (Nat.le_refl _) fun n c hm => ⟨x.cell n c (lookup_of_mem_nodup (cellsFrom_names (scopeOf (dfn i)).names 0 (s.heap.objs.size + 1) [] [] rfl ▸ hnd) hm), x.above n c hm⟩
  refine wpAny_mono (h h₁ tk cells ⟨x.toInCall.ns, hk₁, Nat.le_refl _⟩ NC Y) (fun fl s' he => ?_) (fun _ _ x => x.elim)
  obtain ⟨h', tk', tl, rfl, hx, hsz, hf, hr⟩ := he
  exact hQ _ h' tk' tl hx hsz hf hr
end Mine

namespace Mine
set_option maxRecDepth 100000
/-- an object that is a list -/
def PO (o : Obj) (vs : List Value) : Prop := o.cls = .type "list" ∧ o.dict = none ∧ ∃ n, o.data = .seq vs.toArray n
theorem PO.lit (vs : List Value) (n : Nat) : PO (listOf vs.toArray n) vs := ⟨rfl, rfl, n, rfl⟩
theorem PO.isList {h : Heap} {a : Addr} {o : Obj} {vs} (x : PO o vs) (e : h.get? a = some o) : h.IsList a vs.toArray := ⟨o, e, x.1, x.2.2⟩
/-- an object that is a list of ints -/
def IO (o : Obj) (ns : List Int) : Prop := ∃ vs n, o.cls = .type "list" ∧ o.data = .seq vs.toArray n ∧ IntsAre vs ns ∧ o.dict = none
theorem IO.lit {vs : List Value} {ns : List Int} (n : Nat) (h : IntsAre vs ns) : IO (listOf vs.toArray n) ns := ⟨vs, n, rfl, rfl, h, rfl⟩
theorem IO.at {h : Heap} {a : Addr} {o : Obj} {ns} (x : IO o ns) (e : h.get? a = some o) : LAt h a ns := let ⟨vs, n, p, q, i, _⟩ := x; ⟨vs, ⟨o, e, p, n, q⟩, i⟩
theorem PO.io {o : Obj} {vs : List Value} {ns : List Int} (x : PO o vs) (i : IntsAre vs ns) : IO o ns := let ⟨p, d, n, q⟩ := x; ⟨vs, n, p, q, i, d⟩
theorem IO.po {o : Obj} {ns : List Int} (x : IO o ns) : ∃ vs, PO o vs ∧ IntsAre vs ns := let ⟨vs, n, p, q, i, d⟩ := x; ⟨vs, ⟨p, d, n, q⟩, i⟩
theorem intsAre_append {vs ws : List Value} {ns ms : List Int} (h : IntsAre vs ns) (g : IntsAre ws ms) : IntsAre (vs ++ ws) (ns ++ ms) := by
  induction h with
  | nil => exact g
  | cons n t _ ih => exact .cons n t ih
theorem intsAre_take {vs : List Value} {ns : List Int} (h : IntsAre vs ns) : ∀ k, IntsAre (vs.take k) (ns.take k) := by
  induction h with
  | nil => intro k; simp; exact .nil
  | cons n t _ ih => intro k; cases k with
    | zero => exact .nil
    | succ k => exact .cons n t (ih k)
theorem intsAre_drop {vs : List Value} {ns : List Int} (h : IntsAre vs ns) : ∀ k, IntsAre (vs.drop k) (ns.drop k) := by
  induction h with
  | nil => intro k; simp; exact .nil
  | cons n t h ih => intro k; cases k with
    | zero => exact .cons n t h
    | succ k => exact ih k
section
variable {prog : Program} {w : World} {A : Around} {E : Value → Shared → Prop} {s : Shared} {env : Env} {h₀ H : Heap} {t : Nat} {m : Str → Option Value} {news : List (Addr × Obj)}
/-- for x in range(a, b) -/
theorem iter_range {Q : Flow → Shared → Prop} {x : Str} {px : Pos} {body : List Stmt} {r : Addr} {a b : Int} {t₁ u₁ v₁ : Tok} {n : Nat} (hr : IsRange H r a b 1 t₁ u₁ v₁) (hsmall : Builtin.Range.small a b 1 = true) (hn : Builtin.Range.rangeSize a b 1 = (n : Int)) (hh : A.handled = none)
    (F : Fr h₀ env.locals H m) (N : News h₀ env.locals H news) (J : Nat → (Str → Option Value) → List (Addr × Obj) → Prop) (h0 : J 0 m news)
    (step : ∀ (i : Nat) u m₁ news₁ h₁ tk₁ own I oi, i < n → J i m₁ news₁ → (∀ p ∈ news₁, p.1 ≠ I) → (I, oi) ∈ own → (∀ p ∈ own, p.1 = I) →
      Fr h₀ env.locals h₁ m₁ → News h₀ env.locals h₁ (own ++ news₁) →
      wpAny (model prog w) A (assign (.Name x px) env (.int (a + (i : Int)) u)) (fun _ s₃ => wpAny (model prog w) A (execs body env) (StepEnd h₀ env.locals I s own (J (i + 1))) (fun _ _ => False) s₃) (fun _ _ => False) { s with heap := h₁, toks := tk₁ })
    (done : ∀ h' tk m' news', Fr h₀ env.locals h' m' → News h₀ env.locals h' news' → J n m' news' → Q .next { s with heap := h', toks := tk }) :
    wpAny (model prog w) A (pyIter (.ref r)) (fun it s₂ => TurnsAt prog w A h₀ env (.Name x px) body Q E it s₂) E { s with heap := H, toks := t } := by
  refine wpAny_pyIter_range (s := { s with heap := H, toks := t }) hr hsmall ?_
  have W := KTurns.ofWalks (target := .Name x px) (Walks.range (prog := prog) (w := w) hh H.objs.size a 1 n) fun i v s Q E st q => wpAny_pure q
  refine turns_of (s := s) W ?_ (by show IsRangeIter _ _ _ _ _; rw [hn]; simpa using Heap.get?_push_size _ rfl) (next_is_new F) (fun i h st => ⟨_, st⟩) (fun p hp => Nat.ne_of_lt (Heap.lt_size (N p hp).1)) (F.push _) (fun p hp => ⟨Heap.get?_push_of_some _ (N p hp).1, (N p hp).2⟩) J h0 ?_ ?_
  · intro hm
    exact absurd F.ns.lt ((List.mem_singleton.mp hm) ▸ Nat.lt_irrefl _)
  · rintro i v m₁ news₁ h₁ tk₁ own oi hi ⟨u, rfl⟩ hJ hoff hIo hsub hall F₁ N₁
    rw [Int.mul_one]
    exact step i u m₁ news₁ h₁ tk₁ own _ oi hi hJ hoff hIo (fun p hp => by simpa using hsub p hp) F₁ N₁
  · intro h' tk m' news' F' N' _ hJ
    exact done h' tk m' news' F' N' hJ
/-- xs.append(v) -/
theorem appL {L : Addr} {Q : Value → Shared → Prop} {own rest : List (Addr × Obj)} {d : Addr} {o : Obj} {vs : List Value} {v : Value} (F : Fr h₀ L H m) (N : News h₀ L H (own ++ (d, o) :: rest)) (h1 : ∀ p ∈ own, p.1 ≠ d) (h2 : ∀ p ∈ rest, p.1 ≠ d)
    (hp : PO o vs) (hz : vs.length ≤ 100000) (h : ∀ h' o', Fr h₀ L h' m → News h₀ L h' (own ++ (d, o') :: rest) → PO o' (vs ++ [v]) → Q .none { s with heap := h', toks := t }) :
    wpAny (model prog w) A (call (.builtin "list.append") [.ref d, v]) Q E { s with heap := H, toks := t } := by
  have hm := N (d, o) (List.mem_append_right _ (.head _))
  obtain ⟨n, hdat⟩ := hp.2.2
  refine list_append_plainL (s := { s with heap := H, toks := t }) ⟨o, n, hm.1, hp.1, hp.2.1, hdat⟩ (fun h' hl hs => ?_) (by rw [sizeLine_eq]; simp; omega)
  obtain ⟨o', n', ho', hc', hd', hdat'⟩ := hl
  exact h h' o' (F.change hs hm.2.1 hm.2.2) (N.setIn h1 h2 hs ho') ⟨hc', hd', n', by rw [hdat']; simp⟩
/-- xs + ys -/
theorem addL {L : Addr} {Q : Value → Shared → Prop} {a b : Addr} {ns ms : List Int} (F : Fr h₀ L H m) (N : News h₀ L H news) (ha : LAt H a ns) (hb : LAt H b ms) (hz : ns.length + ms.length ≤ 100000)
    (h : ∀ D o h', Fr h₀ L h' m → News h₀ L h' ((D, o) :: news) → (∀ p ∈ news, p.1 < D) → IO o (ns ++ ms) → Q (.ref D) { s with heap := h', toks := t }) :
    wpAny (model prog w) A (binaryOp .Add (.ref a) (.ref b)) Q E { s with heap := H, toks := t } := by
  obtain ⟨vs, hva, hia⟩ := ha
  obtain ⟨ws, hvb, hib⟩ := hb
  exact kmk_add_ints (s := { s with heap := H, toks := t }) F N hva hvb hia hib (fun D us h' F' N' hlt hi => h D _ h' F' N' hlt (IO.lit 0 hi)) (by rw [sizeLine_eq]; omega)
/-- xs[lo:hi] -/
theorem sliceL {L : Addr} {Q : Value → Shared → Prop} {value slice : Expr} {a : Addr} {ns : List Int} {vl vu : Value} {lo hi : Option Int} (F : Fr h₀ L H m) (N : News h₀ L H news) (ha : LAt H a ns) (pl : IsPart vl lo) (pu : IsPart vu hi) (hz : ns.length ≤ 100000)
    (h : ∀ D o h', Fr h₀ L h' m → News h₀ L h' ((D, o) :: news) → (∀ p ∈ news, p.1 < D) → IO o ((ns.drop (kms_lo lo ns.length)).take (kms_hi hi ns.length - kms_lo lo ns.length)) → Q (.ref D) { s with heap := h', toks := t })
    (hs : subscripted slice false (.ref a) (.ref H.objs.size) = operate [.ref H.objs.size, .ref a] (getItem (.ref a) (.ref H.objs.size)) := by with_unfolding_all rfl) (ht : ∀ r, letTemporaryGo value (.ref a) r = pure () := by intro _; with_unfolding_all rfl) :
    wpAny (model prog w) A (subscriptTail value slice (.ref a) (.ref H.objs.size)) Q E { s with heap := H.push { cls := .type "slice", data := .fields #[vl, vu, .none] }, toks := t } := by
  obtain ⟨vs, hva, hia⟩ := ha
  refine kms_slice_lit (s := { s with heap := H, toks := t }) F N hva pl pu rfl (fun D h' F' N' hlt => h D _ h' F' N' hlt (IO.lit 0 ?_)) hs ht (by rw [sizeLine_eq]; simp [hia.length]; omega)
  unfold kms_pick
  have hlen : vs.toArray.toList.length = ns.length := by simp [hia.length]
  rw [hlen]
  exact intsAre_take (intsAre_drop hia _) _
/-- [v] -/
theorem newL {L : Addr} {Q : Value → Shared → Prop} {vs : List Value} {ns : List Int} (F : Fr h₀ L H m) (N : News h₀ L H news) (hi : IntsAre vs ns) (hz : ns.length ≤ 100000)
    (h : ∀ D o h', Fr h₀ L h' m → News h₀ L h' ((D, o) :: news) → (∀ p ∈ news, p.1 < D) → IO o ns → Q (.ref D) { s with heap := h', toks := t }) :
    wpAny (model prog w) A (newList vs) Q E { s with heap := H, toks := t } :=
  newList_N (s := { s with heap := H, toks := t }) F N (fun h' F' N' => h _ _ h' F' N' (fun p hp => Heap.lt_size (N p hp).1) (IO.lit 0 hi)) (by rw [sizeLine_eq, hi.length]; omega)
end
end Mine

namespace Mine
set_option maxRecDepth 100000
section
variable {prog : Program} {w : World} {A : Around} {E : Value → Shared → Prop} {s : Shared} {env : Env} {H : Heap} {t : Nat}
abbrev tests (ifs : List Expr) (env : Env) : Sem Bool := forIn ifs true fun c r => if r = true then do let ok ← isTrue c env (eval c env); pure (ForInStep.yield ok) else pure (ForInStep.yield r)
/-- the turns of a list comprehension, any target -/
theorem lturns {elt target iter : Expr} {ifs : List Expr} {scope : Scope} {pos : Pos} {it acc : Value} {cenv : Env} {R : Result → Shared → Prop} {s : Shared} (I : Nat → Shared → Prop)
    (turn : ∀ n s, I n s → wpAny (model prog w) A (pyNext it) (fun r s₁ => match r with
      | none => R (.ok .next) s₁
      | some v => wpAny (model prog w) A (letOwnedTupleGo target it v) (fun _ s₁' => wpAny (model prog w) A (assign target cenv v) (fun _ s₂ =>
          wpAny (model prog w) A (tests ifs cenv) (fun ok s₃ =>
            if ok = true then wpAny (model prog w) A (eval elt cenv) (fun x s₄ =>
              wpAny (model prog w) A (call (.builtin "list.append") [acc, x]) (fun _ s₅ => ∃ m, m < n ∧ I m s₅) (fun _ _ => False) s₄) (fun _ _ => False) s₃
            else ∃ m, m < n ∧ I m s₃) (fun _ _ => False) s₂) (fun _ _ => False) s₁') (fun _ _ => False) s₁) (fun _ _ => False) s)
    (n : Nat) (h : I n s) :
    codeAny (model prog w) A (.compLoop (.ListComp elt [⟨target, iter, ifs, 0⟩] scope pos) 0 it acc cenv) R s := by
  refine codeAny_loop rfl I (fun n s hI => ?_) n h
  show wpAny _ A ((compTurn (.ListComp elt [⟨target, iter, ifs, 0⟩] scope pos) 0 it acc cenv).onRaise (fun x => do noteFrame x cenv; theTreesLotGoes x)) _ _ s
  refine wpAny_noted ?_
  rw [compTurn_list]
  refine wpAny_bind (wpAny_standAt (wpAny_bind (wpAny_mono (turn n s hI) (fun r s₁ h₁ => ?_) fun _ _ f => f.elim)))
  cases r with
  | none => exact wpAny_pure h₁
  | some v =>
    refine wpAny_bind (wpAny_mono h₁ (fun _ s₁' h₁' => ?_) fun _ _ f => f.elim)
    refine wpAny_bind (wpAny_mono h₁' (fun _ s₂ h₂ => wpAny_bind (wpAny_mono h₂ (fun ok s₃ h₃ => ?_) fun _ _ f => f.elim)) fun _ _ f => f.elim)
    cases ok with
    | false => exact wpAny_pure ⟨rfl, h₃⟩
    | true =>
      exact wpAny_bind (wpAny_bind (wpAny_mono h₃ (fun x s₄ h₄ => wpAny_bind (wpAny_mono h₄ (fun _ s₅ h₅ => wpAny_pure (wpAny_pure ⟨rfl, h₅⟩)) fun _ _ f => f.elim)) fun _ _ f => f.elim))

/-- a list comprehension's block: the new list, its names, its turns -/
theorem lblock {elt target iter : Expr} {ifs : List Expr} {scope : Scope} {cl : List (Str × Addr)} {pos : Pos} {fp : List Addr} {n : Nat} {P : Nat → Value → Prop} {St : Nat → Heap → Prop} {itO : Obj} {RR : Value → Addr → Result → Shared → Prop}
    (hfr : itO.isFreed = false) (W : Walks prog w A H.objs.size fp [H.objs.size] n P St) (hst : St 0 (H.push itO)) (hlive : ∀ i h, St i h → ∃ o, h.get? H.objs.size = some o) (hfp : ∀ b ∈ fp, b = H.objs.size ∨ ∃ o, H.get? b = some o) (hn : n ≤ 10000)
    (hgo : ∀ i v (s : Shared) (Q : Unit → Shared → Prop) (E : Value → Shared → Prop), St i s.heap → Q () s → wpAny (model prog w) A (letOwnedTupleGo target (.ref H.objs.size) v) Q E s)
    (J : Nat → List Value → List (Addr × Obj) → Prop) (h0 : J 0 [] [])
    (step : ∀ i v C I D oI oD ys tl h tk m₃, i < n → P i v → J i ys tl → (∀ p ∈ tl, p.1 ≠ I ∧ p.1 ≠ D) → Fr H C h m₃ → News H C h ([(I, oI), (D, oD)] ++ tl) →
      wpAny (model prog w) A (assign target (compEnvC scope cl C env) v) (fun _ s₂ => wpAny (model prog w) A (tests ifs (compEnvC scope cl C env)) (fun ok s₃ =>
        if ok = true then wpAny (model prog w) A (eval elt (compEnvC scope cl C env)) (fun y s₄ =>
          ∃ tl' h' tk' m', s₄ = { s with heap := h', toks := tk' } ∧ Fr H C h' m' ∧ News H C h' ([(I, oI), (D, oD)] ++ tl') ∧ (∀ p ∈ tl', p.1 ≠ I ∧ p.1 ≠ D) ∧ J (i + 1) (ys ++ [y]) tl') (fun _ _ => False) s₃
        else ∃ tl' h' tk' m', s₃ = { s with heap := h', toks := tk' } ∧ Fr H C h' m' ∧ News H C h' ([(I, oI), (D, oD)] ++ tl') ∧ (∀ p ∈ tl', p.1 ≠ I ∧ p.1 ≠ D) ∧ J (i + 1) ys tl') (fun _ _ => False) s₂) (fun _ _ => False) { s with heap := h, toks := tk })
    (hRR : ∀ D C h' tk m' ys o tl, Fr H C h' m' → News H C h' ((D, o) :: tl) → (∀ p ∈ tl, p.1 ≠ D) → H.objs.size ≤ D → H.objs.size < C → PO o ys → J n ys tl → RR (.ref D) C (.ok .next) { s with heap := h', toks := tk })
    (hcell : ∀ y ∈ scope.names, y.2 ≠ .cell) (hkind : scope.kind = .function) :
    wpAny (model prog w) A (newList []) (fun acc s₃ => wpAny (model prog w) A (newFunctionEnv scope env.globals cl [] env.qual none .none (some env)) (fun cenv s₄ =>
      codeAny (model prog w) A (.compStart (.ListComp elt [⟨target, iter, ifs, 0⟩] scope pos) 0 (.ref H.objs.size) acc { cenv with scope := relabel scope env }) (RR acc cenv.locals) s₄) E s₃) E { s with heap := H.push itO, toks := t } := by
  refine wpAny_newObj_type (wpAny_newFunctionEnv hcell (by intro y hy; simp at hy) (fun h₁ hns₁ hsb₁ => ?_) hkind)
  dsimp only at hns₁ hsb₁ ⊢
  have it1 : (H.push itO).get? H.objs.size = some itO := Heap.get?_push_size _ hfr
  generalize hH1 : H.push itO = H1 at hns₁ hsb₁ hst it1 ⊢
  have k1 : Ext H H1 := fun b o e => hH1 ▸ Heap.get?_push_of_some _ e
  have z1 : H1.objs.size = H.objs.size + 1 := by rw [← hH1, Heap.size_push]
  have d2 : (H1.push { cls := Value.type "list", dict := none, data := Data.seq ([] : List Value).toArray }).get? H1.objs.size = some (listOf ([] : List Value).toArray 0) := Heap.get?_push_size _ rfl
  generalize hH2 : H1.push { cls := Value.type "list", dict := none, data := Data.seq ([] : List Value).toArray } = H2 at hns₁ hsb₁ d2 ⊢
  have k2 : Ext H1 H2 := fun b o e => hH2 ▸ Heap.get?_push_of_some _ e
  have z2 : H2.objs.size = H.objs.size + 2 := by rw [← hH2, Heap.size_push, z1]
  have k3 : Ext H2 h₁ := fun b o e => hsb₁.extBut b o (Nat.ne_of_lt (Heap.lt_size e)) (Heap.get?_push_of_some _ e)
  have hst₁ : St 0 h₁ := W.frame _ _ _ hst fun b _ o e => k3 _ _ (k2 _ _ e)
  have loop : ∀ s₃ : Shared, s₃ = { s with heap := h₁, toks := t + ([] : List (Str × Value)).length } →
      codeAny (model prog w) A (.compLoop (.ListComp elt [⟨target, iter, ifs, 0⟩] scope pos) 0 (.ref H.objs.size) (.ref H1.objs.size) (compEnvC scope cl H2.objs.size env))
        (RR (.ref H1.objs.size) H2.objs.size) s₃ := by
    rintro s₃ rfl
    refine lturns (fun k s' => ∃ h tk m ys oD tl i, s' = { s with heap := h, toks := tk } ∧ St i h ∧ Fr H H2.objs.size h m ∧ h.get? H1.objs.size = some oD ∧ PO oD ys ∧ ys.length ≤ i ∧ News H H2.objs.size h tl ∧ (∀ p ∈ tl, p.1 ≠ H.objs.size ∧ p.1 ≠ H1.objs.size) ∧ J i ys tl ∧ i ≤ n ∧ k = n + 1 - i) ?_ (n + 1)
      ⟨h₁, _, _, [], _, [], 0, rfl, hst₁, ⟨hns₁, fun b o e => k3 _ _ (k2 _ _ (k1 _ _ e)), (by show H.objs.size ≤ H2.objs.size; omega)⟩, k3 _ _ d2, PO.lit [] 0, Nat.le_refl _, News.nil, (fun p hp => nomatch hp), h0, Nat.zero_le _, rfl⟩
    rintro k s' ⟨h, tk, m, ys, oD, tl, i, rfl, hst', F, hoD, hpo, hyl, N, a4, hJ, hile, rfl⟩
    have nI : (@Ne Addr H.objs.size H2.objs.size) := neA (by omega)
    have nD : (@Ne Addr H1.objs.size H2.objs.size) := neA (by omega)
    have nID : (@Ne Addr H.objs.size H1.objs.size) := neA (by omega)
    have dH : H.get? H1.objs.size = none := none_of_size (by show H.objs.size ≤ H1.objs.size; omega)
    by_cases hlt : i < n
    · refine W.item i _ _ _ hlt hst' fun v h₂ tk₂ hP hst₂ hk₂ => ?_
      have hk₂' : ∀ b o, b ≠ H.objs.size → h.get? b = some o → h₂.get? b = some o := fun b o hb e => hk₂ b o (by simpa using hb) e
      refine hgo (i + 1) v _ _ _ hst₂ ?_
      obtain ⟨oI, hoI⟩ := hlive _ _ hst₂
      have F₂ : Fr H H2.objs.size h₂ m := ⟨F.ns.at' fun o e => hk₂' _ o nI.symm e, fun b o e => hk₂' b o (Nat.ne_of_lt (Heap.lt_size e)) (F.keep b o e), F.above⟩
      have N₂ : News H H2.objs.size h₂ ([(H.objs.size, oI), (H1.objs.size, oD)] ++ tl) := by
        intro p hp
        rcases List.mem_append.mp hp with hp | hp
        · rcases List.mem_cons.mp hp with rfl | hp
          · exact ⟨hoI, nI, none_of_size (Nat.le_refl _)⟩
          · rw [List.mem_singleton.mp hp]; exact ⟨hk₂' _ _ nID.symm hoD, nD, dH⟩
        · exact ⟨hk₂' _ _ (a4 p hp).1 (N p hp).1, (N p hp).2⟩
      have stk : ∀ h' m', Fr H H2.objs.size h' m' → h'.get? H.objs.size = some oI → St (i + 1) h' := fun h' m' F' hI' =>
        W.frame _ _ _ hst₂ fun b hb o e => by
          rcases hfp b hb with rfl | ⟨ob, hob⟩
          · rw [hoI] at e; cases e; exact hI'
          · rw [F₂.keep _ _ hob] at e; cases e; exact F'.keep _ _ hob
      refine wpAny_mono (step i v H2.objs.size H.objs.size H1.objs.size oI oD ys tl h₂ tk₂ m hlt hP hJ a4 F₂ N₂) (fun _ s₂ h₂' => wpAny_mono h₂' (fun ok s₃ h₃ => ?_) fun _ _ f => f) fun _ _ f => f
      cases ok with
      | false =>
        rw [if_neg Bool.false_ne_true] at h₃ ⊢
        obtain ⟨tl', h', tk', m', rfl, F', N', c5, c6⟩ := h₃
        exact ⟨n + 1 - (i + 1), by omega, h', tk', m', ys, oD, tl', i + 1, rfl, stk h' m' F' (N' _ (.head _)).1, F', (N' _ (.tail _ (.head _))).1, hpo, by omega, (fun p hp => N' p (List.mem_append_right _ hp)), c5, c6, hlt, rfl⟩
      | true =>
        rw [if_pos rfl] at h₃ ⊢
        refine wpAny_mono h₃ (fun y s₄ h₄ => ?_) fun _ _ f => f
        obtain ⟨tl', h', tk', m', rfl, F', N', c5, c6⟩ := h₄
        refine appL (s := s) (own := [(H.objs.size, oI)]) (rest := tl') F' N' (fun p hp => by rw [List.mem_singleton.mp hp]; exact nID) (fun p hp => (c5 p hp).2) hpo (by omega) fun h'' o'' F'' N'' po'' => ?_
        exact ⟨n + 1 - (i + 1), by omega, h'', _, m', ys ++ [y], o'', tl', i + 1, rfl, stk h'' m' F'' (N'' _ (.head _)).1, F'', (N'' _ (.tail _ (.head _))).1, po'', by simp; omega, (fun p hp => N'' p (.tail _ (.tail _ hp))), c5, c6, hlt, rfl⟩
    · have hin : i = n := by omega
      subst hin
      refine W.done _ _ _ hst' fun h₂ tk₂ hk₂ => ?_
      have hk₂' : ∀ b o, b ≠ H.objs.size → h.get? b = some o → h₂.get? b = some o := fun b o hb e => hk₂ b o (by simpa using hb) e
      refine hRR H1.objs.size H2.objs.size h₂ tk₂ m ys oD tl ⟨F.ns.at' fun o e => hk₂' _ o nI.symm e, fun b o e => hk₂' b o (Nat.ne_of_lt (Heap.lt_size e)) (F.keep b o e), F.above⟩ ?_ (fun p hp => (a4 p hp).2) (by show H.objs.size ≤ H1.objs.size; omega) (by show H.objs.size < H2.objs.size; omega) hpo hJ
      intro p hp
      rcases List.mem_cons.mp hp with rfl | hp
      · exact ⟨hk₂' _ _ nID.symm hoD, nD, dH⟩
      · exact ⟨hk₂' _ _ (a4 p hp).1 (N p hp).1, (N p hp).2⟩
  exact codeAny_compStart_list (loop _ rfl) (W.self 0 _ _ _ hst₁ (loop _ rfl))
/-- the step of a comprehension's turn -/
abbrev LStep (prog : Program) (w : World) (A : Around) (s : Shared) (H : Heap) (env : Env) (scope : Scope) (cl : List (Str × Addr)) (elt target : Expr) (ifs : List Expr) (n : Nat) (P : Nat → Value → Prop) (J : Nat → List Value → List (Addr × Obj) → Prop) : Prop :=
  ∀ i v C I D oI oD ys tl h tk m₃, i < n → P i v → J i ys tl → (∀ p ∈ tl, p.1 ≠ I ∧ p.1 ≠ D) → Fr H C h m₃ → News H C h ([(I, oI), (D, oD)] ++ tl) →
      wpAny (model prog w) A (assign target (compEnvC scope cl C env) v) (fun _ s₂ => wpAny (model prog w) A (tests ifs (compEnvC scope cl C env)) (fun ok s₃ =>
        if ok = true then wpAny (model prog w) A (eval elt (compEnvC scope cl C env)) (fun y s₄ =>
          ∃ tl' h' tk' m', s₄ = { s with heap := h', toks := tk' } ∧ Fr H C h' m' ∧ News H C h' ([(I, oI), (D, oD)] ++ tl') ∧ (∀ p ∈ tl', p.1 ≠ I ∧ p.1 ≠ D) ∧ J (i + 1) (ys ++ [y]) tl') (fun _ _ => False) s₃
        else ∃ tl' h' tk' m', s₃ = { s with heap := h', toks := tk' } ∧ Fr H C h' m' ∧ News H C h' ([(I, oI), (D, oD)] ++ tl') ∧ (∀ p ∈ tl', p.1 ≠ I ∧ p.1 ≠ D) ∧ J (i + 1) ys tl') (fun _ _ => False) s₂) (fun _ _ => False) { s with heap := h, toks := tk }
abbrev LDone (s : Shared) (H : Heap) (n : Nat) (J : Nat → List Value → List (Addr × Obj) → Prop) (RR : Value → Addr → Result → Shared → Prop) : Prop :=
  ∀ D C h' tk m' ys o tl, Fr H C h' m' → News H C h' ((D, o) :: tl) → (∀ p ∈ tl, p.1 ≠ D) → H.objs.size ≤ D → H.objs.size < C → PO o ys → J n ys tl → RR (.ref D) C (.ok .next) { s with heap := h', toks := tk }
/-- over a list -/
theorem lcl {elt target iter : Expr} {ifs : List Expr} {scope : Scope} {cl : List (Str × Addr)} {pos : Pos} {RR : Value → Addr → Result → Shared → Prop} {l : Addr} {vs : List Value} (hh : A.handled = none) (hl : H.IsList l vs.toArray) (hz : vs.length ≤ 10000)
    (J : Nat → List Value → List (Addr × Obj) → Prop) (h0 : J 0 [] [])
    (step : LStep prog w A s H env scope cl elt target ifs vs.length (fun i v => vs[i]? = some v) J) (hRR : LDone s H vs.length J RR)
    (hcell : ∀ y ∈ scope.names, y.2 ≠ .cell) (hkind : scope.kind = .function) :
    wpAny (model prog w) A (pyIter (.ref l)) (fun it s₂ => wpAny (model prog w) A (newList []) (fun acc s₃ => wpAny (model prog w) A (newFunctionEnv scope env.globals cl [] env.qual none .none (some env)) (fun cenv s₄ =>
      codeAny (model prog w) A (.compStart (.ListComp elt [⟨target, iter, ifs, 0⟩] scope pos) 0 it acc { cenv with scope := relabel scope env }) (RR acc cenv.locals) s₄) E s₃) E s₂) E { s with heap := H, toks := t } := by
  obtain ⟨ol, hol, _⟩ := id hl
  have hne : l ≠ H.objs.size := Nat.ne_of_lt (Heap.lt_size hol)
  refine wpAny_pyIter_list (s := { s with heap := H, toks := t }) hl ?_
  have W := Walks.list (prog := prog) (w := w) hh H.objs.size l hne vs.toArray
  have hlen : vs.toArray.size = vs.length := by simp
  rw [hlen] at W
  refine lblock (s := s) rfl W ⟨⟨_, Heap.get?_push_size _ rfl, rfl, rfl⟩, hl.at fun o e => Heap.get?_push_of_some _ e⟩ (fun i h st => let ⟨⟨o, ho, _⟩, _⟩ := st; ⟨o, ho⟩) ?_ hz (fun i v s Q E st q => letGo_listiter st.1 q) J h0 ?_ hRR hcell hkind
  · intro b hb
    rcases List.mem_cons.mp hb with rfl | hb
    · exact .inl rfl
    · rw [List.mem_singleton.mp hb]; exact .inr ⟨ol, hol⟩
  · intro i v C I D oI oD ys tl h tk m₃ hi hP
    exact step i v C I D oI oD ys tl h tk m₃ hi (by simpa using hP)
/-- over a range -/
theorem lcr {elt iter : Expr} {x : Str} {px : Pos} {ifs : List Expr} {scope : Scope} {cl : List (Str × Addr)} {pos : Pos} {RR : Value → Addr → Result → Shared → Prop} {r : Addr} {a b : Int} {t₁ u₁ v₁ : Tok} {n : Nat} (hh : A.handled = none)
    (hr : IsRange H r a b 1 t₁ u₁ v₁) (hsmall : Builtin.Range.small a b 1 = true) (hn : Builtin.Range.rangeSize a b 1 = (n : Int)) (hz : n ≤ 10000)
    (J : Nat → List Value → List (Addr × Obj) → Prop) (h0 : J 0 [] [])
    (step : LStep prog w A s H env scope cl elt (.Name x px) ifs n (fun i v => ∃ u, v = .int (a + (i : Int)) u) J) (hRR : LDone s H n J RR)
    (hcell : ∀ y ∈ scope.names, y.2 ≠ .cell) (hkind : scope.kind = .function) :
    wpAny (model prog w) A (pyIter (.ref r)) (fun it s₂ => wpAny (model prog w) A (newList []) (fun acc s₃ => wpAny (model prog w) A (newFunctionEnv scope env.globals cl [] env.qual none .none (some env)) (fun cenv s₄ =>
      codeAny (model prog w) A (.compStart (.ListComp elt [⟨.Name x px, iter, ifs, 0⟩] scope pos) 0 it acc { cenv with scope := relabel scope env }) (RR acc cenv.locals) s₄) E s₃) E s₂) E { s with heap := H, toks := t } := by
  refine wpAny_pyIter_range (s := { s with heap := H, toks := t }) hr hsmall ?_
  refine lblock (s := s) rfl (Walks.range (prog := prog) (w := w) hh H.objs.size a 1 n) (by show IsRangeIter _ _ _ _ _; rw [hn]; simpa using Heap.get?_push_size _ rfl) (fun i h st => ⟨_, st⟩) (fun b hb => .inl (List.mem_singleton.mp hb)) hz (fun i v s Q E st q => wpAny_pure q) J h0 ?_ hRR hcell hkind
  rintro i v C I D oI oD ys tl h tk m₃ hi ⟨u, rfl⟩
  exact step i _ C I D oI oD ys tl h tk m₃ hi ⟨u, by rw [Int.mul_one]⟩
variable {h₀ : Heap} {m : Str → Option Value} {news : List (Addr × Obj)}
/-- the value of a comprehension -/
theorem postN {Q : Value → Shared → Prop} {L : Addr} {n : Nat} {J : Nat → List Value → List (Addr × Obj) → Prop} (F : Fr h₀ L H m) (N : News h₀ L H news)
    (done : ∀ D h' tk ys o tl, Fr h₀ L h' m → News h₀ L h' (((D, o) :: tl) ++ news) → (∀ p ∈ tl, p.1 ≠ D) → (∀ p ∈ news, ∀ q ∈ (D, o) :: tl, q.1 ≠ p.1) → H.objs.size ≤ D → Ext H h' → PO o ys → J n ys tl → Q (.ref D) { s with heap := h', toks := tk }) :
    LDone s H n J (compPost (model prog w) A E none Q) := by
  intro D C h' tk m' ys o tl F' N' hne hD hC hpo hJ
  refine ⟨m', F'.ns, fun h'' hs => ?_⟩
  replace hs : Heap.SameBut C h' h'' := hs
  have k : Ext H h'' := fun b o e => hs.extBut b o (neA (by have := ltA e; omega)) (F'.keep b o e)
  have fr : Fresh H h'' ((D, o) :: tl) := fun p hp => ⟨hs.extBut _ _ (N' p hp).2.1 (N' p hp).1, (N' p hp).2.2⟩
  exact done D h'' tk ys o tl (F.keeps k) (News.more F N k fr) hne (fun p hp q hq => fr.ne hq (N p hp).1) hD k hpo hJ
/-- a comprehension stored into a local name -/
theorem postA {Q : Flow → Shared → Prop} {y : Str} {py : Pos} {n : Nat} {J : Nat → List Value → List (Addr × Obj) → Prop} (F : Fr h₀ env.locals H m) (N : News h₀ env.locals H news)
    (done : ∀ D h' tk ys o tl, Fr h₀ env.locals h' (fun z => if z = y then some (.ref D) else m z) → News h₀ env.locals h' (((D, o) :: tl) ++ news) → (∀ p ∈ tl, p.1 ≠ D) → (∀ p ∈ news, ∀ q ∈ (D, o) :: tl, q.1 ≠ p.1) → H.objs.size ≤ D → PO o ys → J n ys tl → Q .next { s with heap := h', toks := tk })
    (hk : env.scope.kind = .function := by rfl) (hy : env.kindOf y = some .local := by rfl) :
    LDone s H n J (compPost (model prog w) A E (some (assign (.Name y py) env)) (fun _ s' => Q .next s')) := by
  intro D C h' tk m' ys o tl F' N' hne hD hC hpo hJ
  have k : Ext H h' := F'.keep
  have fr : Fresh H h' ((D, o) :: tl) := fun p hp => ⟨(N' p hp).1, (N' p hp).2.2⟩
  have hLC : env.locals ≠ C := neA (by have := F.ns.lt; show env.locals ≠ C; exact Nat.ne_of_lt (Nat.lt_trans this hC))
  show wpAny _ A (assign (.Name y py) env (.ref D)) _ _ _
  obtain ⟨oC, e1, e2, hoC, e3⟩ := F'.ns
  refine wpAny_assign_Name (wpAny_storeName_local (s := { s with heap := h', toks := tk }) hy (F.keeps k).ns (fun h₂ hn₂ hs₂ => ?_) (by rw [hk]; rfl))
  have F2 := (F.keeps k).set hn₂ hs₂
  have N2 := (News.more F N k fr).set hs₂
  refine ⟨m', F'.ns.sameBut hs₂ hLC.symm, fun h₃ hs₃ => ?_⟩
  replace hs₃ : Heap.SameBut C h₂ h₃ := hs₃
  have hC0 : h₀.get? C = none := by
    cases q : h₀.get? C with
    | none => rfl
    | some o => exact absurd (Heap.lt_size (F.keep _ _ q)) (Nat.not_lt.mpr (Nat.le_of_lt hC))
  refine done D h₃ _ ys o tl (F2.change hs₃ hLC.symm hC0) ?_ hne (fun p hp q hq => fr.ne hq (N p hp).1) hD hpo hJ
  intro p hp
  refine ⟨hs₃.extBut _ _ ?_ (N2 p hp).1, (N2 p hp).2⟩
  rcases List.mem_append.mp hp with hp | hp
  · exact (N' p hp).2.1
  · exact Nat.ne_of_lt (Nat.lt_trans (Heap.lt_size (N p hp).1) hC)
/-- a list comprehension -/
theorem lcomp {elt target iter : Expr} {ifs : List Expr} {scope : Scope} {cl : List (Str × Addr)} {pos : Pos} {Q : Value → Shared → Prop} {s : Shared}
    (hclos : closureFor scope env = pure cl) (hkind : scope.kind = .function) (hnames : ∀ y ∈ scope.names, y.2 = .local → scope.names.lookup y.1 = some .local)
    (h : wpAny (model prog w) A (eval iter env) (fun xv s₁ => wpAny (model prog w) A (pyIter xv) (fun it s₂ => wpAny (model prog w) A (newList []) (fun acc s₃ => wpAny (model prog w) A (newFunctionEnv scope env.globals cl [] env.qual none .none (some env)) (fun cenv s₄ =>
      codeAny (model prog w) A (.compStart (.ListComp elt [⟨target, iter, ifs, 0⟩] scope pos) 0 it acc { cenv with scope := relabel scope env }) (compPost (model prog w) A E none Q acc cenv.locals) s₄) E s₃) E s₂) E s₁) E s)
    (hs : ∀ x, foldedSetIterable iter env x = pure x := by intro _; rfl) :
    wpAny (model prog w) A (eval (.ListComp elt [⟨target, iter, ifs, 0⟩] scope pos) env) Q E s := by
  rw [eval_ListComp]
  exact wpAny_comprehension_free (use := none) rfl hs hclos hkind hnames h
/-- y = a list comprehension -/
theorem lcompA {elt target iter : Expr} {ifs : List Expr} {scope : Scope} {cl : List (Str × Addr)} {pos spos : Pos} {y : Str} {py : Pos} {Q : Flow → Shared → Prop} {s : Shared}
    (hsw : swapsWith (.ListComp elt [⟨target, iter, ifs, 0⟩] scope pos) (some (.Name y py)) spos.line env = pure true)
    (hclos : closureFor scope env = pure cl) (hkind : scope.kind = .function) (hnames : ∀ y ∈ scope.names, y.2 = .local → scope.names.lookup y.1 = some .local)
    (h : wpAny (model prog w) A (eval iter env) (fun xv s₁ => wpAny (model prog w) A (pyIter xv) (fun it s₂ => wpAny (model prog w) A (newList []) (fun acc s₃ => wpAny (model prog w) A (newFunctionEnv scope env.globals cl [] env.qual none .none (some env)) (fun cenv s₄ =>
      codeAny (model prog w) A (.compStart (.ListComp elt [⟨target, iter, ifs, 0⟩] scope pos) 0 it acc { cenv with scope := relabel scope env }) (compPost (model prog w) A E (some (assign (.Name y py) env)) (fun _ s' => Q .next s') acc cenv.locals) s₄) E s₃) E s₂) E s₁) E s)
    (hs : ∀ x, foldedSetIterable iter env x = pure x := by intro _; rfl) :
    wpAny (model prog w) A (exec (.Assign [.Name y py] (.ListComp elt [⟨target, iter, ifs, 0⟩] scope pos) spos) env) Q E s := by
  rw [exec_Assign_Name_used _ _ _ _ hsw]
  refine wpAny_bind (wpAny_standAt (wpAny_bind ?_))
  show wpAny _ A (do let _ ← comprehension (.ListComp elt [⟨target, iter, ifs, 0⟩] scope pos) scope env _ (newList []) false (eval iter env) (some (assign (.Name y py) env))) _ _ s
  exact wpAny_bind (wpAny_mono (wpAny_comprehension_free (use := some (assign (.Name y py) env)) (Q := fun _ s' => Q .next s') rfl hs hclos hkind hnames h) (fun _ s' hq => wpAny_pure (wpAny_pure hq)) fun _ _ e => e)
/-- no tests -/
theorem tests_nil {env : Env} {Q : Bool → Shared → Prop} {s : Shared} (h : Q true s) : wpAny (model prog w) A (tests [] env) Q E s := wpAny_pure h
/-- one test -/
theorem tests_one {c : Expr} {env : Env} {Q : Bool → Shared → Prop} {s : Shared} (h : wpAny (model prog w) A (isTrue c env (eval c env)) Q E s) : wpAny (model prog w) A (tests [c] env) Q E s := by
  unfold tests
  rw [List.forIn_cons, if_pos rfl]
  refine wpAny_bind (wpAny_bind (wpAny_mono h (fun ok s₁ h₁ => wpAny_pure ?_) fun _ _ e => e))
  exact wpAny_pure h₁
end
end Mine

namespace Mine
set_option maxRecDepth 100000

abbrev Rw := List Int × List Int
def TO (o : Obj) (a b : Value) : Prop := o.cls = .type "tuple" ∧ ∃ n, o.data = .seq #[a, b] n
inductive RV (G : Addr → Obj → Prop) : List Value → List Rw → Prop
  | nil : RV G [] []
  | cons {T r l : Addr} {oT or ol : Obj} {row left : List Int} {vs rs} : G T oT → TO oT (.ref r) (.ref l) → G r or → IO or row → G l ol → IO ol left → RV G vs rs → RV G (.ref T :: vs) ((row, left) :: rs)
theorem RV.mono {G G' : Addr → Obj → Prop} {vs rs} (h : RV G vs rs) (hg : ∀ a o, G a o → G' a o) : RV G' vs rs := by
  induction h with
  | nil => exact .nil
  | cons a b c d e f _ ih => exact .cons (hg _ _ a) b (hg _ _ c) d (hg _ _ e) f ih
theorem RV.length {G vs rs} (h : RV G vs rs) : vs.length = rs.length := by
  induction h with
  | nil => rfl
  | cons _ _ _ _ _ _ _ ih => simp [ih]
theorem RV.append {G vs rs} (h : RV G vs rs) {T r l : Addr} {oT or ol : Obj} {row left : List Int} (a : G T oT) (b : TO oT (.ref r) (.ref l)) (c : G r or) (d : IO or row) (e : G l ol) (f : IO ol left) : RV G (vs ++ [.ref T]) (rs ++ [(row, left)]) := by
  induction h with
  | nil => exact .cons a b c d e f .nil
  | cons a' b' c' d' e' f' _ ih => exact .cons a' b' c' d' e' f' ih
theorem RV.get {G vs rs} (h : RV G vs rs) : ∀ {i : Nat} {v : Value}, vs[i]? = some v → ∃ T r l oT or ol row left, v = .ref T ∧ rs[i]? = some (row, left) ∧ G T oT ∧ TO oT (.ref r) (.ref l) ∧ G r or ∧ IO or row ∧ G l ol ∧ IO ol left := by
  induction h with
  | nil => intro i v e; simp at e
  | @cons T r l oT or ol row left vs rs a b c d e f _ ih =>
    intro i v q
    cases i with
    | zero => simp at q; exact ⟨T, r, l, oT, or, ol, row, left, q.symm, rfl, a, b, c, d, e, f⟩
    | succ i => simp at q; obtain ⟨T, r, l, oT, or, ol, row, left, z⟩ := ih q; exact ⟨T, r, l, oT, or, ol, row, left, by simpa using z⟩
/-- one letter more -/
def grow (rw : Rw) (k : Nat) : Option Rw := if rw.2.getD k 0 = 0 then none else some (rw.1 ++ [(k : Int)], rw.2.take k ++ [rw.2.getD k 0 - 1] ++ rw.2.drop (k + 1))
def growK (rw : Rw) (n : Nat) : List Rw := (List.range n).filterMap (grow rw)
def growAll (rs : List Rw) : List Rw := rs.flatMap fun rw => growK rw 3
def rowsAt (rs : List Rw) : Nat → List Rw
  | 0 => rs
  | i + 1 => growAll (rowsAt rs i)
def rowsOf (first last : Int) (between : List Int) : List (List Int) := (rowsAt [([first], between)] 4).map fun rw => rw.1 ++ [last]
theorem growK_le (rw : Rw) (n : Nat) : (growK rw n).length ≤ n := by
  unfold growK; exact Nat.le_trans (List.length_filterMap_le _ _) (by simp)
theorem growAll_le (rs : List Rw) : (growAll rs).length ≤ 3 * rs.length := by
  unfold growAll
  induction rs with
  | nil => simp
  | cons r rs ih => simp only [List.flatMap_cons, List.length_append, List.length_cons]; have := growK_le r 3; omega
theorem rowsAt_le (rs : List Rw) (i : Nat) : (rowsAt rs i).length ≤ 3 ^ i * rs.length := by
  induction i with
  | zero => simp [rowsAt]
  | succ i ih =>
    unfold rowsAt
    rw [Nat.pow_succ, Nat.mul_comm (3 ^ i) 3, Nat.mul_assoc]
    exact Nat.le_trans (growAll_le _) (Nat.mul_le_mul_left 3 ih)
/-- how long rows and counts are -/
def Okl (n : Nat) (rs : List Rw) : Prop := ∀ rw ∈ rs, rw.1.length ≤ n ∧ rw.2.length = 3
theorem okl_grow {n : Nat} {rw : Rw} (h : rw.1.length ≤ n ∧ rw.2.length = 3) {k : Nat} (hk : k < 3) {r : Rw} (hr : grow rw k = some r) : r.1.length ≤ n + 1 ∧ r.2.length = 3 := by
  unfold grow at hr
  split at hr
  · cases hr
  · cases hr; simp; omega
theorem okl_growAll {n : Nat} {rs : List Rw} (h : Okl n rs) : Okl (n + 1) (growAll rs) := by
  intro r hr
  obtain ⟨rw, hrw, hr⟩ := List.mem_flatMap.mp hr
  obtain ⟨k, hk, hr⟩ := List.mem_filterMap.mp hr
  exact okl_grow (h rw hrw) (List.mem_range.mp hk) hr
theorem okl_rowsAt {n : Nat} {rs : List Rw} (h : Okl n rs) (i : Nat) : Okl (n + i) (rowsAt rs i) := by
  induction i with
  | zero => exact h
  | succ i ih => exact okl_growAll ih
theorem newT {prog : Program} {w : World} {A : Around} {E : Value → Shared → Prop} {s : Shared} {h₀ H : Heap} {t : Nat} {m : Str → Option Value} {news : List (Addr × Obj)} {L : Addr} {Q : Value → Shared → Prop} {a b : Value} (F : Fr h₀ L H m) (N : News h₀ L H news)
    (h : ∀ D o h', Fr h₀ L h' m → News h₀ L h' ((D, o) :: news) → (∀ p ∈ news, p.1 < D) → TO o a b → Q (.ref D) { s with heap := h', toks := t }) :
    wpAny (model prog w) A (newTuple [a, b]) Q E { s with heap := H, toks := t } :=
  newTuple_N (s := { s with heap := H, toks := t }) F N (fun h' F' N' => h _ _ h' F' N' (fun p hp => Heap.lt_size (N p hp).1) ⟨rfl, 0, rfl⟩) (by show 2 ≤ sizeLine; rw [sizeLine_eq]; decide)
theorem getD_get {ns : List Int} {k : Nat} (h : k < ns.length) : ns[k]? = some (ns.getD k 0) := by simp [h]
theorem cut_lo (ns : List Int) (k : Nat) (h : k ≤ ns.length) : (ns.drop (kms_lo none ns.length)).take (kms_hi (some (k : Int)) ns.length - kms_lo none ns.length) = ns.take k := by
  simp only [kms_lo, kms_hi]
  rw [if_neg (by omega)]
  simp [Nat.min_eq_left h]
theorem cut_hi (ns : List Int) (k : Nat) (h : k < ns.length) : (ns.drop (kms_lo (some ((k : Int) + 1)) ns.length)).take (kms_hi none ns.length - kms_lo (some ((k : Int) + 1)) ns.length) = ns.drop (k + 1) := by
  simp only [kms_lo, kms_hi]
  rw [if_neg (by omega)]
  have : min ((k : Int) + 1).toNat ns.length = k + 1 := by omega
  rw [this]
  apply List.take_of_length_le
  simp
/-- rows, as lists of ints -/
inductive RL (G : Addr → Obj → Prop) : List Value → List (List Int) → Prop
  | nil : RL G [] []
  | cons {r : Addr} {o : Obj} {row : List Int} {vs rs} : G r o → IO o row → RL G vs rs → RL G (.ref r :: vs) (row :: rs)

theorem RL.mono {G G' : Addr → Obj → Prop} {vs rs} (h : RL G vs rs) (hg : ∀ a o, G a o → G' a o) : RL G' vs rs := by
  induction h with
  | nil => exact .nil
  | cons a b _ ih => exact .cons (hg _ _ a) b ih
theorem RL.append {G vs rs} (h : RL G vs rs) {r : Addr} {o : Obj} {row : List Int} (a : G r o) (b : IO o row) : RL G (vs ++ [.ref r]) (rs ++ [row]) := by
  induction h with
  | nil => exact .cons a b .nil
  | cons a' b' _ ih => exact .cons a' b' ih
theorem RL.length {G vs rs} (h : RL G vs rs) : vs.length = rs.length := by
  induction h with
  | nil => rfl
  | cons _ _ _ ih => simp [ih]
theorem RL.get {G vs rs} (h : RL G vs rs) : ∀ {i : Nat} {v : Value}, vs[i]? = some v → ∃ r o row, v = .ref r ∧ rs[i]? = some row ∧ G r o ∧ IO o row := by
  induction h with
  | nil => intro i v e; simp at e
  | @cons r o row vs rs a b _ ih =>
    intro i v q
    cases i with
    | zero => simp at q; exact ⟨r, o, row, q.symm, rfl, a, b⟩
    | succ i => simp at q; obtain ⟨r, o, row, z⟩ := ih q; exact ⟨r, o, row, by simpa using z⟩

set_option maxHeartbeats 4000000 in
theorem rows_spec {prog : Program} {w : World} {mg mb cds} {A : Around} {s : Shared} {ab : Addr} {first last : Int} {tf tl : Tok} {bt : List Int} (T : Tp mg mb cds s.heap) (r : Room A 4) (hb : ∃ o, s.heap.get? ab = some o ∧ IO o bt) (hbl : bt.length = 3) :
    Pure prog w A (.ref 40) [.int first tf, .int last tl, .ref ab] s (fun v tl => ∃ d o vs, v = .ref d ∧ (d, o) ∈ tl ∧ PO o vs ∧ RL (fun a o => (a, o) ∈ tl) vs (rowsOf first last bt)) := by
  refine pure_enterC (binds := [("first", .int first tf), ("last", .int last tl), ("between", .ref ab)]) T.frows T.lim (by have := r.dp; omega) (fun _ _ _ _ _ => rfl) rfl (by decide +kernel) rfl rfl rfl fun h₁ t₁ cells F NC Y => ?_
  obtain ⟨oc, rfl, hoc⟩ := CellsAre.one Y
  clear Y
  have r1 := r.deeper (envC "_law_rows" 6 s.heap.objs.size 40 (cds 6))
  generalize A.deeper (envC "_law_rows" 6 s.heap.objs.size 40 (cds 6)) = A1 at r1 ⊢
  conv in bodyOf (dfn 6) => whnf
  refine wpAny_execs_cons ?_
  refine wpAny_Assign_Name ?_
  refine List_ ?_
  refine args_cons ?_
  refine Tuple_ ?_
  refine args_cons ?_
  refine List_ ?_
  refine args_cons ?_
  refine nmL F (v := .int first tf) rfl ?_
  refine args_nil ?_
  refine newL F NC (ns := [first]) (.cons _ _ .nil) (by simp) fun a1 o1 h2 F2 N2 lt2 io1 => ?_
  refine args_cons ?_
  refine nmL F2 (v := .ref ab) rfl ?_
  refine args_nil ?_
  refine newTuple_N F2 N2 (fun h3 F3 N3 => ?_) (by show 2 ≤ sizeLine; rw [sizeLine_eq]; decide)
  refine args_nil ?_
  refine newList_N F3 N3 (fun h4 F4 N4 => ?_) (by show 1 ≤ sizeLine; rw [sizeLine_eq]; decide)
  try dsimp only
  refine sto F4 N4 fun h5 t5 F5 N5 => ?_
  try dsimp only at N5 ⊢
  obtain ⟨ob, hob, iob⟩ := hb
  have hok0 : Okl 1 [([first], bt)] := by
    intro rw hrw; rw [List.mem_singleton.mp hrw]; exact ⟨Nat.le_refl _, hbl⟩
  refine wpAny_execs_cons ?_
  refine For_turns F5 ?_
  refine callTy T F5 (by decide) boot_range ?_
  refine args_cons ?_
  refine wpAny_Constant_int ?_
  refine args_nil ?_
  refine range1_rows F5 N5 fun h6 t6 _ _ _ hr6 F6 N6 k6 => ?_
  refine iter_range (s := s) hr6 (by decide +kernel) (n := 4) rfl r1.hh F6 N6
    (fun i m nw => (s.heap.objs.size + 1, oc) ∈ nw ∧ (∃ ar orr vs, (ar, orr) ∈ nw ∧ PO orr vs ∧ RV (fun a o => (a, o) ∈ nw ∨ s.heap.get? a = some o) vs (rowsAt [([first], bt)] i) ∧ m "rows" = some (.ref ar)))
    ⟨by simp, _, _, _, .head _, PO.lit [_] 0, .cons (.inl (.tail _ (.head _))) ⟨rfl, _, rfl⟩ (.inl (.tail _ (.tail _ (.head _)))) io1 (.inr hob) iob .nil, rfl⟩ ?_ ?_
  · rintro i u m₁ nw h7 t7 own I oi hi ⟨hcell, ar, orr, vs, hin, hpo, hrv, hm1⟩ hoff hIo hsub F7 N7
    have hokl := okl_rowsAt hok0 i
    have hlen : (rowsAt [([first], bt)] i).length ≤ 81 := by
      have h1 := rowsAt_le [([first], bt)] i
      have h2 : 3 ^ i ≤ 3 ^ 4 := Nat.pow_le_pow_right (by decide) (by omega)
      simp only [List.length_cons, List.length_nil] at h1
      omega
    show wpAny _ _ _ (fun _ s₃ => wpAny _ _ _ (StepEnd _ _ _ _ _ (fun m nw => (s.heap.objs.size + 1, oc) ∈ nw ∧ (∃ ar orr vs, (ar, orr) ∈ nw ∧ PO orr vs ∧ RV (fun a o => (a, o) ∈ nw ∨ s.heap.get? a = some o) vs (growAll (rowsAt [([first], bt)] i)) ∧ m "rows" = some (.ref ar)))) _ _) _ _
    generalize hrs : rowsAt [([first], bt)] i = rs at *
    refine wpAny_assign_Name (sto F7 N7 fun h8 t8 F8 N8 => ?_)
    refine wpAny_execs_cons ?_
    refine wpAny_Assign_Name ?_
    refine List_ ?_
    refine args_nil ?_
    refine newList_N F8 N8 (fun h9 F9 N9 => ?_) (by show 0 ≤ sizeLine; exact Nat.zero_le _)
    have al_lt : ∀ p ∈ own ++ nw, p.1 ≠ h8.objs.size := fun p hp => Nat.ne_of_lt (Heap.lt_size (N8 p hp).1)
    generalize hal : ({ s with heap := h8, toks := t8 } : Shared).heap.objs.size = al at N9 ⊢
    have hal' : h8.objs.size = al := hal
    rw [hal'] at al_lt
    try dsimp only
    refine sto F9 N9 fun h10 t10 F10 N10 => ?_
    try dsimp only
    refine wpAny_execs_cons ?_
    refine For_turns F10 ?_
    refine nmL F10 (v := .ref ar) hm1 ?_
    have hG : ∀ {a o}, ((a, o) ∈ nw ∨ s.heap.get? a = some o) → ∀ {h m imm}, Fr s.heap s.heap.objs.size h m → News s.heap s.heap.objs.size h imm → (∀ p ∈ nw, p ∈ imm) → h.get? a = some o := by
      intro a o hg h m imm F N hs
      rcases hg with hg | hg
      · exact (N _ (hs _ hg)).1
      · exact F.keep _ _ hg
    have hrl10 : h10.IsList ar vs.toArray := hpo.isList (N10 _ (.tail _ (List.mem_append_right _ hin))).1
    have harL : ar ≠ s.heap.objs.size := (N10 _ (.tail _ (List.mem_append_right _ hin))).2.1
    refine iter_listV (s := s) r1.hh hrl10 harL F10 N10
      (fun j m nx => ∃ ol ws imm, nx = (al, ol) :: (own ++ imm) ∧ (∀ p ∈ imm, p.1 ≠ al ∧ p.1 ≠ I) ∧ (∀ p ∈ nw, p ∈ imm) ∧ PO ol ws ∧ RV (fun a o => (a, o) ∈ imm ∨ s.heap.get? a = some o) ws (growAll (rs.take j)) ∧ m "longer" = some (.ref al))
      ⟨_, [], nw, rfl, (fun p hp => ⟨al_lt p (List.mem_append_right _ hp), hoff p hp⟩), (fun p hp => hp), PO.lit [] 0, .nil, rfl⟩ ?_ ?_
    · rintro j v m₂ nx h11 t11 own2 I2 oi2 hv ⟨ol, ws, imm, rfl, hap, hsub1, hpo1, hrv1, hm2⟩ hoff2 hIo2 hsub2 hIl2 F11 N11
      obtain ⟨Tj, rj, lj, oTj, orj, olj, row, left, rfl, hrj, hTj, htoj, hrj', hioj, hlj, hiol⟩ := hrv.get hv
      have hrwl := hokl (row, left) (List.mem_of_getElem? hrj)
      have hT11 : h11.get? Tj = some oTj := hG hTj F11 N11 (fun p hp => List.mem_append_right _ (.tail _ (List.mem_append_right _ (hsub1 p hp))))
      have al_own : ∀ p ∈ own, p.1 ≠ al := fun p hp => al_lt p (List.mem_append_left _ hp)
      have al_own2 : ∀ p ∈ own2, p.1 ≠ al := fun p hp e => by
        rcases hsub2 p hp with q | q
        · exact hoff2 (al, ol) (.head _) (by rw [← q, e])
        · exact al_lt (ar, orr) (List.mem_append_right _ hin) (by rw [← q, e])
      have hsplit : growAll (rs.take (j + 1)) = growAll (rs.take j) ++ growK (row, left) 3 := by
        rw [List.take_add_one, hrj]; simp [growAll]
      have hws : ws.length ≤ 243 := by
        rw [hrv1.length]
        have h1 := growAll_le (rs.take j)
        have h2 := List.length_take_le' j rs
        omega
      rw [hsplit]
      refine assignPair r1.hh ⟨oTj, hT11, htoj.1, htoj.2⟩ F11 N11 fun h12 t12 F12 N12 => ?_
      refine wpAny_execs_cons ?_
      refine For_turns F12 ?_
      refine callTy T F12 (by decide) boot_range ?_
      refine args_cons ?_
      refine wpAny_Constant_int ?_
      refine args_nil ?_
      refine range1_rows F12 N12 fun h13 t13 _ _ _ hr13 F13 N13 k13 => ?_
      refine iter_range (s := s) hr13 (by decide +kernel) (n := 3) rfl r1.hh F13 (News.sub (led := (al, ol) :: ((own2 ++ own) ++ imm)) N13 (fun p hp => by simp at hp ⊢; rcases hp with rfl | hp | hp | hp <;> simp_all))
        (fun k m nx => ∃ ol ws imm, nx = (al, ol) :: ((own2 ++ own) ++ imm) ∧ (∀ p ∈ imm, p.1 ≠ al ∧ p.1 ≠ I ∧ p.1 ≠ I2) ∧ (∀ p ∈ nw, p ∈ imm) ∧ PO ol ws ∧ RV (fun a o => (a, o) ∈ imm ∨ s.heap.get? a = some o) ws (growAll (rs.take j) ++ growK (row, left) k) ∧ m "longer" = some (.ref al) ∧ m "row" = some (.ref rj) ∧ m "left" = some (.ref lj))
        ⟨ol, ws, imm, rfl, (fun p hp => ⟨(hap p hp).1, (hap p hp).2, hoff2 p (.tail _ (List.mem_append_right _ hp))⟩), hsub1, hpo1, (by simpa [growK] using hrv1), hm2, rfl, rfl⟩ ?_ ?_
      · rintro k u3 m₃ nx h14 t14 own3 I3 oi3 hk ⟨ol3, ws3, imm3, rfl, hap3, hsub3, hpo3, hrv3, hm3, hm4, hm5⟩ hoff3 hIo3 hsubI3 F14 N14
        rw [Int.zero_add]
        refine wpAny_assign_Name (sto F14 N14 fun h15 t15 F15 N15 => ?_)
        have hnw : ∀ p ∈ nw, p ∈ own3 ++ (al, ol3) :: ((own2 ++ own) ++ imm3) := fun p hp => List.mem_append_right _ (.tail _ (List.mem_append_right _ (hsub3 p hp)))
        have hLl : ∀ {h m lg}, Fr s.heap s.heap.objs.size h m → News s.heap s.heap.objs.size h lg → (∀ p ∈ nw, p ∈ lg) → LAt h lj left := fun F N hs => hiol.at (hG hlj F N hs)
        have hLr : ∀ {h m lg}, Fr s.heap s.heap.objs.size h m → News s.heap s.heap.objs.size h lg → (∀ p ∈ nw, p ∈ lg) → LAt h rj row := fun F N hs => hioj.at (hG hrj' F N hs)
        have hl15 : LAt h15 lj left := hLl F15 N15 hnw
        have hrl : row.length ≤ 100 := by have := hrwl.1; dsimp only at this; omega
        have hll3 : left.length = 3 := hrwl.2
        have hkl : k < left.length := by rw [hrwl.2]; exact hk
        refine wpAny_execs_cons ?_
        refine wpAny_If ?_
        refine isTrue_plain ?_
        refine Subscript_ ?_
        refine nmL F15 (v := .ref lj) hm5 ?_
        refine nmL F15 rfl ?_
        refine itemL hl15 (by omega) (by omega) (x := left.getD k 0) (getD_get hkl) fun t16 => ?_
        refine P.truthy_int ?_
        by_cases hz : left.getD k 0 = 0
        · rw [if_neg (by rw [hz]; decide)]
          refine wpAny_execs_nil ?_
          try dsimp only
          refine wpAny_execs_nil ?_
          refine ⟨rfl, h15, _, _, _, rfl, F15, N15, hoff3, ol3, ws3, imm3, rfl, hap3, hsub3, hpo3, ?_, hm3, hm4, hm5⟩
          have : growK (row, left) (k + 1) = growK (row, left) k := by
            unfold growK; rw [List.range_succ, List.filterMap_append]; have e : grow (row, left) k = none := if_pos hz
            simp [e]
          rw [this]; exact hrv3
        · rw [if_pos (bne_iff_ne.mpr hz)]
          refine wpAny_execs_cons ?_
          refine wpAny_Expr ?_
          refine wpAny_Call_append rfl rfl rfl rfl ?_
          refine nmL F15 (v := .ref al) hm3 ?_
          have hal15 : h15.get? al = some ol3 := (N15 _ (List.mem_append_right _ (.head _))).1
          obtain ⟨nn, hdat⟩ := hpo3.2.2
          refine ⟨al, ws3.toArray, rfl, ⟨ol3, nn, hal15, hpo3.1, hpo3.2.1, hdat⟩, ?_⟩
          have hkgrow : growK (row, left) (k + 1) = growK (row, left) k ++ [(row ++ [(k : Int)], left.take k ++ [left.getD k 0 - 1] ++ left.drop (k + 1))] := by
            unfold growK; rw [List.range_succ, List.filterMap_append]
            have e : grow (row, left) k = some (row ++ [(k : Int)], left.take k ++ [left.getD k 0 - 1] ++ left.drop (k + 1)) := if_neg hz
            simp only [List.filterMap_cons, e, List.filterMap_nil]
          refine Tuple_ ?_
          refine args_cons ?_
          refine wpAny_BinOp ?_
          refine nmL F15 (v := .ref rj) hm4 ?_
          refine List_ ?_
          refine args_cons ?_
          refine nmL F15 rfl ?_
          refine args_nil ?_
          refine newL F15 N15 (ns := [(k : Int)]) (.cons _ _ .nil) (by simp) fun b1 ob1 h16 F16 N16 lt16 io16 => ?_
          refine addL F16 N16 (hLr F16 N16 fun p hp => .tail _ (hnw p hp)) (io16.at (N16 _ (.head _)).1) (by simp; omega) fun b2 ob2 h17 F17 N17 lt17 io17 => ?_
          refine args_cons ?_
          refine wpAny_BinOp ?_
          refine wpAny_BinOp ?_
          refine Subscript_ ?_
          refine nmL F17 (v := .ref lj) hm5 ?_
          refine wpAny_Slice ?_
          refine wpAny_evalPart_none ?_
          refine wpAny_evalPart_some ?_
          refine nmL F17 rfl ?_
          refine wpAny_evalPart_none ?_
          refine sliceL F17 N17 (hLl F17 N17 fun p hp => .tail _ (.tail _ (hnw p hp))) .none (.int (k : Int) u3) (by omega) fun b3 ob3 h18 F18 N18 lt18 io18 => ?_
          rw [cut_lo left k (by omega)] at io18
          refine List_ ?_
          refine args_cons ?_
          refine wpAny_BinOp ?_
          refine Subscript_ ?_
          refine nmL F18 (v := .ref lj) hm5 ?_
          refine nmL F18 rfl ?_
          refine itemL (hLl F18 N18 fun p hp => .tail _ (.tail _ (.tail _ (hnw p hp)))) (by omega) (by omega) (x := left.getD k 0) (getD_get hkl) fun t19 => ?_
          refine wpAny_Constant_int ?_
          refine sub_int ?_
          refine args_nil ?_
          try dsimp only
          refine newL F18 N18 (ns := [left.getD k 0 - 1]) (.cons _ _ .nil) (by simp) fun b4 ob4 h20 F20 N20 lt20 io20 => ?_
          refine addL F20 N20 (io18.at (N20 _ (.tail _ (.head _))).1) (io20.at (N20 _ (.head _)).1) (by simp; omega) fun b5 ob5 h21 F21 N21 lt21 io21 => ?_
          refine Subscript_ ?_
          refine nmL F21 (v := .ref lj) hm5 ?_
          refine wpAny_Slice ?_
          refine wpAny_evalPart_some ?_
          refine wpAny_BinOp ?_
          refine nmL F21 rfl ?_
          refine wpAny_Constant_int ?_
          refine add_int ?_
          refine wpAny_evalPart_none ?_
          refine wpAny_evalPart_none ?_
          refine sliceL F21 N21 (hLl F21 N21 fun p hp => .tail _ (.tail _ (.tail _ (.tail _ (.tail _ (hnw p hp)))))) (.int ((k : Int) + 1) _) .none (by omega) fun b6 ob6 h22 F22 N22 lt22 io22 => ?_
          rw [cut_hi left k (by omega)] at io22
          refine addL F22 N22 (io21.at (N22 _ (.tail _ (.head _))).1) (io22.at (N22 _ (.head _)).1) (by simp; omega) fun b7 ob7 h23 F23 N23 lt23 io23 => ?_
          refine args_nil ?_
          refine newT F23 N23 fun b8 ob8 h24 F24 N24 lt24 to24 => ?_
          have hz3 : ws3.length ≤ 1000 := by
            rw [hrv3.length, List.length_append]
            have h1 := growAll_le (rs.take j)
            have h2 := List.length_take_le' j rs
            have h3 := growK_le (row, left) k
            omega
          have hprelt : ∀ q ∈ own3 ++ (al, ol3) :: ((own2 ++ own) ++ imm3), ∀ p ∈ [(b8, ob8), (b7, ob7), (b6, ob6), (b5, ob5), (b4, ob4), (b3, ob3), (b2, ob2), (b1, ob1)], q.1 < p.1 := by
            intro q hq p hp
            simp only [List.mem_cons, List.not_mem_nil, or_false] at hp
            rcases hp with rfl | rfl | rfl | rfl | rfl | rfl | rfl | rfl
            · exact lt24 q (.tail _ (.tail _ (.tail _ (.tail _ (.tail _ (.tail _ (.tail _ hq)))))))
            · exact lt23 q (.tail _ (.tail _ (.tail _ (.tail _ (.tail _ (.tail _ hq))))))
            · exact lt22 q (.tail _ (.tail _ (.tail _ (.tail _ (.tail _ hq)))))
            · exact lt21 q (.tail _ (.tail _ (.tail _ (.tail _ hq))))
            · exact lt20 q (.tail _ (.tail _ (.tail _ hq)))
            · exact lt18 q (.tail _ (.tail _ hq))
            · exact lt17 q (.tail _ hq)
            · exact lt16 q hq
          generalize hpre : [(b8, ob8), (b7, ob7), (b6, ob6), (b5, ob5), (b4, ob4), (b3, ob3), (b2, ob2), (b1, ob1)] = pre at hprelt
          have m8 : (b8, ob8) ∈ pre := by rw [← hpre]; simp
          have m7 : (b7, ob7) ∈ pre := by rw [← hpre]; simp
          have m2 : (b2, ob2) ∈ pre := by rw [← hpre]; simp
          have N25 : News s.heap s.heap.objs.size h24 ((pre ++ own3) ++ (al, ol3) :: ((own2 ++ own) ++ imm3)) := by
            rw [List.append_assoc, ← hpre]; exact N24
          have ne_pre : ∀ q ∈ own3 ++ (al, ol3) :: ((own2 ++ own) ++ imm3), ∀ p ∈ pre, p.1 ≠ q.1 := fun q hq p hp => Nat.ne_of_gt (hprelt q hq p hp)
          refine appL F24 N25 ?_ ?_ hpo3 (by omega) fun h25 o25 F25 N26 po25 => ?_
          · intro p hp
            rcases List.mem_append.mp hp with hp | hp
            · exact ne_pre (al, ol3) (List.mem_append_right _ (.head _)) p hp
            · rw [hsubI3 p hp]; exact fun e => hoff3 (al, ol3) (.head _) e.symm
          · intro p hp
            rcases List.mem_append.mp hp with hp | hp
            · rcases List.mem_append.mp hp with hp | hp
              · exact al_own2 p hp
              · exact al_own p hp
            · exact (hap3 p hp).1
          try dsimp only
          refine wpAny_execs_nil ?_
          try dsimp only
          refine wpAny_execs_nil ?_
          have mI : (I, oi) ∈ own3 ++ (al, ol3) :: ((own2 ++ own) ++ imm3) := List.mem_append_right _ (.tail _ (List.mem_append_left _ (List.mem_append_right _ hIo)))
          have mI2 : (I2, oi2) ∈ own3 ++ (al, ol3) :: ((own2 ++ own) ++ imm3) := List.mem_append_right _ (.tail _ (List.mem_append_left _ (List.mem_append_left _ hIo2)))
          have mI3 : (I3, oi3) ∈ own3 ++ (al, ol3) :: ((own2 ++ own) ++ imm3) := List.mem_append_left _ hIo3
          refine ⟨rfl, h25, _, _, (al, o25) :: ((own2 ++ own) ++ (pre ++ imm3)), rfl, F25, News.sub N26 ?_, ?_, o25, _, pre ++ imm3, rfl, ?_, (fun p hp => List.mem_append_right _ (hsub3 p hp)), po25, ?_, hm3, hm4, hm5⟩
          · intro p hp
            rcases List.mem_append.mp hp with hp | hp
            · exact List.mem_append_left _ (List.mem_append_right _ hp)
            · rcases List.mem_cons.mp hp with rfl | hp
              · exact List.mem_append_right _ (.head _)
              · rcases List.mem_append.mp hp with hp | hp
                · exact List.mem_append_right _ (.tail _ (List.mem_append_left _ hp))
                · rcases List.mem_append.mp hp with hp | hp
                  · exact List.mem_append_left _ (List.mem_append_left _ hp)
                  · exact List.mem_append_right _ (.tail _ (List.mem_append_right _ hp))
          · intro p hp
            rcases List.mem_cons.mp hp with rfl | hp
            · exact hoff3 (al, ol3) (.head _)
            · rcases List.mem_append.mp hp with hp | hp
              · exact hoff3 p (.tail _ (List.mem_append_left _ hp))
              · rcases List.mem_append.mp hp with hp | hp
                · exact ne_pre _ mI3 p hp
                · exact hoff3 p (.tail _ (List.mem_append_right _ hp))
          · intro p hp
            rcases List.mem_append.mp hp with hp | hp
            · exact ⟨ne_pre (al, ol3) (List.mem_append_right _ (.head _)) p hp, ne_pre _ mI p hp, ne_pre _ mI2 p hp⟩
            · exact hap3 p hp
          · rw [hkgrow, ← List.append_assoc]
            exact (hrv3.mono fun a o h => h.imp (fun q => List.mem_append_right _ q) id).append (.inl (List.mem_append_left _ m8)) to24 (.inl (List.mem_append_left _ m2)) io17 (.inl (List.mem_append_left _ m7)) io23
      · rintro h14 t14 m14 nx F14 N14 ⟨ol2, ws2, imm2, rfl, hap2, hsubi, hpo2, hrv2, hm14, _, _⟩
        try dsimp only
        refine wpAny_execs_nil ?_
        refine ⟨rfl, h14, t14, _, (al, ol2) :: (own ++ imm2), rfl, F14, News.sub N14 (fun p hp => by simp at hp ⊢; rcases hp with hp | rfl | hp | hp <;> simp_all), ?_, ol2, ws2, imm2, rfl, (fun p hp => ⟨(hap2 p hp).1, (hap2 p hp).2.1⟩), hsubi, hpo2, hrv2, hm14⟩
        intro p hp
        rcases List.mem_cons.mp hp with rfl | hp
        · exact hoff2 (al, ol) (.head _)
        · rcases List.mem_append.mp hp with hp | hp
          · exact hoff2 p (.tail _ (List.mem_append_left _ hp))
          · exact (hap2 p hp).2.2
    · rintro h11 t11 m11 nx F11 N11 ⟨ol, ws, imm, rfl, hap, hsub1, hpo1, hrv1, hm11⟩
      rw [hrv.length, List.take_length] at hrv1
      try dsimp only
      refine wpAny_execs_cons ?_
      refine wpAny_Assign_Name ?_
      refine nmL F11 hm11 ?_
      refine sto F11 N11 fun h12 t12 F12 N12 => ?_
      try dsimp only
      refine wpAny_execs_nil ?_
      refine ⟨rfl, h12, t12, _, (al, ol) :: imm, rfl, F12, News.sub N12 (fun p hp => by simp at hp ⊢; rcases hp with hp | rfl | hp <;> simp_all), ?_, .tail _ (hsub1 _ hcell), al, ol, ws, .head _, hpo1, hrv1.mono (fun a o h => h.imp (fun q => .tail _ q) id), rfl⟩
      intro p hp
      rcases List.mem_cons.mp hp with rfl | hp
      · exact fun e => al_lt (I, oi) (List.mem_append_left _ hIo) e.symm
      · exact (hap p hp).2
  · rintro h7 t7 m7 nw F7 N7 ⟨hcell, ar, orr, vs, hin, hpo, hrv, hm1⟩
    try dsimp only
    refine wpAny_execs_cons ?_
    refine wpAny_Return_some ?_
    refine lcomp (cl := [("last", s.heap.objs.size + 1)]) rfl rfl (by decide) ?_
    refine nmL F7 hm1 ?_
    have hrl7 : h7.IsList ar vs.toArray := hpo.isList (N7 _ hin).1
    have hG : ∀ {a o}, ((a, o) ∈ nw ∨ s.heap.get? a = some o) → h7.get? a = some o := fun hg => hg.elim (fun q => (N7 _ q).1) (fun q => F7.keep _ _ q)
    have hokl := okl_rowsAt hok0 4
    have hlen : (rowsAt [([first], bt)] 4).length ≤ 81 := by
      have h1 := rowsAt_le [([first], bt)] 4
      simp only [List.length_cons, List.length_nil] at h1
      omega
    generalize hrs : rowsAt [([first], bt)] 4 = rs at *
    refine lcl (s := s) (vs := vs) r1.hh hrl7 (by rw [hrv.length]; omega)
      (fun i ys tl => RL (fun a o => (a, o) ∈ tl) ys ((rs.take i).map fun rw => rw.1 ++ [last])) .nil ?_ (postN F7 N7 ?_) (by decide) rfl
    · intro i v C I D oI oD ys tl' h tk m₃ hi hv hJ hap F8 N8
      obtain ⟨Tj, rj, lj, oTj, orj, olj, row, left, rfl, hrj, hTj, htoj, hrj', hioj, hlj, hiol⟩ := hrv.get hv
      have hrwl := hokl (row, left) (List.mem_of_getElem? hrj)
      refine assignPair r1.hh ⟨oTj, F8.keep _ _ (hG hTj), htoj.1, htoj.2⟩ F8 N8 fun h9 t9 F9 N9 => ?_
      refine tests_nil ?_
      rw [if_pos rfl]
      refine wpAny_BinOp ?_
      refine nmL F9 rfl ?_
      refine List_ ?_
      refine args_cons ?_
      refine nmC (c := s.heap.objs.size + 1) (o := oc) rfl (F9.keep _ _ (N7 _ hcell).1) hoc ?_
      refine args_nil ?_
      refine newL F9 N9 (ns := [last]) (.cons _ _ .nil) (by simp) fun b1 ob1 h10 F10 N10 lt10 io10 => ?_
      refine addL F10 N10 (hioj.at (F10.keep _ _ (hG hrj'))) (io10.at (N10 _ (.head _)).1) (by have := hrwl.1; dsimp only at this; simp; omega) fun b2 ob2 h11 F11 N11 lt11 io11 => ?_
      refine ⟨(b2, ob2) :: tl', h11, _, _, rfl, F11, News.sub N11 ?_, ?_, ?_⟩
      · intro p hp
        simp only [List.cons_append, List.nil_append, List.mem_cons] at hp ⊢
        rcases hp with rfl | rfl | rfl | hp
        · exact .inr (.inr (.inl rfl))
        · exact .inr (.inr (.inr (.inl rfl)))
        · exact .inl rfl
        · exact .inr (.inr (.inr (.inr hp)))
      · intro p hp
        rcases List.mem_cons.mp hp with rfl | hp
        · exact ⟨Nat.ne_of_gt (lt11 (I, oI) (.tail _ (.head _))), Nat.ne_of_gt (lt11 (D, oD) (.tail _ (.tail _ (.head _))))⟩
        · exact hap p hp
      · have e : (rs.take (i + 1)).map (fun rw => rw.1 ++ [last]) = (rs.take i).map (fun rw => rw.1 ++ [last]) ++ [row ++ [last]] := by
          rw [List.take_add_one, hrj]; simp
        show RL _ _ ((rs.take (i + 1)).map (fun rw => rw.1 ++ [last]))
        rw [e]
        exact (RL.mono hJ fun a o h => .tail _ h).append (.head _) io11
    · intro D h8 t8 ys o tl' F8 N8 hne hne2 hD k8 hpo8 hJ
      rw [hrv.length, List.take_length] at hJ
      try dsimp only
      refine ⟨h8, t8, (D, o) :: tl', rfl, F8.keep, Nat.le_of_lt F8.ns.lt, (fun p hp => ⟨(N8 p (List.mem_append_left _ hp)).1, (N8 p (List.mem_append_left _ hp)).2.2⟩), D, o, ys, rfl, .head _, hpo8, ?_⟩
      unfold rowsOf
      rw [hrs]
      exact RL.mono hJ fun a o h => .tail _ h
end Mine

namespace Mine
set_option maxRecDepth 100000
section
variable {prog : Program} {w : World} {A : Around} {E : Value → Shared → Prop} {s : Shared} {env : Env} {H : Heap} {t : Nat} {Q : Value → Shared → Prop}
/-- {kx: vx for x in xs}, xs a list of ints, x kept in a cell of its own -/
theorem dcompC {scope : Scope} {kx vx iter : Expr} {x : Str} {px pos : Pos} {cl : List (Str × Addr)} {l : Addr} {ns : List Int} (hh : A.handled = none) (hl : LAt H l ns)
    (hit : ∀ Q', Q' (.ref l) { s with heap := H, toks := t } → wpAny (model prog w) A (eval iter env) Q' E { s with heap := H, toks := t })
    (J : Nat → List (Int × Value) → List (Addr × Obj) → Prop) (h0 : J 0 [] [])
    (step : ∀ i n u C I D c oI oD oc kvs tl h tk m₃, ns[i]? = some n → J i kvs tl → (∀ p ∈ tl, p.1 ≠ I ∧ p.1 ≠ D ∧ p.1 ≠ c) → Fr H C h m₃ → oc.data = .cell (some (.int n u)) → c = C + 1 → News H C h ([(I, oI), (D, oD), (c, oc)] ++ tl) →
      wpAny (model prog w) A (eval kx (compEnvC scope ((x, c) :: cl) C env)) (fun kv s₄ => wpAny (model prog w) A (eval vx (compEnvC scope ((x, c) :: cl) C env)) (fun vv s₅ =>
        ∃ k uk tl' h' tk' m', kv = .int k uk ∧ s₅ = { s with heap := h', toks := tk' } ∧ Fr H C h' m' ∧ News H C h' ([(I, oI), (D, oD), (c, oc)] ++ tl') ∧ (∀ p ∈ tl', p.1 ≠ I ∧ p.1 ≠ D ∧ p.1 ≠ c) ∧ kvs.length ≤ 10000 ∧ J (i + 1) (stored kvs k vv) tl') (fun _ _ => False) s₄) (fun _ _ => False) { s with heap := h, toks := tk })
    (done : ∀ D o h' tk kvs tl, Ext H h' → H.objs.size ≤ D → h'.get? D = some o → o.IsDictOf (intKind prog w) kvs → Made H h' tl → (∀ p ∈ tl, p.1 ≠ D) → J ns.length kvs tl → Q (.ref D) { s with heap := h', toks := tk })
    (hclos : closureFor scope env = pure cl) (hcells : cellsFrom (H.objs.size + 3) scope.names cl = (x, H.objs.size + 3) :: cl) (hpush : ∀ h : Heap, pushCells h scope.names = h.push { cls := .type "cell", data := .cell none }) (hkind : scope.kind = .function)
    (hnames : ∀ y ∈ scope.names, y.2 = .local → scope.names.lookup y.1 = some .local) (hx : (relabel scope env).names.lookup x = some .cell)
    (hs : ∀ x, foldedSetIterable iter env x = pure x := by intro _; rfl) :
    wpAny (model prog w) A (eval (.DictComp kx vx [⟨.Name x px, iter, [], 0⟩] scope pos) env) Q E { s with heap := H, toks := t } := by
  obtain ⟨vs, hlv, hi⟩ := hl
  obtain ⟨ol, hol, _⟩ := id hlv
  have hlH := Heap.lt_size hol
  rw [arm_eval_DictComp]
  refine wpAny_comprehension_free (use := none) rfl hs hclos hkind hnames (hit _ ?_)
  refine wpAny_pyIter_list (s := { s with heap := H, toks := t }) hlv ?_
  refine wpAny_newObj_type ?_
  dsimp only
  generalize hH1 : H.push { cls := Value.type "list_iterator", data := Data.fields #[Value.ref l, Value.int 0 0] } = H1
  have k1 : Ext H H1 := fun b o e => hH1 ▸ Heap.get?_push_of_some _ e
  have z1 : H1.objs.size = H.objs.size + 1 := by rw [← hH1, Heap.size_push]
  have it1 : H1.get? H.objs.size = some { cls := Value.type "list_iterator", data := Data.fields #[Value.ref l, Value.int 0 0] } := hH1 ▸ Heap.get?_push_size _ rfl
  generalize hH2 : H1.push { cls := Value.type "dict", dict := none, data := Data.dict #[] } = H2
  have k2 : Ext H1 H2 := fun b o e => hH2 ▸ Heap.get?_push_of_some _ e
  have z2 : H2.objs.size = H.objs.size + 2 := by rw [← hH2, Heap.size_push, z1]
  have d2 : H2.DictOf (intKind prog w) H1.objs.size [] := hH2 ▸ Heap.DictOf.new H1
  unfold newFunctionEnv
  refine wpAny_bind (wpAny_alloc ?_)
  refine wpAny_bind (wpAny_layCells _ (fun name kind cells => by cases hkc : kind == NameKind.cell <;> simp [hkc]) _ _ _ _ ?_)
  show wpAny _ _ (pure _) _ _ _
  refine wpAny_pure ?_
  dsimp only
  rw [hpush]
  have ns3 : (H2.push { cls := Value.type "dict", data := Data.dict #[] }).Ns H2.objs.size (fun _ => none) := Heap.Ns.new H2 (.type "dict")
  simp only [Option.isSome_some, if_true]
  have z3 : (H2.push { cls := Value.type "dict", data := Data.dict #[] }).objs.size = H.objs.size + 3 := by rw [Heap.size_push, z2]
  have k3 : Ext H2 (H2.push { cls := Value.type "dict", data := Data.dict #[] }) := fun b o e => Heap.get?_push_of_some _ e
  generalize hH3 : H2.push { cls := Value.type "dict", data := Data.dict #[] } = H3 at ns3 z3 k3
  have c4 : (H3.push { cls := Value.type "cell", data := Data.cell none }).get? H3.objs.size = some { cls := Value.type "cell", data := Data.cell none } := Heap.get?_push_size _ rfl
  have k4 : Ext H3 (H3.push { cls := Value.type "cell", data := Data.cell none }) := fun b o e => Heap.get?_push_of_some _ e
  generalize hH4 : H3.push { cls := Value.type "cell", data := Data.cell none } = H4 at c4 k4
  rw [z3] at c4
  rw [show cellsFrom H3.objs.size scope.names cl = (x, H.objs.size + 3) :: cl by rw [z3]; exact hcells]
  have loop : ∀ s₃ : Shared, s₃ = { s with heap := H4, toks := t } →
      codeAny (model prog w) A (.compLoop (.DictComp kx vx [⟨.Name x px, iter, [], 0⟩] scope pos) 0 (.ref H.objs.size) (.ref H1.objs.size) (compEnvC scope ((x, H.objs.size + 3) :: cl) H2.objs.size env))
        (compPost (model prog w) A E none Q (.ref H1.objs.size) H2.objs.size) s₃ := by
    rintro s₃ rfl
    have e1 : H1.objs.size = H.objs.size + 1 := z1
    have e2 : H2.objs.size = H.objs.size + 2 := z2
    have kk : Ext H H4 := fun b o e => k4 _ _ (k3 _ _ (k2 _ _ (k1 _ _ e)))
    refine dloop (s := s) (l := l) (vs := vs) (ns := ns) hh (Nat.ne_of_lt hlH) (neA (by omega)) (neA (by have := ltA hol; omega)) hi
      ⟨⟨_, k4 _ _ (k3 _ _ (k2 _ _ it1)), rfl, rfl⟩, hlv.at fun o e => kk _ _ e⟩ (d2.at fun o e => k4 _ _ (k3 _ _ e))
      (fun i h kvs => ∃ m tl oc v, Fr H H2.objs.size h m ∧ h.get? (H.objs.size + 3) = some oc ∧ oc.data = .cell v ∧ News H H2.objs.size h tl ∧ (∀ p ∈ tl, p.1 ≠ H.objs.size ∧ p.1 ≠ H1.objs.size ∧ p.1 ≠ H.objs.size + 3) ∧ J i kvs tl)
      ⟨_, [], _, _, ⟨ns3.at' fun o e => k4 _ _ e, kk, (by show H.objs.size ≤ H2.objs.size; omega)⟩, c4, rfl, News.nil, (fun p hp => nomatch hp), h0⟩ ?_ ?_ ?_
    · rintro i h h' kvs ⟨m, tl, oc, v, F, hoc, hdc, N, a4, a7⟩ hk
      exact ⟨m, tl, oc, v, ⟨F.ns.at' fun o e => hk _ o (neA (by omega)) e, fun b o e => hk b o (Nat.ne_of_lt (Heap.lt_size e)) (F.keep b o e), F.above⟩, hk _ _ (neA (by show H.objs.size + 3 ≠ H.objs.size; omega)) hoc, hdc, (fun p hp => ⟨hk _ _ (a4 p hp).1 (N p hp).1, (N p hp).2⟩), a4, a7⟩
    · rintro i n u kvs h tk hn ⟨m, tl, oc, v, F, hoc, hdc, N, a4, a7⟩ ⟨oI, hoI⟩ ⟨oD, hoD⟩
      have cH : H.get? (H.objs.size + 3) = none := none_of_size (by show H.objs.size ≤ H.objs.size + 3; omega)
      have nC : (@Ne Addr (H.objs.size + 3) H2.objs.size) := neA (by omega)
      refine wpAny_assign_Name (wpAny_storeName_cell (s := { s with heap := h, toks := tk }) (env := compEnvC scope ((x, H.objs.size + 3) :: cl) H2.objs.size env) (c := H.objs.size + 3) (by simp [compEnvC, relabel, hkind]) hx (by simp [compEnvC]) ⟨oc, hoc, hdc⟩ fun h₂ hcv hs₂ => ?_)
      replace hs₂ : Heap.SameBut (H.objs.size + 3) h h₂ := hs₂
      obtain ⟨oc', hoc', hdc'⟩ := hcv
      have F₂ : Fr H H2.objs.size h₂ m := F.change hs₂ nC cH
      have N₂ : News H H2.objs.size h₂ ([(H.objs.size, oI), (H1.objs.size, oD), (H.objs.size + 3, oc')] ++ tl) := by
        intro p hp
        rcases List.mem_append.mp hp with hp | hp
        · simp only [List.mem_cons, List.not_mem_nil, or_false] at hp
          rcases hp with rfl | rfl | rfl
          · exact ⟨hs₂.extBut _ _ (neA (by show H.objs.size ≠ H.objs.size + 3; omega)) hoI, neA (by show H.objs.size ≠ H2.objs.size; omega), none_of_size (Nat.le_refl _)⟩
          · exact ⟨hs₂.extBut _ _ (neA (by show H1.objs.size ≠ _; omega)) hoD, neA (by show H1.objs.size ≠ H2.objs.size; omega), none_of_size (by show H.objs.size ≤ H1.objs.size; omega)⟩
          · exact ⟨hoc', nC, cH⟩
        · exact ⟨hs₂.extBut _ _ (a4 p hp).2.2 (N p hp).1, (N p hp).2⟩
      refine wpAny_mono (step i n u H2.objs.size H.objs.size H1.objs.size (H.objs.size + 3) oI oD oc' kvs tl h₂ _ _ hn a7 a4 F₂ hdc' (by show H.objs.size + 3 = H2.objs.size + 1; omega) N₂) (fun kv s₄ h₄ => wpAny_mono h₄ (fun vv s₅ h₅ => ?_) fun _ _ f => f) fun _ _ f => f
      obtain ⟨k, uk, tl', h', tk', m', rfl, rfl, F5, N5, c5, c3, c4'⟩ := h₅
      have ge : ∀ b o, (b = H.objs.size ∨ b = l ∨ b = H1.objs.size) → h.get? b = some o → h'.get? b = some o := by
        intro b o hb e
        rcases hb with rfl | rfl | rfl
        · rw [hoI] at e; cases e; exact (N5 _ (.head _)).1
        · rw [F.keep _ _ hol] at e; cases e; exact F5.keep _ _ hol
        · rw [hoD] at e; cases e; exact (N5 _ (.tail _ (.head _))).1
      have dH : H.get? H1.objs.size = none := none_of_size (by show H.objs.size ≤ H1.objs.size; omega)
      refine ⟨k, uk, h', tk', rfl, rfl, fun o b hb e => ge b o hb e, c3, fun h'' hs'' => ⟨m', tl', oc', _, F5.change hs'' (neA (by show H1.objs.size ≠ H2.objs.size; omega)) dH, hs''.extBut _ _ (neA (by show H.objs.size + 3 ≠ H1.objs.size; omega)) (N5 _ (.tail _ (.tail _ (.head _)))).1, hdc', ?_, c5, c4'⟩⟩
      exact fun p hp => ⟨hs''.extBut _ _ (c5 p hp).2.1 (N5 p (List.mem_append_right _ hp)).1, (N5 p (List.mem_append_right _ hp)).2⟩
    · rintro h' tk kvs ⟨m, tl, oc, v, F, hoc, hdc, N, a4, a7⟩ hD
      refine ⟨m, F.ns, fun h'' hs'' => ?_⟩
      replace hs'' : Heap.SameBut H2.objs.size h' h'' := hs''
      obtain ⟨o, ho, hdo⟩ := Heap.dictOf_iff.mp hD
      exact done H1.objs.size o h'' tk kvs tl (fun b o e => hs''.extBut b o (neA (by have := ltA e; omega)) (F.keep b o e)) (by show H.objs.size ≤ H1.objs.size; omega) (hs''.extBut _ _ (neA (by omega)) ho) hdo
        (fun p hp => ⟨hs''.extBut _ _ (N p hp).2.1 (N p hp).1, (N p hp).2.2⟩) (fun p hp => (a4 p hp).2.1) a7
  exact codeAny_compStart_dict (loop _ rfl) (wpAny_pyIter_listiter (s := { s with heap := H4, toks := t }) ⟨_, k4 _ _ (k3 _ _ (k2 _ _ it1)), rfl, rfl⟩ (loop _ rfl))
end
end Mine

namespace Mine
set_option maxRecDepth 100000
/-- a dict of lists of ints -/
inductive GV (G : Addr → Obj → Prop) (g : Int → List Int) : List (Int × Value) → List Int → Prop
  | nil : GV G g [] []
  | cons (l : Int) {d : Addr} {o : Obj} {kvs ls} : G d o → IO o (g l) → GV G g kvs ls → GV G g ((l, .ref d) :: kvs) (l :: ls)
theorem GV.mono {G G' : Addr → Obj → Prop} {g kvs ls} (h : GV G g kvs ls) (hg : ∀ a o, G a o → G' a o) : GV G' g kvs ls := by
  induction h with
  | nil => exact .nil
  | cons l a b _ ih => exact .cons l (hg _ _ a) b ih
theorem GV.keys {G g kvs ls} (h : GV G g kvs ls) : kvs.map (·.1) = ls := by
  induction h with
  | nil => rfl
  | cons l a b _ ih => simp [ih]
theorem GV.append {G g kvs ls} (h : GV G g kvs ls) (l : Int) {d : Addr} {o : Obj} (a : G d o) (b : IO o (g l)) : GV G g (kvs ++ [(l, .ref d)]) (ls ++ [l]) := by
  induction h with
  | nil => exact .cons l a b .nil
  | cons l' a' b' _ ih => exact .cons l' a' b' ih
theorem GV.valueAt {G g kvs ls} (h : GV G g kvs ls) {k : Int} (hk : k ∈ ls) : ∃ d o, PySem.valueAt kvs k = some (.ref d) ∧ G d o ∧ IO o (g k) := by
  unfold PySem.valueAt
  induction h with
  | nil => simp at hk
  | @cons l d o kvs ls a b _ ih =>
    by_cases e : l = k
    · subst e; simp only [List.find?_cons, decide_true]; exact ⟨d, o, rfl, a, b⟩
    · simp only [List.find?_cons, decide_eq_false e]
      exact ih (by rcases List.mem_cons.mp hk with q | q; exact absurd q.symm e; exact q)
theorem stored_new {kvs : List (Int × Value)} {ls : List Int} {i : Nat} {n : Int} {v : Value} (hki : kvs.map (·.1) = ls.take i) (hnd : ls.Nodup) (hn : ls[i]? = some n) : PySem.stored kvs n v = kvs ++ [(n, v)] := by
  have hni : ¬ (kvs.any fun e => decide (e.1 = n)) = true := by
    intro q
    obtain ⟨e, he, hk⟩ := List.any_eq_true.mp q
    have h1 : e.1 ∈ ls.take i := hki ▸ List.mem_map_of_mem he
    rw [of_decide_eq_true hk] at h1
    obtain ⟨j, hj, hjn⟩ := List.getElem_of_mem h1
    have hji : j < i := by simp at hj; omega
    have hil := (List.getElem?_eq_some_iff.mp hn)
    rw [List.getElem_take] at hjn
    have := (List.getElem_inj hnd).mp (hjn.trans hil.2.symm)
    omega
  unfold PySem.stored; rw [if_neg hni]
section
variable {prog : Program} {w : World} {A : Around} {E : Value → Shared → Prop} {s : Shared} {env : Env} {h₀ H : Heap} {t : Nat} {m : Str → Option Value} {news : List (Addr × Obj)}
/-- a name in a cell is stored -/
theorem stoC {x : Str} {c : Addr} {o : Obj} {v₀ : Option Value} {v : Value} {own rest : List (Addr × Obj)} {Q : Unit → Shared → Prop} (F : Fr h₀ env.locals H m) (N : News h₀ env.locals H (own ++ (c, o) :: rest))
    (hc : env.cells.lookup x = some c) (hd : o.data = .cell v₀) (h1 : ∀ p ∈ own, p.1 ≠ c) (h2 : ∀ p ∈ rest, p.1 ≠ c)
    (h : ∀ h' o', Fr h₀ env.locals h' m → News h₀ env.locals h' (own ++ (c, o') :: rest) → o'.data = .cell (some v) → Q () { s with heap := h', toks := t })
    (hk : env.scope.kind = .function := by rfl) (hl : env.kindOf x = some .cell := by rfl) :
    wpAny (model prog w) A (storeName env x v) Q E { s with heap := H, toks := t } := by
  have hm := N (c, o) (List.mem_append_right _ (.head _))
  refine wpAny_storeName_cell (s := { s with heap := H, toks := t }) hk hl hc ⟨o, hm.1, hd⟩ fun h' hv hs => ?_
  obtain ⟨o', ho', hd'⟩ := hv
  exact h h' o' (F.change hs hm.2.1 hm.2.2) (N.setIn h1 h2 hs ho') hd'
/-- sum(xs) -/
theorem sumL {l : Addr} {ns : List Int} {Q : Value → Shared → Prop} (hh : A.handled = none) (hl : LAt H l ns) (h : ∀ h' tk t', Ext H h' → Q (.int ns.sum t') { s with heap := h', toks := tk }) :
    wpAny (model prog w) A (call (.builtin "sum") [.ref l]) Q E { s with heap := H, toks := t } := by
  obtain ⟨vs, hl, hi⟩ := hl
  have hn := hi.numsOf
  obtain ⟨xs, hx⟩ := hi.allInts.items
  rw [hx] at hl
  have hn' : numsOf (intItems xs).toList = ns := by rw [← hx]; exact hn
  rw [nums_intItems] at hn'
  refine sum_intListG (s := { s with heap := H, toks := t }) hh hl fun h' tk t' hk => ?_
  have := h h' tk t' hk
  rw [preSum_eq, List.take_of_length_le (by simp)]
  rw [← hn'] at this
  exact this
/-- k not in xs -/
theorem notInL {l : Addr} {ns : List Int} {k : Int} {u : Tok} {Q : Value → Shared → Prop} (hl : LAt H l ns) (h : Q (.bool (!(ns.any (· == k)))) { s with heap := H, toks := t }) :
    wpAny (model prog w) A (compareOp .NotIn (.int k u) (.ref l)) Q E { s with heap := H, toks := t } := by
  obtain ⟨vs, hl, hi⟩ := hl
  exact notin_list_ints (s := { s with heap := H, toks := t }) hl hi h
/-- len(xs) -/
theorem lenL {l : Addr} {vs : List Value} {Q : Value → Shared → Prop} (hl : H.IsList l vs.toArray) (hz : vs.length ≤ 100000) (h : ∀ t' u, Q (.int vs.length u) { s with heap := H, toks := t' }) :
    wpAny (model prog w) A (call (.builtin "len") [.ref l]) Q E { s with heap := H, toks := t } :=
  call_len_list (s := { s with heap := H, toks := t }) hl (by simp; omega) (by simpa using h _ _)
/-- is d empty -/
theorem truthyD {d : Addr} {es : List (Int × Int)} {Q : Bool → Shared → Prop} (hd : DAt prog w H d es) (hz : es.length ≤ 100000) (h : ∀ t', Q (!es.isEmpty) { s with heap := H, toks := t' }) :
    wpAny (model prog w) A (truthy (.ref d)) Q E { s with heap := H, toks := t } := by
  obtain ⟨kvs, hD, hv⟩ := hd.dictOf
  have hl := hv.length
  refine wpAny_truthy_dict (s := { s with heap := H, toks := t }) hd.sm hD (by omega) ?_
  have : kvs.isEmpty = es.isEmpty := by cases hv <;> rfl
  rw [this]
  exact h _
/-- a tuple of ints stands at a -/
def UAt (h : Heap) (a : Addr) (ns : List Int) : Prop := ∃ vs, IsTup h a vs.toArray ∧ IntsAre vs ns
theorem UAt.keeps {h h' : Heap} {a ns} (x : UAt h a ns) (k : Ext h h') : UAt h' a ns := let ⟨vs, ⟨o, ho, r⟩, i⟩ := x; ⟨vs, ⟨o, k _ _ ho, r⟩, i⟩
/-- us[k], us a tuple -/
theorem itemU {value slice : Expr} {l : Addr} {ns : List Int} {k : Int} {u : Tok} {Q : Value → Shared → Prop} (hl : UAt H l ns) (h0 : 0 ≤ k) (hk : k.toNat < ns.length) (hz : ns.length ≤ 100000)
    (h : ∀ t', Q (.int (ns.getD k.toNat 0) t') { s with heap := H, toks := t })
    (hs : subscripted slice false (.ref l) (.int k u) = operate [.ref l, .int k u] (getItem (.ref l) (.int k u)) := by with_unfolding_all rfl) (hg : ∀ r, letTemporaryGo value (.ref l) r = pure () := by intro _; with_unfolding_all rfl) :
    wpAny (model prog w) A (subscriptTail value slice (.ref l) (.int k u)) Q E { s with heap := H, toks := t } := by
  obtain ⟨vs, hl, hi⟩ := hl
  obtain ⟨tx, hv⟩ := hi.get k.toNat _ (getD_get hk)
  have hlen := hi.length
  refine item_tupleL (s := { s with heap := H, toks := t }) (j := k.toNat) hl (by omega) (by omega) ?_ hv (h tx) hs hg
  unfold seqIndex?
  rw [hlen]
  simp [h0]
  omega
/-- x, y, z = T -/
theorem assignTriple {x y z : Str} {px py pz pos : Pos} {k : Nat} {T : Addr} {v1 v2 v3 : Value} {Q : Unit → Shared → Prop} (hh : A.handled = none) (hT : IsTup H T #[v1, v2, v3]) (F : Fr h₀ env.locals H m) (N : News h₀ env.locals H news)
    (h : ∀ h' t', Fr h₀ env.locals h' (fun a => if a = z then some v3 else if a = y then some v2 else if a = x then some v1 else m a) → News h₀ env.locals h' news → Q () { s with heap := h', toks := t' })
    (hk : env.scope.kind = .function := by rfl) (hx : env.kindOf x = some .local := by rfl) (hy : env.kindOf y = some .local := by rfl) (hz : env.kindOf z = some .local := by rfl) :
    wpAny (model prog w) A (assign (.Tuple [.Name x px, .Name y py, .Name z pz] k pos) env (.ref T)) Q E { s with heap := H, toks := t } := by
  refine assign_Tuple_tuple (s := { s with heap := H, toks := t }) hh hT rfl rfl fun h' hx' => ?_
  have hk' : Ext H h' := ext_of_extBut hx'
  show wpAny _ _ (do holding [v2, v3] (assign (.Name x px) env v1); do holding [v3] (assign (.Name y py) env v2); do holding [] (assign (.Name z pz) env v3); pure ()) _ _ { s with heap := h', toks := t }
  refine wpAny_bind (wpAny_holding (wpAny_assign_Name (sto (F.keeps hk') (N.grown hk') (fun h₂ t₂ F₂ N₂ => ?_) hk hx)))
  refine wpAny_bind (wpAny_holding (wpAny_assign_Name (sto F₂ N₂ (fun h₃ t₃ F₃ N₃ => ?_) hk hy)))
  refine wpAny_bind (wpAny_holding (wpAny_assign_Name (sto F₃ N₃ (fun h₄ t₄ F₄ N₄ => wpAny_pure (h h₄ t₄ F₄ N₄)) hk hz)))
/-- x, y = xs -/
theorem assignPairL {x y : Str} {px py pos : Pos} {k : Nat} {l : Addr} {a b : Int} {Q : Unit → Shared → Prop} (hh : A.handled = none) (hl : LAt H l [a, b]) (F : Fr h₀ env.locals H m) (N : News h₀ env.locals H news)
    (h : ∀ h' t' u1 u2, Fr h₀ env.locals h' (fun z => if z = y then some (.int b u2) else if z = x then some (.int a u1) else m z) → News h₀ env.locals h' news → Q () { s with heap := h', toks := t' })
    (hk : env.scope.kind = .function := by rfl) (hx : env.kindOf x = some .local := by rfl) (hy : env.kindOf y = some .local := by rfl) :
    wpAny (model prog w) A (assign (.Tuple [.Name x px, .Name y py] k pos) env (.ref l)) Q E { s with heap := H, toks := t } := by
  obtain ⟨vs, hl, hi⟩ := hl
  cases hi with
  | cons _ u1 hi => cases hi with
    | cons _ u2 hi => cases hi with
      | nil =>
        refine kun_list (s := { s with heap := H, toks := t }) F N hl hh rfl rfl fun h' F' N' => ?_
        show wpAny _ _ (do holding [.int b u2] (assign (.Name x px) env (.int a u1)); do holding [] (assign (.Name y py) env (.int b u2)); pure ()) _ _ { s with heap := h', toks := t }
        refine wpAny_bind (wpAny_holding (wpAny_assign_Name (sto F' N' (fun h₂ t₂ F₂ N₂ => ?_) hk hx)))
        refine wpAny_bind (wpAny_holding (wpAny_assign_Name (sto F₂ N₂ (fun h₃ t₃ F₃ N₃ => wpAny_pure (h h₃ t₃ u1 u2 F₃ N₃)) hk hy)))
end
end Mine

namespace Mine
set_option maxRecDepth 100000
def wOrders : List Int := [1, 1, 2, 6, 24, 120, 720]
def ordAt (k : Int) : Int := wOrders.getD k.toNat 0
def givenOf (ts : Tabs) (ls : List Int) (one : Int) : List Int := ls.map fun other => getK (getT ts other) one
def isLast (ts : Tabs) (ls : List Int) (one : Int) : Bool := decide ((givenOf ts ls one).sum < sumV (getT ts one))
def lastOf (ts : Tabs) (ls : List Int) : List Int := ls.filter (isLast ts ls)
def isOther (ts : Tabs) (ls : List Int) (one : Int) : Bool := !(getT ts one).isEmpty && !((lastOf ts ls).any (· == one))
def othersOf (ts : Tabs) (ls : List Int) : List Int := ls.filter (isOther ts ls)
def ways1 (ts : Tabs) (ls xs : List Int) : Int := xs.foldl (fun a one => a * ordAt (givenOf ts ls one).sum) 1
def ways2 (ts : Tabs) (ls xs : List Int) (a : Int) : Int := xs.foldl (fun a one => a * ordAt ((givenOf ts ls one).sum - 1)) a
def trees1 (ts : Tabs) (ls xs : List Int) : Int := xs.foldl (fun a one => a * ((givenOf ts ls one).sum - getK (getT ts one) one)) 1
def trees2 (ts : Tabs) (ls : List Int) : Int := match othersOf ts ls with
  | [f, s] => trees1 ts ls [f, s] - getK (getT ts s) f * getK (getT ts f) s
  | xs => trees1 ts ls xs
def alikeIn (cs : List Int) (a : Int) : Int := cs.foldl (fun a c => a * ordAt c) a
def alikeOf (ts : Tabs) (ls xs : List Int) : Int := xs.foldl (fun a one => alikeIn (givenOf ts ls one) a) 1
def waysOf (ts : Tabs) (ls : List Int) : Int := (ways2 ts ls (othersOf ts ls) (ways1 ts ls (lastOf ts ls)) * trees2 ts ls).fdiv (alikeOf ts ls ls)
/-- what _law_ways can work with -/
structure WOk (ts : Tabs) (ls : List Int) : Prop where
  nd : ls.Nodup
  len : ls.length ≤ 100
  has : ∀ k ∈ ls, hasT ts k = true
  few : ∀ k ∈ ls, (getT ts k).length ≤ 1000
  sum : ∀ k ∈ ls, 0 ≤ (givenOf ts ls k).sum ∧ (givenOf ts ls k).sum < 7
  oth : ∀ k ∈ othersOf ts ls, 1 ≤ (givenOf ts ls k).sum
  cnt : ∀ k ∈ ls, ∀ c ∈ givenOf ts ls k, 0 ≤ c ∧ c < 7
  tre : -1000000000000 < trees2 ts ls ∧ trees2 ts ls < 1000000000000
  al0 : alikeOf ts ls ls ≠ 0
  al1 : (alikeOf ts ls ls).natAbs < 1073741824
theorem ordAt_small (k : Int) : -1000000000000 < ordAt k ∧ ordAt k < 1000000000000 := by
  unfold ordAt
  generalize k.toNat = n
  match n with
  | 0 | 1 | 2 | 3 | 4 | 5 | 6 => decide
  | n + 7 => simp [wOrders]
theorem given_get {ts : Tabs} {ls : List Int} {k j : Int} (hj : j ∈ ls) : getK (getT ts j) k ∈ givenOf ts ls k := List.mem_map_of_mem hj
/-- a comprehension stored into a local name -/
theorem postB {prog : Program} {w : World} {A : Around} {E : Value → Shared → Prop} {s : Shared} {env : Env} {h₀ H : Heap} {m : Str → Option Value} {news : List (Addr × Obj)} {Q : Shared → Prop} {y : Str} {py : Pos} {n : Nat} {J : Nat → List Value → List (Addr × Obj) → Prop} (F : Fr h₀ env.locals H m) (N : News h₀ env.locals H news)
    (done : ∀ D h' tk ys o tl, Fr h₀ env.locals h' (fun z => if z = y then some (.ref D) else m z) → News h₀ env.locals h' (((D, o) :: tl) ++ news) → (∀ p ∈ tl, p.1 ≠ D) → (∀ p ∈ news, ∀ q ∈ (D, o) :: tl, q.1 ≠ p.1) → H.objs.size ≤ D → PO o ys → J n ys tl → Q { s with heap := h', toks := tk })
    (hk : env.scope.kind = .function := by rfl) (hy : env.kindOf y = some .local := by rfl) :
    LDone s H n J (compPost (model prog w) A E (some (assign (.Name y py) env)) (fun _ s' => Q s')) := postA (Q := fun _ s' => Q s') F N done hk hy
/-- an object that is a tuple of ints -/
def UO (o : Obj) (ns : List Int) : Prop := ∃ vs n, o.cls = .type "tuple" ∧ o.data = .seq vs.toArray n ∧ IntsAre vs ns
theorem UO.at {h : Heap} {a : Addr} {o : Obj} {ns} (x : UO o ns) (e : h.get? a = some o) : UAt h a ns := let ⟨vs, n, p, q, i⟩ := x; ⟨vs, ⟨o, e, p, n, q⟩, i⟩
theorem setv {o : Option Value} {a b : Int} {u : Tok} (h : o = some (.int a u)) (e : b = a) : ∃ t, o = some (.int b t) := ⟨u, e ▸ h⟩
theorem UAt.three {h : Heap} {a : Addr} {x y z : Int} (hu : UAt h a [x, y, z]) : ∃ v1 v2 v3 u1 u2 u3, IsTup h a #[v1, v2, v3] ∧ v1 = .int x u1 ∧ v2 = .int y u2 ∧ v3 = .int z u3 := by
  obtain ⟨vs, ht, hi⟩ := hu
  cases hi with
  | cons _ u1 hi => cases hi with
    | cons _ u2 hi => cases hi with
      | cons _ u3 hi => cases hi with
        | nil => exact ⟨_, _, _, u1, u2, u3, ht, rfl, rfl, rfl⟩
section
variable {prog : Program} {w : World} {A : Around} {E : Value → Shared → Prop} {s : Shared} {env : Env} {h₀ H : Heap} {t : Nat} {m : Str → Option Value} {news : List (Addr × Obj)} {mg mb : Str → Option Value} {cds : Nat → Value}
theorem newU {L : Addr} {Q : Value → Shared → Prop} {vs : List Value} {ns : List Int} (F : Fr h₀ L H m) (N : News h₀ L H news) (hi : IntsAre vs ns) (hz : ns.length ≤ 100000)
    (h : ∀ D o h', Fr h₀ L h' m → News h₀ L h' ((D, o) :: news) → (∀ p ∈ news, p.1 < D) → UO o ns → Q (.ref D) { s with heap := h', toks := t }) :
    wpAny (model prog w) A (newTuple vs) Q E { s with heap := H, toks := t } :=
  newTuple_N (s := { s with heap := H, toks := t }) F N (fun h' F' N' => h _ _ h' F' N' (fun p hp => Heap.lt_size (N p hp).1) ⟨vs, _, rfl, rfl, hi⟩) (by rw [sizeLine_eq, hi.length]; omega)
/-- tables[x] -/
theorem tabItem {x : Str} {px py pos : Pos} {ts : Tabs} {ad c : Addr} {o : Obj} {k : Int} {u : Tok} {Q : Value → Shared → Prop} (F : Fr h₀ env.locals H m) (hc : env.cells.lookup ("tables" : Str) = some c) (ho : H.get? c = some o) (hdc : o.data = .cell (some (.ref ad)))
    (hd : TAt prog w H ad ts) (hm : m x = some (.int k u)) (hk : hasT ts k = true) (h : ∀ e t', DAt prog w H e (getT ts k) → Q (.ref e) { s with heap := H, toks := t' })
    (hk1 : env.scope.kind = .function := by rfl) (hx1 : env.kindOf "tables" = some .cell := by rfl) (hx2 : env.kindOf x = some .local := by rfl) (hdb : (x == ("__debug__" : Str)) = false := by decide) :
    wpAny (model prog w) A (eval (.Subscript (.Name "tables" px) (.Name x py) pos) env) Q E { s with heap := H, toks := t } := by
  refine Subscript_ ?_
  refine nmC hc ho hdc ?_ hk1 hx1
  refine nmL F hm ?_ hk1 hx2 hdb
  obtain ⟨kvs, e, hD, hval, hde⟩ := hd.item hk
  exact itemD hD hval fun t' => h e t' hde
/-- sum(given[one]) -/
theorem sumGiven {p1 px py p2 pos : Pos} {dg c d : Addr} {o : Obj} {kvs : List (Int × Value)} {ns : List Int} {k : Int} {u : Tok} {Q : Value → Shared → Prop} (hh : A.handled = none) (T : Tp mg mb cds h₀) (F : Fr h₀ env.locals H m) (hc : env.cells.lookup ("given" : Str) = some c) (ho : H.get? c = some o) (hdc : o.data = .cell (some (.ref dg)))
    (hD : H.DictOf (intKind prog w) dg kvs) (hval : valueAt kvs k = some (.ref d)) (hl : LAt H d ns) (hm : m "one" = some (.int k u)) (h : ∀ h' tk t', Ext H h' → Q (.int ns.sum t') { s with heap := h', toks := tk })
    (hk1 : env.scope.kind = .function := by rfl) (hx1 : env.kindOf "given" = some .cell := by rfl) (hx2 : env.kindOf "one" = some .local := by rfl) (hx3 : env.kindOf "sum" = some .globalImplicit := by rfl) (hg : env.globals = mainGlobals := by rfl) (hb : env.builtins = builtinsNs := by rfl) :
    wpAny (model prog w) A (eval (.Call (.Name "sum" p1) [.Subscript (.Name "given" px) (.Name "one" py) p2] [] pos) env) Q E { s with heap := H, toks := t } := by
  refine callBi T F (by decide) boot_sum ?_ rfl rfl (by decide) hk1 hx3 (by decide) hg hb
  refine args_cons ?_
  refine Subscript_ ?_
  refine nmC hc ho hdc ?_ hk1 hx1
  refine nmL F hm ?_ hk1 hx2
  refine itemD hD hval fun t' => ?_
  refine args_nil ?_
  exact sumL hh hl h
end
theorem ways_spec {prog : Program} {w : World} {mg mb cds} {A : Around} {s : Shared} {ad al : Addr} {ls : List Int} {ts : Tabs} (T : Tp mg mb cds s.heap) (r : Room A 4) (hl : LAt s.heap al ls) (hd : TAt prog w s.heap ad ts) (hw : WOk ts ls) :
    Pure prog w A (.ref 64) [.ref ad, .ref al] s (fun v _ => ∃ t, v = .int (waysOf ts ls) t) := by
  refine pure_enterC (binds := [("tables", .ref ad), ("letters", .ref al)]) T.fways T.lim (by have := r.dp; omega) (fun _ _ _ _ _ => rfl) rfl (by decide +kernel) rfl rfl rfl fun h₁ t₁ cells F NC Y => ?_
  obtain ⟨oL, oG, oT, oA, rfl, hoL, hoG, hoA, hoT⟩ := CellsAre.four Y
  clear Y
  have r1 := r.deeper (envC "_law_ways" 10 s.heap.objs.size 64 (cds 10))
  generalize A.deeper (envC "_law_ways" 10 s.heap.objs.size 64 (cds 10)) = A1 at r1 ⊢
  conv in bodyOf (dfn 10) => whnf
  refine wpAny_execs_cons ?_
  refine wpAny_Assign_Name ?_
  refine Tuple_ ?_
  refine args_cons (wpAny_Constant_int (args_cons (wpAny_Constant_int (args_cons (wpAny_Constant_int (args_cons (wpAny_Constant_int (args_cons (wpAny_Constant_int (args_cons (wpAny_Constant_int (args_cons (wpAny_Constant_int (args_nil ?_))))))))))))))
  refine newU (ns := wOrders) F NC (by repeat' constructor) (by decide) fun aO oO h2 F2 N2 lt2 uo => ?_
  refine sto F2 N2 fun h3 t3 F3 N3 => ?_
  try dsimp only
  have T3 := T.keeps F3.keep
  refine wpAny_execs_cons ?_
  refine wpAny_Assign_Name ?_
  have hal3 := N3 (s.heap.objs.size + 1 + 1, oT) (by simp)
  have htb3 := N3 (s.heap.objs.size + 1, oA) (by simp)
  refine dcompC (s := s) (H := h3) (cl := [("tables", s.heap.objs.size + 1), ("letters", s.heap.objs.size + 2)]) (ns := ls) r1.hh (hl.keeps F3.keep) (fun Q' hq => nmC (c := s.heap.objs.size + 2) (o := oT) rfl hal3.1 hoA hq)
    (fun i kvs tl => GV (fun a o => (a, o) ∈ tl) (givenOf ts ls) kvs (ls.take i)) .nil ?_ ?_ rfl rfl (fun _ => rfl) rfl (by decide) rfl
  · rintro i n u C I D c oI oD oc kvs tl h tk m₃ hn hJ hap F4 hoc rfl N4
    refine nmC (c := C + 1) rfl (N4 (C + 1, oc) (by simp)).1 hoc ?_
    refine lcomp (cl := [("tables", s.heap.objs.size + 1), ("one", C + 1)]) rfl rfl (by decide) ?_
    refine nmC (c := s.heap.objs.size + 2) (o := oT) rfl (F4.keep _ _ hal3.1) hoA ?_
    obtain ⟨lvs, hlv, hli⟩ := hl.keeps (fun b o e => F4.keep b o (F3.keep b o e))
    refine lcl (s := s) (vs := lvs) r1.hh hlv (by rw [hli.length]; have := hw.len; omega)
      (fun j ys tm => IntsAre ys ((ls.take j).map fun other => getK (getT ts other) n) ∧ tm = []) ⟨.nil, rfl⟩ ?_ (postN F4 N4 ?_) (by decide) rfl
    · rintro j v C2 I2 D2 oI2 oD2 ys tm h5 t5 m5 hj hv ⟨hys, rfl⟩ hap2 F5 N5
      obtain ⟨x, ux, rfl, hx⟩ := intsAre_inv hli hv
      refine wpAny_assign_Name (sto F5 N5 fun h6 t6 F6 N6 => ?_)
      refine tests_nil ?_
      rw [if_pos rfl]
      have k36 : Ext h3 h6 := fun b o e => F6.keep b o (F4.keep b o e)
      refine callGet ?_
      refine tabItem (c := s.heap.objs.size + 1) (o := oA) F6 rfl (k36 _ _ htb3.1) hoT ((hd.keeps F3.keep).keeps k36) (k := x) (u := ux) rfl (hw.has x (List.mem_of_getElem? hx)) fun e t7 hde => ?_
      refine ⟨e, _, rfl, hde, ?_⟩
      refine nmC (c := C + 1) (o := oc) rfl (F6.keep _ _ (N4 (C + 1, oc) (by simp)).1) hoc ?_
      refine wpAny_Constant_int ?_
      refine ⟨n, u, 0, _, rfl, rfl, hde, fun t8 => ?_⟩
      rw [getK_if]
      refine ⟨[], h6, _, _, rfl, F6, N6, (fun p hp => nomatch hp), ?_, rfl⟩
      rw [List.take_add_one, hx, List.map_append]
      exact intsAre_append hys (.cons _ _ .nil)
    · rintro D2 h5 t5 ys o5 tm F5 N5 hne hne2 hD k5 hpo ⟨hys, rfl⟩
      rw [hli.length, List.take_length] at hys
      obtain ⟨nd, hdat⟩ := hpo.2.2
      have io5 : IO o5 (givenOf ts ls n) := hpo.io hys
      refine ⟨n, u, (D2, o5) :: tl, h5, t5, _, rfl, rfl, F5, News.sub N5 (by intro p hp; simp at hp ⊢; rcases hp with hp | hp | hp | hp | hp <;> simp [hp]), ?_, ?_, ?_⟩
      · intro p hp
        rcases List.mem_cons.mp hp with rfl | hp
        · exact ⟨hne2 (I, oI) (by simp) _ (.head _), hne2 (D, oD) (by simp) _ (.head _), hne2 (C + 1, oc) (by simp) _ (.head _)⟩
        · exact hap p hp
      · have := hJ.keys; have h2 := congrArg List.length this; simp at h2; have := hw.len; omega
      · rw [stored_new hJ.keys hw.nd hn, List.take_add_one, hn]
        exact (hJ.mono fun a o h => .tail _ h).append n (.head _) io5
  · rintro Dg oDg h4 t4 kvs tl k4 hD4 hDg hdg hmade hneD hJ
    rw [List.take_length] at hJ
    have F4 := F3.keeps k4
    have fr4 : Fresh h3 h4 ((Dg, oDg) :: tl) := fun p hp => by
      rcases List.mem_cons.mp hp with rfl | hp
      · exact ⟨hDg, none_of_size hD4⟩
      · exact hmade p hp
    have N4 := News.more F3 N3 k4 fr4
    have hcG3 := N3 (s.heap.objs.size + 1 + 1 + 1, oG) (by simp)
    have hcL3 := N3 (s.heap.objs.size + 1 + 1 + 1 + 1, oL) (by simp)
    refine stoC (c := s.heap.objs.size + 1 + 1 + 1) (own := ((Dg, oDg) :: tl) ++ [(aO, oO), (s.heap.objs.size + 1 + 1 + 1 + 1, oL)]) (rest := [(s.heap.objs.size + 1 + 1, oT), (s.heap.objs.size + 1, oA)]) F4 (by simpa using N4) rfl hoG ?_ ?_ fun h5 oG5 F5 N5 hoG5 => ?_
    · intro p hp
      rcases List.mem_append.mp hp with hp | hp
      · exact fr4.ne hp hcG3.1
      · simp only [List.mem_cons, List.not_mem_nil, or_false] at hp
        rcases hp with rfl | rfl
        · exact Nat.ne_of_gt (lt2 (s.heap.objs.size + 1 + 1 + 1, oG) (by simp))
        · exact neA (by show s.heap.objs.size + 1 + 1 + 1 + 1 ≠ s.heap.objs.size + 1 + 1 + 1; omega)
    · intro p hp
      simp only [List.mem_cons, List.not_mem_nil, or_false] at hp
      rcases hp with rfl | rfl
      · exact neA (by show s.heap.objs.size + 1 + 1 ≠ s.heap.objs.size + 1 + 1 + 1; omega)
      · exact neA (by show s.heap.objs.size + 1 ≠ s.heap.objs.size + 1 + 1 + 1; omega)
    try dsimp only
    -- what stays
    have lnd : ∀ {h : Heap} {m}, Fr s.heap s.heap.objs.size h m → LAt h al ls := fun F => hl.keeps F.keep
    have hcl5 := N5 (s.heap.objs.size + 1 + 1, oT) (by simp)
    have hct5 := N5 (s.heap.objs.size + 1, oA) (by simp)
    have hcg5 := N5 (s.heap.objs.size + 1 + 1 + 1, oG5) (by simp)
    have hDg5 := N5 (Dg, oDg) (by simp)
    have htl5 : ∀ p ∈ tl, h5.get? p.1 = some p.2 := fun p hp => (N5 p (by simp [hp])).1
    have gv : ∀ {h : Heap} {k : Int}, Ext h5 h → k ∈ ls → ∃ d, h.DictOf (intKind prog w) Dg kvs ∧ valueAt kvs k = some (.ref d) ∧ LAt h d (givenOf ts ls k) := by
      intro h k kx hk
      obtain ⟨d, o, h1, h2, h3⟩ := hJ.valueAt hk
      exact ⟨d, Heap.dictOf_iff.mpr ⟨oDg, kx _ _ hDg5.1, hdg⟩, h1, h3.at (kx _ _ (htl5 _ h2))⟩
    have T5 := T.keeps F5.keep
    refine wpAny_execs_cons ?_
    refine wpAny_Assign_Name ?_
    refine lcomp (cl := [("tables", s.heap.objs.size + 1), ("given", s.heap.objs.size + 3)]) rfl rfl (by decide) ?_
    refine nmC (c := s.heap.objs.size + 2) (o := oT) rfl hcl5.1 hoA ?_
    obtain ⟨lvs, hlv, hli⟩ := hl.keeps F5.keep
    refine lcl (s := s) (vs := lvs) r1.hh hlv (by rw [hli.length]; have := hw.len; omega)
      (fun j ys tm => IntsAre ys ((ls.take j).filter (isLast ts ls)) ∧ tm = []) ⟨.nil, rfl⟩ ?_ (postN F5 N5 ?_) (by decide) rfl
    · rintro j v C2 I2 D2 oI2 oD2 ys tm h6 t6 m6 hj hv ⟨hys, rfl⟩ hap2 F6 N6
      obtain ⟨x, ux, rfl, hx⟩ := intsAre_inv hli hv
      have hxl := List.mem_of_getElem? hx
      refine wpAny_assign_Name (sto F6 N6 fun h7 t7 F7 N7 => ?_)
      refine tests_one ?_
      refine wpAny_isTrue_Compare1 ?_
      refine callDef T5 F7 T.ncc T5.fcc ?_
      refine args_cons ?_
      refine tabItem (c := s.heap.objs.size + 1) (o := oA) F7 rfl (F7.keep _ _ hct5.1) hoT ((hd.keeps F5.keep).keeps F7.keep) (k := x) (u := ux) rfl (hw.has x hxl) fun e t8 hde => ?_
      refine args_nil ⟨F7.keep, ?_⟩
      refine cc_spec (s := { s with heap := h7, toks := t8 }) (T5.keeps F7.keep) (r1.le (by decide)) hde _ _ ?_
      rintro v h8 t8' tl8 k8 hz8 fr8 ⟨u8, rfl⟩
      have F8 := F7.keeps k8
      have N8 := N7.grown k8
      obtain ⟨d, hDd, hval, hld⟩ := gv F8.keep hxl
      refine sumGiven (c := s.heap.objs.size + 3) (o := oG5) r1.hh T5 F8 rfl (F8.keep _ _ hcg5.1) hoG5 hDd hval hld (u := ux) rfl fun h9 t9 u9 k9 => ?_
      have F9 := F8.keeps k9
      have N9 := N8.grown k9
      refine PyProof.Rows.gt_int ?_
      refine wpAny_truthy_bool ?_
      have hst : (ls.take (j + 1)).filter (isLast ts ls) = (ls.take j).filter (isLast ts ls) ++ (if isLast ts ls x then [x] else []) := by
        rw [List.take_add_one, hx, List.filter_append]
        simp [List.filter_cons]
      show if isLast ts ls x = true then _ else _
      cases hb : isLast ts ls x with
      | true =>
        rw [if_pos rfl]
        refine nmL F9 (v := .int x ux) rfl ?_
        refine ⟨[], h9, _, _, rfl, F9, N9, (fun p hp => nomatch hp), ?_, rfl⟩
        rw [hst, hb]
        exact intsAre_append hys (.cons _ _ .nil)
      | false =>
        rw [if_neg Bool.false_ne_true]
        refine ⟨[], h9, _, _, rfl, F9, N9, (fun p hp => nomatch hp), ?_, rfl⟩
        rw [hst, hb]
        simpa using hys
    · rintro D2 h6 t6 ys oLs tm F6 N6 hne hne2 hD k6 hpo ⟨hys, rfl⟩
      rw [hli.length, List.take_length] at hys
      obtain ⟨nd, hdat⟩ := hpo.2.2
      have ioL : IO oLs (lastOf ts ls) := hpo.io hys
      refine stoC (c := s.heap.objs.size + 1 + 1 + 1 + 1) (own := (D2, oLs) :: (((Dg, oDg) :: tl) ++ [(aO, oO)])) (rest := [(s.heap.objs.size + 1 + 1 + 1, oG5), (s.heap.objs.size + 1 + 1, oT), (s.heap.objs.size + 1, oA)]) F6 (by simpa using N6) rfl hoL ?_ ?_ fun h7 oL7 F7 N7 hoL7 => ?_
      · intro p hp
        rcases List.mem_cons.mp hp with rfl | hp
        · exact hne2 (s.heap.objs.size + 1 + 1 + 1 + 1, oL) (by simp) _ (.head _)
        · rcases List.mem_append.mp hp with hp | hp
          · exact fr4.ne hp hcL3.1
          · rw [List.mem_singleton.mp hp]; exact Nat.ne_of_gt (lt2 (s.heap.objs.size + 1 + 1 + 1 + 1, oL) (by simp))
      · intro p hp
        simp only [List.mem_cons, List.not_mem_nil, or_false] at hp
        rcases hp with rfl | rfl | rfl
        · exact neA (by show s.heap.objs.size + 1 + 1 + 1 ≠ s.heap.objs.size + 1 + 1 + 1 + 1; omega)
        · exact neA (by show s.heap.objs.size + 1 + 1 ≠ s.heap.objs.size + 1 + 1 + 1 + 1; omega)
        · exact neA (by show s.heap.objs.size + 1 ≠ s.heap.objs.size + 1 + 1 + 1 + 1; omega)
      try dsimp only
      generalize hst7 : (D2, oLs) :: (((Dg, oDg) :: tl) ++ [(aO, oO)]) ++ (s.heap.objs.size + 1 + 1 + 1 + 1, oL7) :: [(s.heap.objs.size + 1 + 1 + 1, oG5), (s.heap.objs.size + 1 + 1, oT), (s.heap.objs.size + 1, oA)] = st7 at N7
      have hcl7 : (s.heap.objs.size + 1 + 1, oT) ∈ st7 := by rw [← hst7]; simp
      have hct7 : (s.heap.objs.size + 1, oA) ∈ st7 := by rw [← hst7]; simp
      have hcg7 : (s.heap.objs.size + 1 + 1 + 1, oG5) ∈ st7 := by rw [← hst7]; simp
      have hcL7 : (s.heap.objs.size + 1 + 1 + 1 + 1, oL7) ∈ st7 := by rw [← hst7]; simp
      have hLs7 : (D2, oLs) ∈ st7 := by rw [← hst7]; simp
      have hao7 : (aO, oO) ∈ st7 := by rw [← hst7]; simp
      have hDg7 : (Dg, oDg) ∈ st7 := by rw [← hst7]; simp
      have htl7 : ∀ p ∈ tl, p ∈ st7 := fun p hp => by rw [← hst7]; simp [hp]
      have gv7 : ∀ {h : Heap} {k : Int}, (∀ p ∈ st7, h.get? p.1 = some p.2) → k ∈ ls → ∃ d, h.DictOf (intKind prog w) Dg kvs ∧ valueAt kvs k = some (.ref d) ∧ LAt h d (givenOf ts ls k) ∧ ∃ od, (d, od) ∈ st7 := by
        intro h k kx hk
        obtain ⟨d, o, h1, h2, h3⟩ := hJ.valueAt hk
        exact ⟨d, Heap.dictOf_iff.mpr ⟨oDg, kx _ hDg7, hdg⟩, h1, h3.at (kx _ (htl7 _ h2)), o, htl7 _ h2⟩
      clear hst7 htl5 gv hDg5 hcg5 hct5 hcl5
      refine wpAny_execs_cons ?_
      refine lcompA (cl := [("tables", s.heap.objs.size + 1), ("last", s.heap.objs.size + 4)]) rfl rfl rfl (by decide) ?_
      refine nmC (c := s.heap.objs.size + 2) (o := oT) rfl (N7 _ hcl7).1 hoA ?_
      obtain ⟨lvs, hlv, hli⟩ := hl.keeps F7.keep
      refine lcl (s := s) (vs := lvs) r1.hh hlv (by rw [hli.length]; have := hw.len; omega)
        (fun j ys tm => IntsAre ys ((ls.take j).filter (isOther ts ls)) ∧ tm = []) ⟨.nil, rfl⟩ ?_ (postB (y := "others") F7 N7 ?_) (by decide) rfl
      · rintro j v C3 I3 D3 oI3 oD3 zs tm h8 t8 m8 hj hv ⟨hzs, rfl⟩ hap3 F8 N8
        obtain ⟨x, ux, rfl, hx⟩ := intsAre_inv hli hv
        have hxl := List.mem_of_getElem? hx
        have hst : (ls.take (j + 1)).filter (isOther ts ls) = (ls.take j).filter (isOther ts ls) ++ (if isOther ts ls x then [x] else []) := by
          rw [List.take_add_one, hx, List.filter_append]
          simp [List.filter_cons]
        refine wpAny_assign_Name (sto F8 N8 fun h9 t9 F9 N9 => ?_)
        refine tests_one ?_
        refine isTrue_and ?_
        refine isTrue_plain ?_
        refine tabItem (c := s.heap.objs.size + 1) (o := oA) F9 rfl (F9.keep _ _ (N7 _ hct7).1) hoT ((hd.keeps F7.keep).keeps F9.keep) (k := x) (u := ux) rfl (hw.has x hxl) fun e t10 hde => ?_
        refine truthyD hde (by have := hw.few x hxl; omega) fun t11 => ?_
        cases h1 : (getT ts x).isEmpty with
        | true =>
          rw [Bool.not_true, if_neg Bool.false_ne_true]
          have hb : isOther ts ls x = false := by unfold isOther; rw [h1]; rfl
          rw [if_neg Bool.false_ne_true]
          refine ⟨[], h9, _, _, rfl, F9, N9, (fun p hp => nomatch hp), ?_, rfl⟩
          rw [hst, hb]
          simpa using hzs
        | false =>
          rw [Bool.not_false, if_pos rfl]
          refine isTrue_and ?_
          refine wpAny_isTrue_Compare1 ?_
          refine nmL F9 (v := .int x ux) rfl ?_
          refine nmC (c := s.heap.objs.size + 4) (o := oL7) rfl (F9.keep _ _ (N7 _ hcL7).1) hoL7 ?_
          refine notInL (ioL.at (F9.keep _ _ (N7 _ hLs7).1)) ?_
          refine wpAny_truthy_bool ?_
          have hb : isOther ts ls x = !((lastOf ts ls).any (· == x)) := by unfold isOther; rw [h1]; rfl
          rw [← hb]
          cases hb2 : isOther ts ls x with
          | true =>
            rw [if_pos rfl]
            refine isTrue_and_nil ?_
            rw [if_pos rfl]
            refine nmL F9 (v := .int x ux) rfl ?_
            refine ⟨[], h9, _, _, rfl, F9, N9, (fun p hp => nomatch hp), ?_, rfl⟩
            rw [hst, hb2]
            exact intsAre_append hzs (.cons _ _ .nil)
          | false =>
            rw [if_neg Bool.false_ne_true, if_neg Bool.false_ne_true]
            refine ⟨[], h9, _, _, rfl, F9, N9, (fun p hp => nomatch hp), ?_, rfl⟩
            rw [hst, hb2]
            simpa using hzs
      · rintro D3 h8 t8 zs oOs tm F8 N8 hne3 hne4 hD3 hpo3 ⟨hzs, rfl⟩
        rw [hli.length, List.take_length] at hzs
        obtain ⟨nd3, hdat3⟩ := hpo3.2.2
        have ioO : IO oOs (othersOf ts ls) := hpo3.io hzs
        have hzl := hzs.length
        try dsimp only
        refine wpAny_execs_cons ?_
        refine Assign_Tuple ?_
        refine Tuple_ ?_
        refine args_cons (wpAny_Constant_int (args_cons (wpAny_Constant_int (args_cons (wpAny_Constant_int (args_nil ?_))))))
        refine newU (ns := [1, 1, 1]) F8 N8 (by repeat' constructor) (by decide) fun aE oE h9 F9 N9 lt9 ue => ?_
        obtain ⟨v1, v2, v3, u1, u2, u3, hT9, rfl, rfl, rfl⟩ := (ue.at (N9 _ (.head _)).1).three
        refine assignTriple (s := s) r1.hh hT9 F9 (News.sub N9 fun p hp => .tail _ hp) fun h10 t10 F10 N10 => ?_
        try dsimp only
        have hLd : ∀ {p}, p ∈ lastOf ts ls → p ∈ ls := fun h => (List.mem_filter.mp h).1
        have hOd : ∀ {p}, p ∈ othersOf ts ls → p ∈ ls := fun h => (List.mem_filter.mp h).1
        generalize hst8 : [(D3, oOs)] ++ st7 = st at N10
        have s7 : ∀ p ∈ st7, p ∈ st := fun p hp => by rw [← hst8]; exact List.mem_append_right _ hp
        have hOst : (D3, oOs) ∈ st := by rw [← hst8]; simp
        clear hst8
        refine wpAny_execs_cons ?_
        refine For_turns F10 ?_
        refine nmC (c := s.heap.objs.size + 4) (o := oL7) rfl (N10 _ (s7 _ hcL7)).1 hoL7 ?_
        refine iter_list (s := s) r1.hh (ioL.at (N10 _ (s7 _ hLs7)).1) (N10 _ (s7 _ hLs7)).2.1 F10 N10
          (fun i m nw => nw = st ∧ (∃ t, m "ways" = some (.int (ways1 ts ls ((lastOf ts ls).take i)) t)) ∧ (∃ t, m "trees" = some (.int 1 t)) ∧ (∃ t, m "alike" = some (.int 1 t)) ∧ m "orders" = some (.ref aO) ∧ m "others" = some (.ref D3)) ⟨rfl, ⟨_, rfl⟩, ⟨_, rfl⟩, ⟨_, rfl⟩, rfl, rfl⟩ ?_ ?_
        · rintro i x u m₁ news₁ h11 t11 own I oi hx ⟨rfl, ⟨tw, hm1⟩, hm2, hm3, hm4, hm5⟩ hoff hIo hsub hIl F11 N11
          have hxl := hLd (List.mem_of_getElem? hx)
          refine wpAny_assign_Name (sto F11 N11 fun h12 t12 F12 N12 => ?_)
          refine wpAny_execs_cons ?_
          refine wpAny_Assign_Name ?_
          refine wpAny_BinOp ?_
          refine nmL F12 (v := .int _ tw) hm1 ?_
          refine Subscript_ ?_
          refine nmL F12 (v := .ref aO) hm4 ?_
          obtain ⟨d, hDd, hval, hld, _⟩ := gv7 (h := h12) (fun p hp => (N12 p (List.mem_append_right _ (s7 p hp))).1) hxl
          refine sumGiven (c := s.heap.objs.size + 3) (o := oG5) r1.hh T F12 rfl (N12 _ (List.mem_append_right _ (s7 _ hcg7))).1 hoG5 hDd hval hld (u := u) rfl fun h13 t13 u13 k13 => ?_
          have F13 := F12.keeps k13
          have N13 := N12.grown k13
          have hs := hw.sum x hxl
          refine itemU (uo.at (N13 _ (List.mem_append_right _ (s7 _ hao7))).1) hs.1 (by show _ < 7; omega) (by decide) fun tu => ?_
          refine mul_int ?_ (smallMulR (ordAt_small _))
          refine sto F13 N13 fun h14 t14 F14 N14 => ?_
          try dsimp only
          refine wpAny_execs_nil ?_
          have e : ways1 ts ls ((lastOf ts ls).take (i + 1)) = ways1 ts ls ((lastOf ts ls).take i) * ordAt (givenOf ts ls x).sum := by
            rw [List.take_add_one, hx]; simp [ways1]
          exact ⟨rfl, h14, t14, _, news₁, rfl, F14, N14, hoff, rfl, setv rfl e, hm2, hm3, hm4, hm5⟩
        · rintro h11 t11 m11 nw F11 N11 ⟨rfl, ⟨tw, hm1⟩, ⟨tt, hm2⟩, ⟨ta, hm3⟩, hm4, hm5⟩
          rw [List.take_length] at hm1
          try dsimp only
          clear hLd
          refine wpAny_execs_cons ?_
          refine For_turns F11 ?_
          refine nmL F11 hm5 ?_
          refine iter_list (s := s) r1.hh (ioO.at (N11 _ hOst).1) (N11 _ hOst).2.1 F11 N11
            (fun i m n => n = nw ∧ (∃ t, m "ways" = some (.int (ways2 ts ls ((othersOf ts ls).take i) (ways1 ts ls (lastOf ts ls))) t)) ∧ (∃ t, m "trees" = some (.int (trees1 ts ls ((othersOf ts ls).take i)) t)) ∧ (∃ t, m "alike" = some (.int 1 t)) ∧ m "orders" = some (.ref aO) ∧ m "others" = some (.ref D3)) ⟨rfl, ⟨_, hm1⟩, ⟨_, hm2⟩, ⟨_, hm3⟩, hm4, hm5⟩ ?_ ?_
          · clear hm1 hm2 hm3 hm4 hm5
            rintro i x u m₁ news₁ h12 t12 own I oi hx ⟨rfl, ⟨tw, hm1⟩, ⟨tt, hm2⟩, hm3, hm4, hm5⟩ hoff hIo hsub hIl F12 N12
            have hxo := List.mem_of_getElem? hx
            have hxl := hOd hxo
            refine wpAny_assign_Name (sto F12 N12 fun h13 t13 F13 N13 => ?_)
            refine wpAny_execs_cons ?_
            refine wpAny_Assign_Name ?_
            refine wpAny_BinOp ?_
            refine nmL F13 (v := .int _ tw) hm1 ?_
            refine Subscript_ ?_
            refine nmL F13 (v := .ref aO) hm4 ?_
            refine wpAny_BinOp ?_
            obtain ⟨d, hDd, hval, hld, _⟩ := gv7 (h := h13) (fun p hp => (N13 p (List.mem_append_right _ (s7 p hp))).1) hxl
            refine sumGiven (c := s.heap.objs.size + 3) (o := oG5) r1.hh T F13 rfl (N13 _ (List.mem_append_right _ (s7 _ hcg7))).1 hoG5 hDd hval hld (u := u) rfl fun h14 t14 u14 k14 => ?_
            have F14 := F13.keeps k14
            have N14 := N13.grown k14
            have hs := hw.sum x hxl
            have hs1 := hw.oth x hxo
            refine wpAny_Constant_int ?_
            refine sub_int ?_
            refine itemU (uo.at (N14 _ (List.mem_append_right _ (s7 _ hao7))).1) (by omega) (by show _ < 7; omega) (by decide) fun tu => ?_
            refine mul_int ?_ (smallMulR (ordAt_small _))
            refine sto F14 N14 fun h15 t15 F15 N15 => ?_
            try dsimp only
            refine wpAny_execs_cons ?_
            refine wpAny_Assign_Name ?_
            refine wpAny_BinOp ?_
            refine nmL F15 (v := .int _ tt) hm2 ?_
            refine wpAny_BinOp ?_
            obtain ⟨d, hDd, hval, hld, _⟩ := gv7 (h := h15) (fun p hp => (N15 p (List.mem_append_right _ (s7 p hp))).1) hxl
            refine sumGiven (c := s.heap.objs.size + 3) (o := oG5) r1.hh T F15 rfl (N15 _ (List.mem_append_right _ (s7 _ hcg7))).1 hoG5 hDd hval hld (u := u) rfl fun h16 t16 u16 k16 => ?_
            have F16 := F15.keeps k16
            have N16 := N15.grown k16
            refine callGet ?_
            refine tabItem (c := s.heap.objs.size + 1) (o := oA) F16 rfl (N16 _ (List.mem_append_right _ (s7 _ hct7))).1 hoT (hd.keeps F16.keep) (k := x) (u := u) rfl (hw.has x hxl) fun e t17 hde => ?_
            refine ⟨e, _, rfl, hde, ?_⟩
            refine nmL F16 (v := .int x u) rfl ?_
            refine wpAny_Constant_int ?_
            refine ⟨x, u, 0, _, rfl, rfl, hde, fun t18 => ?_⟩
            rw [getK_if]
            have hc := hw.cnt x hxl _ (given_get hxl)
            refine sub_int ?_
            refine mul_int ?_ (smallMulR (by omega))
            refine sto F16 N16 fun h17 t17 F17 N17 => ?_
            try dsimp only
            refine wpAny_execs_nil ?_
            have e1 : ways2 ts ls ((othersOf ts ls).take (i + 1)) (ways1 ts ls (lastOf ts ls)) = ways2 ts ls ((othersOf ts ls).take i) (ways1 ts ls (lastOf ts ls)) * ordAt ((givenOf ts ls x).sum - 1) := by
              rw [List.take_add_one, hx]; simp [ways2]
            have e2 : trees1 ts ls ((othersOf ts ls).take (i + 1)) = trees1 ts ls ((othersOf ts ls).take i) * ((givenOf ts ls x).sum - getK (getT ts x) x) := by
              rw [List.take_add_one, hx]; simp [trees1]
            exact ⟨rfl, h17, t17, _, news₁, rfl, F17, N17, hoff, rfl, setv rfl e1, setv rfl e2, hm3, hm4, hm5⟩
          · clear hm1 hm2 hm3 hm4 hm5
            rintro h12 t12 m12 nx F12 N12 ⟨rfl, ⟨tw, hm1⟩, ⟨tt, hm2⟩, ⟨ta, hm3⟩, hm4, hm5⟩
            rw [List.take_length] at hm1 hm2
            try dsimp only
            refine wpAny_execs_cons (wpAny_mono (Q := fun f s' => f = .next ∧ ∃ h' t' m', s' = { s with heap := h', toks := t' } ∧ Fr s.heap s.heap.objs.size h' m' ∧ News s.heap s.heap.objs.size h' nx ∧ (∃ t, m' "ways" = some (.int (ways2 ts ls (othersOf ts ls) (ways1 ts ls (lastOf ts ls))) t)) ∧ (∃ t, m' "trees" = some (.int (trees2 ts ls) t)) ∧ (∃ t, m' "alike" = some (.int 1 t)) ∧ m' "orders" = some (.ref aO)) ?_ (fun f s' hq => ?_) (fun _ _ e => e))
            · refine wpAny_If ?_
              refine wpAny_isTrue_Compare1 ?_
              refine callBi T F12 (by decide) boot_len ?_
              refine args_cons ?_
              refine nmL F12 hm5 ?_
              refine args_nil ?_
              have hio := ioO
              obtain ⟨ovs, on, oc1, oc2, oi, _⟩ := hio
              have olen := oi.length
              have hotl : (othersOf ts ls).length ≤ 100 := Nat.le_trans (List.length_filter_le _ _) hw.len
              refine lenL (vs := ovs) ⟨oOs, (N12 _ hOst).1, oc1, on, oc2⟩ (by omega) fun t13 u13 => ?_
              refine wpAny_Constant_int ?_
              refine PyProof.Rows.eq_int ?_
              refine wpAny_truthy_bool ?_
              by_cases h2 : (othersOf ts ls).length = 2
              · rw [if_pos (by rw [olen, h2]; rfl)]
                obtain ⟨f, g, hfg⟩ : ∃ f g, othersOf ts ls = [f, g] := by
                  match othersOf ts ls, h2 with
                  | [f, g], _ => exact ⟨f, g, rfl⟩
                have hfl : f ∈ ls := hOd (by rw [hfg]; simp)
                have hgl : g ∈ ls := hOd (by rw [hfg]; simp)
                refine wpAny_execs_cons ?_
                refine Assign_Tuple ?_
                refine nmL F12 hm5 ?_
                refine assignPairL (s := s) (a := f) (b := g) r1.hh (by rw [← hfg]; exact ioO.at (N12 _ hOst).1) F12 N12 fun h13 t13 uf ug F13 N13 => ?_
                try dsimp only
                refine wpAny_execs_cons ?_
                refine wpAny_Assign_Name ?_
                refine wpAny_BinOp ?_
                refine nmL F13 (v := .int _ tt) hm2 ?_
                refine wpAny_BinOp ?_
                refine callGet ?_
                refine tabItem (c := s.heap.objs.size + 1) (o := oA) F13 rfl (N13 _ (s7 _ hct7)).1 hoT (hd.keeps F13.keep) (k := g) (u := ug) rfl (hw.has g hgl) fun e t17 hde => ?_
                refine ⟨e, _, rfl, hde, ?_⟩
                refine nmL F13 (v := .int f uf) rfl ?_
                refine wpAny_Constant_int ?_
                refine ⟨f, uf, 0, _, rfl, rfl, hde, fun t18 => ?_⟩
                rw [getK_if]
                refine callGet ?_
                refine tabItem (c := s.heap.objs.size + 1) (o := oA) F13 rfl (N13 _ (s7 _ hct7)).1 hoT (hd.keeps F13.keep) (k := f) (u := uf) rfl (hw.has f hfl) fun e' t19 hde' => ?_
                refine ⟨e', _, rfl, hde', ?_⟩
                refine nmL F13 (v := .int g ug) rfl ?_
                refine wpAny_Constant_int ?_
                refine ⟨g, ug, 0, _, rfl, rfl, hde', fun t20 => ?_⟩
                rw [getK_if]
                have hc := hw.cnt g hgl _ (given_get (ts := ts) hfl)
                refine mul_int ?_ (smallMulR (by omega))
                refine sub_int ?_
                refine sto F13 N13 fun h14 t14 F14 N14 => ?_
                try dsimp only
                refine wpAny_execs_nil ?_
                have e2 : trees2 ts ls = trees1 ts ls (othersOf ts ls) - getK (getT ts g) f * getK (getT ts f) g := by
                  unfold trees2; rw [hfg]
                exact ⟨rfl, h14, t14, _, rfl, F14, N14, ⟨_, hm1⟩, setv rfl e2, ⟨_, hm3⟩, hm4⟩
              · rw [if_neg (by rw [olen]; simp; omega)]
                refine wpAny_execs_nil ?_
                have e2 : trees2 ts ls = trees1 ts ls (othersOf ts ls) := by
                  unfold trees2
                  split
                  · rename_i q; rw [q] at h2; exact absurd rfl h2
                  · rfl
                exact ⟨rfl, h12, _, m12, rfl, F12, N12, ⟨_, hm1⟩, setv hm2 e2, ⟨_, hm3⟩, hm4⟩
            · clear hm1 hm2 hm3 hm4 hm5 F12 N12
              obtain ⟨rfl, h13, t13, m13, rfl, F13, N13, ⟨tw, hm1⟩, ⟨tt, hm2⟩, ⟨ta, hm3⟩, hm4⟩ := hq
              try dsimp only
              refine wpAny_execs_cons ?_
              refine For_turns F13 ?_
              refine nmC (c := s.heap.objs.size + 2) (o := oT) rfl (N13 _ (s7 _ hcl7)).1 hoA ?_
              refine iter_list (s := s) r1.hh (hl.keeps F13.keep) (Nat.ne_of_lt hl.lt) F13 N13
                (fun i m n => n = nx ∧ (∃ t, m "alike" = some (.int (alikeOf ts ls (ls.take i)) t)) ∧ m "orders" = some (.ref aO) ∧ (∃ t, m "ways" = some (.int (ways2 ts ls (othersOf ts ls) (ways1 ts ls (lastOf ts ls))) t)) ∧ (∃ t, m "trees" = some (.int (trees2 ts ls) t))) ⟨rfl, ⟨_, hm3⟩, hm4, ⟨_, hm1⟩, ⟨_, hm2⟩⟩ ?_ ?_
              · clear hm1 hm2 hm3 hm4
                rintro i x u m₁ news₁ h14 t14 own I oi hx ⟨rfl, ⟨ta, hm1⟩, hm2, hm3, hm4⟩ hoff hIo hsub hIl F14 N14
                have hxl := List.mem_of_getElem? hx
                refine wpAny_assign_Name (sto F14 N14 fun h15 t15 F15 N15 => ?_)
                refine wpAny_execs_cons ?_
                refine For_turns F15 ?_
                refine Subscript_ ?_
                refine nmC (c := s.heap.objs.size + 3) (o := oG5) rfl (N15 _ (List.mem_append_right _ (s7 _ hcg7))).1 hoG5 ?_
                refine nmL F15 (v := .int x u) rfl ?_
                obtain ⟨d, hDd, hval, hld, od, hod⟩ := gv7 (h := h15) (fun p hp => (N15 p (List.mem_append_right _ (s7 p hp))).1) hxl
                refine itemD hDd hval fun t16 => ?_
                refine iter_list (s := s) r1.hh hld (N15 _ (List.mem_append_right _ (s7 _ hod))).2.1 F15 N15
                  (fun j m n => n = own ++ news₁ ∧ (∃ t, m "alike" = some (.int (alikeIn ((givenOf ts ls x).take j) (alikeOf ts ls (ls.take i))) t)) ∧ m "orders" = some (.ref aO) ∧ (∃ t, m "ways" = some (.int (ways2 ts ls (othersOf ts ls) (ways1 ts ls (lastOf ts ls))) t)) ∧ (∃ t, m "trees" = some (.int (trees2 ts ls) t))) ⟨rfl, ⟨_, hm1⟩, hm2, hm3, hm4⟩ ?_ ?_
                · clear hm1 hm2 hm3 hm4
                  rintro j y v m₂ news₂ h16 t16 own2 I2 oi2 hy ⟨rfl, ⟨ta, hm1⟩, hm2, hm3, hm4⟩ hoff2 hIo2 hsub2 hIl2 F16 N16
                  have hc := hw.cnt x hxl _ (List.mem_of_getElem? hy)
                  refine wpAny_assign_Name (sto F16 N16 fun h17 t17 F17 N17 => ?_)
                  refine wpAny_execs_cons ?_
                  refine wpAny_Assign_Name ?_
                  refine wpAny_BinOp ?_
                  refine nmL F17 (v := .int _ ta) hm1 ?_
                  refine Subscript_ ?_
                  refine nmL F17 (v := .ref aO) hm2 ?_
                  refine nmL F17 (v := .int y v) rfl ?_
                  refine itemU (uo.at (N17 _ (List.mem_append_right _ (List.mem_append_right _ (s7 _ hao7)))).1) hc.1 (by show _ < 7; omega) (by decide) fun tu => ?_
                  refine mul_int ?_ (smallMulR (ordAt_small _))
                  refine sto F17 N17 fun h18 t18 F18 N18 => ?_
                  try dsimp only
                  refine wpAny_execs_nil ?_
                  have e1 : alikeIn ((givenOf ts ls x).take (j + 1)) (alikeOf ts ls (ls.take i)) = alikeIn ((givenOf ts ls x).take j) (alikeOf ts ls (ls.take i)) * ordAt y := by
                    rw [List.take_add_one, hy]; simp [alikeIn]
                  exact ⟨rfl, h18, t18, _, own ++ news₁, rfl, F18, N18, hoff2, rfl, setv rfl e1, hm2, hm3, hm4⟩
                · clear hm1 hm2 hm3 hm4
                  rintro h16 t16 m16 ny F16 N16 ⟨rfl, ⟨ta, hm1⟩, hm2, hm3, hm4⟩
                  rw [List.take_length] at hm1
                  try dsimp only
                  refine wpAny_execs_nil ?_
                  have e1 : alikeOf ts ls (ls.take (i + 1)) = alikeIn (givenOf ts ls x) (alikeOf ts ls (ls.take i)) := by
                    rw [List.take_add_one, hx]; simp [alikeOf]
                  exact ⟨rfl, h16, t16, _, news₁, rfl, F16, N16, hoff, rfl, setv hm1 e1, hm2, hm3, hm4⟩
              · clear hm1 hm2 hm3 hm4
                rintro h14 t14 m14 ny F14 N14 ⟨rfl, ⟨ta, hm1⟩, hm2, ⟨tw, hm3⟩, ⟨tt, hm4⟩⟩
                rw [List.take_length] at hm1
                try dsimp only
                refine wpAny_execs_cons ?_
                refine wpAny_Return_some ?_
                refine wpAny_BinOp ?_
                refine wpAny_BinOp ?_
                refine nmL F14 hm3 ?_
                refine nmL F14 hm4 ?_
                refine mul_int ?_ (smallMulR hw.tre)
                refine nmL F14 hm1 ?_
                refine floordiv_int hw.al0 ?_ (.inl (PyProof.noPylong_small hw.al1))
                try dsimp only
                exact ⟨h14, _, [], rfl, F14.keep, Nat.le_of_lt F14.ns.lt, (fun p hp => nomatch hp), _, rfl⟩
end Mine

namespace Mine
set_option maxRecDepth 100000
/-- a list of ints, with no attributes of its own, stands at a -/
def IAt (h : Heap) (a : Addr) (ns : List Int) : Prop := ∃ o, h.get? a = some o ∧ IO o ns
theorem IAt.keeps {h h' : Heap} {a ns} (x : IAt h a ns) (k : Ext h h') : IAt h' a ns := let ⟨o, p, q⟩ := x; ⟨o, k _ _ p, q⟩
theorem IAt.lat {h : Heap} {a ns} (x : IAt h a ns) : LAt h a ns := let ⟨_, p, q⟩ := x; q.at p
section
variable {prog : Program} {w : World} {A : Around} {E : Value → Shared → Prop} {s : Shared} {env : Env} {h₀ H : Heap} {t : Nat} {m : Str → Option Value} {news : List (Addr × Obj)}
/-- for i, x in enumerate(xs), xs a list of ints -/
theorem iter_enum {Q : Flow → Shared → Prop} {elts : List Expr} {k : Nat} {pos : Pos} {body : List Stmt} {l : Addr} {ns : List Int} (hh : A.handled = none) (hl : LAt H l ns) (hlL : l ≠ env.locals)
    (F : Fr h₀ env.locals H m) (N : News h₀ env.locals H news) (J : Nat → (Str → Option Value) → Prop) (h0 : J 0 m)
    (step : ∀ i x T u v m₁ h₁ tk₁ own, ns[i]? = some x → h₁.IsTuple T #[.int (i : Int) u, .int x v] → J i m₁ → Fr h₀ env.locals h₁ m₁ → News h₀ env.locals h₁ (own ++ news) →
      wpAny (model prog w) A (assign (.Tuple elts k pos) env (.ref T)) (fun _ s₃ => wpAny (model prog w) A (execs body env) (fun f s' => f = .next ∧ ∃ h' tk' m', s' = { s with heap := h', toks := tk' } ∧ Fr h₀ env.locals h' m' ∧ News h₀ env.locals h' (own ++ news) ∧ J (i + 1) m') (fun _ _ => False) s₃) (fun _ _ => False) { s with heap := h₁, toks := tk₁ })
    (done : ∀ h' tk m', Fr h₀ env.locals h' m' → News h₀ env.locals h' news → J ns.length m' → Q .next { s with heap := h', toks := tk }) :
    wpAny (model prog w) A (call (.type "enumerate") [.ref l]) (fun xv s₁ => wpAny (model prog w) A (pyIter xv) (fun it s₂ => TurnsAt prog w A h₀ env (.Tuple elts k pos) body Q E it s₂) E s₁) E { s with heap := H, toks := t } := by
  obtain ⟨vs, hl, hi⟩ := hl
  obtain ⟨ol, hol, _⟩ := id hl
  have hlt := ltA hol
  have hLs : env.locals < H.objs.size := F.ns.lt
  refine call_enumerate_list (s := { s with heap := H, toks := t }) hl fun h' hE hI hsz hk => ?_
  refine wpAny_pyIter_enum hE ?_
  have W := KTurns.ofWalksU (elts := elts) (k := k) (pos := pos) (WalksT.enumerate (prog := prog) (w := w) hh (H.objs.size + 1) H.objs.size l (Nat.succ_ne_self _) (Nat.ne_of_lt (Nat.lt_succ_of_lt hlt)) (Nat.ne_of_lt hlt) vs.toArray).toU
  refine ⟨_, _, _, _, _, _, _, m, news, fun i m nw => nw = news ∧ J i m, rfl, W, ?_, ?_, ?_, ⟨⟨.none, hE⟩, hI, hl.at fun o e => hk l o e⟩, F.keeps hk, N.grown hk, ⟨rfl, h0⟩, ?_, ?_⟩
  · intro hI'
    have hb' : env.locals = H.objs.size + 1 ∨ env.locals = H.objs.size ∨ env.locals = l := by simpa using hI'
    rcases hb' with e | e | e
    · exact absurd (e ▸ hLs) (by show ¬ (H.objs.size + 1 < H.objs.size); omega)
    · exact absurd (e ▸ hLs) (Nat.lt_irrefl _)
    · exact hlL e.symm
  · intro b hb
    have hb' : b = H.objs.size + 1 ∨ b = H.objs.size := by simpa using hb
    have hx : ∀ {b : Addr}, H.objs.size ≤ b → h₀.get? b = none := fun {b} hb => by
      cases q : h₀.get? b with
      | none => rfl
      | some o => exact absurd (Heap.lt_size (F.keep _ _ q)) (Nat.not_lt.mpr hb)
    rcases hb' with rfl | rfl
    · exact hx (Nat.le_succ _)
    · exact hx (Nat.le_refl _)
  · intro p hp hb
    have hb' : p.1 = H.objs.size + 1 ∨ p.1 = H.objs.size := by simpa using hb
    have hlp := ltA (N p hp).1
    rcases hb' with e | e
    · exact absurd (e ▸ hlp) (by show ¬ (H.objs.size + 1 < H.objs.size); omega)
    · exact absurd (e ▸ hlp) (Nat.lt_irrefl _)
  · rintro i v m₁ news₁ h₁ tk₁ own hi' ⟨T, vals, rfl, ⟨u, x, hx, rfl⟩, hT⟩ ⟨rfl, hJ⟩ hoff hsub hget hall st F₁ N₁
    have hx' : vs[i]? = some x := by simpa using hx
    obtain ⟨n, v, rfl, hn⟩ := intsAre_inv hi hx'
    refine wpAny_mono (step i n T u v m₁ h₁ tk₁ own hn hT hJ F₁ N₁) (fun _ s₃ h₃ => wpAny_mono h₃ (fun f s' h' => ?_) (fun _ _ x => x.elim)) (fun _ _ x => x.elim)
    obtain ⟨rfl, h', tk, m', rfl, F', N', hJ'⟩ := h'
    exact .next ⟨rfl, h', tk, m', _, rfl, F', N', hoff, rfl, hJ'⟩
  · rintro h' tk m' news' F' N' _ ⟨rfl, hJ⟩
    have : vs.toArray.size = ns.length := by simp [hi.length]
    exact done h' tk m' F' N' (this ▸ hJ)
/-- xs.count(k) -/
theorem callCount {o ke : Expr} {apos pos : Pos} {Q : Value → Shared → Prop} {s : Shared}
    (h : wpAny (model prog w) A (eval o env) (fun ov s₁ => ∃ l ns, ov = .ref l ∧ IAt s₁.heap l ns ∧ wpAny (model prog w) A (eval ke env) (fun kv s₂ =>
      ∃ k uk, kv = .int k uk ∧ IAt s₂.heap l ns ∧ ∀ u, Q (.int (ns.count k : Nat) u) { s₂ with toks := s₂.toks + 1 }) E s₁) E s)
    (hbase : attributeBase o "count" env (eval o env) = eval o env := by rfl) (hline : (apos.endLine == pos.line) = true := by rfl)
    (hfew : ((backTo pos (starEach [ke] env)).all (fun x => !x.1) && (backToKw pos (keywordEach [] env)).all (fun x => x.1.isSome) && decide ([ke].length + ([] : List Keyword).length + (if ([] : List Keyword).isEmpty then 0 else 1) < 30)) = true := by rfl)
    (htrees : backTo pos (starEach [ke] env) = [(false, eval ke env)] := by rfl) :
    wpAny (model prog w) A (eval (.Call (.Attribute o "count" apos) [ke] [] pos) env) Q E s := by
  refine wpAny_Call_method (T := "list") (id := "list.count") hbase hfew hline PySem.F.plainAttrs_list PySem.F.slot_list_count PySem.F.type_list_count (wpAny_mono h (fun ov s₁ h₁ => ?_) fun _ _ e => e)
  obtain ⟨l, ns, rfl, hd, h₁⟩ := h₁
  obtain ⟨ol, hol, io⟩ := hd
  refine ⟨?_, ?_, ?_⟩
  · obtain ⟨vs, hlv, _⟩ := io.at hol; exact hlv.typeIs
  · intro a e; cases e; obtain ⟨_, _, _, _, _, d⟩ := io; exact ⟨ol, hol, d⟩
  · rw [htrees]
    refine Calls.callWith_builtin rfl (Calls.evalArgs_plain (Calls.spliced_cons (wpAny_mono h₁ (fun kv s₂ h₂ => Calls.spliced_nil ?_) fun _ _ e => e)))
    obtain ⟨k, uk, rfl, hd2, hQ⟩ := h₂
    obtain ⟨vs, hlv, hi⟩ := hd2.lat
    exact count_list_ints hlv hi (hQ _)
/-- xs != ys -/
theorem neL {a b : Addr} {ns ms : List Int} {Q : Value → Shared → Prop} (ha : LAt H a ns) (hb : LAt H b ms) (r : Room A 7) (h : Q (.bool (!decide (ns = ms))) { s with heap := H, toks := t }) :
    wpAny (model prog w) A (compareOp .NotEq (.ref a) (.ref b)) Q E { s with heap := H, toks := t } := by
  obtain ⟨vs, hva, hia⟩ := ha
  obtain ⟨ws, hvb, hib⟩ := hb
  exact ke_ne_ints (s := { s with heap := H, toks := t }) hva hvb hia hib (by have := r.un; omega) h
theorem bInts_inj {b c : Array UInt8} (h : KBw.bInts b = KBw.bInts c) : b.toList = c.toList := by
  unfold KBw.bInts at h
  refine List.map_inj_right ?_ |>.mp h
  intro x y e
  exact UInt8.toNat_inj.mp (by omega)
/-- bytes that are the same -/
theorem neB {b c : Array UInt8} {tb tc : Tok} {Q : Value → Shared → Prop} (hbc : KBw.bInts b = KBw.bInts c) (h : Q (.bool false) { s with heap := H, toks := t }) :
    wpAny (model prog w) A (compareOp .NotEq (.bytes b tb) (.bytes c tc)) Q E { s with heap := H, toks := t } := by
  refine ne_bytes (s := { s with heap := H, toks := t }) ?_
  rw [bInts_inj hbc]
  simpa using h
/-- bytes(xs) -/
theorem bytesL {l : Addr} {ns : List Int} {Q : Value → Shared → Prop} (hl : LAt H l ns) (hr : ∀ n ∈ ns, 0 ≤ n ∧ n < 256) (hz : ns.length ≤ 100000) (hh : A.handled = none)
    (h : ∀ h' c u tk, Ext H h' → KBw.bInts c = ns → Q (.bytes c u) { s with heap := h', toks := tk }) :
    wpAny (model prog w) A (call (.type "bytes") [.ref l]) Q E { s with heap := H, toks := t } := by
  obtain ⟨vs, hl, hi⟩ := hl
  refine call_bytes_ints (s := { s with heap := H, toks := t }) hl hi hr (by rw [sizeLine_eq, hi.length]; omega) hh fun h' u k hk => ?_
  exact h h' _ u k hk (KBa.ints_make hr)
end
end Mine

namespace Mine
set_option maxRecDepth 100000
def JI (ns : List Int) (f : Int → Int) : Nat → List Value → List (Addr × Obj) → Prop := fun i ys tl => IntsAre ys ((ns.take i).map f) ∧ tl = []
def JR (g : Nat → Int) : Nat → List Value → List (Addr × Obj) → Prop := fun i ys tl => IntsAre ys ((List.range i).map g) ∧ tl = []
theorem JI.io {ns : List Int} {f : Int → Int} {ys : List Value} {tl : List (Addr × Obj)} {o : Obj} (h : JI ns f ns.length ys tl) (p : PO o ys) : IO o (ns.map f) ∧ tl = [] := by
  obtain ⟨a, b⟩ := h
  rw [List.take_length] at a
  exact ⟨p.io a, b⟩
theorem JR.io {g : Nat → Int} {n : Nat} {ys : List Value} {tl : List (Addr × Obj)} {o : Obj} (h : JR g n ys tl) (p : PO o ys) : IO o ((List.range n).map g) ∧ tl = [] := ⟨p.io h.1, h.2⟩
section
variable {prog : Program} {w : World} {A : Around} {E : Value → Shared → Prop} {s : Shared} {env : Env} {H : Heap} {t : Nat}
/-- [elt for x in xs], ints from ints -/
theorem lmapL {elt iter : Expr} {x : Str} {px : Pos} {scope : Scope} {cl : List (Str × Addr)} {pos : Pos} {RR : Value → Addr → Result → Shared → Prop} {l : Addr} {ns : List Int} {f : Int → Int} (hh : A.handled = none) (hl : LAt H l ns) (hz : ns.length ≤ 10000)
    (step : ∀ n u C h tk m₃, n ∈ ns → Fr H C h m₃ → m₃ x = some (.int n u) → ∀ Q' : Value → Shared → Prop, (∀ u' h' tk', Ext h h' → Q' (.int (f n) u') { s with heap := h', toks := tk' }) → wpAny (model prog w) A (eval elt (compEnvC scope cl C env)) Q' (fun _ _ => False) { s with heap := h, toks := tk })
    (hRR : LDone s H ns.length (JI ns f) RR)
    (hcell : ∀ y ∈ scope.names, y.2 ≠ .cell) (hkind : scope.kind = .function)
    (hx : ∀ C, (compEnvC scope cl C env).kindOf x = some .local := by intro _; rfl) (hk : ∀ C, (compEnvC scope cl C env).scope.kind = .function := by intro _; rfl) :
    wpAny (model prog w) A (pyIter (.ref l)) (fun it s₂ => wpAny (model prog w) A (newList []) (fun acc s₃ => wpAny (model prog w) A (newFunctionEnv scope env.globals cl [] env.qual none .none (some env)) (fun cenv s₄ =>
      codeAny (model prog w) A (.compStart (.ListComp elt [⟨.Name x px, iter, [], 0⟩] scope pos) 0 it acc { cenv with scope := relabel scope env }) (RR acc cenv.locals) s₄) E s₃) E s₂) E { s with heap := H, toks := t } := by
  obtain ⟨vs, hlv, hli⟩ := hl
  have hlen := hli.length
  refine lcl (s := s) (vs := vs) hh hlv (by omega) (JI ns f) ⟨.nil, rfl⟩ ?_ (by rw [hlen]; exact hRR) hcell hkind
  rintro j v C I D oI oD ys tm h5 t5 m5 hj hv ⟨hys, rfl⟩ hap F5 N5
  obtain ⟨n, u, rfl, hn⟩ := intsAre_inv hli hv
  refine wpAny_assign_Name (sto (env := compEnvC scope cl C env) F5 N5 (fun h6 t6 F6 N6 => ?_) (hk C) (hx C))
  refine tests_nil ?_
  rw [if_pos rfl]
  refine step n u C h6 t6 _ (List.mem_of_getElem? hn) F6 (by simp) _ fun u' h' tk' k' => ?_
  refine ⟨[], h', tk', _, rfl, F6.keeps k', N6.grown k', (fun p hp => nomatch hp), ?_, rfl⟩
  rw [List.take_add_one, hn, List.map_append]
  exact intsAre_append hys (.cons _ _ .nil)
/-- [elt for x in range(a, b)] -/
theorem lmapR {elt iter : Expr} {x : Str} {px : Pos} {scope : Scope} {cl : List (Str × Addr)} {pos : Pos} {RR : Value → Addr → Result → Shared → Prop} {r : Addr} {a b : Int} {t₁ u₁ v₁ : Tok} {n : Nat} {g : Nat → Int} (hh : A.handled = none)
    (hr : IsRange H r a b 1 t₁ u₁ v₁) (hsmall : Builtin.Range.small a b 1 = true) (hn : Builtin.Range.rangeSize a b 1 = (n : Int)) (hz : n ≤ 10000)
    (step : ∀ (i : Nat) u C h tk m₃, i < n → Fr H C h m₃ → m₃ x = some (.int (a + (i : Int)) u) → ∀ Q' : Value → Shared → Prop, (∀ u' h' tk', Ext h h' → Q' (.int (g i) u') { s with heap := h', toks := tk' }) → wpAny (model prog w) A (eval elt (compEnvC scope cl C env)) Q' (fun _ _ => False) { s with heap := h, toks := tk })
    (hRR : LDone s H n (JR g) RR)
    (hcell : ∀ y ∈ scope.names, y.2 ≠ .cell) (hkind : scope.kind = .function)
    (hx : ∀ C, (compEnvC scope cl C env).kindOf x = some .local := by intro _; rfl) (hk : ∀ C, (compEnvC scope cl C env).scope.kind = .function := by intro _; rfl) :
    wpAny (model prog w) A (pyIter (.ref r)) (fun it s₂ => wpAny (model prog w) A (newList []) (fun acc s₃ => wpAny (model prog w) A (newFunctionEnv scope env.globals cl [] env.qual none .none (some env)) (fun cenv s₄ =>
      codeAny (model prog w) A (.compStart (.ListComp elt [⟨.Name x px, iter, [], 0⟩] scope pos) 0 it acc { cenv with scope := relabel scope env }) (RR acc cenv.locals) s₄) E s₃) E s₂) E { s with heap := H, toks := t } := by
  refine lcr (s := s) hh hr hsmall hn hz (JR g) ⟨.nil, rfl⟩ ?_ hRR hcell hkind
  rintro j v C I D oI oD ys tm h5 t5 m5 hj ⟨u, rfl⟩ ⟨hys, rfl⟩ hap F5 N5
  refine wpAny_assign_Name (sto (env := compEnvC scope cl C env) F5 N5 (fun h6 t6 F6 N6 => ?_) (hk C) (hx C))
  refine tests_nil ?_
  rw [if_pos rfl]
  refine step j u C h6 t6 _ hj F6 (by simp) _ fun u' h' tk' k' => ?_
  refine ⟨[], h', tk', _, rfl, F6.keeps k', N6.grown k', (fun p hp => nomatch hp), ?_, rfl⟩
  rw [List.range_succ, List.map_append]
  exact intsAre_append hys (.cons _ _ .nil)
end
end Mine

namespace Mine
set_option maxRecDepth 100000
def dflts : List Int := [12, 7, 30, 5, 9, 21]
def drawnOf (xs : List Int) : List Int := (xs.take 6).map fun c => c.fmod 1000000
def cellsOf (xs : List Int) : List Int := drawnOf xs ++ dflts.drop (drawnOf xs).length
def lettersOf (n : Int) : List Int := [66 + n.fmod 5, 71 + (n.fdiv 5).fmod 5, 76 + (n.fdiv 25).fmod 5]
def kindsOf (cs : List Int) : List Int := cs.map fun c => c.fmod 3
def betweenOf (ks : List Int) : List Int := (List.range 3).map fun (k : Nat) => ((((ks.drop 1).take 4).count (k : Int) : Nat) : Int)
def rowsK (ks : List Int) : List (List Int) := rowsOf (ks.getD 0 0) (ks.getD 5 0) (betweenOf ks)
def tabR (ls r : List Int) : Tabs := tabsOf ls (r.map (ltr ls))
def keyR (ls r : List Int) : Int := keyOf (tabR ls r) ls
def wholeStep (ls ks : List Int) (a : List (Int × Int)) (r : List Int) : List (Int × Int) := addC (getT (tabR ls r) (ltr ls (ks.getD 0 0))) a
def wholeAt (ls ks : List Int) (rs : List (List Int)) : List (Int × Int) := rs.foldl (wholeStep ls ks) []
def sharesOf (ks : List Int) (n : Int) : List Int := (betweenOf ks).map fun c => (n * c * (((ks.drop 1).count (ks.getD 0 0) : Nat) : Int)).fdiv 4
def powSum (r : List Int) : Int := ((List.range 5).map fun (i : Nat) => (8 : Int) ^ (8 - 3 * r.getD (i + 1) 0 - r.getD i 0).toNat).sum
def countsOf (r : List Int) : List Int := (List.range 3).map fun (k : Nat) => ((r.count (k : Int) : Nat) : Int)
/-- what the law's loop can work with -/
structure RowOk (ls row : List Int) : Prop where
  len : row.length = 6
  kind : ∀ k ∈ row, 0 ≤ k ∧ k < 3
  cnt : ls.map (fun l => sumV (getT (tabR ls row) l)) = countsOf row
  key : keyR ls row = powSum row
def forBody : List Stmt := match (bodyOf (dfn 11)).getD 8 (.Pass default) with
  | .For _ _ b _ _ => b
  | _ => []
theorem hasT_tabR {ls row : List Int} {k : Int} (h : k ∈ ls) : hasT (tabR ls row) k = true := by
  unfold tabR tabsOf
  rw [hasT_fold]; exact hasT_tabs0 h
set_option maxHeartbeats 4000000 in
theorem law_turn {prog : Program} {w : World} {mg mb cds} {A : Around} {s : Shared} {fa : Addr} {cd : Value} {H : Heap} {t : Nat} {m : Str → Option Value} {pre imm : List (Addr × Obj)} {aTd aKy aLs aKs aRow dW : Addr} {oT oR oW oTd oKy oL oK oLs oKs oRow oD : Obj} {vT vR : Option Value} {px : Pos}
    {ls ks row : List Int} {W : List (Int × Int)} {tvs kvs : List Value} {n : Int} {un : Tok}
    (T : Tp mg mb cds s.heap) (r : Room A 9) (F : Fr s.heap s.heap.objs.size H m)
    (N : News s.heap s.heap.objs.size H (pre ++ ([(s.heap.objs.size + 6, oT), (s.heap.objs.size + 5, oR), (s.heap.objs.size + 4, oW), (aTd, oTd), (aKy, oKy)] ++ imm)))
    (hpre : ∀ p ∈ pre, p.1 ∉ [s.heap.objs.size + 6, s.heap.objs.size + 5, s.heap.objs.size + 4, aTd, aKy])
    (himm : ∀ p ∈ imm, p.1 ∉ [s.heap.objs.size + 6, s.heap.objs.size + 5, s.heap.objs.size + 4, aTd, aKy])
    (hTd : s.heap.objs.size + 6 < aTd) (hKy : aTd < aKy)
    (hoT : oT.data = .cell vT) (hoR : oR.data = .cell vR) (hoW : oW.data = .cell (some (.ref dW)))
    (hL : (s.heap.objs.size + 1, oL) ∈ imm) (hoL : oL.data = .cell (some (.ref aLs))) (hK : (s.heap.objs.size + 2, oK) ∈ imm) (hoK : oK.data = .cell (some (.ref aKs)))
    (hLs : (aLs, oLs) ∈ imm) (iLs : IO oLs ls) (hKs : (aKs, oKs) ∈ imm) (iKs : IO oKs ks) (hRow : (aRow, oRow) ∈ imm) (iRow : IO oRow row)
    (hD : (dW, oD) ∈ imm) (hDs : (dW == sysModules) = false) (dD : DObj prog w oD W) (hWz : W.length ≤ 900)
    (pTd : PO oTd tvs) (pKy : PO oKy kvs) (hz : tvs.length ≤ 1000) (hz2 : kvs.length ≤ 1000)
    (m1 : m "told" = some (.ref aTd)) (m2 : m "keys" = some (.ref aKy)) (m3 : m "total" = some (.int n un))
    (hls : ∀ l ∈ ls, 65 < l ∧ l < 81) (hl3 : ls.length = 3) (hnd : ls.Nodup) (hks : ks.length = 6) (hk3 : ∀ k ∈ ks, 0 ≤ k ∧ k < 3) (ok : RowOk ls row) :
    wpAny (model prog w) A (assign (.Name "row" px) (envC "law" 11 s.heap.objs.size fa cd) (.ref aRow)) (fun _ s₃ => wpAny (model prog w) A (execs forBody (envC "law" 11 s.heap.objs.size fa cd)) (fun f s' =>
      f = .next ∧ ∃ h' tk' m' oT' oR' oW' oTd' oKy' vT' vR' dW' oD' dT oTT uk tl, s' = { s with heap := h', toks := tk' } ∧ Fr s.heap s.heap.objs.size h' m' ∧
        News s.heap s.heap.objs.size h' (pre ++ ([(s.heap.objs.size + 6, oT'), (s.heap.objs.size + 5, oR'), (s.heap.objs.size + 4, oW'), (aTd, oTd'), (aKy, oKy')] ++ (tl ++ imm))) ∧
        (∀ p ∈ tl, (∀ q ∈ pre, p.1 ≠ q.1) ∧ p.1 ∉ [s.heap.objs.size + 6, s.heap.objs.size + 5, s.heap.objs.size + 4, aTd, aKy]) ∧ oT'.data = .cell vT' ∧ oR'.data = .cell vR' ∧ oW'.data = .cell (some (.ref dW')) ∧ (dW', oD') ∈ tl ∧ (dW' == sysModules) = false ∧ DObj prog w oD' (wholeStep ls ks W row) ∧
        PO oTd' (tvs ++ [.ref dT]) ∧ (dT, oTT) ∈ tl ∧ (dT == sysModules) = false ∧ TObj prog w (fun a o => (a, o) ∈ tl) oTT (tabR ls row) ∧ PO oKy' (kvs ++ [.int (keyR ls row) uk]) ∧
        m' "told" = some (.ref aTd) ∧ m' "keys" = some (.ref aKy) ∧ m' "total" = some (.int n un) ∧ m' "between" = m "between") (fun _ _ => False) s₃) (fun _ _ => False) { s with heap := H, toks := t } := by
  have offp : ∀ {c : Addr}, c ∈ [s.heap.objs.size + 6, s.heap.objs.size + 5, s.heap.objs.size + 4, aTd, aKy] → ∀ p ∈ pre, p.1 ≠ c := fun hc p hp e => hpre p hp (e ▸ hc)
  have offi : ∀ {c : Addr}, c ∈ [s.heap.objs.size + 6, s.heap.objs.size + 5, s.heap.objs.size + 4, aTd, aKy] → ∀ p ∈ imm, p.1 ≠ c := fun hc p hp e => himm p hp (e ▸ hc)
  have hTd' : @LT.lt Nat _ (s.heap.objs.size + 6) aTd := hTd
  have hKy' : @LT.lt Nat _ aTd aKy := hKy
  generalize hZ : s.heap.objs.size = Z at *
  have q65 : @Ne Addr (Z + 6) (Z + 5) := neA (by omega)
  have q64 : @Ne Addr (Z + 6) (Z + 4) := neA (by omega)
  have q54 : @Ne Addr (Z + 5) (Z + 4) := neA (by omega)
  have q6t : @Ne Addr (Z + 6) aTd := neA (by omega)
  have q5t : @Ne Addr (Z + 5) aTd := neA (by omega)
  have q4t : @Ne Addr (Z + 4) aTd := neA (by omega)
  have q6k : @Ne Addr (Z + 6) aKy := neA (by omega)
  have q5k : @Ne Addr (Z + 5) aKy := neA (by omega)
  have q4k : @Ne Addr (Z + 4) aKy := neA (by omega)
  have qtk : @Ne Addr aTd aKy := neA (by omega)
  refine wpAny_assign_Name (stoC (c := Z + 5) (own := pre ++ [(Z + 6, oT)]) (rest := [(Z + 4, oW), (aTd, oTd), (aKy, oKy)] ++ imm) F (by simpa using N) rfl hoR ?_ ?_ fun h1 oR1 F1 N1 hoR1 => ?_)
  · intro p hp
    rcases List.mem_append.mp hp with hp | hp
    · exact offp (by simp) p hp
    · rw [List.mem_singleton.mp hp]; exact q65
  · intro p hp
    rcases List.mem_append.mp hp with hp | hp
    · simp only [List.mem_cons, List.not_mem_nil, or_false] at hp
      rcases hp with rfl | rfl | rfl
      · exact q54.symm
      · exact q5t.symm
      · exact q5k.symm
    · exact offi (by simp) p hp
  conv in forBody => whnf
  have i1 : ∀ p ∈ imm, h1.get? p.1 = some p.2 := fun p hp => (N1 p (by simp [hp])).1
  have lsr : ∀ k ∈ row, 0 ≤ k ∧ k.toNat < ls.length := fun k hk => by have := ok.kind k hk; omega
  refine wpAny_execs_cons ?_
  refine wpAny_Assign_Name ?_
  refine callDef T F1 T.nword T.fword ?_
  refine args_cons ?_
  refine nmC (c := Z + 5) (o := oR1) rfl (N1 (Z + 5, oR1) (by simp)).1 hoR1 ?_
  refine args_cons ?_
  refine nmC (c := Z + 1) (o := oL) rfl (i1 _ hL) hoL ?_
  refine args_cons ?_
  refine wpAny_BinOp ?_
  refine nmL F1 m3 ?_
  refine wpAny_Constant_int ?_
  refine mod_int (by decide) ?_
  refine args_nil ⟨F1.keep, ?_⟩
  refine word_spec (s := { s with heap := h1, toks := _ }) (T.keeps F1.keep) (r.le (by decide)) (iRow.at (i1 _ hRow)) (iLs.at (i1 _ hLs)) lsr hls (by rw [ok.len]; decide) (by omega) _ _ ?_
  rintro v h2 t2 tl2 k2 hz2' fr2 ⟨wb, uw, rfl, hwb⟩
  have F2 := F1.keeps k2
  have N2 := N1.grown k2
  refine sto F2 N2 fun h3 t3 F3 N3 => ?_
  try dsimp only
  have lget : ∀ {k : Int}, k ∈ row → ls[k.toNat]? = some (ltr ls k) := fun hk => ltr_get (lsr _ hk).1 (lsr _ hk).2
  have lmem : ∀ k ∈ row.map (ltr ls), k ∈ ls := fun k hk => by
    obtain ⟨j, hj, rfl⟩ := List.mem_map.mp hk
    exact List.mem_of_getElem? (lget hj)
  refine wpAny_execs_cons ?_
  refine wpAny_If ?_
  refine wpAny_isTrue_Compare1 ?_
  refine nmL F3 (v := .bytes wb uw) rfl ?_
  refine callTy T F3 (by decide) boot_bytes ?_
  refine args_cons ?_
  refine lcomp (cl := [("letters", Z + 1)]) rfl rfl (by decide) ?_
  refine nmC (c := Z + 5) (o := oR1) rfl (N3 (Z + 5, oR1) (by simp)).1 hoR1 ?_
  have i3 : ∀ p ∈ imm, h3.get? p.1 = some p.2 := fun p hp => (N3 p (by simp [hp])).1
  refine lmapL (s := s) (f := ltr ls) r.hh (iRow.at (i3 _ hRow)) (by rw [ok.len]; decide) ?_ (postN F3 N3 ?_) (by decide) rfl
  · intro n' u C h tk m₃ hn F4 hm4 Q' hQ
    refine Subscript_ ?_
    refine nmC (c := Z + 1) (o := oL) rfl (F4.keep _ _ (i3 _ hL)) hoL ?_
    refine nmL F4 hm4 ?_
    exact itemL (iLs.at (F4.keep _ _ (i3 _ hLs))) (lsr _ hn).1 (by have := (lsr _ hn).2; omega) (lget hn) fun u' => hQ u' h _ (fun b o e => e)
  rintro D4 h4 t4 ys4 o4 tl4 F4 N4 hne4 hne4' hD4 k4 hpo4 hJ4
  obtain ⟨io4, rfl⟩ := hJ4.io hpo4
  refine args_nil ?_
  refine bytesL (io4.at (N4 _ (.head _)).1) (fun n hn => by have := hls n (lmem n hn); omega) (by simp [ok.len]) r.hh fun h5 c5 u5 t5 k5 hc5 => ?_
  have F5 := F4.keeps k5
  have N5 := News.sub (N4.grown k5) (led := pre ++ ([(Z + 6, oT), (Z + 5, oR1), (Z + 4, oW), (aTd, oTd), (aKy, oKy)] ++ imm)) (by intro p hp; simp at hp ⊢; rcases hp with hp | hp | hp | hp | hp | hp | hp <;> simp [hp])
  refine neB (hwb.trans hc5.symm) ?_
  refine wpAny_truthy_bool ?_
  rw [if_neg Bool.false_ne_true]
  refine wpAny_execs_nil ?_
  try dsimp only
  have i5 : ∀ p ∈ imm, h5.get? p.1 = some p.2 := fun p hp => (N5 p (by simp [hp])).1
  refine wpAny_execs_cons ?_
  refine wpAny_Assign_Name ?_
  refine callDef T F5 T.ntab T.ftab ?_
  refine args_cons ?_
  refine nmL F5 (v := .bytes wb uw) rfl ?_
  refine args_cons ?_
  refine nmC (c := Z + 1) (o := oL) rfl (i5 _ hL) hoL ?_
  refine args_nil ⟨F5.keep, ?_⟩
  refine tab_spec (s := { s with heap := h5, toks := _ }) (T.keeps F5.keep) (r.le (by decide)) (iLs.at (i5 _ hLs)) hwb lmem hnd (by simp [ok.len]) (by omega) _ _ ?_
  rintro v h6 t6 tl6 k6 hz6 fr6 ⟨dT, oTT, rfl, smT, hinT, tobT⟩
  have F6 := F5.keeps k6
  have N6 := News.more F5 N5 k6 fr6
  have off6 : ∀ {c o}, (c, o) ∈ pre ++ ([(Z + 6, oT), (Z + 5, oR1), (Z + 4, oW), (aTd, oTd), (aKy, oKy)] ++ imm) → ∀ p ∈ tl6, p.1 ≠ c := fun hc p hp => fr6.ne hp (N5 _ hc).1
  refine stoC (c := Z + 6) (own := pre) (rest := [(Z + 5, oR1), (Z + 4, oW), (aTd, oTd), (aKy, oKy)] ++ (tl6 ++ imm)) F6 (News.sub N6 (by intro p hp; simp at hp ⊢; rcases hp with hp | hp | hp | hp | hp | hp | hp | hp <;> simp [hp])) rfl hoT (offp (by simp)) ?_ fun h7 oT7 F7 N7 hoT7 => ?_
  · intro p hp
    rcases List.mem_append.mp hp with hp | hp
    · simp only [List.mem_cons, List.not_mem_nil, or_false] at hp
      rcases hp with rfl | rfl | rfl | rfl
      · exact q65.symm
      · exact q64.symm
      · exact q6t.symm
      · exact q6k.symm
    · rcases List.mem_append.mp hp with hp | hp
      · exact off6 (c := Z + 6) (o := oT) (by simp) p hp
      · exact offi (by simp) p hp
  try dsimp only
  have led7 : ∀ {p}, p ∈ tl6 ++ imm → h7.get? p.1 = some p.2 := fun {p} hp => (N7 p (by simp at hp ⊢; rcases hp with hp | hp <;> simp [hp])).1
  have tat : ∀ {h}, Ext h7 h → TAt prog w h dT (tabR ls row) := fun {h} kx => by
    obtain ⟨kvT, hkT, hvT⟩ := tobT
    exact ⟨smT, oTT, kx _ _ (led7 (List.mem_append_left _ hinT)), kvT, hkT, hvT.mono fun a o h => kx _ _ (led7 (List.mem_append_left _ h))⟩
  have T7 := T.keeps F7.keep
  -- the counts
  refine wpAny_execs_cons ?_
  refine wpAny_If ?_
  refine wpAny_isTrue_Compare1 ?_
  refine lcomp (cl := [("tables", Z + 6)]) rfl rfl (by decide) ?_
  refine nmC (c := Z + 1) (o := oL) rfl (led7 (List.mem_append_right _ hL)) hoL ?_
  have cT7 := N7 (Z + 6, oT7) (by simp)
  refine lmapL (s := s) (f := fun l => sumV (getT (tabR ls row) l)) r.hh (iLs.at (led7 (List.mem_append_right _ hLs))) (by omega) ?_ (postN F7 N7 ?_) (by decide) rfl
  · intro n' u C h tk m₃ hn F8 hm8 Q' hQ
    refine callDef T7 F8 T.ncc T7.fcc ?_
    refine args_cons ?_
    refine tabItem (c := Z + 6) (o := oT7) F8 rfl (F8.keep _ _ cT7.1) hoT7 (tat F8.keep) (k := n') (u := u) hm8 (hasT_tabR hn) fun e t8 hde => ?_
    refine args_nil ⟨F8.keep, ?_⟩
    refine cc_spec (s := { s with heap := h, toks := t8 }) (T7.keeps F8.keep) (r.le (by decide)) hde _ _ ?_
    rintro v h8 t8' tl8 k8 hz8 fr8 ⟨u8, rfl⟩
    exact hQ u8 h8 _ k8
  rintro D8 h8 t8 ys8 o8 tl8 F8 N8 hne8 hne8' hD8 k8 hpo8 hJ8
  obtain ⟨io8, rfl⟩ := hJ8.io hpo8
  refine lcomp (cl := [("row", Z + 5)]) rfl rfl (by decide) ?_
  refine callTy T F8 (by decide) boot_range ?_
  refine args_cons ?_
  refine wpAny_Constant_int ?_
  refine args_nil ?_
  refine range1_rows F8 N8 fun h9 t9 _ _ _ hr9 F9 N9 k9 => ?_
  have cR9 := N9 (Z + 5, oR1) (by simp)
  have led9 : ∀ {p}, p ∈ tl6 ++ imm → h9.get? p.1 = some p.2 := fun {p} hp => (N9 p (by simp at hp ⊢; rcases hp with hp | hp <;> simp [hp])).1
  refine lmapR (s := s) (n := 3) (g := fun k => ((row.count (k : Int) : Nat) : Int)) r.hh hr9 (by decide +kernel) rfl (by decide) ?_ (postN F9 N9 ?_) (by decide) rfl
  · intro i u C h tk m₃ hi F10 hm10 Q' hQ
    have ir : IAt h aRow row := ⟨oRow, F10.keep _ _ (led9 (List.mem_append_right _ hRow)), iRow⟩
    refine callCount ?_
    refine nmC (c := Z + 5) (o := oR1) rfl (F10.keep _ _ cR9.1) hoR1 ?_
    refine ⟨aRow, row, rfl, ir, ?_⟩
    refine nmL F10 hm10 ?_
    refine ⟨_, u, rfl, ir, fun u' => ?_⟩
    rw [Int.zero_add]
    exact hQ u' h _ fun b o e => e
  rintro D10 h10 t10 ys10 o10 tl10 F10 N10 hne10 hne10' hD10 k10 hpo10 hJ10
  obtain ⟨io10, rfl⟩ := hJ10.io hpo10
  refine neL (io8.at (N10 (D8, o8) (by simp)).1) (io10.at (N10 _ (.head _)).1) (r.le (by decide)) ?_
  refine wpAny_truthy_bool ?_
  rw [show (!decide (ls.map (fun l => sumV (getT (tabR ls row) l)) = (List.range 3).map fun (k : Nat) => ((row.count (k : Int) : Nat) : Int))) = false by rw [ok.cnt]; simp [countsOf]]
  rw [if_neg Bool.false_ne_true]
  refine wpAny_execs_nil ?_
  try dsimp only
  have N11 := News.sub N10 (led := pre ++ ([(Z + 6, oT7), (Z + 5, oR1), (Z + 4, oW), (aTd, oTd), (aKy, oKy)] ++ (tl6 ++ imm))) (by intro p hp; simp at hp ⊢; rcases hp with hp | hp | hp | hp | hp | hp | hp | hp <;> simp [hp])
  have k7x : Ext h7 h10 := fun b o e => k10 b o (k9 b o (k8 b o e))
  have led11 : ∀ {p}, p ∈ tl6 ++ imm → h10.get? p.1 = some p.2 := fun hp => k7x _ _ (led7 hp)
  refine wpAny_execs_cons ?_
  refine wpAny_Assign_Name ?_
  refine callDef T F10 T.nkey T.fkey ?_
  refine args_cons ?_
  refine nmC (c := Z + 6) (o := oT7) rfl (k7x _ _ cT7.1) hoT7 ?_
  refine args_cons ?_
  refine nmC (c := Z + 1) (o := oL) rfl (led11 (List.mem_append_right _ hL)) hoL ?_
  refine args_nil ⟨F10.keep, ?_⟩
  refine key_spec (s := { s with heap := h10, toks := _ }) (T.keeps F10.keep) (r.le (by decide)) (iLs.at (led11 (List.mem_append_right _ hLs))) (tat k7x) (fun k hk => hasT_tabR hk) _ _ ?_
  rintro v h12 t12 tl12 k12 hz12 fr12 ⟨uk, rfl⟩
  have F12 := F10.keeps k12
  have N12 := N11.grown k12
  refine sto F12 N12 fun h13 t13 F13 N13 => ?_
  try dsimp only
  -- the key
  refine wpAny_execs_cons ?_
  refine wpAny_If ?_
  refine wpAny_isTrue_Compare1 ?_
  refine nmL F13 (v := .int (keyOf (tabR ls row) ls) uk) rfl ?_
  refine callBi T F13 (by decide) boot_sum ?_
  refine args_cons ?_
  refine lcomp (cl := [("row", Z + 5)]) rfl rfl (by decide) ?_
  refine callTy T F13 (by decide) boot_range ?_
  refine args_cons ?_
  refine wpAny_Constant_int ?_
  refine args_cons ?_
  refine wpAny_Constant_int ?_
  refine args_nil ?_
  refine range2_rows F13 N13 fun h14 t14 _ _ _ hr14 F14 N14 k14 => ?_
  have cR14 := N14 (Z + 5, oR1) (by simp)
  have led14 : ∀ {p}, p ∈ tl6 ++ imm → h14.get? p.1 = some p.2 := fun {p} hp => (N14 p (by simp at hp ⊢; rcases hp with hp | hp <;> simp [hp])).1
  refine lmapR (s := s) (n := 5) (g := fun i => (8 : Int) ^ (8 - 3 * row.getD (i + 1) 0 - row.getD i 0).toNat) r.hh hr14 (by decide +kernel) rfl (by decide) ?_ (postN F14 N14 ?_) (by decide) rfl
  · intro i u C h tk m₃ hi F15 hm15 Q' hQ
    have lr : LAt h aRow row := iRow.at (F15.keep _ _ (led14 (List.mem_append_right _ hRow)))
    have hlen := ok.len
    have ha : row[i + 1]? = some (row.getD (i + 1) 0) := getD_get (by omega)
    have hb : row[i]? = some (row.getD i 0) := getD_get (by omega)
    have ka := ok.kind _ (List.mem_of_getElem? ha)
    have kb := ok.kind _ (List.mem_of_getElem? hb)
    refine wpAny_BinOp ?_
    refine wpAny_Constant_int ?_
    refine wpAny_BinOp ?_
    refine wpAny_BinOp ?_
    refine wpAny_Constant_int ?_
    refine wpAny_BinOp ?_
    refine wpAny_Constant_int ?_
    refine Subscript_ ?_
    refine nmC (c := Z + 5) (o := oR1) rfl (F15.keep _ _ cR14.1) hoR1 ?_
    refine nmL F15 hm15 ?_
    refine itemL lr (by omega) (by omega) (x := row.getD (i + 1) 0) (by rw [show (1 + (i : Int)).toNat = i + 1 by omega]; exact ha) fun u1 => ?_
    refine mul_int ?_ (smallMul (by decide))
    refine sub_int ?_
    refine Subscript_ ?_
    refine nmC (c := Z + 5) (o := oR1) rfl (F15.keep _ _ cR14.1) hoR1 ?_
    refine wpAny_BinOp ?_
    refine nmL F15 hm15 ?_
    refine wpAny_Constant_int ?_
    refine sub_int ?_
    refine itemL lr (by omega) (by omega) (x := row.getD i 0) (by rw [show (1 + (i : Int) - 1).toNat = i by omega]; exact hb) fun u2 => ?_
    refine sub_int ?_
    refine pow_int_small (by omega) (by omega) (by decide) ?_
    exact hQ _ h _ fun b o e => e
  rintro D15 h15 t15 ys15 o15 tl15 F15 N15 hne15 hne15' hD15 k15 hpo15 hJ15
  obtain ⟨io15, rfl⟩ := hJ15.io hpo15
  refine args_nil ?_
  refine sumL r.hh (io15.at (N15 _ (.head _)).1) fun h16 t16 u16 k16 => ?_
  have F16 := F15.keeps k16
  have N16 := News.sub (N15.grown k16) (led := pre ++ ([(Z + 6, oT7), (Z + 5, oR1), (Z + 4, oW), (aTd, oTd), (aKy, oKy)] ++ (tl6 ++ imm))) (by intro p hp; simp at hp ⊢; rcases hp with hp | hp | hp | hp | hp | hp | hp | hp <;> simp [hp])
  refine PyProof.Rows.ne_int ?_
  refine wpAny_truthy_bool ?_
  rw [show (keyOf (tabR ls row) ls != ((List.range 5).map fun i => (8 : Int) ^ (8 - 3 * row.getD (i + 1) 0 - row.getD i 0).toNat).sum) = false by
    have := ok.key; unfold keyR powSum at this; rw [this]; simp]
  rw [if_neg Bool.false_ne_true]
  refine wpAny_execs_nil ?_
  try dsimp only
  -- told.append(tables)
  have offa : ∀ {c : Addr}, c ∈ [Z + 6, Z + 5, Z + 4, aTd, aKy] → ∀ p ∈ tl6 ++ imm, p.1 ≠ c := fun {c} hc p hp => by
    rcases List.mem_append.mp hp with hp | hp
    · simp only [List.mem_cons, List.not_mem_nil, or_false] at hc
      rcases hc with rfl | rfl | rfl | rfl | rfl
      · exact off6 (o := oT) (by simp) p hp
      · exact off6 (o := oR1) (by simp) p hp
      · exact off6 (o := oW) (by simp) p hp
      · exact off6 (o := oTd) (by simp) p hp
      · exact off6 (o := oKy) (by simp) p hp
    · exact offi hc p hp
  refine wpAny_execs_cons ?_
  refine wpAny_Expr ?_
  refine wpAny_Call_append rfl rfl rfl rfl ?_
  refine nmL F16 (v := .ref aTd) m1 ?_
  obtain ⟨nTd, dTd⟩ := pTd.2.2
  refine ⟨aTd, tvs.toArray, rfl, ⟨oTd, nTd, (N16 (aTd, oTd) (by simp)).1, pTd.1, pTd.2.1, dTd⟩, ?_⟩
  refine nmC (c := Z + 6) (o := oT7) rfl (N16 (Z + 6, oT7) (by simp)).1 hoT7 ?_
  refine appL (own := pre ++ [(Z + 6, oT7), (Z + 5, oR1), (Z + 4, oW)]) (rest := (aKy, oKy) :: (tl6 ++ imm)) F16 (by simpa using N16) ?_ ?_ pTd (by omega) fun h17 oTd7 F17 N17 pTd7 => ?_
  · intro p hp
    rcases List.mem_append.mp hp with hp | hp
    · exact offp (by simp) p hp
    · simp only [List.mem_cons, List.not_mem_nil, or_false] at hp
      rcases hp with rfl | rfl | rfl
      · exact q6t
      · exact q5t
      · exact q4t
  · intro p hp
    rcases List.mem_cons.mp hp with rfl | hp
    · exact qtk.symm
    · exact offa (by simp) p hp
  try dsimp only
  -- keys.append(key)
  refine wpAny_execs_cons ?_
  refine wpAny_Expr ?_
  refine wpAny_Call_append rfl rfl rfl rfl ?_
  refine nmL F17 (v := .ref aKy) m2 ?_
  obtain ⟨nKy, dKy⟩ := pKy.2.2
  refine ⟨aKy, kvs.toArray, rfl, ⟨oKy, nKy, (N17 (aKy, oKy) (by simp)).1, pKy.1, pKy.2.1, dKy⟩, ?_⟩
  refine nmL F17 (v := .int (keyOf (tabR ls row) ls) uk) rfl ?_
  refine appL (own := pre ++ [(Z + 6, oT7), (Z + 5, oR1), (Z + 4, oW), (aTd, oTd7)]) (rest := tl6 ++ imm) F17 (by simpa using N17) ?_ (offa (by simp)) pKy (by omega) fun h18 oKy8 F18 N18 pKy8 => ?_
  · intro p hp
    rcases List.mem_append.mp hp with hp | hp
    · exact offp (by simp) p hp
    · simp only [List.mem_cons, List.not_mem_nil, or_false] at hp
      rcases hp with rfl | rfl | rfl | rfl
      · exact q6k
      · exact q5k
      · exact q4k
      · exact qtk
  try dsimp only
  -- the whole
  have led18 : ∀ {p}, p ∈ tl6 ++ imm → h18.get? p.1 = some p.2 := fun {p} hp => (N18 p (by simp at hp ⊢; rcases hp with hp | hp <;> simp [hp])).1
  have tat18 : TAt prog w h18 dT (tabR ls row) := by
    obtain ⟨kvT, hkT, hvT⟩ := tobT
    exact ⟨smT, oTT, led18 (List.mem_append_left _ hinT), kvT, hkT, hvT.mono fun a o h => led18 (List.mem_append_left _ h)⟩
  have hk0 : ks[(0 : Int).toNat]? = some (ks.getD 0 0) := getD_get (by omega)
  have hk0' := hk3 _ (List.mem_of_getElem? hk0)
  have hl0 : ls[(ks.getD 0 0).toNat]? = some (ltr ls (ks.getD 0 0)) := ltr_get hk0'.1 (by omega)
  refine wpAny_execs_cons ?_
  refine wpAny_Assign_Name ?_
  refine callDef T F18 T.nac T.fac ?_
  refine args_cons ?_
  refine Subscript_ ?_
  refine nmC (c := Z + 6) (o := oT7) rfl (N18 (Z + 6, oT7) (by simp)).1 hoT7 ?_
  refine Subscript_ ?_
  refine nmC (c := Z + 1) (o := oL) rfl (led18 (List.mem_append_right _ hL)) hoL ?_
  refine Subscript_ ?_
  refine nmC (c := Z + 2) (o := oK) rfl (led18 (List.mem_append_right _ hK)) hoK ?_
  refine wpAny_Constant_int ?_
  refine itemL (iKs.at (led18 (List.mem_append_right _ hKs))) (by decide) (by decide) hk0 fun u1 => ?_
  refine itemL (iLs.at (led18 (List.mem_append_right _ hLs))) hk0'.1 (by omega) hl0 fun u2 => ?_
  obtain ⟨kvT, eT, hDT, hvalT, hdeT⟩ := tat18.item (hasT_tabR (List.mem_of_getElem? hl0))
  refine itemD hDT hvalT fun t19 => ?_
  refine args_cons ?_
  refine nmC (c := Z + 4) (o := oW) rfl (N18 (Z + 4, oW) (by simp)).1 hoW ?_
  refine args_nil ⟨F18.keep, ?_⟩
  refine ac_spec (s := { s with heap := h18, toks := _ }) (T.keeps F18.keep) (r.le (by decide)) hdeT ⟨hDs, oD, led18 (List.mem_append_right _ hD), dD⟩ ?_ _ _ ?_
  · have h0 := getT_le (ts := tabR ls row) (n := 6) (fun e he => by
      have := small_fold (row.map (ltr ls)) (tabs0 ls, 65) 0 (fun e he => by simp [tabs0] at he; obtain ⟨_, _, rfl⟩ := he; simp) e he
      rw [List.length_map, ok.len] at this; omega) (ltr ls (ks.getD 0 0))
    omega
  rintro v h20 t20 tl20 k20 hz20 fr20 ⟨dN, oN, rfl, smN, hinN, dN'⟩
  have F20 := F18.keeps k20
  have N20 := News.more F18 N18 k20 fr20
  refine stoC (c := Z + 4) (own := pre ++ [(Z + 6, oT7), (Z + 5, oR1)]) (rest := [(aTd, oTd7), (aKy, oKy8)] ++ ((tl20 ++ tl6) ++ imm)) F20 (News.sub N20 (by intro p hp; simp at hp ⊢; rcases hp with hp | hp | hp | hp | hp | hp | hp | hp | hp <;> simp [hp])) rfl hoW ?_ ?_ fun h21 oW1 F21 N21 hoW1 => ?_
  · intro p hp
    rcases List.mem_append.mp hp with hp | hp
    · exact offp (by simp) p hp
    · simp only [List.mem_cons, List.not_mem_nil, or_false] at hp
      rcases hp with rfl | rfl
      · exact q64
      · exact q54
  · intro p hp
    simp only [List.mem_append, List.mem_cons, List.not_mem_nil, or_false] at hp
    rcases hp with (rfl | rfl) | (hp | hp) | hp
    · exact q4t.symm
    · exact q4k.symm
    · exact fr20.ne hp (N18 (Z + 4, oW) (by simp)).1
    · exact offa (by simp) p (List.mem_append_left _ hp)
    · exact offi (by simp) p hp
  try dsimp only
  refine wpAny_execs_nil ?_
  refine ⟨rfl, h21, _, _, oT7, oR1, oW1, oTd7, oKy8, _, _, dN, oN, dT, oTT, uk, tl20 ++ tl6, rfl, F21, by simpa using N21, ?_, hoT7, hoR1, hoW1, List.mem_append_left _ hinN, smN, dN', pTd7, List.mem_append_right _ hinT, smT, ?_, pKy8, m1, m2, m3, rfl⟩
  · intro p hp
    rcases List.mem_append.mp hp with hp | hp
    · refine ⟨fun q hq => fr20.ne hp (N18 q (by simp [hq])).1, fun hc => ?_⟩
      simp only [List.mem_cons, List.not_mem_nil, or_false] at hc
      rcases hc with e | e | e | e | e
      · exact fr20.ne hp (N18 (Z + 6, oT7) (by simp)).1 e
      · exact fr20.ne hp (N18 (Z + 5, oR1) (by simp)).1 e
      · exact fr20.ne hp (N18 (Z + 4, oW) (by simp)).1 e
      · exact fr20.ne hp (N18 (aTd, oTd7) (by simp)).1 e
      · exact fr20.ne hp (N18 (aKy, oKy8) (by simp)).1 e
    · refine ⟨fun q hq => off6 (o := q.2) (by simp [hq]) p hp, fun hc => offa hc p (List.mem_append_left _ hp) rfl⟩
  · obtain ⟨kvT, hkT, hvT⟩ := tobT
    exact ⟨kvT, hkT, hvT.mono fun a o h => List.mem_append_right _ h⟩
end Mine

namespace Mine
set_option maxRecDepth 100000
section
variable {prog : Program} {w : World} {A : Around} {E : Value → Shared → Prop} {s : Shared} {env : Env} {H : Heap} {t : Nat}
/-- [elt for x in xs], ints from ints, with a ledger -/
theorem lmapLN {elt iter : Expr} {x : Str} {px : Pos} {scope : Scope} {cl : List (Str × Addr)} {pos : Pos} {RR : Value → Addr → Result → Shared → Prop} {l : Addr} {ns : List Int} {f : Int → Int} (hh : A.handled = none) (hl : LAt H l ns) (hz : ns.length ≤ 10000)
    (step : ∀ n u C h tk m₃ led, n ∈ ns → Fr H C h m₃ → News H C h led → m₃ x = some (.int n u) → ∀ Q' : Value → Shared → Prop, (∀ u' h' tk', Fr H C h' m₃ → News H C h' led → Q' (.int (f n) u') { s with heap := h', toks := tk' }) → wpAny (model prog w) A (eval elt (compEnvC scope cl C env)) Q' (fun _ _ => False) { s with heap := h, toks := tk })
    (hRR : LDone s H ns.length (JI ns f) RR)
    (hcell : ∀ y ∈ scope.names, y.2 ≠ .cell) (hkind : scope.kind = .function)
    (hx : ∀ C, (compEnvC scope cl C env).kindOf x = some .local := by intro _; rfl) (hk : ∀ C, (compEnvC scope cl C env).scope.kind = .function := by intro _; rfl) :
    wpAny (model prog w) A (pyIter (.ref l)) (fun it s₂ => wpAny (model prog w) A (newList []) (fun acc s₃ => wpAny (model prog w) A (newFunctionEnv scope env.globals cl [] env.qual none .none (some env)) (fun cenv s₄ =>
      codeAny (model prog w) A (.compStart (.ListComp elt [⟨.Name x px, iter, [], 0⟩] scope pos) 0 it acc { cenv with scope := relabel scope env }) (RR acc cenv.locals) s₄) E s₃) E s₂) E { s with heap := H, toks := t } := by
  obtain ⟨vs, hlv, hli⟩ := hl
  have hlen := hli.length
  refine lcl (s := s) (vs := vs) hh hlv (by omega) (JI ns f) ⟨.nil, rfl⟩ ?_ (by rw [hlen]; exact hRR) hcell hkind
  rintro j v C I D oI oD ys tm h5 t5 m5 hj hv ⟨hys, rfl⟩ hap F5 N5
  obtain ⟨n, u, rfl, hn⟩ := intsAre_inv hli hv
  refine wpAny_assign_Name (sto (env := compEnvC scope cl C env) F5 N5 (fun h6 t6 F6 N6 => ?_) (hk C) (hx C))
  refine tests_nil ?_
  rw [if_pos rfl]
  refine step n u C h6 t6 _ _ (List.mem_of_getElem? hn) F6 N6 (by simp) _ fun u' h' tk' F' N' => ?_
  refine ⟨[], h', tk', _, rfl, F', N', (fun p hp => nomatch hp), ?_, rfl⟩
  rw [List.take_add_one, hn, List.map_append]
  exact intsAre_append hys (.cons _ _ .nil)
/-- [elt for x in range(a, b)], with a ledger -/
theorem lmapRN {elt iter : Expr} {x : Str} {px : Pos} {scope : Scope} {cl : List (Str × Addr)} {pos : Pos} {RR : Value → Addr → Result → Shared → Prop} {r : Addr} {a b : Int} {t₁ u₁ v₁ : Tok} {n : Nat} {g : Nat → Int} (hh : A.handled = none)
    (hr : IsRange H r a b 1 t₁ u₁ v₁) (hsmall : Builtin.Range.small a b 1 = true) (hn : Builtin.Range.rangeSize a b 1 = (n : Int)) (hz : n ≤ 10000)
    (step : ∀ (i : Nat) u C h tk m₃ led, i < n → Fr H C h m₃ → News H C h led → m₃ x = some (.int (a + (i : Int)) u) → ∀ Q' : Value → Shared → Prop, (∀ u' h' tk', Fr H C h' m₃ → News H C h' led → Q' (.int (g i) u') { s with heap := h', toks := tk' }) → wpAny (model prog w) A (eval elt (compEnvC scope cl C env)) Q' (fun _ _ => False) { s with heap := h, toks := tk })
    (hRR : LDone s H n (JR g) RR)
    (hcell : ∀ y ∈ scope.names, y.2 ≠ .cell) (hkind : scope.kind = .function)
    (hx : ∀ C, (compEnvC scope cl C env).kindOf x = some .local := by intro _; rfl) (hk : ∀ C, (compEnvC scope cl C env).scope.kind = .function := by intro _; rfl) :
    wpAny (model prog w) A (pyIter (.ref r)) (fun it s₂ => wpAny (model prog w) A (newList []) (fun acc s₃ => wpAny (model prog w) A (newFunctionEnv scope env.globals cl [] env.qual none .none (some env)) (fun cenv s₄ =>
      codeAny (model prog w) A (.compStart (.ListComp elt [⟨.Name x px, iter, [], 0⟩] scope pos) 0 it acc { cenv with scope := relabel scope env }) (RR acc cenv.locals) s₄) E s₃) E s₂) E { s with heap := H, toks := t } := by
  refine lcr (s := s) hh hr hsmall hn hz (JR g) ⟨.nil, rfl⟩ ?_ hRR hcell hkind
  rintro j v C I D oI oD ys tm h5 t5 m5 hj ⟨u, rfl⟩ ⟨hys, rfl⟩ hap F5 N5
  refine wpAny_assign_Name (sto (env := compEnvC scope cl C env) F5 N5 (fun h6 t6 F6 N6 => ?_) (hk C) (hx C))
  refine tests_nil ?_
  rw [if_pos rfl]
  refine step j u C h6 t6 _ _ hj F6 N6 (by simp) _ fun u' h' tk' F' N' => ?_
  refine ⟨[], h', tk', _, rfl, F', N', (fun p hp => nomatch hp), ?_, rfl⟩
  rw [List.range_succ, List.map_append]
  exact intsAre_append hys (.cons _ _ .nil)
end
theorem cutTake (ns : List Int) (k : Nat) : (ns.drop (kms_lo none ns.length)).take (kms_hi (some (k : Int)) ns.length - kms_lo none ns.length) = ns.take k := by
  simp only [kms_lo, kms_hi]
  rw [if_neg (by omega)]
  rw [List.drop_zero, Nat.sub_zero, Int.toNat_natCast]
  rcases Nat.le_total k ns.length with h | h
  · rw [Nat.min_eq_left h]
  · rw [Nat.min_eq_right h, List.take_of_length_le h, List.take_length]
theorem cutDrop (ns : List Int) (k : Nat) : (ns.drop (kms_lo (some (k : Int)) ns.length)).take (kms_hi none ns.length - kms_lo (some (k : Int)) ns.length) = ns.drop k := by
  simp only [kms_lo, kms_hi]
  rw [if_neg (by omega), Int.toNat_natCast]
  rcases Nat.le_total k ns.length with h | h
  · rw [Nat.min_eq_left h]; apply List.take_of_length_le; simp
  · rw [Nat.min_eq_right h, List.drop_of_length_le h]; simp
theorem cutTake6 (ns : List Int) : (ns.drop (kms_lo none ns.length)).take (kms_hi (some 6) ns.length - kms_lo none ns.length) = ns.take 6 := cutTake ns 6
theorem cutDrop1 (ns : List Int) : (ns.drop (kms_lo (some 1) ns.length)).take (kms_hi none ns.length - kms_lo (some 1) ns.length) = ns.drop 1 := cutDrop ns 1
theorem cutMid (ns : List Int) (hn : ns.length = 6) : (ns.drop (kms_lo (some 1) ns.length)).take (kms_hi (some 5) ns.length - kms_lo (some 1) ns.length) = (ns.drop 1).take 4 := by
  rw [hn]; rfl
/-- what the law can work with -/
structure LawOk (ls ks : List Int) : Prop where
  row : ∀ r ∈ rowsK ks, RowOk ls r
  shr : (65 :: ls).map (getK (wholeAt ls ks (rowsK ks))) = ((rowsK ks).length : Int) :: sharesOf ks (rowsK ks).length
  way : ∀ (i : Nat) r, (rowsK ks)[i]? = some r → (((rowsK ks).map (keyR ls)).take i).any (· == keyR ls r) = false → ((((rowsK ks).map (keyR ls)).count (keyR ls r) : Nat) : Int) = waysOf (tabR ls r) ls
  wok : ∀ r ∈ rowsK ks, WOk (tabR ls r) ls
/-- tables of rows -/
inductive TL (prog : Program) (w : World) (G : Addr → Obj → Prop) : List Value → List Tabs → Prop
  | nil : TL prog w G [] []
  | cons {d : Addr} {o : Obj} {ts vs tss} : G d o → (d == sysModules) = false → TObj prog w G o ts → TL prog w G vs tss → TL prog w G (.ref d :: vs) (ts :: tss)
theorem TObj.mono {prog w} {G G' : Addr → Obj → Prop} {o ts} (h : TObj prog w G o ts) (hg : ∀ a o, G a o → G' a o) : TObj prog w G' o ts := let ⟨k, a, b⟩ := h; ⟨k, a, b.mono hg⟩
theorem TL.mono {prog w} {G G' : Addr → Obj → Prop} {vs tss} (h : TL prog w G vs tss) (hg : ∀ a o, G a o → G' a o) : TL prog w G' vs tss := by
  induction h with
  | nil => exact .nil
  | cons a b c _ ih => exact .cons (hg _ _ a) b (c.mono hg) ih
theorem TL.append {prog w} {G : Addr → Obj → Prop} {vs tss} (h : TL prog w G vs tss) {d : Addr} {o : Obj} {ts} (a : G d o) (b : (d == sysModules) = false) (c : TObj prog w G o ts) : TL prog w G (vs ++ [.ref d]) (tss ++ [ts]) := by
  induction h with
  | nil => exact .cons a b c .nil
  | cons a' b' c' _ ih => exact .cons a' b' c' ih
theorem TL.length {prog w} {G : Addr → Obj → Prop} {vs tss} (h : TL prog w G vs tss) : vs.length = tss.length := by
  induction h with
  | nil => rfl
  | cons _ _ _ _ ih => simp [ih]
theorem TL.get {prog w} {G : Addr → Obj → Prop} {vs tss} (h : TL prog w G vs tss) : ∀ {i : Nat} {ts : Tabs}, tss[i]? = some ts → ∃ d o, vs[i]? = some (.ref d) ∧ G d o ∧ (d == sysModules) = false ∧ TObj prog w G o ts := by
  induction h with
  | nil => intro i ts e; simp at e
  | @cons d o ts' vs tss a b c _ ih =>
    intro i ts q
    cases i with
    | zero => simp at q; subst q; exact ⟨d, o, rfl, a, b, c⟩
    | succ i => simp at q; obtain ⟨d, o, z⟩ := ih q; exact ⟨d, o, by simpa using z⟩
theorem newE {prog : Program} {w : World} {A : Around} {E : Value → Shared → Prop} {s : Shared} {h₀ H : Heap} {t : Nat} {m : Str → Option Value} {news : List (Addr × Obj)} {L : Addr} {Q : Value → Shared → Prop} (F : Fr h₀ L H m) (N : News h₀ L H news)
    (h : ∀ D o h', Fr h₀ L h' m → News h₀ L h' ((D, o) :: news) → (∀ p ∈ news, p.1 < D) → PO o [] → Q (.ref D) { s with heap := h', toks := t }) :
    wpAny (model prog w) A (newList []) Q E { s with heap := H, toks := t } :=
  newList_N (s := { s with heap := H, toks := t }) F N (fun h' F' N' => h _ _ h' F' N' (fun p hp => Heap.lt_size (N p hp).1) (PO.lit [] 0)) (by show 0 ≤ sizeLine; exact Nat.zero_le _)
theorem newT3 {prog : Program} {w : World} {A : Around} {E : Value → Shared → Prop} {s : Shared} {h₀ H : Heap} {t : Nat} {m : Str → Option Value} {news : List (Addr × Obj)} {L : Addr} {Q : Value → Shared → Prop} {a b c : Value} (F : Fr h₀ L H m) (N : News h₀ L H news)
    (h : ∀ D h', Fr h₀ L h' m → News h₀ L h' news → IsTup h' D #[a, b, c] → Q (.ref D) { s with heap := h', toks := t }) :
    wpAny (model prog w) A (newTuple [a, b, c]) Q E { s with heap := H, toks := t } :=
  newTuple_N (s := { s with heap := H, toks := t }) F N (fun h' F' N' => h _ h' F' (fun p hp => N' p (.tail _ hp)) ⟨_, (N' _ (.head _)).1, rfl, _, rfl⟩) (by show 3 ≤ sizeLine; rw [sizeLine_eq]; decide)
theorem whole_le (ls ks : List Int) (rs : List (List Int)) : ∀ a, (∀ r ∈ rs, r.length = 6) → (rs.foldl (wholeStep ls ks) a).length ≤ a.length + 6 * rs.length := by
  induction rs with
  | nil => intro a _; simp
  | cons r rs ih =>
    intro a h
    have h1 := ih (wholeStep ls ks a r) fun r hr => h r (.tail _ hr)
    have h2 : (wholeStep ls ks a r).length ≤ 6 + a.length := by
      unfold wholeStep
      have h3 := addC_length (getT (tabR ls r) (ltr ls (ks.getD 0 0))) a
      have h0 := getT_le (ts := tabR ls r) (n := 6) (fun e he => by
        have := small_fold (r.map (ltr ls)) (tabs0 ls, 65) 0 (fun e he => by simp [tabs0] at he; obtain ⟨_, _, rfl⟩ := he; simp) e he
        rw [List.length_map, h r (.head _)] at this; omega) (ltr ls (ks.getD 0 0))
      omega
    simp only [List.foldl_cons, List.length_cons]
    omega
theorem rowsK_le (ks : List Int) : (rowsK ks).length ≤ 81 := by
  unfold rowsK rowsOf
  rw [List.length_map]
  exact rowsAt_le _ 4
/-- how the law ends -/
def LawEnd (s : Shared) (f : Flow) (s' : Shared) : Prop := f = .ret (.bool true) ∧ ∃ h' tk, s' = { s with heap := h', toks := tk } ∧ Ext s.heap h'
theorem fmodR (a : Int) {b : Int} (hb : 0 < b) : 0 ≤ a.fmod b ∧ a.fmod b < b := by
  rw [Int.fmod_eq_emod_of_nonneg _ (by omega)]
  exact ⟨Int.emod_nonneg _ (by omega), Int.emod_lt_of_pos _ hb⟩
set_option maxHeartbeats 8000000 in
theorem law_body {prog : Program} {w : World} {mg mb cds} {A : Around} {s : Shared} {fa : Addr} {cd : Value} {h₁ : Heap} {t : Nat} {m : Str → Option Value} {asc : Addr} {o1 o2 o3 o4 o5 o6 : Obj} {xs : List Int}
    (T : Tp mg mb cds s.heap) (r : Room A 9) (F : Fr s.heap s.heap.objs.size h₁ m)
    (N : News s.heap s.heap.objs.size h₁ [(s.heap.objs.size + 6, o6), (s.heap.objs.size + 5, o5), (s.heap.objs.size + 4, o4), (s.heap.objs.size + 3, o3), (s.heap.objs.size + 2, o2), (s.heap.objs.size + 1, o1)])
    (e1 : o1.data = .cell none) (e2 : o2.data = .cell none) (e3 : o3.data = .cell none) (e4 : o4.data = .cell none) (e5 : o5.data = .cell none) (e6 : o6.data = .cell none)
    (hsc : LAt s.heap asc xs) (hm : m "script" = some (.ref asc)) (hz : xs.length ≤ 63)
    (ok : LawOk (lettersOf (cellsOf xs).sum) (kindsOf (cellsOf xs))) :
    wpAny (model prog w) A (execs (bodyOf (dfn 11)) (envC "law" 11 s.heap.objs.size fa cd)) (LawEnd s) (fun _ _ => False) { s with heap := h₁, toks := t } := by
  generalize hZ : s.heap.objs.size = Z at *
  conv in bodyOf (dfn 11) => whnf
  refine wpAny_execs_cons ?_
  refine lcompA (cl := []) rfl rfl rfl (by decide) ?_
  refine Subscript_ ?_
  refine nmL F hm ?_
  refine wpAny_Slice ?_
  refine wpAny_evalPart_none ?_
  refine wpAny_evalPart_some ?_
  refine wpAny_Constant_int ?_
  refine wpAny_evalPart_none ?_
  refine sliceL F N (hsc.keeps F.keep) .none (.int 6 _) (by omega) fun D1 oD1 h2 F2 N2 lt2 io2 => ?_
  rw [cutTake6] at io2
  have T2 := T.keeps F2.keep
  refine lmapL (s := s) (f := fun c => c.fmod 1000000) r.hh (io2.at (N2 _ (.head _)).1) (by simp; omega) ?_ (postB (y := "drawn") F2 N2 ?_) (by decide) rfl
  · intro n' u C h tk m₃ hn F8 hm8 Q' hQ
    refine wpAny_BinOp ?_
    refine callTy T2 F8 (by decide) boot_int ?_
    refine args_cons ?_
    refine nmL F8 hm8 ?_
    refine args_nil ?_
    refine call_int_int ?_
    refine wpAny_BinOp ?_
    refine wpAny_Constant_int ?_
    refine wpAny_Constant_int ?_
    refine pow_int_small (by decide) (by decide) (by decide) ?_
    refine mod_int (by decide) ?_
    exact hQ _ h _ fun b o e => e
  rintro Dd h3 t3 ys od tl F3 N3 hne3 hne3' hD3 hpo3 hJ3
  obtain ⟨iod, rfl⟩ := hJ3.io hpo3
  try dsimp only
  have hdl : (drawnOf xs).length ≤ 6 := by simp [drawnOf]; omega
  have iod' : IO od (drawnOf xs) := iod
  refine wpAny_execs_cons ?_
  refine wpAny_Assign_Name ?_
  refine wpAny_BinOp ?_
  refine nmL F3 (v := .ref Dd) rfl ?_
  refine Subscript_ ?_
  refine List_ ?_
  refine args_cons (wpAny_Constant_int (args_cons (wpAny_Constant_int (args_cons (wpAny_Constant_int (args_cons (wpAny_Constant_int (args_cons (wpAny_Constant_int (args_cons (wpAny_Constant_int (args_nil ?_))))))))))))
  refine newL (ns := dflts) F3 N3 (by repeat' constructor) (by decide) fun aF oF h4 F4 N4 lt4 ioF => ?_
  refine wpAny_Slice ?_
  refine wpAny_evalPart_some ?_
  refine callBi T F4 (by decide) boot_len ?_
  refine args_cons ?_
  refine nmL F4 (v := .ref Dd) rfl ?_
  refine args_nil ?_
  have hdlv : ys.length = (drawnOf xs).length := by rw [hJ3.1.length]; simp [drawnOf]
  refine lenL (vs := ys) (hpo3.isList (N4 (Dd, od) (by simp)).1) (by omega) fun t4 u4 => ?_
  refine wpAny_evalPart_none ?_
  refine wpAny_evalPart_none ?_
  refine kba_turn (value' := PySem.Expr.Name (PySem.Str.ofString "_") ⟨0, 0, 0, 0⟩) (fun _ => rfl) ?_
  refine sliceL F4 N4 (ioF.at (N4 _ (.head _)).1) (.int (ys.length : Int) u4) .none (by decide) fun aG oG h5 F5 N5 lt5 ioG => ?_
  rw [cutDrop, hdlv] at ioG
  refine addL F5 N5 (iod'.at (N5 (Dd, od) (by simp)).1) (ioG.at (N5 _ (.head _)).1) (by simp [dflts]; omega) fun aC oC h6 F6 N6 lt6 ioC => ?_
  refine sto F6 N6 fun h7 t7 F7 N7 => ?_
  try dsimp only
  have ioC' : IO oC (cellsOf xs) := ioC
  have hcl : (cellsOf xs).length = 6 := by
    unfold cellsOf dflts; simp; omega
  -- total
  refine wpAny_execs_cons ?_
  refine wpAny_Assign_Name ?_
  refine callBi T F7 (by decide) boot_sum ?_
  refine args_cons ?_
  refine nmL F7 (v := .ref aC) rfl ?_
  refine args_nil ?_
  refine sumL r.hh (ioC'.at (N7 _ (.head _)).1) fun h8 t8 u8 k8 => ?_
  have F8 := F7.keeps k8
  have N8 := N7.grown k8
  refine sto F8 N8 fun h9 t9 F9 N9 => ?_
  try dsimp only
  generalize hn : (cellsOf xs).sum = n at F9 ok
  -- letters
  refine wpAny_execs_cons ?_
  refine wpAny_Assign_Name ?_
  refine List_ ?_
  refine args_cons ?_
  refine wpAny_BinOp ?_
  refine wpAny_Constant_int ?_
  refine wpAny_BinOp ?_
  refine nmL F9 (v := .int n u8) rfl ?_
  refine wpAny_Constant_int ?_
  refine mod_int (by decide) ?_
  refine add_int ?_
  refine args_cons ?_
  refine wpAny_BinOp ?_
  refine wpAny_Constant_int ?_
  refine wpAny_BinOp ?_
  refine wpAny_BinOp ?_
  refine nmL F9 (v := .int n u8) rfl ?_
  refine wpAny_Constant_int ?_
  refine floordiv_int (by decide) ?_ (.inl (PyProof.noPylong_small (by decide)))
  refine wpAny_Constant_int ?_
  refine mod_int (by decide) ?_
  refine add_int ?_
  refine args_cons ?_
  refine wpAny_BinOp ?_
  refine wpAny_Constant_int ?_
  refine wpAny_BinOp ?_
  refine wpAny_BinOp ?_
  refine nmL F9 (v := .int n u8) rfl ?_
  refine wpAny_Constant_int ?_
  refine floordiv_int (by decide) ?_ (.inl (PyProof.noPylong_small (by decide)))
  refine wpAny_Constant_int ?_
  refine mod_int (by decide) ?_
  refine add_int ?_
  refine args_nil ?_
  refine newL (ns := lettersOf n) F9 N9 (by repeat' constructor) (by simp [lettersOf]) fun aLs oLs h10 F10 N10 lt10 ioLs => ?_
  have gLs : @LT.lt Nat _ (Z + 6) aLs := lt10 (Z + 6, o6) (by simp)
  have gC : @LT.lt Nat _ (Z + 6) aC := lt6 (Z + 6, o6) (by simp)
  refine stoC (c := Z + 1) (own := [(aLs, oLs), (aC, oC), (Z + 6, o6), (Z + 5, o5), (Z + 4, o4), (Z + 3, o3), (Z + 2, o2)]) (rest := []) F10 (News.sub N10 (by intro p hp; simp at hp ⊢; rcases hp with hp | hp | hp | hp | hp | hp | hp | hp <;> simp [hp])) rfl e1 (by (simp only [List.forall_mem_cons, List.cons_append, List.nil_append]; (repeat' apply And.intro) <;> first | exact neA (by omega) | (intro p hp; nomatch hp) | trivial)) (fun p hp => nomatch hp) fun h11 oL F11 N11 hoL => ?_
  try dsimp only
  -- kinds
  refine wpAny_execs_cons ?_
  refine wpAny_Assign_Name ?_
  refine lcomp (cl := []) rfl rfl (by decide) ?_
  refine nmL F11 (v := .ref aC) rfl ?_
  refine lmapL (s := s) (f := fun c => c.fmod 3) r.hh (ioC'.at (N11 (aC, oC) (by simp)).1) (by omega) ?_ (postN F11 N11 ?_) (by decide) rfl
  · intro n' u C h tk m₃ hn F8 hm8 Q' hQ
    refine wpAny_BinOp ?_
    refine nmL F8 hm8 ?_
    refine wpAny_Constant_int ?_
    refine mod_int (by decide) ?_
    exact hQ _ h _ fun b o e => e
  rintro aKs h12 t12 ys12 oKs tl12 F12 N12 hne12 hne12' hD12 k12 hpo12 hJ12
  obtain ⟨ioKs, rfl⟩ := hJ12.io hpo12
  have ioKs' : IO oKs (kindsOf (cellsOf xs)) := ioKs
  have gKs : @LT.lt Nat _ (Z + 6) aKs := Nat.lt_of_lt_of_le (ltA (N11 (Z + 6, o6) (by simp)).1) hD12
  refine stoC (c := Z + 2) (own := [(aKs, oKs), (aLs, oLs), (aC, oC), (Z + 6, o6), (Z + 5, o5), (Z + 4, o4), (Z + 3, o3)]) (rest := [(Z + 1, oL)]) F12 (by simpa using N12) rfl e2 (by (simp only [List.forall_mem_cons, List.cons_append, List.nil_append]; (repeat' apply And.intro) <;> first | exact neA (by omega) | (intro p hp; nomatch hp) | trivial)) (by (simp only [List.forall_mem_cons, List.cons_append, List.nil_append]; (repeat' apply And.intro) <;> first | exact neA (by omega) | (intro p hp; nomatch hp) | trivial)) fun h13 oK F13 N13 hoK => ?_
  try dsimp only
  have hkl : (kindsOf (cellsOf xs)).length = 6 := by simp [kindsOf, hcl]
  have hk3 : ∀ k ∈ kindsOf (cellsOf xs), 0 ≤ k ∧ k < 3 := fun k hk => by
    obtain ⟨c, _, rfl⟩ := List.mem_map.mp hk
    exact fmodR c (by decide)
  have hls : ∀ l ∈ lettersOf n, 65 < l ∧ l < 81 := fun l hl => by
    have h1 := fmodR n (b := 5) (by decide)
    have h2 := fmodR (n.fdiv 5) (b := 5) (by decide)
    have h3 := fmodR (n.fdiv 25) (b := 5) (by decide)
    simp only [lettersOf, List.mem_cons, List.not_mem_nil, or_false] at hl
    rcases hl with rfl | rfl | rfl <;> omega
  have hnd : (lettersOf n).Nodup := by
    have h1 := fmodR n (b := 5) (by decide)
    have h2 := fmodR (n.fdiv 5) (b := 5) (by decide)
    have h3 := fmodR (n.fdiv 25) (b := 5) (by decide)
    simp only [lettersOf, List.nodup_cons, List.mem_cons, List.not_mem_nil, or_false, not_or, not_false_eq_true, List.nodup_nil, and_true]
    omega
  generalize hks : kindsOf (cellsOf xs) = ks at *
  generalize hlsn : lettersOf n = ls at *
  have hl3 : ls.length = 3 := by rw [← hlsn]; rfl
  -- between
  refine wpAny_execs_cons ?_
  refine lcompA (cl := [("kinds", Z + 2)]) rfl rfl rfl (by decide) ?_
  refine callTy T F13 (by decide) boot_range ?_
  refine args_cons ?_
  refine wpAny_Constant_int ?_
  refine args_nil ?_
  refine range1_rows F13 N13 fun h14 t14 _ _ _ hr14 F14 N14 k14 => ?_
  have cK14 := (N14 (Z + 2, oK) (by simp)).1
  have aK14 := (N14 (aKs, oKs) (by simp)).1
  refine lmapRN (s := s) (n := 3) (g := fun k => ((((ks.drop 1).take 4).count (k : Int) : Nat) : Int)) r.hh hr14 (by decide +kernel) rfl (by decide) ?_ (postB (y := "between") F14 N14 ?_) (by decide) rfl
  · intro i u C h tk m₃ led hi F15 N15 hm15 Q' hQ
    refine callCount ?_
    refine Subscript_ ?_
    refine nmC (c := Z + 2) (o := oK) rfl (F15.keep _ _ cK14) hoK ?_
    refine wpAny_Slice ?_
    refine wpAny_evalPart_some ?_
    refine wpAny_Constant_int ?_
    refine wpAny_evalPart_some ?_
    refine wpAny_Constant_int ?_
    refine wpAny_evalPart_none ?_
    refine sliceL F15 N15 (ioKs'.at (F15.keep _ _ aK14)) (.int 1 _) (.int 5 _) (by omega) fun aS oS h16 F16 N16 lt16 ioS => ?_
    rw [cutMid ks hkl] at ioS
    have ia : IAt h16 aS ((ks.drop 1).take 4) := ⟨oS, (N16 _ (.head _)).1, ioS⟩
    refine ⟨aS, _, rfl, ia, ?_⟩
    refine nmL F16 hm15 ?_
    refine ⟨_, u, rfl, ia, fun u' => ?_⟩
    rw [Int.zero_add]
    exact hQ u' h16 _ F16 (News.sub N16 fun p hp => .tail _ hp)
  rintro aB h15 t15 ys15 oB tl15 F15 N15 hne15 hne15' hD15 hpo15 hJ15
  obtain ⟨ioB, rfl⟩ := hJ15.io hpo15
  have ioB' : IO oB (betweenOf ks) := ioB
  try dsimp only
  have gB : @LT.lt Nat _ (Z + 6) aB := Nat.lt_of_lt_of_le (ltA (N14 (Z + 6, o6) (by simp)).1) hD15
  have hg0 : ks[(0 : Int).toNat]? = some (ks.getD 0 0) := getD_get (by omega)
  have hg5 : ks[(5 : Int).toNat]? = some (ks.getD 5 0) := getD_get (by show 5 < _; omega)
  -- rows
  refine wpAny_execs_cons ?_
  refine wpAny_Assign_Name ?_
  refine callDef T F15 T.nrows T.frows ?_
  refine args_cons ?_
  refine Subscript_ ?_
  refine nmC (c := Z + 2) (o := oK) rfl (N15 (Z + 2, oK) (by simp)).1 hoK ?_
  refine wpAny_Constant_int ?_
  refine itemL (ioKs'.at (N15 (aKs, oKs) (by simp)).1) (by decide) (by decide) hg0 fun u1 => ?_
  refine args_cons ?_
  refine Subscript_ ?_
  refine nmC (c := Z + 2) (o := oK) rfl (N15 (Z + 2, oK) (by simp)).1 hoK ?_
  refine wpAny_Constant_int ?_
  refine itemL (ioKs'.at (N15 (aKs, oKs) (by simp)).1) (by decide) (by decide) hg5 fun u2 => ?_
  refine args_cons ?_
  refine nmL F15 (v := .ref aB) rfl ?_
  refine args_nil ⟨F15.keep, ?_⟩
  refine rows_spec (s := { s with heap := h15, toks := _ }) (T.keeps F15.keep) (r.le (by decide)) ⟨oB, (N15 (aB, oB) (by simp)).1, ioB'⟩ rfl _ _ ?_
  rintro v h16 t16 tlR k16 hz16 fr16 ⟨aRs, oRs, rvs, rfl, hinR, poR, rlR⟩
  have rlR' : RL (fun a o => (a, o) ∈ tlR) rvs (rowsK ks) := rlR
  have F16 := F15.keeps k16
  have N16 := News.more F15 N15 k16 fr16
  have offR : ∀ {c o}, (c, o) ∈ [(aB, oB)] ++ ([(aKs, oKs), (aLs, oLs), (aC, oC), (Z + 6, o6), (Z + 5, o5), (Z + 4, o4), (Z + 3, o3)] ++ (Z + 2, oK) :: [(Z + 1, oL)]) → ∀ p ∈ tlR, p.1 ≠ c := fun hc p hp => fr16.ne hp (N15 _ hc).1
  refine stoC (c := Z + 3) (own := [(aB, oB), (aKs, oKs), (aLs, oLs), (Z + 6, o6), (Z + 5, o5), (Z + 4, o4)]) (rest := [(Z + 2, oK), (Z + 1, oL)] ++ tlR) F16 (News.sub N16 (by intro p hp; simp at hp ⊢; rcases hp with hp | hp | hp | hp | hp | hp | hp | hp | hp | hp <;> simp [hp])) rfl e3 (by (simp only [List.forall_mem_cons, List.cons_append, List.nil_append]; (repeat' apply And.intro) <;> first | exact neA (by omega) | (intro p hp; nomatch hp) | trivial)) ?_ fun h17 oN F17 N17 hoN => ?_
  · intro p hp
    rcases List.mem_append.mp hp with hp | hp
    · exact (show ∀ p ∈ [(Z + 2, oK), (Z + 1, oL)], p.1 ≠ Z + 3 by (simp only [List.forall_mem_cons, List.cons_append, List.nil_append]; (repeat' apply And.intro) <;> first | exact neA (by omega) | (intro p hp; nomatch hp) | trivial)) p hp
    · exact offR (o := o3) (by simp) p hp
  try dsimp only
  -- whole, told, keys
  refine wpAny_execs_cons ?_
  refine Assign_Tuple ?_
  refine Tuple_ ?_
  refine args_cons ?_
  refine newDict_K F17 N17 T.lim fun dW h18 oD F18 N18 ltD dsm _ _ hd0 _ => ?_
  refine args_cons ?_
  refine List_ ?_
  refine args_nil ?_
  refine newE F18 N18 fun aTd oTd h19 F19 N19 ltTd poTd => ?_
  refine args_cons ?_
  refine List_ ?_
  refine args_nil ?_
  refine newE F19 N19 fun aKy oKy h20 F20 N20 ltKy poKy => ?_
  refine args_nil ?_
  refine newT3 F20 N20 fun aE h21 F21 N21 tupE => ?_
  refine assign_Tuple_tuple r.hh tupE rfl rfl fun h22 hx22 => ?_
  have k22 : Ext h21 h22 := ext_of_extBut hx22
  have gD : @LT.lt Nat _ (Z + 6) dW := ltD (Z + 6, o6) (by simp)
  have gTd : @LT.lt Nat _ (Z + 6) aTd := ltTd (Z + 6, o6) (by simp)
  have gTK : @LT.lt Nat _ aTd aKy := ltKy (aTd, oTd) (by simp)
  have gDT : @LT.lt Nat _ dW aTd := ltTd (dW, oD) (by simp)
  have imn : ∀ p ∈ (dW, oD) :: ([(aB, oB), (aKs, oKs), (aLs, oLs), (Z + 3, oN), (Z + 2, oK), (Z + 1, oL)] ++ tlR), p.1 ∉ [Z + 6, Z + 5, Z + 4, aTd, aKy] := by
    intro p hp hc
    have hpT : @LT.lt Nat _ p.1 aTd := ltTd p (by simp at hp ⊢; rcases hp with hp | hp | hp | hp | hp | hp | hp | hp <;> simp [hp])
    simp only [List.mem_cons, List.not_mem_nil, or_false] at hc
    have hc' : p.1 ∈ [Z + 6, Z + 5, Z + 4] := by
      rcases hc with e | e | e | e | e
      · simp [e]
      · simp [e]
      · simp [e]
      · exact absurd (e ▸ hpT) (Nat.lt_irrefl _)
      · exact absurd (Nat.lt_trans (e ▸ hpT) gTK) (Nat.lt_irrefl _)
    rcases List.mem_cons.mp hp with rfl | hp
    · exact (show ∀ c ∈ [Z + 6, Z + 5, Z + 4], dW ≠ c by (simp only [List.forall_mem_cons, List.cons_append, List.nil_append]; (repeat' apply And.intro) <;> first | exact neA (by omega) | (intro p hp; nomatch hp) | trivial)) _ hc' rfl
    · rcases List.mem_append.mp hp with hp | hp
      · simp only [List.mem_cons, List.not_mem_nil, or_false] at hc'
        rcases hc' with e | e | e
        · exact (show ∀ p ∈ [(aB, oB), (aKs, oKs), (aLs, oLs), (Z + 3, oN), (Z + 2, oK), (Z + 1, oL)], p.1 ≠ Z + 6 by (simp only [List.forall_mem_cons, List.cons_append, List.nil_append]; (repeat' apply And.intro) <;> first | exact neA (by omega) | (intro p hp; nomatch hp) | trivial)) p hp e
        · exact (show ∀ p ∈ [(aB, oB), (aKs, oKs), (aLs, oLs), (Z + 3, oN), (Z + 2, oK), (Z + 1, oL)], p.1 ≠ Z + 5 by (simp only [List.forall_mem_cons, List.cons_append, List.nil_append]; (repeat' apply And.intro) <;> first | exact neA (by omega) | (intro p hp; nomatch hp) | trivial)) p hp e
        · exact (show ∀ p ∈ [(aB, oB), (aKs, oKs), (aLs, oLs), (Z + 3, oN), (Z + 2, oK), (Z + 1, oL)], p.1 ≠ Z + 4 by (simp only [List.forall_mem_cons, List.cons_append, List.nil_append]; (repeat' apply And.intro) <;> first | exact neA (by omega) | (intro p hp; nomatch hp) | trivial)) p hp e
      · simp only [List.mem_cons, List.not_mem_nil, or_false] at hc'
        rcases hc' with e | e | e
        · exact offR (o := o6) (by simp) p hp e
        · exact offR (o := o5) (by simp) p hp e
        · exact offR (o := o4) (by simp) p hp e
  show wpAny _ _ (do holding [.ref aTd, .ref aKy] (assign (.Name "whole" _) (envC "law" 11 Z fa cd) (.ref dW)); do holding [.ref aKy] (assign (.Name "told" _) (envC "law" 11 Z fa cd) (.ref aTd)); do holding [] (assign (.Name "keys" _) (envC "law" 11 Z fa cd) (.ref aKy)); pure ()) _ _ _
  refine wpAny_bind (wpAny_holding (wpAny_assign_Name ?_))
  generalize himm0 : (dW, oD) :: ([(aB, oB), (aKs, oKs), (aLs, oLs), (Z + 3, oN), (Z + 2, oK), (Z + 1, oL)] ++ tlR) = imm0 at imn
  have N22 : News s.heap Z h22 ([(Z + 6, o6), (Z + 5, o5)] ++ (Z + 4, o4) :: ([(aTd, oTd), (aKy, oKy)] ++ imm0)) := by
    refine News.sub (N21.grown k22) ?_
    rw [← himm0]
    intro p hp; simp at hp ⊢
    rcases hp with hp | hp | hp | hp | hp | hp | hp | hp | hp | hp | hp | hp | hp <;> simp [hp]
  refine stoC (c := Z + 4) (own := [(Z + 6, o6), (Z + 5, o5)]) (rest := [(aTd, oTd), (aKy, oKy)] ++ imm0) (F21.keeps k22) N22 rfl e4 (by (simp only [List.forall_mem_cons, List.cons_append, List.nil_append]; (repeat' apply And.intro) <;> first | exact neA (by omega) | (intro p hp; nomatch hp) | trivial)) ?_ fun h23 oW F23 N23 hoW => ?_
  · intro p hp
    rcases List.mem_append.mp hp with hp | hp
    · exact (show ∀ p ∈ [(aTd, oTd), (aKy, oKy)], p.1 ≠ Z + 4 by (simp only [List.forall_mem_cons, List.cons_append, List.nil_append]; (repeat' apply And.intro) <;> first | exact neA (by omega) | (intro p hp; nomatch hp) | trivial)) p hp
    · exact fun e => imn p hp (by simp [e])
  refine wpAny_bind (wpAny_holding (wpAny_assign_Name (sto F23 N23 fun h24 t24 F24 N24 => ?_)))
  refine wpAny_bind (wpAny_holding (wpAny_assign_Name (sto F24 N24 fun h25 t25 F25 N25 => wpAny_pure ?_)))
  try dsimp only
  have j0 : (dW, oD) ∈ imm0 := by rw [← himm0]; simp
  have jB : (aB, oB) ∈ imm0 := by rw [← himm0]; simp
  have jKs : (aKs, oKs) ∈ imm0 := by rw [← himm0]; simp
  have jLs : (aLs, oLs) ∈ imm0 := by rw [← himm0]; simp
  have jN : (Z + 3, oN) ∈ imm0 := by rw [← himm0]; simp
  have jK : (Z + 2, oK) ∈ imm0 := by rw [← himm0]; simp
  have jL : (Z + 1, oL) ∈ imm0 := by rw [← himm0]; simp
  have jR : ∀ p ∈ tlR, p ∈ imm0 := fun p hp => by rw [← himm0]; simp [hp]
  clear himm0
  subst hZ
  have hRle := rowsK_le ks
  have hrvl := rlR'.length
  obtain ⟨okr, oks, okw, okk⟩ := ok
  generalize hRk : rowsK ks = R at *
  refine wpAny_execs_cons ?_
  refine For_turns F25 ?_
  refine nmC (c := s.heap.objs.size + 3) (o := oN) rfl (N25 (s.heap.objs.size + 3, oN) (by simp [jN])).1 hoN ?_
  have jRs := jR _ hinR
  have hLR : aRs ≠ s.heap.objs.size := (N25 (aRs, oRs) (by simp [jRs])).2.1
  refine iter_listV (s := s) (vs := rvs) r.hh (poR.isList (N25 (aRs, oRs) (by simp [jRs])).1) hLR F25 N25
    (fun i m nw => ∃ oT oR oW oTd oKy imm vT vR dW oD tvs kvs, nw = [(s.heap.objs.size + 6, oT), (s.heap.objs.size + 5, oR), (s.heap.objs.size + 4, oW), (aTd, oTd), (aKy, oKy)] ++ imm ∧ (∀ p ∈ imm0, p ∈ imm) ∧ (∀ p ∈ imm, p.1 ∉ [s.heap.objs.size + 6, s.heap.objs.size + 5, s.heap.objs.size + 4, aTd, aKy]) ∧
      oT.data = .cell vT ∧ oR.data = .cell vR ∧ oW.data = .cell (some (.ref dW)) ∧ (dW, oD) ∈ imm ∧ (dW == sysModules) = false ∧ DObj prog w oD (wholeAt ls ks (R.take i)) ∧ PO oTd tvs ∧ TL prog w (fun a o => (a, o) ∈ imm) tvs ((R.take i).map (tabR ls)) ∧ PO oKy kvs ∧ IntsAre kvs ((R.take i).map (keyR ls)) ∧
      m "told" = some (.ref aTd) ∧ m "keys" = some (.ref aKy) ∧ m "total" = some (.int n u8) ∧ m "between" = some (.ref aB))
    ⟨o6, o5, oW, oTd, oKy, imm0, _, _, dW, oD, [], [], by simp, (fun p hp => hp), imn, e6, e5, hoW, j0, dsm, ⟨[], hd0, .nil⟩, poTd, .nil, poKy, .nil, rfl, rfl, rfl, rfl⟩ ?_ ?_
  · rintro i v m₁ nw h26 t26 own I oi hv ⟨oT, oR, oW, oTd, oKy, imm, vT, vR, dW, oD, tvs, kvs, rfl, hsub0, himm, dT, dR, dWc, hinD, smD, obD, pTd, tlT, pKy, iKy, mm1, mm2, mm3, mm4⟩ hoff hIo hsub hIl F26 N26
    obtain ⟨aRow, oRow, row, rfl, hrow, hRin, ioRow⟩ := rlR'.get hv
    have rok := okr row (List.mem_of_getElem? hrow)
    have hilt : i < R.length := (List.getElem?_eq_some_iff.mp hrow).1
    have htl := tlT.length
    have hkl2 := iKy.length
    rw [List.length_map, List.length_take] at htl hkl2
    have hwl := whole_le ls ks (R.take i) [] (fun r hr => (okr r (List.mem_of_mem_take hr)).len)
    rw [List.length_take] at hwl
    refine wpAny_mono (law_turn (s := s) (pre := own) (imm := imm) (aTd := aTd) (aKy := aKy) (vT := vT) (vR := vR) (dW := dW) (oD := oD) (row := row) (ls := ls) (ks := ks) (W := wholeAt ls ks (R.take i)) (tvs := tvs) (kvs := kvs) (n := n) (un := u8) T r F26 N26 ?_ himm gTd gTK dT dR dWc (hsub0 _ jL) hoL (hsub0 _ jK) hoK (hsub0 _ jLs) ioLs (hsub0 _ jKs) ioKs' (hsub0 _ (jR _ hRin)) ioRow hinD smD obD (by show (wholeAt ls ks (R.take i)).length ≤ 900; unfold wholeAt; simp only [List.length_nil] at hwl; omega) pTd pKy (by omega) (by omega) mm1 mm2 mm3 hls hl3 hnd hkl hk3 rok) (fun _ s₃ h₃ => wpAny_mono h₃ (fun f s' h' => ?_) (fun _ _ x => x)) (fun _ _ x => x)
    · intro p hp hc
      rcases hsub p hp with e | e
      · rw [e] at hc
        simp only [List.mem_cons, List.not_mem_nil, or_false] at hc
        rcases hc with q | q | q | q | q
        · exact hoff (s.heap.objs.size + 6, oT) (by simp) q.symm
        · exact hoff (s.heap.objs.size + 5, oR) (by simp) q.symm
        · exact hoff (s.heap.objs.size + 4, oW) (by simp) q.symm
        · exact hoff (aTd, oTd) (by simp) q.symm
        · exact hoff (aKy, oKy) (by simp) q.symm
      · rw [e] at hc; exact himm (aRs, oRs) (hsub0 _ jRs) hc
    · obtain ⟨rfl, h', tk', m', oT', oR', oW', oTd', oKy', vT', vR', dW', oD', dTn, oTT, uk, tl, rfl, F', N', htlo, a1, a2, a3, a4, a5, a6, a7, a8, a9, a10, a11, n1, n2, n3, n4⟩ := h'
      refine ⟨rfl, h', tk', m', _, rfl, F', N', ?_, oT', oR', oW', oTd', oKy', tl ++ imm, vT', vR', dW', oD', _, _, rfl, (fun p hp => List.mem_append_right _ (hsub0 p hp)), ?_, a1, a2, a3, List.mem_append_left _ a4, a5, ?_, a7, ?_, a11, ?_, n1, n2, n3, n4.trans mm4⟩
      · intro p hp
        rcases List.mem_append.mp hp with hp | hp
        · simp only [List.mem_cons, List.not_mem_nil, or_false] at hp
          rcases hp with rfl | rfl | rfl | rfl | rfl
          · exact hoff (s.heap.objs.size + 6, oT) (by simp)
          · exact hoff (s.heap.objs.size + 5, oR) (by simp)
          · exact hoff (s.heap.objs.size + 4, oW) (by simp)
          · exact hoff (aTd, oTd) (by simp)
          · exact hoff (aKy, oKy) (by simp)
        · rcases List.mem_append.mp hp with hp | hp
          · exact (htlo p hp).1 (I, oi) hIo
          · exact hoff p (by simp [hp])
      · intro p hp
        rcases List.mem_append.mp hp with hp | hp
        · exact (htlo p hp).2
        · exact himm p hp
      · have e : wholeAt ls ks (R.take (i + 1)) = wholeStep ls ks (wholeAt ls ks (R.take i)) row := by
          rw [List.take_add_one, hrow]; simp [wholeAt]
        rw [e]; exact a6
      · have e : (R.take (i + 1)).map (tabR ls) = (R.take i).map (tabR ls) ++ [tabR ls row] := by
          rw [List.take_add_one, hrow]; simp
        rw [e]
        exact (tlT.mono fun a o h => List.mem_append_right _ h).append (List.mem_append_left _ a8) a9 (a10.mono fun a o h => List.mem_append_left _ h)
      · have e : (R.take (i + 1)).map (keyR ls) = (R.take i).map (keyR ls) ++ [keyR ls row] := by
          rw [List.take_add_one, hrow]; simp
        rw [e]
        exact intsAre_append iKy (.cons _ _ .nil)
  · rintro h26 t26 m26 nw F26 N26 ⟨oT, oR, oW', oTd', oKy', imm, vT, vR, dW', oD', tvs, kvs, rfl, hsub0, himm, dT, dR, dWc, hinD, smD, obD, pTd, tlT, pKy, iKy, mm1, mm2, mm3, mm4⟩
    rw [hrvl, List.take_length] at obD tlT iKy
    try dsimp only
    have g26 : ∀ {p}, p ∈ imm → h26.get? p.1 = some p.2 := fun {p} hp => (N26 p (by simp [hp])).1
    have T26 := T.keeps F26.keep
    -- shares
    refine wpAny_execs_cons ?_
    refine lcompA (cl := [("rows", s.heap.objs.size + 3), ("kinds", s.heap.objs.size + 2)]) rfl rfl rfl (by decide) ?_
    refine nmL F26 mm4 ?_
    refine lmapLN (s := s) (f := fun c => ((R.length : Int) * c * (((ks.drop 1).count (ks.getD 0 0) : Nat) : Int)).fdiv 4) r.hh (ioB'.at (g26 (hsub0 _ jB))) (by show 3 ≤ 10000; decide) ?_ (postB (y := "shares") F26 N26 ?_) (by decide) rfl
    · intro c u C h tk m₃ led hc F27 N27 hm27 Q' hQ
      refine wpAny_BinOp ?_
      refine wpAny_BinOp ?_
      refine wpAny_BinOp ?_
      refine callBi T26 F27 (by decide) boot_len ?_
      refine args_cons ?_
      refine nmC (c := s.heap.objs.size + 3) (o := oN) rfl (F27.keep _ _ (g26 (hsub0 _ jN))) hoN ?_
      refine args_nil ?_
      refine lenL (vs := rvs) (poR.isList (F27.keep _ _ (g26 (hsub0 _ jRs)))) (by omega) fun t27 u27 => ?_
      refine nmL F27 hm27 ?_
      refine mul_int ?_ (smallMul (by omega))
      refine callCount ?_
      refine Subscript_ ?_
      refine nmC (c := s.heap.objs.size + 2) (o := oK) rfl (F27.keep _ _ (g26 (hsub0 _ jK))) hoK ?_
      refine wpAny_Slice ?_
      refine wpAny_evalPart_some ?_
      refine wpAny_Constant_int ?_
      refine wpAny_evalPart_none ?_
      refine wpAny_evalPart_none ?_
      refine sliceL F27 N27 (ioKs'.at (F27.keep _ _ (g26 (hsub0 _ jKs)))) (.int 1 _) .none (by omega) fun aS oS h28 F28 N28 lt28 ioS => ?_
      rw [cutDrop1] at ioS
      have ia : IAt h28 aS (ks.drop 1) := ⟨oS, (N28 _ (.head _)).1, ioS⟩
      refine ⟨aS, _, rfl, ia, ?_⟩
      refine Subscript_ ?_
      refine nmC (c := s.heap.objs.size + 2) (o := oK) rfl (F28.keep _ _ (g26 (hsub0 _ jK))) hoK ?_
      refine wpAny_Constant_int ?_
      refine itemL (ioKs'.at (F28.keep _ _ (g26 (hsub0 _ jKs)))) (by decide) (by decide) hg0 fun u1 => ?_
      refine ⟨_, u1, rfl, ia, fun u' => ?_⟩
      have hcl : (ks.drop 1).count (ks.getD 0 0) ≤ 6 := Nat.le_trans List.count_le_length (by simp; omega)
      refine mul_int ?_ (smallMulR (by omega))
      refine wpAny_Constant_int ?_
      refine floordiv_int (by decide) ?_ (.inl (PyProof.noPylong_small (by decide)))
      rw [hrvl]
      exact hQ _ h28 _ F28 (News.sub N28 fun p hp => .tail _ hp)
    rintro aSh h27 t27 ys27 oSh tl27 F27 N27 hne27 hne27' hD27 hpo27 hJ27
    obtain ⟨ioSh, rfl⟩ := hJ27.io hpo27
    have ioSh' : IO oSh (sharesOf ks (R.length : Int)) := ioSh
    have hshl : (sharesOf ks (R.length : Int)).length = 3 := rfl
    try dsimp only
    have g27 : ∀ {p}, p ∈ imm → h27.get? p.1 = some p.2 := fun {p} hp => (N27 p (by simp [hp])).1
    -- the whole
    refine wpAny_execs_cons ?_
    refine wpAny_If ?_
    refine wpAny_isTrue_Compare1 ?_
    refine lcomp (cl := [("whole", s.heap.objs.size + 4)]) rfl rfl (by decide) ?_
    refine wpAny_BinOp ?_
    refine List_ ?_
    refine args_cons (wpAny_Constant_int (args_nil ?_))
    refine newL (ns := [65]) F27 N27 (.cons _ _ .nil) (by simp) fun a65 o65 h28 F28 N28 lt28 io65 => ?_
    refine nmC (c := s.heap.objs.size + 1) (o := oL) rfl (N28 (s.heap.objs.size + 1, oL) (by simp [hsub0 _ jL])).1 hoL ?_
    refine addL F28 N28 (io65.at (N28 _ (.head _)).1) (ioLs.at (N28 (aLs, oLs) (by simp [hsub0 _ jLs])).1) (by simp; omega) fun a66 o66 h29 F29 N29 lt29 io66 => ?_
    have cW29 := (N29 (s.heap.objs.size + 4, oW') (by simp)).1
    have dW29 : DAt prog w h29 dW' (wholeAt ls ks R) := ⟨smD, oD', (N29 (dW', oD') (by simp [hinD])).1, obD⟩
    refine lmapL (s := s) (f := getK (wholeAt ls ks R)) r.hh (io66.at (N29 _ (.head _)).1) (by simp; omega) ?_ (postN F29 N29 ?_) (by decide) rfl
    · intro c u C h tk m₃ hc F30 hm30 Q' hQ
      refine callGet ?_
      refine nmC (c := s.heap.objs.size + 4) (o := oW') rfl (F30.keep _ _ cW29) dWc ?_
      refine ⟨dW', _, rfl, dW29.keeps F30.keep, ?_⟩
      refine nmL F30 hm30 ?_
      refine wpAny_Constant_int ?_
      refine ⟨c, u, 0, _, rfl, rfl, dW29.keeps F30.keep, fun t8 => ?_⟩
      rw [getK_if]
      exact hQ _ h _ fun b o e => e
    rintro aX h30 t30 ys30 oX tl30 F30 N30 hne30 hne30' hD30 k30 hpo30 hJ30
    obtain ⟨ioX, rfl⟩ := hJ30.io hpo30
    refine wpAny_BinOp ?_
    refine List_ ?_
    refine args_cons ?_
    refine callBi T F30 (by decide) boot_len ?_
    refine args_cons ?_
    refine nmC (c := s.heap.objs.size + 3) (o := oN) rfl (N30 (s.heap.objs.size + 3, oN) (by simp [hsub0 _ jN])).1 hoN ?_
    refine args_nil ?_
    refine lenL (vs := rvs) (poR.isList (N30 (aRs, oRs) (by simp [hsub0 _ jRs])).1) (by omega) fun t31 u31 => ?_
    refine args_nil ?_
    refine newL (ns := [(rvs.length : Int)]) F30 N30 (.cons _ _ .nil) (by simp) fun aY oY h31 F31 N31 lt31 ioY => ?_
    refine nmL F31 (v := .ref aSh) rfl ?_
    refine addL F31 N31 (ioY.at (N31 _ (.head _)).1) (ioSh'.at (N31 (aSh, oSh) (by simp)).1) (by rw [hshl]; simp) fun aZ oZ h32 F32 N32 lt32 ioZ => ?_
    refine neL (ioX.at (N32 (aX, oX) (by simp)).1) (ioZ.at (N32 _ (.head _)).1) (r.le (by decide)) ?_
    refine wpAny_truthy_bool ?_
    rw [show (!decide (List.map (getK (wholeAt ls ks R)) ([65] ++ ls) = [(rvs.length : Int)] ++ sharesOf ks (R.length : Int))) = false by
      rw [hrvl, Bool.not_eq_false', decide_eq_true_eq]; exact oks]
    rw [if_neg Bool.false_ne_true]
    refine wpAny_execs_nil ?_
    try dsimp only
    have N33 := News.sub N32 (led := [(s.heap.objs.size + 6, oT), (s.heap.objs.size + 5, oR), (s.heap.objs.size + 4, oW'), (aTd, oTd'), (aKy, oKy')] ++ imm) (by intro p hp; simp at hp ⊢; rcases hp with hp | hp | hp | hp | hp | hp <;> simp [hp])
    -- the marks
    refine wpAny_execs_cons ?_
    refine For_turns F32 ?_
    refine callTy T F32 (by decide) boot_enumerate ?_
    refine args_cons ?_
    refine nmL F32 (v := .ref aKy) mm2 ?_
    refine args_nil ?_
    have ioKy : IO oKy' (R.map (keyR ls)) := pKy.io iKy
    refine iter_enum (s := s) (ns := R.map (keyR ls)) r.hh (ioKy.at (N33 (aKy, oKy') (by simp)).1) (N33 (aKy, oKy') (by simp)).2.1 F32 N33
      (fun i m => m "told" = some (.ref aTd) ∧ m "keys" = some (.ref aKy)) ⟨mm1, mm2⟩ ?_ ?_
    · rintro i x Tu u v m₁ h34 t34 own hx hT ⟨q1, q2⟩ F34 N34
      obtain ⟨row, hrow, rfl⟩ : ∃ row, R[i]? = some row ∧ keyR ls row = x := by
        rw [List.getElem?_map] at hx
        cases e : R[i]? with
        | none => rw [e] at hx; simp at hx
        | some row => rw [e] at hx; exact ⟨row, rfl, by simpa using hx⟩
      have hilt : i < R.length := (List.getElem?_eq_some_iff.mp hrow).1
      have hrin := List.mem_of_getElem? hrow
      refine assignPair r.hh hT F34 N34 fun h35 t35 F35 N35 => ?_
      have fin : ∀ tk m₄, m₄ = (fun z => if z = ("mark" : Str) then some (Value.int (keyR ls row) v) else if z = ("spot" : Str) then some (.int (i : Int) u) else m₁ z) → ∀ h', Fr s.heap s.heap.objs.size h' m₄ → News s.heap s.heap.objs.size h' (own ++ ([(s.heap.objs.size + 6, oT), (s.heap.objs.size + 5, oR), (s.heap.objs.size + 4, oW'), (aTd, oTd'), (aKy, oKy')] ++ imm)) →
          (Flow.next = Flow.next ∧ ∃ h'' tk' m', ({ s with heap := h', toks := tk } : Shared) = { s with heap := h'', toks := tk' } ∧ Fr s.heap s.heap.objs.size h'' m' ∧ News s.heap s.heap.objs.size h'' (own ++ ([(s.heap.objs.size + 6, oT), (s.heap.objs.size + 5, oR), (s.heap.objs.size + 4, oW'), (aTd, oTd'), (aKy, oKy')] ++ imm)) ∧ m' "told" = some (.ref aTd) ∧ m' "keys" = some (.ref aKy)) := by
        rintro tk m₄ rfl h' F' N'
        exact ⟨rfl, h', tk, _, rfl, F', N', q1, q2⟩
      refine wpAny_execs_cons ?_
      refine wpAny_If ?_
      refine isTrue_and ?_
      refine wpAny_isTrue_Compare1 ?_
      refine nmL F35 (v := .int (keyR ls row) v) rfl ?_
      refine Subscript_ ?_
      refine nmL F35 (v := .ref aKy) q2 ?_
      refine wpAny_Slice ?_
      refine wpAny_evalPart_none ?_
      refine wpAny_evalPart_some ?_
      refine nmL F35 (v := .int (i : Int) u) rfl ?_
      refine wpAny_evalPart_none ?_
      refine sliceL F35 N35 (ioKy.at (N35 (aKy, oKy') (by simp)).1) .none (.int (i : Int) u) (by simp; omega) fun aS oS h36 F36 N36 lt36 ioS => ?_
      rw [cutTake] at ioS
      refine notInL (ioS.at (N36 _ (.head _)).1) ?_
      refine wpAny_truthy_bool ?_
      cases hany : ((R.map (keyR ls)).take i).any (· == keyR ls row) with
      | true =>
        rw [Bool.not_true, if_neg Bool.false_ne_true, if_neg Bool.false_ne_true]
        refine wpAny_execs_nil ?_
        try dsimp only
        refine wpAny_execs_nil ?_
        exact fin _ _ rfl _ F36 (News.sub N36 fun p hp => .tail _ hp)
      | false =>
        rw [Bool.not_false, if_pos rfl]
        refine isTrue_and ?_
        refine wpAny_isTrue_Compare1 ?_
        have iaK : IAt h36 aKy (R.map (keyR ls)) := ⟨oKy', (N36 (aKy, oKy') (by simp)).1, ioKy⟩
        refine callCount ?_
        refine nmL F36 (v := .ref aKy) q2 ?_
        refine ⟨aKy, _, rfl, iaK, ?_⟩
        refine nmL F36 (v := .int (keyR ls row) v) rfl ?_
        refine ⟨_, v, rfl, iaK, fun u' => ?_⟩
        refine callDef T F36 T.nways T.fways ?_
        refine args_cons ?_
        refine Subscript_ ?_
        refine nmL F36 (v := .ref aTd) q1 ?_
        refine nmL F36 (v := .int (i : Int) u) rfl ?_
        obtain ⟨dT, oTT, hvT, hinT, smT, tobT⟩ := tlT.get (i := i) (ts := tabR ls row) (by rw [List.getElem?_map, hrow]; rfl)
        have g36 : ∀ {p}, p ∈ imm → h36.get? p.1 = some p.2 := fun {p} hp => (N36 p (by simp [hp])).1
        refine item_litK (pTd.isList (N36 (aTd, oTd') (by simp)).1) (by omega) (by omega) (by rw [Int.toNat_natCast]; exact hvT) ?_
        refine args_cons ?_
        refine nmC (c := s.heap.objs.size + 1) (o := oL) rfl (g36 (hsub0 _ jL)) hoL ?_
        refine args_nil ⟨F36.keep, ?_⟩
        refine ways_spec (s := { s with heap := h36, toks := _ }) (T.keeps F36.keep) (r.le (by decide)) (ioLs.at (g36 (hsub0 _ jLs))) ⟨smT, oTT, g36 hinT, tobT.mono fun a o h => g36 h⟩ (okk row hrin) _ _ ?_
        rintro vv h37 t37 tl37 k37 hz37 fr37 ⟨u37, rfl⟩
        refine PyProof.Rows.ne_int ?_
        refine wpAny_truthy_bool ?_
        rw [show ((((R.map (keyR ls)).count (keyR ls row) : Nat) : Int) != waysOf (tabR ls row) ls) = false by rw [okw i row hrow hany]; simp]
        rw [if_neg Bool.false_ne_true, if_neg Bool.false_ne_true]
        refine wpAny_execs_nil ?_
        try dsimp only
        refine wpAny_execs_nil ?_
        exact fin _ _ rfl _ (F36.keeps k37) ((News.sub N36 fun p hp => .tail _ hp).grown k37)
    · rintro h34 t34 m34 F34 N34 _
      try dsimp only
      refine wpAny_execs_cons ?_
      refine wpAny_Return_some ?_
      refine wpAny_Constant_bool ?_
      exact ⟨rfl, h34, _, rfl, F34.keep⟩
end Mine

namespace Mine
set_option maxRecDepth 100000
noncomputable def obAt (P : Params) (a : Addr) : Obj := ((hd.heap_39 P).lookup a).getD default
def fdOf (o : Obj) : FuncData := match o.data with
  | .func fd => fd
  | _ => default
noncomputable def cdsOf (P : Params) : Nat → Value
  | 1 => (fdOf (obAt P 21)).code
  | 2 => (fdOf (obAt P 28)).code
  | 4 => (fdOf (obAt P 35)).code
  | 6 => (fdOf (obAt P 40)).code
  | 7 => (fdOf (obAt P 47)).code
  | 8 => (fdOf (obAt P 52)).code
  | 9 => (fdOf (obAt P 59)).code
  | 10 => (fdOf (obAt P 64)).code
  | _ => .none
theorem fn_of {P : Params} {h : Heap} (KX : (hd.heap_39 P).In h) (f : Addr) (i : Nat) (q : Str) (e1 : (hd.heap_39 P).lookup f = some (obAt P f))
    (e2 : (obAt P f).data = .func (fnX (fdOf (obAt P f)).name q (paramsOf (dfn i)) (bodyOf (dfn i)) (scopeOf (dfn i)) [] .none .none (fdOf (obAt P f)).doc (fdOf (obAt P f)).pyModule (fdOf (obAt P f)).annotations (cdsOf P i) (fdOf (obAt P f)).closureTuple))
    (e3 : codeIn (hd.heap_39 P) (cdsOf P i) q = true) : FnAt h f i q (cdsOf P i) :=
  ⟨_, _, _, _, _, _, KX _ _ e1, e2, codeRec_of KX e3⟩
theorem tp_of {P : Params} {h : Heap} {mg mb : Str → Option Value} (KX : (hd.heap_39 P).In h) (G : h.Ns mainGlobals mg) (B : h.Ns builtinsNs mb) (lim : h.NoLimit) (bi : ∀ x : Str, x ≠ "__name__" → mb x = bootBuiltins x) : Tp mg mb (cdsOf P) h where
  g := G
  b := B
  lim := lim
  bi := bi
  nac := mg_of KX G (by kernel_rfl)
  ncc := mg_of KX G (by kernel_rfl)
  nap := mg_of KX G (by kernel_rfl)
  nrows := mg_of KX G (by kernel_rfl)
  nword := mg_of KX G (by kernel_rfl)
  ntab := mg_of KX G (by kernel_rfl)
  nkey := mg_of KX G (by kernel_rfl)
  nways := mg_of KX G (by kernel_rfl)
  non := fun x hx => by
    simp only [List.mem_cons, List.not_mem_nil, or_false] at hx
    rcases hx with rfl | rfl | rfl | rfl | rfl | rfl | rfl | rfl | rfl | rfl | rfl <;> exact mg_none_of KX G (by kernel_rfl)
  fac := fn_of KX 21 1 _ (by kernel_rfl) (by kernel_rfl) (by kernel_rfl)
  fcc := fn_of KX 28 2 _ (by kernel_rfl) (by kernel_rfl) (by kernel_rfl)
  fap := fn_of KX 35 4 _ (by kernel_rfl) (by kernel_rfl) (by kernel_rfl)
  frows := fn_of KX 40 6 _ (by kernel_rfl) (by kernel_rfl) (by kernel_rfl)
  fword := fn_of KX 47 7 _ (by kernel_rfl) (by kernel_rfl) (by kernel_rfl)
  ftab := fn_of KX 52 8 _ (by kernel_rfl) (by kernel_rfl) (by kernel_rfl)
  fkey := fn_of KX 59 9 _ (by kernel_rfl) (by kernel_rfl) (by kernel_rfl)
  fways := fn_of KX 64 10 _ (by kernel_rfl) (by kernel_rfl) (by kernel_rfl)
end Mine

theorem Mine.room_law (env : Env) : Mine.Room (callerA.deeper env) 9 := ⟨rfl, by show 1 + claimMargin + 1 + 9 < recursionLimit; decide, by show 4 + 3 + 10 * 9 < cLine; decide⟩
set_option maxRecDepth 100000 in
set_option maxHeartbeats 8000000 in
theorem Mine.joined (ok : ∀ xs : List Int, Mine.LawOk (Mine.lettersOf (Mine.cellsOf xs).sum) (Mine.kindsOf (Mine.cellsOf xs))) : PySem.Challenge.rw_pg0023_01.Holds := Mine.hd (by
  (k_go0; (all_goals try k_fold))
  rename_i w s₀ s₁ mg mb G Y fa o pm doc ho hg KX X V GL T B TE TW wA wO M w13 w12 hcd xs hs hlay0 hL1 hr1 hl2 w10 w9 asc vsc w6 hL ra w1 r0 hI hr hc1 hc2 K0 hD h₁ tk₁ F o6 o5 o4 o3 o2 o1 d6 d5 d4 d3 d2 d1 N0 X0
  have TP := Mine.tp_of KX T.g T.b T.nolimit T.builtins
  refine wpAny_mono (Mine.law_body (xs := xs) (asc := asc) (fa := fa) TP ?_ F N0 d1 d2 d3 d4 d5 d6 ⟨vsc, hL, hI⟩ rfl (by omega) (ok xs)) (fun f s' h => ?_) (fun _ _ x => x.elim)
  · exact Mine.room_law _
  · obtain ⟨rfl, h', tk, rfl, he⟩ := h
    show GoodW _ _ _ _ _ _ _
    refine ⟨.inl ⟨.bool true, .bool true, [], rfl, ?_, ?_, ?_, ?_⟩, he, rfl, hg⟩
    · exact raisesW_false (by wrow_none_raised)
    · exact .bool true
    · wrow_post
    · exact unshared_nil)

namespace Mine
set_option maxRecDepth 100000
def ls0 : List Int := [0, 1, 2]
def rowChk (r : List Int) : Bool :=
  (r.length == 6) && r.all (fun k => decide (0 ≤ k) && decide (k < 3)) && (ls0.map (fun l => sumV (getT (tabR ls0 r) l)) == countsOf r) && (keyR ls0 r == powSum r)
  && ls0.all (fun k => decide (0 ≤ (givenOf (tabR ls0 r) ls0 k).sum) && decide ((givenOf (tabR ls0 r) ls0 k).sum < 7) && (givenOf (tabR ls0 r) ls0 k).all (fun c => decide (0 ≤ c) && decide (c < 7)))
  && (othersOf (tabR ls0 r) ls0).all (fun k => decide (1 ≤ (givenOf (tabR ls0 r) ls0 k).sum))
  && decide (-1000000000000 < trees2 (tabR ls0 r) ls0) && decide (trees2 (tabR ls0 r) ls0 < 1000000000000)
  && decide (alikeOf (tabR ls0 r) ls0 ls0 ≠ 0) && decide ((alikeOf (tabR ls0 r) ls0 ls0).natAbs < 1073741824)
def wayChk (R : List (List Int)) (keys : List Int) : Bool :=
  (List.range R.length).all fun i => ((keys.take i).any (· == keyR ls0 (R.getD i []))) || ((keys.count (keyR ls0 (R.getD i [])) : Nat) : Int) == waysOf (tabR ls0 (R.getD i [])) ls0
def sharesA (bt : List Int) (cnt n : Int) : List Int := bt.map fun c => (n * c * cnt).fdiv 4
def lawChk (a b : Int) (bt : List Int) : Bool :=
  (rowsOf a b bt).all rowChk && ((65 :: ls0).map (getK (wholeAt ls0 [a] (rowsOf a b bt))) == ((rowsOf a b bt).length : Int) :: sharesA bt (bt.getD a.toNat 0 + if b = a then 1 else 0) (rowsOf a b bt).length) && wayChk (rowsOf a b bt) ((rowsOf a b bt).map (keyR ls0))
def bts : List (List Int) := [[4, 0, 0], [0, 4, 0], [0, 0, 4], [3, 1, 0], [3, 0, 1], [1, 3, 0], [0, 3, 1], [1, 0, 3], [0, 1, 3], [2, 2, 0], [2, 0, 2], [0, 2, 2], [2, 1, 1], [1, 2, 1], [1, 1, 2]]
def factChk (ks : List Int) : Bool :=
  bts.any (· == betweenOf ks) && (((ks.drop 1).count (ks.getD 0 0) : Nat) : Int) == (betweenOf ks).getD (ks.getD 0 0).toNat 0 + (if ks.getD 5 0 = ks.getD 0 0 then 1 else 0)
def allOf : Nat → List (List Int)
  | 0 => [[]]
  | n + 1 => (allOf n).flatMap fun r => [0 :: r, 1 :: r, 2 :: r]
theorem mem_allOf : ∀ {n : Nat} {ks : List Int}, ks.length = n → (∀ k ∈ ks, 0 ≤ k ∧ k < 3) → ks ∈ allOf n
  | 0, [], _, _ => by simp [allOf]
  | n + 1, k :: ks, h, hk => by
    have h1 : ks ∈ allOf n := mem_allOf (by simpa using h) fun k hk' => hk k (.tail _ hk')
    have h2 := hk k (.head _)
    unfold allOf
    refine List.mem_flatMap.mpr ⟨ks, h1, ?_⟩
    have : k = 0 ∨ k = 1 ∨ k = 2 := by omega
    rcases this with rfl | rfl | rfl <;> simp
theorem chk_00_00 : lawChk 0 0 [4, 0, 0] = true := by decide +kernel
theorem chk_00_01 : lawChk 0 0 [0, 4, 0] = true := by decide +kernel
theorem chk_00_02 : lawChk 0 0 [0, 0, 4] = true := by decide +kernel
theorem chk_00_03 : lawChk 0 0 [3, 1, 0] = true := by decide +kernel
theorem chk_00_04 : lawChk 0 0 [3, 0, 1] = true := by decide +kernel
theorem chk_00_05 : lawChk 0 0 [1, 3, 0] = true := by decide +kernel
theorem chk_00_06 : lawChk 0 0 [0, 3, 1] = true := by decide +kernel
theorem chk_00_07 : lawChk 0 0 [1, 0, 3] = true := by decide +kernel
theorem chk_00_08 : lawChk 0 0 [0, 1, 3] = true := by decide +kernel
theorem chk_00_09 : lawChk 0 0 [2, 2, 0] = true := by decide +kernel
theorem chk_00_10 : lawChk 0 0 [2, 0, 2] = true := by decide +kernel
theorem chk_00_11 : lawChk 0 0 [0, 2, 2] = true := by decide +kernel
theorem chk_00_12 : lawChk 0 0 [2, 1, 1] = true := by decide +kernel
theorem chk_00_13 : lawChk 0 0 [1, 2, 1] = true := by decide +kernel
theorem chk_00_14 : lawChk 0 0 [1, 1, 2] = true := by decide +kernel
theorem chk_00 : bts.all (lawChk 0 0) = true := by
  simp only [bts, List.all_cons, List.all_nil, Bool.and_true, chk_00_00, chk_00_01, chk_00_02, chk_00_03, chk_00_04, chk_00_05, chk_00_06, chk_00_07, chk_00_08, chk_00_09, chk_00_10, chk_00_11, chk_00_12, chk_00_13, chk_00_14]
theorem chk_01_00 : lawChk 0 1 [4, 0, 0] = true := by decide +kernel
theorem chk_01_01 : lawChk 0 1 [0, 4, 0] = true := by decide +kernel
theorem chk_01_02 : lawChk 0 1 [0, 0, 4] = true := by decide +kernel
theorem chk_01_03 : lawChk 0 1 [3, 1, 0] = true := by decide +kernel
theorem chk_01_04 : lawChk 0 1 [3, 0, 1] = true := by decide +kernel
theorem chk_01_05 : lawChk 0 1 [1, 3, 0] = true := by decide +kernel
theorem chk_01_06 : lawChk 0 1 [0, 3, 1] = true := by decide +kernel
theorem chk_01_07 : lawChk 0 1 [1, 0, 3] = true := by decide +kernel
theorem chk_01_08 : lawChk 0 1 [0, 1, 3] = true := by decide +kernel
theorem chk_01_09 : lawChk 0 1 [2, 2, 0] = true := by decide +kernel
theorem chk_01_10 : lawChk 0 1 [2, 0, 2] = true := by decide +kernel
theorem chk_01_11 : lawChk 0 1 [0, 2, 2] = true := by decide +kernel
theorem chk_01_12 : lawChk 0 1 [2, 1, 1] = true := by decide +kernel
theorem chk_01_13 : lawChk 0 1 [1, 2, 1] = true := by decide +kernel
theorem chk_01_14 : lawChk 0 1 [1, 1, 2] = true := by decide +kernel
theorem chk_01 : bts.all (lawChk 0 1) = true := by
  simp only [bts, List.all_cons, List.all_nil, Bool.and_true, chk_01_00, chk_01_01, chk_01_02, chk_01_03, chk_01_04, chk_01_05, chk_01_06, chk_01_07, chk_01_08, chk_01_09, chk_01_10, chk_01_11, chk_01_12, chk_01_13, chk_01_14]
theorem chk_02_00 : lawChk 0 2 [4, 0, 0] = true := by decide +kernel
theorem chk_02_01 : lawChk 0 2 [0, 4, 0] = true := by decide +kernel
theorem chk_02_02 : lawChk 0 2 [0, 0, 4] = true := by decide +kernel
theorem chk_02_03 : lawChk 0 2 [3, 1, 0] = true := by decide +kernel
theorem chk_02_04 : lawChk 0 2 [3, 0, 1] = true := by decide +kernel
theorem chk_02_05 : lawChk 0 2 [1, 3, 0] = true := by decide +kernel
theorem chk_02_06 : lawChk 0 2 [0, 3, 1] = true := by decide +kernel
theorem chk_02_07 : lawChk 0 2 [1, 0, 3] = true := by decide +kernel
theorem chk_02_08 : lawChk 0 2 [0, 1, 3] = true := by decide +kernel
theorem chk_02_09 : lawChk 0 2 [2, 2, 0] = true := by decide +kernel
theorem chk_02_10 : lawChk 0 2 [2, 0, 2] = true := by decide +kernel
theorem chk_02_11 : lawChk 0 2 [0, 2, 2] = true := by decide +kernel
theorem chk_02_12 : lawChk 0 2 [2, 1, 1] = true := by decide +kernel
theorem chk_02_13 : lawChk 0 2 [1, 2, 1] = true := by decide +kernel
theorem chk_02_14 : lawChk 0 2 [1, 1, 2] = true := by decide +kernel
theorem chk_02 : bts.all (lawChk 0 2) = true := by
  simp only [bts, List.all_cons, List.all_nil, Bool.and_true, chk_02_00, chk_02_01, chk_02_02, chk_02_03, chk_02_04, chk_02_05, chk_02_06, chk_02_07, chk_02_08, chk_02_09, chk_02_10, chk_02_11, chk_02_12, chk_02_13, chk_02_14]
theorem chk_10_00 : lawChk 1 0 [4, 0, 0] = true := by decide +kernel
theorem chk_10_01 : lawChk 1 0 [0, 4, 0] = true := by decide +kernel
theorem chk_10_02 : lawChk 1 0 [0, 0, 4] = true := by decide +kernel
theorem chk_10_03 : lawChk 1 0 [3, 1, 0] = true := by decide +kernel
theorem chk_10_04 : lawChk 1 0 [3, 0, 1] = true := by decide +kernel
theorem chk_10_05 : lawChk 1 0 [1, 3, 0] = true := by decide +kernel
theorem chk_10_06 : lawChk 1 0 [0, 3, 1] = true := by decide +kernel
theorem chk_10_07 : lawChk 1 0 [1, 0, 3] = true := by decide +kernel
theorem chk_10_08 : lawChk 1 0 [0, 1, 3] = true := by decide +kernel
theorem chk_10_09 : lawChk 1 0 [2, 2, 0] = true := by decide +kernel
theorem chk_10_10 : lawChk 1 0 [2, 0, 2] = true := by decide +kernel
theorem chk_10_11 : lawChk 1 0 [0, 2, 2] = true := by decide +kernel
theorem chk_10_12 : lawChk 1 0 [2, 1, 1] = true := by decide +kernel
theorem chk_10_13 : lawChk 1 0 [1, 2, 1] = true := by decide +kernel
theorem chk_10_14 : lawChk 1 0 [1, 1, 2] = true := by decide +kernel
theorem chk_10 : bts.all (lawChk 1 0) = true := by
  simp only [bts, List.all_cons, List.all_nil, Bool.and_true, chk_10_00, chk_10_01, chk_10_02, chk_10_03, chk_10_04, chk_10_05, chk_10_06, chk_10_07, chk_10_08, chk_10_09, chk_10_10, chk_10_11, chk_10_12, chk_10_13, chk_10_14]
theorem chk_11_00 : lawChk 1 1 [4, 0, 0] = true := by decide +kernel
theorem chk_11_01 : lawChk 1 1 [0, 4, 0] = true := by decide +kernel
theorem chk_11_02 : lawChk 1 1 [0, 0, 4] = true := by decide +kernel
theorem chk_11_03 : lawChk 1 1 [3, 1, 0] = true := by decide +kernel
theorem chk_11_04 : lawChk 1 1 [3, 0, 1] = true := by decide +kernel
theorem chk_11_05 : lawChk 1 1 [1, 3, 0] = true := by decide +kernel
theorem chk_11_06 : lawChk 1 1 [0, 3, 1] = true := by decide +kernel
theorem chk_11_07 : lawChk 1 1 [1, 0, 3] = true := by decide +kernel
theorem chk_11_08 : lawChk 1 1 [0, 1, 3] = true := by decide +kernel
theorem chk_11_09 : lawChk 1 1 [2, 2, 0] = true := by decide +kernel
theorem chk_11_10 : lawChk 1 1 [2, 0, 2] = true := by decide +kernel
theorem chk_11_11 : lawChk 1 1 [0, 2, 2] = true := by decide +kernel
theorem chk_11_12 : lawChk 1 1 [2, 1, 1] = true := by decide +kernel
theorem chk_11_13 : lawChk 1 1 [1, 2, 1] = true := by decide +kernel
theorem chk_11_14 : lawChk 1 1 [1, 1, 2] = true := by decide +kernel
theorem chk_11 : bts.all (lawChk 1 1) = true := by
  simp only [bts, List.all_cons, List.all_nil, Bool.and_true, chk_11_00, chk_11_01, chk_11_02, chk_11_03, chk_11_04, chk_11_05, chk_11_06, chk_11_07, chk_11_08, chk_11_09, chk_11_10, chk_11_11, chk_11_12, chk_11_13, chk_11_14]
theorem chk_12_00 : lawChk 1 2 [4, 0, 0] = true := by decide +kernel
theorem chk_12_01 : lawChk 1 2 [0, 4, 0] = true := by decide +kernel
theorem chk_12_02 : lawChk 1 2 [0, 0, 4] = true := by decide +kernel
theorem chk_12_03 : lawChk 1 2 [3, 1, 0] = true := by decide +kernel
theorem chk_12_04 : lawChk 1 2 [3, 0, 1] = true := by decide +kernel
theorem chk_12_05 : lawChk 1 2 [1, 3, 0] = true := by decide +kernel
theorem chk_12_06 : lawChk 1 2 [0, 3, 1] = true := by decide +kernel
theorem chk_12_07 : lawChk 1 2 [1, 0, 3] = true := by decide +kernel
theorem chk_12_08 : lawChk 1 2 [0, 1, 3] = true := by decide +kernel
theorem chk_12_09 : lawChk 1 2 [2, 2, 0] = true := by decide +kernel
theorem chk_12_10 : lawChk 1 2 [2, 0, 2] = true := by decide +kernel
theorem chk_12_11 : lawChk 1 2 [0, 2, 2] = true := by decide +kernel
theorem chk_12_12 : lawChk 1 2 [2, 1, 1] = true := by decide +kernel
theorem chk_12_13 : lawChk 1 2 [1, 2, 1] = true := by decide +kernel
theorem chk_12_14 : lawChk 1 2 [1, 1, 2] = true := by decide +kernel
theorem chk_12 : bts.all (lawChk 1 2) = true := by
  simp only [bts, List.all_cons, List.all_nil, Bool.and_true, chk_12_00, chk_12_01, chk_12_02, chk_12_03, chk_12_04, chk_12_05, chk_12_06, chk_12_07, chk_12_08, chk_12_09, chk_12_10, chk_12_11, chk_12_12, chk_12_13, chk_12_14]
theorem chk_20_00 : lawChk 2 0 [4, 0, 0] = true := by decide +kernel
theorem chk_20_01 : lawChk 2 0 [0, 4, 0] = true := by decide +kernel
theorem chk_20_02 : lawChk 2 0 [0, 0, 4] = true := by decide +kernel
theorem chk_20_03 : lawChk 2 0 [3, 1, 0] = true := by decide +kernel
theorem chk_20_04 : lawChk 2 0 [3, 0, 1] = true := by decide +kernel
theorem chk_20_05 : lawChk 2 0 [1, 3, 0] = true := by decide +kernel
theorem chk_20_06 : lawChk 2 0 [0, 3, 1] = true := by decide +kernel
theorem chk_20_07 : lawChk 2 0 [1, 0, 3] = true := by decide +kernel
theorem chk_20_08 : lawChk 2 0 [0, 1, 3] = true := by decide +kernel
theorem chk_20_09 : lawChk 2 0 [2, 2, 0] = true := by decide +kernel
theorem chk_20_10 : lawChk 2 0 [2, 0, 2] = true := by decide +kernel
theorem chk_20_11 : lawChk 2 0 [0, 2, 2] = true := by decide +kernel
theorem chk_20_12 : lawChk 2 0 [2, 1, 1] = true := by decide +kernel
theorem chk_20_13 : lawChk 2 0 [1, 2, 1] = true := by decide +kernel
theorem chk_20_14 : lawChk 2 0 [1, 1, 2] = true := by decide +kernel
theorem chk_20 : bts.all (lawChk 2 0) = true := by
  simp only [bts, List.all_cons, List.all_nil, Bool.and_true, chk_20_00, chk_20_01, chk_20_02, chk_20_03, chk_20_04, chk_20_05, chk_20_06, chk_20_07, chk_20_08, chk_20_09, chk_20_10, chk_20_11, chk_20_12, chk_20_13, chk_20_14]
theorem chk_21_00 : lawChk 2 1 [4, 0, 0] = true := by decide +kernel
theorem chk_21_01 : lawChk 2 1 [0, 4, 0] = true := by decide +kernel
theorem chk_21_02 : lawChk 2 1 [0, 0, 4] = true := by decide +kernel
theorem chk_21_03 : lawChk 2 1 [3, 1, 0] = true := by decide +kernel
theorem chk_21_04 : lawChk 2 1 [3, 0, 1] = true := by decide +kernel
theorem chk_21_05 : lawChk 2 1 [1, 3, 0] = true := by decide +kernel
theorem chk_21_06 : lawChk 2 1 [0, 3, 1] = true := by decide +kernel
theorem chk_21_07 : lawChk 2 1 [1, 0, 3] = true := by decide +kernel
theorem chk_21_08 : lawChk 2 1 [0, 1, 3] = true := by decide +kernel
theorem chk_21_09 : lawChk 2 1 [2, 2, 0] = true := by decide +kernel
theorem chk_21_10 : lawChk 2 1 [2, 0, 2] = true := by decide +kernel
theorem chk_21_11 : lawChk 2 1 [0, 2, 2] = true := by decide +kernel
theorem chk_21_12 : lawChk 2 1 [2, 1, 1] = true := by decide +kernel
theorem chk_21_13 : lawChk 2 1 [1, 2, 1] = true := by decide +kernel
theorem chk_21_14 : lawChk 2 1 [1, 1, 2] = true := by decide +kernel
theorem chk_21 : bts.all (lawChk 2 1) = true := by
  simp only [bts, List.all_cons, List.all_nil, Bool.and_true, chk_21_00, chk_21_01, chk_21_02, chk_21_03, chk_21_04, chk_21_05, chk_21_06, chk_21_07, chk_21_08, chk_21_09, chk_21_10, chk_21_11, chk_21_12, chk_21_13, chk_21_14]
theorem chk_22_00 : lawChk 2 2 [4, 0, 0] = true := by decide +kernel
theorem chk_22_01 : lawChk 2 2 [0, 4, 0] = true := by decide +kernel
theorem chk_22_02 : lawChk 2 2 [0, 0, 4] = true := by decide +kernel
theorem chk_22_03 : lawChk 2 2 [3, 1, 0] = true := by decide +kernel
theorem chk_22_04 : lawChk 2 2 [3, 0, 1] = true := by decide +kernel
theorem chk_22_05 : lawChk 2 2 [1, 3, 0] = true := by decide +kernel
theorem chk_22_06 : lawChk 2 2 [0, 3, 1] = true := by decide +kernel
theorem chk_22_07 : lawChk 2 2 [1, 0, 3] = true := by decide +kernel
theorem chk_22_08 : lawChk 2 2 [0, 1, 3] = true := by decide +kernel
theorem chk_22_09 : lawChk 2 2 [2, 2, 0] = true := by decide +kernel
theorem chk_22_10 : lawChk 2 2 [2, 0, 2] = true := by decide +kernel
theorem chk_22_11 : lawChk 2 2 [0, 2, 2] = true := by decide +kernel
theorem chk_22_12 : lawChk 2 2 [2, 1, 1] = true := by decide +kernel
theorem chk_22_13 : lawChk 2 2 [1, 2, 1] = true := by decide +kernel
theorem chk_22_14 : lawChk 2 2 [1, 1, 2] = true := by decide +kernel
theorem chk_22 : bts.all (lawChk 2 2) = true := by
  simp only [bts, List.all_cons, List.all_nil, Bool.and_true, chk_22_00, chk_22_01, chk_22_02, chk_22_03, chk_22_04, chk_22_05, chk_22_06, chk_22_07, chk_22_08, chk_22_09, chk_22_10, chk_22_11, chk_22_12, chk_22_13, chk_22_14]
theorem chk_all : (ls0.all fun a => ls0.all fun b => bts.all fun bt => lawChk a b bt) = true := by
  simp only [ls0, List.all_cons, List.all_nil, Bool.and_true]
  rw [Bool.and_eq_true, Bool.and_eq_true, Bool.and_eq_true, Bool.and_eq_true, Bool.and_eq_true, Bool.and_eq_true, Bool.and_eq_true, Bool.and_eq_true]
  exact ⟨⟨chk_00, chk_01, chk_02⟩, ⟨chk_10, chk_11, chk_12⟩, chk_20, chk_21, chk_22⟩
theorem fact_00 : (allOf 4).all (fun r => factChk (0 :: 0 :: r)) = true := by decide +kernel
theorem fact_01 : (allOf 4).all (fun r => factChk (0 :: 1 :: r)) = true := by decide +kernel
theorem fact_02 : (allOf 4).all (fun r => factChk (0 :: 2 :: r)) = true := by decide +kernel
theorem fact_10 : (allOf 4).all (fun r => factChk (1 :: 0 :: r)) = true := by decide +kernel
theorem fact_11 : (allOf 4).all (fun r => factChk (1 :: 1 :: r)) = true := by decide +kernel
theorem fact_12 : (allOf 4).all (fun r => factChk (1 :: 2 :: r)) = true := by decide +kernel
theorem fact_20 : (allOf 4).all (fun r => factChk (2 :: 0 :: r)) = true := by decide +kernel
theorem fact_21 : (allOf 4).all (fun r => factChk (2 :: 1 :: r)) = true := by decide +kernel
theorem fact_22 : (allOf 4).all (fun r => factChk (2 :: 2 :: r)) = true := by decide +kernel
theorem fact_of : ∀ {ks : List Int}, ks.length = 6 → (∀ k ∈ ks, 0 ≤ k ∧ k < 3) → factChk ks = true
  | a :: b :: r, hl, hk => by
    have hr : r ∈ allOf 4 := mem_allOf (by simpa using hl) fun k h => hk k (.tail _ (.tail _ h))
    have ha := hk a (.head _)
    have hb := hk b (.tail _ (.head _))
    have ha' : a = 0 ∨ a = 1 ∨ a = 2 := by omega
    have hb' : b = 0 ∨ b = 1 ∨ b = 2 := by omega
    rcases ha' with rfl | rfl | rfl <;> rcases hb' with rfl | rfl | rfl
    · exact List.all_eq_true.mp fact_00 r hr
    · exact List.all_eq_true.mp fact_01 r hr
    · exact List.all_eq_true.mp fact_02 r hr
    · exact List.all_eq_true.mp fact_10 r hr
    · exact List.all_eq_true.mp fact_11 r hr
    · exact List.all_eq_true.mp fact_12 r hr
    · exact List.all_eq_true.mp fact_20 r hr
    · exact List.all_eq_true.mp fact_21 r hr
    · exact List.all_eq_true.mp fact_22 r hr
  | [_], hl, _ => by simp at hl
  | [], hl, _ => by simp at hl
end Mine

namespace Mine
set_option maxRecDepth 100000
def mapE (φ : Int → Int) (es : List (Int × Int)) : List (Int × Int) := es.map fun e => (φ e.1, e.2)
def mapT (φ : Int → Int) (ts : Tabs) : Tabs := ts.map fun e => (φ e.1, mapE φ e.2)
section
variable {φ : Int → Int} (hφ : ∀ a b, φ a = φ b → a = b)
include hφ
theorem phi_iff (a b : Int) : (φ a = φ b) = (a = b) := propext ⟨hφ a b, fun h => h ▸ rfl⟩
theorem hasK_map (es : List (Int × Int)) (k : Int) : hasK (mapE φ es) (φ k) = hasK es k := by
  unfold hasK mapE
  rw [List.any_map]
  congr 1
  funext e
  simp only [Function.comp]
  exact decide_eq_decide.mpr (by rw [phi_iff hφ])
theorem getK_map (es : List (Int × Int)) (k : Int) : getK (mapE φ es) (φ k) = getK es k := by
  unfold getK mapE
  induction es with
  | nil => rfl
  | cons e es ih =>
    simp only [List.map_cons, List.find?_cons]
    by_cases h : e.1 = k
    · simp [h]
    · have h' : ¬ φ e.1 = φ k := fun q => h (hφ _ _ q)
      simp only [decide_eq_false h, decide_eq_false h']
      exact ih
theorem putK_map (es : List (Int × Int)) (k v : Int) : putK (mapE φ es) (φ k) v = mapE φ (putK es k v) := by
  unfold putK
  rw [hasK_map hφ]
  split
  · unfold mapE
    rw [List.map_map, List.map_map]
    congr 1
    funext e
    simp only [Function.comp]
    by_cases h : e.1 = k
    · simp [h]
    · have h' : ¬ φ e.1 = φ k := fun q => h (hφ _ _ q)
      simp [h, h']
  · unfold mapE; simp
theorem bump_map (es : List (Int × Int)) (k v : Int) : bump (mapE φ es) (φ k) v = mapE φ (bump es k v) := by
  unfold bump
  rw [hasK_map hφ, getK_map hφ, putK_map hφ, putK_map hφ]
  split <;> rfl
theorem addC_map (fs : List (Int × Int)) : ∀ es, addC (mapE φ es) (mapE φ fs) = mapE φ (addC es fs) := by
  unfold addC
  induction fs with
  | nil => intro es; rfl
  | cons f fs ih =>
    intro es
    show List.foldl _ (bump (mapE φ es) (φ f.1) f.2) (mapE φ fs) = _
    rw [bump_map hφ, ih]
    rfl
omit hφ in
theorem sumV_map (es : List (Int × Int)) : sumV (mapE φ es) = sumV es := by
  unfold sumV mapE
  rw [List.foldl_map]
theorem getT_map (ts : Tabs) (k : Int) : getT (mapT φ ts) (φ k) = mapE φ (getT ts k) := by
  unfold getT mapT
  induction ts with
  | nil => rfl
  | cons e ts ih =>
    simp only [List.map_cons, List.find?_cons]
    by_cases h : e.1 = k
    · simp [h]
    · have h' : ¬ φ e.1 = φ k := fun q => h (hφ _ _ q)
      simp only [decide_eq_false h, decide_eq_false h']
      exact ih
theorem tput_map (ts : Tabs) (k : Int) (es : List (Int × Int)) : tput (mapT φ ts) (φ k) (mapE φ es) = mapT φ (tput ts k es) := by
  unfold tput mapT
  rw [List.map_map, List.map_map]
  congr 1
  funext e
  simp only [Function.comp]
  by_cases h : e.1 = k
  · simp [h]
  · have h' : ¬ φ e.1 = φ k := fun q => h (hφ _ _ q)
    simp [h, h']
theorem tfold_map (ws : List Int) : ∀ (ts : Tabs) (a : Int), (ws.map φ).foldl tstep (mapT φ ts, φ a) = (mapT φ (ws.foldl tstep (ts, a)).1, φ (ws.foldl tstep (ts, a)).2) := by
  induction ws with
  | nil => intro ts a; rfl
  | cons x ws ih =>
    intro ts a
    have e : tstep (mapT φ ts, φ a) (φ x) = (mapT φ (tstep (ts, a) x).1, φ (tstep (ts, a) x).2) := by
      unfold tstep
      dsimp only
      rw [getT_map hφ, bump_map hφ, tput_map hφ]
    simp only [List.map_cons, List.foldl_cons, e]
    exact ih _ _
omit hφ in
theorem tabs0_map (ls : List Int) : tabs0 (ls.map φ) = mapT φ (tabs0 ls) := by
  unfold tabs0 mapT
  rw [List.map_map, List.map_map]
  rfl
theorem tabsOf_map (h65 : φ 65 = 65) (ls ws : List Int) : tabsOf (ls.map φ) (ws.map φ) = mapT φ (tabsOf ls ws) := by
  unfold tabsOf
  have := tfold_map hφ ws (tabs0 ls) 65
  rw [h65] at this
  rw [tabs0_map, this]
theorem keyOf_map (ts : Tabs) (ls : List Int) : keyOf (mapT φ ts) (ls.map φ) = keyOf ts ls := by
  unfold keyOf
  rw [List.foldl_map]
  congr 1
  funext a one
  unfold keyIn
  rw [List.foldl_map]
  congr 1
  funext a other
  rw [getT_map hφ, getK_map hφ]
theorem givenOf_map (ts : Tabs) (ls : List Int) (one : Int) : givenOf (mapT φ ts) (ls.map φ) (φ one) = givenOf ts ls one := by
  unfold givenOf
  rw [List.map_map]
  congr 1
  funext other
  simp only [Function.comp]
  rw [getT_map hφ, getK_map hφ]
theorem isLast_map (ts : Tabs) (ls : List Int) (one : Int) : isLast (mapT φ ts) (ls.map φ) (φ one) = isLast ts ls one := by
  unfold isLast
  rw [givenOf_map hφ, getT_map hφ, sumV_map]
theorem lastOf_map (ts : Tabs) (ls : List Int) : lastOf (mapT φ ts) (ls.map φ) = (lastOf ts ls).map φ := by
  unfold lastOf
  rw [List.filter_map]
  congr 2
  funext one
  exact isLast_map hφ ts ls one
theorem isOther_map (ts : Tabs) (ls : List Int) (one : Int) : isOther (mapT φ ts) (ls.map φ) (φ one) = isOther ts ls one := by
  unfold isOther
  rw [getT_map hφ, lastOf_map hφ]
  have h1 : (mapE φ (getT ts one)).isEmpty = (getT ts one).isEmpty := by unfold mapE; simp
  have h2 : ((lastOf ts ls).map φ).any (· == φ one) = (lastOf ts ls).any (· == one) := by
    rw [List.any_map]
    congr 1
    funext x
    show (φ x == φ one) = (x == one)
    by_cases h : x = one
    · simp [h]
    · have h' : ¬ φ x = φ one := fun q => h (hφ _ _ q)
      rw [beq_eq_false_iff_ne.mpr h, beq_eq_false_iff_ne.mpr h']
  rw [h1, h2]
theorem othersOf_map (ts : Tabs) (ls : List Int) : othersOf (mapT φ ts) (ls.map φ) = (othersOf ts ls).map φ := by
  unfold othersOf
  rw [List.filter_map]
  congr 2
  funext one
  exact isOther_map hφ ts ls one
theorem ways1_map (ts : Tabs) (ls xs : List Int) : ways1 (mapT φ ts) (ls.map φ) (xs.map φ) = ways1 ts ls xs := by
  unfold ways1
  rw [List.foldl_map]
  congr 1
  funext a one
  rw [givenOf_map hφ]
theorem ways2_map (ts : Tabs) (ls xs : List Int) (a : Int) : ways2 (mapT φ ts) (ls.map φ) (xs.map φ) a = ways2 ts ls xs a := by
  unfold ways2
  rw [List.foldl_map]
  congr 1
  funext a one
  rw [givenOf_map hφ]
theorem trees1_map (ts : Tabs) (ls xs : List Int) : trees1 (mapT φ ts) (ls.map φ) (xs.map φ) = trees1 ts ls xs := by
  unfold trees1
  rw [List.foldl_map]
  congr 1
  funext a one
  rw [givenOf_map hφ, getT_map hφ, getK_map hφ]
theorem trees2_map (ts : Tabs) (ls : List Int) : trees2 (mapT φ ts) (ls.map φ) = trees2 ts ls := by
  unfold trees2
  rw [othersOf_map hφ]
  match h : othersOf ts ls with
  | [] => exact trees1_map hφ ts ls []
  | [f] => exact trees1_map hφ ts ls [f]
  | [f, s] =>
    show trees1 (mapT φ ts) (ls.map φ) ([f, s].map φ) - _ = _
    rw [trees1_map hφ, getT_map hφ, getT_map hφ, getK_map hφ, getK_map hφ]
  | f :: s :: t :: r => exact trees1_map hφ ts ls (f :: s :: t :: r)
theorem alikeOf_map (ts : Tabs) (ls xs : List Int) : alikeOf (mapT φ ts) (ls.map φ) (xs.map φ) = alikeOf ts ls xs := by
  unfold alikeOf
  rw [List.foldl_map]
  congr 1
  funext a one
  rw [givenOf_map hφ]
theorem waysOf_map (ts : Tabs) (ls : List Int) : waysOf (mapT φ ts) (ls.map φ) = waysOf ts ls := by
  unfold waysOf
  rw [othersOf_map hφ, lastOf_map hφ, ways1_map hφ, ways2_map hφ, trees2_map hφ, alikeOf_map hφ]
end
end Mine

namespace Mine
set_option maxRecDepth 100000
/-- the closed check, for given kinds -/
theorem chk_of {ks : List Int} (hl : ks.length = 6) (hk : ∀ k ∈ ks, 0 ≤ k ∧ k < 3) : lawChk (ks.getD 0 0) (ks.getD 5 0) (betweenOf ks) = true ∧ (((ks.drop 1).count (ks.getD 0 0) : Nat) : Int) = (betweenOf ks).getD (ks.getD 0 0).toNat 0 + (if ks.getD 5 0 = ks.getD 0 0 then 1 else 0) := by
  have hf := fact_of hl hk
  unfold factChk at hf
  rw [Bool.and_eq_true] at hf
  obtain ⟨h1, h2⟩ := hf
  obtain ⟨bt, hbt, e⟩ := List.any_eq_true.mp h1
  have e' : bt = betweenOf ks := by simpa using e
  have m0 : ∀ i, i < 6 → ks.getD i 0 ∈ ls0 := fun i hi => by
    have := hk _ (List.mem_of_getElem? (getD_get (ns := ks) (k := i) (by omega)))
    have h3 : ks.getD i 0 = 0 ∨ ks.getD i 0 = 1 ∨ ks.getD i 0 = 2 := by omega
    simp only [ls0, List.mem_cons, List.not_mem_nil, or_false]
    exact h3
  have h3 := List.all_eq_true.mp (List.all_eq_true.mp (List.all_eq_true.mp chk_all _ (m0 0 (by decide))) _ (m0 5 (by decide))) bt hbt
  rw [e'] at h3
  exact ⟨h3, by simpa using h2⟩
section
variable {φ : Int → Int} (hφ : ∀ a b, φ a = φ b → a = b) (h65 : φ 65 = 65)
theorem ltr_map {k : Int} (hk : 0 ≤ k ∧ k < 3) : ltr (ls0.map φ) k = φ (ltr ls0 k) := by
  have : k = 0 ∨ k = 1 ∨ k = 2 := by omega
  rcases this with rfl | rfl | rfl <;> rfl
include hφ h65
theorem tabR_map {row : List Int} (hr : ∀ k ∈ row, 0 ≤ k ∧ k < 3) : tabR (ls0.map φ) row = mapT φ (tabR ls0 row) := by
  unfold tabR
  rw [show row.map (ltr (ls0.map φ)) = (row.map (ltr ls0)).map φ by
    rw [List.map_map]; exact List.map_congr_left fun k hk => ltr_map (hr k hk)]
  exact tabsOf_map hφ h65 _ _
theorem keyR_map {row : List Int} (hr : ∀ k ∈ row, 0 ≤ k ∧ k < 3) : keyR (ls0.map φ) row = keyR ls0 row := by
  unfold keyR
  rw [tabR_map hφ h65 hr, keyOf_map hφ]
theorem whole_map (ks : List Int) (hk0 : 0 ≤ ks.getD 0 0 ∧ ks.getD 0 0 < 3) (rs : List (List Int)) : ∀ (a : List (Int × Int)), (∀ r ∈ rs, ∀ k ∈ r, 0 ≤ k ∧ k < 3) → rs.foldl (wholeStep (ls0.map φ) ks) (mapE φ a) = mapE φ (rs.foldl (wholeStep ls0 [ks.getD 0 0]) a) := by
  induction rs with
  | nil => intro a _; rfl
  | cons r rs ih =>
    intro a h
    have e : wholeStep (ls0.map φ) ks (mapE φ a) r = mapE φ (wholeStep ls0 [ks.getD 0 0] a r) := by
      unfold wholeStep
      rw [tabR_map hφ h65 (h r (.head _)), ltr_map hk0, getT_map hφ, addC_map hφ]
      rfl
    rw [List.foldl_cons, e, ih _ fun r hr => h r (.tail _ hr), List.foldl_cons]
theorem law_ok {ks : List Int} (hl : ks.length = 6) (hk : ∀ k ∈ ks, 0 ≤ k ∧ k < 3) : LawOk (ls0.map φ) ks := by
  obtain ⟨hc, hcnt⟩ := chk_of hl hk
  have hk0 := hk _ (List.mem_of_getElem? (getD_get (ns := ks) (k := 0) (by omega)))
  unfold lawChk at hc
  have hR : rowsOf (ks.getD 0 0) (ks.getD 5 0) (betweenOf ks) = rowsK ks := rfl
  rw [hR, Bool.and_eq_true, Bool.and_eq_true] at hc
  obtain ⟨⟨hrow, hsh⟩, hway⟩ := hc
  have hrow' : ∀ r ∈ rowsK ks, rowChk r = true := List.all_eq_true.mp hrow
  have kind : ∀ r ∈ rowsK ks, ∀ k ∈ r, 0 ≤ k ∧ k < 3 := fun r hr k hkr => by
    have := hrow' r hr
    unfold rowChk at this
    simp only [Bool.and_eq_true] at this
    have h1 := List.all_eq_true.mp this.1.1.1.1.1.1.1.1.2 k hkr
    simpa using h1
  have keys : (rowsK ks).map (keyR (ls0.map φ)) = (rowsK ks).map (keyR ls0) := List.map_congr_left fun r hr => keyR_map hφ h65 (kind r hr)
  refine ⟨fun r hr => ?_, ?_, ?_, fun r hr => ?_⟩
  · have := hrow' r hr
    unfold rowChk at this
    simp only [Bool.and_eq_true] at this
    obtain ⟨⟨⟨⟨⟨⟨⟨⟨⟨c1, c2⟩, c3⟩, c4⟩, c5⟩, c6⟩, c7⟩, c8⟩, c9⟩, c10⟩ := this
    refine ⟨by simpa using c1, kind r hr, ?_, ?_⟩
    · rw [← (by simpa using c3 : ls0.map (fun l => sumV (getT (tabR ls0 r) l)) = countsOf r), List.map_map]
      refine List.map_congr_left fun l _ => ?_
      show sumV (getT (tabR (ls0.map φ) r) (φ l)) = _
      rw [tabR_map hφ h65 (kind r hr), getT_map hφ, sumV_map]
    · rw [keyR_map hφ h65 (kind r hr)]; simpa using c4
  · have hw := whole_map hφ h65 ks hk0 (rowsK ks) [] kind
    have hs : (65 :: ls0).map (getK (wholeAt ls0 [ks.getD 0 0] (rowsK ks))) = ((rowsK ks).length : Int) :: sharesOf ks (rowsK ks).length := by
      have h1 := eq_of_beq hsh
      rw [← hcnt] at h1
      exact h1
    rw [← hs]
    have e : (65 :: ls0.map φ) = (65 :: ls0).map φ := by rw [List.map_cons, h65]
    rw [e, List.map_map]
    refine List.map_congr_left fun l _ => ?_
    show getK (wholeAt (ls0.map φ) ks (rowsK ks)) (φ l) = _
    have hw' : wholeAt (ls0.map φ) ks (rowsK ks) = mapE φ (wholeAt ls0 [ks.getD 0 0] (rowsK ks)) := hw
    rw [hw', getK_map hφ]
  · intro i r hi hany
    have hr := List.mem_of_getElem? hi
    rw [keys, keyR_map hφ h65 (kind r hr)] at hany ⊢
    rw [tabR_map hφ h65 (kind r hr), waysOf_map hφ]
    unfold wayChk at hway
    have hil : i < (rowsK ks).length := (List.getElem?_eq_some_iff.mp hi).1
    have h1 := List.all_eq_true.mp hway i (List.mem_range.mpr hil)
    have hg : (rowsK ks).getD i [] = r := by rw [List.getD_eq_getElem?_getD, hi]; rfl
    rw [hg, hany, Bool.false_or] at h1
    exact eq_of_beq h1
  · have := hrow' r hr
    unfold rowChk at this
    simp only [Bool.and_eq_true] at this
    obtain ⟨⟨⟨⟨⟨⟨⟨⟨⟨c1, c2⟩, c3⟩, c4⟩, c5⟩, c6⟩, c7⟩, c8⟩, c9⟩, c10⟩ := this
    have hg : ∀ k ∈ ls0.map φ, ∃ j ∈ ls0, k = φ j := fun k hk => by obtain ⟨j, hj, e⟩ := List.mem_map.mp hk; exact ⟨j, hj, e.symm⟩
    have c5' : ∀ j ∈ ls0, (0 ≤ (givenOf (tabR ls0 r) ls0 j).sum ∧ (givenOf (tabR ls0 r) ls0 j).sum < 7) ∧ ∀ c ∈ givenOf (tabR ls0 r) ls0 j, 0 ≤ c ∧ c < 7 := fun j hj => by
      have h1 := List.all_eq_true.mp c5 j hj
      simp only [Bool.and_eq_true, decide_eq_true_eq] at h1
      refine ⟨h1.1, fun c hc => ?_⟩
      have h2 := List.all_eq_true.mp h1.2 c hc
      simpa using h2
    rw [tabR_map hφ h65 (kind r hr)]
    refine ⟨?_, by show 3 ≤ 100; decide, ?_, ?_, ?_, ?_, ?_, ?_, ?_, ?_⟩
    · show [φ 0, φ 1, φ 2].Nodup
      have h01 : φ 0 ≠ φ 1 := fun h => absurd (hφ _ _ h) (by decide)
      have h02 : φ 0 ≠ φ 2 := fun h => absurd (hφ _ _ h) (by decide)
      have h12 : φ 1 ≠ φ 2 := fun h => absurd (hφ _ _ h) (by decide)
      simp [h01, h02, h12]
    · intro k hk
      rw [← tabR_map hφ h65 (kind r hr)]
      exact hasT_tabR hk
    · intro k hk
      rw [← tabR_map hφ h65 (kind r hr)]
      have hlen : r.length = 6 := by simpa using c1
      refine Nat.le_trans (getT_le (ts := tabR (ls0.map φ) r) (n := 6) (fun e he => ?_) k) (by decide)
      have := small_fold (r.map (ltr (ls0.map φ))) (tabs0 (ls0.map φ), 65) 0 (fun e he => by simp [tabs0] at he; obtain ⟨_, _, rfl⟩ := he; simp) e he
      rw [List.length_map, hlen] at this; omega
    · intro k hk
      obtain ⟨j, hj, rfl⟩ := hg k hk
      rw [givenOf_map hφ]
      exact (c5' j hj).1
    · intro k hk
      rw [othersOf_map hφ] at hk
      obtain ⟨j, hj, rfl⟩ := List.mem_map.mp hk
      rw [givenOf_map hφ]
      have := List.all_eq_true.mp c6 j hj
      simpa using this
    · intro k hk
      obtain ⟨j, hj, rfl⟩ := hg k hk
      rw [givenOf_map hφ]
      exact (c5' j hj).2
    · rw [trees2_map hφ]; exact ⟨by simpa using c7, by simpa using c8⟩
    · rw [alikeOf_map hφ]; simpa using c9
    · rw [alikeOf_map hφ]; simpa using c10
end
def phi (x y z k : Int) : Int := if k = 0 then x else if k = 1 then y else if k = 2 then z else if k = 65 then 65 else if 0 < k then k + 1000 else k - 1000
theorem phi_inj {x y z : Int} (hx : 65 < x ∧ x < 71) (hy : 70 < y ∧ y < 76) (hz : 75 < z ∧ z < 81) : ∀ a b, phi x y z a = phi x y z b → a = b := by
  intro a b h
  unfold phi at h
  (repeat' split at h) <;> omega
theorem plain_law (xs : List Int) : LawOk (lettersOf (cellsOf xs).sum) (kindsOf (cellsOf xs)) := by
  have hcl : (cellsOf xs).length = 6 := by
    unfold cellsOf dflts drawnOf; simp; omega
  have hkl : (kindsOf (cellsOf xs)).length = 6 := by simp [kindsOf, hcl]
  have hk3 : ∀ k ∈ kindsOf (cellsOf xs), 0 ≤ k ∧ k < 3 := fun k hk => by
    obtain ⟨c, _, rfl⟩ := List.mem_map.mp hk
    exact fmodR c (by decide)
  generalize (cellsOf xs).sum = n
  have h1 := fmodR n (b := 5) (by decide)
  have h2 := fmodR (n.fdiv 5) (b := 5) (by decide)
  have h3 := fmodR (n.fdiv 25) (b := 5) (by decide)
  have e : lettersOf n = ls0.map (phi (66 + n.fmod 5) (71 + (n.fdiv 5).fmod 5) (76 + (n.fdiv 25).fmod 5)) := rfl
  rw [e]
  exact law_ok (phi_inj (by omega) (by omega) (by omega)) rfl hkl hk3
end Mine

theorem PySem.Challenge.cw_pg0023_01_holds : PySem.Challenge.rw_pg0023_01.Holds := by
  exact Mine.joined Mine.plain_law
