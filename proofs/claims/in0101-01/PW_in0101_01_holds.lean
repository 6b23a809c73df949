import PyProof.Rows.All
import Wide.All
import OpenK.AllK
import Wide.FinOn
import PySem.Challenge.RW_in0101_01
open PySem PySem.W PySem.Calls PyProof PyProof.Rows
set_option Elab.async false
set_option maxRecDepth 100000
set_option maxHeartbeats 4000000
namespace Mine
/-! data borne by the ledger -/
mutual
inductive In (N : List (Addr × Obj)) : Value → PyData → Prop
  | none : In N Value.none PyData.none
  | bool (b : Bool) : In N (Value.bool b) (PyData.bool b)
  | int (i : Int) (t : Tok) : In N (Value.int i t) (PyData.int i)
  | str (x : Str) (t : Tok) : In N (Value.str x t) (PyData.str x)
  | list {a : Addr} {vs : List Value} {n : Nat} {ds : List PyData} : (a, ({ cls := .type "list", data := .seq vs.toArray n } : Obj)) ∈ N → InAll N vs ds → In N (Value.ref a) (PyData.list ds)
  | tuple {a : Addr} {vs : List Value} {n : Nat} {ds : List PyData} : (a, ({ cls := .type "tuple", data := .seq vs.toArray n } : Obj)) ∈ N → InAll N vs ds → In N (Value.ref a) (PyData.tuple ds)
inductive InAll (N : List (Addr × Obj)) : List Value → List PyData → Prop
  | nil : InAll N [] []
  | cons {v : Value} {vs : List Value} {d : PyData} {ds : List PyData} : In N v d → InAll N vs ds → InAll N (v :: vs) (d :: ds)
end

mutual
theorem In.mono {N N' : List (Addr × Obj)} (hs : ∀ p ∈ N, p ∈ N') : ∀ {v : Value} {d : PyData}, In N v d → In N' v d
  | _, _, .none => .none
  | _, _, .bool b => .bool b
  | _, _, .int i t => .int i t
  | _, _, .str x t => .str x t
  | _, _, .list h r => .list (hs _ h) (InAll.mono hs r)
  | _, _, .tuple h r => .tuple (hs _ h) (InAll.mono hs r)
theorem InAll.mono {N N' : List (Addr × Obj)} (hs : ∀ p ∈ N, p ∈ N') : ∀ {vs : List Value} {ds : List PyData}, InAll N vs ds → InAll N' vs ds
  | _, _, .nil => .nil
  | _, _, .cons h r => .cons (In.mono hs h) (InAll.mono hs r)
end

mutual
theorem In.via {h₀ : Heap} {N : List (Addr × Obj)} : ∀ {v : Value} {d : PyData}, In N v d → ReadsVia h₀ N v d
  | _, _, .none => .none
  | _, _, .bool b => .bool b
  | _, _, .int i t => .int i t
  | _, _, .str x t => .str x t
  | _, _, .list hm r => fun h hk hn => by
    obtain ⟨as, ra⟩ := InAll.via (h₀ := h₀) r h hk hn
    exact ⟨_, .list (hn _ hm) rfl rfl ra⟩
  | _, _, .tuple hm r => fun h hk hn => by
    obtain ⟨as, ra⟩ := InAll.via (h₀ := h₀) r h hk hn
    exact ⟨_, .tuple (hn _ hm) rfl rfl ra⟩
theorem InAll.via {h₀ : Heap} {N : List (Addr × Obj)} : ∀ {vs : List Value} {ds : List PyData}, InAll N vs ds → ReadsViaAll h₀ N vs ds
  | _, _, .nil => .nil
  | _, _, .cons h r => .cons (In.via h) (InAll.via r)
end

section
variable {N : List (Addr × Obj)} {v : Value} {d d1 d2 : PyData} {vs ws : List Value} {ds es : List PyData}
theorem In.inv_list (h : In N v (.list ds)) : ∃ a xs n, v = .ref a ∧ (a, ({ cls := .type "list", data := .seq xs.toArray n } : Obj)) ∈ N ∧ InAll N xs ds := by
  cases h with
  | list h r => exact ⟨_, _, _, rfl, h, r⟩
theorem In.inv_tuple (h : In N v (.tuple ds)) : ∃ a xs n, v = .ref a ∧ (a, ({ cls := .type "tuple", data := .seq xs.toArray n } : Obj)) ∈ N ∧ InAll N xs ds := by
  cases h with
  | tuple h r => exact ⟨_, _, _, rfl, h, r⟩
theorem In.inv_str {x : Str} (h : In N v (.str x)) : ∃ t, v = .str x t := by
  cases h with
  | str x t => exact ⟨t, rfl⟩
theorem In.inv_none (h : In N v .none) : v = .none := by
  cases h with
  | none => rfl
theorem InAll.length (h : InAll N vs ds) : vs.length = ds.length := by
  induction vs generalizing ds with
  | nil => cases h; rfl
  | cons v vs ih =>
    cases h with
    | cons _ r => rw [List.length_cons, List.length_cons, ih r]
theorem InAll.append (h : InAll N vs ds) (k : InAll N ws es) : InAll N (vs ++ ws) (ds ++ es) := by
  induction vs generalizing ds with
  | nil => cases h; exact k
  | cons v vs ih =>
    cases h with
    | cons h r => exact .cons h (ih r)
theorem InAll.one (h : In N v d) : InAll N [v] [d] := .cons h .nil
theorem InAll.get (h : InAll N vs ds) {k : Nat} {u : Value} (hk : vs[k]? = some u) : ∃ d, ds[k]? = some d ∧ In N u d := by
  induction vs generalizing ds k with
  | nil => simp at hk
  | cons v vs ih =>
    cases h with
    | cons h r =>
      cases k with
      | zero => simp at hk; subst hk; exact ⟨_, rfl, h⟩
      | succ k => simp only [List.getElem?_cons_succ] at hk ⊢; exact ih r hk
theorem InAll.get' (h : InAll N vs ds) {k : Nat} {d : PyData} (hk : ds[k]? = some d) : ∃ u, vs[k]? = some u ∧ In N u d := by
  induction vs generalizing ds k with
  | nil => cases h; simp at hk
  | cons v vs ih =>
    cases h with
    | cons h r =>
      cases k with
      | zero => simp at hk; subst hk; exact ⟨_, rfl, h⟩
      | succ k => simp only [List.getElem?_cons_succ] at hk ⊢; exact ih r hk
theorem InAll.take (h : InAll N vs ds) (k : Nat) : InAll N (vs.take k) (ds.take k) := by
  induction vs generalizing ds k with
  | nil => cases h; simp; exact .nil
  | cons v vs ih =>
    cases h with
    | cons h r =>
      cases k with
      | zero => exact .nil
      | succ k => exact .cons h (ih r k)
theorem InAll.drop (h : InAll N vs ds) (k : Nat) : InAll N (vs.drop k) (ds.drop k) := by
  induction vs generalizing ds k with
  | nil => cases h; simp; exact .nil
  | cons v vs ih =>
    cases h with
    | cons h r =>
      cases k with
      | zero => exact .cons h r
      | succ k => exact ih r k
theorem InAll.two (h : InAll N vs [d1, d2]) : ∃ v1 v2, vs = [v1, v2] ∧ In N v1 d1 ∧ In N v2 d2 := by
  cases h with
  | cons h1 r =>
    cases r with
    | cons h2 r => cases r; exact ⟨_, _, rfl, h1, h2⟩
theorem In.inv_pair (h : In N v (.tuple [d1, d2])) : ∃ a v1 v2 n, v = .ref a ∧ (a, ({ cls := .type "tuple", data := .seq [v1, v2].toArray n } : Obj)) ∈ N ∧ In N v1 d1 ∧ In N v2 d2 := by
  obtain ⟨a, xs, n, rfl, hm, r⟩ := h.inv_tuple
  obtain ⟨v1, v2, rfl, h1, h2⟩ := r.two
  exact ⟨a, v1, v2, n, rfl, hm, h1, h2⟩
theorem InAll.strs : ∀ {vs : List Value} {xs : List Str}, InAll N vs (xs.map .str) → StrsAre vs xs
  | _, [], h => by cases h; exact .nil
  | _, x :: xs, h => by
    cases h with
    | cons h r =>
      obtain ⟨t, rfl⟩ := h.inv_str
      exact .cons _ _ (InAll.strs r)
theorem InAll.of_strs : ∀ {vs : List Value} {xs : List Str}, StrsAre vs xs → InAll N vs (xs.map .str)
  | _, _, .nil => .nil
  | _, _, .cons y t r => .cons (.str y t) (InAll.of_strs r)
end

theorem tup_in {N : List (Addr × Obj)} {a : Addr} {v1 v2 : Value} {d1 d2 : PyData} (h : (a, ({ cls := .type "tuple", data := .seq [v1, v2].toArray } : Obj)) ∈ N) (h1 : In N v1 d1) (h2 : In N v2 d2) : In N (.ref a) (.tuple [d1, d2]) :=
  .tuple h (.cons h1 (.cons h2 .nil))
theorem lst_in {N : List (Addr × Obj)} {a : Addr} {vs : List Value} {n : Nat} {ds : List PyData} (h : (a, ({ cls := .type "list", data := .seq vs.toArray n } : Obj)) ∈ N) (r : InAll N vs ds) : In N (.ref a) (.list ds) :=
  .list h r
theorem isL {h₀ h : Heap} {L a : Addr} {N : List (Addr × Obj)} {xs : Array Value} {n : Nat} (K : News h₀ L h N) (hm : (a, ({ cls := .type "list", data := .seq xs n } : Obj)) ∈ N) : h.IsList a xs := ⟨_, (K _ hm).1, rfl, n, rfl⟩
theorem isT {h₀ h : Heap} {L a : Addr} {N : List (Addr × Obj)} {xs : Array Value} {n : Nat} (K : News h₀ L h N) (hm : (a, ({ cls := .type "tuple", data := .seq xs n } : Obj)) ∈ N) : IsTup h a xs := ⟨_, (K _ hm).1, rfl, n, rfl⟩
theorem le1 : 1 ≤ sizeLine := by rw [sizeLine_eq]; decide
theorem le2 : 2 ≤ sizeLine := by rw [sizeLine_eq]; decide
theorem ch_eq {c d : Nat} {lit : Str} (h : lit = ⟨#[d]⟩) : ((⟨#[c]⟩ : Str) == lit) = decide (c = d) := by
  subst h
  by_cases e : c = d
  · subst e; simp
  · rw [decide_eq_false e, beq_eq_false_iff_ne]
    intro q
    exact e (by simpa using congrArg (fun s : Str => s.cps.toList) q)

/-! pairs, items, rows as data -/
abbrev Pair := Str × Option Str
def encS : Option Str → PyData
  | some s => .str s
  | none => .none
def encP (p : Pair) : PyData := .tuple [.str p.1, encS p.2]
def encPs (l : List Pair) : PyData := .list (l.map encP)
abbrev Item := PyData × List Pair
def encI (i : Item) : PyData := .tuple [i.1, encPs i.2]
def encR (r : List Item) : PyData := .list (r.map encI)
def encT (l : List Str) : PyData := .list (l.map .str)

/-! the module -/
def bNames : List Str := ["len", "min", "range", "tuple", "str", "repr"]
structure Md (mg mb : Str → Option Value) (h : Heap) : Prop where
  g : h.Ns mainGlobals mg
  b : h.Ns builtinsNs mb
  bi : ∀ x : Str, x ≠ "__name__" → mb x = bootBuiltins x
  lim : h.NoLimit
  dig : ∃ mc, h.Ns cStatics mc ∧ mc "sys.int_max_str_digits" = none
  free : ∀ x ∈ bNames, mg x = none
  mx : ∃ t, mg "_MAX_LENGTH" = some (.int 80 t)
theorem Md.keeps {mg mb : Str → Option Value} {h h' : Heap} (W : Md mg mb h) (hk : h.StaysIn h') : Md mg mb h' :=
  ⟨W.g.keeps hk, W.b.keeps hk, W.bi, W.lim.keeps hk, let ⟨mc, a, b⟩ := W.dig; ⟨mc, a.keeps hk, b⟩, W.free, W.mx⟩

def FnAt (mg : Str → Option Value) (h : Heap) (name : Str) (params : Arguments) (body : List Stmt) (scope : Scope) (f : Addr) : Prop :=
  ∃ o doc pm cdv ct an, mg name = some (.ref f) ∧ h.get? f = some o ∧ o.data = .func (fnOf name name params body scope .none .none doc pm an cdv ct) ∧ h.CodeRec cdv name
theorem FnAt.keeps {mg : Str → Option Value} {h h' : Heap} {name : Str} {params : Arguments} {body : List Stmt} {scope : Scope} {f : Addr} (X : FnAt mg h name params body scope f) (hk : h.StaysIn h') : FnAt mg h' name params body scope f :=
  let ⟨o, doc, pm, cdv, ct, an, a, b, c, d⟩ := X; ⟨o, doc, pm, cdv, ct, an, a, hk _ _ b, c, d.keeps hk⟩

/-- what a body hands back -/
def Ret (g : Heap) (L : Addr) (news : List (Addr × Obj)) (Out : Value → List (Addr × Obj) → Prop) (s : Shared) (fl : Flow) (s' : Shared) : Prop :=
  ∃ v h' tk' m' news', fl = .ret v ∧ s' = { s with heap := h', toks := tk' } ∧ Fr g L h' m' ∧ News g L h' news' ∧ (∀ p ∈ news, p ∈ news') ∧ Out v news'

structure Room (A : Around) (d u : Nat) : Prop where
  hh : A.handled = none
  hg : A.guards = some []
  hd : A.depth + d < recursionLimit
  hu : A.units + u < cLine
theorem Room.deeper {A : Around} {d u : Nat} {env : Env} (R : Room A (d + 1) (u + 3)) : Room (A.deeper env) d u :=
  ⟨R.hh, R.hg, by have := R.hd; show A.depth + 1 + d < _; omega, by have := R.hu; show A.units + 3 + u < _; omega⟩
theorem Room.less {A : Around} {d u d' u' : Nat} (R : Room A d u) (h1 : d' ≤ d) (h2 : u' ≤ u) : Room A d' u' :=
  ⟨R.hh, R.hg, by have := R.hd; omega, by have := R.hu; omega⟩

section
variable {prog : Program} {w : World} {A : Around} {E : Value → Shared → Prop} {s : Shared} {h₀ : Heap} {L : Addr} {m : Str → Option Value} {news : List (Addr × Obj)}

theorem enter {f : Addr} {o : Obj} {fd : FuncData} {body : List Stmt} {args : List Value} {binds : List (Str × Value)} {Q : Value → Shared → Prop} {d u : Nat}
    (R : Room A (d + 1) (u + 3)) (F : Fr h₀ L s.heap m) (N : News h₀ L s.heap news) (hlim : h₀.NoLimit)
    (ho : h₀.get? f = some o) (hdata : o.data = .func fd) (hcd : h₀.CodeRec fd.code fd.qualname) (hbody : fd.body = .stmts body)
    (hbind : BindsTo s fd ⟨args, []⟩ binds) (hcell : ∀ x ∈ fd.scope.names, x.2 ≠ .cell) (hloc : ∀ x ∈ binds, fd.scope.names.lookup x.1 = some .local)
    (hco : fd.scope.isCoroutine = false) (hgen : fd.scope.isGenerator = false) (hk : fd.scope.kind = .function)
    (Out : Value → List (Addr × Obj) → Prop)
    (h : ∀ g L' h₁, h₀.StaysIn g → Fr g L' h₁ (fun x => binds.reverse.lookup x) → News g L' h₁ news → Room (A.deeper (callEnv fd L' f)) d u →
      wpAny (model prog w) (A.deeper (callEnv fd L' f)) (execs body (callEnv fd L' f)) (Ret g L' news Out { s with heap := h₁, toks := s.toks + binds.length }) (fun _ _ => False)
        { s with heap := h₁, toks := s.toks + binds.length })
    (hQ : ∀ v h' tk' news', (∀ p ∈ news, p ∈ news') → Fr h₀ L h' m → News h₀ L h' news' → Out v news' → Q v { s with heap := h', toks := tk' }) :
    wpAny (model prog w) A (call (.ref f) args) Q E s := by
  refine wpAny_call (codeAny_call_def (fd := fd) (body := body) (binds := binds) (by have := R.hd; omega) (F.keep _ _ ho) hdata (hlim.keeps F.keep) (hcd.keeps F.keep) hbody hbind hcell hloc (fun h₁ hns hk₁ => ?_) hco hgen hk)
  have nm : ∀ b o, h₀.get? b = some o → b ∉ news.map (·.1) := fun b o e q => by
    obtain ⟨p, hp, rfl⟩ := List.mem_map.mp q
    rw [(N p hp).2.2] at e; cases e
  have st : h₀.StaysIn (hideAll s.heap (news.map (·.1))) := fun b o e => hideAll_get _ (F.keep b o e) (nm b o e)
  obtain ⟨oL, es, ep, hL, hLd, hLk, hLf⟩ := F.ns
  have nL : L ∉ news.map (·.1) := fun q => by
    obtain ⟨p, hp, e⟩ := List.mem_map.mp q
    exact (N p hp).2.1 e
  have hLg := hideAll_get (news.map (·.1)) hL nL
  refine wpAny_mono (h (hideAll s.heap (news.map (·.1))) s.heap.objs.size h₁ st ⟨hns, fun b o e => hk₁ b o (of_hideAll _ e), Nat.le_of_eq (hideAll_size _ _)⟩
    (fun p hp => ⟨hk₁ _ _ (N p hp).1, Nat.ne_of_lt (Heap.lt_size (N p hp).1), hideAll_none _ (List.mem_map_of_mem hp)⟩) R.deeper) (fun fl s' hr => ?_) (fun _ _ x => x.elim)
  obtain ⟨v, h', tk', m', news', rfl, rfl, F', N', hs, hO⟩ := hr
  refine hQ v h' tk' news' hs ⟨⟨oL, es, ep, F'.keep L oL hLg, hLd, hLk, hLf⟩, fun b o e => F'.keep b o (st b o e), F.above⟩ (fun p hp => ⟨(N' p hp).1, fun q => ?_, ?_⟩) hO
  · have := (N' p hp).2.2; rw [q, hLg] at this; cases this
  · cases q : h₀.get? p.1 with
    | none => rfl
    | some o => have := (N' p hp).2.2; rw [st _ _ q] at this; cases this
end

/-! comprehensions -/
section
variable {prog : Program} {w : World} {A : Around} {E : Value → Shared → Prop} {s : Shared} {h₀ : Heap} {L : Addr} {m : Str → Option Value} {env : Env}

theorem pyIter_strW {x : Str} {t : Tok} {Q : Value → Shared → Prop}
    (hQ : ∀ (o : Obj) (St : Nat → Heap → Prop), (∀ A' : Around, A'.handled = none → Walks prog w A' s.heap.objs.size [s.heap.objs.size] [s.heap.objs.size] x.cps.size (SignAt x) St) →
      (∀ i h, St i h → ∃ o, h.get? s.heap.objs.size = some o) → St 0 (s.heap.push o) →
      Q (.ref s.heap.objs.size) { s with heap := s.heap.push o }) : wpAny (model prog w) A (pyIter (.str x t)) Q E s := by
  cases ha : x.cps.all (· < 128)
  · exact wpAny_pyIter_wide ha (hQ _ _ (fun A' hA => Walks.strWide hA _ x t) (fun i h st => let ⟨o, ho, _⟩ := st; ⟨o, ho⟩) ⟨_, Heap.get?_push_size _ rfl, rfl, rfl⟩)
  · exact wpAny_pyIter_ascii ha (hQ _ _ (fun A' hA => Walks.strAscii hA _ x t) (fun i h st => let ⟨o, ho, _⟩ := st; ⟨o, ho⟩) ⟨_, Heap.get?_push_size _ rfl, rfl, rfl⟩)

/-- one turn of a comprehension whose element is walked: the invariant is of the items made and of the ledger -/
def CTurn (prog : Program) (w : World) (A : Around) (h₀ : Heap) (L : Addr) (m : Str → Option Value) (env : Env) (elt : Expr) (x : Str) (scope : Scope) (cl : List (Str × Addr)) (s : Shared) (S : List (Addr × Obj) → Prop) (P : Nat → Value → Prop) (n : Nat) (J : Nat → List Value → List (Addr × Obj) → Prop) : Prop :=
  ∀ i ys news v I oI C oC D m₂ h tk (E' : Value → Shared → Prop), i < n → J i ys news → P i v → LCg.NsObj oC m₂ → m₂ x = some v → Fr h₀ L h m → News h₀ L h ((I, oI) :: (C, oC) :: (D, LCg.lst ys) :: news) → LCg.Off3 I C D news → (I ≠ C ∧ I ≠ D ∧ C ≠ D) → S news →
    wpAny (model prog w) A (eval elt (compEnvC scope cl C env)) (LCg.CompEnd h₀ L m { s with heap := h, toks := tk } I oI C oC D (LCg.lst ys) S (fun y news' => J (i + 1) (ys ++ [y]) news')) E' { s with heap := h, toks := tk }

theorem CTurn.rest {elt : Expr} {x : Str} {scope : Scope} {cl : List (Str × Addr)} {S : List (Addr × Obj) → Prop} {P : Nat → Value → Prop} {n : Nat} {J : Nat → List Value → List (Addr × Obj) → Prop} {Fin : List Value → List (Addr × Obj) → Prop}
    (T : CTurn prog w A h₀ L m env elt x scope cl s S P n J) (done : ∀ ys news, J n ys news → Fin ys news) :
    ∀ k i ys news, i + k = n → J i ys news → S news → LCg.CompRest prog w A h₀ L m env elt x scope cl s S P Fin k i ys news := by
  intro k
  induction k with
  | zero => intro i ys news e j _; exact LCg.CompRest.zero (done _ _ (by have : i = n := by omega
                                                                         exact this ▸ j))
  | succ k ih =>
    intro i ys news e j hS
    refine LCg.CompRest.succ fun v I oI C oC D m₂ h tk E' hP hC hx F N off ne => ?_
    refine wpAny_mono (T i ys news v I oI C oC D m₂ h tk E' (by omega) j hP hC hx F N off ne hS) (fun y s' hy => ?_) fun _ _ e => e
    obtain ⟨h', tk', news', e', F', N', off', hS', j'⟩ := hy
    exact ⟨h', tk', news', e', F', N', off', hS', ih (i + 1) _ _ (by omega) j' hS'⟩

/-- the source is a text -/
def SrcS (prog : Program) (w : World) (A : Around) (h₀ : Heap) (L : Addr) (m : Str → Option Value) (env : Env) (elt : Expr) (x : Str) (scope : Scope) (cl : List (Str × Addr)) (Fin : Shared → List Value → List (Addr × Obj) → Prop) (xv : Value) (s₁ : Shared) : Prop :=
  ∃ (text : Str) (t : Tok) (news : List (Addr × Obj)) (J : Nat → List Value → List (Addr × Obj) → Prop), xv = .str text t ∧ A.handled = none ∧ Fr h₀ L s₁.heap m ∧ News h₀ L s₁.heap news ∧ text.length ≤ sizeLine ∧ J 0 [] news ∧
    ∀ s₂ : Shared, (∃ h, s₂ = { s₁ with heap := h }) → CTurn prog w A h₀ L m env elt x scope cl s₂ (fun _ => True) (SignAt text) text.cps.size J ∧ ∀ ys news, J text.cps.size ys news → Fin s₂ ys news

theorem ListComp_S {elt iter : Expr} {x : Str} {px : Pos} {scope : Scope} {cl : List (Str × Addr)} {pos : Pos} {Q : Value → Shared → Prop} (F₀ : Fr h₀ L s.heap m)
    (hclos : closureFor scope env = pure cl) (hcell : ∀ y ∈ scope.names, y.2 ≠ .cell) (hkind : scope.kind = .function)
    (hnames : ∀ y ∈ scope.names, y.2 = .local → scope.names.lookup y.1 = some .local) (hx : scope.names.lookup x = some .local)
    (h : wpAny (model prog w) A (eval iter env) (SrcS prog w A h₀ L m env elt x scope cl (fun s₂ => LCg.FinE h₀ L m s₂ Q)) E s)
    (hs : ∀ x, foldedSetIterable iter env x = pure x := by intro _; rfl) :
    wpAny (model prog w) A (eval (.ListComp elt [⟨.Name x px, iter, [], 0⟩] scope pos) env) Q E s := by
  rw [eval_ListComp]
  refine wpAny_comprehension_free (use := none) rfl hs hclos hkind hnames (wpAny_mono h (fun xv s₁ h₁ => ?_) fun _ _ e => e)
  obtain ⟨text, t, news, J, rfl, hh, F, N, hsz, j0, hT⟩ := h₁
  refine pyIter_strW fun o St W hIo hst => ?_
  have W := W A hh
  obtain ⟨T, done⟩ := hT { s₁ with heap := s₁.heap.push o } ⟨_, rfl⟩
  refine LCg.block_U (S := fun _ => True) W hsz hIo (fun i h h' o' nw st e e' _ _ _ => W.frame _ _ _ st fun b hb o'' q => ?_) hcell hkind hx hst (fun b hb => ?_)
    (F.keeps fun _ _ e => Heap.get?_push_of_some _ e) (N.grown fun _ _ e => Heap.get?_push_of_some _ e) (Nat.ne_of_lt F.ns.lt) (next_is_new F) (fun p hp => Nat.ne_of_lt (Heap.lt_size (N p hp).1)) trivial
    (T.rest done _ 0 [] news (Nat.zero_add _) j0 trivial) ?_
  · rw [List.mem_singleton.mp hb] at q ⊢
    rw [e'] ; rw [e] at q; exact q
  · rw [List.mem_singleton.mp hb]
    show s₁.heap.objs.size < (s₁.heap.push _).objs.size
    rw [Heap.size_push]; exact Nat.lt_succ_self _
  · intro D C h tk m' ys news' F' N' o1 hn hC₀ hD₀ hCL hDL hCD offC fin
    refine ⟨m', hn, fun h'' hs'' => fin D h'' tk (F'.change hs'' hCL hC₀) (fun p hp => ?_) o1⟩
    refine ⟨hs''.extBut _ _ ?_ (N' p hp).1, (N' p hp).2⟩
    rcases List.mem_cons.mp hp with rfl | hp
    · exact Ne.symm hCD
    · exact offC p hp

theorem Assign_ListComp_S {elt iter : Expr} {x y : Str} {px py : Pos} {scope : Scope} {cl : List (Str × Addr)} {pos spos : Pos} {Q : Flow → Shared → Prop} (F₀ : Fr h₀ L s.heap m) (hLe : env.locals = L)
    (hsw : swapsWith (.ListComp elt [⟨.Name x px, iter, [], 0⟩] scope pos) (some (.Name y py)) spos.line env = pure true)
    (hclos : closureFor scope env = pure cl) (hcell : ∀ z ∈ scope.names, z.2 ≠ .cell) (hkind : scope.kind = .function)
    (hnames : ∀ z ∈ scope.names, z.2 = .local → scope.names.lookup z.1 = some .local) (hx : scope.names.lookup x = some .local)
    (hy : env.kindOf y = some .local) (hp : (env.scope.kind == .class || (env.scope.kind == .module && env.locals != env.globals)) = false)
    (h : wpAny (model prog w) A (eval iter env) (SrcS prog w A h₀ L m env elt x scope cl (fun s₂ => LCg.FinA h₀ L m s₂ y Q)) E s)
    (hs : ∀ x, foldedSetIterable iter env x = pure x := by intro _; rfl) :
    wpAny (model prog w) A (exec (.Assign [.Name y py] (.ListComp elt [⟨.Name x px, iter, [], 0⟩] scope pos) spos) env) Q E s := by
  subst hLe
  rw [exec_Assign_Name_used _ _ _ _ hsw]
  refine wpAny_bind (wpAny_standAt (wpAny_bind ?_))
  show wpAny _ A (do let _ ← comprehension (.ListComp elt [⟨.Name x px, iter, [], 0⟩] scope pos) scope env _ (newList []) false (eval iter env) (some (assign (.Name y py) env))) _ _ s
  refine wpAny_bind (wpAny_mono (wpAny_comprehension_free (use := some (assign (.Name y py) env)) (Q := fun _ s' => Q .next s') rfl hs hclos hkind hnames
    (wpAny_mono h (fun xv s₁ h₁ => ?_) fun _ _ e => e)) (fun _ s' hq => wpAny_pure (wpAny_pure hq)) fun _ _ e => e)
  obtain ⟨text, t, news, J, rfl, hh, F, N, hsz, j0, hT⟩ := h₁
  refine pyIter_strW fun o St W hIo hst => ?_
  have W := W A hh
  obtain ⟨T, done⟩ := hT { s₁ with heap := s₁.heap.push o } ⟨_, rfl⟩
  refine LCg.block_U (S := fun _ => True) W hsz hIo (fun i h h' o' nw st e e' _ _ _ => W.frame _ _ _ st fun b hb o'' q => ?_) hcell hkind hx hst (fun b hb => ?_)
    (F.keeps fun _ _ e => Heap.get?_push_of_some _ e) (N.grown fun _ _ e => Heap.get?_push_of_some _ e) (Nat.ne_of_lt F.ns.lt) (next_is_new F) (fun p hp => Nat.ne_of_lt (Heap.lt_size (N p hp).1)) trivial
    (T.rest done _ 0 [] news (Nat.zero_add _) j0 trivial) ?_
  · rw [List.mem_singleton.mp hb] at q ⊢
    rw [e'] ; rw [e] at q; exact q
  · rw [List.mem_singleton.mp hb]
    show s₁.heap.objs.size < (s₁.heap.push _).objs.size
    rw [Heap.size_push]; exact Nat.lt_succ_self _
  · intro D C h' tk m' ys news' F' N' o1 hn hC₀ hD₀ hCL hDL hCD offC fin
    show wpAny _ A (assign (.Name y py) env (.ref D)) _ _ _
    refine wpAny_assign_Name (wpAny_storeName_local hy F'.ns (fun h₂ hn₂ hs₂ => ?_) hp)
    have hL₀ : h₀.get? env.locals = none := Heap.get?_none_of_le F'.above
    have F₂ : Fr h₀ env.locals h₂ (fun z => if z = y then some (.ref D) else m z) := ⟨hn₂, fun b o e => hs₂.extBut b o (fun q => by rw [q, hL₀] at e; cases e) (F'.keep b o e), F'.above⟩
    refine ⟨m', hn.sameBut hs₂ hCL, fun h'' hs'' => fin D h'' _ (F₂.change hs'' hCL hC₀) (fun p hp => ?_) o1⟩
    have z : h₂.get? p.1 = some p.2 := hs₂.extBut _ _ (N' p hp).2.1 (N' p hp).1
    refine ⟨hs''.extBut _ _ ?_ z, (N' p hp).2⟩
    rcases List.mem_cons.mp hp with rfl | hp
    · exact Ne.symm hCD
    · exact offC p hp
end

/-! names inside a comprehension's block -/
section
variable {prog : Program} {w : World} {A : Around} {E : Value → Shared → Prop} {s : Shared} {h₀ : Heap} {L C : Addr} {news : List (Addr × Obj)} {scope : Scope} {cl : List (Str × Addr)} {env : Env} {x : Str} {pos : Pos} {v : Value} {oC : Obj} {m₂ : Str → Option Value} {Q : Value → Shared → Prop}
theorem ldc (N : News h₀ L s.heap news) (hm : (C, oC) ∈ news) (hC : LCg.NsObj oC m₂) (hv : m₂ x = some v) (h : Q v s)
    (hk : scope.kind = .function) (hx : scope.names.lookup x = some .local) (hd : (x == ("__debug__" : Str)) = false := by decide) :
    wpAny (model prog w) A (eval (.Name x pos) (compEnvC scope cl C env)) Q E s :=
  wpAny_Name (wpAny_loadName_local (m := m₂) hk (lookup_relabel_local hx) (hC.ns (N.get hm)) hv h) hd
end

theorem off3_new {h₀ h : Heap} {L I C D a : Addr} {oI oC oD : Obj} {news : List (Addr × Obj)} (N : News h₀ L h ((I, oI) :: (C, oC) :: (D, oD) :: news)) (off : LCg.Off3 I C D news) (ha : ∀ b o, h.get? b = some o → b ≠ a) (o : Obj) :
    LCg.Off3 I C D ((a, o) :: news) :=
  ⟨⟨(ha _ _ (N (I, oI) (by simp)).1).symm, (ha _ _ (N (C, oC) (by simp)).1).symm, (ha _ _ (N (D, oD) (by simp)).1).symm⟩, off⟩

theorem cend1 {h₀ h h' : Heap} {L I C D a : Addr} {m : Str → Option Value} {s₁ : Shared} {oI oC oD o : Obj} {S : List (Addr × Obj) → Prop} {rest : Value → List (Addr × Obj) → Prop} {y : Value} {tk : Nat} {nw : List (Addr × Obj)}
    (N₂ : News h₀ L h ((I, oI) :: (C, oC) :: (D, oD) :: nw)) (off : LCg.Off3 I C D nw) (ha : ∀ b o, h.get? b = some o → b ≠ a) (F : Fr h₀ L h' m) (N : News h₀ L h' ((a, o) :: (I, oI) :: (C, oC) :: (D, oD) :: nw)) (hS : S ((a, o) :: nw)) (r : rest y ((a, o) :: nw)) :
    LCg.CompEnd h₀ L m s₁ I oI C oC D oD S rest y { s₁ with heap := h', toks := tk } :=
  LCg.CompEnd.intro F N ((a, o) :: nw) (fun p hp => by simp only [List.mem_cons] at hp ⊢; grind) (off3_new N₂ off ha o) hS r
theorem cend0 {h₀ h' : Heap} {L I C D : Addr} {m : Str → Option Value} {s₁ : Shared} {oI oC oD : Obj} {S : List (Addr × Obj) → Prop} {rest : Value → List (Addr × Obj) → Prop} {y : Value} {tk : Nat} {nw : List (Addr × Obj)}
    (off : LCg.Off3 I C D nw) (F : Fr h₀ L h' m) (N : News h₀ L h' ((I, oI) :: (C, oC) :: (D, oD) :: nw)) (hS : S nw) (r : rest y nw) :
    LCg.CompEnd h₀ L m s₁ I oI C oC D oD S rest y { s₁ with heap := h', toks := tk } :=
  LCg.CompEnd.intro F N nw (fun p hp => hp) off hS r

theorem take_map_succ {α β : Type} (f : α → β) {l : List α} {i : Nat} {c : α} (h : l[i]? = some c) : (l.take (i + 1)).map f = (l.take i).map f ++ [f c] := by
  rw [List.take_add_one, h]; simp

/-! the program's functions, by their place in the text -/
def nthS : List Stmt → Nat → Stmt
  | [], _ => .Pass ⟨0, 0, 0, 0⟩
  | s :: _, 0 => s
  | _ :: r, n + 1 => nthS r n
noncomputable def stAt (i : Nat) : Stmt := nthS PySem.Challenge.pw_in0101_01.main.body i
noncomputable def fArgs : Stmt → Arguments
  | .FunctionDef _ a _ _ _ _ _ _ _ _ => a
  | _ => { posonlyargs := [], args := [], vararg := none, kwonlyargs := [], kw_defaults := [], kwarg := none, defaults := [] }
noncomputable def fBody : Stmt → List Stmt
  | .FunctionDef _ _ b _ _ _ _ _ _ _ => b
  | _ => []
noncomputable def fScope : Stmt → Scope
  | .FunctionDef _ _ _ _ _ _ s _ _ _ => s
  | _ => { kind := .function, names := [], isGenerator := false, isCoroutine := false }

def FnI (mg : Str → Option Value) (h : Heap) (name : Str) (i : Nat) (f : Addr) : Prop := FnAt mg h name (fArgs (stAt i)) (fBody (stAt i)) (fScope (stAt i)) f

/-- a def with one default, False -/
def FnD (mg : Str → Option Value) (h : Heap) (name : Str) (i : Nat) (f : Addr) : Prop :=
  ∃ o T oT n doc pm cdv ct an, mg name = some (.ref f) ∧ h.get? f = some o ∧ o.data = .func (fnOf name name (fArgs (stAt i)) (fBody (stAt i)) (fScope (stAt i)) (.ref T) .none doc pm an cdv ct) ∧ h.CodeRec cdv name ∧ h.get? T = some oT ∧ oT.data = .seq #[.bool false] n

def upd (m : Str → Option Value) (x : Str) (v : Value) : Str → Option Value := fun y => if y = x then some v else m y
theorem upd_eq {m : Str → Option Value} {x : Str} {v : Value} : upd m x v x = some v := if_pos rfl
theorem upd_ne {m : Str → Option Value} {x y : Str} {v : Value} (h : (y == x) = false) : upd m x v y = m y := if_neg (by simpa using h)

section
variable {prog : Program} {w : World} {A : Around} {E : Value → Shared → Prop} {s : Shared} {h₀ : Heap} {L : Addr} {m : Str → Option Value} {news : List (Addr × Obj)} {mg mb : Str → Option Value}

theorem enterFn {name : Str} {params : Arguments} {body : List Stmt} {scope : Scope} {f : Addr} {args : List Value} {binds : List (Str × Value)} {Q : Value → Shared → Prop} {d u : Nat}
    {body' : List Stmt} {scope' : Scope} (X : FnAt mg h₀ name params body scope f) (W : Md mg mb h₀) (R : Room A (d + 1) (u + 3)) (F : Fr h₀ L s.heap m) (N : News h₀ L s.heap news)
    (eb : body = body') (es : scope = scope')
    (hbind : ∀ doc pm cdv ct an, bindArgs (fnOf name name params body' scope' .none .none doc pm an cdv ct) ⟨args, []⟩ = pure binds)
    (hcell : ∀ x ∈ scope'.names, x.2 ≠ .cell) (hloc : ∀ x ∈ binds, scope'.names.lookup x.1 = some .local)
    (hco : scope'.isCoroutine = false) (hgen : scope'.isGenerator = false) (hk : scope'.kind = .function)
    (Out : Value → List (Addr × Obj) → Prop)
    (h : ∀ A' g L' h₁ cd tk, h₀.StaysIn g → Md mg mb g → Fr g L' h₁ (fun x => binds.reverse.lookup x) → News g L' h₁ news → Room A' d u →
      wpAny (model prog w) A' (execs body' (envOf name scope' L' f cd)) (Ret g L' news Out { s with heap := h₁, toks := tk }) (fun _ _ => False) { s with heap := h₁, toks := tk })
    (hQ : ∀ v h' tk' news', (∀ p ∈ news, p ∈ news') → Fr h₀ L h' m → News h₀ L h' news' → Out v news' → Q v { s with heap := h', toks := tk' }) :
    wpAny (model prog w) A (call (.ref f) args) Q E s := by
  subst eb; subst es
  obtain ⟨o, doc, pm, cdv, ct, an, hmg, ho, hd, hcd⟩ := X
  refine enter R F N W.lim ho hd hcd rfl (BindsTo.of_eq (hbind doc pm cdv ct an)) hcell hloc hco hgen hk Out (fun g L' h₁ st F' N' R' => ?_) hQ
  exact h _ g L' h₁ cdv _ st (W.keeps st) F' N' R'

theorem as_env {M : Model} {name : Str} {params : Arguments} {body body' : List Stmt} {scope scope' : Scope} {dV kV doc pm cdv ct : Value} {an : Option Addr} {L' f : Addr} {Q : Flow → Shared → Prop} (eb : body = body') (es : scope = scope')
    (h : wpAny M A (execs body' (envOf name scope' L' f cdv)) Q E s) : wpAny M A (execs body (callEnv (fnOf name name params body scope dV kV doc pm an cdv ct) L' f)) Q E s := by
  subst eb; subst es; exact h

theorem st' {name : Str} {scope : Scope} {a : Addr} {cd : Value} {x : Str} {v : Value} {Q : Unit → Shared → Prop} (F : Fr h₀ L s.heap m) (N : News h₀ L s.heap news)
    (h : ∀ h', Fr h₀ L h' (upd m x v) → News h₀ L h' news → Q () { s with heap := h', toks := s.toks + 1 })
    (hk : scope.kind = .function) (hl : (envOf name scope L a cd).kindOf x = some .local) :
    wpAny (model prog w) A (storeName (envOf name scope L a cd) x v) Q E s := stN F N h hk hl

theorem newT {v1 v2 : Value} {Q : Value → Shared → Prop} (F : Fr h₀ L s.heap m) (N : News h₀ L s.heap news)
    (h : ∀ a h', (∀ b o, s.heap.get? b = some o → b ≠ a) → Fr h₀ L h' m → News h₀ L h' ((a, ({ cls := .type "tuple", data := .seq [v1, v2].toArray } : Obj)) :: news) → Q (.ref a) { s with heap := h' }) :
    wpAny (model prog w) A (newTuple [v1, v2]) Q E s :=
  newTuple_N F N (fun h' F' N' => h _ h' (fun b o e => Nat.ne_of_lt (Heap.lt_size e)) F' N') le2
theorem newL {vs : List Value} {Q : Value → Shared → Prop} (F : Fr h₀ L s.heap m) (N : News h₀ L s.heap news) (hsz : vs.length ≤ 100000)
    (h : ∀ a h', (∀ b o, s.heap.get? b = some o → b ≠ a) → Fr h₀ L h' m → News h₀ L h' ((a, ({ cls := .type "list", data := .seq vs.toArray } : Obj)) :: news) → Q (.ref a) { s with heap := h' }) :
    wpAny (model prog w) A (newList vs) Q E s :=
  newList_N F N (fun h' F' N' => h _ h' (fun b o e => Nat.ne_of_lt (Heap.lt_size e)) F' N') (by rw [sizeLine_eq]; omega)
theorem addL {l b : Addr} {us vs : List Value} {n k : Nat} {Q : Value → Shared → Prop} (F : Fr h₀ L s.heap m) (N : News h₀ L s.heap news)
    (h1 : (l, ({ cls := .type "list", data := .seq us.toArray n } : Obj)) ∈ news) (h2 : (b, ({ cls := .type "list", data := .seq vs.toArray k } : Obj)) ∈ news) (hsz : us.length + vs.length ≤ 100000)
    (h : ∀ a h', (∀ b o, s.heap.get? b = some o → b ≠ a) → Fr h₀ L h' m → News h₀ L h' ((a, ({ cls := .type "list", data := .seq (us ++ vs).toArray } : Obj)) :: news) → Q (.ref a) { s with heap := h' }) :
    wpAny (model prog w) A (binaryOp .Add (.ref l) (.ref b)) Q E s :=
  add_arrays F N (isL N h1) (isL N h2) (fun h' F' N' => h _ h' (fun b o e => Nat.ne_of_lt (Heap.lt_size e)) F' (by simpa using N')) (by simp only [List.size_toArray, sizeLine_eq]; omega)
end

/-! loops -/
section
variable {prog : Program} {w : World} {A : Around} {E : Value → Shared → Prop} {s : Shared} {env : Env} {h₀ : Heap} {x y : Str} {body : List Stmt} {Q : Flow → Shared → Prop} {m₀ : Str → Option Value} {news : List (Addr × Obj)}

theorem loopR {r : Addr} {n : Nat} {t u v : Tok} (J : Nat → (Str → Option Value) → List (Addr × Obj) → Prop) (hh : A.handled = none) (hr : IsRange s.heap r 0 (n : Int) 1 t u v) (hn : n ≤ 100000)
    (F : Fr h₀ env.locals s.heap m₀) (N : News h₀ env.locals s.heap news) (hj : J 0 m₀ news)
    (turn : ∀ (i : Nat) t m₁ nx h tk own, i < n → OwnOff own (nx.map (·.1)) → J i m₁ nx → Fr h₀ env.locals h (upd m₁ x (.int i t)) → News h₀ env.locals h (nx ++ own) →
      wpAny (model prog w) A (execs body env) (InvPostG h₀ env.locals (J (i + 1)) own { s with heap := h, toks := tk } Q) E { s with heap := h, toks := tk })
    (done : ∀ m₁ nx h tk, J n m₁ nx → Fr h₀ env.locals h m₁ → News h₀ env.locals h nx → Q .next { s with heap := h, toks := tk }) :
    wpAny (model prog w) A (pyIter (.ref r)) (fun it s₂ => LoopAtV prog w A h₀ env x body Q E it s₂) E s := by
  refine wpAny_pyIter_range hr (small_one (by omega) (by omega) (by omega) (by omega)) ?_
  refine kdr_loop (fp := [s.heap.objs.size]) (wr := [s.heap.objs.size]) (news := news) J (LCg.range_walks hh 0 n) (fun _ h => h) (fun _ h => h) (fun i h st b hb => ?_) ?_ ?_ ?_ ?_ (F.push _) (fun p hp => ⟨Heap.get?_push_of_some _ (N p hp).1, (N p hp).2⟩) hj ?_ ?_
  · rw [List.mem_singleton.mp hb]; exact ⟨_, st⟩
  · intro hm; exact absurd F.ns.lt ((List.mem_singleton.mp hm) ▸ Nat.lt_irrefl _)
  · intro b hb; rw [List.mem_singleton.mp hb]; exact next_is_new F
  · intro p hp hI; exact absurd (Heap.lt_size (N p hp).1) ((List.mem_singleton.mp hI) ▸ Nat.lt_irrefl _)
  · show IsRangeIter _ _ _ _ _
    rw [rangeSize_nat]
    have e : (((n : Int) - 0).toNat : Int) = (n : Int) := by omega
    rw [e]
    simpa using Heap.get?_push_size _ rfl
  · rintro i v m₁ nx h tk own hi ⟨t', rfl⟩ hoff hJ F₁ N₁
    refine turn i t' m₁ nx h tk own hi hoff hJ ?_ N₁
    have e : (0 : Int) + (i : Int) = (i : Int) := Int.zero_add _
    rw [e] at F₁
    exact F₁
  · intro m₁ nx h tk hJ F₁ N₁
    exact done m₁ nx h tk hJ F₁ N₁

theorem loopS {text : Str} {tx : Tok} (J : Nat → (Str → Option Value) → List (Addr × Obj) → Prop) (hh : A.handled = none)
    (F : Fr h₀ env.locals s.heap m₀) (N : News h₀ env.locals s.heap news) (hj : J 0 m₀ news)
    (turn : ∀ (i : Nat) c t m₁ nx h tk own, text.cps.toList[i]? = some c → OwnOff own (nx.map (·.1)) → J i m₁ nx → Fr h₀ env.locals h (upd m₁ x (.str ⟨#[c]⟩ t)) → News h₀ env.locals h (nx ++ own) →
      wpAny (model prog w) A (execs body env) (InvPostG h₀ env.locals (J (i + 1)) own { s with heap := h, toks := tk } Q) E { s with heap := h, toks := tk })
    (done : ∀ m₁ nx h tk, J text.cps.toList.length m₁ nx → Fr h₀ env.locals h m₁ → News h₀ env.locals h nx → Q .next { s with heap := h, toks := tk }) :
    wpAny (model prog w) A (pyIter (.str text tx)) (fun it s₂ => LoopAtV prog w A h₀ env x body Q E it s₂) E s := by
  refine pyIter_strW fun o St W hIo hst => ?_
  refine kdr_loop (fp := [s.heap.objs.size]) (wr := [s.heap.objs.size]) (news := news) J (W A hh) (fun _ h => h) (fun _ h => h) (fun i h st b hb => ?_) ?_ ?_ ?_ hst (F.push _) (fun p hp => ⟨Heap.get?_push_of_some _ (N p hp).1, (N p hp).2⟩) hj ?_ ?_
  · rw [List.mem_singleton.mp hb]; exact hIo _ _ st
  · intro hm; exact absurd F.ns.lt ((List.mem_singleton.mp hm) ▸ Nat.lt_irrefl _)
  · intro b hb; rw [List.mem_singleton.mp hb]; exact next_is_new F
  · intro p hp hI; exact absurd (Heap.lt_size (N p hp).1) ((List.mem_singleton.mp hI) ▸ Nat.lt_irrefl _)
  · rintro i v m₁ nx h tk own hi ⟨c, t', hc, rfl⟩ hoff hJ F₁ N₁
    exact turn i c t' m₁ nx h tk own (by simpa using hc) hoff hJ F₁ N₁
  · intro m₁ nx h tk hJ F₁ N₁
    exact done m₁ nx h tk (by simpa using hJ) F₁ N₁

/-- over a list of pairs of the ledger, both parts named -/
theorem loopT {px py tp : Pos} {tk0 : Nat} {l : Addr} {vs : List Value} {nn : Nat} (J : Nat → (Str → Option Value) → List (Addr × Obj) → Prop)
    (hh : A.handled = none) (hx : env.kindOf x = some .local) (hy : env.kindOf y = some .local) (hp : (env.scope.kind == .class || (env.scope.kind == .module && env.locals != env.globals)) = false)
    (hl : (l, listOf vs.toArray nn) ∈ news) (F : Fr h₀ env.locals s.heap m₀) (N : News h₀ env.locals s.heap news) (hj : J 0 m₀ news)
    (pair : ∀ (i : Nat) v m₁ nx, vs[i]? = some v → J i m₁ nx → ∃ t o v1 v2 n, v = .ref t ∧ (t, o) ∈ nx ∧ o.cls = .type "tuple" ∧ o.data = .seq #[v1, v2] n)
    (turn : ∀ (i : Nat) t o v1 v2 n m₁ nx (s₁ : Shared) own, vs[i]? = some (.ref t) → (t, o) ∈ nx → o.cls = .type "tuple" → o.data = .seq #[v1, v2] n → OwnOff own (nx.map (·.1)) → (l, listOf vs.toArray nn) ∈ nx → J i m₁ nx →
      Fr h₀ env.locals s₁.heap (upd (upd m₁ x v1) y v2) → News h₀ env.locals s₁.heap (nx ++ own) →
      wpAny (model prog w) A (execs body env) (fun f s₂ => f = .next ∧ InvEndG h₀ env.locals (fun m' nx => (l, listOf vs.toArray nn) ∈ nx ∧ J (i + 1) m' nx) own s₁ s₂) E s₁)
    (done : ∀ m₁ nx h tk, J vs.length m₁ nx → Fr h₀ env.locals h m₁ → News h₀ env.locals h nx → Q .next { s with heap := h, toks := tk }) :
    wpAny (model prog w) A (pyIter (.ref l)) (fun it s₂ => LoopAtT prog w A h₀ env (.Tuple [.Name x px, .Name y py] tk0 tp) body Q E it s₂) E s := by
  have hol : s.heap.get? l = some (listOf vs.toArray nn) := (N _ hl).1
  have hls : s.heap.IsList l vs.toArray := ⟨_, hol, rfl, nn, rfl⟩
  have hne : l ≠ s.heap.objs.size := Nat.ne_of_lt (Heap.lt_size hol)
  refine wpAny_pyIter_list hls ?_
  have W := Walks.list (prog := prog) (w := w) hh s.heap.objs.size l hne vs.toArray
  have hlen : vs.toArray.size = vs.length := by simp
  rw [hlen] at W
  refine ⟨_, _, _, vs.length, _, _, m₀, news, (fun i m nx => (l, listOf vs.toArray nn) ∈ nx ∧ J i m nx), rfl, W, ?_, ?_, ?_, ⟨⟨_, Heap.get?_push_size _ rfl, rfl, rfl⟩, hls.at fun o e => Heap.get?_push_of_some _ e⟩, F.push _, (fun p hp => ⟨Heap.get?_push_of_some _ (N p hp).1, (N p hp).2⟩),
    (fun i s' v Q' st hQ' => letGo_listiter st.1 hQ'), ⟨hl, hj⟩, ?_, ?_⟩
  · intro hm
    rcases List.mem_cons.mp hm with e | hm
    · exact absurd F.ns.lt (e ▸ Nat.lt_irrefl _)
    · exact (N _ hl).2.1 ((List.mem_singleton.mp hm).symm)
  · intro b hb
    rw [List.mem_singleton.mp hb]
    exact next_is_new F
  · intro p hp hI
    exact absurd (Heap.lt_size (N p hp).1) ((List.mem_singleton.mp hI) ▸ Nat.lt_irrefl _)
  · rintro i v m₁ nx s₁ own hin hP ⟨hl₁, hJ⟩ hoff hown hget hfp hst F₁ N₁
    have hI0 : h₀.get? s.heap.objs.size = none := next_is_new F
    obtain ⟨⟨oI, hoI, _⟩, _⟩ := id hst
    have hIown : (s.heap.objs.size, oI) ∈ own.filter fun p => decide (p.1 = s.heap.objs.size) := List.mem_filter.mpr ⟨hfp _ (List.mem_cons.mpr (.inl rfl)) hI0 _ hoI, by simp⟩
    have hsep : OwnOff (own.filter fun p => decide (p.1 = s.heap.objs.size)) (nx.map (·.1)) := by
      intro p hp b hb e
      obtain ⟨q, hq, rfl⟩ := List.mem_map.mp hb
      have h1 : p.1 = s.heap.objs.size := by simpa using (List.mem_filter.mp hp).2
      exact hoff q hq (List.mem_singleton.mpr (e ▸ h1))
    have N₂ : News h₀ env.locals s₁.heap (nx ++ own.filter fun p => decide (p.1 = s.heap.objs.size)) := fun p hp => N₁ p ((List.mem_append.mp hp).elim (fun h => List.mem_append.mpr (.inr h)) fun h => List.mem_append.mpr (.inl ((List.mem_filter.mp h).1)))
    have hv : vs[i]? = some v := by simpa using hP
    obtain ⟨t, o, v1, v2, n, rfl, hm, hc, hd⟩ := pair i v m₁ nx hv hJ
    have hT : IsTup s₁.heap t #[v1, v2] := ⟨o, (N₂ _ (List.mem_append_left _ hm)).1, hc, n, hd⟩
    refine unpackN_ F₁ N₂ hT hh rfl rfl (fun h₂ F₂ N₂' => ?_)
    refine assignInOrder_cons (wpAny_assign_Name (wpAny_storeName_local hx F₂.ns (fun h₃ hn₃ hs₃ => ?_) hp))
    have F₃ := F₂.set hn₃ hs₃
    have N₃ := N₂'.set hs₃
    refine assignInOrder_cons (wpAny_assign_Name (wpAny_storeName_local hy F₃.ns (fun h₄ hn₄ hs₄ => ?_) hp))
    have F₄ := F₃.set hn₄ hs₄
    have N₄ := N₃.set hs₄
    refine assignInOrder_nil ?_
    refine wpAny_mono (turn i t o v1 v2 n m₁ nx _ _ hv hm hc hd hsep hl₁ hJ F₄ N₄) (fun f s₂ p => ?_) fun _ _ e => e
    obtain ⟨rfl, h', tk, m', news', nx', e, F', N', hn, ho, ha, hm'⟩ := p
    have hlo : s₁.heap.get? l = some (listOf vs.toArray nn) := (N₂ _ (List.mem_append_left _ hl₁)).1
    refine ⟨rfl, h', tk, m', nx', e, F', fun p hp => ?_, fun p hp hq => ?_, hm'⟩
    · rcases List.mem_append.mp hp with h | h
      · by_cases hI : p.1 = s.heap.objs.size
        · exact N' p (ho p (List.mem_filter.mpr ⟨h, by simpa using hI⟩))
        · have h1 : p.1 = l := by
            rcases List.mem_cons.mp (hown p h) with h2 | h2
            · exact absurd h2 hI
            · exact List.mem_singleton.mp h2
          have h2 : s₁.heap.get? p.1 = some p.2 := hget p h
          rw [h1, hlo] at h2
          have h3 : p = (l, listOf vs.toArray nn) := Prod.ext h1 (Option.some.inj h2).symm
          rw [h3]
          exact N' _ (hn _ hm'.1)
      · exact N' p (hn p h)
    · exact ha _ hIown p.1 (List.mem_map.mpr ⟨p, hp, rfl⟩) (List.mem_singleton.mp hq).symm
  · rintro h' tk m' news' F' N' _ ⟨_, hJ⟩
    exact done m' news' h' tk hJ F' N'
end

/-! names of the module and of the builtins, the ledger's lists -/
section
variable {prog : Program} {w : World} {A : Around} {E : Value → Shared → Prop} {s : Shared} {h₀ : Heap} {L : Addr} {m : Str → Option Value} {news : List (Addr × Obj)} {mg mb : Str → Option Value}

theorem ldg {name : Str} {scope : Scope} {a : Addr} {cd : Value} {x : Str} {pos : Pos} {v : Value} {Q : Value → Shared → Prop} (F : Fr h₀ L s.heap m) (W : Md mg mb h₀) (hv : mg x = some v) (h : Q v s)
    (hk : scope.kind = .function) (hx : (envOf name scope L a cd).kindOf x = some .globalImplicit) (hd : (x == ("__debug__" : Str)) = false) :
    wpAny (model prog w) A (eval (.Name x pos) (envOf name scope L a cd)) Q E s := ld_global_at F W.g hv h hk hx hd
theorem ldb {name : Str} {scope : Scope} {a : Addr} {cd : Value} {x : Str} {pos : Pos} {v : Value} {Q : Value → Shared → Prop} (F : Fr h₀ L s.heap m) (W : Md mg mb h₀) (hb : bootBuiltins x = some v) (hf : x ∈ bNames) (h : Q v s)
    (hk : scope.kind = .function) (hx : (envOf name scope L a cd).kindOf x = some .globalImplicit) (hd : (x == ("__debug__" : Str)) = false) (hn : x ≠ "__name__") :
    wpAny (model prog w) A (eval (.Name x pos) (envOf name scope L a cd)) Q E s := ld_builtin_at F W.g (W.free x hf) W.b ((W.bi x hn).trans hb) h hk hx hd

theorem appL {D : Addr} {ys : List Value} {n : Nat} {rest : List (Addr × Obj)} {v : Value} {Q : Value → Shared → Prop} (F : Fr h₀ L s.heap m) (N : News h₀ L s.heap ((D, listOf ys.toArray n) :: rest)) (off : ∀ p ∈ rest, p.1 ≠ D) (hsz : ys.length ≤ 100000)
    (h : ∀ h' n', Fr h₀ L h' m → News h₀ L h' ((D, listOf (ys ++ [v]).toArray n') :: rest) → Q .none { s with heap := h' }) :
    wpAny (model prog w) A (call (.builtin "list.append") [.ref D, v]) Q E s := by
  have z := N _ (List.mem_cons_self ..)
  refine append_at z.1 (fun h' hs hD => ?_) (by simp only [List.size_toArray, sizeLine_eq]; omega)
  refine h h' (n + 1) (F.change hs z.2.1 z.2.2) fun p hp => ?_
  rcases List.mem_cons.mp hp with rfl | hp
  · exact ⟨by rw [hD]; simp, z.2⟩
  · have q := N p (List.mem_cons_of_mem _ hp)
    exact ⟨hs.extBut _ _ (off p hp) q.1, q.2⟩

theorem extL {D b : Addr} {ys zs : List Value} {n n2 : Nat} {rest : List (Addr × Obj)} {Q : Value → Shared → Prop} (F : Fr h₀ L s.heap m) (N : News h₀ L s.heap ((D, listOf ys.toArray n) :: rest)) (off : ∀ p ∈ rest, p.1 ≠ D)
    (hb : s.heap.get? b = some (listOf zs.toArray n2)) (hsz : ys.length + zs.length ≤ 100000)
    (h : ∀ h' n', Fr h₀ L h' m → News h₀ L h' ((D, listOf (ys ++ zs).toArray n') :: rest) → Q .none { s with heap := h' }) :
    wpAny (model prog w) A (call (.builtin "list.extend") [.ref D, .ref b]) Q E s :=
  extend_in (own := []) F N (fun _ h => nomatch h) off hb (fun h' n' F' N' => h h' n' F' N') (by simp only [List.size_toArray, sizeLine_eq]; omega)

theorem seq_mid {M : Model} {env : Env} {st : Stmt} {rest : List Stmt} {Q : Flow → Shared → Prop} (P : Shared → Prop) (h1 : wpAny M A (exec st env) (fun f s' => f = .next ∧ P s') E s) (h2 : ∀ s', P s' → wpAny M A (execs rest env) Q E s') :
    wpAny M A (execs (st :: rest) env) Q E s := by
  refine wpAny_execs_cons (wpAny_mono h1 (fun f s' h => ?_) fun _ _ e => e)
  obtain ⟨rfl, hp⟩ := h
  exact h2 _ hp

theorem itemL {value slice : PySem.Expr} {l : Addr} {xs : Array Value} {k : Int} {u : Tok} {v : Value} {Q : Value → Shared → Prop} (hl : s.heap.IsList l xs) (h0 : 0 ≤ k) (hk : k < 2 ^ 63) (hx : xs[k.toNat]? = some v) (h : Q v s)
    (hs : subscripted slice false (.ref l) (.int k u) = operate [.ref l, .int k u] (getItem (.ref l) (.int k u))) :
    wpAny (model prog w) A (subscriptTail value slice (.ref l) (.int k u)) Q E s :=
  tail_any hl.typeIs slot_list_getitem.lookup (wpAny_getItem_list hl h0 hk hx h) hs

theorem nswap {h : Heap} {p q : Addr × Obj} {r : List (Addr × Obj)} (N : News h₀ L h (p :: q :: r)) : News h₀ L h (q :: p :: r) := fun x hx => by
  rcases List.mem_cons.mp hx with rfl | hx
  · exact N _ (List.mem_cons_of_mem _ (List.mem_cons_self ..))
  · rcases List.mem_cons.mp hx with rfl | hx
    · exact N _ (List.mem_cons_self ..)
    · exact N _ (List.mem_cons_of_mem _ (List.mem_cons_of_mem _ hx))
theorem ownOff_cons {own : List (Addr × Obj)} {l : List Addr} {a : Addr} (h : OwnOff own l) (ha : ∀ p ∈ own, p.1 ≠ a) : OwnOff own (a :: l) := fun p hp b hb => by
  rcases List.mem_cons.mp hb with rfl | hb
  · exact ha p hp
  · exact h p hp b hb
theorem ownOff_tail {own : List (Addr × Obj)} {l : List Addr} {a : Addr} (h : OwnOff own (a :: l)) : OwnOff own l := fun p hp b hb => h p hp b (List.mem_cons_of_mem _ hb)
end

/-! the last item of a list: read and stored by -1 -/
section
variable {prog : Program} {w : World} {A : Around} {E : Value → Shared → Prop} {s : Shared}

theorem setItem_neg {l : Addr} {items : Array Value} {k : Int} {t : Tok} {v : Value} {Q : Unit → Shared → Prop} (hl : s.heap.IsList l items)
    (h0 : k < 0) (h1 : -(items.size : Int) ≤ k) (hfit : -(2 ^ 63) ≤ k)
    (hQ : ∀ h', h'.IsList l (items.setIfInBounds (k + items.size).toNat v) → h' = s.heap.update l (Obj.mapSeq (·.setIfInBounds (k + items.size).toNat v)) → Q () { s with heap := h' }) :
    wpAny (model prog w) A (setItem (.ref l) (.int k t) v) Q E s := by
  obtain ⟨o, ho, hc, ne, hd⟩ := id hl
  unfold setItem
  try with_reducible refine wpAny_holding ?_
  first | refine wpAny_bind (wpAny_pure ?_) | skip
  refine wpAny_bind (wpAny_sequenceKey hl.typeIs (by decide) ?_)
  refine wpAny_bind (wpAny_callSpecial?_slot (name := Str.ofString "__setitem__") hl.typeIs slot_list_setitem
    (wpAny_call_entry slot_list_setitem hl.typeIs entry_list_setitem ?_ (args_list_setitem _ _ _)))
  show wpAny _ _ (Builtin.List.listSubscript? (.int k t) >>= _) _ _ s
  refine wpAny_bind (wpAny_listSubscript_int (fitsIndex_neg h0 hfit) ?_)
  clear hfit
  have hidx := seqIndex_neg h0 h1
  have hj : (k + items.size).toNat < items.size := by omega
  generalize (k + items.size).toNat = j' at hidx hj hQ
  obtain ⟨j, rfl⟩ : ∃ j : Nat, k = Int.negSucc j := by
    cases k with
    | ofNat n => exact absurd h0 (Int.not_lt.mpr (Int.natCast_nonneg n))
    | negSucc n => exact ⟨n, rfl⟩
  have hx' : items[j']? = some items[j'] := Array.getElem?_eq_getElem hj
  show wpAny _ _ ((Builtin.List.listItems (.ref l) >>= fun xs => pure ((seqIndex? (Int.negSucc j) xs.size).bind fun i => xs[i]?.map (i, ·))) >>= _) _ _ s
  refine wpAny_bind (wpAny_bind ?_)
  show wpAny _ _ (seqItems? (.ref l) >>= _) _ _ s
  refine wpAny_bind (wpAny_seqItems ho hd (wpAny_pure (wpAny_pure ?_)))
  rw [hidx]
  simp only [Option.bind_some, hx', Option.map_some]
  show wpAny _ _ (setSeqItemAt l j' v >>= _) _ _ s
  obtain ⟨n', hd'⟩ := Obj.data_mapSeq hd (·.setIfInBounds j' v)
  have hfin : (s.heap.update l (Obj.mapSeq (·.setIfInBounds j' v))).IsList l (items.setIfInBounds j' v) :=
    ⟨_, Heap.get?_update_self _ ho (Obj.isFreed_of_seq hd'), (Obj.cls_mapSeq ..).trans hc, n', hd'⟩
  refine wpAny_bind (wpAny_setSeqItemAt ho hd ?_)
  first
    | exact wpAny_bind (wpAny_pure (wpAny_pure ⟨.none, rfl, wpAny_pure (hQ _ hfin rfl)⟩))
    | exact wpAny_pure ⟨.none, rfl, wpAny_pure (hQ _ hfin rfl)⟩

variable {h₀ : Heap} {L : Addr} {m : Str → Option Value}
theorem getLast {D : Addr} {us : List Value} {u : Value} {n : Nat} {t : Tok} {Q : Value → Shared → Prop} (hD : s.heap.get? D = some (listOf (us ++ [u]).toArray n)) (h : Q u s) :
    wpAny (model prog w) A (getItem (.ref D) (.int (-1) t)) Q E s := by
  refine wpAny_getItem_list_neg (items := (us ++ [u]).toArray) ⟨_, hD, rfl, n, rfl⟩ (by decide) (by simp; omega) (by decide) ?_ h
  have e : ((-1 : Int) + ((us ++ [u]).toArray.size : Nat)).toNat = us.length := by simp; omega
  rw [e]
  simp

theorem setLast {D : Addr} {us : List Value} {u v : Value} {n : Nat} {t : Tok} {rest : List (Addr × Obj)} {Q : Unit → Shared → Prop} (F : Fr h₀ L s.heap m) (N : News h₀ L s.heap ((D, listOf (us ++ [u]).toArray n) :: rest)) (off : ∀ p ∈ rest, p.1 ≠ D)
    (h : ∀ h' n', Fr h₀ L h' m → News h₀ L h' ((D, listOf (us ++ [v]).toArray n') :: rest) → Q () { s with heap := h' }) :
    wpAny (model prog w) A (setItem (.ref D) (.int (-1) t) v) Q E s := by
  have z := N _ (List.mem_cons_self ..)
  refine setItem_neg (items := (us ++ [u]).toArray) ⟨_, z.1, rfl, n, rfl⟩ (by decide) (by simp; omega) (by decide) (fun h' _ e => ?_)
  have e1 : ((-1 : Int) + ((us ++ [u]).toArray.size : Nat)).toNat = us.length := by simp; omega
  rw [e1] at e
  have hs : Heap.SameBut D s.heap h' := e ▸ Heap.SameBut.update ..
  have hD : h'.get? D = some (listOf (us ++ [v]).toArray n) := by
    rw [e, Heap.get?_update_self _ z.1 (by rfl)]
    simp [Obj.mapSeq]
  refine h h' n (F.change hs z.2.1 z.2.2) fun p hp => ?_
  rcases List.mem_cons.mp hp with rfl | hp
  · exact ⟨hD, z.2⟩
  · have q := N p (List.mem_cons_of_mem _ hp)
    exact ⟨hs.extBut _ _ (off p hp) q.1, q.2⟩
end

/-! a def with one cell -/
section
variable {prog : Program} {w : World} {A : Around} {E : Value → Shared → Prop} {s : Shared} {h₀ : Heap} {L : Addr} {m : Str → Option Value} {news : List (Addr × Obj)} {mg mb : Str → Option Value}

theorem enterC {name y : Str} {params : Arguments} {body : List Stmt} {scope : Scope} {f : Addr} {args : List Value} {binds : List (Str × Value)} {Q : Value → Shared → Prop} {d u : Nat}
    {body' : List Stmt} {scope' : Scope} {m₀ : Str → Option Value} (X : FnAt mg h₀ name params body scope f) (W : Md mg mb h₀) (R : Room A (d + 1) (u + 3)) (F : Fr h₀ L s.heap m) (N : News h₀ L s.heap news)
    (eb : body = body') (es : scope = scope')
    (hbind : ∀ doc pm cdv ct an, bindArgs (fnOf name name params body' scope' .none .none doc pm an cdv ct) ⟨args, []⟩ = pure binds)
    (hkind : ∀ x ∈ binds, scope'.names.lookup x.1 = some .local) (hone : ∀ n, cellsFrom n scope'.names [] = [(y, n)])
    (hm₀ : ∀ L' cd c, bindL (envX name scope' L' f cd [(y, c)]).kindOf binds (fun _ => none) = m₀) (hc₀ : ∀ L' cd c, bindC (envX name scope' L' f cd [(y, c)]).kindOf binds (fun _ => none) y = none)
    (hco : scope'.isCoroutine = false) (hgen : scope'.isGenerator = false) (hk : scope'.kind = .function)
    (Out : Value → List (Addr × Obj) → Prop)
    (h : ∀ A' g L' h₁ cd tk c oc, h₀.StaysIn g → Md mg mb g → Fr g L' h₁ m₀ → News g L' h₁ ((c, oc) :: news) → oc.data = .cell none → (∀ p ∈ news, p.1 ≠ c) → Room A' d u →
      wpAny (model prog w) A' (execs body' (envX name scope' L' f cd [(y, c)])) (Ret g L' news Out { s with heap := h₁, toks := tk }) (fun _ _ => False) { s with heap := h₁, toks := tk })
    (hQ : ∀ v h' tk' news', (∀ p ∈ news, p ∈ news') → (∀ b o, s.heap.get? b = some o → b ∉ news.map (·.1) → h'.get? b = some o) → (∀ p ∈ news', p ∈ news ∨ s.heap.get? p.1 = none) → Fr h₀ L h' m → News h₀ L h' news' → Out v news' → Q v { s with heap := h', toks := tk' }) :
    wpAny (model prog w) A (call (.ref f) args) Q E s := by
  subst eb; subst es
  obtain ⟨o, doc, pm, cdv, ct, an, hmg, ho, hd, hcd⟩ := X
  have nm : ∀ b o, h₀.get? b = some o → b ∉ news.map (·.1) := fun b o e q => by
    obtain ⟨p, hp, rfl⟩ := List.mem_map.mp q
    rw [(N p hp).2.2] at e; cases e
  have st : h₀.StaysIn (hideAll s.heap (news.map (·.1))) := fun b o e => hideAll_get _ (F.keep b o e) (nm b o e)
  obtain ⟨oL, es, ep, hL, hLd, hLk, hLf⟩ := F.ns
  have nL : L ∉ news.map (·.1) := fun q => by
    obtain ⟨p, hp, e⟩ := List.mem_map.mp q
    exact (N p hp).2.1 e
  have hLg := hideAll_get (news.map (·.1)) hL nL
  refine wpAny_call ?_
  refine codeAny_call_function (by have := R.hd; omega) (F.keep _ _ ho) hd hco hgen rfl (hcd.keeps F.keep) (BindsTo.of_eq (hbind doc pm cdv ct an) _ _ _ _ ?_)
  refine wpAny_newFunctionEnv_cells hk (fun x hx => .inl (hkind x hx)) fun env' he s' x => ?_
  subst he
  refine ⟨(W.lim.keeps F.keep).keeps x.toInCall.keep, codeAny_func ?_⟩
  obtain ⟨h₁, tk, rfl, _⟩ := x.done
  have hk₁ := x.toInCall.keep
  have hns := x.toInCall.ns
  have hcl : (newEnv scope s.heap.objs.size mainGlobals (cellsFrom (s.heap.objs.size + 1) scope.names []) (name ++ ".<locals>.") (some f) cdv none builtinsNs).cells = [(y, s.heap.objs.size + 1)] := hone _
  have hcell := x.cell y (s.heap.objs.size + 1) (by rw [hcl]; simp)
  have eE : newEnv scope s.heap.objs.size mainGlobals (cellsFrom (s.heap.objs.size + 1) scope.names []) (name ++ ".<locals>.") (some f) cdv none builtinsNs = envX name scope s.heap.objs.size f cdv [(y, s.heap.objs.size + 1)] := by rw [hone]; rfl
  obtain ⟨oc, hoc, hocd⟩ := hcell
  have hocd' : oc.data = .cell none := by
    rw [hocd]
    refine congrArg Data.cell ?_
    exact (congrArg (fun e : Env => bindC e.kindOf binds (fun _ => none) y) eE).trans (hc₀ _ _ _)
  have hns' : h₁.Ns s.heap.objs.size m₀ := by
    have e : bindL (newEnv scope s.heap.objs.size mainGlobals (cellsFrom (s.heap.objs.size + 1) scope.names []) (name ++ ".<locals>.") (some f) cdv none builtinsNs).kindOf binds (fun _ => none) = m₀ := (congrArg (fun e : Env => bindL e.kindOf binds (fun _ => none)) eE).trans (hm₀ _ _ _)
    exact e ▸ hns
  have hlt : ∀ p ∈ news, p.1 < s.heap.objs.size := fun p hp => Heap.lt_size (N p hp).1
  refine wpAny_mono (Q := Ret (hideAll s.heap (news.map (·.1))) s.heap.objs.size news Out { s with heap := h₁, toks := tk }) (E := fun _ _ => False) ?_ (fun fl s' hr => ?_) (fun _ _ x => x.elim)
  · refine eE ▸ h _ (hideAll s.heap (news.map (·.1))) s.heap.objs.size h₁ cdv tk (s.heap.objs.size + 1) oc st (W.keeps st) ⟨hns', fun b o e => hk₁ b o (of_hideAll _ e), Nat.le_of_eq (hideAll_size _ _)⟩ (fun p hp => ?_) hocd' (fun p hp e => ?_) R.deeper
    · rcases List.mem_cons.mp hp with rfl | hp
      · exact ⟨hoc, Nat.ne_of_gt (Nat.lt_succ_self _), Heap.get?_none_of_le (by rw [hideAll_size]; exact Nat.le_succ _)⟩
      · exact ⟨hk₁ _ _ (N p hp).1, Nat.ne_of_lt (hlt p hp), hideAll_none _ (List.mem_map_of_mem hp)⟩
    · have := hlt p hp
      rw [e] at this
      exact absurd this (Nat.not_lt.mpr (Nat.le_succ _))
  · obtain ⟨v, h', tk', m', news', rfl, rfl, F', N', hs, hO⟩ := hr
    refine hQ v h' tk' news' hs (fun b o e hb => F'.keep b o (hideAll_get _ e hb)) (fun p hp => ?_) ⟨⟨oL, es, ep, F'.keep L oL hLg, hLd, hLk, hLf⟩, fun b o e => F'.keep b o (st b o e), F.above⟩ (fun p hp => ⟨(N' p hp).1, fun q => ?_, ?_⟩) hO
    · by_cases hb : p.1 ∈ news.map (·.1)
      · obtain ⟨q, hq, e⟩ := List.mem_map.mp hb
        have h1 := (N' p hp).1
        have h2 := (N' q (hs q hq)).1
        rw [e, h1] at h2
        exact .inl ((Prod.ext e (Option.some.inj h2).symm : q = p) ▸ hq)
      · refine .inr ?_
        cases q : s.heap.get? p.1 with
        | none => rfl
        | some o => have := (N' p hp).2.2; rw [hideAll_get _ q hb] at this; cases this
    · have := (N' p hp).2.2; rw [q, hLg] at this; cases this
    · cases q : h₀.get? p.1 with
      | none => rfl
      | some o => have := (N' p hp).2.2; rw [st _ _ q] at this; cases this

theorem lxL {name : Str} {scope : Scope} {a : Addr} {cd : Value} {cl : List (Str × Addr)} {x : Str} {pos : Pos} {v : Value} {Q : Value → Shared → Prop} (F : Fr h₀ L s.heap m) (hv : m x = some v) (h : Q v s)
    (hk : scope.kind = .function) (hx : (envX name scope L a cd cl).kindOf x = some .local) (hd : (x == ("__debug__" : Str)) = false) :
    wpAny (model prog w) A (eval (.Name x pos) (envX name scope L a cd cl)) Q E s := nameX_L F hv h hk hx hd
theorem lxC {name : Str} {scope : Scope} {a c : Addr} {o : Obj} {cd : Value} {cl : List (Str × Addr)} {x : Str} {pos : Pos} {v : Value} {Q : Value → Shared → Prop} (N : News h₀ L s.heap news) (hd : o.data = .cell (some v)) (hm : (c, o) ∈ news) (h : Q v s)
    (hc : cl.lookup x = some c) (hk : scope.kind = .function) (hx : (envX name scope L a cd cl).kindOf x = some .cell) (hb : (x == ("__debug__" : Str)) = false) :
    wpAny (model prog w) A (eval (.Name x pos) (envX name scope L a cd cl)) Q E s := nameX_C N hc hm hd h hk hx hb
theorem lxg {name : Str} {scope : Scope} {a : Addr} {cd : Value} {cl : List (Str × Addr)} {x : Str} {pos : Pos} {v : Value} {Q : Value → Shared → Prop} (F : Fr h₀ L s.heap m) (W : Md mg mb h₀) (hv : mg x = some v) (h : Q v s)
    (hk : scope.kind = .function) (hx : (envX name scope L a cd cl).kindOf x = some .globalImplicit) (hd : (x == ("__debug__" : Str)) = false) :
    wpAny (model prog w) A (eval (.Name x pos) (envX name scope L a cd cl)) Q E s := Name_function_global hk hx (loadGlobal_global (env := envX name scope L a cd cl) (W.g.keeps F.keep) hv h) hd
theorem lxb {name : Str} {scope : Scope} {a : Addr} {cd : Value} {cl : List (Str × Addr)} {x : Str} {pos : Pos} {v : Value} {Q : Value → Shared → Prop} (F : Fr h₀ L s.heap m) (W : Md mg mb h₀) (hb : bootBuiltins x = some v) (hf : x ∈ bNames) (h : Q v s)
    (hk : scope.kind = .function) (hx : (envX name scope L a cd cl).kindOf x = some .globalImplicit) (hd : (x == ("__debug__" : Str)) = false) (hn : x ≠ "__name__") :
    wpAny (model prog w) A (eval (.Name x pos) (envX name scope L a cd cl)) Q E s :=
  Name_function_global hk hx (loadGlobal_builtin (env := envX name scope L a cd cl) (W.g.keeps F.keep) (W.free x hf) (W.b.keeps F.keep) ((W.bi x hn).trans hb) h) hd
theorem sxL {name : Str} {scope : Scope} {a : Addr} {cd : Value} {cl : List (Str × Addr)} {x : Str} {v : Value} {Q : Unit → Shared → Prop} (F : Fr h₀ L s.heap m) (N : News h₀ L s.heap news)
    (h : ∀ h', Fr h₀ L h' (upd m x v) → News h₀ L h' news → Q () { s with heap := h', toks := s.toks + 1 })
    (hk : scope.kind = .function) (hl : (envX name scope L a cd cl).kindOf x = some .local) :
    wpAny (model prog w) A (storeName (envX name scope L a cd cl) x v) Q E s := storeX_L F N h hk hl
theorem sxC {name : Str} {scope : Scope} {a c : Addr} {o : Obj} {cd : Value} {cl : List (Str × Addr)} {x : Str} {v : Value} {v₀ : Option Value} {Q : Unit → Shared → Prop} (F : Fr h₀ L s.heap m) (N : News h₀ L s.heap ((c, o) :: news)) (hd : o.data = .cell v₀) (off : ∀ p ∈ news, p.1 ≠ c)
    (h : ∀ h' o', Fr h₀ L h' m → News h₀ L h' ((c, o') :: news) → o'.data = .cell (some v) → Q () { s with heap := h' })
    (hc : cl.lookup x = some c) (hk : scope.kind = .function) (hx : (envX name scope L a cd cl).kindOf x = some .cell) :
    wpAny (model prog w) A (storeName (envX name scope L a cd cl) x v) Q E s := storeX_C F N hc (.head off) hd h hk hx

/-- one turn of a comprehension over pairs -/
def PTurn (prog : Program) (w : World) (A : Around) (h₀ : Heap) (L : Addr) (m : Str → Option Value) (env : Env) (elt : Expr) (x x₂ : Str) (scope : Scope) (cl : List (Str × Addr)) (s : Shared) (S : List (Addr × Obj) → Prop) (vs : List Value) (J : Nat → List Value → List (Addr × Obj) → Prop) : Prop :=
  ∀ i ys news v, vs[i]? = some v → J i ys news → S news → ∃ (t : Addr) (ot : Obj) (v₁ v₂ : Value) (nt : Nat), v = .ref t ∧ (t, ot) ∈ news ∧ ot.cls = .type "tuple" ∧ ot.data = .seq #[v₁, v₂] nt ∧
      ∀ I oI C oC D m₂ h tk (E' : Value → Shared → Prop), LCg.NsObj oC m₂ → m₂ x = some v₁ → m₂ x₂ = some v₂ → Fr h₀ L h m → News h₀ L h ((I, oI) :: (C, oC) :: (D, LCg.lst ys) :: news) → LCg.Off3 I C D news →
      wpAny (model prog w) A (eval elt (compEnvC scope cl C env)) (LCg.CompEnd h₀ L m { s with heap := h, toks := tk } I oI C oC D (LCg.lst ys) S (fun y news' => J (i + 1) (ys ++ [y]) news')) E' { s with heap := h, toks := tk }
theorem PTurn.rest {env : Env} {elt : Expr} {x x₂ : Str} {scope : Scope} {cl : List (Str × Addr)} {S : List (Addr × Obj) → Prop} {vs : List Value} {J : Nat → List Value → List (Addr × Obj) → Prop} {Fin : List Value → List (Addr × Obj) → Prop}
    (T : PTurn prog w A h₀ L m env elt x x₂ scope cl s S vs J) (done : ∀ ys news, J vs.length ys news → Fin ys news) :
    ∀ k i ys news, i + k = vs.length → J i ys news → S news → LCp.CompRestP prog w A h₀ L m env elt x x₂ scope cl s S (fun i v => vs.toArray[i]? = some v) Fin k i ys news := by
  intro k
  induction k with
  | zero => intro i ys news e j _; exact LCp.CompRestP.zero (done _ _ (by have : i = vs.length := by omega
                                                                          exact this ▸ j))
  | succ k ih =>
    intro i ys news e j hS
    refine LCp.CompRestP.succ fun v hv => ?_
    obtain ⟨t, ot, v₁, v₂, nt, hvt, hm, hc, hd, hT⟩ := T i ys news v (by simpa using hv) j hS
    refine ⟨t, ot, v₁, v₂, nt, hvt, hm, hc, hd, fun I oI C oC D m₂ h tk E' hC hx hy F N off ne => ?_⟩
    refine wpAny_mono (hT I oI C oC D m₂ h tk E' hC hx hy F N off) (fun y s' hy => ?_) fun _ _ e => e
    obtain ⟨h', tk', news', e', F', N', off', hS', j'⟩ := hy
    exact ⟨h', tk', news', e', F', N', off', hS', ih (i + 1) _ _ (by omega) j' hS'⟩

/-- a comprehension that takes the first or the second of each pair -/
theorem srcP {env : Env} {elt : Expr} {x x₂ : Str} {scope : Scope} {cl : List (Str × Addr)} {Fin : Shared → List Value → List (Addr × Obj) → Prop} {xv : Value} {s₁ : Shared} {ps : List (PyData × PyData)} {pos : Pos}
    (hh : A.handled = none) (F : Fr h₀ L s₁.heap m) (N : News h₀ L s₁.heap news) (hr : In news xv (.list (ps.map fun p => .tuple [p.1, p.2]))) (hsz : ps.length ≤ 100000)
    (he : elt = .Name x pos) (hk : scope.kind = .function) (hx : scope.names.lookup x = some .local) (hd : (x == ("__debug__" : Str)) = false)
    (done : ∀ ys g, InAll news ys (ps.map (·.1)) → Fin { s₁ with heap := g } ys news) :
    LCp.SrcLP prog w A h₀ L m env elt x x₂ scope cl Fin xv s₁ := by
  obtain ⟨ax, xs, k, rfl, hm, hin⟩ := hr.inv_list
  have hl : xs.length = ps.length := by simpa using hin.length
  refine LCp.SrcLP.ledger hh F N hm (by rw [sizeLine_eq]; simp; omega) (fun g => ?_)
  have T : PTurn prog w A h₀ L m env elt x x₂ scope cl { s₁ with heap := g } (LCg.SrcAt h₀ ax xs.toArray) xs (fun i ys nw => nw = news ∧ InAll news ys ((ps.map (·.1)).take i)) := by
    rintro i ys nw v hv ⟨rfl, hys⟩ hS
    obtain ⟨d, hdi, hdn⟩ := hin.get hv
    obtain ⟨p, hp, rfl⟩ : ∃ p, ps[i]? = some p ∧ (PyData.tuple [p.1, p.2]) = d := by
      rw [List.getElem?_map] at hdi
      simpa using hdi
    obtain ⟨t, v1, v2, n, rfl, htm, h1, h2⟩ := hdn.inv_pair
    refine ⟨t, _, v1, v2, n, rfl, htm, rfl, rfl, fun I oI C oC D m₂ h tk E' hC hx1 hx2 F' N' off => ?_⟩
    subst he
    refine ldc N' (by simp) hC hx1 ?_ hk hx hd
    refine cend0 off F' N' hS ⟨rfl, ?_⟩
    rw [List.take_add_one]
    refine hys.append ?_
    rw [List.getElem?_map, hp]
    exact .one h1
  have := T.rest (Fin := Fin { s₁ with heap := g }) (fun ys nw hj => by
    obtain ⟨rfl, hj⟩ := hj
    refine done ys g ?_
    rw [List.take_of_length_le (by simp; omega)] at hj
    exact hj) xs.length 0 [] news (Nat.zero_add _) ⟨rfl, .nil⟩ (.inr ⟨_, hm, rfl, _, rfl⟩)
  simpa using this

/-- slices of a list of the ledger -/
theorem sliceFrom {value slice : Expr} {l : Addr} {xs : List Value} {n : Nat} {k : Nat} {t : Tok} {Q : Value → Shared → Prop}
    (F : Fr h₀ L s.heap m) (N : News h₀ L s.heap news) (hl : (l, ({ cls := .type "list", data := .seq xs.toArray n } : Obj)) ∈ news) (hsz : xs.length ≤ 100000)
    (h : ∀ a h', (∀ b o, s.heap.get? b = some o → b ≠ a) → Fr h₀ L h' m → News h₀ L h' ((a, ({ cls := .type "list", data := .seq (xs.drop k).toArray } : Obj)) :: news) → Q (.ref a) { s with heap := h' })
    (hs : subscripted slice false (.ref l) (.ref s.heap.objs.size) = operate [.ref s.heap.objs.size, .ref l] (getItem (.ref l) (.ref s.heap.objs.size))) :
    wpAny (model prog w) A (subscriptTail value slice (.ref l) (.ref s.heap.objs.size)) Q E { s with heap := s.heap.push { cls := .type "slice", data := .fields #[.int (k : Int) t, .none, .none] } } := by
  refine kba_turn (value' := .Name (PySem.Str.ofString "_") ⟨0, 0, 0, 0⟩) (fun _ => rfl) (slice_list F N (isL N hl) (.int _ _) .none (fun h' F' N' => ?_) hs (fun _ => rfl) (by rw [sizeLine_eq]; simp; omega))
  refine h _ h' (fun b o e => Nat.ne_of_lt (Nat.lt_succ_of_lt (Heap.lt_size e))) F' ?_
  rw [slicePick_from'] at N'
  exact N'
theorem sliceUpto {value slice : Expr} {l : Addr} {xs : List Value} {n : Nat} {k : Nat} {t : Tok} {Q : Value → Shared → Prop}
    (F : Fr h₀ L s.heap m) (N : News h₀ L s.heap news) (hl : (l, ({ cls := .type "list", data := .seq xs.toArray n } : Obj)) ∈ news) (hsz : xs.length ≤ 100000)
    (h : ∀ a h', (∀ b o, s.heap.get? b = some o → b ≠ a) → Fr h₀ L h' m → News h₀ L h' ((a, ({ cls := .type "list", data := .seq (xs.take k).toArray } : Obj)) :: news) → Q (.ref a) { s with heap := h' })
    (hs : subscripted slice false (.ref l) (.ref s.heap.objs.size) = operate [.ref s.heap.objs.size, .ref l] (getItem (.ref l) (.ref s.heap.objs.size))) :
    wpAny (model prog w) A (subscriptTail value slice (.ref l) (.ref s.heap.objs.size)) Q E { s with heap := s.heap.push { cls := .type "slice", data := .fields #[.none, .int (k : Int) t, .none] } } := by
  refine kba_turn (value' := .Name (PySem.Str.ofString "_") ⟨0, 0, 0, 0⟩) (fun _ => rfl) (slice_list F N (isL N hl) .none (.int _ _) (fun h' F' N' => ?_) hs (fun _ => rfl) (by rw [sizeLine_eq]; simp; omega))
  refine h _ h' (fun b o e => Nat.ne_of_lt (Nat.lt_succ_of_lt (Heap.lt_size e))) F' ?_
  rw [slicePick_upto'] at N'
  exact N'
end

/-! whole numbers -/
section
variable {prog : Program} {w : World} {A : Around} {E : Value → Shared → Prop} {s : Shared} {t u : Tok} {Q : Value → Shared → Prop}
theorem modN {a : Nat} {b : Nat} {c : Int} (e : c = (b : Int)) (hb : b ≠ 0) (h : Q (.int ((a % b : Nat) : Int) s.toks) { s with toks := s.toks + 1 }) : wpAny (model prog w) A (binaryOp .Mod (.int (a : Int) t) (.int c u)) Q E s := by
  subst e
  refine mod_int' (by omega) ?_
  rw [show (a : Int).fmod (b : Int) = ((a % b : Nat) : Int) from (Int.ofNat_fmod a b).symm]
  exact h
theorem fdivN {a : Nat} {b : Nat} {c : Int} (e : c = (b : Int)) (hb : b ≠ 0) (hs : b < 1073741824) (h : Q (.int ((a / b : Nat) : Int) s.toks) { s with toks := s.toks + 1 }) : wpAny (model prog w) A (binaryOp .FloorDiv (.int (a : Int) t) (.int c u)) Q E s := by
  subst e
  refine floordiv_int (by omega) ?_ (.inl (noPylong_small (by simpa using hs)))
  rw [show (a : Int).fdiv (b : Int) = ((a / b : Nat) : Int) from (Int.ofNat_fdiv a b).symm]
  exact h
end
theorem fmod_nat (x : Int) (b : Nat) (hb : 0 < b) : ∃ r : Nat, x.fmod (b : Int) = (r : Int) ∧ r < b := by
  have h1 := Int.fmod_nonneg_of_pos x (b := (b : Int)) (by omega)
  have h2 := Int.fmod_lt_of_pos x (b := (b : Int)) (by omega)
  exact ⟨(x.fmod b).toNat, by omega, by omega⟩
theorem as_blk {M : Model} {A : Around} {E : Value → Shared → Prop} {s : Shared} {name : Str} {b b' : List Stmt} {sc sc' : Scope} {L a : Addr} {cd : Value} {cl : List (Str × Addr)} {Q : Flow → Shared → Prop} (eb : b = b') (es : sc = sc')
    (h : wpAny M A (execs b' (envX name sc' L a cd cl)) Q E s) : wpAny M A (execs b (envX name sc L a cd cl)) Q E s := by
  subst eb; subst es; exact h
noncomputable def ifBody : Stmt → List Stmt
  | .If _ b _ _ => b
  | _ => []

/-! the call of a def of the module -/
def IsFn (h : Heap) (f : Addr) : Prop := ∃ o fd, h.get? f = some o ∧ o.data = .func fd
theorem FnAt.isFn {mg : Str → Option Value} {h : Heap} {name : Str} {params : Arguments} {body : List Stmt} {scope : Scope} {f : Addr} (X : FnAt mg h name params body scope f) : IsFn h f :=
  let ⟨o, doc, pm, cdv, ct, an, _, b, c, _⟩ := X; ⟨o, _, b, c⟩
theorem FnAt.at {mg : Str → Option Value} {h : Heap} {name : Str} {params : Arguments} {body : List Stmt} {scope : Scope} {f : Addr} (X : FnAt mg h name params body scope f) : mg name = some (.ref f) :=
  let ⟨_, _, _, _, _, _, a, _, _, _⟩ := X; a
theorem FnD.isFn {mg : Str → Option Value} {h : Heap} {name : Str} {i : Nat} {f : Addr} (X : FnD mg h name i f) : IsFn h f :=
  let ⟨o, _, _, _, doc, pm, cdv, ct, an, _, b, c, _⟩ := X; ⟨o, _, b, c⟩
theorem FnD.at {mg : Str → Option Value} {h : Heap} {name : Str} {i : Nat} {f : Addr} (X : FnD mg h name i f) : mg name = some (.ref f) :=
  let ⟨_, _, _, _, _, _, _, _, _, a, _⟩ := X; a
theorem callF {M : Model} {A : Around} {E : Value → Shared → Prop} {s : Shared} {env : Env} {h₀ : Heap} {pos : Pos} {f : Addr} {e : Expr} {rest : List Expr} {Q : Value → Shared → Prop} (X : IsFn h₀ f)
    (h : wpAny M A (spliced (backTo pos (starEach (e :: rest) env))) (fun vs s₁ => h₀.StaysIn s₁.heap ∧ wpAny M A (call (.ref f) vs) Q E s₁) E s)
    (he : starEach (e :: rest) env = (false, eval e env) :: starEach rest env) :
    wpAny M A (callWith pos (.ref f) [] (backTo pos (starEach (e :: rest) env)) []) Q E s := by
  obtain ⟨o, fd, ho, hd⟩ := X
  exact callWith_def_at ho hd (wpAny_mono h (fun vs s₁ h₁ => ⟨h₁.1 _ _ ho, h₁.2⟩) fun _ _ e => e) he
theorem as_st {M : Model} {A : Around} {E : Value → Shared → Prop} {s : Shared} {name : Str} {b b' : Stmt} {sc sc' : Scope} {L a : Addr} {cd : Value} {cl : List (Str × Addr)} {Q : Flow → Shared → Prop} (eb : b = b') (es : sc = sc')
    (h : wpAny M A (exec b' (envX name sc' L a cd cl)) Q E s) : wpAny M A (exec b (envX name sc L a cd cl)) Q E s := by
  subst eb; subst es; exact h
theorem un_blk {M : Model} {A : Around} {E : Value → Shared → Prop} {s : Shared} {name : Str} {b b' : List Stmt} {sc sc' : Scope} {L a : Addr} {cd : Value} {cl : List (Str × Addr)} {Q : Flow → Shared → Prop} (eb : b = b') (es : sc = sc')
    (h : wpAny M A (execs b (envX name sc L a cd cl)) Q E s) : wpAny M A (execs b' (envX name sc' L a cd cl)) Q E s := by
  subst eb; subst es; exact h

section
variable {prog : Program} {w : World} {A : Around} {E : Value → Shared → Prop} {s : Shared} {h₀ : Heap} {L : Addr} {m : Str → Option Value} {news : List (Addr × Obj)}
theorem sliceNeg {value slice : Expr} {l : Addr} {xs : List Value} {n : Nat} {t : Tok} {Q : Value → Shared → Prop}
    (F : Fr h₀ L s.heap m) (N : News h₀ L s.heap news) (hl : (l, ({ cls := .type "list", data := .seq xs.toArray n } : Obj)) ∈ news) (hsz : xs.length ≤ 100000)
    (h : ∀ a h', (∀ b o, s.heap.get? b = some o → b ≠ a) → Fr h₀ L h' m → News h₀ L h' ((a, ({ cls := .type "list", data := .seq xs.dropLast.toArray } : Obj)) :: news) → Q (.ref a) { s with heap := h' })
    (hs : subscripted slice false (.ref l) (.ref s.heap.objs.size) = operate [.ref s.heap.objs.size, .ref l] (getItem (.ref l) (.ref s.heap.objs.size))) :
    wpAny (model prog w) A (subscriptTail value slice (.ref l) (.ref s.heap.objs.size)) Q E { s with heap := s.heap.push { cls := .type "slice", data := .fields #[.none, .int (-1) t, .none] } } := by
  refine kba_turn (value' := .Name (PySem.Str.ofString "_") ⟨0, 0, 0, 0⟩) (fun _ => rfl) (slice_list F N (isL N hl) .none (.int _ _) (fun h' F' N' => ?_) hs (fun _ => rfl) (by rw [sizeLine_eq]; simp; omega))
  refine h _ h' (fun b o e => Nat.ne_of_lt (Nat.lt_succ_of_lt (Heap.lt_size e))) F' ?_
  have e : slicePick xs.toArray none (some (-1)) none = xs.dropLast.toArray := by
    rw [slicePick_plain]
    have e1 := clipAt_neg xs.toArray.size 1 (Nat.le_refl 1)
    simp only [Option.elim, List.dropLast_eq_take]
    rw [show (-1 : Int) = -((1 : Nat) : Int) from rfl, e1]
    simp
  rw [e] at N'
  exact N'
theorem sliceUptoB {value slice : Expr} {l : Addr} {xs : List Value} {k : Nat} {t : Tok} {Q : Value → Shared → Prop}
    (F : Fr h₀ L s.heap m) (N : News h₀ L s.heap news) (hl : s.heap.IsList l xs.toArray) (hsz : xs.length ≤ 100000)
    (h : ∀ a h', (∀ b o, s.heap.get? b = some o → b ≠ a) → Fr h₀ L h' m → News h₀ L h' ((a, ({ cls := .type "list", data := .seq (xs.take k).toArray } : Obj)) :: news) → Q (.ref a) { s with heap := h' })
    (hs : subscripted slice false (.ref l) (.ref s.heap.objs.size) = operate [.ref s.heap.objs.size, .ref l] (getItem (.ref l) (.ref s.heap.objs.size)))
    {c : Int} (hc : c = (k : Int)) :
    wpAny (model prog w) A (subscriptTail value slice (.ref l) (.ref s.heap.objs.size)) Q E { s with heap := s.heap.push { cls := .type "slice", data := .fields #[.none, .int c t, .none] } } := by
  subst hc
  refine kba_turn (value' := .Name (PySem.Str.ofString "_") ⟨0, 0, 0, 0⟩) (fun _ => rfl) (slice_list F N hl .none (.int _ _) (fun h' F' N' => ?_) hs (fun _ => rfl) (by rw [sizeLine_eq]; simp; omega))
  refine h _ h' (fun b o e => Nat.ne_of_lt (Nat.lt_succ_of_lt (Heap.lt_size e))) F' ?_
  rw [slicePick_upto'] at N'
  exact N'
end

local macro_rules | `(tactic| walk_at "mm") => `(tactic| first | exact List.Mem.head _ | (refine List.Mem.tail _ ?_; walk_at "mm") | assumption)
local macro_rules | `(tactic| walk_at "lk") => `(tactic| first | exact upd_eq | (refine (upd_ne (by decide)).trans ?_; walk_at "lk") | assumption | exact rfl)
local macro_rules | `(tactic| walk_at "body") => `(tactic| ((conv => lhs; whnf); (try exact rfl)))
local macro_rules | `(tactic| walk_at "z0") => `(tactic| first
  | with_reducible refine wpAny_execs_cons ?_
  | with_reducible refine wpAny_execs_nil ?_
  | with_reducible refine wpAny_Return_some ?_
  | with_reducible refine wpAny_If ?_
  | with_reducible refine wpAny_BinOp ?_
  | ((with_reducible refine wpAny_Compare1 ?_ ?hm); (case hm => with_unfolding_all rfl))
  | ((with_reducible refine wpAny_isTrue_Compare1 ?_ ?hm); (case hm => with_unfolding_all rfl))
  | with_reducible refine IfExp_ ?_
  | with_reducible refine Tuple_ ?_
  | with_reducible refine List_ ?_
  | with_reducible refine spliced_none ?_
  | ((with_reducible refine spliced_more ?_ ?hm); (case hm => with_unfolding_all rfl))
  | with_reducible refine wpAny_Constant_str ?_
  | with_reducible refine wpAny_Constant_int ?_
  | with_reducible refine wpAny_Constant_bool ?_
  | with_reducible refine wpAny_Constant_none ?_
  | with_reducible refine Subscript_ ?_
  | with_reducible refine wpAny_Slice ?_
  | with_reducible refine evalPart_none_step ?_
  | with_reducible refine evalPart_some_step ?_
  | with_reducible refine UnaryOp_ ?_
  | with_reducible refine isTrue_not ?_
  | with_reducible refine isTrue_or ?_
  | with_reducible refine isTrue_or_nil ?_
  | with_reducible refine wpAny_truthy_bool ?_
  | with_reducible refine neg_int ?_
  | ((with_reducible refine' ld ?k1 ?k2 ?_ ?a ?b ?c); (case k1 => assumption); (case k2 => walk_at "lk"); (case a => exact rfl); (case b => exact rfl); (case c => decide))
  | ((with_reducible refine' lxL ?k1 ?k2 ?_ ?a ?b ?c); (case k1 => assumption); (case k2 => walk_at "lk"); (case a => exact rfl); (case b => exact rfl); (case c => decide))
  | ((with_reducible refine' lxC ?k1 ?k2 ?k3 ?_ ?a ?b ?c ?d); (case k1 => assumption); (case k2 => assumption); (case a => exact rfl); (case k3 => walk_at "mm"); (case b => exact rfl); (case c => exact rfl); (case d => decide))
  | ((with_reducible refine' lxb ?k1 ?k2 ?k3 ?k4 ?_ ?a ?b ?c ?d); (case k1 => assumption); (case k2 => assumption); (case k3 => boot_fast); (case k4 => decide); (case a => exact rfl); (case b => exact rfl); (case c => decide); (case d => decide))
  | ((with_reducible refine' lxg ?k1 ?k2 ?k3 ?_ ?a ?b ?c); (case k1 => assumption); (case k2 => assumption); (case k3 => assumption); (case a => exact rfl); (case b => exact rfl); (case c => decide))
  | ((with_reducible refine' callF ?k1 ?_ ?a); (case k1 => assumption); (case a => with_unfolding_all rfl))
  | ((with_reducible refine' modN ?a ?b ?_); (case a => exact rfl); (case b => decide))
  | ((with_reducible refine' fdivN ?a ?b ?c ?_); (case a => exact rfl); (case b => decide); (case c => decide))
  | ((with_reducible refine' ldb ?k1 ?k2 ?k3 ?k4 ?_ ?a ?b ?c ?d); (case k1 => assumption); (case k2 => assumption); (case k3 => boot_fast); (case k4 => decide); (case a => exact rfl); (case b => exact rfl); (case c => decide); (case d => decide))
  | ((with_reducible refine wpAny_Assign_Name ?_ ?hm); (case hm => with_unfolding_all rfl))
  | ((with_reducible refine' wpAny_Expr ?_ ?a ?b); (case a => with_unfolding_all rfl); (case b => with_unfolding_all rfl))
  | with_reducible refine wpAny_AugAssign_Name ?_
  | with_reducible refine wpAny_Continue ?_
  | ((with_reducible refine' MethodCall_ ?_ ?hm); (case hm => with_unfolding_all rfl))
  | ((with_reducible refine' Call_ ?_ ?hm); (case hm => with_unfolding_all rfl))
  | ((with_reducible refine' Rows.callWith_builtin1 ?_ ?a ?b); (case a => with_unfolding_all rfl); (case b => with_unfolding_all rfl))
  | ((with_reducible refine' Rows.callWith_type1 ?_ ?a ?b); (case a => with_unfolding_all rfl); (case b => with_unfolding_all rfl))
  | ((with_reducible refine' callWith_method1 ?_ ?a ?b); (case a => with_unfolding_all rfl); (case b => with_unfolding_all rfl))
  | with_reducible refine callWith_method0 ?_
  | ((with_reducible refine' ldn ?k1 ?k2 ?_ ?a ?b); (case k1 => assumption); (case k2 => walk_at "lk"); (case a => exact rfl); (case b => exact rfl))
  | with_reducible refine lt_int ?_
  | with_reducible refine le_int ?_
  | with_reducible refine gt_int ?_
  | with_reducible refine ge_int ?_
  | with_reducible refine eq_int ?_
  | with_reducible refine eq_str ?_
  | with_reducible refine add_int ?_
  | with_reducible refine sub_int ?_
  | with_reducible refine iadd_int ?_
  | ((with_reducible refine' isTrue_plain ?_ ?hm); (case hm => with_unfolding_all rfl)))
local macro_rules | `(tactic| walk_at "z") => `(tactic| (walk_at "z0"; (try dsimp only)))
/-! _law_quoted -/
def qP (c : Nat) : Pair := if c = 92 then (⟨#[92, 92]⟩, some ⟨#[92]⟩) else (⟨#[c]⟩, some ⟨#[c]⟩)
def dq : Pair := (⟨#[34]⟩, some ⟨#[34]⟩)
def quoted (x : Str) : List Pair := dq :: (x.cps.toList.map qP ++ [dq])

theorem c_quoted {prog : Program} {w : World} {mg mb : Str → Option Value} {A : Around} {E : Value → Shared → Prop} {s : Shared} {h₀ : Heap} {L : Addr} {m : Str → Option Value} {news : List (Addr × Obj)} {f : Addr} {x : Str} {t : Tok} {Q : Value → Shared → Prop}
    (X : FnI mg h₀ "_law_quoted" 6 f) (W : Md mg mb h₀) (R : Room A 3 9) (F : Fr h₀ L s.heap m) (N : News h₀ L s.heap news) (hx : x.length ≤ 1000)
    (hQ : ∀ v h' tk' news', (∀ p ∈ news, p ∈ news') → Fr h₀ L h' m → News h₀ L h' news' → In news' v (encPs (quoted x)) → Q v { s with heap := h', toks := tk' }) :
    wpAny (model prog w) A (call (.ref f) [.str x t]) Q E s := by
  refine' enterFn (d := 2) (u := 6) (binds := [("text", .str x t)]) X W R F N ?e1 ?e2 ?_ ?_ ?_ ?_ ?_ ?_ (fun v N' => In N' v (encPs (quoted x))) ?_ hQ
  case e1 => walk_at "body"
  case e2 => walk_at "body"
  · intro _ _ _ _ _; with_unfolding_all rfl
  · decide
  · exact locs rfl
  · exact rfl
  · exact rfl
  · exact rfl
  intro A' g L' h₁ cd tk st W' F' N' R'
  walk_at "z"
  refine Assign_ListComp_S F' rfl (by with_unfolding_all rfl) (by with_unfolding_all rfl) (by decide) rfl (by decide) rfl rfl rfl ?_ (fun _ => by with_unfolding_all rfl)
  walk_at "z"
  refine ⟨x, t, news, fun i ys nw => InAll nw ys ((x.cps.toList.take i).map (fun c => encP (qP c))) ∧ ∀ p ∈ news, p ∈ nw, rfl, R'.hh, F', N', by rw [sizeLine_eq]; omega, ⟨.nil, fun _ hp => hp⟩, ?_⟩
  rintro s₂ ⟨h₂, rfl⟩
  refine ⟨?_, ?_⟩
  · intro i ys nw v I oI C oC D m₂ h tk' E' hi hJ hP hC hm F₂ N₂ off ne _
    obtain ⟨c, u, hc, rfl⟩ := hP
    have hc' : x.cps.toList[i]? = some c := by simpa using hc
    walk_at "z"
    walk_at "z"
    refine ldc N₂ (by simp) hC hm ?_ rfl rfl
    repeat walk_at "z"
    rw [ch_eq (d := 92) (by decide +kernel)]
    by_cases h92 : c = 92
    · subst h92
      rw [if_pos (by decide)]
      repeat walk_at "z"
      refine newT F₂ N₂ (fun a h₃ ha F₃ N₃ => ?_)
      refine cend1 N₂ off ha F₃ N₃ trivial ⟨?_, fun p hp => List.mem_cons_of_mem _ (hJ.2 p hp)⟩
      · rw [take_map_succ _ hc']
        exact (hJ.1.mono fun p hp => List.mem_cons_of_mem _ hp).append (.one (tup_in (List.mem_cons_self ..) (.str _ _) (.str _ _)))
    · rw [if_neg (by simpa using h92)]
      repeat walk_at "z"
      refine ldc N₂ (by simp) hC hm ?_ rfl rfl
      walk_at "z"
      refine ldc N₂ (by simp) hC hm ?_ rfl rfl
      walk_at "z"
      refine newT F₂ N₂ (fun a h₃ ha F₃ N₃ => ?_)
      refine cend1 N₂ off ha F₃ N₃ trivial ⟨?_, fun p hp => List.mem_cons_of_mem _ (hJ.2 p hp)⟩
      · rw [take_map_succ _ hc']
        refine (hJ.1.mono fun p hp => List.mem_cons_of_mem _ hp).append (.one ?_)
        rw [qP, if_neg h92]
        exact (tup_in (List.mem_cons_self ..) (.str _ _) (.str _ _))
  · intro ys nw hJ D h tk' F₂ N₂ off
    have hl : ys.length ≤ 1000 := by have := hJ.1.length; simp [PySem.Str.length] at this hx; omega
    repeat walk_at "z"
    refine newT F₂ N₂ (fun a₃ h₃ ha₃ F₃ N₃ => ?_)
    repeat walk_at "z"
    refine newL F₃ N₃ (by simp) (fun a₄ h₄ ha₄ F₄ N₄ => ?_)
    repeat walk_at "z"
    refine addL F₄ N₄ (by walk_at "mm") (vs := ys) (by walk_at "mm") (by simp; omega) (fun a₅ h₅ ha₅ F₅ N₅ => ?_)
    repeat walk_at "z"
    refine newT F₅ N₅ (fun a₆ h₆ ha₆ F₆ N₆ => ?_)
    repeat walk_at "z"
    refine newL F₆ N₆ (by simp) (fun a₇ h₇ ha₇ F₇ N₇ => ?_)
    refine addL F₇ N₇ (us := Value.ref a₃ :: ys) (by walk_at "mm") (by walk_at "mm") (by simp; omega) (fun a₈ h₈ ha₈ F₈ N₈ => ?_)
    refine ⟨_, _, _, _, _, rfl, rfl, F₈, N₈, fun p hp => ?_, ?_⟩
    · have := hJ.2 p hp; simp [this]
    · refine lst_in (List.mem_cons_self ..) ?_
      have e : (quoted x).map encP = (encP dq :: ((x.cps.toList.take x.cps.size).map fun c => encP (qP c))) ++ [encP dq] := by
        simp [quoted, List.map_map, Function.comp_def, List.take_of_length_le]
      rw [e]
      refine InAll.append (.cons ?_ (hJ.1.mono fun p hp => by simp [hp])) (.one ?_)
      · exact tup_in (a := a₃) (by walk_at "mm") (.str _ _) (.str _ _)
      · exact tup_in (a := a₆) (by walk_at "mm") (.str _ _) (.str _ _)

/-! _law_twice -/
def tP (c : Nat) : Pair := if c = 92 ∨ c = 39 then (⟨#[92, c]⟩, some ⟨#[c]⟩) else (⟨#[c]⟩, some ⟨#[c]⟩)
def sq : Pair := (⟨#[39]⟩, some ⟨#[39]⟩)
def twice (x : Str) : List Pair := sq :: dq :: ((x.cps.toList.drop 1).dropLast.map tP ++ [dq, sq])

theorem slice_mid {x : Str} (h : 2 ≤ x.length) : (Txt.slice x (some 1) (some (-1))).cps.toList = (x.cps.toList.drop 1).dropLast := by
  have e0 : Txt.slice x (some 1) (some (-1)) = StrLaws.sliceText x (some 1) (some (-1)) := rfl
  have hl : x.length = x.cps.toList.length := by simp [PySem.Str.length]
  rw [e0, StrLaws.sliceText_neg_hi x (some 1) (by omega) (by omega), StrLaws.sliceText_plain ⟨by omega, by omega, by omega⟩]
  simp only [List.dropLast_eq_take, List.length_drop]
  have e1 : (-1 + (x.length : Int) - 1).toNat = x.cps.toList.length - 1 - 1 := by omega
  rw [e1]; simp

theorem str_app (a b : List Nat) : ((⟨a.toArray⟩ : Str) ++ ⟨b.toArray⟩) = ⟨(a ++ b).toArray⟩ := by
  refine PySem.Str.ext' ?_
  rw [PySem.Str.cps_append]; simp

theorem in_lit2 {c d e : Nat} {lit : Str} (h : lit = ⟨#[d, e]⟩) : Txt.contains lit ⟨#[c]⟩ = decide (c = d ∨ c = e) := by
  unfold Txt.contains
  rw [StrLaws.found_one]
  subst h
  simp

theorem c_twice {prog : Program} {w : World} {mg mb : Str → Option Value} {A : Around} {E : Value → Shared → Prop} {s : Shared} {h₀ : Heap} {L : Addr} {m : Str → Option Value} {news : List (Addr × Obj)} {f : Addr} {x : Str} {t : Tok} {Q : Value → Shared → Prop}
    (X : FnI mg h₀ "_law_twice" 7 f) (W : Md mg mb h₀) (R : Room A 3 9) (F : Fr h₀ L s.heap m) (N : News h₀ L s.heap news) (hx : x.length ≤ 1000) (hx2 : 2 ≤ x.length)
    (hQ : ∀ v h' tk' news', (∀ p ∈ news, p ∈ news') → Fr h₀ L h' m → News h₀ L h' news' → In news' v (encPs (twice x)) → Q v { s with heap := h', toks := tk' }) :
    wpAny (model prog w) A (call (.ref f) [.str x t]) Q E s := by
  refine' enterFn (d := 2) (u := 6) (binds := [("inner", .str x t)]) X W R F N ?e1 ?e2 ?_ ?_ ?_ ?_ ?_ ?_ (fun v N' => In N' v (encPs (twice x))) ?_ hQ
  case e1 => walk_at "body"
  case e2 => walk_at "body"
  · intro _ _ _ _ _; with_unfolding_all rfl
  · decide
  · exact locs rfl
  · exact rfl
  · exact rfl
  · exact rfl
  intro A' g L' h₁ cd tk st W' F' N' R'
  walk_at "z"
  refine Assign_ListComp_S F' rfl (by with_unfolding_all rfl) (by with_unfolding_all rfl) (by decide) rfl (by decide) rfl rfl rfl ?_ (fun _ => by with_unfolding_all rfl)
  repeat walk_at "z"
  refine slice_strN_ss_len (s := ⟨_, _, _, _, _⟩) F' N' (fun h₃ t₃ k₃ F₃ N₃ hl => ?_) (by with_unfolding_all rfl) (fun _ => by with_unfolding_all rfl) (by rw [sizeLine_eq]; omega)
  have hy := slice_mid hx2
  dsimp only
  generalize Txt.slice x (some 1) (some (-1)) = y at hy hl ⊢
  refine ⟨y, t₃, news, fun i ys nw => InAll nw ys ((y.cps.toList.take i).map (fun c => encP (tP c))) ∧ ∀ p ∈ news, p ∈ nw, rfl, R'.hh, F₃, N₃, by rw [sizeLine_eq]; omega, ⟨.nil, fun _ hp => hp⟩, ?_⟩
  rintro s₂ ⟨h₂, rfl⟩
  refine ⟨?_, ?_⟩
  · intro i ys nw v I oI C oC D m₂ h tk' E' hi hJ hP hC hm F₂ N₂ off ne _
    obtain ⟨c, u, hc, rfl⟩ := hP
    have hc' : y.cps.toList[i]? = some c := by simpa using hc
    repeat walk_at "z"
    refine ldc N₂ (by simp) hC hm ?_ rfl rfl
    repeat walk_at "z"
    refine SB.contains ?_
    walk_at "z"
    rw [in_lit2 (d := 92) (e := 39) (by decide +kernel)]
    by_cases h92 : c = 92 ∨ c = 39
    · rw [if_pos (by simpa using h92)]
      repeat walk_at "z"
      refine ldc N₂ (by simp) hC hm ?_ rfl rfl
      refine add_str (fun t' tk₄ => ?_) (by simp [PySem.Str.length, sizeLine_eq]; decide +kernel)
      repeat walk_at "z"
      refine ldc N₂ (by simp) hC hm ?_ rfl rfl
      repeat walk_at "z"
      refine newT F₂ N₂ (fun a h₃ ha F₃ N₃ => ?_)
      refine cend1 N₂ off ha F₃ N₃ trivial ⟨?_, fun p hp => List.mem_cons_of_mem _ (hJ.2 p hp)⟩
      · rw [take_map_succ _ hc']
        refine (hJ.1.mono fun p hp => List.mem_cons_of_mem _ hp).append (.one ?_)
        rw [tP, if_pos h92, show (⟨#[92, c]⟩ : Str) = PySem.Str.ofString "\\" ++ ⟨#[c]⟩ from by
          rw [show PySem.Str.ofString "\\" = ⟨[92].toArray⟩ from by decide +kernel]; exact (str_app [92] [c]).symm]
        exact (tup_in (List.mem_cons_self ..) (.str _ _) (.str _ _))
    · rw [if_neg (by simpa using h92)]
      repeat walk_at "z"
      refine ldc N₂ (by simp) hC hm ?_ rfl rfl
      repeat walk_at "z"
      refine ldc N₂ (by simp) hC hm ?_ rfl rfl
      repeat walk_at "z"
      refine newT F₂ N₂ (fun a h₃ ha F₃ N₃ => ?_)
      refine cend1 N₂ off ha F₃ N₃ trivial ⟨?_, fun p hp => List.mem_cons_of_mem _ (hJ.2 p hp)⟩
      · rw [take_map_succ _ hc']
        refine (hJ.1.mono fun p hp => List.mem_cons_of_mem _ hp).append (.one ?_)
        rw [tP, if_neg h92]
        exact (tup_in (List.mem_cons_self ..) (.str _ _) (.str _ _))
  · intro ys nw hJ D h tk' F₂ N₂ off
    have hl : ys.length ≤ 1000 := by have := hJ.1.length; simp [PySem.Str.length] at this hx hl; omega
    repeat walk_at "z"
    refine newT F₂ N₂ (fun a₃ h₃ ha₃ F₃ N₃ => ?_)
    repeat walk_at "z"
    refine newT F₃ N₃ (fun b₃ h₃ ha₃ F₃ N₃ => ?_)
    repeat walk_at "z"
    refine newL F₃ N₃ (by simp) (fun a₄ h₄ ha₄ F₄ N₄ => ?_)
    repeat walk_at "z"
    refine addL F₄ N₄ (by walk_at "mm") (vs := ys) (by walk_at "mm") (by simp; omega) (fun a₅ h₅ ha₅ F₅ N₅ => ?_)
    repeat walk_at "z"
    refine newT F₅ N₅ (fun a₆ h₆ ha₆ F₆ N₆ => ?_)
    repeat walk_at "z"
    refine newT F₆ N₆ (fun b₆ h₆ ha₆ F₆ N₆ => ?_)
    repeat walk_at "z"
    refine newL F₆ N₆ (by simp) (fun a₇ h₇ ha₇ F₇ N₇ => ?_)
    refine addL F₇ N₇ (us := Value.ref a₃ :: Value.ref b₃ :: ys) (by walk_at "mm") (by walk_at "mm") (by simp; omega) (fun a₈ h₈ ha₈ F₈ N₈ => ?_)
    refine ⟨_, _, _, _, _, rfl, rfl, F₈, N₈, fun p hp => ?_, ?_⟩
    · have := hJ.2 p hp; simp [this]
    · refine lst_in (List.mem_cons_self ..) ?_
      have e : (twice x).map encP = (encP sq :: encP dq :: ((y.cps.toList.take y.cps.size).map fun c => encP (tP c))) ++ [encP dq, encP sq] := by
        unfold twice
        rw [← hy]
        simp [List.map_map, Function.comp_def, List.take_of_length_le]
      rw [e]
      refine InAll.append (.cons ?_ (.cons ?_ (hJ.1.mono fun p hp => by simp [hp]))) (.cons ?_ (.one ?_))
      · exact tup_in (a := a₃) (by walk_at "mm") (.str _ _) (.str _ _)
      · exact tup_in (a := b₃) (by walk_at "mm") (.str _ _) (.str _ _)
      · exact tup_in (a := a₆) (by walk_at "mm") (.str _ _) (.str _ _)
      · exact tup_in (a := b₆) (by walk_at "mm") (.str _ _) (.str _ _)

/-! _law_joined -/
def sepP : Pair := (⟨#[44, 32]⟩, none)
def mid : List Item → List Pair
  | [] => []
  | it :: r => it.2 ++ r.flatMap fun i => sepP :: i.2
def joined (row : List Item) (o : Str) (e : List Pair) : List Pair := (o, some o) :: mid row ++ e
theorem mid_snoc (l : List Item) (it : Item) : mid (l ++ [it]) = if l = [] then it.2 else mid l ++ sepP :: it.2 := by
  cases l with
  | nil => simp [mid]
  | cons a r => simp [mid]

theorem mid_le (l : List Item) : ∀ i : Nat, (mid (l.take i)).length ≤ (mid l).length := by
  intro i
  cases l with
  | nil => simp
  | cons a r =>
    cases i with
    | zero => simp [mid]
    | succ i =>
      simp only [List.take_succ_cons, mid, List.length_append]
      have : ∀ (r : List Item) (i : Nat), ((r.take i).flatMap fun i => sepP :: i.2).length ≤ (r.flatMap fun i => sepP :: i.2).length := by
        intro r
        induction r with
        | nil => intro i; simp
        | cons b r ih =>
          intro i
          cases i with
          | zero => simp
          | succ i => have := ih i; simp only [List.take_succ_cons, List.flatMap_cons, List.length_append]; omega
      have := this r i
      omega

theorem c_joined {prog : Program} {w : World} {mg mb : Str → Option Value} {A : Around} {E : Value → Shared → Prop} {s : Shared} {h₀ : Heap} {L : Addr} {m : Str → Option Value} {news : List (Addr × Obj)} {f : Addr} {rv ev : Value} {row : List Item} {ending : List Pair} {o : Str} {t : Tok} {Q : Value → Shared → Prop}
    (X : FnI mg h₀ "_law_joined" 8 f) (W : Md mg mb h₀) (R : Room A 3 9) (F : Fr h₀ L s.heap m) (N : News h₀ L s.heap news)
    (hr : In news rv (encR row)) (he : In news ev (encPs ending)) (hrow : row.length ≤ 1000) (hsz : (joined row o ending).length ≤ 10000)
    (hQ : ∀ v h' tk' news', (∀ p ∈ news, p ∈ news') → Fr h₀ L h' m → News h₀ L h' news' → In news' v (encPs (joined row o ending)) → Q v { s with heap := h', toks := tk' }) :
    wpAny (model prog w) A (call (.ref f) [rv, .str o t, ev]) Q E s := by
  refine' enterFn (d := 2) (u := 6) (binds := [("row", rv), ("opening", .str o t), ("ending", ev)]) X W R F N ?e1 ?e2 ?_ ?_ ?_ ?_ ?_ ?_ (fun v N' => In N' v (encPs (joined row o ending))) ?_ hQ
  case e1 => walk_at "body"
  case e2 => walk_at "body"
  · intro _ _ _ _ _; with_unfolding_all rfl
  · decide
  · exact locs rfl
  · exact rfl
  · exact rfl
  · exact rfl
  intro A' g L' h₁ cd tk st W' F' N' R'
  obtain ⟨l, xs, nl, rfl, hlm, hxs⟩ := hr.inv_list
  repeat walk_at "z"
  refine newT F' N' (fun a₁ h₂ ha₁ F₂ N₂ => ?_)
  repeat walk_at "z"
  refine newL F₂ N₂ (by simp) (fun D h₃ ha₂ F₃ N₃ => ?_)
  repeat walk_at "z"
  refine st' F₃ N₃ (fun h₄ F₄ N₄ => ?_) rfl rfl
  repeat walk_at "z"
  refine For_invV g rfl rfl ?_ (fun _ => by with_unfolding_all rfl) (fun _ _ h => h.elim)
  repeat walk_at "z"
  have hLl : h₄.IsList l xs.toArray := isL N₄ (List.mem_cons_of_mem _ (List.mem_cons_of_mem _ hlm))
  have hxl : xs.toArray.size = row.length := by have := hxs.length; simpa using this
  refine len_list hLl (by rw [hxl]; omega) ?_
  repeat walk_at "z"
  refine range1_rows F₄ N₄ (fun h₅ tk₅ t₁ u₁ v₁ hR F₅ N₅ _ => ?_)
  have offD : ∀ p ∈ (a₁, ({ cls := .type "tuple", data := .seq [Value.str o t, Value.str o t].toArray } : Obj)) :: news, p.1 ≠ D := fun p hp => ha₂ _ _ (N₂ p hp).1
  refine loopR (n := row.length) (fun i m₁ nx => ∃ ys n rest, nx = (D, listOf ys.toArray n) :: rest ∧ (∀ p ∈ news, p ∈ rest) ∧ (∀ p ∈ rest, p.1 ≠ D) ∧ InAll rest ys (((o, some o) :: mid (row.take i)).map encP) ∧ m₁ "pairs" = some (.ref D) ∧ m₁ "row" = some (.ref l) ∧ m₁ "ending" = some ev)
    R'.hh (by simpa [hxl] using hR) (by omega) F₅ N₅ ⟨[.ref a₁], 0, _, rfl, fun p hp => by simp [hp], offD, ?_, by walk_at "lk", by walk_at "lk", by walk_at "lk"⟩ ?_ ?_
  · exact .one (tup_in (List.mem_cons_self ..) (.str _ _) (.str _ _))
  · rintro i ti m₁ nx h tk own hi hoff ⟨ys, n, rest, rfl, hsub, hoffD, hys, hmp, hmr, hme⟩ F₆ N₆
    obtain ⟨it, hit⟩ : ∃ it, row[i]? = some it := ⟨row[i], by simp [hi]⟩
    have htake : row.take (i + 1) = row.take i ++ [it] := by rw [List.take_add_one, hit]; simp
    have hD0 : h.get? D = some (listOf ys.toArray n) := (N₆ (D, _) (List.mem_cons_self ..)).1
    have hylen : ys.length ≤ 10000 := by
      have e1 := hys.length
      have e2 : (mid (row.take i)).length ≤ (mid row).length := mid_le row i
      simp only [List.length_map, List.length_cons] at e1
      simp only [joined, List.cons_append, List.length_cons, List.length_append] at hsz
      omega
    refine seq_mid (fun s' => ∃ h' tk' ys' n' rest', s' = { s with heap := h', toks := tk' } ∧ Fr g L' h' (upd m₁ "k" (.int i ti)) ∧ News g L' h' ((D, listOf ys'.toArray n') :: (rest' ++ own)) ∧ (∀ p ∈ rest, p ∈ rest') ∧ (∀ p ∈ rest', p.1 ≠ D) ∧
      OwnOff own (rest'.map (·.1)) ∧ InAll rest' ys' (((o, some o) :: (if i = 0 then [] else mid (row.take i) ++ [sepP])).map encP)) ?_ ?_
    · repeat walk_at "z"
      by_cases h0 : i = 0
      · rw [if_neg (by simp [h0])]
        repeat walk_at "z"
        subst h0
        exact ⟨rfl, _, _, ys, n, rest, rfl, F₆, N₆, fun p hp => hp, hoffD, fun p hp b hb => hoff p hp b (by simp only [List.map_cons]; exact List.mem_cons_of_mem _ hb), by simpa [mid] using hys⟩
      · rw [if_pos (by simp; omega)]
        repeat walk_at "z"
        refine listMethod_K N₆ (List.mem_cons_self ..) PySem.F.slot_list_append PySem.F.type_list_append ?_
        repeat walk_at "z"
        refine newT F₆ N₆ (fun a₂ h₇ ha₇ F₇ N₇ => ?_)
        repeat walk_at "z"
        have N₈ := nswap N₇
        have hDa : D ≠ a₂ := ha₇ D _ hD0
        refine appL F₇ N₈ (fun p hp => ?_) (by omega) (fun h₉ n₉ F₉ N₉ => ?_)
        · rcases List.mem_cons.mp hp with rfl | hp
          · exact Ne.symm hDa
          · rcases List.mem_append.mp hp with hp | hp
            · exact hoffD p hp
            · exact hoff p hp D (by simp)
        · repeat walk_at "z"
          refine ⟨rfl, h₉, _, _, n₉, (a₂, _) :: rest, rfl, F₉, N₉, fun p hp => List.mem_cons_of_mem _ hp, ?_, ?_, ?_⟩
          · intro p hp
            rcases List.mem_cons.mp hp with rfl | hp
            · exact Ne.symm hDa
            · exact hoffD p hp
          · exact ownOff_cons (ownOff_tail hoff) (fun p hp => ha₇ _ _ (N₆ p (by simp [hp])).1)
          · rw [if_neg h0, ← List.cons_append, List.map_append]
            refine (hys.mono fun p hp => List.mem_cons_of_mem _ hp).append (.one ?_)
            exact tup_in (List.mem_cons_self ..) (.str _ _) .none
    · rintro s' ⟨h', tk', ys', n', rest', rfl, F₇, N₇, hsub', hoffD', hoff', hys'⟩
      obtain ⟨ri, hri, hrin⟩ := hxs.get' (k := i) (d := encI it) (by simp [hit])
      obtain ⟨ta, tv1, tv2, tn, rfl, htm, hin1, hin2⟩ := hrin.inv_pair
      obtain ⟨pa, ps, pn, rfl, hpm, hps⟩ := hin2.inv_list
      have up : ∀ p ∈ news, p ∈ rest' := fun p hp => hsub' p (hsub p hp)
      have up' : ∀ p ∈ news, p ∈ (D, listOf ys'.toArray n') :: (rest' ++ own) := fun p hp => List.mem_cons_of_mem _ (List.mem_append_left _ (up p hp))
      have hl' : h'.IsList l xs.toArray := isL N₇ (up' _ hlm)
      have ht' : IsTup h' ta #[tv1, .ref pa] := isT N₇ (up' _ htm)
      repeat walk_at "z"
      refine listMethod_K N₇ (List.mem_cons_self ..) PySem.F.slot_list_extend PySem.F.type_list_extend ?_
      repeat walk_at "z"
      refine itemL hl' (by omega) (by omega) (v := .ref ta) (by simpa using hri) ?_ (by with_unfolding_all rfl)
      repeat walk_at "z"
      refine item_tupleT (j := 1) ht' (by decide) (by decide) rfl rfl ?_ (by with_unfolding_all rfl)
      repeat walk_at "z"
      have hplen : ps.length = it.2.length := by have := hps.length; simpa [encPs] using this
      have hylen' : ys'.length + ps.length ≤ 20000 := by
        have e1 := hys'.length
        have e2 : (mid (row.take (i + 1))).length ≤ (mid row).length := mid_le row (i + 1)
        rw [htake, mid_snoc] at e2
        simp only [joined, List.cons_append, List.length_cons, List.length_append] at hsz
        simp only [List.length_map, List.length_cons] at e1
        have e3 : (mid (row.take i)).length ≤ (mid row).length := mid_le row i
        split at e1 <;> split at e2 <;> simp only [List.length_append, List.length_cons, List.length_nil] at e1 e2 <;> omega
      refine extL F₇ N₇ (fun p hp => ?_) (N₇ _ (up' _ hpm)).1 (by omega) (fun h₉ n₉ F₉ N₉ => ?_)
      · rcases List.mem_append.mp hp with hp | hp
        · exact hoffD' p hp
        · exact hoff p hp D (by simp)
      repeat walk_at "z"
      refine InvEndG.intro (nx := (D, listOf (ys' ++ ps).toArray n₉) :: rest') F₉ N₉ ⟨ys' ++ ps, n₉, rest', rfl, up, hoffD', ?_, by walk_at "lk", by walk_at "lk", by walk_at "lk"⟩ ?_ ?_ ?_
      · have e : ((o, some o) :: mid (row.take (i + 1))).map encP = ((o, some o) :: (if i = 0 then [] else mid (row.take i) ++ [sepP])).map encP ++ it.2.map encP := by
          rw [htake, mid_snoc]
          by_cases h0 : i = 0
          · subst h0; simp
          · have hne : row.take i ≠ [] := by
              intro e
              rcases List.take_eq_nil_iff.mp e with e | e
              · exact h0 e
              · rw [e] at hi; exact absurd hi (Nat.not_lt_zero _)
            rw [if_neg hne, if_neg h0]
            simp
        rw [e]
        exact hys'.append (hps.mono up)
      · exact ownOff_cons hoff' (fun p hp => hoff p hp D (by simp))
      · intro p hp
        rcases List.mem_cons.mp hp with rfl | hp
        · exact List.mem_cons_self ..
        · exact List.mem_cons_of_mem _ (List.mem_append_left _ hp)
      · intro p hp
        exact List.mem_cons_of_mem _ (List.mem_append_right _ hp)
  · rintro m₁ nx h tk ⟨ys, n, rest, rfl, hsub, hoffD, hys, hmp, hmr, hme⟩ F₆ N₆
    rw [List.take_length] at hys
    obtain ⟨el, es, en, rfl, hem, hes⟩ := he.inv_list
    repeat walk_at "z"
    have hyl : ys.length + es.length ≤ 10000 := by
      have e1 := hys.length
      have e2 := hes.length
      simp only [joined, List.cons_append, List.length_cons, List.length_append] at hsz
      simp only [List.length_map, List.length_cons] at e1 e2
      omega
    refine addL F₆ N₆ (List.mem_cons_self ..) (List.mem_cons_of_mem _ (hsub _ hem)) (by omega) (fun a₈ h₈ ha₈ F₈ N₈ => ?_)
    refine ⟨_, _, _, _, _, rfl, rfl, F₈, N₈, fun p hp => by simp [hsub p hp], ?_⟩
    refine lst_in (List.mem_cons_self ..) ?_
    have e : (joined row o ending).map encP = ((o, some o) :: mid row).map encP ++ ending.map encP := by simp [joined]
    rw [e]
    exact (hys.mono fun p hp => by simp [hp]).append (hes.mono fun p hp => by simp [hsub p hp])

/-! _law_parts -/
structure PSt where
  ps : List Str
  last : Str
  at_ : Nat
def pstep (size : Nat) (S : PSt) (p : Pair) : PSt :=
  match p.2 with
  | none => if S.at_ < size then ⟨S.ps ++ [S.last], ⟨#[]⟩, S.at_ + p.1.length⟩ else ⟨S.ps, S.last, S.at_ + p.1.length⟩
  | some x => if S.at_ + p.1.length ≤ size then ⟨S.ps, S.last ++ x, S.at_ + p.1.length⟩ else ⟨S.ps, S.last, S.at_ + p.1.length⟩
def pfold (size : Nat) (l : List Pair) : PSt := l.foldl (pstep size) ⟨[], ⟨#[]⟩, 0⟩
def parts (l : List Pair) (size : Nat) : List Str := (pfold size l).ps ++ [(pfold size l).last]

theorem pfold_succ {l : List Pair} {size i : Nat} {p : Pair} (h : l[i]? = some p) : pfold size (l.take (i + 1)) = pstep size (pfold size (l.take i)) p := by
  unfold pfold
  rw [List.take_add_one, h, List.foldl_append]
  rfl

/-- the sizes stay small -/
def small (l : List Pair) : Prop := ∀ p ∈ l, p.1.length ≤ 10 ∧ ∀ x, p.2 = some x → x.length ≤ 10
theorem strLen (a b : Str) : (a ++ b).length = a.length + b.length := strLen_append a b
theorem pfold_bound {l : List Pair} (hs : small l) (size : Nat) : ∀ i, (pfold size (l.take i)).ps.length ≤ i ∧ (pfold size (l.take i)).last.length ≤ 10 * i ∧ (pfold size (l.take i)).at_ ≤ 10 * i := by
  intro i
  induction i with
  | zero => simp [pfold, PySem.Str.length]
  | succ i ih =>
    cases hp : l[i]? with
    | none =>
      have hle : l.length ≤ i := by simpa using hp
      rw [List.take_of_length_le (by omega)]
      rw [List.take_of_length_le hle] at ih
      omega
    | some p =>
      rw [pfold_succ hp]
      have hm := hs p (List.mem_of_getElem? hp)
      unfold pstep
      split
      · split <;> simp [PySem.Str.length] <;> simp [PySem.Str.length] at ih hm <;> omega
      · rename_i x hx
        have hx' := hm.2 x hx
        split
        · refine ⟨by show (pfold size (l.take i)).ps.length ≤ i + 1; omega, ?_, ?_⟩
          · show (_ ++ x).length ≤ _
            rw [strLen]; omega
          · show _ + p.1.length ≤ _
            omega
        · refine ⟨by show (pfold size (l.take i)).ps.length ≤ i + 1; omega, ?_, ?_⟩
          · show (pfold size (l.take i)).last.length ≤ _
            omega
          · show _ + p.1.length ≤ _
            omega

theorem strs_snoc' : ∀ {us : List Value} {xs : List Str} {x : Str}, StrsAre us (xs ++ [x]) → ∃ vs t, us = vs ++ [.str x t] ∧ StrsAre vs xs
  | _, [], _, h => by
    cases h with
    | cons y t r => cases r; exact ⟨[], t, rfl, .nil⟩
  | _, a :: xs, _, h => by
    cases h with
    | cons y t r =>
      obtain ⟨vs, t', rfl, h'⟩ := strs_snoc' r
      exact ⟨.str a t :: vs, t', rfl, .cons a t h'⟩
theorem strs_app {us vs : List Value} {xs ys : List Str} (h : StrsAre us xs) (k : StrsAre vs ys) : StrsAre (us ++ vs) (xs ++ ys) := by
  induction h with
  | nil => exact k
  | cons y t r ih => exact .cons y t ih
theorem strs_len {us : List Value} {xs : List Str} (h : StrsAre us xs) : us.length = xs.length := by
  induction h with
  | nil => rfl
  | cons y t r ih => simp [ih]

theorem strs_get {us : List Value} {xs : List Str} (h : StrsAre us xs) : ∀ {i : Nat} {v : Value}, us[i]? = some v → ∃ y t, xs[i]? = some y ∧ v = .str y t := by
  induction h with
  | nil => intro i v e; simp at e
  | cons y t r ih =>
    intro i v e
    cases i with
    | zero => simp at e; exact ⟨y, t, rfl, e.symm⟩
    | succ i => simp only [List.getElem?_cons_succ] at e ⊢; exact ih e

theorem c_parts {prog : Program} {w : World} {mg mb : Str → Option Value} {A : Around} {E : Value → Shared → Prop} {s : Shared} {h₀ : Heap} {L : Addr} {m : Str → Option Value} {news : List (Addr × Obj)} {f : Addr} {pv : Value} {pairs : List Pair} {size : Nat} {t : Tok} {Q : Value → Shared → Prop}
    (X : FnI mg h₀ "_law_parts" 10 f) (W : Md mg mb h₀) (R : Room A 3 9) (F : Fr h₀ L s.heap m) (N : News h₀ L s.heap news)
    (hr : In news pv (encPs pairs)) (hlen : pairs.length ≤ 10000) (hsm : small pairs)
    (hQ : ∀ v h' tk' news', (∀ p ∈ news, p ∈ news') → Fr h₀ L h' m → News h₀ L h' news' → In news' v (encT (parts pairs size)) → Q v { s with heap := h', toks := tk' }) :
    wpAny (model prog w) A (call (.ref f) [pv, .int size t]) Q E s := by
  refine' enterFn (d := 2) (u := 6) (binds := [("pairs", pv), ("size", .int size t)]) X W R F N ?e1 ?e2 ?_ ?_ ?_ ?_ ?_ ?_ (fun v N' => In N' v (encT (parts pairs size))) ?_ hQ
  case e1 => walk_at "body"
  case e2 => walk_at "body"
  · intro _ _ _ _ _; with_unfolding_all rfl
  · decide
  · exact locs rfl
  · exact rfl
  · exact rfl
  · exact rfl
  intro A' g L' h₁ cd tk st W' F' N' R'
  obtain ⟨l, xs, nl, rfl, hlm, hxs⟩ := hr.inv_list
  have hxl : xs.length = pairs.length := by have := hxs.length; simpa using this
  repeat walk_at "z"
  refine newL F' N' (by simp) (fun D h₃ ha₂ F₃ N₃ => ?_)
  repeat walk_at "z"
  refine st' F₃ N₃ (fun h₄ F₄ N₄ => ?_) rfl rfl
  repeat walk_at "z"
  refine st' F₄ N₄ (fun h₅ F₅ N₅ => ?_) rfl rfl
  repeat walk_at "z"
  refine For_invT g ?_ (fun _ => by with_unfolding_all rfl) (fun _ _ h => h.elim)
  repeat walk_at "z"
  have offD : ∀ p ∈ news, p.1 ≠ D := fun p hp => ha₂ _ _ (N' p hp).1
  refine loopT (x := "raw") (y := "sign") (vs := xs) (nn := nl) (fun i m₁ nx => ∃ us n rest ta, nx = (D, listOf us.toArray n) :: rest ∧ (∀ p ∈ news, p ∈ rest) ∧ (∀ p ∈ rest, p.1 ≠ D) ∧ StrsAre us ((pfold size (pairs.take i)).ps ++ [(pfold size (pairs.take i)).last]) ∧
      m₁ "parts" = some (.ref D) ∧ m₁ "at" = some (.int ((pfold size (pairs.take i)).at_ : Nat) ta) ∧ m₁ "size" = some (.int size t))
    R'.hh rfl rfl rfl (List.mem_cons_of_mem _ hlm) F₅ N₅ ⟨_, 0, news, _, rfl, fun p hp => hp, offD, .cons _ _ .nil, by walk_at "lk", by walk_at "lk", by walk_at "lk"⟩ ?_ ?_ ?_
  · rintro i v m₁ nx hv ⟨us, n, rest, ta, rfl, hsub, -⟩
    obtain ⟨d, hd, hin⟩ := hxs.get hv
    obtain ⟨p, -, rfl⟩ : ∃ p, pairs[i]? = some p ∧ encP p = d := by
      rw [List.getElem?_map] at hd
      simpa using hd
    obtain ⟨ta, tv1, tv2, tn, rfl, htm, -, -⟩ := hin.inv_pair
    exact ⟨ta, _, tv1, tv2, tn, rfl, List.mem_cons_of_mem _ (hsub _ htm), rfl, rfl⟩
  · rintro i tt o v1 v2 n2 m₁ nx s₁ own hv hto hoc hod hoff hlm' ⟨us, n, rest, ta, rfl, hsub, hoffD, hus, hmp, hma, hms⟩ F₆ N₆
    obtain ⟨d, hd, hin⟩ := hxs.get hv
    obtain ⟨p, hp, rfl⟩ : ∃ p, pairs[i]? = some p ∧ encP p = d := by
      rw [List.getElem?_map] at hd
      simpa using hd
    obtain ⟨ta', tv1, tv2, tn, e0, htm, hin1, hin2⟩ := hin.inv_pair
    cases e0
    have eo : o = { cls := .type "tuple", data := .seq [tv1, tv2].toArray tn } := by
      have q1 := (N₆ (tt, o) (List.mem_append_left _ hto)).1
      have q2 := (N₆ (tt, _) (List.mem_append_left _ (List.mem_cons_of_mem _ (hsub _ htm)))).1
      simp only at q1 q2
      rw [q1] at q2
      exact Option.some.inj q2
    subst eo
    simp only [Data.seq.injEq] at hod
    obtain ⟨hod, -⟩ := hod
    have e1 : tv1 = v1 ∧ tv2 = v2 := by simpa using hod
    obtain ⟨rfl, rfl⟩ := e1
    clear hod hoc
    obtain ⟨t1, rfl⟩ := hin1.inv_str
    obtain ⟨raw, sign⟩ := p
    dsimp only at hin2
    have hb := pfold_bound hsm size i
    have hm := hsm _ (List.mem_of_getElem? hp)
    have hm1 : raw.length ≤ 10 := hm.1
    have hi : i < pairs.length := (List.getElem?_eq_some_iff.mp hp).1
    have hst := pfold_succ (size := size) hp
    rw [hst]
    have hul : us.length ≤ 100000 := by have := strs_len hus; simp at this; omega
    have offo : ∀ p ∈ rest ++ own, p.1 ≠ D := fun p hp => by
      rcases List.mem_append.mp hp with hp | hp
      · exact hoffD p hp
      · exact hoff p hp D (by simp)
    obtain ⟨gs, gg, gd, gt, go⟩ := s₁
    dsimp only at F₆ N₆
    refine seq_mid (fun s' => ∃ us' n' h' tk' ps' last', s' = ⟨h', gg, gd, tk', go⟩ ∧ pstep size (pfold size (pairs.take i)) (raw, sign) = ⟨ps', last', (pfold size (pairs.take i)).at_ + raw.length⟩ ∧ StrsAre us' (ps' ++ [last']) ∧
        Fr g L' h' (upd (upd m₁ "raw" (.str raw t1)) "sign" tv2) ∧ News g L' h' ((D, listOf us'.toArray n') :: (rest ++ own))) ?_ ?_
    · cases sign with
      | none =>
        obtain rfl := hin2.inv_none
        repeat walk_at "z"
        refine wpAny_is_self rfl ?_
        repeat walk_at "z"
        rw [if_pos rfl]
        repeat walk_at "z"
        by_cases hlt : (pfold size (pairs.take i)).at_ < size
        · rw [if_pos (by simpa using hlt)]
          repeat walk_at "z"
          refine listMethod_K N₆ (List.mem_cons_self ..) PySem.F.slot_list_append PySem.F.type_list_append ?_
          repeat walk_at "z"
          refine appL (rest := rest ++ own) F₆ N₆ offo hul (fun h₉ n₉ F₉ N₉ => ?_)
          repeat walk_at "z"
          refine ⟨rfl, _, n₉, h₉, _, _, _, rfl, by simp only [pstep]; rw [if_pos hlt], ?_, F₉, N₉⟩
          exact strs_app hus (.cons _ _ .nil)
        · rw [if_neg (by simpa using hlt)]
          repeat walk_at "z"
          exact ⟨rfl, us, n, _, _, _, _, rfl, by simp only [pstep]; rw [if_neg hlt], hus, F₆, N₆⟩
      | some sg =>
        obtain ⟨t2, rfl⟩ := hin2.inv_str
        repeat walk_at "z"
        refine wpAny_is_other rfl (by intro x; cases x) ?_
        repeat walk_at "z"
        rw [if_neg (by simp)]
        repeat walk_at "z"
        refine SBL.len (by omega) ?_
        repeat walk_at "z"
        by_cases hle : (pfold size (pairs.take i)).at_ + raw.length ≤ size
        · rw [if_pos (by simp; omega)]
          repeat walk_at "z"
          refine wpAny_AugAssign_SubscriptAny ?_ (fun _ _ _ => by with_unfolding_all rfl)
          repeat walk_at "z"
          obtain ⟨vs, t', rfl, hvs⟩ := strs_snoc' hus
          refine getLast (N₆ (D, _) (List.mem_cons_self ..)).1 ?_
          repeat walk_at "z"
          refine SBL.iadd (fun t₂ k₂ hl2 => ?_) (by rw [sizeLine_eq]; have := hm.2 sg rfl; omega)
          repeat walk_at "z"
          refine setLast (rest := rest ++ own) F₆ N₆ offo (fun h₉ n₉ F₉ N₉ => ?_)
          repeat walk_at "z"
          refine ⟨rfl, _, n₉, h₉, _, _, _, rfl, by simp only [pstep]; rw [if_pos hle], ?_, F₉, N₉⟩
          exact strs_app hvs (.cons _ _ .nil)
        · rw [if_neg (by simp; omega)]
          repeat walk_at "z"
          exact ⟨rfl, us, n, _, _, _, _, rfl, by simp only [pstep]; rw [if_neg hle], hus, F₆, N₆⟩
    · rintro s' ⟨us', n', h', tk', ps', last', rfl, hst', hus', F₇, N₇⟩
      repeat walk_at "z"
      refine SBL.len (by omega) ?_
      repeat walk_at "z"
      refine st' F₇ N₇ (fun h₈ F₈ N₈ => ?_) rfl rfl
      repeat walk_at "z"
      refine ⟨rfl, InvEndG.intro (nx := (D, listOf us'.toArray n') :: rest) F₈ N₈ ⟨List.mem_cons_of_mem _ (hsub _ hlm), us', n', rest, tk' + 1 + 1, rfl, hsub, hoffD, by rw [hst']; exact hus', by walk_at "lk", ?_, by walk_at "lk"⟩ ?_ ?_ ?_⟩
      · rw [hst']
        exact upd_eq
      · exact hoff
      · intro p hp
        rcases List.mem_cons.mp hp with rfl | hp
        · exact List.mem_cons_self ..
        · exact List.mem_cons_of_mem _ (List.mem_append_left _ hp)
      · intro p hp
        exact List.mem_cons_of_mem _ (List.mem_append_right _ hp)
  · rintro m₁ nx h tk ⟨us, n, rest, ta, rfl, hsub, hoffD, hus, hmp, hma, hms⟩ F₆ N₆
    rw [hxl, List.take_length] at hus
    repeat walk_at "z"
    refine ⟨_, _, _, _, _, rfl, rfl, F₆, N₆, fun p hp => by simp [hsub p hp], ?_⟩
    exact lst_in (List.mem_cons_self ..) (InAll.of_strs hus)

/-! parse_http_list -/
structure CSt where
  res : List Str
  part : Str
  esc : Bool
  quo : Bool
def cstep (S : CSt) (c : Nat) : CSt :=
  if S.esc then ⟨S.res, S.part ++ ⟨#[c]⟩, false, S.quo⟩
  else if S.quo then (if c = 92 then ⟨S.res, S.part, true, S.quo⟩ else ⟨S.res, S.part ++ ⟨#[c]⟩, S.esc, if c = 34 then false else S.quo⟩)
  else if c = 44 then ⟨S.res ++ [S.part], ⟨#[]⟩, S.esc, S.quo⟩
  else ⟨S.res, S.part ++ ⟨#[c]⟩, S.esc, if c = 34 then true else S.quo⟩
def cfold (l : List Nat) : CSt := l.foldl cstep ⟨[], ⟨#[]⟩, false, false⟩
def cuts (l : List Nat) : List Str := if (cfold l).part.length ≠ 0 then (cfold l).res ++ [(cfold l).part] else (cfold l).res
def parse (l : List Nat) : List Str := (cuts l).map Txt.strip

theorem cfold_succ {l : List Nat} {i c : Nat} (h : l[i]? = some c) : cfold (l.take (i + 1)) = cstep (cfold (l.take i)) c := by
  unfold cfold
  rw [List.take_add_one, h, List.foldl_append]
  rfl
theorem len1 (c : Nat) : (⟨#[c]⟩ : Str).length = 1 := rfl
theorem cstep_bound (S : CSt) (c n : Nat) (h1 : S.res.length ≤ n) (h2 : S.part.length ≤ n) (h3 : ∀ x ∈ S.res, x.length ≤ n) : (cstep S c).res.length ≤ n + 1 ∧ (cstep S c).part.length ≤ n + 1 ∧ ∀ x ∈ (cstep S c).res, x.length ≤ n + 1 := by
  have h3' : ∀ x ∈ S.res, x.length ≤ n + 1 := fun x hx => Nat.le_succ_of_le (h3 x hx)
  have h4 : (S.part ++ (⟨#[c]⟩ : Str)).length ≤ n + 1 := by rw [strLen_append, len1]; omega
  unfold cstep
  split
  · exact ⟨Nat.le_succ_of_le h1, h4, h3'⟩
  · split
    · split
      · exact ⟨Nat.le_succ_of_le h1, Nat.le_succ_of_le h2, h3'⟩
      · exact ⟨Nat.le_succ_of_le h1, h4, h3'⟩
    · split
      · refine ⟨by simp; omega, Nat.zero_le _, fun x hx => ?_⟩
        rcases List.mem_append.mp hx with hx | hx
        · exact h3' x hx
        · rw [List.mem_singleton.mp hx]; omega
      · exact ⟨Nat.le_succ_of_le h1, h4, h3'⟩
theorem cfold_bound (l : List Nat) : ∀ i, (cfold (l.take i)).res.length ≤ i ∧ (cfold (l.take i)).part.length ≤ i ∧ ∀ x ∈ (cfold (l.take i)).res, x.length ≤ i := by
  intro i
  induction i with
  | zero => simp [cfold, PySem.Str.length]
  | succ i ih =>
    cases hp : l[i]? with
    | none =>
      have hle : l.length ≤ i := by simpa using hp
      rw [List.take_of_length_le (by omega)]
      rw [List.take_of_length_le hle] at ih
      exact ⟨by omega, by omega, fun x hx => Nat.le_succ_of_le (ih.2.2 x hx)⟩
    | some c =>
      rw [cfold_succ hp]
      exact cstep_bound _ c i ih.1 ih.2.1 ih.2.2

theorem c_parse {prog : Program} {w : World} {mg mb : Str → Option Value} {A : Around} {E : Value → Shared → Prop} {s : Shared} {h₀ : Heap} {L : Addr} {m : Str → Option Value} {news : List (Addr × Obj)} {f : Addr} {x : Str} {t : Tok} {Q : Value → Shared → Prop}
    (X : FnI mg h₀ "parse_http_list" 4 f) (W : Md mg mb h₀) (R : Room A 3 9) (F : Fr h₀ L s.heap m) (N : News h₀ L s.heap news) (hx : x.length ≤ 50000)
    (hQ : ∀ v h' tk' news', (∀ p ∈ news, p ∈ news') → Fr h₀ L h' m → News h₀ L h' news' → In news' v (encT (parse x.cps.toList)) → Q v { s with heap := h', toks := tk' }) :
    wpAny (model prog w) A (call (.ref f) [.str x t]) Q E s := by
  refine' enterFn (d := 2) (u := 6) (binds := [("s", .str x t)]) X W R F N ?e1 ?e2 ?_ ?_ ?_ ?_ ?_ ?_ (fun v N' => In N' v (encT (parse x.cps.toList))) ?_ hQ
  case e1 => walk_at "body"
  case e2 => walk_at "body"
  · intro _ _ _ _ _; with_unfolding_all rfl
  · decide
  · exact locs rfl
  · exact rfl
  · exact rfl
  · exact rfl
  intro A' g L' h₁ cd tk st W' F' N' R'
  have hxl : x.cps.toList.length ≤ 50000 := by simpa [PySem.Str.length] using hx
  repeat walk_at "z"
  refine newL F' N' (by simp) (fun D h₃ ha₂ F₃ N₃ => ?_)
  repeat walk_at "z"
  refine st' F₃ N₃ (fun h₄ F₄ N₄ => ?_) rfl rfl
  repeat walk_at "z"
  refine st' F₄ N₄ (fun h₅ F₅ N₅ => ?_) rfl rfl
  repeat walk_at "z"
  refine wpAny_Assign_two ?_ (by with_unfolding_all rfl) (by with_unfolding_all rfl)
  repeat walk_at "z"
  refine wpAny_assign_Name (st' F₅ N₅ (fun h₆ F₆ N₆ => ?_) rfl rfl)
  refine wpAny_assign_Name (st' F₆ N₆ (fun h₇ F₇ N₇ => ?_) rfl rfl)
  repeat walk_at "z"
  refine For_invV g rfl rfl ?_ (fun _ => by with_unfolding_all rfl) (fun _ _ h => h.elim)
  repeat walk_at "z"
  have offD : ∀ p ∈ news, p.1 ≠ D := fun p hp => ha₂ _ _ (N' p hp).1
  refine loopS (fun i m₁ nx => ∃ us n tp, nx = (D, listOf us.toArray n) :: news ∧ StrsAre us (cfold (x.cps.toList.take i)).res ∧
      m₁ "res" = some (.ref D) ∧ m₁ "part" = some (.str (cfold (x.cps.toList.take i)).part tp) ∧ m₁ "escape" = some (.bool (cfold (x.cps.toList.take i)).esc) ∧ m₁ "quote" = some (.bool (cfold (x.cps.toList.take i)).quo))
    R'.hh F₇ N₇ ⟨[], 0, _, rfl, .nil, by walk_at "lk", by walk_at "lk", by walk_at "lk", by walk_at "lk"⟩ ?_ ?_
  · rintro i c tc m₁ nx h tk own hc hoff ⟨us, n, tp, rfl, hus, hmr, hmp, hme, hmq⟩ F₈ N₈
    rw [cfold_succ hc]
    have hb := cfold_bound x.cps.toList i
    have hi : i < x.cps.toList.length := (List.getElem?_eq_some_iff.mp hc).1
    have hul : us.length ≤ 100000 := by have := strs_len hus; omega
    generalize cfold (x.cps.toList.take i) = S at hus hmp hme hmq hb ⊢
    obtain ⟨res, part, esc, quo⟩ := S
    dsimp only at hus hmp hme hmq hb ⊢
    have fin : ∀ (us' : List Value) n' (h' : Heap) tk' m' tp' (S' : CSt), S' = cstep ⟨res, part, esc, quo⟩ c → Fr g L' h' m' → News g L' h' ((D, listOf us'.toArray n') :: (news ++ own)) → StrsAre us' S'.res →
        m' "res" = some (.ref D) → m' "part" = some (.str S'.part tp') → m' "escape" = some (.bool S'.esc) → m' "quote" = some (.bool S'.quo) →
        InvEndG g L' (fun m₁ nx => ∃ us n tp, nx = (D, listOf us.toArray n) :: news ∧ StrsAre us (cstep ⟨res, part, esc, quo⟩ c).res ∧
          m₁ "res" = some (.ref D) ∧ m₁ "part" = some (.str (cstep ⟨res, part, esc, quo⟩ c).part tp) ∧ m₁ "escape" = some (.bool (cstep ⟨res, part, esc, quo⟩ c).esc) ∧ m₁ "quote" = some (.bool (cstep ⟨res, part, esc, quo⟩ c).quo)) own
          { s with heap := h, toks := tk } { s with heap := h', toks := tk' } := by
      intro us' n' h' tk' m' tp' S' e F₉ N₉ h1 h2 h3 h4 h5
      subst e
      refine InvEndG.intro (nx := (D, listOf us'.toArray n') :: news) F₉ N₉ ⟨us', n', tp', rfl, h1, h2, h3, h4, h5⟩ hoff (fun p hp => ?_) (fun p hp => List.mem_cons_of_mem _ (List.mem_append_right _ hp))
      rcases List.mem_cons.mp hp with rfl | hp
      · exact List.mem_cons_self ..
      · exact List.mem_cons_of_mem _ (List.mem_append_left _ hp)
    have e92 : ((⟨#[c]⟩ : Str) == PySem.Str.ofString "\\") = decide (c = 92) := ch_eq (by decide +kernel)
    have e34 : ((⟨#[c]⟩ : Str) == PySem.Str.ofString "\"") = decide (c = 34) := ch_eq (by decide +kernel)
    have e44 : ((⟨#[c]⟩ : Str) == PySem.Str.ofString ",") = decide (c = 44) := ch_eq (by decide +kernel)
    have hadd : part.length + (⟨#[c]⟩ : Str).length ≤ sizeLine := by rw [sizeLine_eq, len1]; omega
    cases esc with
    | true =>
      repeat walk_at "z"
      rw [if_pos rfl]
      repeat walk_at "z"
      refine SBL.iadd (fun t₂ k₂ hl2 => ?_) hadd
      repeat walk_at "z"
      refine st' F₈ N₈ (fun h₉ F₉ N₉ => ?_) rfl rfl
      repeat walk_at "z"
      refine st' F₉ N₉ (fun h₉ F₉ N₉ => ?_) rfl rfl
      repeat walk_at "z"
      exact fin us n _ _ _ t₂ ⟨res, part ++ ⟨#[c]⟩, false, quo⟩ (by simp [cstep]) F₉ N₉ hus (by walk_at "lk") (by walk_at "lk") (by walk_at "lk") (by walk_at "lk")
    | false =>
      repeat walk_at "z"
      rw [if_neg (by simp)]
      repeat walk_at "z"
      cases quo with
      | true =>
        repeat walk_at "z"
        rw [if_pos rfl]
        repeat walk_at "z"
        rw [e92]
        by_cases h92 : c = 92
        · rw [if_pos (by simpa using h92)]
          repeat walk_at "z"
          refine st' F₈ N₈ (fun h₉ F₉ N₉ => ?_) rfl rfl
          repeat walk_at "z"
          exact fin us n _ _ _ tp ⟨res, part, true, true⟩ (by simp [cstep, h92]) F₉ N₉ hus (by walk_at "lk") (by walk_at "lk") (by walk_at "lk") (by walk_at "lk")
        · rw [if_neg (by simpa using h92)]
          repeat walk_at "z"
          rw [e34]
          by_cases h34 : c = 34
          · rw [if_pos (by simpa using h34)]
            repeat walk_at "z"
            refine st' F₈ N₈ (fun h₉ F₉ N₉ => ?_) rfl rfl
            repeat walk_at "z"
            refine SBL.iadd (fun t₂ k₂ hl2 => ?_) hadd
            repeat walk_at "z"
            refine st' F₉ N₉ (fun h₉ F₉ N₉ => ?_) rfl rfl
            repeat walk_at "z"
            exact fin us n _ _ _ t₂ ⟨res, part ++ ⟨#[c]⟩, false, false⟩ (by simp [cstep, h34]) F₉ N₉ hus (by walk_at "lk") (by walk_at "lk") (by walk_at "lk") (by walk_at "lk")
          · rw [if_neg (by simpa using h34)]
            repeat walk_at "z"
            refine SBL.iadd (fun t₂ k₂ hl2 => ?_) hadd
            repeat walk_at "z"
            refine st' F₈ N₈ (fun h₉ F₉ N₉ => ?_) rfl rfl
            repeat walk_at "z"
            exact fin us n _ _ _ t₂ ⟨res, part ++ ⟨#[c]⟩, false, true⟩ (by simp [cstep, h34, h92]) F₉ N₉ hus (by walk_at "lk") (by walk_at "lk") (by walk_at "lk") (by walk_at "lk")
      | false =>
        repeat walk_at "z"
        rw [if_neg (by simp)]
        repeat walk_at "z"
        rw [e44]
        by_cases h44 : c = 44
        · rw [if_pos (by simpa using h44)]
          repeat walk_at "z"
          refine listMethod_K N₈ (List.mem_cons_self ..) PySem.F.slot_list_append PySem.F.type_list_append ?_
          repeat walk_at "z"
          refine appL (rest := news ++ own) F₈ N₈ (fun p hp => ?_) hul (fun h₉ n₉ F₉ N₉ => ?_)
          · rcases List.mem_append.mp hp with hp | hp
            · exact offD p hp
            · exact hoff p hp D (by simp)
          repeat walk_at "z"
          refine st' F₉ N₉ (fun h₉ F₉ N₉ => ?_) rfl rfl
          repeat walk_at "z"
          exact fin _ n₉ _ _ _ _ ⟨res ++ [part], ⟨#[]⟩, false, false⟩ (by simp [cstep, h44]) F₉ N₉ (strs_app hus (.cons _ _ .nil)) (by walk_at "lk") (by walk_at "lk") (by walk_at "lk") (by walk_at "lk")
        · rw [if_neg (by simpa using h44)]
          repeat walk_at "z"
          rw [e34]
          by_cases h34 : c = 34
          · rw [if_pos (by simpa using h34)]
            repeat walk_at "z"
            refine st' F₈ N₈ (fun h₉ F₉ N₉ => ?_) rfl rfl
            repeat walk_at "z"
            refine SBL.iadd (fun t₂ k₂ hl2 => ?_) hadd
            repeat walk_at "z"
            refine st' F₉ N₉ (fun h₉ F₉ N₉ => ?_) rfl rfl
            repeat walk_at "z"
            exact fin us n _ _ _ t₂ ⟨res, part ++ ⟨#[c]⟩, false, true⟩ (by simp [cstep, h34]) F₉ N₉ hus (by walk_at "lk") (by walk_at "lk") (by walk_at "lk") (by walk_at "lk")
          · rw [if_neg (by simpa using h34)]
            repeat walk_at "z"
            refine SBL.iadd (fun t₂ k₂ hl2 => ?_) hadd
            repeat walk_at "z"
            refine st' F₈ N₈ (fun h₉ F₉ N₉ => ?_) rfl rfl
            repeat walk_at "z"
            exact fin us n _ _ _ t₂ ⟨res, part ++ ⟨#[c]⟩, false, false⟩ (by simp [cstep, h34, h44]) F₉ N₉ hus (by walk_at "lk") (by walk_at "lk") (by walk_at "lk") (by walk_at "lk")
  · rintro m₁ nx h tk ⟨us, n, tp, rfl, hus, hmr, hmp, hme, hmq⟩ F₈ N₈
    rw [List.take_length] at hus hmp
    have hb := cfold_bound x.cps.toList x.cps.toList.length
    rw [List.take_length] at hb
    have hul : us.length ≤ 100000 := by have := strs_len hus; omega
    refine seq_mid (fun s' => ∃ us' n' h' tk' m', s' = { s with heap := h', toks := tk' } ∧ Fr g L' h' m' ∧ News g L' h' ((D, listOf us'.toArray n') :: news) ∧ StrsAre us' (cuts x.cps.toList) ∧ m' "res" = some (.ref D)) ?_ ?_
    · repeat walk_at "z"
      refine SBL.truthy (by omega) ?_
      repeat walk_at "z"
      by_cases h0 : (cfold x.cps.toList).part.length = 0
      · rw [if_neg (by simp [h0])]
        repeat walk_at "z"
        exact ⟨rfl, us, n, _, _, _, rfl, F₈, N₈, by unfold cuts; rw [if_neg (by simpa using h0)]; exact hus, hmr⟩
      · rw [if_pos (by simpa using h0)]
        repeat walk_at "z"
        refine listMethod_K N₈ (List.mem_cons_self ..) PySem.F.slot_list_append PySem.F.type_list_append ?_
        repeat walk_at "z"
        refine appL F₈ N₈ offD hul (fun h₉ n₉ F₉ N₉ => ?_)
        repeat walk_at "z"
        exact ⟨rfl, _, n₉, _, _, _, rfl, F₉, N₉, by unfold cuts; rw [if_pos (by simpa using h0)]; exact strs_app hus (.cons _ _ .nil), hmr⟩
    · rintro s' ⟨us', n', h', tk', m', rfl, F₉, N₉, hus', hmr'⟩
      repeat walk_at "z"
      have hcut : ∀ y ∈ cuts x.cps.toList, y.length ≤ 50000 := by
        intro y hy
        unfold cuts at hy
        split at hy
        · rcases List.mem_append.mp hy with hy | hy
          · exact Nat.le_trans (hb.2.2 y hy) hxl
          · rw [List.mem_singleton.mp hy]; exact Nat.le_trans hb.2.1 hxl
        · exact Nat.le_trans (hb.2.2 y hy) hxl
      have hul' : us'.length ≤ 100001 := by
        have e1 := strs_len hus'
        have e2 : (cuts x.cps.toList).length ≤ (cfold x.cps.toList).res.length + 1 := by unfold cuts; split <;> simp
        omega
      refine LCg.ListComp_U F₉ (by with_unfolding_all rfl) (by decide) rfl (by decide) rfl ?_ (fun _ => by with_unfolding_all rfl)
      repeat walk_at "z"
      refine LCg.CompSrc.ledger R'.hh F₉ N₉ (List.mem_cons_self ..) (by simp only [List.size_toArray, sizeLine_eq]; omega) (fun g' => ?_)
      refine CTurn.rest (n := us'.toArray.size) (J := fun i ys nw => StrsAre ys (((cuts x.cps.toList).take i).map Txt.strip) ∧ ∀ p ∈ (D, listOf us'.toArray n') :: news, p ∈ nw) ?_ ?_ _ 0 [] _ (Nat.zero_add _) ⟨.nil, fun _ hp => hp⟩ (.inr ⟨_, List.mem_cons_self .., rfl, _, rfl⟩)
      · intro i ys nw v I oI C oC D' m₂ h tk E' hi hJ hP hC hm F₂ N₂ off ne hS
        obtain ⟨y, ty, hy, rfl⟩ := strs_get hus' (i := i) (v := v) (by simpa using hP)
        repeat walk_at "z"
        refine ldc N₂ (by simp) hC hm ?_ rfl rfl
        repeat walk_at "z"
        refine GM.strip ?_
        repeat walk_at "z"
        refine SCL.strip (fun t₂ k₂ hl2 => ?_) (by rw [sizeLine_eq]; have := hcut y (List.mem_of_getElem? hy); omega)
        refine cend0 off F₂ N₂ hS ⟨?_, hJ.2⟩
        rw [take_map_succ _ hy]
        exact strs_app hJ.1 (.cons _ _ .nil)
      · intro ys nw hJ D' h tk F₂ N₂ off
        have e : us'.toArray.size = (cuts x.cps.toList).length := by rw [List.size_toArray]; exact strs_len hus'
        rw [e, List.take_length] at hJ
        refine ⟨_, _, _, _, _, rfl, rfl, F₂, N₂, fun p hp => List.mem_cons_of_mem _ (hJ.2 p (List.mem_cons_of_mem _ hp)), ?_⟩
        exact lst_in (List.mem_cons_self ..) (InAll.of_strs hJ.1)

/-! safe_repr -/
def tail15 : Str := " [truncated]..."
def srep (d : PyData) (short : Bool) : Str := if (!short || decide (d.shown.length < 80)) = true then d.shown else Txt.slice d.shown none (some 80) ++ tail15

theorem c_safe {prog : Program} {w : World} {mg mb : Str → Option Value} {A : Around} {E : Value → Shared → Prop} {s : Shared} {h₀ : Heap} {L : Addr} {m : Str → Option Value} {news : List (Addr × Obj)} {f : Addr} {v : Value} {d : PyData} {args : List Value} {short : Bool} {Q : Value → Shared → Prop}
    (X : FnD mg h₀ "safe_repr" 2 f) (W : Md mg mb h₀) (R : Room A 3 109) (F : Fr h₀ L s.heap m) (N : News h₀ L s.heap news)
    (hargs : (args = [v] ∧ short = false) ∨ args = [v, .bool short])
    (hv : In news v d) (h1 : d.showable = true) (h2 : d.hasDict = false) (h3 : isDisplay d = true) (h4 : d.depth ≤ 20) (h5 : d.shown.length ≤ 50000)
    (hQ : ∀ t h' tk' news', (∀ p ∈ news, p ∈ news') → Fr h₀ L h' m → News h₀ L h' news' → Q (.str (srep d short) t) { s with heap := h', toks := tk' }) :
    wpAny (model prog w) A (call (.ref f) args) Q E s := by
  obtain ⟨o, T, oT, n, doc, pm, cdv, ct, an, hmg, ho, hd, hcd, hT, hTd⟩ := X
  refine enter (d := 2) (u := 106) (binds := [("obj", v), ("short", .bool short)]) R F N W.lim ho hd hcd rfl ?_ ?_ ?_ ?_ ?_ ?_ (fun v N' => ∃ t, v = .str (srep d short) t) ?_ ?_
  · rcases hargs with ⟨rfl, rfl⟩ | rfl
    · exact BindsTo.of_defaults rfl (F.keep _ _ hT) hTd (by with_unfolding_all rfl) (by with_unfolding_all rfl)
    · exact BindsTo.of_defaults rfl (F.keep _ _ hT) hTd (by with_unfolding_all rfl) (by with_unfolding_all rfl)
  · show ∀ x ∈ (fScope (stAt 2)).names, _
    decide
  · exact locs rfl
  · exact rfl
  · exact rfl
  · exact rfl
  · intro g L' h₁ st F' N' R'
    have W' := W.keeps st
    obtain ⟨tM, hM⟩ := W.mx
    generalize A.deeper _ = A' at R' ⊢
    refine' as_env ?e1 ?e2 ?_
    case e1 => walk_at "body"
    case e2 => walk_at "body"
    generalize s.toks + _ = tk
    repeat walk_at "z"
    refine wpAny_Try_except ?_
    repeat walk_at "z"
    refine repr_via hv.via F' N' h1 h2 h3 R'.hg (by have := R'.hu; omega) (fun h₂ u k F₂ N₂ => ?_) (by rw [sizeLine_eq]; omega)
    repeat walk_at "z"
    refine st' F₂ N₂ (fun h₃ F₃ N₃ => ?_) rfl rfl
    repeat walk_at "z"
    have done : ∀ h' tk' t (m' : Str → Option Value), Fr g L' h' m' → News g L' h' news → Ret g L' news (fun v N' => ∃ t, v = .str (srep d short) t) { s with heap := h₁, toks := tk } (.ret (.str (srep d short) t)) { s with heap := h', toks := tk' } :=
      fun h' tk' t m' F' N' => ⟨_, h', tk', m', news, rfl, rfl, F', N', fun p hp => hp, t, rfl⟩
    cases short with
    | false =>
      rw [show (!false) = true from rfl, if_pos rfl, if_pos rfl]
      repeat walk_at "z"
      have e : srep d false = d.shown := if_pos (by simp)
      rw [← e]
      exact done _ _ _ _ F₃ N₃
    | true =>
      rw [show (!true) = false from rfl, if_neg (by simp)]
      repeat walk_at "z"
      refine SBL.len (by omega) ?_
      repeat walk_at "z"
      refine ldg F₃ W' hM ?_ rfl rfl (by decide)
      repeat walk_at "z"
      by_cases hl : d.shown.length < 80
      · rw [if_pos (by simp; omega), if_pos rfl]
        repeat walk_at "z"
        have e : srep d true = d.shown := if_pos (by simpa using hl)
        rw [← e]
        exact done _ _ _ _ F₃ N₃
      · rw [if_neg (by simp; omega)]
        repeat walk_at "z"
        rw [if_neg (by simp)]
        repeat walk_at "z"
        refine ldg F₃ W' hM ?_ rfl rfl (by decide)
        repeat walk_at "z"
        refine slice_strN_ns (s := ⟨_, _, _, _, _⟩) F₃ N₃ (fun h₄ t₄ k₄ F₄ N₄ => ?_) (by with_unfolding_all rfl) (fun _ => by with_unfolding_all rfl) (by rw [sizeLine_eq]; omega)
        repeat walk_at "z"
        have hlen := Txt.length_slice_le d.shown none (some 80)
        refine add_str (fun t₅ k₅ => ?_) (by rw [sizeLine_eq]; have : (PySem.Str.ofString " [truncated]...").length = 15 := by decide +kernel
                                             omega)
        have e : srep d true = Txt.slice d.shown none (some 80) ++ PySem.Str.ofString " [truncated]..." := if_neg (by simpa using hl)
        rw [← e]
        exact done _ _ _ _ F₄ N₄
  · rintro v h' tk' news' hs F' N' ⟨t, rfl⟩
    exact hQ t h' tk' news' hs F' N'

/-! what _law_with adds -/
def cat (ys : List Str) : Str := ⟨(ys.flatMap fun y => y.cps.toList).toArray⟩
theorem joinCat (ys : List Str) : Txt.join ("" : Str) ys = cat ys := by
  show Builtin.Str.glued _ _ = _
  rw [StrLaws.glued_eq_join]
  induction ys with
  | nil => rfl
  | cons a r ih =>
    cases r with
    | nil =>
      refine PySem.Str.ext' ?_
      simp [PySem.Str.join, cat]
    | cons b r =>
      show a ++ ("" : Str) ++ PySem.Str.join ("" : Str) (b :: r) = _
      rw [ih]
      refine PySem.Str.ext' ?_
      rw [PySem.Str.cps_append, PySem.Str.cps_append]
      have e : ("" : Str).cps = #[] := by decide +kernel
      rw [e]
      simp [cat]
theorem cat_len (ys : List Str) : (cat ys).length = (ys.map (·.length)).sum := by
  show (cat ys).cps.size = _
  simp only [cat, List.size_toArray, List.length_flatMap]
  rfl
def selfP (x : Str) : List Pair := x.cps.toList.map fun c => (⟨#[c]⟩, some ⟨#[c]⟩)
def menuL (n : Nat) : List (PyData × Str) :=
  [(.none, "None"), (.int ((n : Int) - 400), ((toString ((n : Int) - 400) : String) : Str)), (.str "", "''"), (.str "b c", "'b c'"), (.str "b\"x, y\"", "'b\"x, y\"'"), (.str "\\", "'\\\\'")]
def menuAt (n : Nat) : PyData × Str := ((menuL n)[n % 6]?).getD (.none, ⟨#[]⟩)
def alpha : Str := "a,'\\ ="
def sgn (n p : Nat) : Str := Txt.item alpha ((n / 4 / p % 6 : Nat) : Int)
def sgns (n : Nat) : Str := cat (([1, 6, 36].take (n % 4)).map (sgn n))
def textOf (n r : Nat) : Str := "'" ++ Txt.mul (sgns n) (if r = 2 then 3 else 1)
def innerOf (x : Str) : Str := cat ((quoted x).map (·.1))
def self1 (x : Str) : Pair := (x, some x)
def lawWith (row : List Item) (n r : Nat) : List Item :=
  if r = 0 then row ++ [((menuAt n).1, selfP (menuAt n).2)]
  else if r < 4 then
    if r < 3 then row ++ [(.str (textOf n r), quoted (textOf n r))]
    else row ++ [(.str (innerOf (textOf n r)), twice (innerOf (textOf n r)))]
  else
    let k := row.length - min row.length (n % 4)
    if r = 4 then row.take k ++ [(.list ((row.drop k).map (·.1)), joined (row.drop k) "[" [self1 "]"])]
    else row.take k ++ [(.tuple ((row.drop k).map (·.1)), joined (row.drop k) "(" (if (row.drop k).length = 1 then [(",", none), self1 ")"] else [self1 ")"]))]

def tot (l : List Item) : Nat := (l.map fun i => i.2.length).sum
theorem mid_len (l : List Item) : (mid l).length = tot l + (l.length - 1) := by
  cases l with
  | nil => rfl
  | cons a r =>
    have : ∀ r : List Item, (r.flatMap fun i => sepP :: i.2).length = tot r + r.length := by
      intro r
      induction r with
      | nil => rfl
      | cons b r ih => simp only [List.flatMap_cons, List.length_append, List.length_cons, ih, tot, List.map_cons, List.sum_cons]; omega
    simp only [mid, List.length_append, this, tot, List.map_cons, List.sum_cons, List.length_cons]
    omega
theorem tot_app (a b : List Item) : tot (a ++ b) = tot a + tot b := by simp [tot]
theorem tot_split (l : List Item) (k : Nat) : tot (l.take k) + tot (l.drop k) = tot l := by
  rw [← tot_app, List.take_append_drop]
theorem joined_len (l : List Item) (o : Str) (e : List Pair) : (joined l o e).length ≤ 1 + tot l + l.length + e.length := by
  simp only [joined, List.length_append, List.length_cons, mid_len]
  omega

/-! _law_with, the first branch -/
noncomputable def scW : Scope := fScope (stAt 9)
noncomputable def blkW (i : Nat) : List Stmt := ifBody (nthS (fBody (stAt 9)) i)

theorem menu_mem (n : Nat) : (menuL n)[n % 6]? = some (menuAt n) := by
  have : n % 6 < (menuL n).length := Nat.mod_lt _ (by decide)
  unfold menuAt
  rw [List.getElem?_eq_getElem this]
  rfl
theorem log_small {x : Int} (h : x.natAbs ≤ 1000) : x.natAbs.log2 < 1920 := Nat.lt_of_le_of_lt (Nat.log2_le_self _) (by omega)

theorem menu_len : ∀ n, n < 864 → (menuAt n).2.length ≤ 12 := by
  have : ((List.range 864).all fun n => decide ((menuAt n).2.length ≤ 12)) = true := by decide +kernel
  intro n hn
  simpa using (List.all_eq_true.mp this) n (by simpa using hn)

theorem w_menu {prog : Program} {w : World} {mg mb : Str → Option Value} {A : Around} {s : Shared} {h₀ : Heap} {L f c : Addr} {m : Str → Option Value} {news : List (Addr × Obj)} {oc : Obj} {cd rv : Value} {row : List Item} {n : Nat} {tn : Tok}
    (W : Md mg mb h₀) (hh : A.handled = none) (F : Fr h₀ L s.heap m) (N : News h₀ L s.heap ((c, oc) :: news)) (hoc : oc.data = .cell (some (.int (n : Int) tn))) (hn : n < 864)
    (hr : In news rv (encR row)) (hmr : m "row" = some rv) (hrow : row.length ≤ 1000) :
    wpAny (model prog w) A (execs (blkW 1) (envX "_law_with" scW L f cd [("n", c)])) (Ret h₀ L news (fun v N' => In N' v (encR (row ++ [((menuAt n).1, selfP (menuAt n).2)]))) s) (fun _ _ => False) s := by
  obtain ⟨l, xs, nl, rfl, hlm, hxs⟩ := hr.inv_list
  have hxl : xs.length = row.length := by have := hxs.length; simpa using this
  refine' as_blk ?e1 ?e2 ?_
  case e1 => walk_at "body"
  case e2 => walk_at "body"
  repeat walk_at "z"
  refine newT F N (fun a₁ h₁ ha₁ F₁ N₁ => ?_)
  repeat walk_at "z"
  refine P.str_of_int (log_small (by omega)) ?_
  obtain ⟨z, hz⟩ : ∃ z : Str, z = ((toString ((n : Int) - 400) : String) : Str) := ⟨_, rfl⟩
  rw [← hz]
  repeat walk_at "z"
  refine newT F₁ N₁ (fun a₂ h₂ ha₂ F₂ N₂ => ?_)
  repeat walk_at "z"
  refine newT F₂ N₂ (fun a₃ h₃ ha₃ F₃ N₃ => ?_)
  repeat walk_at "z"
  refine newT F₃ N₃ (fun a₄ h₄ ha₄ F₄ N₄ => ?_)
  repeat walk_at "z"
  refine newT F₄ N₄ (fun a₅ h₅ ha₅ F₅ N₅ => ?_)
  repeat walk_at "z"
  refine newT F₅ N₅ (fun a₆ h₆ ha₆ F₆ N₆ => ?_)
  repeat walk_at "z"
  refine newL F₆ N₆ (by simp) (fun a₇ h₇ ha₇ F₇ N₇ => ?_)
  repeat walk_at "z"
  refine sxL F₇ N₇ (fun h₈ F₈ N₈ => ?_) rfl rfl
  repeat walk_at "z"
  obtain ⟨vs, hvs⟩ : ∃ vs, vs = [Value.ref a₁, .ref a₂, .ref a₃, .ref a₄, .ref a₅, .ref a₆] := ⟨_, rfl⟩
  obtain ⟨N9, hN9⟩ : ∃ N9 : List (Addr × Obj), (∀ p ∈ news, p ∈ N9) ∧ (c, oc) ∈ N9 ∧ News h₀ L h₈ N9 ∧ (a₇, ({ cls := .type "list", data := .seq vs.toArray } : Obj)) ∈ N9 ∧ InAll N9 vs ((menuL n).map fun p => .tuple [p.1, .str p.2]) := by
    refine ⟨_, fun p hp => by simp [hp], by simp, N₈, by subst hvs; simp, ?_⟩
    subst hvs
    simp only [menuL, ← hz, List.map_cons, List.map_nil]
    refine .cons (tup_in (by walk_at "mm") .none (.str _ _)) (.cons (tup_in (by walk_at "mm") (.int _ _) (.str _ _)) (.cons (tup_in (by walk_at "mm") (.str _ _) (.str _ _)) (.cons (tup_in (by walk_at "mm") (.str _ _) (.str _ _)) (.cons (tup_in (by walk_at "mm") (.str _ _) (.str _ _)) (.cons (tup_in (by walk_at "mm") (.str _ _) (.str _ _)) .nil)))))
  clear N₁ N₂ N₃ N₄ N₅ N₆ N₇ N₈ F₁ F₂ F₃ F₄ F₅ F₆ F₇
  obtain ⟨hsub, hcm, N₈, hml, hin⟩ := hN9
  obtain ⟨u, hu, hun⟩ := hin.get' (k := n % 6) (d := .tuple [(menuAt n).1, .str (menuAt n).2]) (by rw [List.getElem?_map, menu_mem]; rfl)
  obtain ⟨ta, tv1, tv2, tnn, rfl, htm, hin1, hin2⟩ := hun.inv_pair
  obtain ⟨tw, rfl⟩ := hin2.inv_str
  refine Assign_Tuple ?_ rfl rfl
  repeat walk_at "z"
  refine itemL (isL N₈ hml) (by omega) (by omega) (v := .ref ta) (by rw [Int.toNat_natCast, List.getElem?_toArray]; exact hu) ?_ (by with_unfolding_all rfl)
  refine unpackN_ F₈ N₈ (isT N₈ htm) hh rfl rfl (fun h₉ F₉ N₉ => ?_)
  refine assignInOrder_cons (wpAny_assign_Name (sxL F₉ N₉ (fun h₁₀ F₁₀ N₁₀ => ?_) rfl rfl))
  refine assignInOrder_cons (wpAny_assign_Name (sxL F₁₀ N₁₀ (fun h₁₁ F₁₁ N₁₁ => ?_) rfl rfl))
  refine assignInOrder_nil ?_
  generalize hx : (menuAt n).2 = x at *
  have hxl : x.length ≤ 100 := by rw [← hx]; exact Nat.le_trans (menu_len n hn) (by decide)
  generalize (menuAt n).1 = d at *
  repeat walk_at "z"
  refine ListComp_S F₁₁ (by with_unfolding_all rfl) (by decide) rfl (by decide) rfl ?_ (fun _ => by with_unfolding_all rfl)
  walk_at "z"
  refine ⟨x, tw, N9, fun i ys nw => InAll nw ys ((x.cps.toList.take i).map (fun c => encP (⟨#[c]⟩, some ⟨#[c]⟩))) ∧ ∀ p ∈ N9, p ∈ nw, rfl, hh, F₁₁, N₁₁, by rw [sizeLine_eq]; omega, ⟨.nil, fun _ hp => hp⟩, ?_⟩
  rintro s₂ ⟨h₂, rfl⟩
  refine ⟨?_, ?_⟩
  · intro i ys nw v I oI C oC D m₂ h tk' E' hi hJ hP hC hm F₂ N₂ off ne _
    obtain ⟨c, u, hc, rfl⟩ := hP
    have hc' : x.cps.toList[i]? = some c := by simpa using hc
    repeat walk_at "z"
    refine ldc N₂ (by simp) hC hm ?_ rfl rfl
    repeat walk_at "z"
    refine ldc N₂ (by simp) hC hm ?_ rfl rfl
    repeat walk_at "z"
    refine newT F₂ N₂ (fun a h₃ ha F₃ N₃ => ?_)
    refine cend1 N₂ off ha F₃ N₃ trivial ⟨?_, fun p hp => List.mem_cons_of_mem _ (hJ.2 p hp)⟩
    rw [take_map_succ _ hc']
    exact (hJ.1.mono fun p hp => List.mem_cons_of_mem _ hp).append (.one (tup_in (List.mem_cons_self ..) (.str _ _) (.str _ _)))
  · intro ys nw hJ D h tk' F₂ N₂ off
    repeat walk_at "z"
    refine newT F₂ N₂ (fun a₃ h₃ ha₃ F₃ N₃ => ?_)
    repeat walk_at "z"
    refine newL F₃ N₃ (by simp) (fun a₄ h₄ ha₄ F₄ N₄ => ?_)
    repeat walk_at "z"
    refine addL F₄ N₄ (vs := [.ref a₃]) (us := xs) (List.mem_cons_of_mem _ (List.mem_cons_of_mem _ (List.mem_cons_of_mem _ (hJ.2 _ (hsub _ hlm))))) (by walk_at "mm") (by simp; omega) (fun a₅ h₅ ha₅ F₅ N₅ => ?_)
    refine ⟨_, _, _, _, _, rfl, rfl, F₅, N₅, fun p hp => by simp [hJ.2 _ (hsub _ hp)], ?_⟩
    refine lst_in (List.mem_cons_self ..) ?_
    rw [List.map_append]
    refine (hxs.mono fun p hp => by simp [hJ.2 _ (hsub _ hp)]).append (.one ?_)
    refine tup_in (a := a₃) (by walk_at "mm") (hin1.mono fun p hp => by simp [hJ.2 _ hp]) (lst_in (a := D) (by walk_at "mm") (vs := ys) ?_)
    have e : (selfP x).map encP = (x.cps.toList.take x.cps.size).map fun c => encP (⟨#[c]⟩, some ⟨#[c]⟩) := by
      simp [selfP, List.map_map, Function.comp_def, List.take_of_length_le]
    show InAll _ ys ((selfP x).map encP)
    rw [e]
    exact hJ.1.mono fun p hp => by simp [hp]

/-! _law_with, the texts -/
theorem alpha_len : alpha.length = 6 := by decide +kernel

theorem w_signs {prog : Program} {w : World} {A : Around} {s : Shared} {h₀ : Heap} {L f c : Addr} {m : Str → Option Value} {news : List (Addr × Obj)} {oc : Obj} {cd : Value} {n : Nat} {tn : Tok} {Q : Flow → Shared → Prop} {E : Value → Shared → Prop}
    (hh : A.handled = none) (F : Fr h₀ L s.heap m) (N : News h₀ L s.heap ((c, oc) :: news)) (hoc : oc.data = .cell (some (.int (n : Int) tn)))
    {st : Stmt} {sc : Scope} (est : nthS (blkW 2) 0 = st) (esc : scW = sc)
    (hQ : ∀ t h' tk' news', (∀ p ∈ (c, oc) :: news, p ∈ news') → Fr h₀ L h' (upd m "signs" (.str (sgns n) t)) → News h₀ L h' news' → Q .next { s with heap := h', toks := tk' }) :
    wpAny (model prog w) A (exec st (envX "_law_with" sc L f cd [("n", c)])) Q E s := by
  subst est; subst esc
  refine' as_st ?e1 ?e2 ?_
  case e1 => walk_at "body"
  case e2 => walk_at "body"
  repeat walk_at "z"
  refine GM.join ?_
  repeat walk_at "z"
  refine LCg.ListComp_U F (by with_unfolding_all rfl) (by decide) rfl (by decide) rfl ?_ (fun _ => by with_unfolding_all rfl)
  repeat walk_at "z"
  refine newL F N (by simp) (fun a₁ h₁ ha₁ F₁ N₁ => ?_)
  repeat walk_at "z"
  refine sliceUpto (s := ⟨_, _, _, _, _⟩) F₁ N₁ (xs := [_, _, _]) (List.mem_cons_self ..) (by simp) (fun a₂ h₂ ha₂ F₂ N₂ => ?_) (by with_unfolding_all rfl)
  repeat walk_at "z"
  have hus : IntsAre ([Value.int 1 (s.toks + 1), Value.int 6 (s.toks + 1 + 1), Value.int 36 (s.toks + 1 + 1 + 1)].take (n % 4)) (([1, 6, 36].take (n % 4)).map fun p : Nat => (p : Int)) := by
    rw [List.map_take]
    exact (IntsAre.cons _ _ (.cons _ _ (.cons _ _ .nil))).take _
  generalize ([Value.int 1 (s.toks + 1), Value.int 6 (s.toks + 1 + 1), Value.int 36 (s.toks + 1 + 1 + 1)].take (n % 4)) = us at hus N₂
  have hul : us.length = ([1, 6, 36].take (n % 4)).length := by rw [hus.length, List.length_map]
  have hp3 : ∀ p ∈ [1, 6, 36].take (n % 4), p ≠ 0 ∧ p < 1073741824 := fun p hp => by
    have := List.mem_of_mem_take hp
    simp only [List.mem_cons, List.not_mem_nil, or_false] at this
    omega
  have hl3 : ([1, 6, 36].take (n % 4)).length ≤ 3 := List.length_take_le' ..
  unfold sgns at hQ
  generalize [1, 6, 36].take (n % 4) = ps at hus hul hp3 hl3 hQ
  refine LCg.CompSrc.ledger hh F₂ N₂ (List.mem_cons_self ..) (by simp only [List.size_toArray, sizeLine_eq]; omega) (fun g' => ?_)
  refine CTurn.rest (n := us.toArray.size) (J := fun i ys nw => StrsAre ys ((ps.take i).map (sgn n)) ∧ ∀ p ∈ (c, oc) :: news, p ∈ nw) ?_ ?_ _ 0 [] _ (Nat.zero_add _) ⟨.nil, fun _ hp => by simp [hp]⟩ (.inr ⟨_, List.mem_cons_self .., rfl, _, rfl⟩)
  · intro i ys nw v I oI C oC D' m₂ h tk E' hi hJ hP hC hm F₂ N₂ off ne hS
    obtain ⟨k, t, rfl, hk⟩ := hus.at i v (by simpa using hP)
    obtain ⟨p, hp, rfl⟩ : ∃ p, ps[i]? = some p ∧ ((p : Nat) : Int) = k := by
      rw [List.getElem?_map] at hk
      simpa using hk
    obtain ⟨hp0, hp1⟩ := hp3 p (List.mem_of_getElem? hp)
    have hcn := hJ.2 (c, oc) (List.mem_cons_self ..)
    repeat walk_at "z"
    first
    | refine lcf_cell N₂ (by rfl) (List.mem_cons_of_mem _ (List.mem_cons_of_mem _ (List.mem_cons_of_mem _ hcn))) hoc ?_ rfl rfl
    | refine lcf_free N₂ (by rfl) (List.mem_cons_of_mem _ (List.mem_cons_of_mem _ (List.mem_cons_of_mem _ hcn))) hoc ?_ rfl rfl
    repeat walk_at "z"
    refine ldc N₂ (by simp) hC hm ?_ rfl rfl
    repeat walk_at "z"
    refine fdivN rfl hp0 hp1 ?_
    repeat walk_at "z"
    have hlt : n / 4 / p % 6 < 6 := Nat.mod_lt _ (by decide)
    refine item_str (x := alpha) (fitsSsize_of (N := 9223372036854775808) (by omega) (by omega) (Int.le_refl _)) (by rw [alpha_len]; omega) (by rw [alpha_len]; omega) (fun hl => ?_) (by with_unfolding_all rfl) (fun _ => by with_unfolding_all rfl)
    refine cend0 off F₂ N₂ hS ⟨?_, hJ.2⟩
    rw [take_map_succ _ hp]
    exact strs_app hJ.1 (.cons _ _ .nil)
  · intro ys nw hJ D' h tk F₂ N₂ off
    have e : us.toArray.size = ps.length := by rw [List.size_toArray, hul]
    rw [e, List.take_length] at hJ
    repeat walk_at "z"
    refine join_list (isL N₂ (List.mem_cons_self ..)) hJ.1 ?_ (fun t₃ k₃ => ?_)
    · have : ∀ l : List Nat, ((l.map (sgn n)).map (·.length)).sum = l.length := by
        intro l
        induction l with
        | nil => rfl
        | cons a l ih =>
          simp only [List.map_cons, List.sum_cons, ih, List.length_cons]
          have : (sgn n a).length = 1 := rfl
          omega
      rw [this, show (PySem.Str.ofString "").length = 0 by decide +kernel]
      omega
    rw [joinCat]
    repeat walk_at "z"
    refine sxL F₂ N₂ (fun h₈ F₈ N₈ => ?_) rfl rfl
    exact hQ _ _ _ _ (fun p hp => List.mem_cons_of_mem _ (hJ.2 p hp)) F₈ N₈

theorem sgns_len (n : Nat) : (sgns n).length ≤ 3 := by
  unfold sgns
  rw [cat_len]
  have : ∀ l : List Nat, ((l.map (sgn n)).map (·.length)).sum = l.length := by
    intro l
    induction l with
    | nil => rfl
    | cons a l ih =>
      simp only [List.map_cons, List.sum_cons, ih, List.length_cons]
      have : (sgn n a).length = 1 := rfl
      omega
  rw [this]
  exact List.length_take_le' ..

theorem textOf_len (n r : Nat) : (textOf n r).length ≤ 10 := by
  unfold textOf
  rw [strLen]
  have h1 : (("'" : Str)).length = 1 := by decide +kernel
  have h2 := sgns_len n
  have h3 : ∀ k : Int, k ≤ ((3 : Nat) : Int) → (Txt.mul (sgns n) k).length ≤ 3 * 3 := fun k hk => len_mul_leN h2 hk
  have h4 := h3 (if r = 2 then 3 else 1) (by split <;> decide)
  omega

theorem innerOf_len (x : Str) : 2 ≤ (innerOf x).length ∧ (innerOf x).length ≤ 2 + 2 * x.length := by
  have h : ∀ l : List Nat, ((l.map qP).map (·.1.length)).sum ≤ 2 * l.length := by
    intro l
    induction l with
    | nil => exact Nat.zero_le _
    | cons a l ih =>
      simp only [List.map_cons, List.sum_cons, List.length_cons]
      have : (qP a).1.length ≤ 2 := by
        unfold qP
        split
        · exact Nat.le_refl 2
        · exact Nat.le_succ 1
      omega
  have := h x.cps.toList
  have hl : x.length = x.cps.toList.length := by simp [PySem.Str.length]
  unfold innerOf quoted
  rw [cat_len]
  simp only [List.map_cons, List.map_append, List.map_nil, List.sum_cons, List.sum_append, List.sum_nil, List.map_map, Function.comp_def] at this ⊢
  have hd : dq.1.length = 1 := rfl
  omega

theorem w_text2 {prog : Program} {w : World} {mg mb : Str → Option Value} {A : Around} {s : Shared} {h₀ : Heap} {L f c : Addr} {m : Str → Option Value} {news : List (Addr × Obj)} {cd rv : Value} {row : List Item} {n r : Nat} {x : Int} {tx tt : Tok}  {fq ft : Addr}
    (W : Md mg mb h₀) (Xq : FnI mg h₀ "_law_quoted" 6 fq) (Xt : FnI mg h₀ "_law_twice" 7 ft) (R : Room A 3 9) (F : Fr h₀ L s.heap m) {N0 : List (Addr × Obj)} (N : News h₀ L s.heap N0) (hsub : ∀ p ∈ news, p ∈ N0)
    (hr : In news rv (encR row)) (hmr : m "row" = some rv) (hmx : m "x" = some (.int x tx)) (hx : x.fmod 6 = (r : Int)) (h0 : 0 < r) (h4 : r < 4) (hrow : row.length ≤ 1000) (hmt : m "text" = some (.str (textOf n r) tt))
    {b : List Stmt} {sc : Scope} (eb : (blkW 2).drop 2 = b) (esc : scW = sc) :
    wpAny (model prog w) A (execs b (envX "_law_with" sc L f cd [("n", c)])) (Ret h₀ L news (fun v N' => In N' v (encR (lawWith row n r))) s) (fun _ _ => False) s := by
  subst eb; subst esc
  obtain ⟨l, xs, nl, rfl, hlm, hxs⟩ := hr.inv_list
  have hxl : xs.length = row.length := by have := hxs.length; simpa using this
  have hvq := Xq.at
  have hvt := Xt.at
  have Iq := Xq.isFn
  have It := Xt.isFn
  have htl := textOf_len n r
  have hsp : lawWith row n r = if r < 3 then row ++ [(.str (textOf n r), quoted (textOf n r))] else row ++ [(.str (innerOf (textOf n r)), twice (innerOf (textOf n r)))] := by
    unfold lawWith
    rw [if_neg (by omega), if_pos h4]
  rw [hsp]
  generalize textOf n r = tx at *
  refine' as_blk ?e1 ?e2 ?_
  case e1 => walk_at "body"
  case e2 => walk_at "body"
  repeat walk_at "z"
  refine mod_int' (by decide) ?_
  rw [hx]
  repeat walk_at "z"
  by_cases h3 : r < 3
  · rw [if_pos (by rw [decide_eq_true_eq]; omega), if_pos h3]
    repeat walk_at "z"
    refine ⟨F.keep, c_quoted Xq W R F N (by omega) (fun v h₁ tk₁ N₁ hs₁ F₁ N₁' hin₁ => ?_)⟩
    repeat walk_at "z"
    refine newT F₁ N₁' (fun a₂ h₂ ha₂ F₂ N₂ => ?_)
    repeat walk_at "z"
    refine newL F₂ N₂ (by simp) (fun a₃ h₃ ha₃ F₃ N₃ => ?_)
    repeat walk_at "z"
    refine addL F₃ N₃ (vs := [.ref a₂]) (us := xs) (List.mem_cons_of_mem _ (List.mem_cons_of_mem _ (hs₁ _ (hsub _ hlm)))) (by walk_at "mm") (by simp; omega) (fun a₅ h₅ ha₅ F₅ N₅ => ?_)
    refine ⟨_, _, _, _, _, rfl, rfl, F₅, N₅, fun p hp => by simp [hs₁ _ (hsub _ hp)], ?_⟩
    refine lst_in (List.mem_cons_self ..) ?_
    rw [List.map_append]
    refine (hxs.mono fun p hp => by simp [hs₁ _ (hsub _ hp)]).append (.one ?_)
    exact tup_in (a := a₂) (by walk_at "mm") (.str _ _) (hin₁.mono fun p hp => by simp [hp])
  · rw [if_neg (by rw [decide_eq_true_eq]; omega), if_neg h3]
    repeat walk_at "z"
    refine GM.join ?_
    repeat walk_at "z"
    refine LCp.ListComp_P F (by with_unfolding_all rfl) (by decide) rfl (by decide) rfl rfl (by decide) ?_ (fun _ => by with_unfolding_all rfl)
    repeat walk_at "z"
    refine ⟨F.keep, c_quoted Xq W R F N (by omega) (fun v h₁ tk₁ N₁ hs₁ F₁ N₁' hin₁ => ?_)⟩
    refine srcP R.hh F₁ N₁' (ps := (quoted tx).map fun p => (.str p.1, encS p.2)) (by rw [List.map_map]; exact hin₁) (by simp [quoted, PySem.Str.length] at htl ⊢; omega) rfl rfl rfl (by decide) (fun ys g hys => ?_)
    intro D h₂ tk₂ F₂ N₂ off
    rw [List.map_map, show ((fun p : PyData × PyData => p.1) ∘ fun p : Pair => (PyData.str p.1, encS p.2)) = fun p : Pair => PyData.str p.1 from rfl] at hys
    have hys' : StrsAre ys ((quoted tx).map (·.1)) := InAll.strs (by rw [List.map_map]; exact hys)
    repeat walk_at "z"
    have hil := innerOf_len tx
    refine join_list (isL N₂ (List.mem_cons_self ..)) hys' ?_ (fun t₃ k₃ => ?_)
    · rw [show (PySem.Str.ofString "").length = 0 by decide +kernel, ← cat_len]
      show (innerOf tx).length + _ ≤ _
      omega
    rw [joinCat]
    repeat walk_at "z"
    refine sxL (v := .str (innerOf tx) t₃) F₂ N₂ (fun h₃ F₃ N₃ => ?_) rfl rfl
    generalize innerOf tx = ti at *
    repeat walk_at "z"
    refine ⟨F₃.keep, c_twice Xt W R F₃ N₃ (by omega) (by omega) (fun v₄ h₄ tk₄ N₄ hs₄ F₄ N₄' hin₄ => ?_)⟩
    repeat walk_at "z"
    refine newT F₄ N₄' (fun a₅ h₅ ha₅ F₅ N₅ => ?_)
    repeat walk_at "z"
    refine newL F₅ N₅ (by simp) (fun a₆ h₆ ha₆ F₆ N₆ => ?_)
    repeat walk_at "z"
    have up : ∀ p ∈ news, p ∈ N₄ := fun p hp => hs₄ _ (List.mem_cons_of_mem _ (hs₁ _ (hsub _ hp)))
    refine addL F₆ N₆ (vs := [.ref a₅]) (us := xs) (List.mem_cons_of_mem _ (List.mem_cons_of_mem _ (up _ hlm))) (by walk_at "mm") (by simp; omega) (fun a₇ h₇ ha₇ F₇ N₇ => ?_)
    refine ⟨_, _, _, _, _, rfl, rfl, F₇, N₇, fun p hp => by simp [up _ hp], ?_⟩
    refine lst_in (List.mem_cons_self ..) ?_
    rw [List.map_append]
    refine (hxs.mono fun p hp => by simp [up _ hp]).append (.one ?_)
    exact tup_in (a := a₅) (by walk_at "mm") (.str _ _) (hin₄.mono fun p hp => by simp [hp])

theorem w_text {prog : Program} {w : World} {mg mb : Str → Option Value} {A : Around} {s : Shared} {h₀ : Heap} {L f c : Addr} {m : Str → Option Value} {news : List (Addr × Obj)} {oc : Obj} {cd rv : Value} {row : List Item} {n r : Nat} {x : Int} {tn tx : Tok} {fq ft : Addr}
    (W : Md mg mb h₀) (Xq : FnI mg h₀ "_law_quoted" 6 fq) (Xt : FnI mg h₀ "_law_twice" 7 ft) (R : Room A 3 9) (F : Fr h₀ L s.heap m) (N : News h₀ L s.heap ((c, oc) :: news)) (hoc : oc.data = .cell (some (.int (n : Int) tn))) (off : ∀ p ∈ news, p.1 ≠ c)
    (hr : In news rv (encR row)) (hmr : m "row" = some rv) (hmx : m "x" = some (.int x tx)) (hx : x.fmod 6 = (r : Int)) (h0 : 0 < r) (h4 : r < 4) (hrow : row.length ≤ 1000) :
    wpAny (model prog w) A (execs (blkW 2) (envX "_law_with" scW L f cd [("n", c)])) (Ret h₀ L news (fun v N' => In N' v (encR (lawWith row n r))) s) (fun _ _ => False) s := by
  refine' as_blk ?e1 ?e2 ?_
  case e1 => walk_at "body"
  case e2 => walk_at "body"
  walk_at "z"
  refine w_signs R.hh F N hoc (by with_unfolding_all rfl) (by with_unfolding_all rfl) (fun t₁ h₁ tk₁ N₁ hs₁ F₁ N₁' => ?_)
  repeat walk_at "z"
  refine mod_int' (by decide) ?_
  rw [hx]
  repeat walk_at "z"
  have hsl := sgns_len n
  have h1 : (("'" : Str)).length = 1 := by decide +kernel
  have h3 : ∀ k : Int, k ≤ ((3 : Nat) : Int) → (Txt.mul (sgns n) k).length ≤ 3 * 3 := fun k hk => len_mul_leN hsl hk
  have e : textOf n r = ("'" : Str) ++ Txt.mul (sgns n) (if r = 2 then 3 else 1) := rfl
  by_cases h2 : r = 2
  · rw [if_pos (by subst h2; rfl)]
    rw [if_pos h2] at e
    repeat walk_at "z"
    refine SB.mul (mulOk_of 3 3 hsl (by decide) (by decide) (by decide) (by decide)) (fun t₂ k₂ => ?_)
    repeat walk_at "z"
    refine add_str (fun t₃ k₃ => ?_) (by rw [sizeLine_eq, h1]; have := h3 3 (by decide); omega)
    rw [← e]
    repeat walk_at "z"
    refine sxL F₁ N₁' (fun h₄ F₄ N₄ => ?_) rfl rfl
    exact w_text2 (s := ⟨h₄, _, _, _, _⟩) W Xq Xt R F₄ N₄ (fun p hp => hs₁ _ (List.mem_cons_of_mem _ hp)) hr (by walk_at "lk") (by walk_at "lk") hx h0 h4 hrow (by walk_at "lk") (by with_unfolding_all rfl) (by with_unfolding_all rfl)
  · rw [if_neg (by rw [beq_iff_eq]; omega)]
    rw [if_neg h2] at e
    repeat walk_at "z"
    refine SB.mul (mulOk_of 3 3 hsl (by decide) (by decide) (by decide) (by decide)) (fun t₂ k₂ => ?_)
    repeat walk_at "z"
    refine add_str (fun t₃ k₃ => ?_) (by rw [sizeLine_eq, h1]; have := h3 1 (by decide); omega)
    rw [← e]
    repeat walk_at "z"
    refine sxL F₁ N₁' (fun h₄ F₄ N₄ => ?_) rfl rfl
    exact w_text2 (s := ⟨h₄, _, _, _, _⟩) W Xq Xt R F₄ N₄ (fun p hp => hs₁ _ (List.mem_cons_of_mem _ hp)) hr (by walk_at "lk") (by walk_at "lk") hx h0 h4 hrow (by walk_at "lk") (by with_unfolding_all rfl) (by with_unfolding_all rfl)

/-! _law_with, lists and tuples -/
noncomputable def dropW : List Stmt := (fBody (stAt 9)).drop 3

theorem w_coll {prog : Program} {w : World} {mg mb : Str → Option Value} {A : Around} {s : Shared} {h₀ : Heap} {L f c : Addr} {m : Str → Option Value} {news : List (Addr × Obj)} {oc : Obj} {cd rv : Value} {row : List Item} {n r : Nat} {x : Int} {tn tx : Tok} {fj : Addr}
    (W : Md mg mb h₀) (Xj : FnI mg h₀ "_law_joined" 8 fj) (R : Room A 3 9) (F : Fr h₀ L s.heap m) (N : News h₀ L s.heap ((c, oc) :: news)) (hoc : oc.data = .cell (some (.int (n : Int) tn)))
    (hr : In news rv (encR row)) (hmr : m "row" = some rv) (hmx : m "x" = some (.int x tx)) (hx : x.fmod 6 = (r : Int)) (h4 : 4 ≤ r) (hrow : row.length ≤ 1000) (hsz : tot row ≤ 8000) :
    wpAny (model prog w) A (execs dropW (envX "_law_with" scW L f cd [("n", c)])) (Ret h₀ L news (fun v N' => In N' v (encR (lawWith row n r))) s) (fun _ _ => False) s := by
  obtain ⟨l, xs, nl, rfl, hlm, hxs⟩ := hr.inv_list
  have hxl : xs.length = row.length := by have := hxs.length; simpa using this
  have hvj := Xj.at
  have Ij := Xj.isFn
  refine' as_blk ?e1 ?e2 ?_
  case e1 => walk_at "body"
  case e2 => walk_at "body"
  repeat walk_at "z"
  have hxa : xs.toArray.size = row.length := by simpa using hxl
  refine len_list (isL N (List.mem_cons_of_mem _ hlm)) (by rw [hxa]; omega) ?_
  rw [hxa]
  repeat walk_at "z"
  refine len_list (s := ⟨_, _, _, _, _⟩) (isL N (List.mem_cons_of_mem _ hlm)) (by rw [hxa]; omega) ?_
  rw [hxa]
  repeat walk_at "z"
  refine min_two_N R.hh F N (fun h₁ tk₁ F₁ N₁ => ?_)
  repeat walk_at "z"
  obtain ⟨k, hk⟩ : ∃ k, k = row.length - min row.length (n % 4) := ⟨_, rfl⟩
  have ek : (row.length : Int) - (if ((n % 4 : Nat) : Int) < (row.length : Int) then ((n % 4 : Nat) : Int) else (row.length : Int)) = (k : Int) := by
    rw [hk]; split <;> omega
  rw [ek]
  generalize (if ((n % 4 : Nat) : Int) < (row.length : Int) then _ else _ : Tok) = tkk
  refine sxL F₁ N₁ (fun h₂ F₂ N₂ => ?_) rfl rfl
  repeat walk_at "z"
  have hsp : ∀ o e, (joined (row.drop k) o e).length ≤ 9001 + e.length := fun o e => by
    have h1 := joined_len (row.drop k) o e
    have h2 := tot_split row k
    have h3 : (row.drop k).length ≤ row.length := by simp
    omega
  have hkl : (row.drop k).length ≤ 1000 := by simp; omega
  refine LCp.Assign_ListComp_P F₂ rfl (by with_unfolding_all rfl) (by with_unfolding_all rfl) (by decide) rfl (by decide) rfl rfl (by decide) rfl rfl ?_ (fun _ => by with_unfolding_all rfl)
  repeat walk_at "z"
  refine sliceFrom (s := ⟨_, _, _, _, _⟩) F₂ N₂ (List.mem_cons_of_mem _ hlm) (by omega) (fun a₃ h₃ ha₃ F₃ N₃ => ?_) (by with_unfolding_all rfl)
  repeat walk_at "z"
  refine srcP R.hh F₃ N₃ (ps := (row.drop k).map fun i => (i.1, encPs i.2)) (lst_in (List.mem_cons_self ..) ?_) (by simp; omega) rfl rfl rfl (by decide) (fun ys g hys => ?_)
  · rw [List.map_map]
    have := (hxs.drop k).mono (N' := (a₃, ({ cls := .type "list", data := .seq (xs.drop k).toArray } : Obj)) :: (c, oc) :: news) fun p hp => by simp [hp]
    rw [← List.map_drop] at this
    exact this
  intro D h₄ tk₄ F₄ N₄ off
  have hys : InAll ((a₃, ({ cls := .type "list", data := .seq (xs.drop k).toArray } : Obj)) :: (c, oc) :: news) ys ((row.drop k).map (·.1)) := by
    rw [List.map_map] at hys
    exact hys
  have hyl : ys.length = (row.drop k).length := by have := hys.length; rw [List.length_map] at this; exact this
  have hDm : (D, ({ cls := .type "list", data := .seq ys.toArray ys.length } : Obj)) ∈ (D, LCg.lst ys) :: (a₃, ({ cls := .type "list", data := .seq (xs.drop k).toArray } : Obj)) :: (c, oc) :: news := List.mem_cons_self ..
  obtain ⟨N0, hN0⟩ : ∃ N0, N0 = (D, LCg.lst ys) :: (a₃, ({ cls := .type "list", data := .seq (xs.drop k).toArray } : Obj)) :: (c, oc) :: news := ⟨_, rfl⟩
  have hsub : ∀ p ∈ news, p ∈ N0 := fun p hp => by rw [hN0]; simp [hp]
  have hys0 : InAll N0 ys ((row.drop k).map (·.1)) := hys.mono fun p hp => by rw [hN0]; exact List.mem_cons_of_mem _ hp
  rw [← hN0] at N₄ hDm
  clear hN0 hys off N₃ F₃ N₂ F₂ N₁ F₁ ha₃
  have hxs0 : InAll N0 xs (row.map encI) := hxs.mono hsub
  have hlm0 := hsub _ hlm
  repeat walk_at "z"
  refine mod_int' (by decide) ?_
  rw [hx]
  repeat walk_at "z"
  by_cases hr4 : r = 4
  · rw [if_pos (by subst hr4; rfl)]
    have esp : lawWith row n r = row.take k ++ [(.list ((row.drop k).map (·.1)), joined (row.drop k) "[" [self1 "]"])] := by
      unfold lawWith
      rw [if_neg (by omega), if_neg (by omega)]
      dsimp only
      rw [if_pos hr4, ← hk]
    rw [esp]
    repeat walk_at "z"
    refine sliceUpto (s := ⟨_, _, _, _, _⟩) F₄ N₄ hlm0 (by omega) (fun a₅ h₅ ha₅ F₅ N₅ => ?_) (by with_unfolding_all rfl)
    repeat walk_at "z"
    refine sliceFrom (s := ⟨_, _, _, _, _⟩) F₅ N₅ (List.mem_cons_of_mem _ hlm0) (by omega) (fun a₆ h₆ ha₆ F₆ N₆ => ?_) (by with_unfolding_all rfl)
    repeat walk_at "z"
    refine newT F₆ N₆ (fun a₇ h₇ ha₇ F₇ N₇ => ?_)
    repeat walk_at "z"
    refine newL F₇ N₇ (by simp) (fun a₈ h₈ ha₈ F₈ N₈ => ?_)
    repeat walk_at "z"
    refine ⟨F₈.keep, c_joined (row := row.drop k) (ending := [self1 "]"]) Xj W R F₈ N₈ (lst_in (a := a₆) (by walk_at "mm") ?_) (lst_in (List.mem_cons_self ..) (.one (tup_in (a := a₇) (by walk_at "mm") (.str _ _) (.str _ _)))) hkl ?_ (fun v₉ h₉ tk₉ N₉ hs₉ F₉ N₉' hin₉ => ?_)⟩
    · rw [List.map_drop]
      exact (hxs0.drop k).mono fun p hp => by simp [hp]
    · have := hsp (PySem.Str.ofString "[") [self1 (PySem.Str.ofString "]")]
      exact Nat.le_trans this (by simp)
    repeat walk_at "z"
    refine newT F₉ N₉' (fun b₁ g₁ hb₁ G₁ M₁ => ?_)
    repeat walk_at "z"
    refine newL G₁ M₁ (by simp) (fun b₂ g₂ hb₂ G₂ M₂ => ?_)
    repeat walk_at "z"
    have up : ∀ p ∈ N0, p ∈ N₉ := fun p hp => hs₉ p (by simp [hp])
    have m5 := hs₉ _ (List.mem_cons_of_mem _ (List.mem_cons_of_mem _ (List.mem_cons_of_mem _ (List.mem_cons_self ..))))
    refine addL G₂ M₂ (us := xs.take k) (vs := [.ref b₁]) (List.mem_cons_of_mem _ (List.mem_cons_of_mem _ m5)) (by walk_at "mm") (by simp; omega) (fun b₃ g₃ hb₃ G₃ M₃ => ?_)
    refine ⟨_, _, _, _, _, rfl, rfl, G₃, M₃, fun p hp => by simp [up _ (hsub _ hp)], ?_⟩
    refine lst_in (List.mem_cons_self ..) ?_
    rw [List.map_append, List.map_take]
    refine ((hxs0.take k).mono fun p hp => by simp [up _ hp]).append (.one ?_)
    exact tup_in (a := b₁) (by walk_at "mm") (lst_in (n := ys.length) (by simp [up _ hDm]) (hys0.mono fun p hp => by simp [up _ hp])) (hin₉.mono fun p hp => by simp [hp])
  · rw [if_neg (by rw [beq_iff_eq]; omega)]
    walk_at "z"
    have esp : lawWith row n r = row.take k ++ [(.tuple ((row.drop k).map (·.1)), joined (row.drop k) "(" (if (row.drop k).length = 1 then [(",", none), self1 ")"] else [self1 ")"]))] := by
      unfold lawWith
      rw [if_neg (by omega), if_neg (by omega)]
      dsimp only
      rw [if_neg hr4, ← hk]
    rw [esp]
    obtain ⟨m4, hm4⟩ : ∃ m4, m4 = upd (upd m "k" (.int (k : Int) tk₁)) "things" (.ref D) := ⟨_, rfl⟩
    have F₄ : Fr h₀ L h₄ m4 := hm4 ▸ F₄
    have k1 : m4 "row" = some (.ref l) := by rw [hm4]; walk_at "lk"
    have k2 : m4 "k" = some (.int (k : Int) tk₁) := by rw [hm4]; walk_at "lk"
    have k3 : m4 "things" = some (.ref D) := by rw [hm4]; walk_at "lk"
    clear hm4
    have hya : ys.toArray.size = (row.drop k).length := by simpa using hyl
    refine seq_mid (fun s' => ∃ h' tk' N1 ev, s' = ⟨h', s.gens, s.drawn, tk', s.os⟩ ∧ Fr h₀ L h' (upd m4 "ending" ev) ∧ News h₀ L h' N1 ∧ (∀ p ∈ N0, p ∈ N1) ∧ In N1 ev (encPs (if (row.drop k).length = 1 then [(",", none), self1 ")"] else [self1 ")"]))) ?_ ?_
    · repeat walk_at "z"
      refine len_list (s := ⟨_, _, _, _, _⟩) (isL N₄ hDm) (by rw [hya]; omega) ?_
      rw [hya]
      repeat walk_at "z"
      by_cases h1 : (row.drop k).length = 1
      · rw [if_pos (by rw [h1]; rfl), if_pos h1]
        repeat walk_at "z"
        refine newT F₄ N₄ (fun a₅ h₅ ha₅ F₅ N₅ => ?_)
        repeat walk_at "z"
        refine newT F₅ N₅ (fun a₆ h₆ ha₆ F₆ N₆ => ?_)
        repeat walk_at "z"
        refine newL F₆ N₆ (by simp) (fun a₇ h₇ ha₇ F₇ N₇ => ?_)
        repeat walk_at "z"
        refine sxL F₇ N₇ (fun h₈ F₈ N₈ => ?_) rfl rfl
        refine ⟨rfl, _, _, _, _, rfl, F₈, N₈, fun p hp => by simp [hp], ?_⟩
        exact lst_in (List.mem_cons_self ..) (.cons (tup_in (a := a₅) (by walk_at "mm") (.str _ _) .none) (.one (tup_in (a := a₆) (by walk_at "mm") (.str _ _) (.str _ _))))
      · rw [if_neg (by rw [beq_iff_eq]; omega), if_neg h1]
        repeat walk_at "z"
        refine newT F₄ N₄ (fun a₅ h₅ ha₅ F₅ N₅ => ?_)
        repeat walk_at "z"
        refine newL F₅ N₅ (by simp) (fun a₇ h₇ ha₇ F₇ N₇ => ?_)
        repeat walk_at "z"
        refine sxL F₇ N₇ (fun h₈ F₈ N₈ => ?_) rfl rfl
        refine ⟨rfl, _, _, _, _, rfl, F₈, N₈, fun p hp => by simp [hp], ?_⟩
        exact lst_in (List.mem_cons_self ..) (.one (tup_in (a := a₅) (by walk_at "mm") (.str _ _) (.str _ _)))
    · rintro s' ⟨h₄', tk', N1, ev, rfl, F₄', N₄', hup, hin⟩
      have hen : (if (row.drop k).length = 1 then [((("," : Str)), none), self1 ")"] else [self1 ")"] : List Pair).length ≤ 2 := by split <;> simp
      generalize (if (row.drop k).length = 1 then [((("," : Str)), none), self1 ")"] else [self1 ")"] : List Pair) = ending at *
      have hlm1 := hup _ hlm0
      have hDm1 := hup _ hDm
      repeat walk_at "z"
      refine sliceUpto (s := ⟨_, _, _, _, _⟩) F₄' N₄' hlm1 (by omega) (fun a₅ h₅ ha₅ F₅ N₅ => ?_) (by with_unfolding_all rfl)
      repeat walk_at "z"
      refine tuple_ofL F₅ N₅ (vs := ys) (isL N₅ (List.mem_cons_of_mem _ hDm1)) (fun a₆ h₆ F₆ N₆ hk₆ => ?_) (by rw [sizeLine_eq]; omega)
      repeat walk_at "z"
      refine sliceFrom (s := ⟨_, _, _, _, _⟩) F₆ N₆ (List.mem_cons_of_mem _ (List.mem_cons_of_mem _ hlm1)) (by omega) (fun a₇ h₇ ha₇ F₇ N₇ => ?_) (by with_unfolding_all rfl)
      repeat walk_at "z"
      refine ⟨F₇.keep, c_joined (row := row.drop k) (ending := ending) Xj W R F₇ N₇ (lst_in (a := a₇) (by walk_at "mm") ?_) (hin.mono fun p hp => by simp [hp]) hkl ?_ (fun v₉ h₉ tk₉ N₉ hs₉ F₉ N₉' hin₉ => ?_)⟩
      · rw [List.map_drop]
        exact (hxs0.drop k).mono fun p hp => by simp [hup _ hp]
      · exact Nat.le_trans (hsp _ ending) (by omega)
      repeat walk_at "z"
      refine newT F₉ N₉' (fun b₁ g₁ hb₁ G₁ M₁ => ?_)
      repeat walk_at "z"
      refine newL G₁ M₁ (by simp) (fun b₂ g₂ hb₂ G₂ M₂ => ?_)
      repeat walk_at "z"
      have up : ∀ p ∈ N0, p ∈ N₉ := fun p hp => hs₉ p (by simp [hup _ hp])
      have m5 := hs₉ _ (List.mem_cons_of_mem _ (List.mem_cons_of_mem _ (List.mem_cons_self ..)))
      have m6 := hs₉ _ (List.mem_cons_of_mem _ (List.mem_cons_self ..))
      refine addL G₂ M₂ (us := xs.take k) (vs := [.ref b₁]) (List.mem_cons_of_mem _ (List.mem_cons_of_mem _ m5)) (by walk_at "mm") (by simp; omega) (fun b₃ g₃ hb₃ G₃ M₃ => ?_)
      refine ⟨_, _, _, _, _, rfl, rfl, G₃, M₃, fun p hp => by simp [up _ (hsub _ hp)], ?_⟩
      refine lst_in (List.mem_cons_self ..) ?_
      rw [List.map_append, List.map_take]
      refine ((hxs0.take k).mono fun p hp => by simp [up _ hp]).append (.one ?_)
      exact tup_in (a := b₁) (by walk_at "mm") (.tuple (List.mem_cons_of_mem _ (List.mem_cons_of_mem _ (List.mem_cons_of_mem _ m6))) (hys0.mono fun p hp => by simp [up _ hp])) (hin₉.mono fun p hp => by simp [hp])

/-! _law_with -/
theorem c_with {prog : Program} {w : World} {mg mb : Str → Option Value} {A : Around} {E : Value → Shared → Prop} {s : Shared} {h₀ : Heap} {L : Addr} {m : Str → Option Value} {news : List (Addr × Obj)} {f fq ft fj : Addr} {rv : Value} {row : List Item} {x : Int} {tx : Tok} {n r : Nat} {Q : Value → Shared → Prop}
    (X : FnI mg h₀ "_law_with" 9 f) (Xq : FnI mg h₀ "_law_quoted" 6 fq) (Xt : FnI mg h₀ "_law_twice" 7 ft) (Xj : FnI mg h₀ "_law_joined" 8 fj) (W : Md mg mb h₀) (R : Room A 4 12) (F : Fr h₀ L s.heap m) (N : News h₀ L s.heap news)
    (hr : In news rv (encR row)) (hrow : row.length ≤ 1000) (hsz : tot row ≤ 8000) (hn : (x.fdiv 6).fmod 864 = (n : Int)) (hn8 : n < 864) (hx : x.fmod 6 = (r : Int))
    (hQ : ∀ v h' tk' news', (∀ p ∈ news, p ∈ news') → (∀ b o, s.heap.get? b = some o → b ∉ news.map (·.1) → h'.get? b = some o) → (∀ p ∈ news', p ∈ news ∨ s.heap.get? p.1 = none) → Fr h₀ L h' m → News h₀ L h' news' → In news' v (encR (lawWith row n r)) → Q v { s with heap := h', toks := tk' }) :
    wpAny (model prog w) A (call (.ref f) [rv, .int x tx]) Q E s := by
  refine' enterC (y := "n") (d := 3) (u := 9) (binds := [("row", rv), ("x", .int x tx)]) (m₀ := upd (upd (fun _ => none) "row" rv) "x" (.int x tx)) X W R F N ?e1 ?e2 ?_ ?_ ?_ ?_ ?_ ?_ ?_ ?_ (fun v N' => In N' v (encR (lawWith row n r))) ?_ hQ
  case e1 => walk_at "body"
  case e2 => walk_at "body"
  · intro _ _ _ _ _; with_unfolding_all rfl
  · exact locs rfl
  · intro _; rfl
  · intro _ _ _; with_unfolding_all rfl
  · intro _ _ _; with_unfolding_all rfl
  · exact rfl
  · exact rfl
  · exact rfl
  intro A' g L' h₁ cd tk c oc st W' F' N' hoc off R'
  have Xq : FnI mg g "_law_quoted" 6 fq := Xq.keeps st
  have Xt : FnI mg g "_law_twice" 7 ft := Xt.keeps st
  have Xj : FnI mg g "_law_joined" 8 fj := Xj.keeps st
  repeat walk_at "z"
  refine floordiv_int (by decide) ?_ (.inl (noPylong_small (by decide)))
  repeat walk_at "z"
  refine mod_int' (by decide) ?_
  rw [hn]
  repeat walk_at "z"
  refine sxC F' N' hoc off (fun h₂ o₂ F₂ N₂ ho₂ => ?_) rfl rfl rfl
  repeat walk_at "z"
  refine mod_int' (by decide) ?_
  rw [hx]
  repeat walk_at "z"
  have hr2 : In news rv (encR row) := hr
  by_cases h0 : r = 0
  · rw [if_pos (by subst h0; rfl)]
    have esp : lawWith row n r = row ++ [((menuAt n).1, selfP (menuAt n).2)] := by unfold lawWith; rw [if_pos h0]
    have kr := (by walk_at "lk" : upd (upd (fun _ => none) "row" rv) "x" (.int x tx) "row" = some rv)
    have kx := (by walk_at "lk" : upd (upd (fun _ => none) "row" rv) "x" (.int x tx) "x" = some (.int x tx))
    with_reducible have hw := fun tk₀ => w_menu (prog := prog) (w := w) (f := f) (cd := cd) (s := ⟨h₂, s.gens, s.drawn, tk₀, s.os⟩) W' R'.hh F₂ N₂ ho₂ hn8 hr kr hrow
    refine' un_blk (b := blkW 1) (sc := scW) ?e1 ?e2 ?e3
    case e3 =>
      with_reducible refine wpAny_mono (hw _) (fun fl s' hq => ?_) fun _ _ e => e
      obtain ⟨v, h', tk', m', news', rfl, rfl, F, N, hs, hO⟩ := hq
      exact ⟨v, h', tk', m', news', rfl, rfl, F, N, hs, esp ▸ hO⟩
    case e1 => walk_at "body"
    case e2 => walk_at "body"
  · rw [if_neg (by rw [beq_iff_eq]; omega)]
    repeat walk_at "z"
    refine mod_int' (by decide) ?_
    rw [hx]
    repeat walk_at "z"
    by_cases h4 : r < 4
    · rw [if_pos (by rw [decide_eq_true_eq]; omega)]
      have kr := (by walk_at "lk" : upd (upd (fun _ => none) "row" rv) "x" (.int x tx) "row" = some rv)
      have kx := (by walk_at "lk" : upd (upd (fun _ => none) "row" rv) "x" (.int x tx) "x" = some (.int x tx))
      with_reducible have hw := fun tk₀ => w_text (prog := prog) (w := w) (f := f) (cd := cd) (s := ⟨h₂, s.gens, s.drawn, tk₀, s.os⟩) W' Xq Xt R' F₂ N₂ ho₂ off hr kr kx hx (by omega) h4 hrow
      refine' un_blk (b := blkW 2) (sc := scW) ?e1 ?e2 ?e3
      case e3 =>
        with_reducible refine wpAny_mono (hw _) (fun fl s' hq => ?_) fun _ _ e => e
        obtain ⟨v, h', tk', m', news', rfl, rfl, F, N, hs, hO⟩ := hq
        exact ⟨v, h', tk', m', news', rfl, rfl, F, N, hs, hO⟩
      case e1 => walk_at "body"
      case e2 => walk_at "body"
    · rw [if_neg (by rw [decide_eq_true_eq]; omega)]
      walk_at "z"
      refine' un_blk (b := dropW) (sc := scW) ?e1 ?e2 (w_coll (s := ⟨h₂, _, _, _, _⟩) W' Xj R' F₂ N₂ ho₂ hr (by walk_at "lk") (by walk_at "lk") hx (by omega) hrow hsz)
      case e1 => walk_at "body"
      case e2 => walk_at "body"

/-! what law needs of its plain part -/
def stepR (row : List Item) (x : Int) : List Item := lawWith row ((x.fdiv 6).fmod 864).toNat (x.fmod 6).toNat
def rowOf (xs : List Int) : List Item := xs.foldl stepR []
def allP (row : List Item) : List Pair := joined row "[" [self1 "]"]
def writ (ps : List Pair) : Str := cat (ps.map (·.1))
def thingsOf (row : List Item) : PyData := .list (row.map (·.1))
def cutTail (x : Str) : Str := if x.length = 0 then "[truncated]..." else x ++ tail15
def dueOf (ps : List Pair) : List Str := if 80 ≤ (writ ps).length then (pfold 80 ps).ps ++ [cutTail (pfold 80 ps).last] else parts ps 80
structure LawOK (xs : List Int) : Prop where
  pre : ∀ i, (rowOf (xs.take i)).length ≤ 100 ∧ tot (rowOf (xs.take i)) ≤ 8000
  sm : small (allP (rowOf xs))
  showable : (thingsOf (rowOf xs)).showable = true
  hasDict : (thingsOf (rowOf xs)).hasDict = false
  depth : (thingsOf (rowOf xs)).depth ≤ 20
  len : (writ (allP (rowOf xs))).length ≤ 40000
  a : (thingsOf (rowOf xs)).shown = writ (allP (rowOf xs))
  b : parse (writ (allP (rowOf xs))).cps.toList = parts (allP (rowOf xs)) (writ (allP (rowOf xs))).length
  c : parse (srep (thingsOf (rowOf xs)) true).cps.toList = dueOf (allP (rowOf xs))
  ok1 : (encT (parts (allP (rowOf xs)) (writ (allP (rowOf xs))).length)).canLay0 = true
  ok2 : (encT (dueOf (allP (rowOf xs)))).canLay0 = true
theorem rowOf_succ {xs : List Int} {i : Nat} {x : Int} (h : xs[i]? = some x) : rowOf (xs.take (i + 1)) = stepR (rowOf (xs.take i)) x := by
  unfold rowOf
  rw [List.take_add_one, h, List.foldl_append]
  rfl
theorem encT_depth (l : List Str) : (encT l).depth ≤ 1 := by
  have : ∀ l : List Str, PyData.depthAll (l.map .str) = 0 := by
    intro l
    induction l with
    | nil => rfl
    | cons a l ih => simp only [List.map_cons, PyData.depthAll, PyData.depth, ih, Nat.max_self]
  show PyData.depth (.list (l.map .str)) ≤ 1
  rw [PyData.depth, this]
  exact Nat.le_refl 1

/-! law, from due on -/
noncomputable def scL : Scope := fScope (stAt 11)
noncomputable def bodyL : List Stmt := fBody (stAt 11)

theorem w_due {prog : Program} {w : World} {mg mb : Str → Option Value} {A : Around} {s : Shared} {h₀ : Heap} {L f : Addr} {m : Str → Option Value} {cd : Value} {fp fs fu : Addr} {N0 : List (Addr × Obj)} {pv dv : Value} {pairs : List Pair} {things : PyData} {t₃ : Tok}
    (W : Md mg mb h₀) (Xp : FnI mg h₀ "_law_parts" 10 fp) (Xu : FnI mg h₀ "parse_http_list" 4 fu) (Xs : FnD mg h₀ "safe_repr" 2 fs)
    (R : Room A 4 200) (F : Fr h₀ L s.heap m) (N : News h₀ L s.heap N0)
    (k1 : m "pairs" = some pv) (k2 : m "things" = some dv) (k3 : m "written" = some (.str (writ pairs) t₃)) (hp : In N0 pv (encPs pairs)) (ht : In N0 dv things)
    (hpl : pairs.length ≤ 9000) (hsm : small pairs) (hsh : things.showable = true) (hdi : things.hasDict = false) (hdisp : isDisplay things = true) (hde : things.depth ≤ 20) (hle : (writ pairs).length ≤ 40000)
    (hA : things.shown = writ pairs) (hC : parse (srep things true).cps.toList = dueOf pairs) (ho2 : (encT (dueOf pairs)).canLay0 = true)
    {b : List Stmt} {sc : Scope} (eb : bodyL.drop 7 = b) (esc : scL = sc) :
    wpAny (model prog w) A (execs b (envX "law" sc L f cd [])) (Ret h₀ L [] (fun v _ => v = .bool true) s) (fun _ _ => False) s := by
  subst eb; subst esc
  have Ip := Xp.isFn
  have vp := Xp.at
  have Iu := Xu.isFn
  have vu := Xu.at
  have Is := Xs.isFn
  have vs' := Xs.at
  refine' as_blk ?e1 ?e2 ?_
  case e1 => walk_at "body"
  case e2 => walk_at "body"
  repeat walk_at "z"
  refine ⟨F.keep, c_parts (size := 80) Xp W (R.less (by decide) (by decide)) F N hp (by omega) hsm (fun v₁ h₁ tk₁ N₁ hs₁ F₁ N₁' hin₁ => ?_)⟩
  repeat walk_at "z"
  refine sxL F₁ N₁' (fun h₂ F₂ N₂ => ?_) rfl rfl
  try dsimp only
  refine seq_mid (fun s' => ∃ h' tk' N3 ev m', s' = ⟨h', s.gens, s.drawn, tk', s.os⟩ ∧ Fr h₀ L h' m' ∧ m' "due" = some ev ∧ m' "things" = some dv ∧ News h₀ L h' N3 ∧ (∀ p ∈ N0, p ∈ N3) ∧ In N3 ev (encT (dueOf pairs))) ?_ ?_
  · repeat walk_at "z"
    refine SBL.len (by omega) ?_
    repeat walk_at "z"
    by_cases h80 : 80 ≤ (writ pairs).length
    · rw [if_pos (by rw [decide_eq_true_eq]; omega)]
      have edue : dueOf pairs = (pfold 80 pairs).ps ++ [cutTail (pfold 80 pairs).last] := if_pos h80
      rw [edue]
      have hb := pfold_bound hsm 80 pairs.length
      rw [List.take_length] at hb
      generalize hpar : parts pairs 80 = ds at hin₁
      have hds : ds = (pfold 80 pairs).ps ++ [(pfold 80 pairs).last] := hpar.symm
      generalize (pfold 80 pairs).last = last at *
      generalize (pfold 80 pairs).ps = ps at *
      subst hds
      clear hpar edue hC ho2
      obtain ⟨a, us, n, rfl, hm, hus⟩ := hin₁.inv_list
      have hus' := hus.strs
      obtain ⟨xs, tl, rfl, hxs⟩ := strs_snoc' hus'
      have hxl := strs_len hxs
      repeat walk_at "z"
      refine sliceNeg (s := ⟨_, _, _, _, _⟩) F₂ N₂ hm (by simp; omega) (fun a₃ h₃ ha₃ F₃ N₃ => ?_) (by with_unfolding_all rfl)
      rw [List.dropLast_concat] at N₃
      repeat walk_at "z"
      refine tail_any (s := ⟨_, _, _, _, _⟩) (isL N₃ (List.mem_cons_of_mem _ hm)).typeIs slot_list_getitem.lookup (getLast (N₃ _ (List.mem_cons_of_mem _ hm)).1 ?_) (by with_unfolding_all rfl)
      repeat walk_at "z"
      refine PyProof.Rows.ne_str ?_
      repeat walk_at "z"
      have fin : ∀ y t h' tk' (D' : Addr) n' m'' N5, Fr h₀ L h' m'' → News h₀ L h' ((D', ({ cls := .type "list", data := .seq (xs ++ [Value.str y t]).toArray n' } : Obj)) :: N5) → (∀ p ∈ N₁, p ∈ N5) → y = cutTail last → m'' "due" = some (.ref D') → m'' "things" = some dv →
          ∃ h'' tk'' N3 ev m3, (⟨h', s.gens, s.drawn, tk', s.os⟩ : Shared) = ⟨h'', s.gens, s.drawn, tk'', s.os⟩ ∧ Fr h₀ L h'' m3 ∧ m3 "due" = some ev ∧ m3 "things" = some dv ∧ News h₀ L h'' N3 ∧ (∀ p ∈ N0, p ∈ N3) ∧ In N3 ev (encT (ps ++ [cutTail last])) := by
        intro y t h' tk' D' n' m'' N5 F5 N5' hs5 hy hd ht'
        subst hy
        refine ⟨h', tk', _, .ref D', m'', rfl, F5, hd, ht', N5', fun p hp => List.mem_cons_of_mem _ (hs5 p (hs₁ p hp)), ?_⟩
        exact lst_in (List.mem_cons_self ..) (InAll.of_strs (strs_app hxs (.cons _ _ .nil)))
      by_cases hl0 : last.length = 0
      · have e0 : last = ⟨#[]⟩ := by
          refine PySem.Str.ext' ?_
          exact Array.eq_empty_of_size_eq_zero hl0
        have ec : cutTail last = PySem.Str.ofString "[truncated]..." := if_pos hl0
        rw [if_neg (by rw [e0, show ((⟨#[]⟩ : Str) != PySem.Str.ofString "") = false by decide +kernel]; simp)]
        repeat walk_at "z"
        refine newL F₃ N₃ (by simp) (fun a₄ h₄ ha₄ F₄ N₄ => ?_)
        repeat walk_at "z"
        refine addL F₄ N₄ (us := xs) (vs := [_]) (List.mem_cons_of_mem _ (List.mem_cons_self ..)) (List.mem_cons_self ..) (by simp; omega) (fun a₅ h₅ ha₅ F₅ N₅ => ?_)
        repeat walk_at "z"
        refine sxL F₅ N₅ (fun h₆ F₆ N₆ => ?_) rfl rfl
        repeat walk_at "z"
        exact ⟨rfl, fin _ _ _ _ _ _ _ _ F₆ N₆ (fun p hp => by simp [hp]) ec.symm upd_eq (by walk_at "lk")⟩
      · have ec : cutTail last = last ++ PySem.Str.ofString " [truncated]..." := if_neg hl0
        rw [if_pos (by
          rw [bne_iff_ne]
          intro e
          apply hl0
          rw [e]
          decide +kernel)]
        repeat walk_at "z"
        refine tail_any (s := ⟨_, _, _, _, _⟩) (isL N₃ (List.mem_cons_of_mem _ hm)).typeIs slot_list_getitem.lookup (getLast (N₃ _ (List.mem_cons_of_mem _ hm)).1 ?_) (by with_unfolding_all rfl)
        repeat walk_at "z"
        refine add_str (fun t₄ k₄ => ?_) (by rw [sizeLine_eq, show (PySem.Str.ofString " [truncated]...").length = 15 by decide +kernel]; omega)
        repeat walk_at "z"
        refine newL F₃ N₃ (by simp) (fun a₄ h₄ ha₄ F₄ N₄ => ?_)
        repeat walk_at "z"
        refine addL F₄ N₄ (us := xs) (vs := [_]) (List.mem_cons_of_mem _ (List.mem_cons_self ..)) (List.mem_cons_self ..) (by simp; omega) (fun a₅ h₅ ha₅ F₅ N₅ => ?_)
        repeat walk_at "z"
        refine sxL F₅ N₅ (fun h₆ F₆ N₆ => ?_) rfl rfl
        repeat walk_at "z"
        exact ⟨rfl, fin _ _ _ _ _ _ _ _ F₆ N₆ (fun p hp => by simp [hp]) ec.symm upd_eq (by walk_at "lk")⟩
    · rw [if_neg (by rw [decide_eq_true_eq]; omega)]
      have edue : dueOf pairs = parts pairs 80 := if_neg h80
      repeat walk_at "z"
      exact ⟨rfl, _, _, _, v₁, _, rfl, F₂, upd_eq, by walk_at "lk", N₂, hs₁, edue ▸ hin₁⟩
  · rintro s' ⟨h', tk', N3, ev, m', rfl, F₃, hev, hth, N₃, hs₃, hin₃⟩
    repeat walk_at "z"
    refine ⟨F₃.keep, c_safe (short := true) Xs W (R.less (by decide) (by decide)) F₃ N₃ (.inr rfl) (ht.mono hs₃) hsh hdi hdisp hde (by rw [hA]; omega) (fun t₄ h₄ tk₄ N₄ hs₄ F₄ N₄' => ?_)⟩
    repeat walk_at "z"
    have hsl : (srep things true).length ≤ 50000 := by
      unfold srep
      split
      · rw [hA]; omega
      · rw [strLen, show tail15.length = 15 by decide +kernel]
        have := Txt.length_slice_le things.shown none (some 80)
        rw [hA] at this
        rw [hA]
        omega
    refine ⟨F₄.keep, c_parse Xu W (R.less (by decide) (by decide)) F₄ N₄' hsl (fun v₅ h₅ tk₅ N₅ hs₅ F₅ N₅' hin₅ => ?_)⟩
    rw [hC] at hin₅
    repeat walk_at "z"
    refine compareEq_via hin₅.via ((hin₃.mono hs₄).mono hs₅).via F₅ N₅' ho2 ho2 ?_ ?_
    · have := R.hu
      have e := encT_depth (dueOf pairs)
      omega
    rw [SeqAt.eqv_refl _ ho2]
    exact ⟨_, _, _, _, _, rfl, rfl, F₅, N₅', fun p hp => (List.not_mem_nil hp).elim, rfl⟩

/-! law -/
theorem w_law {prog : Program} {w : World} {mg mb : Str → Option Value} {A : Around} {s : Shared} {h₀ : Heap} {L f wl : Addr} {m : Str → Option Value} {cd : Value} {vs : List Value} {ns : List Int} {fw fq ft fj fp fs fu : Addr}
    (W : Md mg mb h₀) (Xw : FnI mg h₀ "_law_with" 9 fw) (Xq : FnI mg h₀ "_law_quoted" 6 fq) (Xt : FnI mg h₀ "_law_twice" 7 ft) (Xj : FnI mg h₀ "_law_joined" 8 fj) (Xp : FnI mg h₀ "_law_parts" 10 fp) (Xu : FnI mg h₀ "parse_http_list" 4 fu) (Xs : FnD mg h₀ "safe_repr" 2 fs)
    (R : Room A 4 200) (F : Fr h₀ L s.heap m) (N : News h₀ L s.heap [])
    (hm : m "script" = some (.ref wl)) (hL : h₀.IsList wl vs.toArray) (hI : IntsAre vs ns) (hlen : vs.length ≤ 100) (ok : LawOK ([7] ++ ns.take 10)) :
    wpAny (model prog w) A (execs bodyL (envX "law" scL L f cd [])) (Ret h₀ L [] (fun v _ => v = .bool true) s) (fun _ _ => False) s := by
  have Iw := Xw.isFn
  have vw := Xw.at
  have Ij := Xj.isFn
  have vj := Xj.at
  have Ip := Xp.isFn
  have vp := Xp.at
  have Iu := Xu.isFn
  have vu := Xu.at
  have Is := Xs.isFn
  have vs' := Xs.at
  refine' as_blk ?e1 ?e2 ?_
  case e1 => walk_at "body"
  case e2 => walk_at "body"
  repeat walk_at "z"
  refine newL F N (by simp) (fun a₁ h₁ ha₁ F₁ N₁ => ?_)
  repeat walk_at "z"
  refine sxL F₁ N₁ (fun h₂ F₂ N₂ => ?_) rfl rfl
  repeat walk_at "z"
  refine For_invV h₀ rfl rfl ?_ (fun _ => by with_unfolding_all rfl) (fun _ _ h => h.elim)
  repeat walk_at "z"
  refine newL F₂ N₂ (by simp) (fun a₃ h₃ ha₃ F₃ N₃ => ?_)
  repeat walk_at "z"
  refine sliceUptoB (s := ⟨_, _, _, _, _⟩) (k := 10) F₃ N₃ (hL.at fun o e => F₃.keep _ _ e) (by omega) (fun a₄ h₄ ha₄ F₄ N₄ => ?_) (by with_unfolding_all rfl) rfl
  repeat walk_at "z"
  refine addL F₄ N₄ (us := [_]) (vs := vs.take 10) (List.mem_cons_of_mem _ (List.mem_cons_self ..)) (List.mem_cons_self ..) (by simp; omega) (fun a₅ h₅ ha₅ F₅ N₅ => ?_)
  repeat walk_at "z"
  obtain ⟨us, hus0⟩ : ∃ us, us = [Value.int 7 (s.toks + 1)] ++ vs.take 10 := ⟨_, rfl⟩
  have hus : IntsAre us ([7] ++ ns.take 10) := by
    rw [hus0]
    exact .cons _ _ (hI.take 10)
  rw [← hus0] at N₅
  clear hus0
  generalize [7] ++ ns.take 10 = xs at hus ok
  have hul : us.length = xs.length := hus.length
  refine kdl_iter (x := "x") (vs := us) (nn := 0) (fun i m₁ nx => ∃ rv, m₁ "row" = some rv ∧ In nx rv (encR (rowOf (xs.take i)))) R.hh (List.mem_cons_self ..) F₅ N₅ ⟨.ref a₁, by walk_at "lk", lst_in (vs := []) (by walk_at "mm") .nil⟩ ?_ ?_
  · rintro i v m₁ nx h tk own hv hoff hlm ⟨rv, hmr, hin⟩ F₆ N₆
    obtain ⟨k, t, rfl, hk⟩ := hus.at i v hv
    obtain ⟨n, hn, hn8⟩ := fmod_nat (k.fdiv 6) 864 (by decide)
    obtain ⟨r, hr, hr6⟩ := fmod_nat k 6 (by decide)
    have hN : News h₀ L h nx := fun p hp => N₆ p (List.mem_append_left _ hp)
    have erow : lawWith (rowOf (xs.take i)) n r = rowOf (xs.take (i + 1)) := by
      rw [rowOf_succ hk]
      unfold stepR
      rw [show (6 : Int) = ((6 : Nat) : Int) from rfl, show (864 : Int) = ((864 : Nat) : Int) from rfl] at *
      rw [hn, hr]
      rfl
    have F₆' : Fr h₀ L h (upd m₁ "x" (.int k t)) := F₆
    clear F₆
    repeat walk_at "z"
    refine ⟨F₆'.keep, c_with Xw Xq Xt Xj W (R.less (by decide) (by decide)) F₆' hN hin (by have := (ok.pre i).1; omega) (ok.pre i).2 hn hn8 hr (fun rv' h₇ tk₇ N₇ hs₇ hk₇ hf₇ F₇ N₇' hin₇ => ?_)⟩
    have hown : ∀ p ∈ own, p.1 ∉ nx.map (·.1) := fun p hp hb => hoff p hp _ hb rfl
    have N₈ : News h₀ L h₇ (N₇ ++ own) := fun p hp => by
      rcases List.mem_append.mp hp with hp | hp
      · exact N₇' p hp
      · have z := N₆ p (List.mem_append_right _ hp)
        exact ⟨hk₇ _ _ z.1 (hown p hp), z.2⟩
    refine sxL F₇ N₈ (fun h₉ F₉ N₉ => ?_) rfl rfl
    repeat walk_at "z"
    refine InvEndG.intro (nx := N₇) F₉ N₉ ⟨hs₇ _ hlm, rv', upd_eq, erow ▸ hin₇⟩ (fun p hp b hb e => ?_) (fun p hp => List.mem_append_left _ hp) (fun p hp => List.mem_append_right _ hp)
    obtain ⟨q, hq, rfl⟩ := List.mem_map.mp hb
    rcases hf₇ q hq with hq | hq
    · exact hown p hp (e ▸ List.mem_map_of_mem hq)
    · have z := (N₆ p (List.mem_append_right _ hp)).1
      rw [e, hq] at z
      cases z
  · rintro m₁ nx h tk ⟨rv, hmr, hin⟩ F₆ N₆
    rw [hul, List.take_length] at hin
    have hpre := ok.pre xs.length
    rw [List.take_length] at hpre
    generalize hrow : rowOf xs = row at *
    have hsm := ok.sm
    have hsh := ok.showable
    have hdi := ok.hasDict
    have hde := ok.depth
    have hle := ok.len
    have hA := ok.a
    have hB := ok.b
    have hC := ok.c
    have ho1 := ok.ok1
    have ho2 := ok.ok2
    rw [hrow] at hsm hsh hdi hde hle hA hB hC ho1 ho2
    have F₆ : Fr h₀ L h m₁ := F₆
    have N₆ : News h₀ L h nx := N₆
    clear hrow ok
    repeat walk_at "z"
    refine LCp.Assign_ListComp_P F₆ rfl (by with_unfolding_all rfl) (by with_unfolding_all rfl) (by decide) rfl (by decide) rfl rfl (by decide) rfl rfl ?_ (fun _ => by with_unfolding_all rfl)
    repeat walk_at "z"
    refine srcP R.hh F₆ N₆ (ps := row.map fun i => (i.1, encPs i.2)) (by rw [List.map_map]; exact hin) (by simp; omega) rfl rfl rfl (by decide) (fun ys g hys => ?_)
    intro D h₂ tk₂ F₂ N₂ off
    rw [List.map_map] at hys
    have hth : In ((D, LCg.lst ys) :: nx) (.ref D) (thingsOf row) := lst_in (List.mem_cons_self ..) (hys.mono fun p hp => List.mem_cons_of_mem _ hp)
    repeat walk_at "z"
    refine newT F₂ N₂ (fun a₇ h₇ ha₇ F₇ N₇ => ?_)
    repeat walk_at "z"
    refine newL F₇ N₇ (by simp) (fun a₈ h₈ ha₈ F₈ N₈ => ?_)
    repeat walk_at "z"
    have hjl := joined_len row (PySem.Str.ofString "[") [self1 (PySem.Str.ofString "]")]
    refine ⟨F₈.keep, c_joined (row := row) (ending := [self1 "]"]) Xj W (R.less (by decide) (by decide)) F₈ N₈ (hin.mono fun p hp => by simp [hp]) (lst_in (List.mem_cons_self ..) (.one (tup_in (a := a₇) (by walk_at "mm") (.str _ _) (.str _ _)))) (by omega) (Nat.le_trans hjl (by simp; omega)) (fun pv h₉ tk₉ N₉ hs₉ F₉ N₉' hin₉ => ?_)⟩
    repeat walk_at "z"
    refine sxL F₉ N₉' (fun h₁₀ F₁₀ N₁₀ => ?_) rfl rfl
    have hin₉ : In N₉ pv (encPs (allP row)) := hin₉
    have hpl : (allP row).length ≤ 9000 := Nat.le_trans hjl (by simp; omega)
    have hth9 : In N₉ (.ref D) (thingsOf row) := hth.mono fun p hp => hs₉ _ (by rcases List.mem_cons.mp hp with rfl | hp <;> simp [*])
    have hdisp : isDisplay (thingsOf row) = true := rfl
    generalize allP row = pairs at *
    generalize thingsOf row = things at *
    clear hth hys hin N₈ N₇ F₈ F₇ N₂ F₂ hs₉ ha₇ ha₈ off
    repeat walk_at "z"
    refine GM.join ?_
    repeat walk_at "z"
    refine LCp.ListComp_P F₁₀ (by with_unfolding_all rfl) (by decide) rfl (by decide) rfl rfl (by decide) ?_ (fun _ => by with_unfolding_all rfl)
    repeat walk_at "z"
    refine srcP R.hh F₁₀ N₁₀ (ps := pairs.map fun p => (.str p.1, encS p.2)) (by rw [List.map_map]; exact hin₉) (by simp; omega) rfl rfl rfl (by decide) (fun ys g hys => ?_)
    intro D₁ h₁₁ tk₁₁ F₁₁ N₁₁ off
    rw [List.map_map, show ((fun p : PyData × PyData => p.1) ∘ fun p : Pair => (PyData.str p.1, encS p.2)) = fun p : Pair => PyData.str p.1 from rfl] at hys
    have hys' : StrsAre ys (pairs.map (·.1)) := InAll.strs (by rw [List.map_map]; exact hys)
    repeat walk_at "z"
    refine join_list (isL N₁₁ (List.mem_cons_self ..)) hys' ?_ (fun t₃ k₃ => ?_)
    · rw [show (PySem.Str.ofString "").length = 0 by decide +kernel, ← cat_len]
      show (writ pairs).length + _ ≤ _
      omega
    rw [joinCat, show cat (pairs.map (·.1)) = writ pairs from rfl]
    repeat walk_at "z"
    refine sxL F₁₁ N₁₁ (fun h₁₂ F₁₂ N₁₂ => ?_) rfl rfl
    have hin9 : In ((D₁, LCg.lst ys) :: N₉) pv (encPs pairs) := hin₉.mono fun p hp => List.mem_cons_of_mem _ hp
    have hth9 : In ((D₁, LCg.lst ys) :: N₉) (.ref D) things := hth9.mono fun p hp => List.mem_cons_of_mem _ hp
    generalize (D₁, LCg.lst ys) :: N₉ = N0 at *
    clear N₁₁ F₁₁ N₁₀ F₁₀ N₉' hin₉ hys hys' off
    generalize hwr : writ pairs = wr at *
    repeat walk_at "z"
    refine ⟨F₁₂.keep, c_safe (short := false) Xs W (R.less (by decide) (by decide)) F₁₂ N₁₂ (.inl ⟨rfl, rfl⟩) hth9 hsh hdi hdisp hde (by rw [hA]; omega) (fun t₁₃ h₁₃ tk₁₃ N₁₃ hs₁₃ F₁₃ N₁₃' => ?_)⟩
    have esr : srep things false = wr := by rw [← hA]; exact if_pos (by simp)
    rw [esr]
    repeat walk_at "z"
    refine sxL F₁₃ N₁₃' (fun h₁₄ F₁₄ N₁₄ => ?_) rfl rfl
    repeat walk_at "z"
    refine PyProof.Rows.ne_str ?_
    rw [show (wr != wr) = false by simp]
    repeat walk_at "z"
    rw [if_neg (by simp)]
    have hlw : wr.length ≤ 40000 := hle
    have hin13 : In N₁₃ pv (encPs pairs) := hin9.mono hs₁₃
    have hth13 : In N₁₃ (.ref D) things := hth9.mono hs₁₃
    clear N₁₃' F₁₃ N₁₂ F₁₂ hin9 hth9 hs₁₃
    repeat walk_at "z"
    refine ⟨F₁₄.keep, c_parse Xu W (R.less (by decide) (by decide)) F₁₄ N₁₄ (by omega) (fun v₁₅ h₁₅ tk₁₅ N₁₅ hs₁₅ F₁₅ N₁₅' hin₁₅ => ?_)⟩
    rw [hB] at hin₁₅
    repeat walk_at "z"
    refine SBL.len (by omega) ?_
    repeat walk_at "z"
    refine ⟨F₁₅.keep, c_parts (size := wr.length) Xp W (R.less (by decide) (by decide)) F₁₅ N₁₅' (hin13.mono hs₁₅) (by omega) hsm (fun v₁₆ h₁₆ tk₁₆ N₁₆ hs₁₆ F₁₆ N₁₆' hin₁₆ => ?_)⟩
    repeat walk_at "z"
    refine compareNe_via (hin₁₅.mono hs₁₆).via hin₁₆.via F₁₆ N₁₆' ho1 ho1 ?_ ?_
    · have := R.hu
      have e := encT_depth (parts pairs wr.length)
      omega
    rw [SeqAt.eqv_refl _ ho1]
    repeat walk_at "z"
    rw [if_neg (by simp)]
    repeat walk_at "z"
    rw [if_neg (by simp)]
    walk_at "z"
    subst hwr
    have hp16 := (hin13.mono hs₁₅).mono hs₁₆
    have ht16 := (hth13.mono hs₁₅).mono hs₁₆
    generalize hm₉ : upd (upd (upd (fun z => if z = "things" then some (Value.ref D) else m₁ z) "pairs" pv) "written" (Value.str (writ pairs) t₃)) "told" (Value.str (writ pairs) t₁₃) = m₉ at F₁₆
    have q1 : m₉ "pairs" = some pv := by rw [← hm₉]; walk_at "lk"
    have q2 : m₉ "things" = some (.ref D) := by rw [← hm₉]; walk_at "lk"
    have q3 : m₉ "written" = some (.str (writ pairs) t₃) := by rw [← hm₉]; walk_at "lk"
    with_reducible have hw := fun tk₀ => w_due (prog := prog) (w := w) (f := f) (cd := cd) (s := ⟨h₁₆, s.gens, s.drawn, tk₀, s.os⟩) W Xp Xu Xs R F₁₆ N₁₆' q1 q2 q3 hp16 ht16 hpl hsm hsh hdi hdisp hde hlw hA hC ho2 rfl rfl
    refine' un_blk (b := bodyL.drop 7) (sc := scL) ?e1 ?e2 ?e3
    case e3 =>
      with_reducible refine wpAny_mono (hw _) (fun fl s' hq => ?_) fun _ _ e => e
      exact hq
    case e1 => walk_at "body"
    case e2 => walk_at "body"

/-! the head of the law's row, and what it says of the module -/
set_option maxHeartbeats 8000000 in
open_top hd for PySem.Challenge.rw_in0101_01

theorem fnI_of {K : Frag} {h : Heap} {mg : Str → Option Value} (X : K.In h) (G : h.Ns mainGlobals mg) {name : Str} {i : Nat} {a : Addr} {o : Obj} {doc pm cdv ct : Value} {an : Option Addr}
    (e1 : nsIn K mainGlobals name = some (some (.ref a))) (e2 : K.lookup a = some o) (e3 : o.data = .func (fnOf name name (fArgs (stAt i)) (fBody (stAt i)) (fScope (stAt i)) .none .none doc pm an cdv ct)) (e4 : codeIn K cdv name = true) : FnI mg h name i a :=
  ⟨o, doc, pm, cdv, ct, an, mg_of X G e1, X _ _ e2, e3, codeRec_of X e4⟩
theorem fnD_of {K : Frag} {h : Heap} {mg : Str → Option Value} (X : K.In h) (G : h.Ns mainGlobals mg) {name : Str} {i n : Nat} {a T : Addr} {o oT : Obj} {doc pm cdv ct : Value} {an : Option Addr}
    (e1 : nsIn K mainGlobals name = some (some (.ref a))) (e2 : K.lookup a = some o) (e3 : o.data = .func (fnOf name name (fArgs (stAt i)) (fBody (stAt i)) (fScope (stAt i)) (.ref T) .none doc pm an cdv ct)) (e4 : codeIn K cdv name = true) (e5 : K.lookup T = some oT) (e6 : oT.data = .seq #[.bool false] n) : FnD mg h name i a :=
  ⟨o, T, oT, n, doc, pm, cdv, ct, an, mg_of X G e1, X _ _ e2, e3, codeRec_of X e4, X _ _ e5, e6⟩
theorem as_envX {M : Model} {A : Around} {E : Value → Shared → Prop} {s : Shared} {name nm : Str} {b b' : List Stmt} {sc sc' : Scope} {L a : Addr} {cd : Value} {Q : Flow → Shared → Prop} (en : name = nm) (eb : b = b') (es : sc = sc')
    (h : wpAny M A (execs b (envX name sc L a cd [])) Q E s) : wpAny M A (execs b' (envOf nm sc' L a cd)) Q E s := by
  subst eb; subst es; subst en; exact h
theorem md_of {K : Frag} {h : Heap} {mg mb : Str → Option Value} {p : Program} {loose : List Str} {mean : ExcName → Option Value} (X : K.In h) (T : Top p loose mean mg mb h)
    (e0 : ∃ t, nsIn K mainGlobals "_MAX_LENGTH" = some (some (.int 80 t))) (e1 : bNames.all (fun x => decide (nsIn K mainGlobals x = some none)) = true) : Md mg mb h :=
  ⟨T.g, T.b, T.builtins, T.nolimit, T.nodigits, fun x hx => mg_none_of X T.g (by simpa using List.all_eq_true.mp e1 x hx), let ⟨t, e⟩ := e0; ⟨t, mg_of X T.g e⟩⟩

/-! the parser and the parts, in step -/
theorem strip_mid {lead core : List Nat} {x : Str} (hx : x.cps.toList = lead ++ core) (hl : ∀ c ∈ lead, Unicode.isSpace c = true) (hne : core ≠ [])
    (h1 : ∀ c, core.head? = some c → Unicode.isSpace c = false) (h2 : ∀ c, core.getLast? = some c → Unicode.isSpace c = false) : (Txt.strip x).cps.toList = core := by
  obtain ⟨a0, a1, a2⟩ := lo_facts Unicode.isSpace x
  obtain ⟨b0, b1, b2, b3⟩ := hi_facts Unicode.isSpace x (stripLo Unicode.isSpace true x) a0
  have hn : x.length = lead.length + core.length := by
    have : x.length = x.cps.toList.length := by simp [PySem.Str.length]
    rw [this, hx, List.length_append]
  have hc : 0 < core.length := List.length_pos_iff.mpr hne
  have g : ∀ k, x.cps.getD k 0 = (lead ++ core).getD k 0 := fun k => by rw [← getD_list, hx]
  have hlo : stripLo Unicode.isSpace true x = lead.length := by
    rcases Nat.lt_trichotomy (stripLo Unicode.isSpace true x) lead.length with h | h | h
    · rcases a2 with e | e
      · omega
      · rw [g] at e
        have := hl (lead[stripLo Unicode.isSpace true x]) (List.getElem_mem h)
        rw [List.getD_eq_getElem?_getD, List.getElem?_append_left h, List.getElem?_eq_getElem h] at e
        simp [this] at e
    · exact h
    · have e := a1 lead.length h
      rw [g, List.getD_eq_getElem?_getD, List.getElem?_append_right (Nat.le_refl _), Nat.sub_self] at e
      cases core with
      | nil => exact absurd rfl hne
      | cons c r =>
        have := h1 c rfl
        simp [this] at e
  rw [hlo] at b0 b1 b2 b3
  have hhi : stripHi Unicode.isSpace true x lead.length = x.length := by
    rcases Nat.lt_or_ge (stripHi Unicode.isSpace true x lead.length) x.length with h | h
    · have e := b2 (x.length - 1) (by omega) (by omega)
      rw [g, List.getD_eq_getElem?_getD, List.getElem?_append_right (by omega), show x.length - 1 - lead.length = core.length - 1 by omega, ← List.getLast?_eq_getElem?] at e
      cases hg : core.getLast? with
      | none => rw [List.getLast?_eq_none_iff] at hg; exact absurd hg hne
      | some c =>
        have := h2 c hg
        rw [hg] at e
        simp [this] at e
    · omega
  unfold Txt.strip
  rw [PyProof.Rows.stripBy_eq, hlo, hhi, StrLaws.strSub_toList, hx, List.drop_left, List.take_of_length_le (by omega)]

/-- one pair as the parser sees it: in double quotes or not, the part empty (0), ending in a sign (1), in a blank (2) -/
inductive W1 : Bool → Nat → Pair → Bool → Nat → Prop
  | sep {raw : Str} (h : raw = ⟨#[44, 32]⟩ ∨ raw = ⟨#[44]⟩) : W1 false 1 (raw, none) false 0
  | out {c e : Nat} (h44 : c ≠ 44) (hb : e = 0 → Unicode.isSpace c = false) : W1 false e (⟨#[c]⟩, some ⟨#[c]⟩) (decide (c = 34)) (if Unicode.isSpace c = true then 2 else 1)
  | inn {c e : Nat} (h92 : c ≠ 92) (hb : e = 0 → Unicode.isSpace c = false) : W1 true e (⟨#[c]⟩, some ⟨#[c]⟩) (decide (c ≠ 34)) (if Unicode.isSpace c = true then 2 else 1)
  | esc {c e : Nat} (hb : e = 0 → Unicode.isSpace c = false) : W1 true e (⟨#[92, c]⟩, some ⟨#[c]⟩) true (if Unicode.isSpace c = true then 2 else 1)
inductive WS : Bool → Nat → List Pair → Bool → Nat → Prop
  | nil {q : Bool} {e : Nat} : WS q e [] q e
  | cons {q q1 q2 : Bool} {e e1 e2 : Nat} {p : Pair} {ps : List Pair} : W1 q e p q1 e1 → WS q1 e1 ps q2 e2 → WS q e (p :: ps) q2 e2
theorem WS.append {q q1 q2 : Bool} {e e1 e2 : Nat} {a b : List Pair} (h : WS q e a q1 e1) (k : WS q1 e1 b q2 e2) : WS q e (a ++ b) q2 e2 := by
  induction h with
  | nil => exact k
  | cons x r ih => exact .cons x (ih k)

structure Rel (C : CSt) (P : PSt) (q : Bool) (e : Nat) : Prop where
  esc : C.esc = false
  quo : C.quo = q
  res : C.res.map Txt.strip = P.ps
  lead : ∃ ld : List Nat, (∀ c ∈ ld, Unicode.isSpace c = true) ∧ C.part.cps.toList = ld ++ P.last.cps.toList
  e0 : e = 0 ↔ P.last.cps.toList = []
  hd : ∀ c, P.last.cps.toList.head? = some c → Unicode.isSpace c = false
  lst : e = 1 → ∀ c, P.last.cps.toList.getLast? = some c → Unicode.isSpace c = false

theorem toL (a b : Str) : (a ++ b).cps.toList = a.cps.toList ++ b.cps.toList := by
  rw [PySem.Str.cps_append]; simp
theorem str_inj {a b : Str} (h : a.cps.toList = b.cps.toList) : a = b := PySem.Str.ext' (Array.toList_inj.mp h)

/-- a sign is added to the part -/
theorem Rel.add {C : CSt} {P : PSt} {q q' : Bool} {e c : Nat} {at' : Nat} (r : Rel C P q e) (hb : e = 0 → Unicode.isSpace c = false) :
    Rel ⟨C.res, C.part ++ ⟨#[c]⟩, false, q'⟩ ⟨P.ps, P.last ++ ⟨#[c]⟩, at'⟩ q' (if Unicode.isSpace c = true then 2 else 1) := by
  obtain ⟨ld, hld, hp⟩ := r.lead
  have hl : (P.last ++ (⟨#[c]⟩ : Str)).cps.toList = P.last.cps.toList ++ [c] := toL _ _
  refine ⟨rfl, rfl, r.res, ⟨ld, hld, ?_⟩, ?_, ?_, ?_⟩
  · show (C.part ++ (⟨#[c]⟩ : Str)).cps.toList = ld ++ (P.last ++ (⟨#[c]⟩ : Str)).cps.toList
    rw [hl, toL, hp, List.append_assoc]
  · show _ ↔ (P.last ++ (⟨#[c]⟩ : Str)).cps.toList = []
    rw [hl]
    constructor
    · intro h; split at h <;> cases h
    · intro h; simp at h
  · show ∀ d, (P.last ++ (⟨#[c]⟩ : Str)).cps.toList.head? = some d → _
    rw [hl]
    intro d hd
    by_cases h0 : P.last.cps.toList = []
    · rw [h0] at hd
      simp at hd
      rw [← hd]
      exact hb (r.e0.mpr h0)
    · cases hq : P.last.cps.toList with
      | nil => exact absurd hq h0
      | cons a t =>
        rw [hq] at hd
        exact r.hd d (by rw [hq]; exact hd)
  · show _ → ∀ d, (P.last ++ (⟨#[c]⟩ : Str)).cps.toList.getLast? = some d → _
    rw [hl]
    intro h1 d hd
    simp at hd
    rw [← hd]
    split at h1
    · cases h1
    · rename_i hns; exact Bool.eq_false_iff.mpr hns

/-- the part is closed -/
theorem Rel.close {C : CSt} {P : PSt} {q : Bool} (r : Rel C P q 1) {ld : List Nat} (hld : ∀ c ∈ ld, Unicode.isSpace c = true) {at' : Nat} {x : Str} (hx : x.cps.toList = ld) :
    Rel ⟨C.res ++ [C.part], x, false, false⟩ ⟨P.ps ++ [P.last], ⟨#[]⟩, at'⟩ false 0 := by
  obtain ⟨ld', hld', hp⟩ := r.lead
  have hne : P.last.cps.toList ≠ [] := fun h => by have := r.e0.mpr h; cases this
  refine ⟨rfl, rfl, ?_, ⟨ld, hld, by rw [hx]; simp⟩, by simp, by simp, by simp⟩
  show (C.res ++ [C.part]).map Txt.strip = P.ps ++ [P.last]
  rw [List.map_append, r.res]
  congr 1
  simp only [List.map_cons, List.map_nil]
  congr 1
  exact str_inj (strip_mid hp hld' hne r.hd (r.lst rfl))

theorem sp32 : Unicode.isSpace 32 = true := by decide +kernel

theorem step1 {C : CSt} {P : PSt} {q q' : Bool} {e e' n : Nat} {p : Pair} (r : Rel C P q e) (h : W1 q e p q' e') (hn : P.at_ + p.1.length ≤ n) :
    Rel (p.1.cps.toList.foldl cstep C) (pstep n P p) q' e' ∧ (pstep n P p).at_ = P.at_ + p.1.length := by
  cases h with
  | sep h =>
    rcases h with rfl | rfl
    · have e1 : P.at_ + 2 ≤ n := hn
      have ep : pstep n P ((⟨#[44, 32]⟩ : Str), none) = ⟨P.ps ++ [P.last], ⟨#[]⟩, P.at_ + 2⟩ := by
        show (if P.at_ < n then _ else _) = _
        rw [if_pos (by omega)]; rfl
      have ec : ([44, 32] : List Nat).foldl cstep C = ⟨C.res ++ [C.part], (⟨#[]⟩ : Str) ++ ⟨#[32]⟩, false, false⟩ := by
        simp [cstep, r.esc, r.quo]
      rw [ep]
      refine ⟨?_, rfl⟩
      show Rel (([44, 32] : List Nat).foldl cstep C) _ _ _
      rw [ec]
      exact r.close (ld := [32]) (fun c hc => by rw [List.mem_singleton.mp hc]; exact sp32) (by rw [toL]; rfl)
    · have e1 : P.at_ + 1 ≤ n := hn
      have ep : pstep n P ((⟨#[44]⟩ : Str), none) = ⟨P.ps ++ [P.last], ⟨#[]⟩, P.at_ + 1⟩ := by
        show (if P.at_ < n then _ else _) = _
        rw [if_pos (by omega)]; rfl
      have ec : ([44] : List Nat).foldl cstep C = ⟨C.res ++ [C.part], (⟨#[]⟩ : Str), false, false⟩ := by
        simp [cstep, r.esc, r.quo]
      rw [ep]
      refine ⟨?_, rfl⟩
      show Rel (([44] : List Nat).foldl cstep C) _ _ _
      rw [ec]
      exact r.close (ld := []) (fun c hc => absurd hc List.not_mem_nil) rfl
  | @out c _ h44 hb =>
    have ep : pstep n P ((⟨#[c]⟩ : Str), some ⟨#[c]⟩) = ⟨P.ps, P.last ++ ⟨#[c]⟩, P.at_ + 1⟩ := by
      show (if P.at_ + 1 ≤ n then _ else _) = _
      exact (if_pos hn).trans rfl
    have ec : ([c] : List Nat).foldl cstep C = ⟨C.res, C.part ++ ⟨#[c]⟩, false, decide (c = 34)⟩ := by
      by_cases h34 : c = 34 <;> simp [cstep, r.esc, r.quo, h44, h34]
    rw [ep]
    refine ⟨?_, rfl⟩
    show Rel (([c] : List Nat).foldl cstep C) _ _ _
    rw [ec]
    exact r.add hb
  | @inn c _ h92 hb =>
    have ep : pstep n P ((⟨#[c]⟩ : Str), some ⟨#[c]⟩) = ⟨P.ps, P.last ++ ⟨#[c]⟩, P.at_ + 1⟩ := by
      show (if P.at_ + 1 ≤ n then _ else _) = _
      exact (if_pos hn).trans rfl
    have ec : ([c] : List Nat).foldl cstep C = ⟨C.res, C.part ++ ⟨#[c]⟩, false, decide (c ≠ 34)⟩ := by
      by_cases h34 : c = 34 <;> simp [cstep, r.esc, r.quo, h92, h34]
    rw [ep]
    refine ⟨?_, rfl⟩
    show Rel (([c] : List Nat).foldl cstep C) _ _ _
    rw [ec]
    exact r.add hb
  | @esc c _ hb =>
    have ep : pstep n P ((⟨#[92, c]⟩ : Str), some ⟨#[c]⟩) = ⟨P.ps, P.last ++ ⟨#[c]⟩, P.at_ + 2⟩ := by
      show (if P.at_ + 2 ≤ n then _ else _) = _
      exact (if_pos hn).trans rfl
    have ec : ([92, c] : List Nat).foldl cstep C = ⟨C.res, C.part ++ ⟨#[c]⟩, false, true⟩ := by
      simp [cstep, r.esc, r.quo]
    rw [ep]
    refine ⟨?_, rfl⟩
    show Rel (([92, c] : List Nat).foldl cstep C) _ _ _
    rw [ec]
    exact r.add hb

/-- the signs as written -/
def raws (ps : List Pair) : List Nat := ps.flatMap fun p => p.1.cps.toList
theorem raws_writ (ps : List Pair) : (writ ps).cps.toList = raws ps := by
  simp [writ, cat, raws, List.flatMap_map]
theorem rlen (p : Pair) : p.1.cps.toList.length = p.1.length := by simp [PySem.Str.length]

theorem stepAll {n : Nat} {q q' : Bool} {e e' : Nat} {ps : List Pair} (h : WS q e ps q' e') : ∀ {C : CSt} {P : PSt}, Rel C P q e → P.at_ + (raws ps).length ≤ n →
    Rel ((raws ps).foldl cstep C) (ps.foldl (pstep n) P) q' e' := by
  induction h with
  | nil => intro C P r _; exact r
  | @cons q q1 q2 e e1 e2 p ps x _ ih =>
    intro C P r hn
    have er : raws (p :: ps) = p.1.cps.toList ++ raws ps := rfl
    rw [er, List.length_append, rlen] at hn
    obtain ⟨r1, ea⟩ := step1 (n := n) r x (by omega)
    rw [er, List.foldl_append, List.foldl_cons]
    exact ih r1 (by omega)

theorem parse_full {n e : Nat} {q : Bool} {ps : List Pair} (h : WS false 0 ps q 1) (hn : (raws ps).length ≤ n) : parse (raws ps) = parts ps n := by
  have r0 : Rel ⟨[], ⟨#[]⟩, false, false⟩ ⟨[], ⟨#[]⟩, 0⟩ false 0 := ⟨rfl, rfl, rfl, ⟨[], by simp, rfl⟩, by simp, by simp, by simp⟩
  have r := stepAll (n := n) h r0 (by show 0 + _ ≤ n; omega)
  obtain ⟨ld, hld, hp⟩ := r.lead
  have hne : (pfold n ps).last.cps.toList ≠ [] := fun hh => by have := r.e0.mpr hh; cases this
  have hp' : (cfold (raws ps)).part.cps.toList = ld ++ (pfold n ps).last.cps.toList := hp
  unfold parse cuts parts
  rw [if_pos (by
    intro h0
    have : (cfold (raws ps)).part.cps.toList.length = 0 := by simpa [PySem.Str.length] using h0
    rw [hp', List.length_append] at this
    exact hne (List.eq_nil_of_length_eq_zero (by omega)))]
  rw [List.map_append]
  congr 1
  · exact r.res
  · simp only [List.map_cons, List.map_nil]
    congr 1
    exact str_inj (strip_mid hp' hld hne r.hd (r.lst rfl))

/-! the cut -/
theorem tail_list : tail15.cps.toList = 32 :: (("[truncated]..." : Str)).cps.toList := by decide +kernel
theorem tail_plain : ∀ c ∈ (("[truncated]..." : Str)).cps.toList, c ≠ 34 ∧ c ≠ 92 ∧ c ≠ 44 := by decide +kernel
theorem plain_fold : ∀ (l : List Nat) (S : CSt), S.esc = false → (∀ c ∈ l, c ≠ 34 ∧ c ≠ 92 ∧ c ≠ 44) → ∃ x : Str, l.foldl cstep S = ⟨S.res, x, false, S.quo⟩ ∧ x.cps.toList = S.part.cps.toList ++ l
  | [], S, h, _ => ⟨S.part, by rw [List.foldl_nil, ← h], by simp⟩
  | c :: l, S, h, hp => by
    obtain ⟨h1, h2, h3⟩ := hp c (List.mem_cons_self ..)
    have e : cstep S c = ⟨S.res, S.part ++ ⟨#[c]⟩, false, S.quo⟩ := by
      cases hq : S.quo <;> simp [cstep, h, hq, h1, h2, h3]
    obtain ⟨x, hx, hl⟩ := plain_fold l ⟨S.res, S.part ++ ⟨#[c]⟩, false, S.quo⟩ rfl fun d hd => hp d (List.mem_cons_of_mem _ hd)
    refine ⟨x, by rw [List.foldl_cons, e]; exact hx, ?_⟩
    rw [hl]
    show (S.part ++ (⟨#[c]⟩ : Str)).cps.toList ++ l = _
    rw [toL, List.append_assoc]
    rfl

def parseOf (S : CSt) : List Str := (if S.part.length ≠ 0 then S.res ++ [S.part] else S.res).map Txt.strip
theorem parse_eq (l : List Nat) : parse l = parseOf (cfold l) := rfl

/-- a part that goes on into the tail -/
theorem fin_of {res : List Str} {part last : Str} {ps : List Str} {ld : List Nat} (hr : res.map Txt.strip = ps) (hld : ∀ c ∈ ld, Unicode.isSpace c = true) (hp : part.cps.toList = ld ++ last.cps.toList)
    (hd : ∀ c, last.cps.toList.head? = some c → Unicode.isSpace c = false) (S : CSt) (h1 : S.res = res) (h2 : S.part.cps.toList = part.cps.toList ++ tail15.cps.toList) : parseOf S = ps ++ [cutTail last] := by
  have hne : S.part.length ≠ 0 := by
    intro h0
    have : S.part.cps.toList.length = 0 := by simpa [PySem.Str.length] using h0
    rw [h2, tail_list] at this
    simp at this
  unfold parseOf
  rw [if_pos hne, List.map_append, h1, hr]
  congr 1
  simp only [List.map_cons, List.map_nil]
  congr 1
  refine str_inj ?_
  have t1 : (("[truncated]..." : Str)).cps.toList.head? = some 91 := by decide +kernel
  have t2 : (("[truncated]..." : Str)).cps.toList.getLast? = some 46 := by decide +kernel
  have s1 : Unicode.isSpace 91 = false := by decide +kernel
  have s2 : Unicode.isSpace 46 = false := by decide +kernel
  by_cases h0 : last.length = 0
  · have e0 : last.cps.toList = [] := by
      have : last.cps.toList.length = 0 := by simpa [PySem.Str.length] using h0
      exact List.eq_nil_of_length_eq_zero this
    have ec : cutTail last = ("[truncated]..." : Str) := if_pos h0
    rw [ec]
    refine strip_mid (lead := ld ++ [32]) (by rw [h2, hp, e0, tail_list]; simp) (fun c hc => ?_) (by intro h; rw [h] at t1; cases t1) (fun c hc => ?_) (fun c hc => ?_)
    · rcases List.mem_append.mp hc with hc | hc
      · exact hld c hc
      · rw [List.mem_singleton.mp hc]; exact sp32
    · rw [t1] at hc; cases hc; exact s1
    · rw [t2] at hc; cases hc; exact s2
  · have ec : cutTail last = last ++ tail15 := if_neg h0
    rw [ec]
    have hn : last.cps.toList ≠ [] := by
      intro h
      apply h0
      show last.cps.size = 0
      rw [← Array.length_toList, h]; rfl
    refine strip_mid (lead := ld) (by rw [h2, hp, toL, List.append_assoc]) hld (by rw [toL]; simp [hn]) (fun c hc => ?_) (fun c hc => ?_)
    · rw [toL] at hc
      cases hq : last.cps.toList with
      | nil => exact absurd hq hn
      | cons a t =>
        rw [hq] at hc
        exact hd c (by rw [hq]; exact hc)
    · rw [toL, tail_list, List.getLast?_append] at hc
      rw [List.getLast?_cons_of_ne_nil (by intro h; rw [h] at t1; cases t1), t2] at hc
      simp at hc
      rw [← hc]; exact s2

theorem tail_all : ∀ c ∈ tail15.cps.toList, c ≠ 34 ∧ c ≠ 92 ∧ c ≠ 44 := by decide +kernel
theorem fin_rel {C : CSt} {P : PSt} {q : Bool} {e : Nat} (r : Rel C P q e) : parseOf (tail15.cps.toList.foldl cstep C) = P.ps ++ [cutTail P.last] := by
  obtain ⟨ld, hld, hp⟩ := r.lead
  obtain ⟨x, hx, hl⟩ := plain_fold tail15.cps.toList C r.esc tail_all
  exact fin_of r.res hld hp r.hd _ (by rw [hx]) (by rw [hx]; exact hl)
theorem fin_esc {C : CSt} {P : PSt} {q : Bool} {e : Nat} (r : Rel C P q e) : parseOf (tail15.cps.toList.foldl cstep ⟨C.res, C.part, true, q⟩) = P.ps ++ [cutTail P.last] := by
  obtain ⟨ld, hld, hp⟩ := r.lead
  obtain ⟨x, hx, hl⟩ := plain_fold (("[truncated]..." : Str)).cps.toList ⟨C.res, C.part ++ ⟨#[32]⟩, false, q⟩ rfl tail_plain
  have e1 : tail15.cps.toList.foldl cstep ⟨C.res, C.part, true, q⟩ = ⟨C.res, x, false, q⟩ := by
    rw [tail_list, List.foldl_cons]
    exact hx
  refine fin_of r.res hld hp r.hd _ (by rw [e1]) ?_
  rw [e1]
  show x.cps.toList = _
  rw [hl, tail_list]
  show (C.part ++ (⟨#[32]⟩ : Str)).cps.toList ++ _ = _
  rw [toL, List.append_assoc]
  rfl

theorem W1.len {q q' : Bool} {e e' : Nat} {p : Pair} (h : W1 q e p q' e') : 1 ≤ p.1.length ∧ p.1.length ≤ 2 := by
  cases h with
  | sep h => rcases h with rfl | rfl <;> decide
  | out _ _ => exact ⟨Nat.le_refl 1, Nat.le_succ 1⟩
  | inn _ _ => exact ⟨Nat.le_refl 1, Nat.le_succ 1⟩
  | esc _ => exact ⟨Nat.le_succ 1, Nat.le_refl 2⟩
theorem WS.len {q q' : Bool} {e e' : Nat} {ps : List Pair} (h : WS q e ps q' e') : ∀ p ∈ ps, 1 ≤ p.1.length ∧ p.1.length ≤ 2 := by
  induction h with
  | nil => intro p hp; cases hp
  | cons x _ ih =>
    intro p hp
    rcases List.mem_cons.mp hp with rfl | hp
    · exact x.len
    · exact ih p hp

theorem pstep_over {n : Nat} {P : PSt} {p : Pair} (h1 : 1 ≤ p.1.length) (h : n ≤ P.at_) : pstep n P p = ⟨P.ps, P.last, P.at_ + p.1.length⟩ := by
  unfold pstep
  split
  · rw [if_neg (by omega)]
  · rw [if_neg (by omega)]
theorem frozen {n : Nat} : ∀ {ps : List Pair}, (∀ p ∈ ps, 1 ≤ p.1.length ∧ p.1.length ≤ 2) → ∀ {P : PSt}, n ≤ P.at_ → (ps.foldl (pstep n) P).ps = P.ps ∧ (ps.foldl (pstep n) P).last = P.last
  | [], _, P, _ => ⟨rfl, rfl⟩
  | p :: ps, hl, P, h => by
    have h1 := (hl p (List.mem_cons_self ..)).1
    rw [List.foldl_cons, pstep_over h1 h]
    exact frozen (fun x hx => hl x (List.mem_cons_of_mem _ hx)) (P := ⟨P.ps, P.last, P.at_ + p.1.length⟩) (Nat.le_trans h (Nat.le_add_right _ _))

theorem cut_all {n : Nat} {q q' : Bool} {e e' : Nat} {ps : List Pair} (h : WS q e ps q' e') : ∀ {C : CSt} {P : PSt}, Rel C P q e → P.at_ ≤ n →
    parseOf (tail15.cps.toList.foldl cstep (((raws ps).take (n - P.at_)).foldl cstep C)) = (ps.foldl (pstep n) P).ps ++ [cutTail (ps.foldl (pstep n) P).last] := by
  induction h with
  | nil => intro C P r _; simpa [raws] using fin_rel r
  | @cons q q1 q2 e e1 e2 p ps x hw ih =>
    intro C P r hn
    have er : raws (p :: ps) = p.1.cps.toList ++ raws ps := rfl
    have hlen := rlen p
    by_cases hfit : P.at_ + p.1.length ≤ n
    · obtain ⟨r1, ea⟩ := step1 (n := n) r x hfit
      have := ih r1 (by omega)
      rw [ea] at this
      rw [er, List.foldl_cons, List.take_append, hlen, List.take_of_length_le (by omega), List.foldl_append, show n - P.at_ - p.1.length = n - (P.at_ + p.1.length) by omega]
      exact this
    · obtain ⟨l1, l2⟩ := x.len
      have et : (raws (p :: ps)).take (n - P.at_) = p.1.cps.toList.take (n - P.at_) := by
        rw [er, List.take_append_of_le_length (by omega)]
      rw [et, List.foldl_cons]
      have frz : ∀ (P' : PSt), n ≤ P'.at_ → (ps.foldl (pstep n) P').ps ++ [cutTail (ps.foldl (pstep n) P').last] = P'.ps ++ [cutTail P'.last] := fun P' h => by
        obtain ⟨a, b⟩ := frozen hw.len h
        rw [a, b]
      by_cases h0 : n - P.at_ = 0
      · rw [h0, List.take_zero, List.foldl_nil, pstep_over l1 (by omega), frz _ (by show n ≤ P.at_ + _; omega)]
        show _ = P.ps ++ [cutTail P.last]
        exact fin_rel r
      · have h1 : n - P.at_ = 1 := by omega
        have h2 : p.1.length = 2 := by omega
        rw [h1]
        cases x with
        | sep h =>
          rcases h with rfl | rfl
          · have ep : pstep n P ((⟨#[44, 32]⟩ : Str), none) = ⟨P.ps ++ [P.last], ⟨#[]⟩, P.at_ + 2⟩ := by
              show (if P.at_ < n then _ else _) = _
              rw [if_pos (by omega)]; rfl
            have ec : (([44, 32] : List Nat).take 1).foldl cstep C = ⟨C.res ++ [C.part], (⟨#[]⟩ : Str), false, false⟩ := by
              simp [cstep, r.esc, r.quo]
            rw [ep, frz _ (by show n ≤ P.at_ + 2; omega)]
            show parseOf (List.foldl cstep ((([44, 32] : List Nat).take 1).foldl cstep C) tail15.cps.toList) = _
            rw [ec]
            exact fin_rel (r.close (ld := []) (at' := P.at_ + 2) (fun c hc => absurd hc List.not_mem_nil) rfl)
          · exact absurd h2 (by decide)
        | out _ _ => exact absurd h2 (by show ¬ 1 = 2; decide)
        | inn _ _ => exact absurd h2 (by show ¬ 1 = 2; decide)
        | @esc c _ hb =>
          have ep : pstep n P ((⟨#[92, c]⟩ : Str), some ⟨#[c]⟩) = ⟨P.ps, P.last, P.at_ + 2⟩ := by
            show (if P.at_ + 2 ≤ n then _ else _) = _
            exact (if_neg (by omega)).trans rfl
          have ec : (([92, c] : List Nat).take 1).foldl cstep C = ⟨C.res, C.part, true, true⟩ := by
            simp [cstep, r.esc, r.quo]
          rw [ep, frz _ (by show n ≤ P.at_ + 2; omega)]
          show parseOf (List.foldl cstep ((([92, c] : List Nat).take 1).foldl cstep C) tail15.cps.toList) = _
          rw [ec]
          show _ = P.ps ++ [cutTail P.last]
          exact fin_esc r

theorem parse_cut {n e : Nat} {q : Bool} {ps : List Pair} (h : WS false 0 ps q e) : parse ((raws ps).take n ++ tail15.cps.toList) = (pfold n ps).ps ++ [cutTail (pfold n ps).last] := by
  have r0 : Rel ⟨[], ⟨#[]⟩, false, false⟩ ⟨[], ⟨#[]⟩, 0⟩ false 0 := ⟨rfl, rfl, rfl, ⟨[], by simp, rfl⟩, by simp, by simp, by simp⟩
  have := cut_all (n := n) h r0 (Nat.zero_le _)
  rw [parse_eq]
  unfold cfold
  rw [List.foldl_append]
  exact this

/-! items that are shown as written and read as parted -/
structure ItemOK (it : Item) : Prop where
  sh : it.1.shown.cps.toList = raws it.2
  ws : WS false 0 it.2 false 1
  ch : ∀ p ∈ it.2, ∀ x, p.2 = some x → ∀ c ∈ x.cps.toList, c < 128
  sho : it.1.showable = true
  nd : it.1.hasDict = false

theorem W1.from1 {p : Pair} {q : Bool} {e : Nat} (h : W1 false 0 p q e) : W1 false 1 p q e := by
  generalize hz : (0 : Nat) = z at h
  cases h with
  | sep _ => cases hz
  | out h44 _ => exact .out h44 (fun h => by cases h)
theorem WS.from1 {ps : List Pair} {q : Bool} (h : WS false 0 ps q 1) : WS false 1 ps q 1 := by
  generalize hz : (0 : Nat) = z at h
  cases h with
  | nil => cases hz
  | cons x r => subst hz; exact .cons x.from1 r

theorem sp_br : Unicode.isSpace 91 = false ∧ Unicode.isSpace 93 = false ∧ Unicode.isSpace 40 = false ∧ Unicode.isSpace 41 = false ∧ Unicode.isSpace 39 = false ∧ Unicode.isSpace 34 = false := by decide +kernel
theorem out1 {c e : Nat} (h44 : c ≠ 44) (h34 : c ≠ 34) (hb : Unicode.isSpace c = false) : W1 false e (⟨#[c]⟩, some ⟨#[c]⟩) false 1 := by
  have := @W1.out c e h44 (fun _ => hb)
  rw [decide_eq_false h34, hb] at this
  exact this
theorem ws_mid : ∀ {row : List Item}, (∀ it ∈ row, ItemOK it) → WS false 1 (mid row) false 1
  | [], _ => .nil
  | a :: r, h => by
    have tail : ∀ {r : List Item}, (∀ it ∈ r, ItemOK it) → WS false 1 (r.flatMap fun i => sepP :: i.2) false 1 := by
      intro r
      induction r with
      | nil => intro _; exact .nil
      | cons b r ih =>
        intro h
        rw [List.flatMap_cons]
        exact WS.append (.cons (.sep (.inl rfl)) (h b (List.mem_cons_self ..)).ws) (ih fun it hi => h it (List.mem_cons_of_mem _ hi))
    exact WS.append (h a (List.mem_cons_self ..)).ws.from1 (tail fun it hi => h it (List.mem_cons_of_mem _ hi))

def midL : List Str → List Nat
  | [] => []
  | t :: r => t.cps.toList ++ r.flatMap fun u => 44 :: 32 :: u.cps.toList
theorem raws_app (a b : List Pair) : raws (a ++ b) = raws a ++ raws b := by simp [raws]
theorem raws_mid (row : List Item) : raws (mid row) = midL (row.map fun i => writ i.2) := by
  cases row with
  | nil => rfl
  | cons a r =>
    have : ∀ r : List Item, raws (r.flatMap fun i => sepP :: i.2) = (r.map fun i => writ i.2).flatMap fun u => 44 :: 32 :: u.cps.toList := by
      intro r
      induction r with
      | nil => rfl
      | cons b r ih =>
        rw [List.flatMap_cons, raws_app, ih, List.map_cons, List.flatMap_cons, raws_writ]
        rfl
    show raws (a.2 ++ _) = (writ a.2).cps.toList ++ _
    rw [raws_app, this, raws_writ]

theorem shownAll_eq : ∀ {row : List Item}, (∀ it ∈ row, ItemOK it) → PyData.shownAll (row.map (·.1)) = row.map fun i => writ i.2
  | [], _ => rfl
  | a :: r, h => by
    simp only [List.map_cons, PyData.shownAll]
    rw [shownAll_eq fun it hi => h it (List.mem_cons_of_mem _ hi)]
    congr 1
    refine str_inj ?_
    rw [(h a (List.mem_cons_self ..)).sh, raws_writ]

theorem sep_l : ((", " : Str)).cps.toList = [44, 32] := by decide +kernel
theorem textFrom_l : ∀ (ts : List Str) (k : Nat) (acc : Str), (textFrom (k + 1) acc ts).cps.toList = acc.cps.toList ++ ts.flatMap fun u => 44 :: 32 :: u.cps.toList
  | [], _, acc => by simp [textFrom]
  | t :: r, k, acc => by
    show (textFrom (k + 1 + 1) _ r).cps.toList = _
    rw [textFrom_l r (k + 1), toL, toL, if_pos (Nat.succ_pos k), List.flatMap_cons]
    rw [show (((", " : String) : Str)).cps.toList = [44, 32] from sep_l]
    simp
theorem listText_l (ts : List Str) : (listText ts).cps.toList = 91 :: midL ts ++ [93] := by
  unfold listText
  rw [toL]
  have e1 : (("[" : Str)).cps.toList = [91] := by decide +kernel
  have e2 : (("]" : Str)).cps.toList = [93] := by decide +kernel
  have e3 : ((("" : String) : Str)).cps.toList = [] := by decide +kernel
  cases ts with
  | nil => rw [e2]; show (("[" : Str)).cps.toList ++ _ = _; rw [e1]; rfl
  | cons t r =>
    show (textFrom (0 + 1) _ r).cps.toList ++ _ = _
    rw [textFrom_l, toL, toL, if_neg (Nat.lt_irrefl 0), e1, e2, e3]
    simp [midL]
theorem join_l : ∀ ts : List Str, (PySem.Str.join ", " ts).cps.toList = midL ts
  | [] => by rfl
  | [t] => by show t.cps.toList = _; simp [midL]
  | t :: u :: r => by
    show (t ++ (", " : Str) ++ PySem.Str.join ", " (u :: r)).cps.toList = _
    rw [toL, toL, join_l (u :: r), sep_l]
    simp [midL]
theorem tupleText_l (ts : List Str) : (tupleText ts).cps.toList = 40 :: midL ts ++ (if ts.length = 1 then [44, 41] else [41]) := by
  unfold tupleText
  rw [toL, toL, join_l]
  have e1 : (("(" : Str)).cps.toList = [40] := by decide +kernel
  have e2 : (((",)" : String) : Str)).cps.toList = [44, 41] := by decide +kernel
  have e3 : (((")" : String) : Str)).cps.toList = [41] := by decide +kernel
  rw [e1]
  by_cases h : ts.length = 1
  · rw [if_pos h, if_pos (by rw [h]; rfl), e2]; rfl
  · rw [if_neg h, if_neg (by simpa using h), e3]; rfl

theorem br_l : (("[" : Str)) = ⟨#[91]⟩ ∧ (("]" : Str)) = ⟨#[93]⟩ ∧ (("(" : Str)) = ⟨#[40]⟩ ∧ ((")" : Str)) = ⟨#[41]⟩ ∧ (("," : Str)) = ⟨#[44]⟩ := by decide +kernel
theorem raws_self1 (c : Nat) : raws [self1 ⟨#[c]⟩] = [c] := rfl

theorem ch_mid {row : List Item} (h : ∀ it ∈ row, ItemOK it) : ∀ p ∈ mid row, ∀ x, p.2 = some x → ∀ c ∈ x.cps.toList, c < 128 := by
  intro p hp
  cases row with
  | nil => cases hp
  | cons a r =>
    rcases List.mem_append.mp hp with hp | hp
    · exact (h a (List.mem_cons_self ..)).ch p hp
    · obtain ⟨b, hb, hp⟩ := List.mem_flatMap.mp hp
      rcases List.mem_cons.mp hp with rfl | hp
      · intro x hx; cases hx
      · exact (h b (List.mem_cons_of_mem _ hb)).ch p hp
theorem ch_self1 {d : Nat} (hd : d < 128) : ∀ x, (self1 ⟨#[d]⟩).2 = some x → ∀ c ∈ x.cps.toList, c < 128 := by
  intro x hx c hc
  cases hx
  rw [List.mem_singleton.mp hc]; exact hd

theorem showAll {row : List Item} (h : ∀ it ∈ row, ItemOK it) : PyData.showableAll (row.map (·.1)) = true ∧ PyData.hasDictAll (row.map (·.1)) = false := by
  induction row with
  | nil => exact ⟨rfl, rfl⟩
  | cons a r ih =>
    have h1 := h a (List.mem_cons_self ..)
    obtain ⟨i1, i2⟩ := ih fun it hi => h it (List.mem_cons_of_mem _ hi)
    constructor
    · simp only [List.map_cons, PyData.showableAll, h1.sho, i1, Bool.and_self]
    · simp only [List.map_cons, PyData.hasDictAll, h1.nd, i2, Bool.or_self]

theorem ok_list {row : List Item} (h : ∀ it ∈ row, ItemOK it) : ItemOK (.list (row.map (·.1)), joined row "[" [self1 "]"]) := by
  obtain ⟨b1, b2, -, -, -⟩ := br_l
  obtain ⟨s1, s2⟩ := showAll h
  refine ⟨?_, ?_, ?_, s1, s2⟩
  · show (listText (PyData.shownAll (row.map (·.1)))).cps.toList = _
    rw [shownAll_eq h, listText_l, b1, b2]
    show _ = 91 :: raws (mid row ++ [self1 ⟨#[93]⟩])
    rw [raws_app, raws_mid]
    rfl
  · rw [b1, b2]
    exact .cons (out1 (by decide) (by decide) sp_br.1) (WS.append (ws_mid h) (.cons (out1 (by decide) (by decide) sp_br.2.1) .nil))
  · rw [b1, b2]
    intro p hp
    rcases List.mem_cons.mp hp with rfl | hp
    · exact ch_self1 (by decide)
    · rcases List.mem_append.mp hp with hp | hp
      · exact ch_mid h p hp
      · rw [List.mem_singleton.mp hp]; exact ch_self1 (by decide)
theorem ok_tuple {row : List Item} (h : ∀ it ∈ row, ItemOK it) : ItemOK (.tuple (row.map (·.1)), joined row "(" (if row.length = 1 then [(",", none), self1 ")"] else [self1 ")"])) := by
  obtain ⟨-, -, b3, b4, b5⟩ := br_l
  obtain ⟨s1, s2⟩ := showAll h
  refine ⟨?_, ?_, ?_, s1, s2⟩
  · show (tupleText (PyData.shownAll (row.map (·.1)))).cps.toList = _
    rw [shownAll_eq h, tupleText_l, b3, b4, b5, List.length_map]
    show _ = 40 :: raws (mid row ++ _)
    rw [raws_app, raws_mid]
    by_cases hl : row.length = 1
    · rw [if_pos hl, if_pos hl]; rfl
    · rw [if_neg hl, if_neg hl]; rfl
  · rw [b3, b4, b5]
    refine .cons (out1 (by decide) (by decide) sp_br.2.2.1) (WS.append (ws_mid h) ?_)
    by_cases hl : row.length = 1
    · rw [if_pos hl]
      exact .cons (.sep (.inr rfl)) (.cons (out1 (by decide) (by decide) sp_br.2.2.2.1) .nil)
    · rw [if_neg hl]
      exact .cons (out1 (by decide) (by decide) sp_br.2.2.2.1) .nil
  · rw [b3, b4, b5]
    intro p hp
    rcases List.mem_cons.mp hp with rfl | hp
    · exact ch_self1 (by decide)
    · rcases List.mem_append.mp hp with hp | hp
      · exact ch_mid h p hp
      · by_cases hl : row.length = 1
        · rw [if_pos hl] at hp
          rcases List.mem_cons.mp hp with rfl | hp
          · intro x hx; cases hx
          · rw [List.mem_singleton.mp hp]; exact ch_self1 (by decide)
        · rw [if_neg hl] at hp
          rw [List.mem_singleton.mp hp]; exact ch_self1 (by decide)

/-! texts -/
theorem reprText_l (x : Str) : (reprText x).cps.toList = reprQuote x :: x.cps.toList.flatMap (Builtin.Str.reprChar (reprQuote x)) ++ [reprQuote x] := by
  have h : ∀ (q : Nat) (l : List Nat) (acc : Array Nat), (l.foldl (fun out c => out ++ (Builtin.Str.reprChar q c).toArray) acc).toList = acc.toList ++ l.flatMap (Builtin.Str.reprChar q) := by
    intro q l
    induction l with
    | nil => intro acc; simp
    | cons a l ih => intro acc; rw [List.foldl_cons, ih, List.flatMap_cons]; simp
  unfold reprText
  rw [Array.toList_push, ← Array.foldl_toList, h]
  rfl

def inS (c : Nat) : Prop := c = 97 ∨ c = 44 ∨ c = 39 ∨ c = 92 ∨ c = 32 ∨ c = 61
theorem inS_lt {c : Nat} (h : inS c) : c < 128 := by unfold inS at h; omega
theorem repr34 {c : Nat} (h : inS c) : Builtin.Str.reprChar 34 c = (qP c).1.cps.toList := by
  rcases h with rfl | rfl | rfl | rfl | rfl | rfl <;> decide +kernel
theorem repr39 {c : Nat} (h : inS c) : Builtin.Str.reprChar 39 c = (tP c).1.cps.toList := by
  rcases h with rfl | rfl | rfl | rfl | rfl | rfl <;> decide +kernel
theorem repr39q : Builtin.Str.reprChar 39 34 = [34] := by decide +kernel
theorem flat_congr {α : Type} {f g : α → List Nat} : ∀ {l : List α}, (∀ c ∈ l, f c = g c) → l.flatMap f = l.flatMap g
  | [], _ => rfl
  | a :: l, h => by rw [List.flatMap_cons, List.flatMap_cons, h a (List.mem_cons_self ..), flat_congr fun c hc => h c (List.mem_cons_of_mem _ hc)]

theorem qP_inS {c d : Nat} (h : inS c) (hd : d ∈ (qP c).1.cps.toList) : inS d := by
  unfold qP at hd
  split at hd
  · have : d ∈ [92, 92] := hd
    simp at this
    rw [this]; unfold inS; omega
  · have : d ∈ [c] := hd
    simp at this
    rw [this]; exact h

theorem one_or_two (c : Nat) : ∃ e, (if Unicode.isSpace c = true then 2 else 1) = e ∧ (e : Nat) ≠ 0 := ⟨_, rfl, by split <;> decide⟩
theorem w_qP {c e : Nat} (h : inS c) (he : e ≠ 0) : ∃ e', e' ≠ 0 ∧ W1 true e (qP c) true e' := by
  unfold qP
  split
  · obtain ⟨e', h1, h2⟩ := one_or_two 92
    exact ⟨e', h2, h1 ▸ .esc (fun h => absurd h he)⟩
  · rename_i h92
    obtain ⟨e', h1, h2⟩ := one_or_two c
    refine ⟨e', h2, ?_⟩
    have := @W1.inn c e h92 (fun h => absurd h he)
    rw [h1, decide_eq_true (by unfold inS at h; omega)] at this
    exact this
theorem w_tP {c e : Nat} (h : inS c) (he : e ≠ 0) : ∃ e', e' ≠ 0 ∧ W1 true e (tP c) true e' := by
  unfold tP
  split
  · obtain ⟨e', h1, h2⟩ := one_or_two c
    exact ⟨e', h2, h1 ▸ .esc (fun h => absurd h he)⟩
  · obtain ⟨e', h1, h2⟩ := one_or_two c
    refine ⟨e', h2, ?_⟩
    have := @W1.inn c e (by omega) (fun h => absurd h he)
    rw [h1, decide_eq_true (by unfold inS at h; omega)] at this
    exact this
theorem ws_map {f : Nat → Pair} (hf : ∀ {c e : Nat}, inS c → e ≠ 0 → ∃ e', e' ≠ 0 ∧ W1 true e (f c) true e') : ∀ {l : List Nat} {e : Nat}, (∀ c ∈ l, inS c) → e ≠ 0 → ∃ e', e' ≠ 0 ∧ WS true e (l.map f) true e'
  | [], e, _, he => ⟨e, he, .nil⟩
  | c :: l, e, h, he => by
    obtain ⟨e1, h1, w1⟩ := hf (h c (List.mem_cons_self ..)) he
    obtain ⟨e2, h2, w2⟩ := ws_map hf (fun c hc => h c (List.mem_cons_of_mem _ hc)) h1
    exact ⟨e2, h2, .cons w1 w2⟩
theorem w_in (e : Nat) : W1 false e dq true 1 := by
  have := @W1.out 34 e (by decide) (fun _ => sp_br.2.2.2.2.2)
  rw [sp_br.2.2.2.2.2] at this
  exact this
theorem w_back {e : Nat} : W1 true e dq false 1 := by
  have := @W1.inn 34 e (by decide) (fun _ => sp_br.2.2.2.2.2)
  rw [sp_br.2.2.2.2.2] at this
  exact this
theorem w_sq (e : Nat) : W1 false e sq false 1 := out1 (by decide) (by decide) sp_br.2.2.2.2.1

theorem ch_qP {c : Nat} (h : inS c) : ∀ x, (qP c).2 = some x → ∀ d ∈ x.cps.toList, d < 128 := by
  intro x hx d hd
  unfold qP at hx
  split at hx
  · cases hx
    rw [List.mem_singleton.mp hd]; decide
  · cases hx
    rw [List.mem_singleton.mp hd]; exact inS_lt h
theorem ch_tP {c : Nat} (h : inS c) : ∀ x, (tP c).2 = some x → ∀ d ∈ x.cps.toList, d < 128 := by
  intro x hx d hd
  unfold tP at hx
  split at hx <;>
  · cases hx
    rw [List.mem_singleton.mp hd]; exact inS_lt h

theorem quote34 {x : Str} (hs : ∀ c ∈ x.cps.toList, inS c) (h39 : 39 ∈ x.cps.toList) : reprQuote x = 34 := by
  unfold reprQuote
  have h1 : x.cps.contains 39 = true := by simpa using h39
  have h2 : x.cps.contains 34 = false := by
    rw [Bool.eq_false_iff]
    intro h
    have : 34 ∈ x.cps.toList := by simpa using h
    have := hs _ this
    unfold inS at this
    omega
  rw [h1, h2]; rfl

theorem raws_quoted (x : Str) : raws (quoted x) = 34 :: x.cps.toList.flatMap (fun c => (qP c).1.cps.toList) ++ [34] := by
  show raws (dq :: (x.cps.toList.map qP ++ [dq])) = _
  rw [show dq :: (x.cps.toList.map qP ++ [dq]) = [dq] ++ (x.cps.toList.map qP ++ [dq]) from rfl, raws_app, raws_app]
  show [34] ++ ((x.cps.toList.map qP).flatMap (fun p => p.1.cps.toList) ++ [34]) = _
  rw [List.flatMap_map]
  rfl

theorem ok_quoted {x : Str} (hs : ∀ c ∈ x.cps.toList, inS c) (h39 : 39 ∈ x.cps.toList) : ItemOK (.str x, quoted x) := by
  refine ⟨?_, ?_, ?_, rfl, rfl⟩
  · show (reprText x).cps.toList = _
    rw [reprText_l, quote34 hs h39, raws_quoted, flat_congr fun c hc => repr34 (hs c hc)]
  · obtain ⟨e, he, w⟩ := ws_map (f := qP) (fun h he => w_qP h he) hs (Nat.succ_ne_zero 0)
    exact .cons (w_in 0) (WS.append w (.cons w_back .nil))
  · intro p hp
    rcases List.mem_cons.mp hp with rfl | hp
    · exact ch_self1 (by decide)
    · rcases List.mem_append.mp hp with hp | hp
      · obtain ⟨c, hc, rfl⟩ := List.mem_map.mp hp
        exact ch_qP (hs c hc)
      · rw [List.mem_singleton.mp hp]; exact ch_self1 (by decide)

theorem ok_twice {y : Str} {m : List Nat} (hy : y.cps.toList = 34 :: m ++ [34]) (hs : ∀ c ∈ m, inS c) (h39 : 39 ∈ m) : ItemOK (.str y, twice y) := by
  have em : (y.cps.toList.drop 1).dropLast = m := by rw [hy]; simp
  have et : twice y = [sq, dq] ++ (m.map tP ++ [dq, sq]) := by unfold twice; rw [em]; rfl
  refine ⟨?_, ?_, ?_, rfl, rfl⟩
  · show (reprText y).cps.toList = _
    have hq : reprQuote y = 39 := by
      unfold reprQuote
      have h1 : y.cps.contains 34 = true := by
        have : 34 ∈ y.cps.toList := by rw [hy]; simp
        simpa using this
      rw [h1]; simp
    rw [reprText_l, hq, hy, et, raws_app, raws_app, List.flatMap_append, List.flatMap_cons, repr39q, flat_congr fun c hc => repr39 (hs c hc)]
    have e1 : raws (m.map tP) = m.flatMap fun c => (tP c).1.cps.toList := by unfold raws; rw [List.flatMap_map]
    rw [e1]
    show _ = [39, 34] ++ (_ ++ [34, 39])
    simp [repr39q]
  · rw [et]
    obtain ⟨e, he, w⟩ := ws_map (f := tP) (fun h he => w_tP h he) hs (Nat.succ_ne_zero 0)
    refine .cons (w_sq 0) (.cons (w_in 1) ?_)
    show WS true 1 (m.map tP ++ [dq, sq]) false 1
    exact WS.append w (.cons w_back (.cons (w_sq 1) .nil))
  · rw [et]
    intro p hp
    rcases List.mem_append.mp hp with hp | hp
    · simp at hp
      rcases hp with rfl | rfl <;> exact ch_self1 (by decide)
    · rcases List.mem_append.mp hp with hp | hp
      · obtain ⟨c, hc, rfl⟩ := List.mem_map.mp hp
        exact ch_tP (hs c hc)
      · simp at hp
        rcases hp with rfl | rfl <;> exact ch_self1 (by decide)

/-! the texts of the law -/
theorem sgn_inS (n p : Nat) : ∀ c ∈ (sgn n p).cps.toList, inS c := by
  intro c hc
  have h : ∀ i : Fin 6, ∀ c ∈ (Txt.item alpha (i.val : Int)).cps.toList, c ∈ [97, 44, 39, 92, 32, 61] := by decide +kernel
  have := h ⟨n / 4 / p % 6, Nat.mod_lt _ (by decide)⟩ c hc
  simpa [inS] using this
theorem sgns_inS (n : Nat) : ∀ c ∈ (sgns n).cps.toList, inS c := by
  intro c hc
  unfold sgns cat at hc
  rw [List.toList_toArray] at hc
  obtain ⟨y, hy, hc⟩ := List.mem_flatMap.mp hc
  obtain ⟨p, -, rfl⟩ := List.mem_map.mp hy
  exact sgn_inS n p c hc
theorem mul_mem {x : Str} {k : Int} {c : Nat} (h : c ∈ (Txt.mul x k).cps.toList) : c ∈ x.cps.toList := by
  unfold Txt.mul at h
  split at h
  · cases h
  · split at h
    · exact h
    · have key : ∀ (j : Nat) (acc : Array Nat), c ∈ ((List.replicate j x.cps).foldl (· ++ ·) acc).toList → c ∈ acc.toList ∨ c ∈ x.cps.toList := by
        intro j
        induction j with
        | zero => intro acc h; exact .inl h
        | succ j ih =>
          intro acc h
          rw [List.replicate_succ, List.foldl_cons] at h
          rcases ih _ h with h | h
          · simp at h
            rcases h with h | h
            · exact .inl (by simpa using h)
            · exact .inr (by simpa using h)
          · exact .inr h
      rcases key _ _ h with h | h
      · cases h
      · exact h
theorem sq_l : (("'" : Str)).cps.toList = [39] := by decide +kernel
theorem textOf_inS (n r : Nat) : (∀ c ∈ (textOf n r).cps.toList, inS c) ∧ 39 ∈ (textOf n r).cps.toList := by
  unfold textOf
  rw [toL, sq_l]
  refine ⟨fun c hc => ?_, by simp⟩
  rcases List.mem_append.mp hc with hc | hc
  · rw [List.mem_singleton.mp hc]; unfold inS; omega
  · exact sgns_inS n c (mul_mem hc)
theorem ok_text (n r : Nat) : ItemOK (.str (textOf n r), quoted (textOf n r)) := ok_quoted (textOf_inS n r).1 (textOf_inS n r).2
theorem ok_inner (n r : Nat) : ItemOK (.str (innerOf (textOf n r)), twice (innerOf (textOf n r))) := by
  obtain ⟨h1, h2⟩ := textOf_inS n r
  refine ok_twice (m := (textOf n r).cps.toList.flatMap fun c => (qP c).1.cps.toList) ?_ (fun c hc => ?_) ?_
  · exact (raws_writ (quoted (textOf n r))).trans (raws_quoted _)
  · obtain ⟨d, hd, hc⟩ := List.mem_flatMap.mp hc
    exact qP_inS (h1 d hd) hc
  · refine List.mem_flatMap.mpr ⟨39, h2, ?_⟩
    show 39 ∈ (qP 39).1.cps.toList
    decide +kernel

/-! the row -/
def wself : Bool → Nat → List Nat → Option (Bool × Nat)
  | q, e, [] => some (q, e)
  | q, e, c :: r =>
    if (q = true ∧ c = 92) ∨ (q = false ∧ c = 44) ∨ (e = 0 ∧ Unicode.isSpace c = true) ∨ ¬ c < 128 then none
    else wself (if c = 34 then !q else q) (if Unicode.isSpace c = true then 2 else 1) r
theorem wself_ok : ∀ {l : List Nat} {q : Bool} {e : Nat} {z : Bool × Nat}, wself q e l = some z → WS q e (l.map fun c => ((⟨#[c]⟩ : Str), some ⟨#[c]⟩)) z.1 z.2 ∧ ∀ c ∈ l, c < 128
  | [], q, e, z, h => by
    cases h
    exact ⟨.nil, fun c hc => by cases hc⟩
  | c :: r, q, e, z, h => by
    unfold wself at h
    split at h
    · cases h
    · rename_i hn
      simp only [not_or, not_and, Decidable.not_not] at hn
      obtain ⟨h1, h2, h3, h4⟩ := hn
      obtain ⟨w, hc⟩ := wself_ok h
      have hb : e = 0 → Unicode.isSpace c = false := fun he => by simpa using h3 he
      refine ⟨.cons ?_ w, fun d hd => ?_⟩
      · cases q with
        | false =>
          have := @W1.out c e (h2 rfl) hb
          by_cases h34 : c = 34
          · rw [if_pos h34]; rw [decide_eq_true h34] at this; exact this
          · rw [if_neg h34]; rw [decide_eq_false h34] at this; exact this
        | true =>
          have := @W1.inn c e (h1 rfl) hb
          by_cases h34 : c = 34
          · rw [if_pos h34]; rw [decide_eq_false (by simp [h34])] at this; exact this
          · rw [if_neg h34]; rw [decide_eq_true (by simpa using h34)] at this; exact this
      · rcases List.mem_cons.mp hd with rfl | hd
        · exact h4
        · exact hc d hd
theorem raws_self (x : Str) : raws (selfP x) = x.cps.toList := by
  unfold raws selfP
  rw [List.flatMap_map]
  show x.cps.toList.flatMap (fun c => [c]) = _
  simp
theorem ok_self {d : PyData} {x : Str} (h : wself false 0 x.cps.toList = some (false, 1)) (hs : d.shown = x) (h1 : d.showable = true) (h2 : d.hasDict = false) : ItemOK (d, selfP x) := by
  obtain ⟨w, hc⟩ := wself_ok h
  refine ⟨by rw [raws_self, hs], w, ?_, h1, h2⟩
  intro p hp y hy c hcy
  obtain ⟨b, hb, rfl⟩ := List.mem_map.mp hp
  cases hy
  rw [List.mem_singleton.mp hcy]
  exact hc b hb

theorem int_self : ∀ n : Nat, n < 864 → wself false 0 (((toString ((n : Int) - 400) : String) : Str)).cps.toList = some (false, 1) := by
  have : ((List.range 864).all fun n => decide (wself false 0 (((toString ((n : Int) - 400) : String) : Str)).cps.toList = some (false, 1))) = true := by decide +kernel
  intro n hn
  simpa using (List.all_eq_true.mp this) n (by simpa using hn)
theorem ok_menu {n : Nat} (hn : n < 864) : ItemOK ((menuAt n).1, selfP (menuAt n).2) := by
  have h6 : n % 6 < 6 := Nat.mod_lt _ (by decide)
  unfold menuAt
  rcases (by omega : n % 6 = 0 ∨ n % 6 = 1 ∨ n % 6 = 2 ∨ n % 6 = 3 ∨ n % 6 = 4 ∨ n % 6 = 5) with h | h | h | h | h | h <;> rw [h]
  · show ItemOK ((.none : PyData), selfP "None")
    exact ok_self (by decide +kernel) rfl rfl rfl
  · show ItemOK ((.int ((n : Int) - 400) : PyData), selfP ((toString ((n : Int) - 400) : String) : Str))
    exact ok_self (int_self n hn) rfl (decide_eq_true (log_small (by omega))) rfl
  · show ItemOK ((.str "" : PyData), selfP "''")
    exact ok_self (by decide +kernel) (by decide +kernel) rfl rfl
  · show ItemOK ((.str "b c" : PyData), selfP "'b c'")
    exact ok_self (by decide +kernel) (by decide +kernel) rfl rfl
  · show ItemOK ((.str "b\"x, y\"" : PyData), selfP "'b\"x, y\"'")
    exact ok_self (by decide +kernel) (by decide +kernel) rfl rfl
  · show ItemOK ((.str "\\" : PyData), selfP "'\\\\'")
    exact ok_self (by decide +kernel) (by decide +kernel) rfl rfl

structure RowOK (i : Nat) (row : List Item) : Prop where
  ok : ∀ it ∈ row, ItemOK it
  len : row.length ≤ i
  tot : tot row ≤ 40 * i
  dep : ∀ it ∈ row, it.1.depth ≤ i

theorem tot1 (it : Item) : tot [it] = it.2.length := by simp [tot]
theorem menu_dep (n : Nat) : (menuAt n).1.depth = 0 := by
  have h6 : n % 6 < 6 := Nat.mod_lt _ (by decide)
  unfold menuAt
  rcases (by omega : n % 6 = 0 ∨ n % 6 = 1 ∨ n % 6 = 2 ∨ n % 6 = 3 ∨ n % 6 = 4 ∨ n % 6 = 5) with h | h | h | h | h | h <;> rw [h] <;> rfl
theorem RowOK.push {i : Nat} {row row' : List Item} {it : Item} (r : RowOK i row) (hsub : ∀ x ∈ row', x ∈ row) (hlen : row'.length ≤ row.length) (htot : Mine.tot row' + it.2.length ≤ Mine.tot row + 40) (h : ItemOK it) (hd : it.1.depth ≤ i + 1) : RowOK (i + 1) (row' ++ [it]) := by
  have h1 := r.len
  have h2 := r.tot
  refine ⟨fun x hx => ?_, by simp; omega, by rw [tot_app, tot1]; omega, fun x hx => ?_⟩
  · rcases List.mem_append.mp hx with hx | hx
    · exact r.ok x (hsub x hx)
    · rw [List.mem_singleton.mp hx]; exact h
  · rcases List.mem_append.mp hx with hx | hx
    · exact Nat.le_succ_of_le (r.dep x (hsub x hx))
    · rw [List.mem_singleton.mp hx]; exact hd
theorem depthAll_le {i : Nat} : ∀ {row : List Item}, (∀ it ∈ row, it.1.depth ≤ i) → PyData.depthAll (row.map (·.1)) ≤ i
  | [], _ => Nat.zero_le _
  | a :: r, h => by
    simp only [List.map_cons, PyData.depthAll]
    exact Nat.max_le.mpr ⟨h a (List.mem_cons_self ..), depthAll_le fun it hi => h it (List.mem_cons_of_mem _ hi)⟩
theorem quoted_len (x : Str) : (quoted x).length = x.length + 2 := by simp [quoted, PySem.Str.length]
theorem twice_len (y : Str) : (twice y).length ≤ y.length + 4 := by simp [twice, PySem.Str.length]; omega

theorem step_ok {i n r : Nat} {row : List Item} (h : RowOK i row) (hn : n < 864) (hr : r < 6) : RowOK (i + 1) (lawWith row n r) := by
  unfold lawWith
  have hl := textOf_len n r
  by_cases h0 : r = 0
  · rw [if_pos h0]
    refine h.push (fun _ hx => hx) (Nat.le_refl _) ?_ (ok_menu hn) (by rw [menu_dep]; omega)
    have := menu_len n hn
    have e : (selfP (menuAt n).2).length = (menuAt n).2.length := by simp [selfP, PySem.Str.length]
    show _ + (selfP (menuAt n).2).length ≤ _
    omega
  · rw [if_neg h0]
    by_cases h4 : r < 4
    · rw [if_pos h4]
      by_cases h3 : r < 3
      · rw [if_pos h3]
        refine h.push (fun _ hx => hx) (Nat.le_refl _) ?_ (ok_text n r) (Nat.zero_le _)
        show _ + (quoted (textOf n r)).length ≤ _
        rw [quoted_len]; omega
      · rw [if_neg h3]
        refine h.push (fun _ hx => hx) (Nat.le_refl _) ?_ (ok_inner n r) (Nat.zero_le _)
        show _ + (twice (innerOf (textOf n r))).length ≤ _
        have h1 := twice_len (innerOf (textOf n r))
        have h2 := (innerOf_len (textOf n r)).2
        omega
    · rw [if_neg h4]
      dsimp only
      obtain ⟨k, hk⟩ : ∃ k, k = row.length - min row.length (n % 4) := ⟨_, rfl⟩
      rw [← hk]
      have hk3 : (row.drop k).length ≤ 3 := by
        have : n % 4 < 4 := Nat.mod_lt _ (by decide)
        rw [List.length_drop]; omega
      have hok : ∀ it ∈ row.drop k, ItemOK it := fun it hi => h.ok it (List.mem_of_mem_drop hi)
      have hdp : PyData.depthAll ((row.drop k).map (·.1)) ≤ i := depthAll_le fun it hi => h.dep it (List.mem_of_mem_drop hi)
      have hts := tot_split row k
      by_cases hr4 : r = 4
      · rw [if_pos hr4]
        refine h.push (fun _ hx => List.mem_of_mem_take hx) (by simp; omega) ?_ (ok_list hok) (by show PyData.depthAll _ + 1 ≤ _; omega)
        have := joined_len (row.drop k) "[" [self1 "]"]
        show _ + (joined (row.drop k) "[" [self1 "]"]).length ≤ _
        simp only [List.length_cons, List.length_nil] at this
        omega
      · rw [if_neg hr4]
        refine h.push (fun _ hx => List.mem_of_mem_take hx) (by simp; omega) ?_ (ok_tuple hok) (by show PyData.depthAll _ + 1 ≤ _; omega)
        show _ + (joined (row.drop k) "(" _).length ≤ _
        have := joined_len (row.drop k) "(" (if (row.drop k).length = 1 then [(",", none), self1 ")"] else [self1 ")"])
        have hen : (if (row.drop k).length = 1 then [((("," : Str)), none), self1 ")"] else [self1 ")"] : List Pair).length ≤ 2 := by split <;> simp
        omega

theorem rowOf_ok : ∀ (xs : List Int), RowOK xs.length (rowOf xs) := by
  intro xs
  have key : ∀ i, i ≤ xs.length → RowOK i (rowOf (xs.take i)) := by
    intro i
    induction i with
    | zero =>
      intro _
      have e : rowOf (xs.take 0) = [] := by simp [rowOf]
      rw [e]
      exact ⟨fun it hi => (by cases hi), Nat.le_refl _, Nat.le_refl _, fun it hi => (by cases hi)⟩
    | succ i ih =>
      intro hi
      obtain ⟨x, hx⟩ : ∃ x, xs[i]? = some x := ⟨xs[i], by simp⟩
      rw [rowOf_succ hx]
      obtain ⟨n, hn, hn8⟩ := fmod_nat (x.fdiv 6) 864 (by decide)
      obtain ⟨r, hr, hr6⟩ := fmod_nat x 6 (by decide)
      unfold stepR
      have e1 : ((x.fdiv 6).fmod 864).toNat = n := by rw [show (864 : Int) = ((864 : Nat) : Int) from rfl, hn]; rfl
      have e2 : (x.fmod 6).toNat = r := by rw [show (6 : Int) = ((6 : Nat) : Int) from rfl, hr]; rfl
      rw [e1, e2]
      exact step_ok (ih (by omega)) hn8 hr6
  have := key xs.length (Nat.le_refl _)
  rw [List.take_length] at this
  exact this

/-! the plain law -/
theorem W1.small {q q' : Bool} {e e' : Nat} {p : Pair} (h : W1 q e p q' e') : p.1.length ≤ 10 ∧ ∀ x, p.2 = some x → x.length ≤ 10 := by
  refine ⟨Nat.le_trans h.len.2 (by decide), fun x hx => ?_⟩
  cases h with
  | sep _ => cases hx
  | out _ _ => cases hx; show 1 ≤ 10; decide
  | inn _ _ => cases hx; show 1 ≤ 10; decide
  | esc _ => cases hx; show 1 ≤ 10; decide
theorem WS.small {q q' : Bool} {e e' : Nat} {ps : List Pair} (h : WS q e ps q' e') : Mine.small ps := by
  induction h with
  | nil => intro p hp; cases hp
  | cons x _ ih =>
    intro p hp
    rcases List.mem_cons.mp hp with rfl | hp
    · exact x.small
    · exact ih p hp
theorem raws_len {ps : List Pair} (h : ∀ p ∈ ps, 1 ≤ p.1.length ∧ p.1.length ≤ 2) : (raws ps).length ≤ 2 * ps.length := by
  induction ps with
  | nil => exact Nat.zero_le _
  | cons p ps ih =>
    have h1 := (h p (List.mem_cons_self ..)).2
    have h2 := ih fun x hx => h x (List.mem_cons_of_mem _ hx)
    have e : raws (p :: ps) = p.1.cps.toList ++ raws ps := rfl
    rw [e, List.length_append, rlen, List.length_cons]
    omega

/-- the signs of the parts -/
theorem pfold_ch {n : Nat} {ps : List Pair} (h : ∀ p ∈ ps, ∀ x, p.2 = some x → ∀ c ∈ x.cps.toList, c < 128) : ∀ {P : PSt}, (∀ y ∈ P.ps ++ [P.last], ∀ c ∈ y.cps.toList, c < 128) →
    ∀ y ∈ (ps.foldl (pstep n) P).ps ++ [(ps.foldl (pstep n) P).last], ∀ c ∈ y.cps.toList, c < 128 := by
  induction ps with
  | nil => intro P hP; exact hP
  | cons p ps ih =>
    intro P hP
    rw [List.foldl_cons]
    refine ih (fun x hx => h x (List.mem_cons_of_mem _ hx)) ?_
    unfold pstep
    split
    · split
      · intro y hy
        rcases List.mem_append.mp hy with hy | hy
        · exact hP y hy
        · rw [List.mem_singleton.mp hy]; intro c hc; cases hc
      · exact hP
    · rename_i x hx
      split
      · intro y hy
        rcases List.mem_append.mp hy with hy | hy
        · exact hP y (List.mem_append_left _ hy)
        · rw [List.mem_singleton.mp hy]
          intro c hc
          rw [toL] at hc
          rcases List.mem_append.mp hc with hc | hc
          · exact hP P.last (List.mem_append_right _ (List.mem_singleton.mpr rfl)) c hc
          · exact h p (List.mem_cons_self ..) x hx c hc
      · exact hP
theorem canLay_of {l : List Str} (h : ∀ y ∈ l, ∀ c ∈ y.cps.toList, c < 128) : (encT l).canLay0 = true := by
  show PyData.canLayAll0 (l.map .str) = true
  induction l with
  | nil => rfl
  | cons a l ih =>
    rw [List.map_cons]
    simp only [PyData.canLayAll0, PyData.canLay0, Bool.and_eq_true]
    refine ⟨?_, ih fun y hy => h y (List.mem_cons_of_mem _ hy)⟩
    show a.cps.all (· < 0x110000) = true
    rw [Array.all_eq_true']
    intro c hc
    have := h a (List.mem_cons_self ..) c (by simpa using hc)
    simp only [decide_eq_true_eq]
    omega
theorem tail_ch : (∀ c ∈ tail15.cps.toList, c < 128) ∧ ∀ c ∈ (("[truncated]..." : Str)).cps.toList, c < 128 := by decide +kernel

theorem plain_of (xs : List Int) (hx : xs.length ≤ 11) : LawOK xs := by
  have hr := rowOf_ok xs
  obtain ⟨b1, b2, -, -, -⟩ := br_l
  have hit : ItemOK (thingsOf (rowOf xs), allP (rowOf xs)) := ok_list hr.ok
  have hsh := hit.sh
  have hws := hit.ws
  have hch := hit.ch
  have hlen : (raws (allP (rowOf xs))).length ≤ 2000 := by
    have h1 := raws_len hws.len
    have h2 := joined_len (rowOf xs) "[" [self1 "]"]
    have h3 : (allP (rowOf xs)).length ≤ 1 + tot (rowOf xs) + (rowOf xs).length + 1 := h2
    have h4 := hr.len
    have h5 := hr.tot
    have h6 : (raws (allP (rowOf xs))).length ≤ 2 * (allP (rowOf xs)).length := h1
    omega
  have hwl : (writ (allP (rowOf xs))).length = (raws (allP (rowOf xs))).length := by
    rw [← raws_writ]; simp [PySem.Str.length]
  have hA : (thingsOf (rowOf xs)).shown = writ (allP (rowOf xs)) := str_inj (hsh.trans (raws_writ _).symm)
  have hpar : ∀ n, ∀ y ∈ (pfold n (allP (rowOf xs))).ps ++ [(pfold n (allP (rowOf xs))).last], ∀ c ∈ y.cps.toList, c < 128 := fun n =>
    pfold_ch hch (by intro y hy; rw [List.mem_singleton.mp hy]; intro c hc; cases hc)
  have hcut : ∀ n, ∀ y ∈ (pfold n (allP (rowOf xs))).ps ++ [cutTail (pfold n (allP (rowOf xs))).last], ∀ c ∈ y.cps.toList, c < 128 := by
    intro n y hy
    rcases List.mem_append.mp hy with hy | hy
    · exact hpar n y (List.mem_append_left _ hy)
    · rw [List.mem_singleton.mp hy]
      unfold cutTail
      split
      · exact tail_ch.2
      · intro c hc
        rw [toL] at hc
        rcases List.mem_append.mp hc with hc | hc
        · exact hpar n _ (List.mem_append_right _ (List.mem_singleton.mpr rfl)) c hc
        · exact tail_ch.1 c hc
  refine ⟨fun i => ?_, hws.small, hit.sho, hit.nd, ?_, by omega, hA, ?_, ?_, canLay_of (hpar _), ?_⟩
  · have h := rowOf_ok (xs.take i)
    have h1 := h.len
    have h2 := h.tot
    have h3 : (xs.take i).length ≤ 11 := by rw [List.length_take]; omega
    exact ⟨by omega, by omega⟩
  · have := depthAll_le hr.dep
    show PyData.depthAll _ + 1 ≤ 20
    omega
  · rw [raws_writ]
    exact parse_full (e := 0) hws (by omega)
  · by_cases h80 : 80 ≤ (writ (allP (rowOf xs))).length
    · have e1 : srep (thingsOf (rowOf xs)) true = Txt.slice (thingsOf (rowOf xs)).shown none (some 80) ++ tail15 := if_neg (by rw [hA]; simp; omega)
      have e2 : (Txt.slice (thingsOf (rowOf xs)).shown none (some 80)).cps.toList = (raws (allP (rowOf xs))).take 80 := by
        rw [hA]
        have hll : (writ (allP (rowOf xs))).cps.toList.length = (writ (allP (rowOf xs))).length := by simp [PySem.Str.length]
        have := StrLaws.sliceText_to (x := writ (allP (rowOf xs))) (j := 80) ⟨by decide, by omega⟩
        have e0 : Txt.slice (writ (allP (rowOf xs))) none (some 80) = StrLaws.sliceText (writ (allP (rowOf xs))) none (some 80) := rfl
        rw [e0, this, ← raws_writ]
        rfl
      have e3 : dueOf (allP (rowOf xs)) = (pfold 80 (allP (rowOf xs))).ps ++ [cutTail (pfold 80 (allP (rowOf xs))).last] := if_pos h80
      rw [e1, toL, e2, e3]
      exact parse_cut hws
    · have e1 : srep (thingsOf (rowOf xs)) true = (thingsOf (rowOf xs)).shown := if_pos (by rw [hA]; simp; omega)
      have e3 : dueOf (allP (rowOf xs)) = parts (allP (rowOf xs)) 80 := if_neg h80
      rw [e1, hA, raws_writ, e3]
      exact parse_full (e := 0) hws (by omega)
  · unfold dueOf
    split
    · exact canLay_of (hcut 80)
    · exact canLay_of (hpar 80)

theorem plain (ns : List Int) : LawOK ([7] ++ ns.take 10) := plain_of _ (by simp; omega)

end Mine
open Mine in
set_option maxHeartbeats 8000000 in
theorem PySem.Challenge.cw_in0101_01_holds : PySem.Challenge.rw_in0101_01.Holds := by
  refine hd ?_
  k_go0
  rename_i w s₀ s₁ mg mb G Y fa o pm doc kV ho hg KX X V GL T B TE TW a1 a2 M a3 a4 hcd ns hs hlay0 hL0 hr0 hl2 a5 a6 wl vs a7 hL ra w1 r0 hI hr hc1 hc2 K0 hD h₁ F N0
  have W : Md mg mb s₁.heap := md_of KX T ⟨_, by with_unfolding_all rfl⟩ (by with_unfolding_all rfl)
  obtain ⟨_, Xw⟩ : ∃ a, FnI mg s₁.heap "_law_with" 9 a := by
    refine' ⟨_, fnI_of KX T.g ?e1 ?e2 ?e3 ?e4⟩
    case e1 => with_unfolding_all rfl
    case e2 => with_unfolding_all rfl
    case e3 => with_unfolding_all rfl
    case e4 => with_unfolding_all rfl
  obtain ⟨_, Xq⟩ : ∃ a, FnI mg s₁.heap "_law_quoted" 6 a := by
    refine' ⟨_, fnI_of KX T.g ?e1 ?e2 ?e3 ?e4⟩
    case e1 => with_unfolding_all rfl
    case e2 => with_unfolding_all rfl
    case e3 => with_unfolding_all rfl
    case e4 => with_unfolding_all rfl
  obtain ⟨_, Xt⟩ : ∃ a, FnI mg s₁.heap "_law_twice" 7 a := by
    refine' ⟨_, fnI_of KX T.g ?e1 ?e2 ?e3 ?e4⟩
    case e1 => with_unfolding_all rfl
    case e2 => with_unfolding_all rfl
    case e3 => with_unfolding_all rfl
    case e4 => with_unfolding_all rfl
  obtain ⟨_, Xj⟩ : ∃ a, FnI mg s₁.heap "_law_joined" 8 a := by
    refine' ⟨_, fnI_of KX T.g ?e1 ?e2 ?e3 ?e4⟩
    case e1 => with_unfolding_all rfl
    case e2 => with_unfolding_all rfl
    case e3 => with_unfolding_all rfl
    case e4 => with_unfolding_all rfl
  obtain ⟨_, Xp⟩ : ∃ a, FnI mg s₁.heap "_law_parts" 10 a := by
    refine' ⟨_, fnI_of KX T.g ?e1 ?e2 ?e3 ?e4⟩
    case e1 => with_unfolding_all rfl
    case e2 => with_unfolding_all rfl
    case e3 => with_unfolding_all rfl
    case e4 => with_unfolding_all rfl
  obtain ⟨_, Xu⟩ : ∃ a, FnI mg s₁.heap "parse_http_list" 4 a := by
    refine' ⟨_, fnI_of KX T.g ?e1 ?e2 ?e3 ?e4⟩
    case e1 => with_unfolding_all rfl
    case e2 => with_unfolding_all rfl
    case e3 => with_unfolding_all rfl
    case e4 => with_unfolding_all rfl
  obtain ⟨_, Xs⟩ : ∃ a, FnD mg s₁.heap "safe_repr" 2 a := by
    refine' ⟨_, fnD_of KX T.g ?e1 ?e2 ?e3 ?e4 ?e5 ?e6⟩
    case e1 => with_unfolding_all rfl
    case e2 => with_unfolding_all rfl
    case e3 => with_unfolding_all rfl
    case e4 => with_unfolding_all rfl
    case e5 => with_unfolding_all rfl
    case e6 => with_unfolding_all rfl
  have hvl : vs.length ≤ 100 := by
    have := hI.length
    omega
  refine' as_envX (name := "law") (b := bodyL) (sc := scL) ?c1 ?c2 ?c3 ?c4
  case c1 => rfl
  case c2 => with_unfolding_all rfl
  case c3 => with_unfolding_all rfl
  case c4 =>
    have R : ∀ env, Room (callerA.deeper env) 4 200 := fun env => ⟨rfl, rfl, by show 1 + claimMargin + 1 + 4 < recursionLimit; decide, by show 4 + 3 + 200 < cLine; decide⟩
    with_reducible have hw := fun tk₀ cd₀ env₀ => w_law (prog := PySem.Challenge.rw_in0101_01.row.prog) (w := w) (f := fa) (cd := cd₀) (s := ⟨h₁, s₁.gens, s₁.drawn, tk₀, s₁.os⟩) W Xw Xq Xt Xj Xp Xu Xs (R env₀) F N0 rfl hL hI hvl (Mine.plain ns)
    refine wpAny_mono (hw _ _ _) (fun fl s' hq => ?_) (fun _ _ e => e.elim)
    obtain ⟨v, h', tk', m', news', rfl, rfl, F', N', _, rfl⟩ := hq
    refine goodW_bool F' hg ?_ ?_
    · intro cls; with_unfolding_all rfl
    · with_unfolding_all rfl
