import PyProof.Rows.All
import Wide.All
import OpenK.AllK
import Wide.FinOn
import PySem.Challenge.RW_fe5006_01
open PySem PySem.W PyProof.Rows PySem.Calls PySem.Spec PyProof.V
set_option Elab.async false
set_option maxRecDepth 100000
namespace Mine
set_option maxRecDepth 100000 in
set_option maxHeartbeats 8000000 in
open_top hd for PySem.Challenge.rw_fe5006_01


abbrev PR : Program := PySem.Challenge.rw_fe5006_01.row.prog

/-- room for n more levels of calls -/
structure Ok (A : Around) (n : Nat) : Prop where
  hh : A.handled = none
  d : A.depth + 20 * n < 900
  u : A.units + 200 * n < 9000

theorem Ok.deeper {A : Around} {n : Nat} (h : Ok A (n + 1)) (env : Env) : Ok (A.deeper env) n :=
  ⟨h.hh, by rw [depth_deeper]; have := h.d; omega, by rw [units_deeper]; have := h.u; omega⟩
theorem Ok.in1 {A : Around} {n : Nat} (h : Ok A (n + 1)) : Ok A.in1 n :=
  ⟨h.hh, by rw [depth_in1]; have := h.d; omega, by rw [units_in1]; have := h.u; omega⟩
theorem Ok.mono {A : Around} {n k : Nat} (h : Ok A n) (hk : k ≤ n) : Ok A k := ⟨h.hh, by have := h.d; omega, by have := h.u; omega⟩
theorem Ok.room {A : Around} {n : Nat} (h : Ok A n) : A.depth < recursionLimit := by
  have := h.d; simp only [recursionLimit]; omega
theorem Ok.units {A : Around} {n : Nat} (h : Ok A n) : A.units + 64 < cLine := by
  have := h.u; have := cLine_is; omega

def DictAt (w : World) (h : Heap) (a : Addr) (kvs : List (Str × Value)) : Prop :=
  (a == sysModules) = false ∧ h.DictOf (PySem.strKind PR w) a kvs
theorem DictAt.keeps {w : World} {h h' : Heap} {a : Addr} {kvs : List (Str × Value)} (D : DictAt w h a kvs) (hk : ∀ b o, h.get? b = some o → h'.get? b = some o) : DictAt w h' a kvs :=
  ⟨D.1, D.2.keep hk⟩
theorem DictAt.fr {w : World} {h₀ h : Heap} {L : Addr} {m : Str → Option Value} {a : Addr} {kvs : List (Str × Value)} (F : Fr h₀ L h m) (D : DictAt w h₀ a kvs) : DictAt w h a kvs := D.keeps F.keep
theorem DictAt.news {w : World} {h₀ h : Heap} {L : Addr} {news : List (Addr × Obj)} {a : Addr} {o : Obj} {kvs : List (Str × Value)} (N : News h₀ L h news) (hm : (a, o) ∈ news) (lo : (a == sysModules) = false)
    (hd : o.IsDictOf (PySem.strKind PR w) kvs) : DictAt w h a kvs := ⟨lo, Heap.dictOf_iff.mpr ⟨o, (N _ hm).1, hd⟩⟩

section
variable {w : World} {A : Around} {E : Value → Shared → Prop} {s : Shared} {K : Frag} {h₀ : Heap} {news : List (Addr × Obj)}

/-- a call of a plain def: h₀ is what the body may not turn, news what it may -/
theorem enterN {name qual : Str} {params : Arguments} {body : List Stmt} {scope : Scope} {dV kV doc pm cdv ct oc : Value} {an od : Option Addr} {osl : Array (Option Value)} {f : Addr} {vals : List Value} {binds : List (Str × Value)} {Q : Value → Shared → Prop}
    (X : K.In h₀) (hlim : h₀.NoLimit) (hsub : ∀ b o, h₀.get? b = some o → s.heap.get? b = some o) (hsz : h₀.objs.size ≤ s.heap.objs.size)
    (N : ∀ p ∈ news, s.heap.get? p.1 = some p.2 ∧ h₀.get? p.1 = none)
    (ho : K.lookup f = some ⟨oc, od, .func (fnOf name qual params body scope dV kV doc pm an cdv ct), osl⟩) (hcd : codeIn K cdv qual = true) (hroom : A.depth < recursionLimit)
    (hbind : BindsTo s (fnOf name qual params body scope dV kV doc pm an cdv ct) ⟨vals, []⟩ binds) (hloc : ∀ y ∈ binds, scope.names.lookup y.1 = some .local)
    (h : ∀ L h₁ tk, Fr h₀ L h₁ (fun y => binds.reverse.lookup y) → News h₀ L h₁ news → (∀ b o, s.heap.get? b = some o → h₁.get? b = some o) → (∀ p ∈ news, p.1 < L) →
      wpAny (model PR w) (A.deeper (envOf qual scope L f cdv)) (execs body (envOf qual scope L f cdv))
        (fun fl s' => Q (match fl with | .ret v => v | _ => .none) s') (fun _ _ => False) { s with heap := h₁, toks := tk })
    (hco : scope.isCoroutine = false) (hgen : scope.isGenerator = false) (hk : scope.kind = .function)
    (hcell : ∀ x ∈ scope.names, x.2 ≠ .cell) : wpAny (model PR w) A (call (.ref f) vals) Q E s := by
  refine wpAny_call (codeAny_call_def (fd := fnOf name qual params body scope dV kV doc pm an cdv ct) (body := body) (binds := binds) hroom (hsub _ _ (X _ _ ho)) rfl (hlim.keeps hsub) (codeRec_of (fun a o e => hsub _ _ (X a o e)) hcd) rfl hbind hcell hloc (fun h₁ hns hk₁ => ?_) hco hgen hk)
  refine wpAny_mono (h s.heap.objs.size h₁ _ ⟨hns, fun b o e => hk₁ b o (hsub b o e), hsz⟩ (fun p hp => ⟨hk₁ _ _ (N p hp).1, Nat.ne_of_lt (Heap.lt_size (N p hp).1), (N p hp).2⟩) hk₁ (fun p hp => Heap.lt_size (N p hp).1)) (fun _ _ x => x) fun _ _ x => x.elim

theorem get2_at {a : Addr} {kvs : List (Str × Value)} {x : Str} {t : Tok} {dflt : Value} {Q : Value → Shared → Prop} (D : DictAt w s.heap a kvs)
    {v : Value} (hv : (valueAt kvs x).getD dflt = v) (h : Q v { s with toks := s.toks + 1 }) : wpAny (model PR w) A (call (.builtin "dict.get") [.ref a, .str x t, dflt]) Q E s := by
  subst hv
  exact call_meetsIn PySem.F.slot_dict_get D.2.typeIs PySem.F.entry_dict_get (PySem.F.args_dict_get_3 _ _ _) (meets_dict_get_default (strKind PR w) a (strKind_is PR w x t) D.1 dflt) ⟨_, D.2.mapOf, h⟩
theorem item_at {a : Addr} {kvs : List (Str × Value)} {x : Str} {t : Tok} {v : Value} {Q : Value → Shared → Prop} (D : DictAt w s.heap a kvs) (hv : valueAt kvs x = some v)
    (h : Q v { s with toks := s.toks + 1 }) {value slice : Expr} 
    (hs : subscripted slice false (.ref a) (.str x t) = operate [.ref a, .str x t] (getItem (.ref a) (.str x t)) := by with_unfolding_all rfl) : wpAny (model PR w) A (subscriptTail value slice (.ref a) (.str x t)) Q E s :=
  tail_any D.2.typeIs slot_dict_getitem.lookup (wpAny_getItem_of (strKind_is PR w x t) D.2.mapOf hv h) hs
theorem meth_at {a : Addr} {kvs : List (Str × Value)} {name : Str} {id : String} {pl : Sem Bool} {Q : Value × List Value → Shared → Prop} (slot : Slot "dict" name id) (ty : typeOf (.builtin id) = pure (.type "method_descriptor"))
    (D : DictAt w s.heap a kvs) (h : Q (.builtin id, [.ref a]) s) : wpAny (model PR w) A (getMethod (.ref a) name pl) Q E s :=
  getMethod_builtin D.2.typeIs PySem.F.plainAttrs_dict slot ty D.2.mapOf.noDict h
theorem in_at {a : Addr} {kvs : List (Str × Value)} {x : Str} {t : Tok} {Q : Value → Shared → Prop} (D : DictAt w s.heap a kvs)
    (h : Q (.bool (valueAt kvs x).isSome) { s with toks := s.toks + 1 }) : wpAny (model PR w) A (compareOp .In (.str x t) (.ref a)) Q E s :=
  wpAny_in_of (strKind_is PR w x t) D.1 D.2.mapOf h
end


section
variable {prog : Program} {w : World} {A : Around} {E : Value → Shared → Prop} {s : Shared} {env : Env} {h₀ : Heap} {x : Str} {body : List Stmt} {Q : Flow → Shared → Prop}

/-- no iterator of ours stands in the ledger -/
def NoItC (c : Value) : Prop := c ≠ .type "list_iterator" ∧ c ≠ .type "range_iterator" ∧ c ≠ .type "dict_keyiterator"
def NoIt (news : List (Addr × Obj)) : Prop := ∀ p ∈ news, NoItC p.2.cls
theorem NoIt.nil : NoIt [] := fun _ hp => nomatch hp
theorem NoIt.cons {p : Addr × Obj} {r : List (Addr × Obj)} (h1 : NoItC p.2.cls) (h2 : NoIt r) : NoIt (p :: r) := fun q hq => by
  rcases List.mem_cons.mp hq with rfl | hq
  · exact h1
  · exact h2 q hq
theorem NoIt.append {a b : List (Addr × Obj)} (h1 : NoIt a) (h2 : NoIt b) : NoIt (a ++ b) := fun q hq => (List.mem_append.mp hq).elim (h1 q) (h2 q)

def LPost (h₀ : Heap) (L : Addr) (J : (Str → Option Value) → List (Addr × Obj) → Prop) (own : List (Addr × Obj)) (s₁ : Shared) (Q : Flow → Shared → Prop) (f : Flow) (s₂ : Shared) : Prop :=
  match f with
  | .ret v => Q (.ret v) s₂
  | .brk => Q .next s₂
  | _ => ∃ h' tk m' news', s₂ = { s₁ with heap := h', toks := tk } ∧ Fr h₀ L h' m' ∧ News h₀ L h' (own ++ news') ∧ NoIt news' ∧ J m' news'

theorem news_eq {h₀ h : Heap} {L a : Addr} {o o' : Obj} {news : List (Addr × Obj)} (N : News h₀ L h news) (h1 : (a, o) ∈ news) (h2 : (a, o') ∈ news) : o = o' := by
  have e1 := (N _ h1).1
  have e2 := (N _ h2).1
  simp only at e1 e2
  rw [e1] at e2
  exact Option.some.inj e2

theorem loopL {l : Addr} {vs : List Value} {m₀ : Str → Option Value} {news : List (Addr × Obj)} (J : Nat → (Str → Option Value) → List (Addr × Obj) → Prop)
    (hh : A.handled = none) (hl : s.heap.IsList l vs.toArray) (F : Fr h₀ env.locals s.heap m₀) (N : News h₀ env.locals s.heap news) (hni : NoIt news) (hj : J 0 m₀ news)
    (turn : ∀ i v m₁ news₁ h tk own, vs[i]? = some v → NoIt news₁ → J i m₁ news₁ → (∀ p ∈ own, p.1 = l ∨ p.2.cls = .type "list_iterator") → (∀ o, (l, o) ∈ own → o.cls = .type "list") → h.IsList l vs.toArray →
      Fr h₀ env.locals h (fun y => if y = x then some v else m₁ y) → News h₀ env.locals h (own ++ news₁) →
      wpAny (model prog w) A (execs body env) (LPost h₀ env.locals (J (i + 1)) own { s with heap := h, toks := tk } Q) E { s with heap := h, toks := tk })
    (done : ∀ m₁ news₁ h tk, J vs.length m₁ news₁ → Fr h₀ env.locals h m₁ → News h₀ env.locals h news₁ → Q .next { s with heap := h, toks := tk }) :
    wpAny (model prog w) A (pyIter (.ref l)) (fun it s₂ => LoopAtV prog w A h₀ env x body Q E it s₂) E s := by
  obtain ⟨ol, hol, hcl, nl, hdl⟩ := id hl
  have hlt : l < s.heap.objs.size := Heap.lt_size hol
  have hne : l ≠ s.heap.objs.size := Nat.ne_of_lt hlt
  have hLl : env.locals ≠ l := by
    rintro rfl
    obtain ⟨oL, es, ep, hL, hd, _⟩ := F.ns
    rw [hol] at hL
    cases hL
    rw [hdl] at hd
    cases hd
  refine wpAny_pyIter_list hl ?_
  have W := Walks.list (prog := prog) (w := w) hh s.heap.objs.size l hne vs.toArray
  rw [show vs.toArray.size = vs.length by simp] at W
  let J' : Nat → (Str → Option Value) → List (Addr × Obj) → Prop := fun i m₁ news₁ => NoIt news₁ ∧ J i m₁ news₁
  refine ⟨_, _, _, vs.length, _, _, m₀, news, J', rfl, W, ?_, ?_, ?_, ⟨⟨_, Heap.get?_push_size _ rfl, rfl, rfl⟩, hl.at fun o e => Heap.get?_push_of_some _ e⟩, F.push _, (fun p hp => ⟨Heap.get?_push_of_some _ (N p hp).1, (N p hp).2⟩), ⟨hni, hj⟩, ?_, ?_⟩
  · intro hm
    rcases List.mem_cons.mp hm with e | hm
    · exact absurd F.ns.lt (e ▸ Nat.lt_irrefl _)
    · exact hLl (List.mem_singleton.mp hm)
  · intro b hb
    rw [List.mem_singleton.mp hb]
    exact next_is_new F
  · intro p hp hI
    exact absurd (Heap.lt_size (N p hp).1) ((List.mem_singleton.mp hI) ▸ Nat.lt_irrefl _)
  · rintro i v m₁ news₁ s₁ own ⟨hh', tk', rfl⟩ hin hP ⟨hno, hJ⟩ hoff hown hget hall hst F₁ N₁
    have hv : vs[i]? = some v := by simpa using hP
    obtain ⟨oi, hoi, hci, hdi⟩ := hst.1
    have hown' : ∀ p ∈ own, p.1 = l ∨ p.2.cls = .type "list_iterator" := by
      intro p hp
      rcases List.mem_cons.mp (hown p hp) with e | e
      · right
        have e2 := hget p hp
        rw [e] at e2
        simp only at hoi e2
        rw [hoi] at e2
        cases e2
        exact hci
      · exact .inl (List.mem_singleton.mp e)
    have hIown : (s.heap.objs.size, oi) ∈ own := hall _ (.head _) (next_is_new F) oi hoi
    have hlo : ∀ o, (l, o) ∈ own → o.cls = .type "list" := by
      intro o ho
      obtain ⟨o2, ho2, hc2, _⟩ := hst.2
      have e2 := hget _ ho
      simp only at e2
      rw [ho2] at e2
      cases e2
      exact hc2
    refine wpAny_mono (turn i v m₁ news₁ hh' tk' own hv hno hJ hown' hlo hst.2 F₁ N₁) (fun f s₂ p => ?_) fun _ _ e => e
    have fin : (∃ h' tk m' news', s₂ = { ({ s with heap := hh', toks := tk' } : Shared) with heap := h', toks := tk } ∧ Fr h₀ env.locals h' m' ∧ News h₀ env.locals h' (own ++ news') ∧ NoIt news' ∧ J (i + 1) m' news') →
        LoopStepU h₀ env.locals [s.heap.objs.size] own (J' (i + 1)) { s with heap := hh', toks := tk' } .next s₂ := by
      rintro ⟨h', tk, m', news', e, F', N', hn, hm⟩
      refine ⟨rfl, h', tk, m', news', e, F', N', fun p hp hq => ?_, hn, hm⟩
      have hpI := List.mem_singleton.mp hq
      have e1 := news_eq N' (List.mem_append_left _ hIown) (List.mem_append_right _ (by rw [← hpI]; exact hp : (s.heap.objs.size, p.2) ∈ news'))
      exact (hn p hp).1 (e1 ▸ hci)
    cases f with
    | ret v => exact .ret p
    | brk => exact .brk p
    | next => exact .next (fin p)
    | cont => exact .cont (fin p)
  · rintro h' tk m' news' F' N' _ ⟨_, hJ⟩
    exact done m' news' h' tk hJ F' N'

theorem LPost.intro {L : Addr} {J : (Str → Option Value) → List (Addr × Obj) → Prop} {own news' : List (Addr × Obj)} {s₁ : Shared} {h' : Heap} {tk : Nat} {m' : Str → Option Value}
    (F : Fr h₀ L h' m') (N : News h₀ L h' (own ++ news')) (hn : NoIt news') (hj : J m' news') : ∃ h'' tk'' m'' news'', ({ s₁ with heap := h', toks := tk } : Shared) = { s₁ with heap := h'', toks := tk'' } ∧ Fr h₀ L h'' m'' ∧ News h₀ L h'' (own ++ news'') ∧ NoIt news'' ∧ J m'' news'' :=
  ⟨h', tk, m', news', rfl, F, N, hn, hj⟩
end
section
variable {prog : Program} {w : World} {A : Around} {E : Value → Shared → Prop} {s : Shared} {env : Env} {h₀ : Heap} {x : Str} {body : List Stmt} {Q : Flow → Shared → Prop}
theorem For_m {m : Str → Option Value} {px pos : Pos} {iter : Expr} (F : Fr h₀ env.locals s.heap m) (hx : env.kindOf x = some .local)
    (hp : (env.scope.kind == .class || (env.scope.kind == .module && env.locals != env.globals)) = false)
    (h : wpAny (model prog w) A (eval iter env) (fun xv s₁ => wpAny (model prog w) A (pyIter xv) (fun it s₂ => LoopAtV prog w A h₀ env x body Q E it s₂) E s₁) E s)
    (hs : ∀ x, foldedSetIterable iter env x = pure x) (hE : PassesOwn (model prog w) A env E) :
    wpAny (model prog w) A (exec (.For (.Name x px) iter body [] pos) env) Q E s := let _ := F; For_invV h₀ hx hp h hs hE
end
theorem fr_name {h₀ h : Heap} {L : Addr} {m : Str → Option Value} {x : Str} {v : Value} (F : Fr h₀ L h m) (e : m x = some v) : Fr h₀ L h (fun y => if y = x then some v else m y) := by
  have q : (fun y => if y = x then some v else m y) = m := by
    funext y
    by_cases hy : y = x
    · rw [if_pos hy, hy, e]
    · rw [if_neg hy]
  rw [q]; exact F
section
variable {prog : Program} {w : World} {A : Around} {E : Value → Shared → Prop} {s : Shared} {env : Env} {h₀ : Heap} {x : Str} {body : List Stmt} {Q : Flow → Shared → Prop}
def SPost (h₀ : Heap) (L : Addr) (J : (Str → Option Value) → Prop) (own : List (Addr × Obj)) (s₁ : Shared) (Q : Flow → Shared → Prop) (f : Flow) (s₂ : Shared) : Prop :=
  match f with
  | .ret v => Q (.ret v) s₂
  | .brk => Q .next s₂
  | _ => ∃ h' tk m', s₂ = { s₁ with heap := h', toks := tk } ∧ Fr h₀ L h' m' ∧ News h₀ L h' own ∧ J m'
theorem SPost.intro {L : Addr} {J : (Str → Option Value) → Prop} {own : List (Addr × Obj)} {s₁ : Shared} {h' : Heap} {tk : Nat} {m' : Str → Option Value}
    (F : Fr h₀ L h' m') (N : News h₀ L h' own) (hj : J m') : ∃ h'' tk'' m'', ({ s₁ with heap := h', toks := tk } : Shared) = { s₁ with heap := h'', toks := tk'' } ∧ Fr h₀ L h'' m'' ∧ News h₀ L h'' own ∧ J m'' :=
  ⟨h', tk, m', rfl, F, N, hj⟩
/-- sign by sign, nothing made or turned but the frame's names -/
theorem loopS {y : Str} {ty : PySem.Tok} {m₀ : Str → Option Value} {news : List (Addr × Obj)} (J : Nat → (Str → Option Value) → Prop)
    (hh : A.handled = none) (F : Fr h₀ env.locals s.heap m₀) (N : News h₀ env.locals s.heap news) (hj : J 0 m₀)
    (turn : ∀ i c u m₁ h tk own, y.cps[i]? = some c → J i m₁ → Fr h₀ env.locals h (fun z => if z = x then some (.str ⟨#[c]⟩ u) else m₁ z) → News h₀ env.locals h (own ++ news) →
      wpAny (model prog w) A (execs body env) (SPost h₀ env.locals (J (i + 1)) (own ++ news) { s with heap := h, toks := tk } Q) E { s with heap := h, toks := tk })
    (done : ∀ m₁ h tk, J y.cps.size m₁ → Fr h₀ env.locals h m₁ → News h₀ env.locals h news → Q .next { s with heap := h, toks := tk }) :
    wpAny (model prog w) A (pyIter (.str y ty)) (fun it s₂ => LoopAtV prog w A h₀ env x body Q E it s₂) E s := by
  refine wpAny_pyIter_str fun o St W hst => ?_
  let J' : Nat → (Str → Option Value) → List (Addr × Obj) → Prop := fun i m₁ news₁ => news₁ = news ∧ J i m₁
  have N1 : News h₀ env.locals (s.heap.push o) news := fun p hp => ⟨Heap.get?_push_of_some _ (N p hp).1, (N p hp).2⟩
  refine ⟨_, _, _, y.cps.size, _, St, m₀, news, J', rfl, W A hh, ?_, ?_, ?_, hst, F.push _, N1, ⟨rfl, hj⟩, ?_, ?_⟩
  · intro hm
    exact absurd F.ns.lt ((List.mem_singleton.mp hm) ▸ Nat.lt_irrefl _)
  · intro b hb
    rw [List.mem_singleton.mp hb]
    exact next_is_new F
  · intro p hp hI
    exact absurd (Heap.lt_size (N p hp).1) ((List.mem_singleton.mp hI) ▸ Nat.lt_irrefl _)
  · rintro i v m₁ news₁ s₁ own ⟨hh', tk', rfl⟩ hin hP ⟨rfl, hJ⟩ hoff hown hget hall hst' F₁ N₁
    obtain ⟨c, u, hc, rfl⟩ := hP
    refine wpAny_mono (turn i c u m₁ hh' tk' own hc hJ F₁ N₁) (fun f s₂ p => ?_) fun _ _ e => e
    have fin : (∃ h' tk m', s₂ = { ({ s with heap := hh', toks := tk' } : Shared) with heap := h', toks := tk } ∧ Fr h₀ env.locals h' m' ∧ News h₀ env.locals h' (own ++ news₁) ∧ J (i + 1) m') →
        LoopStepU h₀ env.locals [s.heap.objs.size] own (J' (i + 1)) { s with heap := hh', toks := tk' } .next s₂ := by
      rintro ⟨h', tk, m', e, F', N', hm⟩
      exact ⟨rfl, h', tk, m', news₁, e, F', N', hoff, rfl, hm⟩
    cases f with
    | ret v => exact .ret p
    | brk => exact .brk p
    | next => exact .next (fin p)
    | cont => exact .cont (fin p)
  · rintro h' tk m' news' F' N' _ ⟨rfl, hJ⟩
    exact done m' h' tk hJ F' N'
end
theorem own_ne {h₀ h : Heap} {L l b : Addr} {o : Obj} {c : Value} {own news : List (Addr × Obj)} (N : News h₀ L h (own ++ news)) (hown : ∀ p ∈ own, p.1 = l ∨ p.2.cls = c) (hl : ∃ ol, h₀.get? l = some ol)
    (hm : (b, o) ∈ news) (hc : o.cls ≠ c) : ∀ p ∈ own, p.1 ≠ b := fun p hp e => by
  rcases hown p hp with q | q
  · obtain ⟨ol, ho⟩ := hl
    have := (N _ (List.mem_append_right _ hm)).2.2
    simp only at this
    rw [← e, q, ho] at this
    cases this
  · have := news_eq N (List.mem_append_left _ (by rw [← e]; exact hp : (b, p.2) ∈ own)) (List.mem_append_right _ hm)
    exact hc (this ▸ q)
theorem cls_list {i : Array Value} {n : Nat} : NoItC (listOf i n).cls :=
  ⟨by show Value.type "list" ≠ _; decide, by show Value.type "list" ≠ _; decide, by show Value.type "list" ≠ _; decide⟩
theorem cls_dict {prog : Program} {w : World} {o : Obj} {kvs : List (Str × Value)} (h : o.IsDictOf (PySem.strKind prog w) kvs) : NoItC o.cls := by
  obtain ⟨es, ep, hx, _⟩ := h
  rw [hx.1]
  exact ⟨by decide, by decide, by decide⟩
theorem news_sub {h₀ h : Heap} {L : Addr} {l l' : List (Addr × Obj)} (N : News h₀ L h l) (hs : ∀ p ∈ l', p ∈ l) : News h₀ L h l' := fun p hp => N p (hs p hp)
theorem news_tail {h₀ h : Heap} {L : Addr} {x : Addr × Obj} {l : List (Addr × Obj)} (N : News h₀ L h (x :: l)) : News h₀ L h l := fun p hp => N p (.tail _ hp)
theorem news_rot {h₀ h : Heap} {L : Addr} {x : Addr × Obj} {l : List (Addr × Obj)} (N : News h₀ L h (x :: l)) : News h₀ L h (l ++ [x]) := fun p hp => N p (by
  rcases List.mem_append.mp hp with q | q
  · exact .tail _ q
  · rw [List.mem_singleton.mp q]; exact .head _)
section
variable {w : World} {A : Around} {E : Value → Shared → Prop} {s : Shared} {env : Env} {h₀ : Heap} {x : Str} {body : List Stmt} {Q : Flow → Shared → Prop}
theorem loopD {d : Addr} {kvs : List (Str × Value)} {m₀ : Str → Option Value} {news : List (Addr × Obj)} (J : Nat → (Str → Option Value) → List (Addr × Obj) → Prop)
    (hh : A.handled = none) (D : DictAt w s.heap d kvs) (F : Fr h₀ env.locals s.heap m₀) (hL : d ≠ env.locals) (N : News h₀ env.locals s.heap news) (hni : NoIt news) (hj : J 0 m₀ news)
    (turn : ∀ i k xv t m₁ news₁ h tk own, kvs[i]? = some (k, xv) → NoIt news₁ → J i m₁ news₁ → (∀ p ∈ own, p.1 = d ∨ p.2.cls = .type "dict_keyiterator") → DictAt w h d kvs →
      Fr h₀ env.locals h (fun y => if y = x then some (.str k t) else m₁ y) → News h₀ env.locals h (own ++ news₁) →
      wpAny (model PR w) A (execs body env) (LPost h₀ env.locals (J (i + 1)) own { s with heap := h, toks := tk } Q) E { s with heap := h, toks := tk })
    (done : ∀ m₁ news₁ h tk, J kvs.length m₁ news₁ → Fr h₀ env.locals h m₁ → News h₀ env.locals h news₁ → Q .next { s with heap := h, toks := tk }) :
    wpAny (model PR w) A (pyIter (.ref d)) (fun it s₂ => LoopAtV PR w A h₀ env x body Q E it s₂) E s := by
  obtain ⟨ep, hat⟩ := D.2.dictAt
  refine wpAny_pyIter_dict D.1 hat ?_
  have hne : d ≠ s.heap.objs.size := Nat.ne_of_lt hat.lt_size
  let J' : Nat → (Str → Option Value) → List (Addr × Obj) → Prop := fun i m₁ news₁ => NoIt news₁ ∧ J i m₁ news₁
  refine ⟨s.heap.objs.size, [s.heap.objs.size, d], [s.heap.objs.size], kvs.length, _, _, m₀, news, J', rfl, Walks.dictKeys (knd := PySem.strKind PR w) hh _ d hne kvs ep, ?_, ?_, ?_,
    ⟨⟨_, Heap.get?_push_size _ rfl, rfl, rfl⟩, hat.push _⟩, F.push _, (fun p hp => ⟨Heap.get?_push_of_some _ (N p hp).1, (N p hp).2⟩), ⟨hni, hj⟩, ?_, ?_⟩
  · intro hm
    rcases List.mem_cons.mp hm with e | hm
    · exact absurd F.ns.lt (e ▸ Nat.lt_irrefl _)
    · exact hL (List.mem_singleton.mp hm).symm
  · intro b hb
    rw [List.mem_singleton.mp hb]
    exact next_is_new F
  · intro p hp hI
    exact absurd (Heap.lt_size (N p hp).1) ((List.mem_singleton.mp hI) ▸ Nat.lt_irrefl _)
  · rintro i v m₁ news₁ s₁ own ⟨hh', tk', rfl⟩ hin ⟨k, xv, hx, hkey⟩ ⟨hno, hJ⟩ hoff hown hget hall hst F₁ N₁
    obtain ⟨oi, hoi, hci, hdi⟩ := hst.1
    obtain ⟨t, rfl⟩ := Value.isStrOf_shape hkey
    have hown' : ∀ p ∈ own, p.1 = d ∨ p.2.cls = .type "dict_keyiterator" := by
      intro p hp
      rcases List.mem_cons.mp (hown p hp) with e | e
      · right
        have e2 := hget p hp
        rw [e] at e2
        simp only at hoi e2
        rw [hoi] at e2
        cases e2
        exact hci
      · exact .inl (List.mem_singleton.mp e)
    have hIown : (s.heap.objs.size, oi) ∈ own := hall _ (.head _) (next_is_new F) oi hoi
    refine wpAny_mono (turn i k xv t m₁ news₁ hh' tk' own hx hno hJ hown' ⟨D.1, hst.2.dictOf⟩ F₁ N₁) (fun f s₂ p => ?_) fun _ _ e => e
    have fin : (∃ h' tk m' news', s₂ = { ({ s with heap := hh', toks := tk' } : Shared) with heap := h', toks := tk } ∧ Fr h₀ env.locals h' m' ∧ News h₀ env.locals h' (own ++ news') ∧ NoIt news' ∧ J (i + 1) m' news') →
        LoopStepU h₀ env.locals [s.heap.objs.size] own (J' (i + 1)) { s with heap := hh', toks := tk' } .next s₂ := by
      rintro ⟨h', tk, m', news', e, F', N', hn, hm⟩
      refine ⟨rfl, h', tk, m', news', e, F', N', fun p hp hq => ?_, hn, hm⟩
      have hpI := List.mem_singleton.mp hq
      have e1 := news_eq N' (List.mem_append_left _ hIown) (List.mem_append_right _ (by rw [← hpI]; exact hp : (s.heap.objs.size, p.2) ∈ news'))
      exact (hn p hp).2.2 (e1 ▸ hci)
    cases f with
    | ret v => exact .ret p
    | brk => exact .brk p
    | next => exact .next (fin p)
    | cont => exact .cont (fin p)
  · rintro h' tk m' news' F' N' _ ⟨_, hJ⟩
    exact done m' news' h' tk hJ F' N'
end
def noMark (k : Str) : Bool := (k != Str.ofString "_emphasis") && (k != Str.ofString "_autolink")
def strip (kvs : List (Str × Value)) : List (Str × Value) := kvs.filter fun p => noMark p.1
theorem strip_snoc (l : List (Str × Value)) (k : Str) (v : Value) : strip (l ++ [(k, v)]) = strip l ++ (if noMark k then [(k, v)] else []) := by
  simp only [strip, List.filter_append, List.filter_cons, List.filter_nil]
theorem stored_new {kvs : List (Str × Value)} {k : Str} {v : Value} (h : k ∉ kvs.map (·.1)) : stored kvs k v = kvs ++ [(k, v)] := by
  unfold stored
  rw [if_neg]
  intro q
  obtain ⟨p, hp, e⟩ := List.any_eq_true.mp q
  exact h (List.mem_map.mpr ⟨p, hp, by simpa using e⟩)
theorem nodup_take {kvs : List (Str × Value)} {i : Nat} {k : Str} {v : Value} (hn : (kvs.map (·.1)).Nodup) (e : kvs[i]? = some (k, v)) : k ∉ (kvs.take i).map (·.1) := by
  intro hm
  rw [List.map_take] at hm
  obtain ⟨j, hj, q⟩ := List.mem_iff_getElem.mp hm
  have hi : i < (kvs.map (·.1)).length := by
    have := List.getElem?_eq_some_iff.mp e
    rw [List.length_map]; exact this.1
  have hj' : j < i := by rw [List.length_take] at hj; omega
  have q1 : (kvs.map (·.1))[i] = k := by
    obtain ⟨_, h2⟩ := List.getElem?_eq_some_iff.mp e
    simp [h2]
  rw [List.getElem_take] at q
  exact List.pairwise_iff_getElem.mp hn j i (by omega) hi hj' (q.trans q1.symm)
theorem valueAt_get {kvs : List (Str × Value)} {i : Nat} {k : Str} {v : Value} (hn : (kvs.map (·.1)).Nodup) (e : kvs[i]? = some (k, v)) : valueAt kvs k = some v := by
  unfold valueAt
  induction kvs generalizing i with
  | nil => simp at e
  | cons p r ih =>
    rw [List.find?_cons]
    cases i with
    | zero =>
      simp only [List.getElem?_cons_zero, Option.some.injEq] at e
      subst e
      simp
    | succ i =>
      simp only [List.getElem?_cons_succ] at e
      have hk : p.1 ≠ k := by
        intro q
        simp only [List.map_cons, List.nodup_cons] at hn
        exact hn.1 (q ▸ List.mem_map.mpr ⟨_, List.mem_of_getElem? e, rfl⟩)
      rw [decide_eq_false hk]
      exact ih (by simp only [List.map_cons, List.nodup_cons] at hn; exact hn.2) e
theorem DictAt.nodup {w : World} {h : Heap} {a : Addr} {kvs : List (Str × Value)} (D : DictAt w h a kvs) : (kvs.map (·.1)).Nodup := let ⟨_, _, _, _, _, _, _, _, hn⟩ := D.2; hn
theorem DictAt.lt {w : World} {h : Heap} {a : Addr} {kvs : List (Str × Value)} (D : DictAt w h a kvs) : a < h.objs.size := let ⟨_, _, _, ho, _⟩ := D.2; Heap.lt_size ho
theorem DictAt.some {w : World} {h : Heap} {a : Addr} {kvs : List (Str × Value)} (D : DictAt w h a kvs) : ∃ o, h.get? a = some o := let ⟨_, _, _, ho, _⟩ := D.2; ⟨_, ho⟩

def words : List Str := [Str.ofString "", Str.ofString "a", Str.ofString "&", Str.ofString "b&", Str.ofString "amp;", Str.ofString "#35;", Str.ofString "#x2F;", Str.ofString "#X2f;", Str.ofString "#12345678;", Str.ofString "#;", Str.ofString "#xg;", Str.ofString "q r;", Str.ofString "é;", Str.ofString "*", Str.ofString "c_d", Str.ofString "z"]
def WordsAre (vs : List Value) : Prop := vs.length = 16 ∧ ∀ v ∈ vs, ∃ x t, v = Value.str x t ∧ x ∈ words

inductive Tk where
  | text (md : Option Bool) (raw : Str)
  | obj (ty : Str) (rest : List (Str × Value))

/-- what stands behind the kind in a thing that is no text -/
inductive ObjRest : List (Str × Value) → Prop
  | nil : ObjRest []
  | raw (x : Str) (t : PySem.Tok) : ObjRest [(Str.ofString "raw", .str x t)]
  | link (a b : Addr) : ObjRest [(Str.ofString "children", .ref a), (Str.ofString "attrs", .ref b)]
  | auto (a b : Addr) (x : Str) (t : PySem.Tok) : ObjRest [(Str.ofString "children", .ref a), (Str.ofString "attrs", .ref b), (Str.ofString "_autolink", .str x t)]
inductive TkIs : List (Str × Value) → Tk → Prop
  | text0 (t1 t2 : PySem.Tok) (raw : Str) : TkIs [(Str.ofString "type", .str (Str.ofString "text") t1), (Str.ofString "raw", .str raw t2)] (.text none raw)
  | text1 (t1 t2 : PySem.Tok) (raw : Str) (b : Bool) : TkIs [(Str.ofString "type", .str (Str.ofString "text") t1), (Str.ofString "raw", .str raw t2), (Str.ofString "_emphasis", .bool b)] (.text (some b) raw)
  | obj (t : PySem.Tok) (ty : Str) (rest : List (Str × Value)) (h : (ty == Str.ofString "text") = false) (hr : ObjRest rest) : TkIs ((Str.ofString "type", .str ty t) :: rest) (.obj ty rest)

def AllNe (d : Addr) : List (Addr × Obj) → Prop
  | [] => True
  | p :: r => @Ne Nat p.1 d ∧ AllNe d r
theorem allNe_of {d : Addr} : ∀ {l : List (Addr × Obj)}, (∀ p ∈ l, p.1 ≠ d) → AllNe d l
  | [], _ => trivial
  | p :: _, h => ⟨h p (.head _), allNe_of fun q hq => h q (.tail _ hq)⟩
section
variable {w : World} {A : Around} {E : Value → Shared → Prop} {s : Shared} {p : Program} {loose : List Str} {mean : ExcName → Option Value} {mg mb : Str → Option Value}
  {h₀ : Heap} {L : Addr} {m : Str → Option Value} {news : List (Addr × Obj)} {g : Obj → List (Addr × Obj)}
theorem fr_stays {h h' : Heap} (F : Fr h₀ L h m) (k : h.StaysIn h') : Fr h₀ L h' m := ⟨F.ns.keeps k, fun b o e => k b o (F.keep b o e), F.above⟩
theorem news_stays {h h' : Heap} (N : News h₀ L h news) (k : h.StaysIn h') : News h₀ L h' news := fun p hp => ⟨k _ _ (N p hp).1, (N p hp).2⟩
/-- a new thing onto the ledger -/
theorem news_born {h h' : Heap} {r : Addr} {o : Obj} (F : Fr h₀ L h m) (N : News h₀ L h news) (k : h.StaysIn h') (e : h'.get? r = some o) (hn : h.get? r = none) : News h₀ L h' ((r, o) :: news) := fun p hp => by
  rcases List.mem_cons.mp hp with rfl | hp
  · refine ⟨e, fun q => ?_, ?_⟩
    · obtain ⟨oL, _, _, hL, _⟩ := F.ns
      simp only at q
      rw [q, hL] at hn; cases hn
    · cases q : h₀.get? r with
      | none => rfl
      | some o' => have := F.keep _ _ q; rw [hn] at this; cases this
  · exact news_stays N k p hp
theorem news_ne {h : Heap} {r : Addr} (N : News h₀ L h news) (hn : h.get? r = none) : ∀ p ∈ news, p.1 ≠ r := fun p hp q => by
  have := (N p hp).1; rw [q, hn] at this; cases this
/-- box may turn, all else stays -/
theorem hide_use {box : Addr} {o : Obj} (F : Fr h₀ L s.heap m) (N : News h₀ L s.heap news) (U : UpdF box o news g) :
    h₀.StaysIn (s.heap.hide box) ∧ (s.heap.hide box).StaysIn s.heap ∧ (s.heap.hide box).objs.size = s.heap.objs.size ∧ (∀ p ∈ [(box, o)], s.heap.get? p.1 = some p.2 ∧ (s.heap.hide box).get? p.1 = none) ∧
    ∀ h' o', (s.heap.hide box).StaysIn h' → h'.get? box = some o' → Fr h₀ L h' m ∧ News h₀ L h' (g o') := by
  obtain ⟨pre, post, rfl, hg, a, b⟩ := U.split
  have hm := N (box, o) (List.mem_append_right _ (.head _))
  have hb0 : ∀ c o', h₀.get? c = some o' → c ≠ box := fun c o' e q => by rw [q, hm.2.2] at e; cases e
  have st : h₀.StaysIn (s.heap.hide box) := fun c o' e => (Heap.hide_ne _ (hb0 c o' e)).trans (F.keep c o' e)
  refine ⟨st, fun c o' e => Heap.of_hide e, Heap.hide_size _ _, fun p hp => ?_, fun h' o' k e => ⟨⟨?_, fun c oc ec => k _ _ (st c oc ec), F.above⟩, fun p hp => ?_⟩⟩
  · cases List.mem_singleton.mp hp
    exact ⟨hm.1, Heap.hide_self _ _⟩
  · exact F.ns.at' fun oL eL => k _ _ ((Heap.hide_ne _ (Ne.symm hm.2.1)).trans eL)
  · rw [hg] at hp
    rcases List.mem_append.mp hp with q | q
    · exact ⟨k _ _ ((Heap.hide_ne _ (a p q)).trans (N p (List.mem_append_left _ q)).1), (N p (List.mem_append_left _ q)).2⟩
    · rcases List.mem_cons.mp q with rfl | q
      · exact ⟨e, hm.2⟩
      · exact ⟨k _ _ ((Heap.hide_ne _ (b p q)).trans (N p (List.mem_append_right _ (.tail _ q))).1), (N p (List.mem_append_right _ (.tail _ q))).2⟩
theorem hide_none {h : Heap} {r box : Addr} (e : (h.hide box).get? r = none) (hr : r ≠ box) : h.get? r = none := by rw [Heap.hide_ne _ hr] at e; exact e
end
section
variable {prog : Program} {w : World} {h₀ h : Heap} {L : Addr} {m : Str → Option Value} {news : List (Addr × Obj)}
theorem made_m {vs : List (Value × Value)} {P : Heap → Prop} (F : Fr h₀ L h m) (N : News h₀ L h news) (hbig : h₀.NoLimit) (hk : allStrKeys vs = true) (hn : ((strPairs vs).map (·.1)).Nodup)
    (k : ∀ h' o, Fr h₀ L h' m → News h₀ L h' ((h.objs.size, o) :: news) → (∀ p ∈ news, p.1 < h.objs.size) → (h.objs.size == sysModules) = false → o.IsDictOf (PySem.strKind prog w) (strPairs vs) → P h') :
    ∃ kvs, Carries (PySem.strKind prog w) vs kvs ∧ (h.push { cls := .type "dict", data := .dict #[] }).DictOf (PySem.strKind prog w) h.objs.size [] ∧
      ∀ h', h'.DictOf (PySem.strKind prog w) h.objs.size (merged [] kvs) → Heap.SameBut h.objs.size (h.push { cls := .type "dict", data := .dict #[] }) h' → P h' :=
  made_str F N hk hn fun h' o F' N' hd => k h' o F' N' (fun p hp => Heap.lt_size (N p hp).1) (F.notModules (modules_low hbig)) hd
end
/-- a place where the walk is to stop -/
def Halt (P : Prop) : Prop := P
theorem Halt.intro {P : Prop} (h : Halt P) : P := h

theorem anew2 : True ∧ True := by
  w_top off
  first | (walk1 <;> trivial) | exact ⟨trivial, trivial⟩
section
local macro_rules | `(tactic| walk_at "m ok") => `(tactic| (first
  | assumption
  | exact Ok.mono (by assumption) (by decide)
  | exact Ok.mono (Ok.deeper (by assumption) _) (by decide)
  | exact Ok.mono (Ok.in1 (Ok.deeper (by assumption) _)) (by decide)
  | exact Ok.mono (Ok.in1 (by assumption)) (by decide)))
local macro_rules | `(tactic| walk_at "m room") => `(tactic| exact Ok.room (by assumption))
local macro_rules | `(tactic| walk_at "m dict") => `(tactic| (first
  | exact DictAt.fr (by k_asm) (by k_asm)
  | exact DictAt.news (by k_asm) (by k_mem) (by k_asm) (by k_asm)))
local macro_rules | `(tactic| walk_at "getMethod ref") => `(tactic| (k_here; k_dflt (first
  | ((with_reducible show wpAny _ _ (getMethod (Value.ref _) (Str.ofString "get") _) _ _ _); refine meth_at PySem.F.slot_dict_get PySem.F.type_dict_get (by walk_at "m dict") ?_)
  | ((with_reducible show wpAny _ _ (getMethod (Value.ref _) (Str.ofString "copy") _) _ _ _); refine meth_at PySem.F.slot_dict_copy PySem.F.type_dict_copy (by walk_at "m dict") ?_)
  | ((with_reducible show wpAny _ _ (getMethod (Value.ref _) (Str.ofString "pop") _) _ _ _); refine meth_at PySem.F.slot_dict_pop PySem.F.type_dict_pop (by walk_at "m dict") ?_))))
local macro_rules | `(tactic| walk_at "call builtin:dict.get") => `(tactic| (k_here; k_dflt (refine' get2_at (by walk_at "m dict") ?v ?_; (case v => first | assumption | with_unfolding_all exact Eq.refl (Value.bool _) | rfl); k_whole)))
local macro_rules | `(tactic| walk_at "subscriptTail") => `(tactic| (k_here; (with_reducible show wpAny _ _ (subscriptTail _ _ (Value.ref _) (Value.str _ _)) _ _ _); k_dflt (refine' item_at (by walk_at "m dict") ?v ?_ ?hs; (case v => first | assumption | rfl); (case hs => with_unfolding_all rfl); k_whole)))
local macro_rules | `(tactic| walk_at "exec For") => `(tactic| (k_here; k_dflt (refine For_m (by k_asm) (by rfl) (by rfl) ?_ (by intro _; rfl) PassesOwn.never)))
local macro_rules | `(tactic| k_all) => `(tactic| assumption)
local macro_rules | `(tactic| walk_at "m sub") => `(tactic| (intro p9 hp9; simp only [List.mem_append, List.mem_cons, List.not_mem_nil, or_false, false_or] at hp9 ⊢; grind))
local macro_rules | `(tactic| walk_at "callWith") => `(tactic| ((with_reducible show wpAny _ _ (callWith _ (Value.builtin _) [_] (backTo _ (starEach (_ :: _) _)) []) _ _ _); refine callWith_method1 ?_))

section
variable {w : World} {A : Around} {E : Value → Shared → Prop} {s : Shared} {p : Program} {loose : List Str} {mean : ExcName → Option Value} {mg mb : Str → Option Value}
set_option maxHeartbeats 4000000 in
theorem spec_words {Q : Value → Shared → Prop} (hA : Ok A 0) (X : (hd.heap_39 w.params).In s.heap) (T : Top p loose mean mg mb s.heap)
    (ret : ∀ r h' tk n vs, s.heap.StaysIn h' → WordsAre vs → h'.get? r = some (listOf vs.toArray n) → s.heap.get? r = none → Q (.ref r) { s with heap := h', toks := tk }) :
    wpAny (model PR w) A (call (.ref 332) []) Q E s := by
  refine' enterN (news := []) (binds := []) ?kX ?kT ?kS ?kZ ?kN ?kO ?kC ?kR ?kB ?kL ?_ ?c1 ?c2 ?c3 ?c4
  case kX => assumption
  case kT => first | exact Top.nolimit (by assumption) | assumption
  case kO => k_is
  case kC => k_is
  case kR => exact Ok.room (by assumption)
  case kB => exact BindsTo.of_eq rfl
  case kL => exact locs rfl
  case c1 => exact rfl
  case c2 => exact rfl
  case c3 => exact rfl
  case c4 => decide
  case kS => exact fun _ _ e => e
  case kZ => exact Nat.le_refl _
  case kN => exact fun _ hp => nomatch hp
  intro L h tk F N hk hn
  try dsimp only
  try k_fold
  clear hk hn
  k_steps
  rename News _ _ _ _ => N'
  rename Fr _ _ _ _ => F'
  have z := N' _ (.head _)
  refine ret _ _ _ _ _ F'.keep ⟨rfl, ?_⟩ z.1 z.2.2
  simp [words]
end

section
variable {w : World} {A : Around} {E : Value → Shared → Prop} {s : Shared} {p : Program} {loose : List Str} {mean : ExcName → Option Value} {mg mb : Str → Option Value}
set_option maxHeartbeats 4000000 in
theorem spec_draw {Q : Value → Shared → Prop} {h₀ : Heap} {box sc : Addr} {vs : List Value} {ns : List Int} {place acc size : Int} {tp ta ts : PySem.Tok} {n : Nat}
    (hA : Ok A 0) (X : (hd.heap_39 w.params).In h₀) (T : Top p loose mean mg mb h₀) (hsub : ∀ b o, h₀.get? b = some o → s.heap.get? b = some o) (hsz : h₀.objs.size ≤ s.heap.objs.size)
    (hs : h₀.IsList sc vs.toArray) (hi : IntsAre vs ns) (hlen : ns.length ≤ 63)
    (hb : ∀ p ∈ [(box, listOf #[.ref sc, .int place tp, .int acc ta] n)], s.heap.get? p.1 = some p.2 ∧ h₀.get? p.1 = none)
    (ha0 : 0 ≤ acc) (ha1 : acc < 2147483647) (hs0 : 0 < size) (hs1 : size ≤ 100)
    (ret : ∀ k t acc' tp' ta' h' tk, 0 ≤ k → k < size → 0 ≤ acc' → acc' < 2147483647 → h₀.StaysIn h' → h'.get? box = some (listOf #[.ref sc, .int (place + 1) tp', .int acc' ta'] n) →
      Q (.int k t) { s with heap := h', toks := tk }) :
    wpAny (model PR w) A (call (.ref 339) [.ref box, .int size ts]) Q E s := by
  refine' enterN (news := [(box, listOf #[.ref sc, .int place tp, .int acc ta] n)]) (binds := [(Str.ofString "box", .ref box), (Str.ofString "size", .int size ts)]) ?kX ?kT ?kS ?kZ ?kN ?kO ?kC ?kR ?kB ?kL ?_ ?c1 ?c2 ?c3 ?c4
  case kX => assumption
  case kT => first | exact Top.nolimit (by assumption) | assumption
  case kO => k_is
  case kC => k_is
  case kR => exact Ok.room (by assumption)
  case kB => exact BindsTo.of_eq rfl
  case kL => exact locs rfl
  case c1 => exact rfl
  case c2 => exact rfl
  case c3 => exact rfl
  case c4 => decide
  case kS => assumption
  case kZ => assumption
  case kN => assumption
  intro L h tk F N hk hn
  try dsimp only
  try k_fold
  clear hk hn
  k_steps
  all_goals (dsimp only [qk]; rename News _ _ _ _ => N'; rename Fr _ _ _ _ => F'; (try dsimp only at N'); have z := N' _ (.head _))
  all_goals (refine ret _ _ _ _ _ _ _ (Int.fmod_nonneg_of_pos _ hs0) (Int.fmod_lt_of_pos _ hs0) ?_ ?_ F'.keep z.1)
  all_goals first | exact Int.fmod_nonneg_of_pos _ (by decide) | exact Int.fmod_lt_of_pos _ (by decide)
end

section
variable {w : World} {A : Around} {E : Value → Shared → Prop} {s : Shared} {p : Program} {loose : List Str} {mean : ExcName → Option Value} {mg mb : Str → Option Value}
  {h₀ : Heap} {L : Addr} {m : Str → Option Value} {news : List (Addr × Obj)} {g : Obj → List (Addr × Obj)}
theorem use_words {Q : Value → Shared → Prop} (hA : Ok A 0) (X : (hd.heap_39 w.params).In h₀) (T : Top p loose mean mg mb h₀) (F : Fr h₀ L s.heap m) (N : News h₀ L s.heap news)
    (ret : ∀ r h' tk n vs, WordsAre vs → Fr h₀ L h' m → News h₀ L h' ((r, listOf vs.toArray n) :: news) → (∀ p ∈ news, p.1 ≠ r) → Q (.ref r) { s with heap := h', toks := tk }) :
    wpAny (model PR w) A (call (.ref 332) []) Q E s :=
  spec_words hA (X.keeps F.keep) (T.keeps F.keep) fun r h' tk n vs k W e hn => ret r h' tk n vs W (fr_stays F k) (news_born F N k e hn) (news_ne N hn)
theorem use_draw {Q : Value → Shared → Prop} {box sc : Addr} {vs : List Value} {ns : List Int} {place acc size : Int} {tp ta ts : PySem.Tok} {n : Nat} (hA : Ok A 0) (X : (hd.heap_39 w.params).In h₀) (T : Top p loose mean mg mb h₀)
    (F : Fr h₀ L s.heap m) (N : News h₀ L s.heap news) (U : UpdF box (listOf #[.ref sc, .int place tp, .int acc ta] n) news g)
    (hs : h₀.IsList sc vs.toArray) (hi : IntsAre vs ns) (hlen : ns.length ≤ 63) (ha0 : 0 ≤ acc) (ha1 : acc < 2147483647) (hs0 : 0 < size) (hs1 : size ≤ 100)
    (ret : ∀ k t pl' acc' tp' ta' h' tk, 0 ≤ k → k < size → 0 ≤ acc' → acc' < 2147483647 → Fr h₀ L h' m → News h₀ L h' (g (listOf #[.ref sc, .int pl' tp', .int acc' ta'] n)) →
      Q (.int k t) { s with heap := h', toks := tk }) :
    wpAny (model PR w) A (call (.ref 339) [.ref box, .int size ts]) Q E s := by
  obtain ⟨s1, s2, s3, s4, s5⟩ := hide_use F N U
  exact spec_draw hA (X.keeps s1) (T.keeps s1) s2 (Nat.le_of_eq s3) (hs.at fun o e => s1 _ _ e) hi hlen s4 ha0 ha1 hs0 hs1 fun k t acc' tp' ta' h' tk k0 k1 a0 a1 st e =>
    let ⟨F', N'⟩ := s5 h' _ st e
    ret k t _ acc' tp' ta' h' tk k0 k1 a0 a1 F' N'
theorem item_words {r : Addr} {n : Nat} {vs : List Value} {k : Int} {u : PySem.Tok} {value slice : Expr} {Q : Value → Shared → Prop} (N : News h₀ L s.heap news) (hm : (r, listOf vs.toArray n) ∈ news) (W : WordsAre vs) (h0 : 0 ≤ k) (h1 : k < 16)
    (h : ∀ x t, x ∈ words → Q (.str x t) s)
    (hs : subscripted slice false (.ref r) (.int k u) = operate [.ref r, .int k u] (getItem (.ref r) (.int k u)) := by with_unfolding_all rfl) :
    wpAny (model PR w) A (subscriptTail value slice (.ref r) (.int k u)) Q E s := by
  have hl : s.heap.IsList r vs.toArray := ⟨_, (N _ hm).1, rfl, n, rfl⟩
  have hlt : k.toNat < vs.length := by rw [W.1]; omega
  obtain ⟨x, t, e, hx⟩ := W.2 _ (List.getElem_mem hlt)
  refine tail_any hl.typeIs slot_list_getitem.lookup (wpAny_getItem_list hl h0 (by omega) (x := .str x t) (by simp [hlt, e]) (h x t hx)) hs
end

end
theorem anew3 : True ∧ True := by
  w_top off
  first | (walk1 <;> trivial) | exact ⟨trivial, trivial⟩
section
local macro_rules | `(tactic| walk_at "m ok") => `(tactic| (first
  | assumption
  | exact Ok.mono (by assumption) (by decide)
  | exact Ok.mono (Ok.deeper (by assumption) _) (by decide)
  | exact Ok.mono (Ok.in1 (Ok.deeper (by assumption) _)) (by decide)
  | exact Ok.mono (Ok.in1 (by assumption)) (by decide)))
local macro_rules | `(tactic| walk_at "m room") => `(tactic| exact Ok.room (by assumption))
local macro_rules | `(tactic| walk_at "m dict") => `(tactic| (first
  | exact DictAt.fr (by k_asm) (by k_asm)
  | exact DictAt.news (by k_asm) (by k_mem) (by k_asm) (by k_asm)))
local macro_rules | `(tactic| walk_at "getMethod ref") => `(tactic| (k_here; k_dflt (first
  | ((with_reducible show wpAny _ _ (getMethod (Value.ref _) (Str.ofString "get") _) _ _ _); refine meth_at PySem.F.slot_dict_get PySem.F.type_dict_get (by walk_at "m dict") ?_)
  | ((with_reducible show wpAny _ _ (getMethod (Value.ref _) (Str.ofString "copy") _) _ _ _); refine meth_at PySem.F.slot_dict_copy PySem.F.type_dict_copy (by walk_at "m dict") ?_)
  | ((with_reducible show wpAny _ _ (getMethod (Value.ref _) (Str.ofString "pop") _) _ _ _); refine meth_at PySem.F.slot_dict_pop PySem.F.type_dict_pop (by walk_at "m dict") ?_))))
local macro_rules | `(tactic| walk_at "call builtin:dict.get") => `(tactic| (k_here; k_dflt (refine' get2_at (by walk_at "m dict") ?v ?_; (case v => first | assumption | with_unfolding_all exact Eq.refl (Value.bool _) | rfl); k_whole)))
local macro_rules | `(tactic| walk_at "subscriptTail") => `(tactic| (k_here; (with_reducible show wpAny _ _ (subscriptTail _ _ (Value.ref _) (Value.str _ _)) _ _ _); k_dflt (refine' item_at (by walk_at "m dict") ?v ?_ ?hs; (case v => first | assumption | rfl); (case hs => with_unfolding_all rfl); k_whole)))
local macro_rules | `(tactic| walk_at "exec For") => `(tactic| (k_here; k_dflt (refine For_m (by k_asm) (by rfl) (by rfl) ?_ (by intro _; rfl) PassesOwn.never)))
local macro_rules | `(tactic| k_all) => `(tactic| assumption)
local macro_rules | `(tactic| walk_at "m sub") => `(tactic| (intro p9 hp9; simp only [List.mem_append, List.mem_cons, List.not_mem_nil, or_false, false_or] at hp9 ⊢; grind))
local macro_rules | `(tactic| walk_at "callWith") => `(tactic| ((with_reducible show wpAny _ _ (callWith _ (Value.builtin _) [_] (backTo _ (starEach (_ :: _) _)) []) _ _ _); refine callWith_method1 ?_))

local macro_rules | `(tactic| walk_at "Exists") => `(tactic| (k_here; (refine made_m (by k_asm) (by first | k_asm | exact News.nil) (Top.nolimit (by k_asm)) (by rfl) (of_decide_eq_true (by rfl)) ?_; intro h' o' F' N' l1 lo' hd'; (try k_lt l1); (try dsimp only at N'); (try dsimp only))))
local macro_rules | `(tactic| walk_at "call ref") => `(tactic| (k_here; (with_reducible show wpAny _ _ (call (Value.ref 332) _) _ _ _); k_dflt (refine' use_words ?kA ?kX ?kT ?kF ?kN ?_; (case kA => walk_at "m ok"); (case kX => k_asm); (case kT => k_asm); (case kF => k_asm); (case kN => k_asm); k_whole); intro r' h' tk' n' vs' W' F' N' l1; (try (replace l1 := allNe_of l1; simp only [AllNe, and_true] at l1)); (try k_sweep)))
local macro_rules | `(tactic| walk_at "call ref") => `(tactic| (k_here; (with_reducible show wpAny _ _ (call (Value.ref 339) _) _ _ _); k_dflt (refine' use_draw ?kA ?kX ?kT ?kF ?kN ?kU ?kS ?kI ?kL ?k0 ?k1 ?k2 ?k3 ?_; (case kA => walk_at "m ok"); (case kX => k_asm); (case kT => k_asm); (case kF => k_asm); (case kN => k_asm); (case kU => k_updF); (case kS => assumption); (case kI => assumption); (case kL => first | assumption | omega); (case k0 => first | decide | assumption); (case k1 => first | decide | assumption); (case k2 => decide); (case k3 => decide); k_whole); intro k' t' pl' acc' tp' ta' h' tk' k0' k1' a0' a1' F' N'; (try dsimp only at N'); (try k_sweep)))
local macro_rules | `(tactic| walk_at "subscriptTail") => `(tactic| (k_here; (with_reducible show wpAny _ _ (subscriptTail _ _ (Value.ref _) (Value.int _ _)) _ _ _); k_dflt (refine' item_words ?kN ?kM ?kW ?k0 ?k1 ?_ ?kS; (case kW => assumption); (case kN => k_asm); (case kM => k_mem); (case k0 => assumption); (case k1 => assumption); (case kS => with_unfolding_all rfl)); intro x' t' hx'))

def TkWord : Tk → Prop
  | .text _ raw => raw ∈ words
  | .obj _ _ => True
section
variable {w : World} {A : Around} {E : Value → Shared → Prop} {s : Shared} {p : Program} {loose : List Str} {mean : ExcName → Option Value} {mg mb : Str → Option Value}
set_option maxHeartbeats 8000000 in
theorem spec_token {Q : Value → Shared → Prop} {h₀ : Heap} {box sc : Addr} {vs : List Value} {ns : List Int} {place acc : Int} {tp ta : PySem.Tok} {n : Nat}
    (hA : Ok A 1) (X : (hd.heap_39 w.params).In h₀) (T : Top p loose mean mg mb h₀) (hsub : ∀ b o, h₀.get? b = some o → s.heap.get? b = some o) (hsz : h₀.objs.size ≤ s.heap.objs.size)
    (hs : h₀.IsList sc vs.toArray) (hi : IntsAre vs ns) (hlen : ns.length ≤ 63)
    (hb : ∀ p ∈ [(box, listOf #[.ref sc, .int place tp, .int acc ta] n)], s.heap.get? p.1 = some p.2 ∧ h₀.get? p.1 = none)
    (ha0 : 0 ≤ acc) (ha1 : acc < 2147483647)
    (ret : ∀ a o kvs tkn pl' acc' tp' ta' h' tk, 0 ≤ acc' → acc' < 2147483647 → h₀.StaysIn h' → h'.get? box = some (listOf #[.ref sc, .int pl' tp', .int acc' ta'] n) →
      h'.get? a = some o → a ≠ box → h₀.get? a = none → (a == sysModules) = false → o.IsDictOf (PySem.strKind PR w) kvs → TkIs kvs tkn → TkWord tkn → Q (.ref a) { s with heap := h', toks := tk }) :
    wpAny (model PR w) A (call (.ref 346) [.ref box]) Q E s := by
  refine' enterN (news := [(box, listOf #[.ref sc, .int place tp, .int acc ta] n)]) (binds := [(Str.ofString "box", .ref box)]) ?kX ?kT ?kS ?kZ ?kN ?kO ?kC ?kR ?kB ?kL ?_ ?c1 ?c2 ?c3 ?c4
  case kX => assumption
  case kT => first | exact Top.nolimit (by assumption) | assumption
  case kO => k_is
  case kC => k_is
  case kR => exact Ok.room (by assumption)
  case kB => exact BindsTo.of_eq rfl
  case kL => exact locs rfl
  case c1 => exact rfl
  case c2 => exact rfl
  case c3 => exact rfl
  case c4 => decide
  case kS => assumption
  case kZ => assumption
  case kN => assumption
  intro L h tk F N hk hn
  try dsimp only
  try k_fold
  clear hk hn
  k_steps
  all_goals ((try dsimp only [qk]); rename News _ _ _ _ => N'; rename Fr _ _ _ _ => F')
  all_goals (refine' ret _ _ _ _ _ _ _ _ _ _ (by assumption) (by assumption) F'.keep (News.get N' (by k_mem)) (News.get N' (by k_mem)) (by k_ne) (News.fresh N' (by k_mem)) (by assumption) (by k_asm) ?_ ?_; rotate_left)
  all_goals (first
    | exact TkIs.text0 _ _ _
    | exact TkIs.text1 _ _ _ _
    | (refine TkIs.obj _ _ _ ?_ ?_; (· decide +kernel); first | exact ObjRest.nil | exact ObjRest.raw _ _ | exact ObjRest.link _ _ | exact ObjRest.auto _ _ _ _)
    | skip)
  all_goals (first | exact trivial | assumption | skip)
end

end
theorem anew4 : True ∧ True := by
  w_top off
  first | (walk1 <;> trivial) | exact ⟨trivial, trivial⟩
section
local macro_rules | `(tactic| walk_at "m ok") => `(tactic| (first
  | assumption
  | exact Ok.mono (by assumption) (by decide)
  | exact Ok.mono (Ok.deeper (by assumption) _) (by decide)
  | exact Ok.mono (Ok.in1 (Ok.deeper (by assumption) _)) (by decide)
  | exact Ok.mono (Ok.in1 (by assumption)) (by decide)))
local macro_rules | `(tactic| walk_at "m room") => `(tactic| exact Ok.room (by assumption))
local macro_rules | `(tactic| walk_at "m dict") => `(tactic| (first
  | exact DictAt.fr (by k_asm) (by k_asm)
  | exact DictAt.news (by k_asm) (by k_mem) (by k_asm) (by k_asm)))
local macro_rules | `(tactic| walk_at "getMethod ref") => `(tactic| (k_here; k_dflt (first
  | ((with_reducible show wpAny _ _ (getMethod (Value.ref _) (Str.ofString "get") _) _ _ _); refine meth_at PySem.F.slot_dict_get PySem.F.type_dict_get (by walk_at "m dict") ?_)
  | ((with_reducible show wpAny _ _ (getMethod (Value.ref _) (Str.ofString "copy") _) _ _ _); refine meth_at PySem.F.slot_dict_copy PySem.F.type_dict_copy (by walk_at "m dict") ?_)
  | ((with_reducible show wpAny _ _ (getMethod (Value.ref _) (Str.ofString "pop") _) _ _ _); refine meth_at PySem.F.slot_dict_pop PySem.F.type_dict_pop (by walk_at "m dict") ?_))))
local macro_rules | `(tactic| walk_at "call builtin:dict.get") => `(tactic| (k_here; k_dflt (refine' get2_at (by walk_at "m dict") ?v ?_; (case v => first | assumption | with_unfolding_all exact Eq.refl (Value.bool _) | rfl); k_whole)))
local macro_rules | `(tactic| walk_at "subscriptTail") => `(tactic| (k_here; (with_reducible show wpAny _ _ (subscriptTail _ _ (Value.ref _) (Value.str _ _)) _ _ _); k_dflt (refine' item_at (by walk_at "m dict") ?v ?_ ?hs; (case v => first | assumption | rfl); (case hs => with_unfolding_all rfl); k_whole)))
local macro_rules | `(tactic| walk_at "exec For") => `(tactic| (k_here; k_dflt (refine For_m (by k_asm) (by rfl) (by rfl) ?_ (by intro _; rfl) PassesOwn.never)))
local macro_rules | `(tactic| k_all) => `(tactic| assumption)
local macro_rules | `(tactic| walk_at "m sub") => `(tactic| (intro p9 hp9; simp only [List.mem_append, List.mem_cons, List.not_mem_nil, or_false, false_or] at hp9 ⊢; grind))
local macro_rules | `(tactic| walk_at "callWith") => `(tactic| ((with_reducible show wpAny _ _ (callWith _ (Value.builtin _) [_] (backTo _ (starEach (_ :: _) _)) []) _ _ _); refine callWith_method1 ?_))

local macro_rules | `(tactic| walk_at "Exists") => `(tactic| (k_here; (refine made_m (by k_asm) (by first | k_asm | exact News.nil) (Top.nolimit (by k_asm)) (by rfl) (of_decide_eq_true (by rfl)) ?_; intro h' o' F' N' l1 lo' hd'; (try k_lt l1); (try dsimp only at N'); (try dsimp only))))
local macro_rules | `(tactic| walk_at "call ref") => `(tactic| (k_here; (with_reducible show wpAny _ _ (call (Value.ref 332) _) _ _ _); k_dflt (refine' use_words ?kA ?kX ?kT ?kF ?kN ?_; (case kA => walk_at "m ok"); (case kX => k_asm); (case kT => k_asm); (case kF => k_asm); (case kN => k_asm); k_whole); intro r' h' tk' n' vs' W' F' N' l1; (try (replace l1 := allNe_of l1; simp only [AllNe, and_true] at l1)); (try k_sweep)))
local macro_rules | `(tactic| walk_at "call ref") => `(tactic| (k_here; (with_reducible show wpAny _ _ (call (Value.ref 339) _) _ _ _); k_dflt (refine' use_draw ?kA ?kX ?kT ?kF ?kN ?kU ?kS ?kI ?kL ?k0 ?k1 ?k2 ?k3 ?_; (case kA => walk_at "m ok"); (case kX => k_asm); (case kT => k_asm); (case kF => k_asm); (case kN => k_asm); (case kU => k_updF); (case kS => assumption); (case kI => assumption); (case kL => first | assumption | omega); (case k0 => first | decide | assumption); (case k1 => first | decide | assumption); (case k2 => decide); (case k3 => decide); k_whole); intro k' t' pl' acc' tp' ta' h' tk' k0' k1' a0' a1' F' N'; (try dsimp only at N'); (try k_sweep)))
local macro_rules | `(tactic| walk_at "subscriptTail") => `(tactic| (k_here; (with_reducible show wpAny _ _ (subscriptTail _ _ (Value.ref _) (Value.int _ _)) _ _ _); k_dflt (refine' item_words ?kN ?kM ?kW ?k0 ?k1 ?_ ?kS; (case kW => assumption); (case kN => k_asm); (case kM => k_mem); (case k0 => assumption); (case k1 => assumption); (case kS => with_unfolding_all rfl)); intro x' t' hx'))

def hasIn (S c : Str) : Bool := !(Builtin.Str.occurrences S c 0 S.length 1).isEmpty
def cFig (x : Str) (k : Int) : Bool := decide (k < x.length) && hasIn (Str.ofString "0123456789abcdefABCDEF") (Txt.item x k)
def cDig (x : Str) (k : Int) : Bool := decide (k < x.length) && hasIn (Str.ofString "0123456789") (Txt.item x k)
def cOth (x : Str) (k : Int) : Bool := decide (k < x.length) && !hasIn (Str.ofString "\t\n\x0c <&#;") (Txt.item x k)
def ff (c : Int → Bool) (a : Int) : Nat → Int
  | 0 => a
  | n + 1 => if c a then ff c (a + 1) n else a
theorem ff_eq {c : Int → Bool} {k K : Int} : ∀ (n : Nat) (a : Int), a ≤ k → (∀ j, a ≤ j → j < k → c j = true) → c k = false → k ≤ K → K - a ≤ n → k = ff c a n
  | 0, a, h1, _, _, h4, h5 => by unfold ff; omega
  | n + 1, a, h1, h2, h3, h4, h5 => by
    unfold ff
    by_cases e : a = k
    · subst e; rw [h3]; simp
    · rw [h2 a (Int.le_refl _) (by omega)]
      simp only [if_true]
      exact ff_eq n (a + 1) (by omega) (fun j hj => h2 j (by omega)) h3 h4 (by omega)
def isX (x : Str) : Bool := [Str.ofString "x", Str.ofString "X"].any fun y => y == Txt.slice x (some 1) (some 2)
def restFn (x : Str) : Bool :=
  if Txt.slice x none (some 1) == Str.ofString "#" then
    if isX x then decide (2 < ff (cFig x) 2 14) && Txt.slice x (some (ff (cFig x) 2 14)) (some (ff (cFig x) 2 14 + 1)) == Str.ofString ";"
    else decide (2 ≤ ff (cDig x) 1 15) && (decide (ff (cDig x) 1 15 ≤ 8) && Txt.slice x (some (ff (cDig x) 1 15)) (some (ff (cDig x) 1 15 + 1)) == Str.ofString ";")
  else decide (1 ≤ ff (cOth x) 0 16) && (decide (ff (cOth x) 0 16 ≤ 32) && Txt.slice x (some (ff (cOth x) 0 16)) (some (ff (cOth x) 0 16 + 1)) == Str.ofString ";")
def isRest (x : Str) : Bool := [Str.ofString "amp;", Str.ofString "#35;", Str.ofString "#x2F;", Str.ofString "#X2f;", Str.ofString "é;"].contains x
theorem rest_eq : ∀ x ∈ words, restFn x = isRest x := by decide +kernel
theorem words_len : ∀ x ∈ words, x.length ≤ 16 := by decide +kernel
section
variable {w : World} {A : Around} {E : Value → Shared → Prop} {s : Shared} {p : Program} {loose : List Str} {mean : ExcName → Option Value} {mg mb : Str → Option Value}
local macro_rules | `(tactic| walk_at "exec While BoolOp cons nil") => `(tactic| (k_here; with_reducible refine Halt.intro ?_))
set_option maxHeartbeats 8000000 in
theorem spec_rest {Q : Value → Shared → Prop} {t : PySem.Tok} {x : Str}
    (hA : Ok A 0) (X : (hd.heap_39 w.params).In s.heap) (T : Top p loose mean mg mb s.heap) (hx : x ∈ words)
    (ret : ∀ h' tk, s.heap.StaysIn h' → Q (.bool (isRest x)) { s with heap := h', toks := tk }) :
    wpAny (model PR w) A (call (.ref 353) [.str x t]) Q E s := by
  have ret' : ∀ b h' tk, b = restFn x → s.heap.StaysIn h' → Q (.bool b) { s with heap := h', toks := tk } := fun b h' tk e k => by
    rw [e, rest_eq x hx]; exact ret h' tk k
  clear ret
  have hl := words_len x hx
  refine' enterN (news := []) (binds := [(Str.ofString "words", .str x t)]) ?kX ?kT ?kS ?kZ ?kN ?kO ?kC ?kR ?kB ?kL ?_ ?c1 ?c2 ?c3 ?c4
  case kX => assumption
  case kT => first | exact Top.nolimit (by assumption) | assumption
  case kO => k_is
  case kC => k_is
  case kR => exact Ok.room (by assumption)
  case kB => exact BindsTo.of_eq rfl
  case kL => exact locs rfl
  case c1 => exact rfl
  case c2 => exact rfl
  case c3 => exact rfl
  case c4 => decide
  case kS => exact fun _ _ e => e
  case kZ => exact Nat.le_refl _
  case kN => exact fun _ hp => nomatch hp
  intro L h tk F N hk hn
  try dsimp only
  try k_fold
  clear hk hn
  k_steps
  all_goals (show wpAny _ _ (exec _ _) _ _ _; rename News _ _ _ _ => N1; rename Fr _ _ _ _ => F1)
  · with_unfolding_all refine While_up_asg (c := cFig x) (K := 16) F1 N1 (by rfl) ?_ ?_ ⟨by decide, by simp [cFig]; omega⟩ ?_
    · intro k t2 h2 tk2 hk2 F2 N2
      k_steps
      all_goals first | exact ⟨h2, _, rfl, fun _ _ e => e⟩ | (simp only [cFig, hasIn]; simp [*]; done) | (simp only [cFig, hasIn]; simp [*]; omega)
    · intro k t2 h2 tk2 hk2 hc F2 N2
      k_steps
    · intro k t2 h2 tk2 hk2 hkK hall hf _ F2 N2
      have hk := ff_eq (K := 16) 14 2 hk2 hall hf hkK (by decide)
      k_steps
      all_goals (
        (try dsimp only [qk])
        rename Fr _ _ _ _ => F3
        refine ret' _ _ _ ?_ F3.keep
        simp only [restFn, isX, ← hk]
        clear hk hall hf ret'
        first | (exfalso; omega) | simp [*])
  · with_unfolding_all refine While_up_asg (c := cDig x) (K := 16) F1 N1 (by rfl) ?_ ?_ ⟨by decide, by simp [cDig]; omega⟩ ?_
    · intro k t2 h2 tk2 hk2 F2 N2
      k_steps
      all_goals first | exact ⟨h2, _, rfl, fun _ _ e => e⟩ | (simp only [cDig, hasIn]; simp [*]; done) | (simp only [cDig, hasIn]; simp [*]; omega)
    · intro k t2 h2 tk2 hk2 hc F2 N2
      k_steps
    · intro k t2 h2 tk2 hk2 hkK hall hf _ F2 N2
      have hk := ff_eq (K := 16) 15 1 hk2 hall hf hkK (by decide)
      k_steps
      all_goals (
        (try dsimp only [qk])
        rename Fr _ _ _ _ => F3
        refine ret' _ _ _ ?_ F3.keep
        simp only [restFn, isX, ← hk]
        clear hk hall hf ret'
        first | (exfalso; omega) | simp [*])
  · with_unfolding_all refine While_up_asg (c := cOth x) (K := 16) F1 N1 (by rfl) ?_ ?_ ⟨by decide, by simp [cOth]; omega⟩ ?_
    · intro k t2 h2 tk2 hk2 F2 N2
      k_steps
      all_goals first | exact ⟨h2, _, rfl, fun _ _ e => e⟩ | (simp only [cOth, hasIn]; simp [*]; done) | (simp only [cOth, hasIn]; simp [*]; omega)
    · intro k t2 h2 tk2 hk2 hc F2 N2
      k_steps
    · intro k t2 h2 tk2 hk2 hkK hall hf _ F2 N2
      have hk := ff_eq (K := 16) 16 0 hk2 hall hf hkK (by decide)
      k_steps
      all_goals (
        (try dsimp only [qk])
        rename Fr _ _ _ _ => F3
        refine ret' _ _ _ ?_ F3.keep
        simp only [restFn, isX, ← hk]
        clear hk hall hf ret'
        first | (exfalso; omega) | simp [*])
end

namespace Rx
open PySem.Builtin PySem.Builtin.Re
theorem pa_pat : PlainAttrs "re.Pattern" :=
  ⟨⟨"object.__getattribute__", by rw [typeLookup_type, builtinLookup_eq_fast]; kernel_rfl, by decide +kernel⟩, by rw [typeLookup_type, builtinLookup_eq_fast]; kernel_rfl⟩
theorem slot_match : Slot "re.Pattern" "match" "re.Pattern.match" :=
  .of (owner := "re.Pattern") (n := "match") (by rw [typeLookup_type, builtinLookup_eq_fast]; kernel_rfl) (by decide +kernel) (by decide +kernel) (by decide +kernel)
    (by first | exact .inl (by decide +kernel) | exact .inr (by decide +kernel)) (by rw [isSubtype_type]; kernel_rfl)
theorem entry_match : entryFor table "re.Pattern.match" = some Builtin.«re.Pattern.match» := entryFor_of_tree (by kernel_rfl)
theorem args_match (a b : Value) : argsOk "re.Pattern.match" ⟨[a, b], []⟩ := by unfold argsOk; kernel_rfl
theorem type_match : typeOf (.builtin "re.Pattern.match") = pure (.type "method_descriptor") := by show builtinType _ = _; rw [builtinType_eq_fast]; kernel_rfl

def code : Array Nat := #[14, 4, 0, 2, 4294967295, 17, 0, 7, 18, 16, 35, 24, 10, 1, 7, 13, 5, 22, 48, 57, 0, 1, 16, 59, 15, 56, 31, 16, 35, 13, 6, 16, 120, 16, 88, 0, 24, 16, 1, 4294967295, 13, 11, 9, 0, 67043328, 126, 126, 0, 0, 0, 0, 0, 1, 16, 59, 15, 25, 23, 24, 17, 1, 32, 13, 12, 21, 9, 5632, 402653257, 0, 0, 0, 0, 0, 0, 0, 1, 16, 59, 15, 2, 0, 17, 1, 1]
def codeVals : Array Value := #[.int 14 0, .int 4 0, .int 0 0, .int 2 0, .int 4294967295 0, .int 17 0, .int 0 0, .int 7 0, .int 18 0, .int 16 0, .int 35 0, .int 24 0, .int 10 0, .int 1 0, .int 7 0, .int 13 0, .int 5 0, .int 22 0, .int 48 0, .int 57 0, .int 0 0, .int 1 0, .int 16 0, .int 59 0, .int 15 0, .int 56 0, .int 31 0, .int 16 0, .int 35 0, .int 13 0, .int 6 0, .int 16 0, .int 120 0, .int 16 0, .int 88 0, .int 0 0, .int 24 0, .int 16 0, .int 1 0, .int 4294967295 0, .int 13 0, .int 11 0, .int 9 0, .int 0 0, .int 67043328 0, .int 126 0, .int 126 0, .int 0 0, .int 0 0, .int 0 0, .int 0 0, .int 0 0, .int 1 0, .int 16 0, .int 59 0, .int 15 0, .int 25 0, .int 23 0, .int 24 0, .int 17 0, .int 1 0, .int 32 0, .int 13 0, .int 12 0, .int 21 0, .int 9 0, .int 5632 0, .int 402653257 0, .int 0 0, .int 0 0, .int 0 0, .int 0 0, .int 0 0, .int 0 0, .int 0 0, .int 1 0, .int 16 0, .int 59 0, .int 15 0, .int 2 0, .int 0 0, .int 17 0, .int 1 0, .int 1 0]
theorem codeVals_eq : (codeVals.map reRawOf).map (·.toNat) = code := by decide +kernel
def turnsOf : Nat → Sre.M → Sre.M
  | 0, m => m
  | k + 1, m => if (m.runFor 4).outcome.isSome then m.runFor 4 else turnsOf k (m.runFor 4)
def outc (m : Sre.M) : Nat := match m.outcome with
  | none => 0
  | some .matched => 1
  | some .failed => 2
  | some (.stuck _) => 3
def m0 (x : Str) : Sre.M := Sre.forMatch code x.cps 1 0 x.cps.size false false
def bad (m : Sre.M) : Bool := (List.range 1).any (fun g => match m.marks.getD (2 * g) none, m.marks.getD (2 * g + 1) none with | some b, some e => ((2 * g + 1 : Nat) : Int) ≤ m.lastmark && e < b | _, _ => false)
theorem outc_eq : ∀ x ∈ words, outc (turnsOf 40 (m0 x)) = if isRest x then 1 else 2 := by decide +kernel
theorem bad_eq : ∀ x ∈ words, bad (turnsOf 40 (m0 x)) = false := by decide +kernel

theorem m0_none : ∀ x ∈ words, (m0 x).outcome.isSome = false := by decide +kernel

section
variable {M : Model} {A : Around} {E : Value → Shared → Prop} {s : Shared}
theorem drive {Q : Sre.M → Shared → Prop} : ∀ (k turns : Nat) (m : Sre.M), k ≤ turns → (turnsOf k m).outcome.isSome = true → m.outcome.isSome = false → Q (turnsOf k m) s → wpAny M A (reDrive turns m) Q E s
  | 0, _, m, _, h, h0, _ => by unfold turnsOf at h; rw [h0] at h; cases h
  | k + 1, 0, _, h, _, _, _ => absurd h (by omega)
  | k + 1, turns + 1, m, hk, h, _, hq => by
    unfold reDrive
    unfold turnsOf at h hq
    dsimp only [reTurnSteps]
    by_cases e : (m.runFor 4).outcome.isSome = true
    · rw [if_pos e] at hq ⊢
      exact wpAny_pure hq
    · rw [if_neg e] at h hq ⊢
      exact wpAny_bind (wpAny_rule (drive k turns _ (by omega) h (by simpa using e) hq))
theorem marks {m : Sre.M} {Q : PUnit → Shared → Prop} (h : Q ⟨⟩ s) : ∀ l : List Nat, wpAny M A (forIn l PUnit.unit fun i (_ : PUnit) => (do
      if m.seen.has i = true then (do rule (Sre.names.getD i ""); pure (ForInStep.yield PUnit.unit)) else pure (ForInStep.yield PUnit.unit) : Sem (ForInStep PUnit))) Q E s
  | [] => wpAny_pure h
  | i :: r => by
    rw [List.forIn_cons]
    refine wpAny_bind ?_
    by_cases e : m.seen.has i = true
    · rw [if_pos e]
      exact wpAny_bind (wpAny_rule (wpAny_pure (marks h r)))
    · rw [if_neg e]
      exact wpAny_pure (marks h r)
theorem toEnd {m : Sre.M} {Q : Option Sre.M → Shared → Prop} (h0 : m.outcome.isSome = false) (h : (outc (turnsOf 40 m) = 1 ∧ Q (some (turnsOf 40 m)) s) ∨ (outc (turnsOf 40 m) = 2 ∧ Q none s)) : wpAny M A (reRunToEnd m) Q E s := by
  unfold reRunToEnd
  refine wpAny_bind (drive 40 _ m (by decide) ?_ h0 ?_)
  · rcases h with ⟨h, _⟩ | ⟨h, _⟩ <;> (unfold outc at h; revert h; cases (turnsOf 40 m).outcome <;> simp)
  · refine wpAny_bind (marks ?_ _)
    unfold outc at h
    revert h
    cases e : (turnsOf 40 m).outcome with
    | none => simp
    | some o => cases o with
      | matched => intro h; simp at h; exact wpAny_pure h
      | failed => intro h; simp at h; exact wpAny_pure h
      | stuck y => simp
theorem newMatch {m : Sre.M} {Q : Value → Shared → Prop} {p x : Value} {pos lim : Nat} (hb : bad m = false) (h : ∀ r h', s.heap.StaysIn h' → Q (.ref r) { s with heap := h' }) :
    wpAny M A (reNewMatch p x 1 pos lim m) Q E s := by
  unfold reNewMatch
  dsimp only
  rw [if_neg (by show ¬ (bad m = true); rw [hb]; exact Bool.false_ne_true)]
  refine wpAny_bind (wpAny_newObj_type (wpAny_newObj_type (h _ _ fun b o e => Heap.get?_push_of_some _ (Heap.get?_push_of_some _ e)) ?_) ?_)
  · show (_ : Nat) ≤ _
    simp [sizeLine]
  · show (_ : Nat) ≤ _
    rw [List.size_toArray, show List.range 1 = [0] from rfl, List.flatMap_cons, List.flatMap_nil, List.append_nil, sizeLine_eq]
    split <;> simp
end
end Rx

end
theorem anew5 : True ∧ True := by
  w_top off
  first | (walk1 <;> trivial) | exact ⟨trivial, trivial⟩
section
local macro_rules | `(tactic| walk_at "m ok") => `(tactic| (first
  | assumption
  | exact Ok.mono (by assumption) (by decide)
  | exact Ok.mono (Ok.deeper (by assumption) _) (by decide)
  | exact Ok.mono (Ok.in1 (Ok.deeper (by assumption) _)) (by decide)
  | exact Ok.mono (Ok.in1 (by assumption)) (by decide)))
local macro_rules | `(tactic| walk_at "m room") => `(tactic| exact Ok.room (by assumption))
local macro_rules | `(tactic| walk_at "m dict") => `(tactic| (first
  | exact DictAt.fr (by k_asm) (by k_asm)
  | exact DictAt.news (by k_asm) (by k_mem) (by k_asm) (by k_asm)))
local macro_rules | `(tactic| walk_at "getMethod ref") => `(tactic| (k_here; k_dflt (first
  | ((with_reducible show wpAny _ _ (getMethod (Value.ref _) (Str.ofString "get") _) _ _ _); refine meth_at PySem.F.slot_dict_get PySem.F.type_dict_get (by walk_at "m dict") ?_)
  | ((with_reducible show wpAny _ _ (getMethod (Value.ref _) (Str.ofString "copy") _) _ _ _); refine meth_at PySem.F.slot_dict_copy PySem.F.type_dict_copy (by walk_at "m dict") ?_)
  | ((with_reducible show wpAny _ _ (getMethod (Value.ref _) (Str.ofString "pop") _) _ _ _); refine meth_at PySem.F.slot_dict_pop PySem.F.type_dict_pop (by walk_at "m dict") ?_))))
local macro_rules | `(tactic| walk_at "call builtin:dict.get") => `(tactic| (k_here; k_dflt (refine' get2_at (by walk_at "m dict") ?v ?_; (case v => first | assumption | with_unfolding_all exact Eq.refl (Value.bool _) | rfl); k_whole)))
local macro_rules | `(tactic| walk_at "subscriptTail") => `(tactic| (k_here; (with_reducible show wpAny _ _ (subscriptTail _ _ (Value.ref _) (Value.str _ _)) _ _ _); k_dflt (refine' item_at (by walk_at "m dict") ?v ?_ ?hs; (case v => first | assumption | rfl); (case hs => with_unfolding_all rfl); k_whole)))
local macro_rules | `(tactic| walk_at "exec For") => `(tactic| (k_here; k_dflt (refine For_m (by k_asm) (by rfl) (by rfl) ?_ (by intro _; rfl) PassesOwn.never)))
local macro_rules | `(tactic| k_all) => `(tactic| assumption)
local macro_rules | `(tactic| walk_at "m sub") => `(tactic| (intro p9 hp9; simp only [List.mem_append, List.mem_cons, List.not_mem_nil, or_false, false_or] at hp9 ⊢; grind))
local macro_rules | `(tactic| walk_at "callWith") => `(tactic| ((with_reducible show wpAny _ _ (callWith _ (Value.builtin _) [_] (backTo _ (starEach (_ :: _) _)) []) _ _ _); refine callWith_method1 ?_))

namespace Rx
open PySem.Builtin PySem.Builtin.Re
section
variable {w : World} {A : Around} {E : Value → Shared → Prop} {s : Shared}
theorem named (x : Str) (t : PySem.Tok) : reNamed "re.Pattern.match" "match" ["string", "pos", "endpos"] 1 [.str x t] [] = pure [some (.str x t), none, none] := by kernel_rfl
set_option maxHeartbeats 4000000 in
theorem call_match {Q : Value → Shared → Prop} {x : Str} {t : PySem.Tok} (hx : x ∈ words) (X : (hd.heap_39 w.params).In s.heap)
    (h1 : isRest x = true → ∀ r h', s.heap.StaysIn h' → Q (.ref r) { s with heap := h' }) (h2 : isRest x = false → Q .none s) :
    wpAny (model PR w) A (call (.builtin "re.Pattern.match") [.ref 48, .str x t]) Q E s := by
  have k48 := (by k_is : (hd.heap_39 w.params).lookup 48 = some _)
  have k47 := (by k_is : (hd.heap_39 w.params).lookup 47 = some ⟨.type "tuple", none, .seq codeVals 0, #[]⟩)
  have g48 := X _ _ k48
  have g47 := X _ _ k47
  clear k48 k47 X
  refine wpAny_call (codeAny_call_builtin slot_match.plain entry_match (slot_match.check _ _ _ _ _ _ _ _ ⟨_, g48, rfl⟩ (args_match _ _) ?_))
  unfold Builtin.«re.Pattern.match»
  refine wpAny_bind ?_
  unfold reTarget
  dsimp only
  rw [named]
  refine wpAny_bind (wpAny_pure ?_)
  dsimp only
  refine wpAny_bind (wpAny_pure ?_)
  refine wpAny_bind (wpAny_pure ?_)
  refine wpAny_bind ?_
  unfold fieldsOf
  refine wpAny_bind (wpAny_load g48 (wpAny_pure ?_))
  refine wpAny_bind ?_
  unfold reTextOf
  refine wpAny_bind (wpAny_pure ?_)
  dsimp only
  refine wpAny_pure ?_
  dsimp only
  rw [if_neg (by decide +kernel), if_neg (by decide +kernel)]
  refine wpAny_bind ?_
  unfold reNoCollectionInside
  refine wpAny_pure ?_
  refine wpAny_bind ?_
  unfold reRawItems
  refine wpAny_bind ?_
  unfold seqItems?
  refine wpAny_bind (wpAny_load g47 (wpAny_pure ?_))
  refine wpAny_pure (wpAny_pure ?_)
  dsimp only
  unfold reAnswer
  refine wpAny_bind ?_
  have hl : min (2 ^ 63 - 1 : Int).toNat x.cps.size = x.cps.size := by
    have := words_len x hx
    have e : x.length = x.cps.size := rfl
    omega
  have hr := outc_eq x hx
  have hb := bad_eq x hx
  show wpAny _ _ (reRunToEnd (Sre.forMatch ((codeVals.map reRawOf).map (·.toNat)) x.cps 1 (min (Int.toNat 0) x.cps.size) (min (2 ^ 63 - 1 : Int).toNat x.cps.size) false false)) _ _ _
  rw [codeVals_eq, hl, show min (Int.toNat 0) x.cps.size = 0 from Nat.zero_min _]
  refine toEnd (m := m0 x) (m0_none x hx) ?_
  rw [hr]
  cases e : isRest x with
  | false => exact .inr ⟨rfl, wpAny_pure (h2 e)⟩
  | true =>
    refine .inl ⟨rfl, wpAny_bind (newMatch hb fun r h' k => wpAny_pure (h1 e r h' k))⟩
end
end Rx

end
theorem anew6 : True ∧ True := by
  w_top off
  first | (walk1 <;> trivial) | exact ⟨trivial, trivial⟩
section
local macro_rules | `(tactic| walk_at "m ok") => `(tactic| (first
  | assumption
  | exact Ok.mono (by assumption) (by decide)
  | exact Ok.mono (Ok.deeper (by assumption) _) (by decide)
  | exact Ok.mono (Ok.in1 (Ok.deeper (by assumption) _)) (by decide)
  | exact Ok.mono (Ok.in1 (by assumption)) (by decide)))
local macro_rules | `(tactic| walk_at "m room") => `(tactic| exact Ok.room (by assumption))
local macro_rules | `(tactic| walk_at "m dict") => `(tactic| (first
  | exact DictAt.fr (by k_asm) (by k_asm)
  | exact DictAt.news (by k_asm) (by k_mem) (by k_asm) (by k_asm)))
local macro_rules | `(tactic| walk_at "getMethod ref") => `(tactic| (k_here; k_dflt (first
  | ((with_reducible show wpAny _ _ (getMethod (Value.ref _) (Str.ofString "get") _) _ _ _); refine meth_at PySem.F.slot_dict_get PySem.F.type_dict_get (by walk_at "m dict") ?_)
  | ((with_reducible show wpAny _ _ (getMethod (Value.ref _) (Str.ofString "copy") _) _ _ _); refine meth_at PySem.F.slot_dict_copy PySem.F.type_dict_copy (by walk_at "m dict") ?_)
  | ((with_reducible show wpAny _ _ (getMethod (Value.ref _) (Str.ofString "pop") _) _ _ _); refine meth_at PySem.F.slot_dict_pop PySem.F.type_dict_pop (by walk_at "m dict") ?_))))
local macro_rules | `(tactic| walk_at "call builtin:dict.get") => `(tactic| (k_here; k_dflt (refine' get2_at (by walk_at "m dict") ?v ?_; (case v => first | assumption | with_unfolding_all exact Eq.refl (Value.bool _) | rfl); k_whole)))
local macro_rules | `(tactic| walk_at "subscriptTail") => `(tactic| (k_here; (with_reducible show wpAny _ _ (subscriptTail _ _ (Value.ref _) (Value.str _ _)) _ _ _); k_dflt (refine' item_at (by walk_at "m dict") ?v ?_ ?hs; (case v => first | assumption | rfl); (case hs => with_unfolding_all rfl); k_whole)))
local macro_rules | `(tactic| walk_at "exec For") => `(tactic| (k_here; k_dflt (refine For_m (by k_asm) (by rfl) (by rfl) ?_ (by intro _; rfl) PassesOwn.never)))
local macro_rules | `(tactic| k_all) => `(tactic| assumption)
local macro_rules | `(tactic| walk_at "m sub") => `(tactic| (intro p9 hp9; simp only [List.mem_append, List.mem_cons, List.not_mem_nil, or_false, false_or] at hp9 ⊢; grind))
local macro_rules | `(tactic| walk_at "callWith") => `(tactic| ((with_reducible show wpAny _ _ (callWith _ (Value.builtin _) [_] (backTo _ (starEach (_ :: _) _)) []) _ _ _); refine callWith_method1 ?_))

def amp (x : Str) : Bool := Txt.slice x (some (-1)) none == Str.ofString "&"
theorem amp_ends : ∀ x ∈ words, Txt.endswith x (Str.ofString "&") = amp x := by decide +kernel
section
variable {w : World} {A : Around} {E : Value → Shared → Prop} {s : Shared} {p : Program} {loose : List Str} {mean : ExcName → Option Value} {mg mb : Str → Option Value}
  {h₀ : Heap} {L : Addr} {m : Str → Option Value} {news : List (Addr × Obj)}
theorem use_rest {Q : Value → Shared → Prop} {x : Str} {t : PySem.Tok} (hA : Ok A 0) (X : (hd.heap_39 w.params).In h₀) (T : Top p loose mean mg mb h₀) (F : Fr h₀ L s.heap m) (N : News h₀ L s.heap news) (hx : x ∈ words)
    (ret : ∀ h' tk, Fr h₀ L h' m → News h₀ L h' news → Q (.bool (isRest x)) { s with heap := h', toks := tk }) :
    wpAny (model PR w) A (call (.ref 353) [.str x t]) Q E s :=
  spec_rest hA (X.keeps F.keep) (T.keeps F.keep) hx fun h' tk k => ret h' tk (fr_stays F k) (news_stays N k)
theorem use_match {Q : Value → Shared → Prop} {x : Str} {t : PySem.Tok} (hx : x ∈ words) (X : (hd.heap_39 w.params).In h₀) (F : Fr h₀ L s.heap m) (N : News h₀ L s.heap news)
    (h1 : isRest x = true → ∀ r h', Fr h₀ L h' m → News h₀ L h' news → Q (.ref r) { s with heap := h' }) (h2 : isRest x = false → Q .none s) :
    wpAny (model PR w) A (call (.builtin "re.Pattern.match") [.ref 48, .str x t]) Q E s :=
  Rx.call_match hx (X.keeps F.keep) (fun e r h' k => h1 e r h' (fr_stays F k) (news_stays N k)) h2
theorem meth_pat {pl : Sem Bool} {Q : Value × List Value → Shared → Prop} (X : (hd.heap_39 w.params).In h₀) (F : Fr h₀ L s.heap m) (h : Q (.builtin "re.Pattern.match", [.ref 48]) s) :
    wpAny (model PR w) A (getMethod (.ref 48) (Str.ofString "match") pl) Q E s := by
  have g48 := F.keep _ _ (X _ _ (by k_is : (hd.heap_39 w.params).lookup 48 = some _))
  exact getMethod_builtin ⟨_, g48, rfl⟩ Rx.pa_pat Rx.slot_match Rx.type_match (fun a e => by cases e; exact ⟨_, g48, rfl⟩) h
local macro_rules | `(tactic| walk_at "getMethod ref") => `(tactic| (k_here; (with_reducible show wpAny _ _ (getMethod (Value.ref 48) _ _) _ _ _); k_dflt (refine meth_pat (by k_asm) (by k_asm) ?_)))
local macro_rules | `(tactic| walk_at "call builtin:re.Pattern.match") => `(tactic| (k_here; k_dflt (refine use_match (by assumption) (by k_asm) (by k_asm) (by k_asm) ?_ ?_); (rotate_left; intro e9; rotate_left; intro e9 r' h' F' N'; (try k_sweep))))
set_option maxHeartbeats 4000000 in
theorem spec_boundary {Q : Value → Shared → Prop} {t u : PySem.Tok} {x y : Str} (hA : Ok A 0) (X : (hd.heap_39 w.params).In s.heap) (T : Top p loose mean mg mb s.heap) (hx : x ∈ words) (hy : y ∈ words)
    (ret : ∀ h' tk, s.heap.StaysIn h' → Q (.bool (amp x && isRest y)) { s with heap := h', toks := tk }) :
    wpAny (model PR w) A (call (.ref 55) [.str x t, .str y u]) Q E s := by
  have ret' : ∀ b h' tk, b = (amp x && isRest y) → s.heap.StaysIn h' → Q (.bool b) { s with heap := h', toks := tk } := fun b h' tk e k => by
    rw [e]; exact ret h' tk k
  clear ret
  have hl := words_len x hx
  have ha := amp_ends x hx
  refine' enterN (news := []) (binds := [(Str.ofString "left", .str x t), (Str.ofString "right", .str y u)]) ?kX ?kT ?kS ?kZ ?kN ?kO ?kC ?kR ?kB ?kL ?_ ?c1 ?c2 ?c3 ?c4
  case kX => assumption
  case kT => first | exact Top.nolimit (by assumption) | assumption
  case kO => k_is
  case kC => k_is
  case kR => exact Ok.room (by assumption)
  case kB => exact BindsTo.of_eq rfl
  case kL => exact locs rfl
  case c1 => exact rfl
  case c2 => exact rfl
  case c3 => exact rfl
  case c4 => decide
  case kS => exact fun _ _ e => e
  case kZ => exact Nat.le_refl _
  case kN => exact fun _ hp => nomatch hp
  intro L h tk F N hk hn
  try dsimp only
  try k_fold
  clear hk hn
  k_steps
  all_goals (
    (try dsimp only [qk])
    rename Fr _ _ _ _ => F3
    refine ret' _ _ _ ?_ F3.keep
    rw [← ha]
    clear ha ret'
    simp [*])
local macro_rules | `(tactic| walk_at "call ref") => `(tactic| (k_here; (with_reducible show wpAny _ _ (call (Value.ref 353) _) _ _ _); k_dflt (refine use_rest (by walk_at "m ok") (by k_asm) (by k_asm) (by k_asm) (by k_asm) (by assumption) ?_); intro h' tk' F' N'; (try k_sweep)))
set_option maxHeartbeats 4000000 in
theorem spec_apart {Q : Value → Shared → Prop} {t u : PySem.Tok} {x y : Str} (hA : Ok A 1) (X : (hd.heap_39 w.params).In s.heap) (T : Top p loose mean mg mb s.heap) (hl : x.length ≤ 1000) (hy : y ∈ words)
    (ret : ∀ h' tk, s.heap.StaysIn h' → Q (.bool (amp x && isRest y)) { s with heap := h', toks := tk }) :
    wpAny (model PR w) A (call (.ref 360) [.str x t, .str y u]) Q E s := by
  have ret' : ∀ b h' tk, b = (amp x && isRest y) → s.heap.StaysIn h' → Q (.bool b) { s with heap := h', toks := tk } := fun b h' tk e k => by
    rw [e]; exact ret h' tk k
  clear ret
  refine' enterN (news := []) (binds := [(Str.ofString "left", .str x t), (Str.ofString "right", .str y u)]) ?kX ?kT ?kS ?kZ ?kN ?kO ?kC ?kR ?kB ?kL ?_ ?c1 ?c2 ?c3 ?c4
  case kX => assumption
  case kT => first | exact Top.nolimit (by assumption) | assumption
  case kO => k_is
  case kC => k_is
  case kR => exact Ok.room (by assumption)
  case kB => exact BindsTo.of_eq rfl
  case kL => exact locs rfl
  case c1 => exact rfl
  case c2 => exact rfl
  case c3 => exact rfl
  case c4 => decide
  case kS => exact fun _ _ e => e
  case kZ => exact Nat.le_refl _
  case kN => exact fun _ hp => nomatch hp
  intro L h tk F N hk hn
  try dsimp only
  try k_fold
  clear hk hn
  k_steps
  all_goals (
    (try dsimp only [qk])
    rename Fr _ _ _ _ => F3
    refine ret' _ _ _ ?_ F3.keep
    simp only [amp]
    simp [*])
end

section
variable {w : World} {A : Around} {E : Value → Shared → Prop} {s : Shared} {p : Program} {loose : List Str} {mean : ExcName → Option Value} {mg mb : Str → Option Value}
set_option maxHeartbeats 4000000 in
theorem spec_live {Q : Value → Shared → Prop} {a : Addr} {kvs : List (Str × Value)} (hA : Ok A 0) (X : (hd.heap_39 w.params).In s.heap) (T : Top p loose mean mg mb s.heap) (D : DictAt w s.heap a kvs)
    (ret : ∀ h' tk, s.heap.StaysIn h' → Q ((valueAt kvs (Str.ofString "_emphasis")).getD (.bool true)) { s with heap := h', toks := tk }) :
    wpAny (model PR w) A (call (.ref 367) [.ref a]) Q E s := by
  refine' enterN (news := []) (binds := [(Str.ofString "token", .ref a)]) ?kX ?kT ?kS ?kZ ?kN ?kO ?kC ?kR ?kB ?kL ?_ ?c1 ?c2 ?c3 ?c4
  case kX => assumption
  case kT => first | exact Top.nolimit (by assumption) | assumption
  case kO => k_is
  case kC => k_is
  case kR => exact Ok.room (by assumption)
  case kB => exact BindsTo.of_eq rfl
  case kL => exact locs rfl
  case c1 => exact rfl
  case c2 => exact rfl
  case c3 => exact rfl
  case c4 => decide
  case kS => exact fun _ _ e => e
  case kZ => exact Nat.le_refl _
  case kN => exact fun _ hp => nomatch hp
  intro L h tk F N hk hn
  try dsimp only
  try k_fold
  clear hk hn
  k_steps
  exact ret _ _ F.keep
variable {h₀ : Heap} {L : Addr} {m : Str → Option Value} {news : List (Addr × Obj)}
theorem use_live {Q : Value → Shared → Prop} {a : Addr} {kvs : List (Str × Value)} {b : Bool} (hA : Ok A 0) (X : (hd.heap_39 w.params).In h₀) (T : Top p loose mean mg mb h₀) (F : Fr h₀ L s.heap m) (N : News h₀ L s.heap news)
    (D : DictAt w s.heap a kvs) (hv : (valueAt kvs (Str.ofString "_emphasis")).getD (.bool true) = .bool b)
    (ret : ∀ h' tk, Fr h₀ L h' m → News h₀ L h' news → Q (.bool b) { s with heap := h', toks := tk }) :
    wpAny (model PR w) A (call (.ref 367) [.ref a]) Q E s :=
  spec_live hA (X.keeps F.keep) (T.keeps F.keep) D fun h' tk k => by rw [hv]; exact ret h' tk (fr_stays F k) (news_stays N k)
end

end
def TokAt (w : World) (h : Heap) (v : Value) (tk : Tk) : Prop := ∃ a kvs, v = .ref a ∧ DictAt w h a kvs ∧ TkIs kvs tk
def vals (ts : List (Value × Tk)) : List Value := ts.map (·.1)
def tks (ts : List (Value × Tk)) : List Tk := ts.map (·.2)
def Toks (w : World) (h : Heap) (ts : List (Value × Tk)) : Prop := ∀ p ∈ ts, TokAt w h p.1 p.2
theorem TokAt.keeps {w : World} {h h' : Heap} {v : Value} {tk : Tk} (x : TokAt w h v tk) (k : h.StaysIn h') : TokAt w h' v tk :=
  let ⟨a, kvs, e2, D, I⟩ := x; ⟨a, kvs, e2, D.keeps k, I⟩
theorem Toks.keeps {w : World} {h h' : Heap} {ts : List (Value × Tk)} (x : Toks w h ts) (k : h.StaysIn h') : Toks w h' ts := fun p hp => (x p hp).keeps k
theorem vals_at {ts : List (Value × Tk)} {i : Nat} {v : Value} (e : (vals ts)[i]? = some v) : ∃ tk, ts[i]? = some (v, tk) := by
  unfold vals at e
  rw [List.getElem?_map] at e
  cases q : ts[i]? with
  | none => rw [q] at e; cases e
  | some p => rw [q] at e; cases e; exact ⟨p.2, rfl⟩
theorem Toks.at {w : World} {h : Heap} {ts : List (Value × Tk)} (x : Toks w h ts) {i : Nat} {p : Value × Tk} (e : ts[i]? = some p) : TokAt w h p.1 p.2 := x p (List.mem_of_getElem? e)
theorem take_snoc {α : Type} {l : List α} {i : Nat} {x : α} (e : l[i]? = some x) : l.take (i + 1) = l.take i ++ [x] := by simp [List.take_add_one, e]
def piece : Tk → Str
  | .text _ raw => raw
  | .obj ty _ => if ty == Str.ofString "softbreak" || ty == Str.ofString "linebreak" then Str.ofString "\n" else Str.ofString "\uFFFC"
def srcOf (ks : List Tk) : Str := ks.foldl (fun a tk => a ++ piece tk) (Str.ofString "")
theorem srcOf_snoc (ks : List Tk) (tk : Tk) : srcOf (ks ++ [tk]) = srcOf ks ++ piece tk := by simp [srcOf, List.foldl_append]
def WordTks (ks : List Tk) : Prop := ks.length ≤ 12 ∧ ∀ tk ∈ ks, TkWord tk
theorem piece_len {tk : Tk} (h : TkWord tk) : (piece tk).length ≤ 16 := by
  cases tk with
  | text md raw => exact words_len raw h
  | obj ty rest => (show (if _ then _ else _ : Str).length ≤ 16); split <;> decide +kernel
theorem foldl_len : ∀ (ks : List Tk) (a : Str), (∀ tk ∈ ks, TkWord tk) → (ks.foldl (fun a tk => a ++ piece tk) a).length ≤ a.length + 16 * ks.length
  | [], a, _ => by simp
  | tk :: r, a, h => by
    rw [List.foldl_cons]
    have h1 := foldl_len r (a ++ piece tk) fun t ht => h t (.tail _ ht)
    have h2 := piece_len (h tk (.head _))
    rw [Str.length_append] at h1
    simp only [List.length_cons]
    omega
theorem srcOf_len {ks : List Tk} (h : ∀ tk ∈ ks, TkWord tk) : (srcOf ks).length ≤ 16 * ks.length := by
  have h1 := foldl_len ks (Str.ofString "") h
  have h2 : (Str.ofString "").length = 0 := by decide +kernel
  unfold srcOf
  omega
theorem mem_take {α : Type} {l : List α} {i : Nat} {x : α} (h : x ∈ l.take i) : x ∈ l := List.mem_of_mem_take h
theorem WordTks.src {ks : List Tk} (W : WordTks ks) (i : Nat) : (srcOf (ks.take i)).length ≤ 192 := by
  have h1 := srcOf_len (ks := ks.take i) fun tk h => W.2 tk (mem_take h)
  have h2 := W.1
  have h3 : (ks.take i).length ≤ ks.length := by rw [List.length_take]; omega
  omega
theorem WordTks.at {ks : List Tk} (W : WordTks ks) {i : Nat} {tk : Tk} (e : ks[i]? = some tk) : TkWord tk := W.2 tk (List.mem_of_getElem? e)
theorem take_map {α β : Type} (f : α → β) (l : List α) (i : Nat) : (l.map f).take i = (l.take i).map f := by rw [List.map_take]
theorem tks_at {ts : List (Value × Tk)} {i : Nat} {v : Value} {tk : Tk} (e : ts[i]? = some (v, tk)) : (tks ts)[i]? = some tk := by simp [tks, e]
theorem vals_len (ts : List (Value × Tk)) : (vals ts).length = ts.length := by simp [vals]
theorem tks_len (ts : List (Value × Tk)) : (tks ts).length = ts.length := by simp [tks]

def cat (ss : List Str) : Str := ss.foldl (· ++ ·) (Str.ofString "")
theorem cat_snoc (ss : List Str) (x : Str) : cat (ss ++ [x]) = cat ss ++ x := by simp [cat, List.foldl_append]
theorem empty_is : Str.ofString "" = ⟨#[]⟩ := by decide +kernel
theorem str_assoc (a b c : Str) : a ++ b ++ c = a ++ (b ++ c) := Str.append_assoc a b c
theorem str_empty (a : Str) : (⟨#[]⟩ : Str) ++ a = a := Str.empty_append a
theorem foldl_cat : ∀ (ss : List Str) (a : Str), ss.foldl (· ++ ·) a = a ++ ss.foldl (· ++ ·) ⟨#[]⟩
  | [], a => by
    show a = a ++ ⟨#[]⟩
    exact (Str.ext' (by rw [Str.cps_append]; exact (Array.append_empty).symm))
  | x :: r, a => by
    rw [List.foldl_cons, List.foldl_cons, foldl_cat r (a ++ x), foldl_cat r (⟨#[]⟩ ++ x), str_empty, str_assoc]
theorem join_cat (ss : List Str) : Txt.join (Str.ofString "") ss = cat ss := by
  rw [empty_is]
  unfold cat Txt.join
  rw [empty_is, StrLaws.glued_eq_join]
  induction ss with
  | nil => rfl
  | cons x r ih =>
    rw [List.foldl_cons, foldl_cat, str_empty, ← ih]
    exact join_nil_cons x r
theorem srcOf_cat (ks : List Tk) : srcOf ks = cat (ks.map piece) := by
  unfold srcOf cat
  rw [List.foldl_map]
theorem cat_len {ss : List Str} {n : Nat} (h : ∀ x ∈ ss, x.length ≤ n) : (cat ss).length ≤ n * ss.length := by
  have aux : ∀ (l : List Str) (a : Str), (∀ x ∈ l, x.length ≤ n) → (l.foldl (· ++ ·) a).length ≤ a.length + n * l.length := by
    intro l
    induction l with
    | nil => intro a _; simp
    | cons x r ih =>
      intro a hl
      rw [List.foldl_cons]
      have h1 := ih (a ++ x) fun y hy => hl y (.tail _ hy)
      have h2 := hl x (.head _)
      rw [Str.length_append] at h1
      simp only [List.length_cons, Nat.mul_add, Nat.mul_one]
      omega
  have := aux ss (Str.ofString "") h
  have h2 : (Str.ofString "").length = 0 := by decide +kernel
  unfold cat
  omega
theorem sum_len {ss : List Str} {n : Nat} (h : ∀ x ∈ ss, x.length ≤ n) : (ss.map (·.length)).sum ≤ n * ss.length := by
  induction ss with
  | nil => simp
  | cons x r ih =>
    have h1 := ih fun y hy => h y (.tail _ hy)
    have h2 := h x (.head _)
    simp only [List.map_cons, List.sum_cons, List.length_cons, Nat.mul_add, Nat.mul_one]
    omega
section
variable {w : World} {A : Around} {E : Value → Shared → Prop} {s : Shared} {h₀ : Heap} {L : Addr} {news : List (Addr × Obj)}
theorem join_m {D : Addr} {items : Array Value} {n : Nat} {ss : List Str} {t : PySem.Tok} {Q : Value → Shared → Prop} (N : News h₀ L s.heap news) (hm : (D, listOf items n) ∈ news) (hi : StrsAre items.toList ss) (hs : ∀ x ∈ ss, x.length ≤ 1000) (hn : ss.length ≤ 1000)
    (h : ∀ t' k, Q (.str (cat ss) t') { s with toks := k }) : wpAny (model PR w) A (call (.builtin "str.join") [.str (Str.ofString "") t, .ref D]) Q E s := by
  have hlen : (Str.ofString "").length = 0 := by decide +kernel
  refine join_list ⟨_, (N _ hm).1, rfl, n, rfl⟩ hi ?_ fun t' k => by rw [join_cat]; exact h t' k
  have h1 := sum_len hs
  have h2 : 1000 * ss.length ≤ 1000 * 1000 := Nat.mul_le_mul_left _ hn
  rw [hlen]
  omega
end
theorem brk_eq (ty : Str) : (ty == Str.ofString "softbreak" || ty == Str.ofString "linebreak") = ([Str.ofString "softbreak", Str.ofString "linebreak"].any fun y => y == ty) := by
  show (ty == _ || ty == _) = (_ == ty || (_ == ty || false))
  rw [Bool.or_false, BEq.comm, BEq.comm (a := ty) (b := Str.ofString "linebreak")]

theorem anew8 : True ∧ True := by
  w_top off
  first | (walk1 <;> trivial) | exact ⟨trivial, trivial⟩
section
local macro_rules | `(tactic| walk_at "m ok") => `(tactic| (first
  | assumption
  | exact Ok.mono (by assumption) (by decide)
  | exact Ok.mono (Ok.deeper (by assumption) _) (by decide)
  | exact Ok.mono (Ok.in1 (Ok.deeper (by assumption) _)) (by decide)
  | exact Ok.mono (Ok.in1 (by assumption)) (by decide)))
local macro_rules | `(tactic| walk_at "m room") => `(tactic| exact Ok.room (by assumption))
local macro_rules | `(tactic| walk_at "m dict") => `(tactic| (first
  | exact DictAt.fr (by k_asm) (by k_asm)
  | exact DictAt.news (by k_asm) (by k_mem) (by k_asm) (by k_asm)))
local macro_rules | `(tactic| walk_at "getMethod ref") => `(tactic| (k_here; k_dflt (first
  | ((with_reducible show wpAny _ _ (getMethod (Value.ref _) (Str.ofString "get") _) _ _ _); refine meth_at PySem.F.slot_dict_get PySem.F.type_dict_get (by walk_at "m dict") ?_)
  | ((with_reducible show wpAny _ _ (getMethod (Value.ref _) (Str.ofString "copy") _) _ _ _); refine meth_at PySem.F.slot_dict_copy PySem.F.type_dict_copy (by walk_at "m dict") ?_)
  | ((with_reducible show wpAny _ _ (getMethod (Value.ref _) (Str.ofString "pop") _) _ _ _); refine meth_at PySem.F.slot_dict_pop PySem.F.type_dict_pop (by walk_at "m dict") ?_))))
local macro_rules | `(tactic| walk_at "call builtin:dict.get") => `(tactic| (k_here; k_dflt (refine' get2_at (by walk_at "m dict") ?v ?_; (case v => first | assumption | with_unfolding_all exact Eq.refl (Value.bool _) | rfl); k_whole)))
local macro_rules | `(tactic| walk_at "subscriptTail") => `(tactic| (k_here; (with_reducible show wpAny _ _ (subscriptTail _ _ (Value.ref _) (Value.str _ _)) _ _ _); k_dflt (refine' item_at (by walk_at "m dict") ?v ?_ ?hs; (case v => first | assumption | rfl); (case hs => with_unfolding_all rfl); k_whole)))
local macro_rules | `(tactic| walk_at "exec For") => `(tactic| (k_here; k_dflt (refine For_m (by k_asm) (by rfl) (by rfl) ?_ (by intro _; rfl) PassesOwn.never)))
local macro_rules | `(tactic| k_all) => `(tactic| assumption)
local macro_rules | `(tactic| walk_at "m sub") => `(tactic| (intro p9 hp9; simp only [List.mem_append, List.mem_cons, List.not_mem_nil, or_false, false_or] at hp9 ⊢; grind))
local macro_rules | `(tactic| walk_at "callWith") => `(tactic| ((with_reducible show wpAny _ _ (callWith _ (Value.builtin _) [_] (backTo _ (starEach (_ :: _) _)) []) _ _ _); refine callWith_method1 ?_))

local macro_rules | `(tactic| walk_at "call ref") => `(tactic| (k_here; (with_reducible show wpAny _ _ (call (Value.ref 367) _) _ _ _); k_dflt (refine' use_live ?kA ?kX ?kT ?kF ?kN ?kD ?kv ?_; (case kA => walk_at "m ok"); (case kX => k_asm); (case kT => k_asm); (case kF => k_asm); (case kN => k_asm); (case kD => walk_at "m dict"); (case kv => first | assumption | rfl); k_whole); intro h' tk' F' N'; (try k_sweep)))

section
variable {w : World} {A : Around} {E : Value → Shared → Prop} {s : Shared} {p : Program} {loose : List Str} {mean : ExcName → Option Value} {mg mb : Str → Option Value}
local macro_rules | `(tactic| walk_at "pyIter ref") => `(tactic| (k_here; with_reducible refine Halt.intro ?_))
set_option maxHeartbeats 4000000 in
theorem spec_source {Q : Value → Shared → Prop} {l : Addr} {ts : List (Value × Tk)} (hA : Ok A 1) (X : (hd.heap_39 w.params).In s.heap) (T : Top p loose mean mg mb s.heap)
    (hl : s.heap.IsList l (vals ts).toArray) (H : Toks w s.heap ts) (W : WordTks (tks ts))
    (ret : ∀ h' tk t, s.heap.StaysIn h' → Q (.str (srcOf (tks ts)) t) { s with heap := h', toks := tk }) :
    wpAny (model PR w) A (call (.ref 395) [.ref l]) Q E s := by
  refine' enterN (news := []) (binds := [(Str.ofString "tokens", .ref l)]) ?kX ?kT ?kS ?kZ ?kN ?kO ?kC ?kR ?kB ?kL ?_ ?c1 ?c2 ?c3 ?c4
  case kX => assumption
  case kT => first | exact Top.nolimit (by assumption) | assumption
  case kO => k_is
  case kC => k_is
  case kR => exact Ok.room (by assumption)
  case kB => exact BindsTo.of_eq rfl
  case kL => exact locs rfl
  case c1 => exact rfl
  case c2 => exact rfl
  case c3 => exact rfl
  case c4 => decide
  case kS => exact fun _ _ e => e
  case kZ => exact Nat.le_refl _
  case kN => exact fun _ hp => nomatch hp
  intro L h tk F N hk hn
  try dsimp only
  try k_fold
  clear hk hn
  k_steps
  rename News _ _ _ _ => N1
  rename Fr _ _ _ _ => F1
  refine loopL (vs := vals ts) (fun i m news => news = [] ∧ ∃ t, m (Str.ofString "text") = some (.str (srcOf ((tks ts).take i)) t)) (by exact hA.hh) (hl.at fun o e => F1.keep _ _ e) F1 N1 NoIt.nil ⟨rfl, _, by rfl⟩ ?_ ?_
  · rintro i v m₁ news₁ h1 tk1 own hv hno ⟨rfl, t1, ht⟩ hown hlo hli F2 N2
    obtain ⟨tkn, e0⟩ := vals_at hv
    have e1 := tks_at e0
    obtain ⟨a, kvs, e2, D, I⟩ := H.at e0
    dsimp only at e2 I
    subst e2
    have F3 := fr_name (x := Str.ofString "text") F2 ((if_neg (by decide)).trans ht)
    have hb := W.src i
    have hw := W.at e1
    clear F1 N1 F2 ht
    cases I
    all_goals (
      have hp := piece_len hw
      simp only [piece] at hp
      k_steps)
    all_goals (
      rename News _ _ _ _ => N3
      rename Fr _ _ _ _ => F4
      refine LPost.intro F4 N3 NoIt.nil ⟨rfl, _, Eq.trans (by rfl) (congrArg (fun z => some (Value.str z _)) ?_)⟩
      rw [take_snoc e1, srcOf_snoc]
      simp [piece, *])
  · rintro m₁ news₁ h1 tk1 ⟨rfl, t1, ht⟩ F2 N2
    rw [vals_len, ← tks_len, List.take_length] at ht
    have F3 := fr_name F2 ht
    clear F1 N1 F2
    k_steps
    exact ret _ _ _ F3.keep
end

def srcLen : Tk → Nat
  | .text _ raw => raw.length
  | .obj _ _ => 1
def isMk (c : Nat) : Bool := c == 42 || c == 95
def mk (raw : Str) : Bool := raw.cps.toList.any isMk
def tkMk : Tk → Bool
  | .text md raw => md.getD true && mk raw
  | .obj _ _ => false
def markedOf (ks : List Tk) : Bool := ks.any tkMk
theorem markedOf_snoc (ks : List Tk) (tk : Tk) : markedOf (ks ++ [tk]) = (markedOf ks || tkMk tk) := by simp [markedOf]
theorem markedOf_at {ks : List Tk} {i : Nat} {tk : Tk} (e : ks[i]? = some tk) (h : tkMk tk = true) : markedOf ks = true :=
  List.any_eq_true.mpr ⟨tk, List.mem_of_getElem? e, h⟩
theorem mk_take {raw : Str} {i c : Nat} (e : raw.cps[i]? = some c) : (raw.cps.toList.take (i + 1)).any isMk = ((raw.cps.toList.take i).any isMk || isMk c) := by
  rw [take_snoc (x := c) (by simpa using e)]; simp
theorem sgn (c d : Nat) (x : Str) (hx : x = ⟨#[d]⟩) : ((⟨#[c]⟩ : Str) == x) = (c == d) := by
  subst hx
  by_cases h : c = d
  · subst h; rw [beq_self_eq_true, beq_self_eq_true]
  · have : ¬ ((⟨#[c]⟩ : Str) = ⟨#[d]⟩) := fun e => h (by injection e with e; simpa using e)
    rw [beq_eq_false_iff_ne.mpr this, beq_eq_false_iff_ne.mpr h]
theorem mk_at {raw : Str} {j c : Nat} (e : raw.cps[j]? = some c) (h : isMk c = true) : mk raw = true :=
  List.any_eq_true.mpr ⟨c, List.mem_of_getElem? (by simpa using e), h⟩
theorem mk_all {raw : Str} (h : (raw.cps.toList.take raw.cps.size).any isMk = false) : mk raw = false := by
  rw [List.take_of_length_le (by simp)] at h; exact h
theorem star_is : Str.ofString "*" = ⟨#[42]⟩ := by decide +kernel
theorem bar_is : Str.ofString "_" = ⟨#[95]⟩ := by decide +kernel
theorem hasOne (x : Str) (c : Nat) : (Builtin.Str.occurrences x ⟨#[c]⟩ 0 x.length 1).isEmpty = !(x.cps.toList.any fun d => d == c) := by
  have h := StrLaws.found_one x c
  have e : (x.cps.toList.any fun d => d == c) = decide (c ∈ x.cps.toList) := by
    rw [Bool.eq_iff_iff, List.any_eq_true, decide_eq_true_eq]
    exact ⟨fun ⟨d, h1, h2⟩ => (beq_iff_eq.mp h2) ▸ h1, fun h1 => ⟨c, h1, beq_self_eq_true c⟩⟩
  rw [e, ← h, Bool.not_not]
theorem mk_eq (raw : Str) : mk raw = (!(Builtin.Str.occurrences raw (Str.ofString "*") 0 raw.length 1).isEmpty || !(Builtin.Str.occurrences raw (Str.ofString "_") 0 raw.length 1).isEmpty) := by
  rw [star_is, bar_is, hasOne, hasOne, Bool.not_not, Bool.not_not]
  unfold mk
  induction raw.cps.toList with
  | nil => rfl
  | cons a r ih => simp only [List.any_cons, ih, isMk]; cases a == 42 <;> cases a == 95 <;> simp
section
variable {w : World} {A : Around} {E : Value → Shared → Prop} {s : Shared} {p : Program} {loose : List Str} {mean : ExcName → Option Value} {mg mb : Str → Option Value}
set_option maxHeartbeats 4000000 in
theorem spec_srclen {Q : Value → Shared → Prop} {a : Addr} {kvs : List (Str × Value)} {tkn : Tk} (hA : Ok A 0) (X : (hd.heap_39 w.params).In s.heap) (T : Top p loose mean mg mb s.heap) (D : DictAt w s.heap a kvs) (I : TkIs kvs tkn) (hp : (piece tkn).length ≤ 1000)
    (ret : ∀ h' tk t, s.heap.StaysIn h' → Q (.int (srcLen tkn) t) { s with heap := h', toks := tk }) :
    wpAny (model PR w) A (call (.ref 213) [.ref a]) Q E s := by
  refine' enterN (news := []) (binds := [(Str.ofString "token", .ref a)]) ?kX ?kT ?kS ?kZ ?kN ?kO ?kC ?kR ?kB ?kL ?_ ?c1 ?c2 ?c3 ?c4
  case kX => assumption
  case kT => first | exact Top.nolimit (by assumption) | assumption
  case kO => k_is
  case kC => k_is
  case kR => exact Ok.room (by assumption)
  case kB => exact BindsTo.of_eq rfl
  case kL => exact locs rfl
  case c1 => exact rfl
  case c2 => exact rfl
  case c3 => exact rfl
  case c4 => decide
  case kS => exact fun _ _ e => e
  case kZ => exact Nat.le_refl _
  case kN => exact fun _ hp => nomatch hp
  intro L h tk F N hk hn
  try dsimp only
  try k_fold
  clear hk hn
  cases I
  all_goals (
    (try simp only [piece] at hp)
    k_steps
    exact ret _ _ _ F.keep)
local macro_rules | `(tactic| walk_at "pyIter ref") => `(tactic| (k_here; with_reducible refine Halt.intro ?_))
set_option maxHeartbeats 4000000 in
theorem spec_contains {Q : Value → Shared → Prop} {l : Addr} {ts : List (Value × Tk)} (hA : Ok A 1) (X : (hd.heap_39 w.params).In s.heap) (T : Top p loose mean mg mb s.heap)
    (hl : s.heap.IsList l (vals ts).toArray) (H : Toks w s.heap ts) (W : ∀ tk ∈ tks ts, (piece tk).length ≤ 1000)
    (ret : ∀ h' tk, s.heap.StaysIn h' → Q (.bool (markedOf (tks ts))) { s with heap := h', toks := tk }) :
    wpAny (model PR w) A (call (.ref 192) [.ref l]) Q E s := by
  have ret' : ∀ b h' tk, b = markedOf (tks ts) → s.heap.StaysIn h' → Q (.bool b) { s with heap := h', toks := tk } := fun b h' tk e k => by
    rw [e]; exact ret h' tk k
  clear ret
  refine' enterN (news := []) (binds := [(Str.ofString "tokens", .ref l)]) ?kX ?kT ?kS ?kZ ?kN ?kO ?kC ?kR ?kB ?kL ?_ ?c1 ?c2 ?c3 ?c4
  case kX => assumption
  case kT => first | exact Top.nolimit (by assumption) | assumption
  case kO => k_is
  case kC => k_is
  case kR => exact Ok.room (by assumption)
  case kB => exact BindsTo.of_eq rfl
  case kL => exact locs rfl
  case c1 => exact rfl
  case c2 => exact rfl
  case c3 => exact rfl
  case c4 => decide
  case kS => exact fun _ _ e => e
  case kZ => exact Nat.le_refl _
  case kN => exact fun _ hp => nomatch hp
  intro L h tk F N hk hn
  try dsimp only
  try k_fold
  clear hk hn
  k_steps
  rename News _ _ _ _ => N1
  rename Fr _ _ _ _ => F1
  refine loopL (vs := vals ts) (fun i m news => news = [] ∧ markedOf ((tks ts).take i) = false) (by exact hA.hh) (hl.at fun o e => F1.keep _ _ e) F1 N1 NoIt.nil ⟨rfl, by rfl⟩ ?_ ?_
  · rintro i v m₁ news₁ h1 tk1 own hv hno ⟨rfl, ht⟩ hown hlo hli F2 N2
    obtain ⟨tkn, e0⟩ := vals_at hv
    have e1 := tks_at e0
    obtain ⟨a, kvs, e2, D, I⟩ := H.at e0
    dsimp only at e2 I
    subst e2
    have hp := W _ (List.mem_of_getElem? e1)
    clear F1 N1
    cases I
    all_goals (
      simp only [piece] at hp
      k_steps)
    all_goals (rename Fr _ _ _ _ => F4; first
      | exact LPost.intro F4 (by k_asm) NoIt.nil ⟨rfl, by rw [take_snoc e1, markedOf_snoc, ht]; simp [tkMk, mk_eq, *]⟩
      | exact ret' _ _ _ (markedOf_at e1 (by simp [tkMk, mk_eq, *])).symm F4.keep)
  · rintro m₁ news₁ h1 tk1 ⟨rfl, ht⟩ F2 N2
    rw [vals_len, ← tks_len, List.take_length] at ht
    clear F1 N1
    k_steps
    exact ret' _ _ _ ht.symm F2.keep
local macro_rules | `(tactic| walk_at "pyIter str") => `(tactic| (k_here; with_reducible refine Halt.intro ?_))
set_option maxHeartbeats 4000000 in
theorem spec_marked {Q : Value → Shared → Prop} {l : Addr} {ts : List (Value × Tk)} (hA : Ok A 1) (X : (hd.heap_39 w.params).In s.heap) (T : Top p loose mean mg mb s.heap)
    (hl : s.heap.IsList l (vals ts).toArray) (H : Toks w s.heap ts)
    (ret : ∀ h' tk, s.heap.StaysIn h' → Q (.bool (markedOf (tks ts))) { s with heap := h', toks := tk }) :
    wpAny (model PR w) A (call (.ref 402) [.ref l]) Q E s := by
  have ret' : ∀ b h' tk, b = markedOf (tks ts) → s.heap.StaysIn h' → Q (.bool b) { s with heap := h', toks := tk } := fun b h' tk e k => by
    rw [e]; exact ret h' tk k
  clear ret
  refine' enterN (news := []) (binds := [(Str.ofString "tokens", .ref l)]) ?kX ?kT ?kS ?kZ ?kN ?kO ?kC ?kR ?kB ?kL ?_ ?c1 ?c2 ?c3 ?c4
  case kX => assumption
  case kT => first | exact Top.nolimit (by assumption) | assumption
  case kO => k_is
  case kC => k_is
  case kR => exact Ok.room (by assumption)
  case kB => exact BindsTo.of_eq rfl
  case kL => exact locs rfl
  case c1 => exact rfl
  case c2 => exact rfl
  case c3 => exact rfl
  case c4 => decide
  case kS => exact fun _ _ e => e
  case kZ => exact Nat.le_refl _
  case kN => exact fun _ hp => nomatch hp
  intro L h tk F N hk hn
  try dsimp only
  try k_fold
  clear hk hn
  k_steps
  rename News _ _ _ _ => N1
  rename Fr _ _ _ _ => F1
  refine loopL (vs := vals ts) (fun i m news => news = [] ∧ markedOf ((tks ts).take i) = false) (by exact hA.hh) (hl.at fun o e => F1.keep _ _ e) F1 N1 NoIt.nil ⟨rfl, by rfl⟩ ?_ ?_
  · rintro i v m₁ news₁ h1 tk1 own hv hno ⟨rfl, ht⟩ hown hlo hli F2 N2
    obtain ⟨tkn, e0⟩ := vals_at hv
    have e1 := tks_at e0
    obtain ⟨a, kvs, e2, D, I⟩ := H.at e0
    dsimp only at e2 I
    subst e2
    clear F1 N1
    cases I
    all_goals k_steps
    all_goals first
      | (rename Fr _ _ _ _ => F4; exact LPost.intro F4 (by k_asm) NoIt.nil ⟨rfl, by rw [take_snoc e1, markedOf_snoc, ht]; simp [tkMk, *]⟩)
      | skip
    all_goals (
      rename News _ _ _ _ => N5
      rename Fr _ _ _ _ => F5
      rename Str => raw
      (show wpAny _ _ (pyIter _) _ _ _)
      refine loopS (fun j m => (raw.cps.toList.take j).any isMk = false) (by exact hA.hh) F5 N5 (by rfl) ?_ ?_
      · intro j c u m₂ h2 tk2 own2 hc hj F6 N6
        have q1 := sgn c 42 _ star_is
        have q2 := sgn c 95 _ bar_is
        clear F5 N5
        k_steps
        all_goals (rename Fr _ _ _ _ => F7; first
          | exact SPost.intro F7 (by k_asm) (by rw [mk_take hc, hj, isMk, ← q1, ← q2]; clear q1 q2; simp [*])
          | exact ret' _ _ _ (markedOf_at e1 (by rw [tkMk, mk_at hc (by rw [isMk, ← q1, ← q2]; clear q1 q2; simp [*])]; simp [*])).symm F7.keep)
      · intro m₂ h2 tk2 hj F6 N6
        have q := mk_all hj
        clear F5 N5
        k_steps
        rename Fr _ _ _ _ => F7
        exact LPost.intro F7 (by k_asm) NoIt.nil ⟨rfl, by rw [take_snoc e1, markedOf_snoc, ht, tkMk, q]; simp⟩)
  · rintro m₁ news₁ h1 tk1 ⟨rfl, ht⟩ F2 N2
    rw [vals_len, ← tks_len, List.take_length] at ht
    clear F1 N1
    k_steps
    exact ret' _ _ _ ht.symm F2.keep
end

end
theorem anew9 : True ∧ True := by
  w_top off
  first | (walk1 <;> trivial) | exact ⟨trivial, trivial⟩
section
local macro_rules | `(tactic| walk_at "m ok") => `(tactic| (first
  | assumption
  | exact Ok.mono (by assumption) (by decide)
  | exact Ok.mono (Ok.deeper (by assumption) _) (by decide)
  | exact Ok.mono (Ok.in1 (Ok.deeper (by assumption) _)) (by decide)
  | exact Ok.mono (Ok.in1 (by assumption)) (by decide)))
local macro_rules | `(tactic| walk_at "m room") => `(tactic| exact Ok.room (by assumption))
local macro_rules | `(tactic| walk_at "m dict") => `(tactic| (first
  | exact DictAt.fr (by k_asm) (by k_asm)
  | exact DictAt.news (by k_asm) (by k_mem) (by k_asm) (by k_asm)))
local macro_rules | `(tactic| walk_at "getMethod ref") => `(tactic| (k_here; k_dflt (first
  | ((with_reducible show wpAny _ _ (getMethod (Value.ref _) (Str.ofString "get") _) _ _ _); refine meth_at PySem.F.slot_dict_get PySem.F.type_dict_get (by walk_at "m dict") ?_)
  | ((with_reducible show wpAny _ _ (getMethod (Value.ref _) (Str.ofString "copy") _) _ _ _); refine meth_at PySem.F.slot_dict_copy PySem.F.type_dict_copy (by walk_at "m dict") ?_)
  | ((with_reducible show wpAny _ _ (getMethod (Value.ref _) (Str.ofString "pop") _) _ _ _); refine meth_at PySem.F.slot_dict_pop PySem.F.type_dict_pop (by walk_at "m dict") ?_))))
local macro_rules | `(tactic| walk_at "call builtin:dict.get") => `(tactic| (k_here; k_dflt (refine' get2_at (by walk_at "m dict") ?v ?_; (case v => first | assumption | with_unfolding_all exact Eq.refl (Value.bool _) | rfl); k_whole)))
local macro_rules | `(tactic| walk_at "subscriptTail") => `(tactic| (k_here; (with_reducible show wpAny _ _ (subscriptTail _ _ (Value.ref _) (Value.str _ _)) _ _ _); k_dflt (refine' item_at (by walk_at "m dict") ?v ?_ ?hs; (case v => first | assumption | rfl); (case hs => with_unfolding_all rfl); k_whole)))
local macro_rules | `(tactic| walk_at "exec For") => `(tactic| (k_here; k_dflt (refine For_m (by k_asm) (by rfl) (by rfl) ?_ (by intro _; rfl) PassesOwn.never)))
local macro_rules | `(tactic| k_all) => `(tactic| assumption)
local macro_rules | `(tactic| walk_at "m sub") => `(tactic| (intro p9 hp9; simp only [List.mem_append, List.mem_cons, List.not_mem_nil, or_false, false_or] at hp9 ⊢; grind))
local macro_rules | `(tactic| walk_at "callWith") => `(tactic| ((with_reducible show wpAny _ _ (callWith _ (Value.builtin _) [_] (backTo _ (starEach (_ :: _) _)) []) _ _ _); refine callWith_method1 ?_))

local macro_rules | `(tactic| walk_at "Exists") => `(tactic| (k_here; (refine made_m (by k_asm) (by first | k_asm | exact News.nil) (Top.nolimit (by k_asm)) (by rfl) (of_decide_eq_true (by rfl)) ?_; intro h' o' F' N' l1 lo' hd'; (try k_lt l1); (try dsimp only at N'); (try dsimp only))))
local macro_rules | `(tactic| walk_at "call ref") => `(tactic| (k_here; (with_reducible show wpAny _ _ (call (Value.ref 332) _) _ _ _); k_dflt (refine' use_words ?kA ?kX ?kT ?kF ?kN ?_; (case kA => walk_at "m ok"); (case kX => k_asm); (case kT => k_asm); (case kF => k_asm); (case kN => k_asm); k_whole); intro r' h' tk' n' vs' W' F' N' l1; (try (replace l1 := allNe_of l1; simp only [AllNe, and_true] at l1)); (try k_sweep)))
local macro_rules | `(tactic| walk_at "call ref") => `(tactic| (k_here; (with_reducible show wpAny _ _ (call (Value.ref 339) _) _ _ _); k_dflt (refine' use_draw ?kA ?kX ?kT ?kF ?kN ?kU ?kS ?kI ?kL ?k0 ?k1 ?k2 ?k3 ?_; (case kA => walk_at "m ok"); (case kX => k_asm); (case kT => k_asm); (case kF => k_asm); (case kN => k_asm); (case kU => k_updF); (case kS => assumption); (case kI => assumption); (case kL => first | assumption | omega); (case k0 => first | decide | assumption); (case k1 => first | decide | assumption); (case k2 => decide); (case k3 => decide); k_whole); intro k' t' pl' acc' tp' ta' h' tk' k0' k1' a0' a1' F' N'; (try dsimp only at N'); (try k_sweep)))
local macro_rules | `(tactic| walk_at "subscriptTail") => `(tactic| (k_here; (with_reducible show wpAny _ _ (subscriptTail _ _ (Value.ref _) (Value.int _ _)) _ _ _); k_dflt (refine' item_words ?kN ?kM ?kW ?k0 ?k1 ?_ ?kS; (case kW => assumption); (case kN => k_asm); (case kM => k_mem); (case k0 => assumption); (case k1 => assumption); (case kS => with_unfolding_all rfl)); intro x' t' hx'))

local macro_rules | `(tactic| walk_at "call ref") => `(tactic| (k_here; (with_reducible show wpAny _ _ (call (Value.ref 367) _) _ _ _); k_dflt (refine' use_live ?kA ?kX ?kT ?kF ?kN ?kD ?kv ?_; (case kA => walk_at "m ok"); (case kX => k_asm); (case kT => k_asm); (case kF => k_asm); (case kN => k_asm); (case kD => walk_at "m dict"); (case kv => first | assumption | rfl); k_whole); intro h' tk' F' N'; (try k_sweep)))

local macro_rules | `(tactic| walk_at "call builtin:str.join") => `(tactic| (k_here; k_dflt (refine' join_m ?N ?M ?I ?S ?n ?_; (case N => k_asm); (case M => k_mem); (case I => assumption); (case S => assumption); (case n => assumption); k_whole); intro t' k'))

section
variable {w : World} {A : Around} {E : Value → Shared → Prop} {s : Shared} {p : Program} {loose : List Str} {mean : ExcName → Option Value} {mg mb : Str → Option Value}
local macro_rules | `(tactic| walk_at "pyIter ref") => `(tactic| (k_here; with_reducible refine Halt.intro ?_))
set_option maxHeartbeats 4000000 in
theorem spec_srctext {Q : Value → Shared → Prop} {l : Addr} {ts : List (Value × Tk)} (hA : Ok A 1) (X : (hd.heap_39 w.params).In s.heap) (T : Top p loose mean mg mb s.heap)
    (hl : s.heap.IsList l (vals ts).toArray) (H : Toks w s.heap ts) (W : WordTks (tks ts))
    (ret : ∀ h' tk t, s.heap.StaysIn h' → Q (.str (srcOf (tks ts)) t) { s with heap := h', toks := tk }) :
    wpAny (model PR w) A (call (.ref 206) [.ref l]) Q E s := by
  refine' enterN (news := []) (binds := [(Str.ofString "tokens", .ref l)]) ?kX ?kT ?kS ?kZ ?kN ?kO ?kC ?kR ?kB ?kL ?_ ?c1 ?c2 ?c3 ?c4
  case kX => assumption
  case kT => first | exact Top.nolimit (by assumption) | assumption
  case kO => k_is
  case kC => k_is
  case kR => exact Ok.room (by assumption)
  case kB => exact BindsTo.of_eq rfl
  case kL => exact locs rfl
  case c1 => exact rfl
  case c2 => exact rfl
  case c3 => exact rfl
  case c4 => decide
  case kS => exact fun _ _ e => e
  case kZ => exact Nat.le_refl _
  case kN => exact fun _ hp => nomatch hp
  intro L h tk F N hk hn
  try dsimp only
  try k_fold
  clear hk hn
  k_steps
  rename News _ _ _ _ => N1
  rename Fr _ _ _ _ => F1
  refine loopL (vs := vals ts) (fun i m news => ∃ av items n, news = [(av, listOf items n)] ∧ StrsAre items.toList (((tks ts).take i).map piece) ∧ m (Str.ofString "values") = some (.ref av)) (by exact hA.hh) (hl.at fun o e => F1.keep _ _ e) F1 N1 (by exact NoIt.cons cls_list .nil) ⟨_, _, _, rfl, by exact .nil, by rfl⟩ ?_ ?_
  · rintro i v m₁ news₁ h1 tk1 own hv hno ⟨av, items, n, rfl, hS, ht⟩ hown hlo hli F2 N2
    obtain ⟨tkn, e0⟩ := vals_at hv
    have e1 := tks_at e0
    obtain ⟨a, kvs, e2, D, I⟩ := H.at e0
    dsimp only at e2 I
    subst e2
    have F3 := fr_name (x := Str.ofString "values") F2 ((if_neg (by decide)).trans ht)
    have hne := own_ne N2 hown (let ⟨o, ho, _⟩ := hl; ⟨o, ho⟩) (.head _) cls_list.1
    have N3 : News _ _ _ ((av, listOf items n) :: own) := fun p hp => N2 p (by simpa [or_comm] using hp)
    have hsz : items.size ≤ 12 := by
      have q1 := hS.length
      have q2 := W.1
      rw [List.length_map, List.length_take] at q1
      simp only [Array.length_toList] at q1
      omega
    clear F1 N1 F2 N2 ht
    cases I
    all_goals k_steps
    all_goals (
      rename News _ _ _ _ => N4
      rename Fr _ _ _ _ => F4
      refine LPost.intro F4 (by first | exact news_rot N4 | exact news_rot (news_tail N4)) (NoIt.cons cls_list .nil) ⟨_, _, _, rfl, ?_, by rfl⟩
      rw [take_snoc e1, List.map_append, Array.toList_push]
      refine StrsAre.append' hS ?_
      simp only [List.map_cons, List.map_nil]
      refine cast (congrArg (fun z => StrsAre _ [z]) ?_) (StrsAre.cons _ _ .nil)
      symm
      (simp only [piece, brk_eq]) <;> first | rfl | exact if_pos (by assumption) | exact if_neg (Bool.eq_false_iff.mp (by assumption)))
  · rintro m₁ news₁ h1 tk1 ⟨av, items, n, rfl, hS, ht⟩ F2 N2
    rw [vals_len, ← tks_len, List.take_length] at hS
    have F3 := fr_name F2 ht
    clear F1 N1 F2
    have hs : ∀ x ∈ (tks ts).map piece, x.length ≤ 1000 := fun x hx => by
      obtain ⟨tk, htk, rfl⟩ := List.mem_map.mp hx
      have := piece_len (W.2 tk htk)
      omega
    have hn : ((tks ts).map piece).length ≤ 1000 := by rw [List.length_map]; have := W.1; omega
    k_steps
    rename Fr _ _ _ _ => F4
    have := ret
    rw [srcOf_cat] at this
    exact this _ _ _ F4.keep
end

end
theorem anew10 : True ∧ True := by
  w_top off
  first | (walk1 <;> trivial) | exact ⟨trivial, trivial⟩
section
local macro_rules | `(tactic| walk_at "m ok") => `(tactic| (first
  | assumption
  | exact Ok.mono (by assumption) (by decide)
  | exact Ok.mono (Ok.deeper (by assumption) _) (by decide)
  | exact Ok.mono (Ok.in1 (Ok.deeper (by assumption) _)) (by decide)
  | exact Ok.mono (Ok.in1 (by assumption)) (by decide)))
local macro_rules | `(tactic| walk_at "m room") => `(tactic| exact Ok.room (by assumption))
local macro_rules | `(tactic| walk_at "m dict") => `(tactic| (first
  | exact DictAt.fr (by k_asm) (by k_asm)
  | exact DictAt.news (by k_asm) (by k_mem) (by k_asm) (by k_asm)))
local macro_rules | `(tactic| walk_at "getMethod ref") => `(tactic| (k_here; k_dflt (first
  | ((with_reducible show wpAny _ _ (getMethod (Value.ref _) (Str.ofString "get") _) _ _ _); refine meth_at PySem.F.slot_dict_get PySem.F.type_dict_get (by walk_at "m dict") ?_)
  | ((with_reducible show wpAny _ _ (getMethod (Value.ref _) (Str.ofString "copy") _) _ _ _); refine meth_at PySem.F.slot_dict_copy PySem.F.type_dict_copy (by walk_at "m dict") ?_)
  | ((with_reducible show wpAny _ _ (getMethod (Value.ref _) (Str.ofString "pop") _) _ _ _); refine meth_at PySem.F.slot_dict_pop PySem.F.type_dict_pop (by walk_at "m dict") ?_))))
local macro_rules | `(tactic| walk_at "call builtin:dict.get") => `(tactic| (k_here; k_dflt (refine' get2_at (by walk_at "m dict") ?v ?_; (case v => first | assumption | with_unfolding_all exact Eq.refl (Value.bool _) | rfl); k_whole)))
local macro_rules | `(tactic| walk_at "subscriptTail") => `(tactic| (k_here; (with_reducible show wpAny _ _ (subscriptTail _ _ (Value.ref _) (Value.str _ _)) _ _ _); k_dflt (refine' item_at (by walk_at "m dict") ?v ?_ ?hs; (case v => first | assumption | rfl); (case hs => with_unfolding_all rfl); k_whole)))
local macro_rules | `(tactic| walk_at "exec For") => `(tactic| (k_here; k_dflt (refine For_m (by k_asm) (by rfl) (by rfl) ?_ (by intro _; rfl) PassesOwn.never)))
local macro_rules | `(tactic| k_all) => `(tactic| assumption)
local macro_rules | `(tactic| walk_at "m sub") => `(tactic| (intro p9 hp9; simp only [List.mem_append, List.mem_cons, List.not_mem_nil, or_false, false_or] at hp9 ⊢; grind))
local macro_rules | `(tactic| walk_at "callWith") => `(tactic| ((with_reducible show wpAny _ _ (callWith _ (Value.builtin _) [_] (backTo _ (starEach (_ :: _) _)) []) _ _ _); refine callWith_method1 ?_))

local macro_rules | `(tactic| walk_at "Exists") => `(tactic| (k_here; (refine made_m (by k_asm) (by first | k_asm | exact News.nil) (Top.nolimit (by k_asm)) (by rfl) (of_decide_eq_true (by rfl)) ?_; intro h' o' F' N' l1 lo' hd'; (try k_lt l1); (try dsimp only at N'); (try dsimp only))))
local macro_rules | `(tactic| walk_at "call ref") => `(tactic| (k_here; (with_reducible show wpAny _ _ (call (Value.ref 332) _) _ _ _); k_dflt (refine' use_words ?kA ?kX ?kT ?kF ?kN ?_; (case kA => walk_at "m ok"); (case kX => k_asm); (case kT => k_asm); (case kF => k_asm); (case kN => k_asm); k_whole); intro r' h' tk' n' vs' W' F' N' l1; (try (replace l1 := allNe_of l1; simp only [AllNe, and_true] at l1)); (try k_sweep)))
local macro_rules | `(tactic| walk_at "call ref") => `(tactic| (k_here; (with_reducible show wpAny _ _ (call (Value.ref 339) _) _ _ _); k_dflt (refine' use_draw ?kA ?kX ?kT ?kF ?kN ?kU ?kS ?kI ?kL ?k0 ?k1 ?k2 ?k3 ?_; (case kA => walk_at "m ok"); (case kX => k_asm); (case kT => k_asm); (case kF => k_asm); (case kN => k_asm); (case kU => k_updF); (case kS => assumption); (case kI => assumption); (case kL => first | assumption | omega); (case k0 => first | decide | assumption); (case k1 => first | decide | assumption); (case k2 => decide); (case k3 => decide); k_whole); intro k' t' pl' acc' tp' ta' h' tk' k0' k1' a0' a1' F' N'; (try dsimp only at N'); (try k_sweep)))
local macro_rules | `(tactic| walk_at "subscriptTail") => `(tactic| (k_here; (with_reducible show wpAny _ _ (subscriptTail _ _ (Value.ref _) (Value.int _ _)) _ _ _); k_dflt (refine' item_words ?kN ?kM ?kW ?k0 ?k1 ?_ ?kS; (case kW => assumption); (case kN => k_asm); (case kM => k_mem); (case k0 => assumption); (case k1 => assumption); (case kS => with_unfolding_all rfl)); intro x' t' hx'))

local macro_rules | `(tactic| walk_at "call ref") => `(tactic| (k_here; (with_reducible show wpAny _ _ (call (Value.ref 367) _) _ _ _); k_dflt (refine' use_live ?kA ?kX ?kT ?kF ?kN ?kD ?kv ?_; (case kA => walk_at "m ok"); (case kX => k_asm); (case kT => k_asm); (case kF => k_asm); (case kN => k_asm); (case kD => walk_at "m dict"); (case kv => first | assumption | rfl); k_whole); intro h' tk' F' N'; (try k_sweep)))

local macro_rules | `(tactic| walk_at "call builtin:str.join") => `(tactic| (k_here; k_dflt (refine' join_m ?N ?M ?I ?S ?n ?_; (case N => k_asm); (case M => k_mem); (case I => assumption); (case S => assumption); (case n => assumption); k_whole); intro t' k'))

section
variable {w : World} {A : Around} {E : Value → Shared → Prop} {s : Shared} {p : Program} {loose : List Str} {mean : ExcName → Option Value} {mg mb : Str → Option Value}
local macro_rules | `(tactic| walk_at "pyIter ref") => `(tactic| (k_here; with_reducible refine Halt.intro ?_))
local macro_rules | `(tactic| walk_at "setItem ref str") => `(tactic| (k_here; k_dflt (refine' kda_set (knd := PySem.strKind _ _) ?F ?N ?U ?d (strKind_is _ _ _ _) ?z ?_; (case F => k_asm); (case N => k_asm); (case U => k_updF); (case d => k_asm); (case z => assumption)); intro h' o' F' N' hd'; (try dsimp only at N')))
set_option maxHeartbeats 4000000 in
theorem spec_bare {Q : Value → Shared → Prop} {a : Addr} {kvs : List (Str × Value)} (hA : Ok A 1) (X : (hd.heap_39 w.params).In s.heap) (T : Top p loose mean mg mb s.heap) (D : DictAt w s.heap a kvs) (hz : kvs.length ≤ 100)
    (ret : ∀ b o h' tk, s.heap.StaysIn h' → h'.get? b = some o → s.heap.get? b = none → (b == sysModules) = false → o.IsDictOf (PySem.strKind PR w) (strip kvs) → Q (.ref b) { s with heap := h', toks := tk }) :
    wpAny (model PR w) A (call (.ref 381) [.ref a]) Q E s := by
  refine' enterN (news := []) (binds := [(Str.ofString "token", .ref a)]) ?kX ?kT ?kS ?kZ ?kN ?kO ?kC ?kR ?kB ?kL ?_ ?c1 ?c2 ?c3 ?c4
  case kX => assumption
  case kT => first | exact Top.nolimit (by assumption) | assumption
  case kO => k_is
  case kC => k_is
  case kR => exact Ok.room (by assumption)
  case kB => exact BindsTo.of_eq rfl
  case kL => exact locs rfl
  case c1 => exact rfl
  case c2 => exact rfl
  case c3 => exact rfl
  case c4 => decide
  case kS => exact fun _ _ e => e
  case kZ => exact Nat.le_refl _
  case kN => exact fun _ hp => nomatch hp
  intro L h tk F N hk hn
  try dsimp only
  try k_fold
  clear hk hn
  k_steps
  rename News _ _ _ _ => N1
  rename Fr _ _ _ _ => F1
  rename (_ == sysModules) = false => lo1
  rename Obj.IsDictOf (PySem.strKind _ _) _ _ => hd1
  refine loopD (fun i m news => ∃ ar o, news = [(ar, o)] ∧ (ar == sysModules) = false ∧ o.IsDictOf (PySem.strKind PR w) (strip (kvs.take i)) ∧ m (Str.ofString "rows") = some (.ref ar) ∧ m (Str.ofString "token") = some (.ref a)) (by exact hA.hh) (D.keeps F1.keep) F1
    (Nat.ne_of_lt (Nat.lt_of_lt_of_le D.lt F1.above)) N1 (NoIt.cons (cls_dict hd1) .nil) ⟨_, _, rfl, lo1, hd1, by rfl, by rfl⟩ ?_ ?_
  · rintro i k xv t m₁ news₁ h1 tk1 own hx hno ⟨ar, o, rfl, lo, hd2, ht, htk⟩ hown D2 F2 N2
    have F0 := fr_name (x := Str.ofString "rows") F2 ((if_neg (by decide)).trans ht)
    have F3 := fr_name (x := Str.ofString "token") F0 ((if_neg (by decide)).trans ((if_neg (by decide)).trans htk))
    have hne := own_ne N2 hown D.some (.head _) (cls_dict hd2).2.2
    have N3 : News _ _ _ ((ar, o) :: own) := fun p hp => N2 p (by simpa [or_comm] using hp)
    have hv := valueAt_get D.nodup hx
    have hk := nodup_take D.nodup hx
    have hk2 : k ∉ (strip (kvs.take i)).map (·.1) := fun q => hk (by
      obtain ⟨p, hp, e⟩ := List.mem_map.mp q
      exact List.mem_map.mpr ⟨p, (List.mem_filter.mp hp).1, e⟩)
    have hsz : (strip (kvs.take i)).length ≤ sizeLine := by
      have q1 := List.length_filter_le (fun p : Str × Value => noMark p.1) (kvs.take i)
      have q2 : (kvs.take i).length ≤ kvs.length := by rw [List.length_take]; omega
      rw [sizeLine_eq]
      unfold strip
      omega
    have hst := fun v => stored_new (v := v) hk2
    clear F0 F1 N1 F2 N2 ht htk lo1 hd1 hno
    k_steps
    all_goals (
      rename News _ _ _ _ => N4
      rename Fr _ _ _ _ => F4)
    · rename Obj.IsDictOf (PySem.strKind _ _) _ (stored _ _ _) => hd3
      refine LPost.intro F4 (news_rot N4) (NoIt.cons (cls_dict hd3) .nil) ⟨_, _, rfl, lo, ?_, by rfl, by rfl⟩
      rw [take_snoc hx, strip_snoc, noMark]
      simp only [*, Bool.and_self, if_true]
      rw [← hst]; exact hd3
    all_goals (
      refine LPost.intro F4 (news_rot N4) (NoIt.cons (cls_dict hd2) .nil) ⟨_, _, rfl, lo, ?_, by rfl, by rfl⟩
      rw [take_snoc hx, strip_snoc, noMark]
      simp only [*, Bool.and_false, Bool.false_and, Bool.true_and, Bool.false_eq_true, if_false, List.append_nil])
  · rintro m₁ news₁ h1 tk1 ⟨ar, o, rfl, lo, hd2, ht, htk⟩ F2 N2
    rw [List.take_length] at hd2
    have F3 := fr_name F2 ht
    clear F1 N1 F2 lo1 hd1
    k_steps
    exact ret _ _ _ _ F3.keep (News.get N2 (.head _)) (News.fresh N2 (.head _)) lo hd2
end

section
variable {w : World} {A : Around} {E : Value → Shared → Prop} {s : Shared} {p : Program} {loose : List Str} {mean : ExcName → Option Value} {mg mb : Str → Option Value}
  {h₀ : Heap} {L : Addr} {m : Str → Option Value} {news : List (Addr × Obj)} {g : Obj → List (Addr × Obj)}
theorem notin_at {a : Addr} {kvs : List (Str × Value)} {x : Str} {t : PySem.Tok} {b : Bool} {Q : Value → Shared → Prop} (D : DictAt w s.heap a kvs) (hb : (!(valueAt kvs x).isSome) = b)
    (h : Q (.bool b) { s with toks := s.toks + 1 }) : wpAny (model PR w) A (compareOp .NotIn (.str x t) (.ref a)) Q E s :=
  wpAny_notIn_of (strKind_is PR w x t) D.1 D.2.mapOf (by rw [hb]; exact h)
theorem copy_m {a : Addr} {kvs : List (Str × Value)} {Q : Value → Shared → Prop} (F : Fr h₀ L s.heap m) (N : News h₀ L s.heap news) (hbig : h₀.NoLimit) (D : DictAt w s.heap a kvs) (hz : kvs.length ≤ sizeLine)
    (h : ∀ r h' o, Fr h₀ L h' m → News h₀ L h' ((r, o) :: news) → (∀ p ∈ news, p.1 < r) → (r == sysModules) = false → o.IsDictOf (PySem.strKind PR w) kvs → Q (.ref r) { s with heap := h' }) :
    wpAny (model PR w) A (call (.builtin "dict.copy") [.ref a]) Q E s := by
  refine call_meetsIn PySem.F.slot_dict_copy D.2.typeIs PySem.F.entry_dict_copy (PySem.F.args_dict_copy_1 _) (meets_dict_copy (PySem.strKind PR w) a D.1) ⟨kvs, D.2, hz, fun h' d1 d2 k => ?_⟩
  obtain ⟨o, ho, hd⟩ := Heap.dictOf_iff.mp d1
  have hn : s.heap.get? s.heap.objs.size = none := Heap.get?_none_of_le (Nat.le_refl _)
  exact h _ _ o (fr_stays F k) (news_born F N k ho hn) (fun p hp => Heap.lt_size (N p hp).1) (F.notModules (modules_low hbig)) hd
theorem pop_absent {a : Addr} {kvs : List (Str × Value)} {x : Str} {t : PySem.Tok} {d : Value} {Q : Value → Shared → Prop} (D : DictAt w s.heap a kvs) (hv : valueAt kvs x = none)
    (h : Q d { s with toks := s.toks + 1 }) : wpAny (model PR w) A (call (.builtin "dict.pop") [.ref a, .str x t, d]) Q E s :=
  call_meetsIn PySem.F.slot_dict_pop D.2.typeIs PySem.F.entry_dict_pop (PySem.F.args_dict_pop_3 _ _ _) (meets_dict_pop_default (PySem.strKind PR w) a (strKind_is PR w x t) D.1 (by rfl) d) ⟨kvs, D.2, hv, h⟩
local macro_rules | `(tactic| walk_at "compareOp NotIn str ref") => `(tactic| (k_here; k_dflt (first | refine notin_at (b := true) (by walk_at "m dict") (by with_unfolding_all rfl) ?_ | refine notin_at (b := false) (by walk_at "m dict") (by with_unfolding_all rfl) ?_)))
local macro_rules | `(tactic| walk_at "call builtin:dict.copy") => `(tactic| (k_here; k_dflt (refine' copy_m ?F ?N ?B (by walk_at "m dict") ?z ?_; (case F => k_asm); (case N => k_asm); (case B => exact Top.nolimit (by k_asm)); (case z => exact Nat.le_of_ble_eq_true (by with_unfolding_all rfl)); k_whole); intro r' h' o' F' N' l1 lo' hd'; (try k_lt l1)))
local macro_rules | `(tactic| walk_at "call builtin:dict.pop") => `(tactic| (k_here; k_dflt (first
  | (refine' kob_pop (knd := PySem.strKind _ _) (more := [_]) ?F ?N ?U ?d (strKind_is _ _ _ _) (.inr ⟨_, rfl⟩) (by rfl) (PySem.F.args_dict_pop_3 _ _ _) ?l ?z ?_; (case F => k_asm); (case N => k_asm); (case U => k_updF); (case d => k_asm); (case l => rfl); (case z => exact Nat.le_of_ble_eq_true (by with_unfolding_all rfl)); intro h' o' F' N' hd'; (try dsimp only at N'))
  | (refine' pop_absent (by walk_at "m dict") ?v ?_; (case v => rfl)))))
set_option maxHeartbeats 4000000 in
theorem spec_clean {Q : Value → Shared → Prop} {a : Addr} {kvs : List (Str × Value)} {tkn : Tk} (hA : Ok A 0) (X : (hd.heap_39 w.params).In s.heap) (T : Top p loose mean mg mb s.heap) (D : DictAt w s.heap a kvs) (I : TkIs kvs tkn)
    (ret : ∀ b h' tk, s.heap.StaysIn h' → DictAt w h' b (strip kvs) → Q (.ref b) { s with heap := h', toks := tk }) :
    wpAny (model PR w) A (call (.ref 199) [.ref a]) Q E s := by
  refine' enterN (news := []) (binds := [(Str.ofString "token", .ref a)]) ?kX ?kT ?kS ?kZ ?kN ?kO ?kC ?kR ?kB ?kL ?_ ?c1 ?c2 ?c3 ?c4
  case kX => assumption
  case kT => first | exact Top.nolimit (by assumption) | assumption
  case kO => k_is
  case kC => k_is
  case kR => exact Ok.room (by assumption)
  case kB => exact BindsTo.of_eq rfl
  case kL => exact locs rfl
  case c1 => exact rfl
  case c2 => exact rfl
  case c3 => exact rfl
  case c4 => decide
  case kS => exact fun _ _ e => e
  case kZ => exact Nat.le_refl _
  case kN => exact fun _ hp => nomatch hp
  intro L h tk F N hk hn
  try dsimp only
  try k_fold
  clear hk hn
  cases I
  case obj t ty rest h hr =>
    cases hr <;> k_steps
    all_goals (rename Fr _ _ _ _ => F9; first
      | exact ret _ _ _ F9.keep (D.keeps F9.keep)
      | exact ret _ _ _ F9.keep (DictAt.news (by k_asm) (.head _) (by assumption) (by assumption)))
  all_goals (
    k_steps
    rename Fr _ _ _ _ => F9; first
      | exact ret _ _ _ F9.keep (D.keeps F9.keep)
      | exact ret _ _ _ F9.keep (DictAt.news (by k_asm) (.head _) (by assumption) (by assumption)))
end

end
inductive J1 where
  | t (live : Bool) (raw en : Str)
  | o (v : Value)
def jtext (out : List J1) (live : Bool) (raw : Str) : List J1 := match out.getLast? with
  | some (.t lv rw en) => if lv == live && !(amp en && isRest raw) then out.dropLast ++ [.t lv (rw ++ raw) raw] else out ++ [.t live raw raw]
  | _ => out ++ [.t live raw raw]
def jstep (out : List J1) (p : Value × Tk) : List J1 := match p.2 with
  | .obj _ _ => out ++ [.o p.1]
  | .text md raw => jtext out (md.getD true) raw
def joined (ts : List (Value × Tk)) : List J1 := ts.foldl jstep []
theorem joined_snoc (ts : List (Value × Tk)) (p : Value × Tk) : joined (ts ++ [p]) = jstep (joined ts) p := by simp [joined, List.foldl_append]
def mstep (out : List J1) (p : Value × Tk) : List J1 := match p.2 with
  | .obj _ _ => out ++ [.o p.1]
  | .text _ raw => if raw == Str.ofString "" then out else jtext out true raw
def merged1 (ts : List (Value × Tk)) : List J1 := ts.foldl mstep []
theorem merged_snoc (ts : List (Value × Tk)) (p : Value × Tk) : merged1 (ts ++ [p]) = mstep (merged1 ts) p := by simp [merged1, List.foldl_append]
theorem jtext_nil (live : Bool) (raw : Str) : jtext [] live raw = [.t live raw raw] := rfl
theorem jtext_o (l : List J1) (v : Value) (live : Bool) (raw : Str) : jtext (l ++ [.o v]) live raw = l ++ [.o v] ++ [.t live raw raw] := by simp [jtext]
theorem jtext_t (l : List J1) (lv live : Bool) (rw en raw : Str) : jtext (l ++ [.t lv rw en]) live raw = if lv == live && !(amp en && isRest raw) then l ++ [.t lv (rw ++ raw) raw] else l ++ [.t lv rw en] ++ [.t live raw raw] := by simp [jtext]
def JOk (n : Nat) : J1 → Prop
  | .t _ raw en => raw.length ≤ n ∧ en ∈ words
  | .o _ => True
theorem JOk.mono {n k : Nat} (h : n ≤ k) : ∀ {j : J1}, JOk n j → JOk k j
  | .t .., ⟨a, b⟩ => ⟨Nat.le_trans a h, b⟩
  | .o _, _ => trivial
theorem jtext_ok {n : Nat} {out : List J1} {live : Bool} {raw : Str} (h : ∀ j ∈ out, JOk n j) (hr : raw ∈ words) : ∀ j ∈ jtext out live raw, JOk (n + 16) j := by
  have hl := words_len raw hr
  have h' : ∀ j ∈ out, JOk (n + 16) j := fun j hj => (h j hj).mono (by omega)
  have hs : JOk (n + 16) (.t live raw raw) := ⟨by omega, hr⟩
  have ha : ∀ j ∈ out ++ [.t live raw raw], JOk (n + 16) j := fun j hj => by
    rcases List.mem_append.mp hj with q | q
    · exact h' j q
    · rw [List.mem_singleton.mp q]; exact hs
  intro j hj
  unfold jtext at hj
  split at hj
  · rename_i lv rw en e
    split at hj
    · rcases List.mem_append.mp hj with q | q
      · exact h' j (List.dropLast_subset _ q)
      · rw [List.mem_singleton.mp q]
        have := (h _ (List.mem_of_getLast? e)).1
        refine ⟨?_, hr⟩
        rw [Str.length_append]; omega
    · exact ha j hj
  · exact ha j hj
theorem joined_ok (ts : List (Value × Tk)) (h : ∀ p ∈ ts, TkWord p.2) : ∀ j ∈ joined ts, JOk (16 * ts.length) j := by
  have aux : ∀ (l : List (Value × Tk)) (out : List J1) (n : Nat), (∀ j ∈ out, JOk n j) → (∀ p ∈ l, TkWord p.2) → ∀ j ∈ l.foldl jstep out, JOk (n + 16 * l.length) j := by
    intro l
    induction l with
    | nil => intro out n h1 _; simpa using h1
    | cons p r ih =>
      intro out n h1 h2
      rw [List.foldl_cons]
      have h3 : ∀ j ∈ jstep out p, JOk (n + 16) j := by
        have hp := h2 p (.head _)
        unfold jstep
        cases e : p.2 with
        | text md raw => rw [e] at hp; exact jtext_ok h1 hp
        | obj ty rest =>
          intro j hj
          rcases List.mem_append.mp hj with q | q
          · exact (h1 j q).mono (by omega)
          · rw [List.mem_singleton.mp q]; trivial
      have := ih (jstep out p) (n + 16) h3 fun q hq => h2 q (.tail _ hq)
      intro j hj
      exact (this j hj).mono (by simp only [List.length_cons]; omega)
  intro j hj
  have := aux ts [] 0 (fun _ h => nomatch h) h j hj
  simpa using this
theorem joined_len (ts : List (Value × Tk)) : (joined ts).length ≤ ts.length := by
  have aux : ∀ (l : List (Value × Tk)) (out : List J1), (l.foldl jstep out).length ≤ out.length + l.length := by
    intro l
    induction l with
    | nil => intro out; simp
    | cons p r ih =>
      intro out
      rw [List.foldl_cons]
      have h1 := ih (jstep out p)
      have h2 : (jstep out p).length ≤ out.length + 1 := by
        unfold jstep
        split
        · simp
        · unfold jtext
          split
          · split
            · simp only [List.length_append, List.length_dropLast, List.length_cons, List.length_nil]
              omega
            · simp
          · simp
      simp only [List.length_cons]
      omega
  have := aux ts []
  simpa [joined] using this
section
variable {w : World} {A : Around} {E : Value → Shared → Prop} {s : Shared} {h₀ : Heap} {L : Addr} {m : Str → Option Value} {news : List (Addr × Obj)}
theorem truthy_snoc {D : Addr} {vs : List Value} {x : Value} {n : Nat} {Q : Bool → Shared → Prop} (N : News h₀ L s.heap news) (hm : (D, listOf (vs ++ [x]).toArray n) ∈ news) (hl : vs.length ≤ 1000) (h : Q true { s with toks := s.toks + 1 + 1 }) :
    wpAny (model PR w) A (truthy (.ref D)) Q E s := by
  refine wpAny_truthy_list (items := (vs ++ [x]).toArray) ⟨_, (N _ hm).1, rfl, n, rfl⟩ ?_ ?_
  · simp; omega
  · have e : ((vs ++ [x]).toArray.isEmpty) = false := by cases vs <;> rfl
    rw [e]; exact h
theorem last_snoc {D : Addr} {vs : List Value} {x : Value} {n : Nat} {u : PySem.Tok} {value slice : Expr} {Q : Value → Shared → Prop} (N : News h₀ L s.heap news) (hm : (D, listOf (vs ++ [x]).toArray n) ∈ news) (h : Q x s)
    (hs : subscripted slice false (.ref D) (.int (-1) u) = operate [.ref D, .int (-1) u] (getItem (.ref D) (.int (-1) u)) := by with_unfolding_all rfl) :
    wpAny (model PR w) A (subscriptTail value slice (.ref D) (.int (-1) u)) Q E s := by
  have hl : s.heap.IsList D (vs ++ [x]).toArray := ⟨_, (N _ hm).1, rfl, n, rfl⟩
  refine tail_any hl.typeIs slot_list_getitem.lookup (wpAny_getItem_list_neg hl (x := x) ?_ ?_ ?_ ?_ h) hs
  · decide
  · simp; omega
  · decide
  · have e : ((-1 : Int) + ((vs ++ [x]).toArray.size : Nat)).toNat = vs.length := by simp; omega
    rw [e]; simp
end

def Born (h h' : Heap) (l : List (Addr × Obj)) : Prop := ∀ p ∈ l, h'.get? p.1 = some p.2 ∧ h.get? p.1 = none
theorem News.born {h₀ h : Heap} {L : Addr} {l : List (Addr × Obj)} (N : News h₀ L h l) : Born h₀ h l := fun p hp => ⟨(N p hp).1, (N p hp).2.2⟩
def fourKvs (t1 t2 t3 : PySem.Tok) (live : Bool) (raw en : Str) : List (Str × Value) :=
  [(Str.ofString "type", .str (Str.ofString "text") t1), (Str.ofString "raw", .str raw t2), (Str.ofString "end", .str en t3), (Str.ofString "_emphasis", .bool live)]
inductive OutRel (w : World) (h₀ : Heap) : List (Addr × Obj) → List Value → List J1 → Prop
  | nil : OutRel w h₀ [] [] []
  | o {ds : List (Addr × Obj)} {vs : List Value} {js : List J1} {a : Addr} {ty : Str} {rest : List (Str × Value)} {t : PySem.Tok} : OutRel w h₀ ds vs js → DictAt w h₀ a ((Str.ofString "type", .str ty t) :: rest) → (ty == Str.ofString "text") = false →
      OutRel w h₀ ds (vs ++ [.ref a]) (js ++ [.o (.ref a)])
  | t {ds : List (Addr × Obj)} {vs : List Value} {js : List J1} {b : Addr} {o : Obj} {t1 t2 t3 : PySem.Tok} {live : Bool} {raw en : Str} : OutRel w h₀ ds vs js → (∀ p ∈ ds, p.1 ≠ b) → (b == sysModules) = false →
      o.IsDictOf (PySem.strKind PR w) (fourKvs t1 t2 t3 live raw en) → OutRel w h₀ ((b, o) :: ds) (vs ++ [.ref b]) (js ++ [.t live raw en])
theorem OutRel.len {w : World} {h₀ : Heap} {ds : List (Addr × Obj)} {vs : List Value} {js : List J1} (R : OutRel w h₀ ds vs js) : vs.length = js.length := by
  induction R with
  | nil => rfl
  | o _ _ _ ih => simp [ih]
  | t _ _ _ _ ih => simp [ih]
theorem OutRel.noIt {w : World} {h₀ : Heap} {ds : List (Addr × Obj)} {vs : List Value} {js : List J1} (R : OutRel w h₀ ds vs js) : NoIt ds := by
  induction R with
  | nil => exact .nil
  | o _ _ _ ih => exact ih
  | t _ _ _ hd ih => exact .cons (cls_dict hd) ih
def ItemIn (w : World) (h₀ : Heap) (ds : List (Addr × Obj)) (v : Value) : J1 → Prop
  | .t live raw en => ∃ b o t1 t2 t3, v = .ref b ∧ (b, o) ∈ ds ∧ (b == sysModules) = false ∧ o.IsDictOf (PySem.strKind PR w) (fourKvs t1 t2 t3 live raw en)
  | .o u => v = u ∧ ∃ a ty t rest, u = .ref a ∧ DictAt w h₀ a ((Str.ofString "type", .str ty t) :: rest) ∧ (ty == Str.ofString "text") = false
theorem ItemIn.mono {w : World} {h₀ : Heap} {ds ds' : List (Addr × Obj)} {v : Value} (hs : ∀ p ∈ ds, p ∈ ds') : ∀ {j : J1}, ItemIn w h₀ ds v j → ItemIn w h₀ ds' v j
  | .t .., ⟨b, o, t1, t2, t3, e, hm, r⟩ => ⟨b, o, t1, t2, t3, e, hs _ hm, r⟩
  | .o _, h => h
theorem get_snoc {α : Type} {l : List α} {x v : α} {i : Nat} (e : (l ++ [x])[i]? = some v) : (i < l.length ∧ l[i]? = some v) ∨ (i = l.length ∧ v = x) := by
  by_cases h : i < l.length
  · rw [List.getElem?_append_left h] at e; exact .inl ⟨h, e⟩
  · rw [List.getElem?_append_right (by omega)] at e
    have : i - l.length = 0 := by
      have := (List.getElem?_eq_some_iff.mp e).1
      simp at this; omega
    rw [this] at e
    simp at e
    exact .inr ⟨by omega, e.symm⟩
theorem OutRel.at {w : World} {h₀ : Heap} {ds : List (Addr × Obj)} {vs : List Value} {js : List J1} (R : OutRel w h₀ ds vs js) : ∀ {i : Nat} {v : Value}, vs[i]? = some v → ∃ j, js[i]? = some j ∧ ItemIn w h₀ ds v j := by
  induction R with
  | nil => intro i v e; simp at e
  | @o ds vs js a ty rest t R D h ih =>
    intro i v e
    rcases get_snoc e with ⟨hi, e⟩ | ⟨hi, rfl⟩
    · obtain ⟨j, hj, q⟩ := ih e
      exact ⟨j, by rw [List.getElem?_append_left (by rw [← R.len]; exact hi)]; exact hj, q⟩
    · exact ⟨.o (.ref a), by rw [hi, R.len]; simp, rfl, a, ty, t, rest, rfl, D, h⟩
  | @t ds vs js b o t1 t2 t3 live raw en R hb lo hd ih =>
    intro i v e
    rcases get_snoc e with ⟨hi, e⟩ | ⟨hi, rfl⟩
    · obtain ⟨j, hj, q⟩ := ih e
      exact ⟨j, by rw [List.getElem?_append_left (by rw [← R.len]; exact hi)]; exact hj, q.mono fun p hp => .tail _ hp⟩
    · exact ⟨.t live raw en, by rw [hi, R.len]; simp, b, o, t1, t2, t3, rfl, .head _, lo, hd⟩
def RowIn (w : World) (rds : List (Addr × Obj)) (v : Value) : J1 → Prop
  | .t live raw _ => ∃ b o kvs, v = .ref b ∧ (b, o) ∈ rds ∧ (b == sysModules) = false ∧ o.IsDictOf (PySem.strKind PR w) kvs ∧ TkIs kvs (.text (if live then none else some false) raw)
  | .o u => v = u
theorem RowIn.mono {w : World} {ds ds' : List (Addr × Obj)} {v : Value} (hs : ∀ p ∈ ds, p ∈ ds') : ∀ {j : J1}, RowIn w ds v j → RowIn w ds' v j
  | .t .., ⟨b, o, kvs, e, hm, r⟩ => ⟨b, o, kvs, e, hs _ hm, r⟩
  | .o _, h => h
def RowsIn (w : World) (rds : List (Addr × Obj)) (rvs : List Value) (js : List J1) : Prop := rvs.length = js.length ∧ ∀ (i : Nat) (v : Value), rvs[i]? = some v → ∃ j : J1, js[i]? = some j ∧ RowIn w rds v j
theorem RowsIn.snoc {w : World} {rds rds' : List (Addr × Obj)} {rvs : List Value} {js : List J1} {v : Value} {j : J1} (R : RowsIn w rds rvs js) (hs : ∀ p ∈ rds, p ∈ rds') (h : RowIn w rds' v j) : RowsIn w rds' (rvs ++ [v]) (js ++ [j]) := by
  refine ⟨by simp [R.1], fun i u e => ?_⟩
  rcases get_snoc e with ⟨hi, e⟩ | ⟨hi, rfl⟩
  · obtain ⟨k, hk, q⟩ := R.2 i u e
    exact ⟨k, by rw [List.getElem?_append_left (by rw [← R.1]; exact hi)]; exact hk, q.mono hs⟩
  · exact ⟨j, by rw [hi, R.1]; simp, h⟩
theorem toArray_push {vs : List Value} {x : Value} : vs.toArray.push x = (vs ++ [x]).toArray := by simp
section
variable {w : World} {A : Around} {E : Value → Shared → Prop} {s : Shared} {p : Program} {loose : List Str} {mean : ExcName → Option Value} {mg mb : Str → Option Value}
  {h₀ : Heap} {L : Addr} {m : Str → Option Value} {news : List (Addr × Obj)}
theorem use_apart {Q : Value → Shared → Prop} {x y : Str} {t u : PySem.Tok} (hA : Ok A 1) (X : (hd.heap_39 w.params).In h₀) (T : Top p loose mean mg mb h₀) (F : Fr h₀ L s.heap m) (N : News h₀ L s.heap news) (hl : x.length ≤ 1000) (hy : y ∈ words)
    (ret : ∀ h' tk, Fr h₀ L h' m → News h₀ L h' news → Q (.bool (amp x && isRest y)) { s with heap := h', toks := tk }) :
    wpAny (model PR w) A (call (.ref 360) [.str x t, .str y u]) Q E s :=
  spec_apart hA (X.keeps F.keep) (T.keeps F.keep) hl hy fun h' tk k => ret h' tk (fr_stays F k) (news_stays N k)
end
theorem TkIs.textFacts {kvs : List (Str × Value)} {md : Option Bool} {raw : Str} (I : TkIs kvs (.text md raw)) :
    (∃ t, valueAt kvs (Str.ofString "type") = some (.str (Str.ofString "text") t)) ∧ (∃ t, valueAt kvs (Str.ofString "raw") = some (.str raw t)) ∧ (valueAt kvs (Str.ofString "_emphasis")).getD (.bool true) = .bool (md.getD true) := by
  cases I
  · exact ⟨⟨_, by rfl⟩, ⟨_, by rfl⟩, by rfl⟩
  · exact ⟨⟨_, by rfl⟩, ⟨_, by rfl⟩, by rfl⟩

theorem anew12 : True ∧ True := by
  w_top off
  first | (walk1 <;> trivial) | exact ⟨trivial, trivial⟩
section
local macro_rules | `(tactic| walk_at "m ok") => `(tactic| (first
  | assumption
  | exact Ok.mono (by assumption) (by decide)
  | exact Ok.mono (Ok.deeper (by assumption) _) (by decide)
  | exact Ok.mono (Ok.in1 (Ok.deeper (by assumption) _)) (by decide)
  | exact Ok.mono (Ok.in1 (by assumption)) (by decide)))
local macro_rules | `(tactic| walk_at "m room") => `(tactic| exact Ok.room (by assumption))
local macro_rules | `(tactic| walk_at "m dict") => `(tactic| (first
  | exact DictAt.fr (by k_asm) (by k_asm)
  | exact DictAt.news (by k_asm) (by k_mem) (by k_asm) (by k_asm)))
local macro_rules | `(tactic| walk_at "getMethod ref") => `(tactic| (k_here; k_dflt (first
  | ((with_reducible show wpAny _ _ (getMethod (Value.ref _) (Str.ofString "get") _) _ _ _); refine meth_at PySem.F.slot_dict_get PySem.F.type_dict_get (by walk_at "m dict") ?_)
  | ((with_reducible show wpAny _ _ (getMethod (Value.ref _) (Str.ofString "copy") _) _ _ _); refine meth_at PySem.F.slot_dict_copy PySem.F.type_dict_copy (by walk_at "m dict") ?_)
  | ((with_reducible show wpAny _ _ (getMethod (Value.ref _) (Str.ofString "pop") _) _ _ _); refine meth_at PySem.F.slot_dict_pop PySem.F.type_dict_pop (by walk_at "m dict") ?_))))
local macro_rules | `(tactic| walk_at "call builtin:dict.get") => `(tactic| (k_here; k_dflt (refine' get2_at (by walk_at "m dict") ?v ?_; (case v => first | assumption | with_unfolding_all exact Eq.refl (Value.bool _) | rfl); k_whole)))
local macro_rules | `(tactic| walk_at "subscriptTail") => `(tactic| (k_here; (with_reducible show wpAny _ _ (subscriptTail _ _ (Value.ref _) (Value.str _ _)) _ _ _); k_dflt (refine' item_at (by walk_at "m dict") ?v ?_ ?hs; (case v => first | assumption | rfl); (case hs => with_unfolding_all rfl); k_whole)))
local macro_rules | `(tactic| walk_at "exec For") => `(tactic| (k_here; k_dflt (refine For_m (by k_asm) (by rfl) (by rfl) ?_ (by intro _; rfl) PassesOwn.never)))
local macro_rules | `(tactic| k_all) => `(tactic| assumption)
local macro_rules | `(tactic| walk_at "m sub") => `(tactic| (intro p9 hp9; simp only [List.mem_append, List.mem_cons, List.not_mem_nil, or_false, false_or] at hp9 ⊢; grind))
local macro_rules | `(tactic| walk_at "callWith") => `(tactic| ((with_reducible show wpAny _ _ (callWith _ (Value.builtin _) [_] (backTo _ (starEach (_ :: _) _)) []) _ _ _); refine callWith_method1 ?_))

local macro_rules | `(tactic| walk_at "Exists") => `(tactic| (k_here; (refine made_m (by k_asm) (by first | k_asm | exact News.nil) (Top.nolimit (by k_asm)) (by rfl) (of_decide_eq_true (by rfl)) ?_; intro h' o' F' N' l1 lo' hd'; (try k_lt l1); (try dsimp only at N'); (try dsimp only))))
local macro_rules | `(tactic| walk_at "call ref") => `(tactic| (k_here; (with_reducible show wpAny _ _ (call (Value.ref 332) _) _ _ _); k_dflt (refine' use_words ?kA ?kX ?kT ?kF ?kN ?_; (case kA => walk_at "m ok"); (case kX => k_asm); (case kT => k_asm); (case kF => k_asm); (case kN => k_asm); k_whole); intro r' h' tk' n' vs' W' F' N' l1; (try (replace l1 := allNe_of l1; simp only [AllNe, and_true] at l1)); (try k_sweep)))
local macro_rules | `(tactic| walk_at "call ref") => `(tactic| (k_here; (with_reducible show wpAny _ _ (call (Value.ref 339) _) _ _ _); k_dflt (refine' use_draw ?kA ?kX ?kT ?kF ?kN ?kU ?kS ?kI ?kL ?k0 ?k1 ?k2 ?k3 ?_; (case kA => walk_at "m ok"); (case kX => k_asm); (case kT => k_asm); (case kF => k_asm); (case kN => k_asm); (case kU => k_updF); (case kS => assumption); (case kI => assumption); (case kL => first | assumption | omega); (case k0 => first | decide | assumption); (case k1 => first | decide | assumption); (case k2 => decide); (case k3 => decide); k_whole); intro k' t' pl' acc' tp' ta' h' tk' k0' k1' a0' a1' F' N'; (try dsimp only at N'); (try k_sweep)))
local macro_rules | `(tactic| walk_at "subscriptTail") => `(tactic| (k_here; (with_reducible show wpAny _ _ (subscriptTail _ _ (Value.ref _) (Value.int _ _)) _ _ _); k_dflt (refine' item_words ?kN ?kM ?kW ?k0 ?k1 ?_ ?kS; (case kW => assumption); (case kN => k_asm); (case kM => k_mem); (case k0 => assumption); (case k1 => assumption); (case kS => with_unfolding_all rfl)); intro x' t' hx'))

local macro_rules | `(tactic| walk_at "call ref") => `(tactic| (k_here; (with_reducible show wpAny _ _ (call (Value.ref 367) _) _ _ _); k_dflt (refine' use_live ?kA ?kX ?kT ?kF ?kN ?kD ?kv ?_; (case kA => walk_at "m ok"); (case kX => k_asm); (case kT => k_asm); (case kF => k_asm); (case kN => k_asm); (case kD => walk_at "m dict"); (case kv => first | assumption | rfl); k_whole); intro h' tk' F' N'; (try k_sweep)))

local macro_rules | `(tactic| walk_at "call builtin:str.join") => `(tactic| (k_here; k_dflt (refine' join_m ?N ?M ?I ?S ?n ?_; (case N => k_asm); (case M => k_mem); (case I => assumption); (case S => assumption); (case n => assumption); k_whole); intro t' k'))

local macro_rules | `(tactic| walk_at "call ref") => `(tactic| (k_here; (with_reducible show wpAny _ _ (call (Value.ref 360) _) _ _ _); k_dflt (refine use_apart (by walk_at "m ok") (by k_asm) (by k_asm) (by k_asm) (by k_asm) (by assumption) (by assumption) ?_); intro h' tk' F' N'; (try k_sweep)))
local macro_rules | `(tactic| walk_at "truthy ref") => `(tactic| (k_here; k_dflt (refine' truthy_snoc ?N ?m ?l ?_; (case N => k_asm); (case m => k_mem); (case l => assumption); k_whole)))
local macro_rules | `(tactic| walk_at "subscriptTail Name UnaryOp ref int") => `(tactic| (k_here; k_dflt (refine' last_snoc ?N ?m ?_ ?s; (case N => k_asm); (case m => k_mem); (case s => with_unfolding_all rfl); k_whole)))
local macro_rules | `(tactic| walk_at "setItem ref str") => `(tactic| (k_here; k_dflt (refine' kda_set (knd := PySem.strKind _ _) ?F ?N ?U ?d (strKind_is _ _ _ _) ?z ?_; (case F => k_asm); (case N => k_asm); (case U => k_updF); (case d => k_asm); (case z => first | assumption | exact Nat.le_of_ble_eq_true (by with_unfolding_all rfl))); intro h' o' F' N' hd'; (try dsimp only at N')))
local macro_rules | `(tactic| walk_at "m dict") => `(tactic| (first
  | exact DictAt.fr (by k_asm) (by k_asm)
  | exact DictAt.news (by k_asm) (by k_mem) (by k_asm) (by k_asm)
  | exact DictAt.news (by k_asm) (.tail _ (by assumption)) (by assumption) (by assumption)
  | exact DictAt.news (by k_asm) (.tail _ (.tail _ (by assumption))) (by assumption) (by assumption)
  | exact DictAt.news (by k_asm) (by assumption) (by assumption) (by assumption)))

theorem of_allLt {d : Addr} : ∀ {l : List (Addr × Obj)}, AllLt d l → ∀ p ∈ l, p.1 < d
  | [], _, _, h => nomatch h
  | _ :: _, ⟨a, b⟩, p, h => by
    rcases List.mem_cons.mp h with rfl | h
    · exact a
    · exact of_allLt b p h
theorem jend_new {w : World} {h₀ h : Heap} {L ao d : Addr} {o : Obj} {k : Nat} {t1 t2 t3 : PySem.Tok} {live : Bool} {raw en : Str} {ds own rst : List (Addr × Obj)} {vs : List Value} {js : List J1} (R : OutRel w h₀ ds vs js) (hao : ∀ p ∈ ds, p.1 ≠ ao)
    (N : News h₀ L h ((d, o) :: (ao, listOf (vs.toArray.push (Value.ref d)) k) :: rst)) (hlt : ao < d ∧ AllLt d rst) (lo : (d == sysModules) = false) (hd : o.IsDictOf (PySem.strKind PR w) (fourKvs t1 t2 t3 live raw en)) (hs : ∀ p ∈ ds ++ own, p ∈ rst) :
    News h₀ L h (own ++ ((ao, listOf (vs ++ [Value.ref d]).toArray k) :: (d, o) :: ds)) ∧ NoIt ((ao, listOf (vs ++ [Value.ref d]).toArray k) :: (d, o) :: ds) ∧
      OutRel w h₀ ((d, o) :: ds) (vs ++ [Value.ref d]) (js ++ [.t live raw en]) ∧ ∀ p ∈ (d, o) :: ds, p.1 ≠ ao := by
  rw [toArray_push] at N
  refine ⟨news_sub N ?_, .cons cls_list (.cons (cls_dict hd) R.noIt), .t R (fun p hp => ?_) lo hd, fun p hp => ?_⟩
  · intro p hp
    simp only [List.mem_append, List.mem_cons] at hp ⊢
    rcases hp with h | h | h | h
    · exact .inr (.inr (hs p (List.mem_append_right _ h)))
    · exact .inr (.inl h)
    · exact .inl h
    · exact .inr (.inr (hs p (List.mem_append_left _ h)))
  · exact Nat.ne_of_lt (of_allLt hlt.2 p (hs p (List.mem_append_left _ hp)))
  · rcases List.mem_cons.mp hp with rfl | hp
    · exact Ne.symm (Nat.ne_of_lt hlt.1)
    · exact hao p hp
theorem jend_on {w : World} {h₀ h : Heap} {L ao b : Addr} {o : Obj} {k : Nat} {t1 t2 t3 : PySem.Tok} {live : Bool} {raw en : Str} {ds own : List (Addr × Obj)} {vs : List Value} {js : List J1} (R : OutRel w h₀ ds vs js) (hao : ∀ p ∈ ds, p.1 ≠ ao) (hba : b ≠ ao) (hb : ∀ p ∈ ds, p.1 ≠ b)
    (N : News h₀ L h ((ao, listOf (vs ++ [Value.ref b]).toArray k) :: (b, o) :: (ds ++ own))) (lo : (b == sysModules) = false) (hd : o.IsDictOf (PySem.strKind PR w) (fourKvs t1 t2 t3 live raw en)) :
    News h₀ L h (own ++ ((ao, listOf (vs ++ [Value.ref b]).toArray k) :: (b, o) :: ds)) ∧ NoIt ((ao, listOf (vs ++ [Value.ref b]).toArray k) :: (b, o) :: ds) ∧
      OutRel w h₀ ((b, o) :: ds) (vs ++ [Value.ref b]) (js ++ [.t live raw en]) ∧ ∀ p ∈ (b, o) :: ds, p.1 ≠ ao := by
  refine ⟨news_sub N ?_, .cons cls_list (.cons (cls_dict hd) R.noIt), .t R hb lo hd, fun p hp => ?_⟩
  · intro p hp
    simp only [List.mem_append, List.mem_cons] at hp ⊢
    rcases hp with h | h | h | h <;> simp [h]
  · rcases List.mem_cons.mp hp with rfl | hp
    · exact hba
    · exact hao p hp
theorem own_ne2 {h₀ h : Heap} {L l b : Addr} {o : Obj} {c : Value} {own news : List (Addr × Obj)} (N : News h₀ L h (own ++ news)) (hown : ∀ p ∈ own, p.1 = l ∨ p.2.cls = c) (hl : l ≠ b)
    (hm : (b, o) ∈ news) (hc : o.cls ≠ c) : ∀ p ∈ own, p.1 ≠ b := fun p hp e => by
  rcases hown p hp with q | q
  · exact hl (q.symm.trans e)
  · have := news_eq N (List.mem_append_left _ (by rw [← e]; exact hp : (b, p.2) ∈ own)) (List.mem_append_right _ hm)
    exact hc (this ▸ q)
def DictsIn (w : World) (ds : List (Addr × Obj)) : Prop := ∀ p ∈ ds, ∃ kvs, p.2.IsDictOf (PySem.strKind PR w) kvs
theorem DictsIn.noIt {w : World} {ds : List (Addr × Obj)} (h : DictsIn w ds) : NoIt ds := fun p hp => let ⟨_, q⟩ := h p hp; cls_dict q
theorem DictsIn.nil {w : World} : DictsIn w [] := fun _ h => nomatch h
theorem DictsIn.cons {w : World} {p : Addr × Obj} {ds : List (Addr × Obj)} {kvs : List (Str × Value)} (h : p.2.IsDictOf (PySem.strKind PR w) kvs) (r : DictsIn w ds) : DictsIn w (p :: ds) := fun q hq => by
  rcases List.mem_cons.mp hq with rfl | hq
  · exact ⟨_, h⟩
  · exact r q hq
theorem jrow_o {w : World} {h₀ h : Heap} {L ar : Addr} {k : Nat} {u : Value} {rds ds own : List (Addr × Obj)} {rvs : List Value} {js : List J1} (R : RowsIn w rds rvs js) (hd0 : DictsIn w rds) (hds : NoIt ds) (har : ∀ p ∈ rds ++ ds, p.1 ≠ ar)
    (N : News h₀ L h ((ar, listOf (rvs.toArray.push u) k) :: (rds ++ ds ++ own))) :
    News h₀ L h (own ++ ((ar, listOf (rvs ++ [u]).toArray k) :: (rds ++ ds))) ∧ NoIt ((ar, listOf (rvs ++ [u]).toArray k) :: (rds ++ ds)) ∧ RowsIn w rds (rvs ++ [u]) (js ++ [.o u]) ∧ ∀ p ∈ rds ++ ds, p.1 ≠ ar := by
  rw [toArray_push] at N
  refine ⟨news_sub N ?_, .cons cls_list (hd0.noIt.append hds), R.snoc (fun _ h => h) rfl, har⟩
  intro p hp
  simp only [List.mem_append, List.mem_cons] at hp ⊢
  rcases hp with h | h | h | h <;> simp [h]
theorem jrow_t {w : World} {h₀ h : Heap} {L ar d : Addr} {o : Obj} {k : Nat} {live : Bool} {raw en : Str} {kvs : List (Str × Value)} {rds ds own : List (Addr × Obj)} {rvs : List Value} {js : List J1} (R : RowsIn w rds rvs js) (hd0 : DictsIn w rds) (hds : NoIt ds) (har : ∀ p ∈ rds ++ ds, p.1 ≠ ar)
    (N : News h₀ L h ((d, o) :: (ar, listOf (rvs.toArray.push (Value.ref d)) k) :: (rds ++ ds ++ own))) (hlt : ar < d) (lo : (d == sysModules) = false) (hd : o.IsDictOf (PySem.strKind PR w) kvs) (I : TkIs kvs (.text (if live then none else some false) raw)) :
    News h₀ L h (own ++ ((ar, listOf (rvs ++ [Value.ref d]).toArray k) :: ((d, o) :: rds ++ ds))) ∧ NoIt ((ar, listOf (rvs ++ [Value.ref d]).toArray k) :: ((d, o) :: rds ++ ds)) ∧ RowsIn w ((d, o) :: rds) (rvs ++ [Value.ref d]) (js ++ [.t live raw en]) ∧ ∀ p ∈ (d, o) :: rds ++ ds, p.1 ≠ ar := by
  rw [toArray_push] at N
  refine ⟨news_sub N ?_, .cons cls_list (.append (.cons (cls_dict hd) hd0.noIt) hds), R.snoc (fun _ h => .tail _ h) ⟨d, o, kvs, rfl, .head _, lo, hd, I⟩, fun p hp => ?_⟩
  · intro p hp
    simp only [List.mem_append, List.mem_cons] at hp ⊢
    rcases hp with h | h | (h | h) | h <;> simp [h]
  · rcases List.mem_cons.mp hp with rfl | hp
    · exact Ne.symm (Nat.ne_of_lt hlt)
    · exact har p hp
theorem news_drop2 {h₀ h : Heap} {L : Addr} {x y : Addr × Obj} {l : List (Addr × Obj)} (N : News h₀ L h (x :: y :: l)) : News h₀ L h (x :: l) := fun p hp => N p (by
  rcases List.mem_cons.mp hp with h | h
  · exact h ▸ .head _
  · exact .tail _ (.tail _ h))
theorem news_left {h₀ h : Heap} {L : Addr} {x : Addr × Obj} {a b : List (Addr × Obj)} (N : News h₀ L h (x :: (a ++ b))) : News h₀ L h (x :: a) := fun p hp => N p (by
  rcases List.mem_cons.mp hp with h | h
  · exact h ▸ .head _
  · exact .tail _ (List.mem_append_left _ h))

section
variable {w : World} {A : Around} {E : Value → Shared → Prop} {s : Shared} {p : Program} {loose : List Str} {mean : ExcName → Option Value} {mg mb : Str → Option Value}
local macro_rules | `(tactic| walk_at "pyIter ref") => `(tactic| (k_here; with_reducible refine Halt.intro ?_))
set_option maxHeartbeats 8000000 in
theorem spec_joined {Q : Value → Shared → Prop} {l : Addr} {ts : List (Value × Tk)} (hA : Ok A 2) (X : (hd.heap_39 w.params).In s.heap) (T : Top p loose mean mg mb s.heap)
    (hl : s.heap.IsList l (vals ts).toArray) (H : Toks w s.heap ts) (W : WordTks (tks ts))
    (ret : ∀ r rvs n rds h' tk, s.heap.StaysIn h' → Born s.heap h' ((r, listOf rvs.toArray n) :: rds) → RowsIn w rds rvs (joined ts) → Q (.ref r) { s with heap := h', toks := tk }) :
    wpAny (model PR w) A (call (.ref 374) [.ref l]) Q E s := by
  refine' enterN (news := []) (binds := [(Str.ofString "tokens", .ref l)]) ?kX ?kT ?kS ?kZ ?kN ?kO ?kC ?kR ?kB ?kL ?_ ?c1 ?c2 ?c3 ?c4
  case kX => assumption
  case kT => first | exact Top.nolimit (by assumption) | assumption
  case kO => k_is
  case kC => k_is
  case kR => exact Ok.room (by assumption)
  case kB => exact BindsTo.of_eq rfl
  case kL => exact locs rfl
  case c1 => exact rfl
  case c2 => exact rfl
  case c3 => exact rfl
  case c4 => decide
  case kS => exact fun _ _ e => e
  case kZ => exact Nat.le_refl _
  case kN => exact fun _ hp => nomatch hp
  intro L h tk F N hk hn
  try dsimp only
  try k_fold
  clear hk hn
  k_steps
  rename News _ _ _ _ => N1
  rename Fr _ _ _ _ => F1
  refine loopL (vs := vals ts) (fun i m news => ∃ ao items n ds, news = (ao, listOf items.toArray n) :: ds ∧ OutRel w s.heap ds items (joined (ts.take i)) ∧ (∀ p ∈ ds, p.1 ≠ ao) ∧ m (Str.ofString "out") = some (.ref ao)) (by exact hA.hh) (hl.at fun o e => F1.keep _ _ e) F1 N1 (NoIt.cons cls_list .nil) ⟨_, [], _, [], rfl, .nil, (fun _ hp => nomatch hp), by rfl⟩ ?_ ?_
  · rintro i v m₁ news₁ h1 tk1 own hv hno ⟨ao, items, n, ds, rfl, R, hao, ht⟩ hown hlo hli F2 N2
    obtain ⟨tkn, e0⟩ := vals_at hv
    have e1 := tks_at e0
    obtain ⟨a, kvs, e2, D, I⟩ := H.at e0
    dsimp only at e2 I
    subst e2
    have F3 := fr_name (x := Str.ofString "out") F2 ((if_neg (by decide)).trans ht)
    have hw := W.at e1
    have hlim : (ts.take i).length ≤ 12 := by
      have := W.1
      rw [tks_len] at this
      rw [List.length_take]; omega
    have hlen := Nat.le_trans (Nat.le_of_eq R.len) (joined_len (ts.take i))
    have hok := joined_ok (ts.take i) fun q hq => W.2 _ (List.mem_map.mpr ⟨q, mem_take hq, rfl⟩)
    have hstep := joined_snoc (ts.take i) (.ref a, tkn)
    rw [← take_snoc e0] at hstep
    generalize joined (ts.take i) = js at R hok hstep hlen
    have hne := own_ne N2 hown (let ⟨o, ho, _⟩ := hl; ⟨o, ho⟩) (.head _) cls_list.1
    cases tkn with
    | obj ty rest =>
      cases I with | obj t _ _ h hr =>
      have hall : ∀ p ∈ ds ++ own, p.1 ≠ ao := fun p hp => (List.mem_append.mp hp).elim (hao p) (hne p)
      have N3 : News _ _ _ ((ao, listOf items.toArray n) :: (ds ++ own)) := news_sub N2 (by intro p hp; simp only [List.mem_append, List.mem_cons] at hp ⊢; rcases hp with h | h | h <;> simp [h])
      have hdn : NoIt ds := R.noIt
      generalize hr9 : ds ++ own = rst at N3 hall
      clear F1 N1 F2 N2 ht hno
      have h2 : (ty != Str.ofString "text") = true := by rw [bne, h]; rfl
      k_steps
      rename News _ _ _ _ => N4
      rename Fr _ _ _ _ => F4
      subst hr9
      rw [toArray_push] at N4
      refine LPost.intro F4 (news_sub N4 (by intro p hp; simp only [List.mem_append, List.mem_cons] at hp ⊢; rcases hp with h | h | h <;> simp [h])) (NoIt.cons cls_list hdn) ⟨ao, items ++ [.ref a], n + 1, ds, rfl, ?_, hao, by rfl⟩
      rw [hstep]
      exact .o R D h
    | text md raw =>
      obtain ⟨⟨t1, f1⟩, ⟨t2, f2⟩, f3⟩ := I.textFacts
      have h9 : jstep js (.ref a, .text md raw) = jtext js (md.getD true) raw := rfl
      rw [h9] at hstep
      clear h9 I
      generalize md.getD true = live at hstep f3
      cases R with
      | nil =>
        rw [jtext_nil] at hstep
        have N3 : News _ _ _ ((ao, listOf ([] : List Value).toArray n) :: own) := news_sub N2 (by intro p hp; simp only [List.mem_append, List.mem_cons, List.not_mem_nil, or_false] at hp ⊢; rcases hp with h | h <;> simp [h])
        clear F1 N1 F2 N2 ht hno
        k_steps
        rename News _ _ _ _ => N4
        rename Fr _ _ _ _ => F4
        rename Obj.IsDictOf (PySem.strKind _ _) _ _ => hd4
        rename (_ == sysModules) = false => lo4
        rename _ < _ ∧ _ => hlt
        obtain ⟨q1, q2, q3, q4⟩ := jend_new (own := own) .nil (fun _ hp => nomatch hp) N4 hlt lo4 hd4 (by intro p hp; simpa using hp)
        exact LPost.intro F4 q1 q2 ⟨ao, _, _, _, rfl, by rw [hstep]; exact q3, q4, by rfl⟩
      | @o _ vs js a2 ty2 rest2 t3 R D2 h2 =>
        rw [jtext_o] at hstep
        have hall : ∀ p ∈ ds ++ own, p.1 ≠ ao := fun p hp => (List.mem_append.mp hp).elim (hao p) (hne p)
        have N3 : News _ _ _ ((ao, listOf (vs ++ [Value.ref a2]).toArray n) :: (ds ++ own)) := news_sub N2 (by intro p hp; simp only [List.mem_append, List.mem_cons] at hp ⊢; rcases hp with h | h | h <;> simp [h])
        have hdn : NoIt ds := R.noIt
        have hl9 : vs.length ≤ 1000 := by rw [List.length_append] at hlen; omega
        generalize hr9 : ds ++ own = rst at N3 hall
        clear F1 N1 F2 N2 ht hno
        k_steps
        rename News _ _ _ _ => N4
        rename Fr _ _ _ _ => F4
        rename Obj.IsDictOf (PySem.strKind _ _) _ _ => hd4
        rename (_ == sysModules) = false => lo4
        rename _ < _ ∧ _ => hlt
        subst hr9
        obtain ⟨q1, q2, q3, q4⟩ := jend_new (own := own) (.o R D2 h2) hao N4 hlt lo4 hd4 (fun _ hp => hp)
        exact LPost.intro F4 q1 q2 ⟨ao, _, _, _, rfl, by rw [hstep]; exact q3, q4, by rfl⟩
      | @t ds vs js b o t3 t4 t5 lv rw en R hb lo hd =>
        rw [jtext_t] at hstep
        have hj := hok _ (List.mem_append_right _ (.head _))
        have hen : en ∈ words := hj.2
        have hel := words_len en hen
        have hrw : raw ∈ words := hw
        have hrl := words_len raw hrw
        have hrl2 : rw.length ≤ 192 := by have := hj.1; omega
        have hbao : @Ne Nat b ao := hao (b, o) (.head _)
        have hall : ∀ p ∈ ds ++ own, p.1 ≠ ao := fun p hp => (List.mem_append.mp hp).elim (fun q => hao p (.tail _ q)) (hne p)
        have hneb := own_ne N2 hown (let ⟨o, ho, _⟩ := hl; ⟨o, ho⟩) (.tail _ (.head _)) (cls_dict hd).1
        have hallb : ∀ p ∈ ds ++ own, p.1 ≠ b := fun p hp => (List.mem_append.mp hp).elim (hb p) (hneb p)
        have N3 : News _ _ _ ((ao, listOf (vs ++ [Value.ref b]).toArray n) :: (b, o) :: (ds ++ own)) := news_sub N2 (by intro p hp; simp only [List.mem_append, List.mem_cons] at hp ⊢; rcases hp with h | h | h | h <;> simp [h])
        have hdn : NoIt ds := R.noIt
        have hl9 : vs.length ≤ 1000 := by rw [List.length_append] at hlen; omega
        have hel2 : en.length ≤ 1000 := by omega
        generalize hr9 : ds ++ own = rst at N3 hall hallb
        unfold fourKvs at hd
        clear F1 N1 F2 N2 ht hno hj
        k_steps
        all_goals (
          rename News _ _ _ _ => N4
          rename Fr _ _ _ _ => F4
          subst hr9
          first
          | (rename Obj.IsDictOf (PySem.strKind _ _) _ (stored _ _ _) => hd4
             obtain ⟨q1, q2, q3, q4⟩ := jend_on (live := lv) (raw := rw ++ raw) (en := raw) R (fun p hp => hao p (.tail _ hp)) hbao hb N4 lo hd4
             exact LPost.intro F4 q1 q2 ⟨ao, _, _, _, rfl, by rw [hstep, if_pos (by simp [*])]; exact q3, q4, by rfl⟩)
          | (rename Obj.IsDictOf (PySem.strKind _ _) _ (strPairs _) => hd4
             rename _ < _ ∧ _ => hlt
             rename (_ == sysModules) = false => lo4
             obtain ⟨q1, q2, q3, q4⟩ := jend_new (own := own) (.t R hb lo hd) hao N4 hlt lo4 hd4 (fun _ hp => hp)
             exact LPost.intro F4 q1 q2 ⟨ao, _, _, _, rfl, by rw [hstep, if_neg (by simp [*])]; exact q3, q4, by rfl⟩))
  · rintro m₁ news₁ h1 tk1 ⟨ao, items, n, ds, rfl, R, hao, ht⟩ F2 N2
    rw [vals_len, List.take_length] at R
    have F3 := fr_name F2 ht
    have hallao : ∀ p ∈ ds, p.1 ≠ ao := hao
    clear F1 N1 F2
    k_steps
    (show wpAny _ _ (pyIter _) _ _ _)
    rename News _ _ _ _ => N4
    rename Fr _ _ _ _ => F4
    rename _ < _ ∧ AllLt _ _ => hlt0
    have hds : NoIt ds := R.noIt
    have hok := joined_ok ts fun q hq => W.2 _ (List.mem_map.mpr ⟨q, hq, rfl⟩)
    have hlim : items.length ≤ 12 := Nat.le_trans (Nat.le_of_eq R.len) (Nat.le_trans (joined_len ts) (by rw [← tks_len]; exact W.1))
    refine loopL (vs := items) (fun i m news => ∃ ar rvs n2 rds, news = (ar, listOf rvs.toArray n2) :: (rds ++ ds) ∧ RowsIn w rds rvs ((joined ts).take i) ∧ DictsIn w rds ∧ (∀ p ∈ rds ++ ds, p.1 ≠ ar) ∧ @Ne Nat ao ar ∧ m (Str.ofString "rows") = some (.ref ar)) (by exact hA.hh)
      ⟨_, News.get N4 (.tail _ (.head _)), rfl, n, rfl⟩ F4 (news_drop2 N4) (.cons cls_list hds)
      ⟨_, [], _, [], rfl, ⟨rfl, fun i v e => by simp at e⟩, .nil, (fun p hp => Nat.ne_of_lt (of_allLt hlt0.2 p hp)), Nat.ne_of_lt hlt0.1, by rfl⟩ ?_ ?_
    · rintro i v m₂ news₂ h2 tk2 own hv hno ⟨ar, rvs, n2, rds, rfl, RR, hrd, har, hne, ht2⟩ hown hlo hli F5 N5
      obtain ⟨j, hj, hin⟩ := R.at hv
      have hjok := hok j (List.mem_of_getElem? hj)
      have F6 := fr_name (x := Str.ofString "rows") F5 ((if_neg (by decide)).trans ht2)
      have hneo := own_ne2 N5 hown hne (.head _) cls_list.1
      have hall : ∀ p ∈ rds ++ ds ++ own, p.1 ≠ ar := fun p hp => (List.mem_append.mp hp).elim (har p) (hneo p)
      have N6 : News _ _ _ ((ar, listOf rvs.toArray n2) :: (rds ++ ds ++ own)) := news_sub N5 (by intro p hp; simp only [List.mem_append, List.mem_cons] at hp ⊢; rcases hp with h | (h | h) | h <;> simp [h])
      have hrl : rvs.length ≤ 12 := by
        have := RR.1
        rw [List.length_take] at this
        have h3 := (List.getElem?_eq_some_iff.mp hv).1
        omega
      have hmem : ∀ b o, (b, o) ∈ ds → (b, o) ∈ rds ++ ds ++ own := fun b o h => List.mem_append_left _ (List.mem_append_right _ h)
      have htake := take_snoc hj
      generalize hr9 : rds ++ ds ++ own = rst at N6 hall hmem
      clear F4 N4 F5 N5 ht2 hno hlt0
      cases j with
      | o u =>
        obtain ⟨rfl, a, ty, t, rest, rfl, D, h⟩ := hin
        have h2 : (ty != Str.ofString "text") = true := by rw [bne, h]; rfl
        k_steps
        rename News _ _ _ _ => N7
        rename Fr _ _ _ _ => F7
        subst hr9
        obtain ⟨q1, q2, q3, q4⟩ := jrow_o RR hrd hds har N7
        exact LPost.intro F7 q1 q2 ⟨ar, _, _, rds, rfl, by rw [htake]; exact q3, hrd, q4, hne, by rfl⟩
      | t live raw en =>
        obtain ⟨b, o, t1, t2, t3, rfl, hbm, lo, hd⟩ := hin
        have hbm2 := hmem b o hbm
        have hjl := hjok.1
        unfold fourKvs at hd
        k_steps
        all_goals (
          rename News _ _ _ _ => N7
          rename Fr _ _ _ _ => F7
          rename Obj.IsDictOf (PySem.strKind _ _) _ (strPairs _) => hd4
          rename _ < _ ∧ _ => hlt
          rename (_ == sysModules) = false => lo4
          subst hr9
          obtain ⟨q1, q2, q3, q4⟩ := jrow_t (live := live) (raw := raw) (en := en) RR hrd hds har N7 hlt.1 lo4 hd4 (by simp only [*, if_true, if_false, Bool.false_eq_true]; first | exact TkIs.text0 _ _ _ | exact TkIs.text1 _ _ _ _)
          exact LPost.intro F7 q1 q2 ⟨ar, _, _, _, rfl, by rw [htake]; exact q3, hrd.cons hd4, q4, hne, by rfl⟩)
    · rintro m₂ news₂ h2 tk2 ⟨ar, rvs, n2, rds, rfl, RR, hrd, har, hne, ht2⟩ F5 N5
      rw [R.len, List.take_length] at RR
      have F6 := fr_name F5 ht2
      clear F4 N4 F5
      k_steps
      exact ret _ _ _ _ _ _ F6.keep (News.born (news_left N5)) RR
end

end
theorem amp_append {a b : Str} (hb : 0 < b.length) : amp (a ++ b) = amp b := by
  have e : ∀ x : Str, 0 < x.length → Txt.slice x (some (-1)) none = ⟨(x.cps.toList.drop (x.length - 1)).toArray⟩ := by
    intro x hx
    show StrLaws.sliceText x (some (-1)) none = _
    rw [StrLaws.sliceText_from_neg (by decide) (by omega)]
    rw [show ((-1 : Int) + x.length).toNat = x.length - 1 by omega, List.take_of_length_le]
    have h9 : x.cps.toList.length = x.length := by simp [Str.length]
    rw [List.length_drop, h9]; omega
  have hl : (a ++ b).length = a.length + b.length := Str.length_append a b
  unfold amp
  rw [e b hb, e (a ++ b) (by omega)]
  have h1 : (a ++ b).cps.toList = a.cps.toList ++ b.cps.toList := by
    show (a.cps ++ b.cps).toList = _
    simp
  have h2 : a.cps.toList.length = a.length := by simp [Str.length]
  rw [h1, hl, List.drop_append, h2, show a.length + b.length - 1 - a.length = b.length - 1 by omega, List.drop_eq_nil_of_le (by omega), List.nil_append]
theorem mstep_ok (ts : List (Value × Tk)) (h : ∀ p ∈ ts, TkWord p.2) : ∀ j ∈ merged1 ts, JOk (16 * ts.length) j := by
  have aux : ∀ (l : List (Value × Tk)) (out : List J1) (n : Nat), (∀ j ∈ out, JOk n j) → (∀ p ∈ l, TkWord p.2) → ∀ j ∈ l.foldl mstep out, JOk (n + 16 * l.length) j := by
    intro l
    induction l with
    | nil => intro out n h1 _; simpa using h1
    | cons p r ih =>
      intro out n h1 h2
      rw [List.foldl_cons]
      have h3 : ∀ j ∈ mstep out p, JOk (n + 16) j := by
        have hp := h2 p (.head _)
        unfold mstep
        cases e : p.2 with
        | text md raw =>
          rw [e] at hp
          dsimp only
          split
          · exact fun j hj => (h1 j hj).mono (by omega)
          · exact jtext_ok h1 hp
        | obj ty rest =>
          intro j hj
          rcases List.mem_append.mp hj with q | q
          · exact (h1 j q).mono (by omega)
          · rw [List.mem_singleton.mp q]; trivial
      have := ih (mstep out p) (n + 16) h3 fun q hq => h2 q (.tail _ hq)
      intro j hj
      exact (this j hj).mono (by simp only [List.length_cons]; omega)
  intro j hj
  have := aux ts [] 0 (fun _ h => nomatch h) h j hj
  simpa using this
theorem jtext_len (out : List J1) (live : Bool) (raw : Str) : (jtext out live raw).length ≤ out.length + 1 := by
  unfold jtext
  split
  · split
    · simp only [List.length_append, List.length_dropLast, List.length_cons, List.length_nil]
      omega
    · simp
  · simp
theorem merged_len (ts : List (Value × Tk)) : (merged1 ts).length ≤ ts.length := by
  have aux : ∀ (l : List (Value × Tk)) (out : List J1), (l.foldl mstep out).length ≤ out.length + l.length := by
    intro l
    induction l with
    | nil => intro out; simp
    | cons p r ih =>
      intro out
      rw [List.foldl_cons]
      have h1 := ih (mstep out p)
      have h2 : (mstep out p).length ≤ out.length + 1 := by
        unfold mstep
        split
        · simp
        · split
          · omega
          · exact jtext_len _ _ _
      simp only [List.length_cons]
      omega
  have := aux ts []
  simpa [merged1] using this
theorem strip_type (t : PySem.Tok) (ty : Str) (rest : List (Str × Value)) : strip ((Str.ofString "type", .str ty t) :: rest) = (Str.ofString "type", .str ty t) :: strip rest := by
  unfold strip
  have h : noMark (Str.ofString "type") = true := by decide +kernel
  exact List.filter_cons_of_pos (p := fun p : Str × Value => noMark p.1) h
theorem ObjRest.len {rest : List (Str × Value)} (h : ObjRest rest) : rest.length ≤ 3 := by cases h <;> simp
def twoKvs (t1 t2 : PySem.Tok) (raw : Str) : List (Str × Value) := [(Str.ofString "type", .str (Str.ofString "text") t1), (Str.ofString "raw", .str raw t2)]
inductive MRel (w : World) (h₀ : Heap) : List (Addr × Obj) → List Value → List J1 → Prop
  | nil : MRel w h₀ [] [] []
  | o {ds : List (Addr × Obj)} {vs : List Value} {js : List J1} {a b : Addr} {o : Obj} {ty : Str} {kvs rest : List (Str × Value)} {t : PySem.Tok} : MRel w h₀ ds vs js → (∀ p ∈ ds, p.1 ≠ b) → (b == sysModules) = false →
      DictAt w h₀ a kvs → o.IsDictOf (PySem.strKind PR w) (strip kvs) → strip kvs = (Str.ofString "type", .str ty t) :: rest → (ty == Str.ofString "text") = false → MRel w h₀ ((b, o) :: ds) (vs ++ [.ref b]) (js ++ [.o (.ref a)])
  | t {ds : List (Addr × Obj)} {vs : List Value} {js : List J1} {b : Addr} {o : Obj} {t1 t2 : PySem.Tok} {raw en : Str} : MRel w h₀ ds vs js → (∀ p ∈ ds, p.1 ≠ b) → (b == sysModules) = false →
      o.IsDictOf (PySem.strKind PR w) (twoKvs t1 t2 raw) → amp raw = amp en → MRel w h₀ ((b, o) :: ds) (vs ++ [.ref b]) (js ++ [.t true raw en])
theorem MRel.len {w : World} {h₀ : Heap} {ds : List (Addr × Obj)} {vs : List Value} {js : List J1} (R : MRel w h₀ ds vs js) : vs.length = js.length := by
  induction R with
  | nil => rfl
  | o _ _ _ _ _ _ _ ih => simp [ih]
  | t _ _ _ _ _ ih => simp [ih]
theorem MRel.noIt {w : World} {h₀ : Heap} {ds : List (Addr × Obj)} {vs : List Value} {js : List J1} (R : MRel w h₀ ds vs js) : NoIt ds := by
  induction R with
  | nil => exact .nil
  | o _ _ _ _ hd _ _ ih => exact .cons (cls_dict hd) ih
  | t _ _ _ hd _ ih => exact .cons (cls_dict hd) ih
def NeAll (b : Addr) (l : List (Addr × Obj)) : Prop := ∀ p ∈ l, p.1 ≠ b
theorem mend {h₀ h : Heap} {L ao d : Addr} {o : Obj} {k : Nat} {ds own rst : List (Addr × Obj)} {vs : List Value} (hds : NoIt ds) (hao : ∀ p ∈ ds, p.1 ≠ ao) (hda : d ≠ ao)
    (N : News h₀ L h ((d, o) :: (ao, listOf (vs.toArray.push (Value.ref d)) k) :: rst)) (hd : NoItC o.cls) (hs : ∀ p ∈ ds ++ own, p ∈ rst) :
    News h₀ L h (own ++ ((ao, listOf (vs ++ [Value.ref d]).toArray k) :: (d, o) :: ds)) ∧ NoIt ((ao, listOf (vs ++ [Value.ref d]).toArray k) :: (d, o) :: ds) ∧ ∀ p ∈ (d, o) :: ds, p.1 ≠ ao := by
  rw [toArray_push] at N
  refine ⟨news_sub N ?_, .cons cls_list (.cons hd hds), fun p hp => ?_⟩
  · intro p hp
    simp only [List.mem_append, List.mem_cons] at hp ⊢
    rcases hp with h | h | h | h
    · exact .inr (.inr (hs p (List.mem_append_right _ h)))
    · exact .inr (.inl h)
    · exact .inl h
    · exact .inr (.inr (hs p (List.mem_append_left _ h)))
  · rcases List.mem_cons.mp hp with rfl | hp
    · exact hda
    · exact hao p hp
theorem mon {h₀ h : Heap} {L : Addr} {x y : Addr × Obj} {ds own : List (Addr × Obj)} (N : News h₀ L h (x :: y :: (ds ++ own))) : News h₀ L h (own ++ (x :: y :: ds)) := news_sub N (by
  intro p hp; simp only [List.mem_append, List.mem_cons] at hp ⊢; rcases hp with h | h | h | h <;> simp [h])
section
variable {w : World} {A : Around} {E : Value → Shared → Prop} {s : Shared} {p : Program} {loose : List Str} {mean : ExcName → Option Value} {mg mb : Str → Option Value}
  {h₀ : Heap} {L : Addr} {m : Str → Option Value} {news : List (Addr × Obj)}
theorem use_bare {Q : Value → Shared → Prop} {a : Addr} {kvs : List (Str × Value)} (hA : Ok A 1) (X : (hd.heap_39 w.params).In h₀) (T : Top p loose mean mg mb h₀) (F : Fr h₀ L s.heap m) (N : News h₀ L s.heap news) (D : DictAt w s.heap a kvs) (hz : kvs.length ≤ 100)
    (ret : ∀ b o h' tk, Fr h₀ L h' m → News h₀ L h' ((b, o) :: news) → NeAll b news → (b == sysModules) = false → o.IsDictOf (PySem.strKind PR w) (strip kvs) → Q (.ref b) { s with heap := h', toks := tk }) :
    wpAny (model PR w) A (call (.ref 381) [.ref a]) Q E s :=
  spec_bare hA (X.keeps F.keep) (T.keeps F.keep) D hz fun b o h' tk k e hn lo hd => ret b o h' tk (fr_stays F k) (news_born F N k e hn) (news_ne N hn) lo hd
end

theorem anew14 : True ∧ True := by
  w_top off
  first | (walk1 <;> trivial) | exact ⟨trivial, trivial⟩
section
local macro_rules | `(tactic| walk_at "m ok") => `(tactic| (first
  | assumption
  | exact Ok.mono (by assumption) (by decide)
  | exact Ok.mono (Ok.deeper (by assumption) _) (by decide)
  | exact Ok.mono (Ok.in1 (Ok.deeper (by assumption) _)) (by decide)
  | exact Ok.mono (Ok.in1 (by assumption)) (by decide)))
local macro_rules | `(tactic| walk_at "m room") => `(tactic| exact Ok.room (by assumption))
local macro_rules | `(tactic| walk_at "m dict") => `(tactic| (first
  | exact DictAt.fr (by k_asm) (by k_asm)
  | exact DictAt.news (by k_asm) (by k_mem) (by k_asm) (by k_asm)))
local macro_rules | `(tactic| walk_at "getMethod ref") => `(tactic| (k_here; k_dflt (first
  | ((with_reducible show wpAny _ _ (getMethod (Value.ref _) (Str.ofString "get") _) _ _ _); refine meth_at PySem.F.slot_dict_get PySem.F.type_dict_get (by walk_at "m dict") ?_)
  | ((with_reducible show wpAny _ _ (getMethod (Value.ref _) (Str.ofString "copy") _) _ _ _); refine meth_at PySem.F.slot_dict_copy PySem.F.type_dict_copy (by walk_at "m dict") ?_)
  | ((with_reducible show wpAny _ _ (getMethod (Value.ref _) (Str.ofString "pop") _) _ _ _); refine meth_at PySem.F.slot_dict_pop PySem.F.type_dict_pop (by walk_at "m dict") ?_))))
local macro_rules | `(tactic| walk_at "call builtin:dict.get") => `(tactic| (k_here; k_dflt (refine' get2_at (by walk_at "m dict") ?v ?_; (case v => first | assumption | with_unfolding_all exact Eq.refl (Value.bool _) | rfl); k_whole)))
local macro_rules | `(tactic| walk_at "subscriptTail") => `(tactic| (k_here; (with_reducible show wpAny _ _ (subscriptTail _ _ (Value.ref _) (Value.str _ _)) _ _ _); k_dflt (refine' item_at (by walk_at "m dict") ?v ?_ ?hs; (case v => first | assumption | rfl); (case hs => with_unfolding_all rfl); k_whole)))
local macro_rules | `(tactic| walk_at "exec For") => `(tactic| (k_here; k_dflt (refine For_m (by k_asm) (by rfl) (by rfl) ?_ (by intro _; rfl) PassesOwn.never)))
local macro_rules | `(tactic| k_all) => `(tactic| assumption)
local macro_rules | `(tactic| walk_at "m sub") => `(tactic| (intro p9 hp9; simp only [List.mem_append, List.mem_cons, List.not_mem_nil, or_false, false_or] at hp9 ⊢; grind))
local macro_rules | `(tactic| walk_at "callWith") => `(tactic| ((with_reducible show wpAny _ _ (callWith _ (Value.builtin _) [_] (backTo _ (starEach (_ :: _) _)) []) _ _ _); refine callWith_method1 ?_))

local macro_rules | `(tactic| walk_at "Exists") => `(tactic| (k_here; (refine made_m (by k_asm) (by first | k_asm | exact News.nil) (Top.nolimit (by k_asm)) (by rfl) (of_decide_eq_true (by rfl)) ?_; intro h' o' F' N' l1 lo' hd'; (try k_lt l1); (try dsimp only at N'); (try dsimp only))))
local macro_rules | `(tactic| walk_at "call ref") => `(tactic| (k_here; (with_reducible show wpAny _ _ (call (Value.ref 332) _) _ _ _); k_dflt (refine' use_words ?kA ?kX ?kT ?kF ?kN ?_; (case kA => walk_at "m ok"); (case kX => k_asm); (case kT => k_asm); (case kF => k_asm); (case kN => k_asm); k_whole); intro r' h' tk' n' vs' W' F' N' l1; (try (replace l1 := allNe_of l1; simp only [AllNe, and_true] at l1)); (try k_sweep)))
local macro_rules | `(tactic| walk_at "call ref") => `(tactic| (k_here; (with_reducible show wpAny _ _ (call (Value.ref 339) _) _ _ _); k_dflt (refine' use_draw ?kA ?kX ?kT ?kF ?kN ?kU ?kS ?kI ?kL ?k0 ?k1 ?k2 ?k3 ?_; (case kA => walk_at "m ok"); (case kX => k_asm); (case kT => k_asm); (case kF => k_asm); (case kN => k_asm); (case kU => k_updF); (case kS => assumption); (case kI => assumption); (case kL => first | assumption | omega); (case k0 => first | decide | assumption); (case k1 => first | decide | assumption); (case k2 => decide); (case k3 => decide); k_whole); intro k' t' pl' acc' tp' ta' h' tk' k0' k1' a0' a1' F' N'; (try dsimp only at N'); (try k_sweep)))
local macro_rules | `(tactic| walk_at "subscriptTail") => `(tactic| (k_here; (with_reducible show wpAny _ _ (subscriptTail _ _ (Value.ref _) (Value.int _ _)) _ _ _); k_dflt (refine' item_words ?kN ?kM ?kW ?k0 ?k1 ?_ ?kS; (case kW => assumption); (case kN => k_asm); (case kM => k_mem); (case k0 => assumption); (case k1 => assumption); (case kS => with_unfolding_all rfl)); intro x' t' hx'))

local macro_rules | `(tactic| walk_at "call ref") => `(tactic| (k_here; (with_reducible show wpAny _ _ (call (Value.ref 367) _) _ _ _); k_dflt (refine' use_live ?kA ?kX ?kT ?kF ?kN ?kD ?kv ?_; (case kA => walk_at "m ok"); (case kX => k_asm); (case kT => k_asm); (case kF => k_asm); (case kN => k_asm); (case kD => walk_at "m dict"); (case kv => first | assumption | rfl); k_whole); intro h' tk' F' N'; (try k_sweep)))

local macro_rules | `(tactic| walk_at "call builtin:str.join") => `(tactic| (k_here; k_dflt (refine' join_m ?N ?M ?I ?S ?n ?_; (case N => k_asm); (case M => k_mem); (case I => assumption); (case S => assumption); (case n => assumption); k_whole); intro t' k'))

local macro_rules | `(tactic| walk_at "call ref") => `(tactic| (k_here; (with_reducible show wpAny _ _ (call (Value.ref 360) _) _ _ _); k_dflt (refine use_apart (by walk_at "m ok") (by k_asm) (by k_asm) (by k_asm) (by k_asm) (by assumption) (by assumption) ?_); intro h' tk' F' N'; (try k_sweep)))
local macro_rules | `(tactic| walk_at "truthy ref") => `(tactic| (k_here; k_dflt (refine' truthy_snoc ?N ?m ?l ?_; (case N => k_asm); (case m => k_mem); (case l => assumption); k_whole)))
local macro_rules | `(tactic| walk_at "subscriptTail Name UnaryOp ref int") => `(tactic| (k_here; k_dflt (refine' last_snoc ?N ?m ?_ ?s; (case N => k_asm); (case m => k_mem); (case s => with_unfolding_all rfl); k_whole)))
local macro_rules | `(tactic| walk_at "setItem ref str") => `(tactic| (k_here; k_dflt (refine' kda_set (knd := PySem.strKind _ _) ?F ?N ?U ?d (strKind_is _ _ _ _) ?z ?_; (case F => k_asm); (case N => k_asm); (case U => k_updF); (case d => k_asm); (case z => first | assumption | exact Nat.le_of_ble_eq_true (by with_unfolding_all rfl))); intro h' o' F' N' hd'; (try dsimp only at N')))
local macro_rules | `(tactic| walk_at "m dict") => `(tactic| (first
  | exact DictAt.fr (by k_asm) (by k_asm)
  | exact DictAt.news (by k_asm) (by k_mem) (by k_asm) (by k_asm)
  | exact DictAt.news (by k_asm) (.tail _ (by assumption)) (by assumption) (by assumption)
  | exact DictAt.news (by k_asm) (.tail _ (.tail _ (by assumption))) (by assumption) (by assumption)
  | exact DictAt.news (by k_asm) (by assumption) (by assumption) (by assumption)))

local macro_rules | `(tactic| walk_at "call ref") => `(tactic| (k_here; (with_reducible show wpAny _ _ (call (Value.ref 381) _) _ _ _); k_dflt (refine' use_bare ?kA ?kX ?kT ?kF ?kN ?kD ?kz ?_; (case kA => walk_at "m ok"); (case kX => k_asm); (case kT => k_asm); (case kF => k_asm); (case kN => k_asm); (case kD => walk_at "m dict"); (case kz => assumption); k_whole); intro b' o' h' tk' F' N' l1' lo' hd'; (have l2' : @Ne Nat _ _ := l1' _ (.head _)); (try dsimp only at l2'); (try k_sweep)))

section
variable {w : World} {A : Around} {E : Value → Shared → Prop} {s : Shared} {p : Program} {loose : List Str} {mean : ExcName → Option Value} {mg mb : Str → Option Value}
local macro_rules | `(tactic| walk_at "pyIter ref") => `(tactic| (k_here; with_reducible refine Halt.intro ?_))
set_option maxHeartbeats 8000000 in
theorem spec_merged {Q : Value → Shared → Prop} {l : Addr} {ts : List (Value × Tk)} (hA : Ok A 2) (X : (hd.heap_39 w.params).In s.heap) (T : Top p loose mean mg mb s.heap)
    (hl : s.heap.IsList l (vals ts).toArray) (H : Toks w s.heap ts) (W : WordTks (tks ts))
    (ret : ∀ r rvs n rds h' tk, s.heap.StaysIn h' → Born s.heap h' ((r, listOf rvs.toArray n) :: rds) → MRel w s.heap rds rvs (merged1 ts) → Q (.ref r) { s with heap := h', toks := tk }) :
    wpAny (model PR w) A (call (.ref 388) [.ref l]) Q E s := by
  refine' enterN (news := []) (binds := [(Str.ofString "tokens", .ref l)]) ?kX ?kT ?kS ?kZ ?kN ?kO ?kC ?kR ?kB ?kL ?_ ?c1 ?c2 ?c3 ?c4
  case kX => assumption
  case kT => first | exact Top.nolimit (by assumption) | assumption
  case kO => k_is
  case kC => k_is
  case kR => exact Ok.room (by assumption)
  case kB => exact BindsTo.of_eq rfl
  case kL => exact locs rfl
  case c1 => exact rfl
  case c2 => exact rfl
  case c3 => exact rfl
  case c4 => decide
  case kS => exact fun _ _ e => e
  case kZ => exact Nat.le_refl _
  case kN => exact fun _ hp => nomatch hp
  intro L h tk F N hk hn
  try dsimp only
  try k_fold
  clear hk hn
  k_steps
  rename News _ _ _ _ => N1
  rename Fr _ _ _ _ => F1
  refine loopL (vs := vals ts) (fun i m news => ∃ ao items n ds, news = (ao, listOf items.toArray n) :: ds ∧ MRel w s.heap ds items (merged1 (ts.take i)) ∧ (∀ p ∈ ds, p.1 ≠ ao) ∧ m (Str.ofString "out") = some (.ref ao)) (by exact hA.hh) (hl.at fun o e => F1.keep _ _ e) F1 N1 (NoIt.cons cls_list .nil) ⟨_, [], _, [], rfl, .nil, (fun _ hp => nomatch hp), by rfl⟩ ?_ ?_
  · rintro i v m₁ news₁ h1 tk1 own hv hno ⟨ao, items, n, ds, rfl, R, hao, ht⟩ hown hlo hli F2 N2
    obtain ⟨tkn, e0⟩ := vals_at hv
    have e1 := tks_at e0
    obtain ⟨a, kvs, e2, D, I⟩ := H.at e0
    dsimp only at e2 I
    subst e2
    have F3 := fr_name (x := Str.ofString "out") F2 ((if_neg (by decide)).trans ht)
    have hw := W.at e1
    have hlim : (ts.take i).length ≤ 12 := by
      have := W.1
      rw [tks_len] at this
      rw [List.length_take]; omega
    have hlen := Nat.le_trans (Nat.le_of_eq R.len) (merged_len (ts.take i))
    have hok := mstep_ok (ts.take i) fun q hq => W.2 _ (List.mem_map.mpr ⟨q, mem_take hq, rfl⟩)
    have hstep := merged_snoc (ts.take i) (.ref a, tkn)
    rw [← take_snoc e0] at hstep
    generalize merged1 (ts.take i) = js at R hok hstep hlen
    have hne := own_ne N2 hown (let ⟨o, ho, _⟩ := hl; ⟨o, ho⟩) (.head _) cls_list.1
    have hall : ∀ p ∈ ds ++ own, p.1 ≠ ao := fun p hp => (List.mem_append.mp hp).elim (hao p) (hne p)
    have hdn : NoIt ds := R.noIt
    cases tkn with
    | obj ty rest =>
      cases I with | obj t _ _ h hr =>
      have N3 : News _ _ _ ((ao, listOf items.toArray n) :: (ds ++ own)) := news_sub N2 (by intro p hp; simp only [List.mem_append, List.mem_cons] at hp ⊢; rcases hp with h | h | h <;> simp [h])
      have hz : ((Str.ofString "type", Value.str ty t) :: rest).length ≤ 100 := by have := hr.len; simp only [List.length_cons]; omega
      generalize hr9 : ds ++ own = rst at N3 hall
      clear F1 N1 F2 N2 ht hno
      have h2 : (ty != Str.ofString "text") = true := by rw [bne, h]; rfl
      k_steps
      rename News _ _ _ _ => N4
      rename Fr _ _ _ _ => F4
      rename Obj.IsDictOf (PySem.strKind _ _) _ (strip _) => hd4
      rename (_ == sysModules) = false => lo4
      rename NeAll _ _ => hlt
      have hlt2 := hlt _ (.head _)
      subst hr9
      obtain ⟨q1, q2, q3⟩ := mend (own := own) hdn hao (Ne.symm hlt2) N4 (cls_dict hd4) (fun _ hp => hp)
      refine LPost.intro F4 q1 q2 ⟨ao, _, _, _, rfl, ?_, q3, by rfl⟩
      rw [hstep]
      exact .o R (fun p hp => hlt p (.tail _ (List.mem_append_left _ hp))) lo4 D hd4 (strip_type _ _ _) h
    | text md raw =>
      obtain ⟨⟨t1, f1⟩, ⟨t2, f2⟩, f3⟩ := I.textFacts
      have h9 : mstep js (.ref a, .text md raw) = if raw == Str.ofString "" then js else jtext js true raw := rfl
      rw [h9] at hstep
      have hrw : raw ∈ words := hw
      have hrl := words_len raw hrw
      clear h9 I f3
      cases hraw : raw == Str.ofString "" with
      | true =>
        have hraw2 : (raw != Str.ofString "") = false := by rw [bne, hraw]; rfl
        have hmem : News _ _ _ (own ++ ((ao, listOf items.toArray n) :: ds)) := N2
        clear F1 N1 F2 ht hno
        k_steps
        rename Fr _ _ _ _ => F4
        exact LPost.intro F4 hmem (NoIt.cons cls_list hdn) ⟨ao, items, n, ds, rfl, by rw [hstep, hraw]; exact R, hao, by rfl⟩
      | false =>
      have hraw2 : (raw != Str.ofString "") = true := by rw [bne, hraw]; rfl
      have hpos : 0 < raw.length := by
        rcases Nat.eq_zero_or_pos raw.length with q | q
        · exfalso
          have : raw = Str.ofString "" := by
            obtain ⟨c⟩ := raw
            have hc : c = #[] := Array.eq_empty_of_size_eq_zero q
            rw [hc]; rfl
          rw [this] at hraw
          exact absurd hraw (by decide)
        · exact q
      rw [hraw] at hstep
      simp only [Bool.false_eq_true, if_false] at hstep
      cases R with
      | nil =>
        rw [jtext_nil] at hstep
        have N3 : News _ _ _ ((ao, listOf ([] : List Value).toArray n) :: own) := news_sub N2 (by intro p hp; simp only [List.mem_append, List.mem_cons, List.not_mem_nil, or_false] at hp ⊢; rcases hp with h | h <;> simp [h])
        clear F1 N1 F2 N2 ht hno
        k_steps
        rename News _ _ _ _ => N4
        rename Fr _ _ _ _ => F4
        rename Obj.IsDictOf (PySem.strKind _ _) _ _ => hd4
        rename (_ == sysModules) = false => lo4
        rename _ < _ ∧ _ => hlt
        obtain ⟨q1, q2, q3⟩ := mend (own := own) (ds := []) .nil (fun _ hp => nomatch hp) (Ne.symm (Nat.ne_of_lt hlt.1)) N4 (cls_dict hd4) (by intro p hp; simpa using hp)
        exact LPost.intro F4 q1 q2 ⟨ao, _, _, _, rfl, by rw [hstep]; exact .t (js := []) .nil (fun _ hp => nomatch hp) lo4 hd4 rfl, q3, by rfl⟩
      | @o ds0 vs js a2 b2 o2 ty2 kvs2 rest2 t3 R hb lo D2 hd e2 h2 =>
        rw [jtext_o] at hstep
        have hb2ao : @Ne Nat b2 ao := hao (b2, o2) (.head _)
        have hneb := own_ne N2 hown (let ⟨o, ho, _⟩ := hl; ⟨o, ho⟩) (.tail _ (.head _)) (cls_dict hd).1
        have N3 : News _ _ _ ((ao, listOf (vs ++ [Value.ref b2]).toArray n) :: (b2, o2) :: (ds0 ++ own)) := news_sub N2 (by intro p hp; simp only [List.mem_append, List.mem_cons] at hp ⊢; rcases hp with h | h | h | h <;> simp [h])
        have hl9 : vs.length ≤ 1000 := by rw [List.length_append] at hlen; omega
        have hall2 : ∀ p ∈ ds0 ++ own, p.1 ≠ ao := fun p hp => (List.mem_append.mp hp).elim (fun q => hao p (.tail _ q)) (hne p)
        rw [e2] at hd
        generalize hr9 : ds0 ++ own = rst at N3 hall2
        clear F1 N1 F2 N2 ht hno hall hneb
        k_steps
        rename News _ _ _ _ => N4
        rename Fr _ _ _ _ => F4
        rename Obj.IsDictOf (PySem.strKind _ _) _ (strPairs _) => hd4
        rename _ < _ ∧ _ => hlt
        rename (_ == sysModules) = false => lo4
        subst hr9
        obtain ⟨q1, q2, q3⟩ := mend (own := own) hdn hao (Ne.symm (Nat.ne_of_lt hlt.1)) N4 (cls_dict hd4) (fun p hp => hp)
        exact LPost.intro F4 q1 q2 ⟨ao, _, _, _, rfl, by rw [hstep]; exact .t (.o R hb lo D2 (by rw [e2]; exact hd) e2 h2) (fun p hp => Nat.ne_of_lt (of_allLt (l := (b2, o2) :: (ds0 ++ own)) hlt.2 p (List.mem_append_left (as := (b2, o2) :: ds0) own hp))) lo4 hd4 rfl, q3, by rfl⟩
      | @t ds0 vs js b o t3 t4 rw en R hb lo hd hamp =>
        rw [jtext_t] at hstep
        have hj := hok _ (List.mem_append_right _ (.head _))
        have hrl2 : rw.length ≤ 192 := by have := hj.1; omega
        have hrl3 : rw.length ≤ 1000 := by omega
        have hbao : @Ne Nat b ao := hao (b, o) (.head _)
        have hall2 : ∀ p ∈ ds0 ++ own, p.1 ≠ ao := fun p hp => (List.mem_append.mp hp).elim (fun q => hao p (.tail _ q)) (hne p)
        have hneb := own_ne N2 hown (let ⟨o, ho, _⟩ := hl; ⟨o, ho⟩) (.tail _ (.head _)) (cls_dict hd).1
        have hallb : ∀ p ∈ ds0 ++ own, p.1 ≠ b := fun p hp => (List.mem_append.mp hp).elim (hb p) (hneb p)
        have N3 : News _ _ _ ((ao, listOf (vs ++ [Value.ref b]).toArray n) :: (b, o) :: (ds0 ++ own)) := news_sub N2 (by intro p hp; simp only [List.mem_append, List.mem_cons] at hp ⊢; rcases hp with h | h | h | h <;> simp [h])
        have hl9 : vs.length ≤ 1000 := by rw [List.length_append] at hlen; omega
        have hdn0 := R.noIt
        have hao0 : ∀ p ∈ ds0, p.1 ≠ ao := fun p hp => hao p (.tail _ hp)
        generalize hr9 : ds0 ++ own = rst at N3 hall2 hallb
        unfold twoKvs at hd
        clear F1 N1 F2 N2 ht hno hj hall hneb
        have hq2 : (amp en && isRest raw) = (amp rw && isRest raw) := by rw [hamp]
        rw [hq2] at hstep
        clear hq2
        cases hq : (amp rw && isRest raw) with
        | false =>
          rw [hq] at hstep
          k_steps
          rename News _ _ _ _ => N4
          rename Fr _ _ _ _ => F4
          subst hr9
          rename Obj.IsDictOf (PySem.strKind _ _) _ (stored _ _ _) => hd4
          refine LPost.intro F4 (mon N4) (.cons cls_list (.cons (cls_dict hd4) hdn0)) ⟨ao, _, _, _, rfl, ?_, fun p hp => ?_, by rfl⟩
          · rw [hstep]
            exact .t R hb lo hd4 (amp_append hpos)
          · rcases List.mem_cons.mp hp with rfl | hp
            · exact hbao
            · exact hao0 p hp
        | true =>
          rw [hq] at hstep
          k_steps
          rename News _ _ _ _ => N4
          rename Fr _ _ _ _ => F4
          subst hr9
          rename Obj.IsDictOf (PySem.strKind _ _) _ (strPairs _) => hd4
          rename _ < _ ∧ _ => hlt
          rename (_ == sysModules) = false => lo4
          obtain ⟨q1, q2, q3⟩ := mend (own := own) hdn hao (Ne.symm (Nat.ne_of_lt hlt.1)) N4 (cls_dict hd4) (fun p hp => hp)
          exact LPost.intro F4 q1 q2 ⟨ao, _, _, _, rfl, by rw [hstep]; exact .t (.t R hb lo hd hamp) (fun p hp => Nat.ne_of_lt (of_allLt (l := (b, o) :: (ds0 ++ own)) hlt.2 p (List.mem_append_left (as := (b, o) :: ds0) own hp))) lo4 hd4 rfl, q3, by rfl⟩
  · rintro m₁ news₁ h1 tk1 ⟨ao, items, n, ds, rfl, R, hao, ht⟩ F2 N2
    rw [vals_len, List.take_length] at R
    have F3 := fr_name F2 ht
    clear F1 N1 F2
    k_steps
    exact ret _ _ _ _ _ _ F3.keep (News.born N2) R
end

end
section
variable {w : World} {A : Around} {E : Value → Shared → Prop} {s : Shared} {K : Frag} {h₀ : Heap} {news : List (Addr × Obj)} {p : Program} {loose : List Str} {mean : ExcName → Option Value} {mg mb : Str → Option Value}
/-- a call of a def that holds cells -/
theorem enterC {name qual : Str} {params : Arguments} {body : List Stmt} {scope : Scope} {dV kV doc pm cdv ct oc : Value} {an od : Option Addr} {osl : Array (Option Value)} {f : Addr} {vals : List Value} {binds : List (Str × Value)} {Q : Value → Shared → Prop}
    (X : K.In h₀) (hlim : h₀.NoLimit) (hsub : ∀ b o, h₀.get? b = some o → s.heap.get? b = some o) (hsz : h₀.objs.size ≤ s.heap.objs.size)
    (N : ∀ p ∈ news, s.heap.get? p.1 = some p.2 ∧ h₀.get? p.1 = none)
    (ho : K.lookup f = some ⟨oc, od, .func (fnOf name qual params body scope dV kV doc pm an cdv ct), osl⟩) (hcd : codeIn K cdv qual = true) (hroom : A.depth < recursionLimit)
    (hbind : BindsTo s (fnOf name qual params body scope dV kV doc pm an cdv ct) ⟨vals, []⟩ binds)
    (hkind : (binds.all fun y => scope.names.lookup y.1 == some .local || scope.names.lookup y.1 == some .cell) = true) (hnd : ((cellsFrom 0 scope.names []).map (·.1)).Nodup)
    (h : ∀ L h₁ tk cells, Fr h₀ L h₁ (bindL (envOfC qual scope L f cdv).kindOf binds fun _ => none) → News h₀ L h₁ (cells ++ news) → CellsAre (bindC (envOfC qual scope L f cdv).kindOf binds fun _ => none) (cellsFrom (L + 1) scope.names []) cells →
      (∀ p ∈ news, p.1 < L) →
      wpAny (model PR w) (A.deeper (envOfC qual scope L f cdv)) (execs body (envOfC qual scope L f cdv))
        (fun fl s' => Q (match fl with | .ret v => v | _ => .none) s') (fun _ _ => False) { s with heap := h₁, toks := tk })
    (hco : scope.isCoroutine = false) (hgen : scope.isGenerator = false) (hk : scope.kind = .function) : wpAny (model PR w) A (call (.ref f) vals) Q E s := by
  refine wpAny_call (codeAny_call_function hroom (hsub _ _ (X _ _ ho)) rfl hco hgen rfl (codeRec_of (fun a o e => hsub _ _ (X a o e)) hcd) (hbind _ _ _ _ ?_))
  refine wpAny_newFunctionEnv_cells hk (kindsX hkind _) fun env' he s' x => ?_
  subst he
  refine ⟨(hlim.keeps hsub).keeps x.toInCall.keep, codeAny_func ?_⟩
  obtain ⟨h₁, tk, rfl, _⟩ := x.done
  have hk₁ := x.toInCall.keep
  obtain ⟨cells, NC, Y⟩ := Cl.news (h₀ := s.heap) (Nat.le_refl _) fun n c hm => ⟨x.cell n c (lookup_of_mem_nodup (cellsFrom_names scope.names 0 (s.heap.objs.size + 1) [] [] rfl ▸ hnd) hm), x.above n c hm⟩
  refine wpAny_mono (h s.heap.objs.size h₁ tk cells ⟨x.toInCall.ns, fun b o e => hk₁ b o (hsub b o e), hsz⟩ (fun p hp => ?_) Y (fun p hp => Heap.lt_size (N p hp).1)) (fun _ _ z => z) fun _ _ z => z.elim
  rcases List.mem_append.mp hp with hp | hp
  · refine ⟨(NC p hp).1, (NC p hp).2.1, ?_⟩
    cases q : h₀.get? p.1 with
    | none => rfl
    | some o => have := hsub _ _ q; rw [(NC p hp).2.2] at this; cases this
  · exact ⟨hk₁ _ _ (N p hp).1, Nat.ne_of_lt (Heap.lt_size (N p hp).1), (N p hp).2⟩
/-- a call of a def made in a body -/
theorem enterX {name qual : Str} {params : Arguments} {body : List Stmt} {scope : Scope} {cl : List (Str × Addr)} {doc pm ctv : Value} {c' f : Addr} {fn : Obj} {vals : List Value} {binds : List (Str × Value)} {Q : Value → Shared → Prop} {L₀ : Addr} {m : Str → Option Value}
    (hlim : h₀.NoLimit) (F : Fr h₀ L₀ s.heap m) (N : News h₀ L₀ s.heap news)
    (hfn : fn = fnMade name qual params body scope cl doc pm c' ctv) (ho : (f, fn) ∈ news) (hcd : s.heap.CodeRec (.ref c') qual) (hroom : A.depth < recursionLimit)
    (hbind : BindsTo s (fnX name qual params body scope cl .none .none doc pm none (.ref c') ctv) ⟨vals, []⟩ binds) (hloc : ∀ y ∈ binds, scope.names.lookup y.1 = some .local)
    (h : ∀ g L h₁ tk, h₀.StaysIn g → Fr g L h₁ (fun y => binds.reverse.lookup y) → News g L h₁ news → (∀ h' m' news', Fr g L h' m' → News g L h' news' → Fr h₀ L₀ h' m ∧ News h₀ L₀ h' news') →
      wpAny (model PR w) (A.deeper (envX qual scope L f (.ref c') cl)) (execs body (envX qual scope L f (.ref c') cl))
        (fun fl s' => Q (match fl with | .ret v => v | _ => .none) s') (fun _ _ => False) { s with heap := h₁, toks := tk })
    (hco : scope.isCoroutine = false) (hgen : scope.isGenerator = false) (hk : scope.kind = .function)
    (hcell : ∀ x ∈ scope.names, x.2 ≠ .cell) : wpAny (model PR w) A (call (.ref f) vals) Q E s := by
  have st : h₀.StaysIn (hideAll s.heap (news.map (·.1))) := fun b o e => hideAll_get _ (F.keep b o e) fun q => by
    obtain ⟨p, hp, e2⟩ := List.mem_map.mp q
    have := (N p hp).2.2
    rw [e2, e] at this; cases this
  refine wpAny_call (codeAny_call_def (fd := fnX name qual params body scope cl .none .none doc pm none (.ref c') ctv) (body := body) (binds := binds) hroom ((N _ ho).1.trans (congrArg some hfn)) rfl (hlim.keeps F.keep) hcd rfl hbind hcell hloc (fun h₁ hns hk₁ => ?_) hco hgen hk)
  refine wpAny_mono (h (hideAll s.heap (news.map (·.1))) s.heap.objs.size h₁ _ st ⟨hns, fun b o e => hk₁ b o (of_hideAll _ e), Nat.le_of_eq (hideAll_size _ _)⟩
    (fun p hp => ⟨hk₁ _ _ (N p hp).1, Nat.ne_of_lt (Heap.lt_size (N p hp).1), hideAll_none _ (List.mem_map_of_mem hp)⟩) (fun h' m' news' F' N' => ?_)) (fun _ _ x => x) fun _ _ x => x.elim
  have hL : ∀ oL, s.heap.get? L₀ = some oL → (hideAll s.heap (news.map (·.1))).get? L₀ = some oL := fun oL eL => hideAll_get _ eL fun q => by
    obtain ⟨p, hp, e2⟩ := List.mem_map.mp q
    exact (N p hp).2.1 e2
  refine ⟨⟨F.ns.at' fun oL eL => F'.keep _ _ (hL oL eL), fun b o e => F'.keep _ _ (st b o e), F.above⟩, fun p hp => ⟨(N' p hp).1, fun q => ?_, ?_⟩⟩
  · obtain ⟨oL, _, _, eL, _⟩ := F.ns
    have := (N' p hp).2.2
    rw [q, hL oL eL] at this; cases this
  · cases e : h₀.get? p.1 with
    | none => rfl
    | some o => have := (N' p hp).2.2; rw [st _ _ e] at this; cases this
end
section
variable {M : Model} {A : Around} {E : Value → Shared → Prop} {s : Shared} {h₀ : Heap} {L a c P : Addr} {m mg mb : Str → Option Value} {cn : Str} {cs : Scope} {ccd : Value} {cl : List (Str × Addr)} {rest tabs : List (Addr × Obj)}
  {p : Program} {loose : List Str} {mean : ExcName → Option Value} {name qual : Str} {params : Arguments} {body : List Stmt} {scope : Scope} {pos : Pos} {firstLine : Nat} {clos : List (Str × Addr)}
/-- what the table object holds: nothing yet, or the one code that was made -/
inductive TabL (P : Addr) (l c : Nat) (qual : Str) : List (Addr × Obj) → Prop
  | none : TabL P l c qual [(P, tabObj #[])]
  | made {c' : Addr} {oc : Obj} {vs : Array Value} {t : PySem.Tok} : oc.data = .fields vs → vs[1]? = some (.str qual t) → TabL P l c qual [(P, tabObj #[rawInt l, rawInt c, .ref c']), (c', oc)]
theorem nestE {Q : Value → Shared → Prop} (F : Fr h₀ L s.heap m) (N : News h₀ L s.heap (tabs ++ rest)) (T : Top p loose mean mg mb h₀) (C : CodeHd h₀ c P) (hcd : ccd = .ref c) (hT : TabL P pos.line pos.col qual tabs) (hr : ∀ q ∈ rest, q.1 ≠ P)
    (hcl : closureFor scope (envX cn cs L a ccd cl) = pure clos)
    (h : ∀ f c' oc vs t ctv doc h' tk, Fr h₀ L h' m →
      News h₀ L h' ((f, fnMade name qual params body scope clos doc ((mg "__name__").getD .none) c' ctv) :: (P, tabObj #[rawInt pos.line, rawInt pos.col, .ref c']) :: (c', oc) :: rest) →
      oc.data = .fields vs → vs[1]? = some (.str qual t) → (∀ q ∈ rest, q.1 < f) → (∀ q ∈ tabs, q.1 ≠ P → q = (c', oc)) → Q (.ref f) { s with heap := h', toks := tk }) :
    wpAny M A (makeFunction name qual params (.stmts body) scope (envX cn cs L a ccd cl) [] [] [] pos firstLine) Q E s := by
  cases hT with
  | none =>
    refine nest_K F N T C hcd (.head hr) (by exact True.intro) rfl hcl fun f c' oc vs t ctv doc h' tk F' N' hd hv l1 l2 => h f c' oc vs t ctv doc h' tk F' (news_sub N' ?_) hd hv (fun q hq => Nat.lt_trans (l1 q (.tail _ hq)) l2) ?_
    · intro p hp
      simp only [List.mem_cons] at hp ⊢
      rcases hp with h | h | h | h <;> simp [h]
    · intro q hq hn
      exact absurd (by rw [List.mem_singleton.mp hq]) hn
  | @made c' oc vs t hd hv =>
    refine nestHit_K F N T C hcd (.head _) (by simp [TriplesOk, rawInt]) (by simp [codeAmong, rawInt]) hcl fun f ctv doc h' tk F' N' l1 => h f c' oc vs t ctv doc h' tk F' N' hd hv (fun q hq => l1 q (List.mem_append_right _ hq)) ?_
    intro q hq hn
    rcases List.mem_cons.mp hq with rfl | hq
    · exact absurd rfl hn
    · exact List.mem_singleton.mp hq
end

def flushLine : Nat := 126
def flushCol : Nat := 4
def flushQual : Str := Str.ofString "_coalesce_emphasis_text.<locals>.flush"
def FnObj (fn : Obj) : Prop := ∃ oc od fd sl, fn = ⟨oc, od, .func fd, sl⟩
theorem FnAt.of2 {h₀ h : Heap} {L q : Addr} {fn : Obj} {news : List (Addr × Obj)} (x : FnObj fn) (N : News h₀ L h news) (hm : (q, fn) ∈ news) : FnAt q h := by
  obtain ⟨oc, od, fd, sl, rfl⟩ := x
  exact FnAt.of N hm
theorem pickFn {h₀ h : Heap} {L f : Addr} {o : Obj} {r : List (Addr × Obj)} {P : Prop} (N : News h₀ L h ((f, o) :: r)) (k : ∀ fn, fn = o → News h₀ L h ((f, fn) :: r) → P) : P := k o rfl N
theorem tabs_last {h₀ h : Heap} {L : Addr} {a b c d e : Addr × Obj} {tabs : List (Addr × Obj)} (N : News h₀ L h (a :: b :: c :: d :: e :: tabs)) : News h₀ L h (tabs ++ [b, a, d, c, e]) := news_sub N (by
  intro p hp; simp only [List.mem_append, List.mem_cons, List.not_mem_nil, or_false] at hp ⊢
  rcases hp with h | h | h | h | h | h <;> simp [h])
/-- where the made def and its cells stand -/
abbrev lay (lr lc ce cr cc f c' : Addr) (a b oe ocr occ fn oc : Obj) (rst : List (Addr × Obj)) : List (Addr × Obj) :=
  (lr, a) :: (lc, b) :: (ce, oe) :: (cr, ocr) :: (cc, occ) :: (f, fn) :: (c', oc) :: rst
def txtMode (en : Bool) : Option Bool := if en then none else some false
/-- flush, nothing pending -/
def Flush0 (w : World) (h₀ : Heap) (L : Addr) (lr lc ce cr cc f c' : Addr) (ocr occ fn oc : Obj) : Prop :=
  ∀ ⦃A : Around⦄ ⦃E Q : Value → Shared → Prop⦄ ⦃s : Shared⦄ ⦃m : Str → Option Value⦄ ⦃rst : List (Addr × Obj)⦄ ⦃rvs : Array Value⦄ ⦃n k : Nat⦄ ⦃oe : Obj⦄, Ok A 0 → Fr h₀ L s.heap m → News h₀ L s.heap (lay lr lc ce cr cc f c' (listOf rvs n) (listOf #[] k) oe ocr occ fn oc rst) →
    (∀ h' tk, Fr h₀ L h' m → News h₀ L h' (lay lr lc ce cr cc f c' (listOf rvs n) (listOf #[] k) oe ocr occ fn oc rst) → Q .none { s with heap := h', toks := tk }) → wpAny (model PR w) A (call (.ref f) []) Q E s
/-- flush, something pending -/
def Flush1 (w : World) (h₀ : Heap) (L : Addr) (lr lc ce cr cc f c' : Addr) (ocr occ fn oc : Obj) : Prop :=
  ∀ ⦃A : Around⦄ ⦃E Q : Value → Shared → Prop⦄ ⦃s : Shared⦄ ⦃m : Str → Option Value⦄ ⦃rst : List (Addr × Obj)⦄ ⦃rvs : List Value⦄ ⦃n k : Nat⦄ ⦃oe : Obj⦄ ⦃vs : List Value⦄ ⦃x : Value⦄ ⦃ss : List Str⦄ ⦃en : Bool⦄, Ok A 0 → Fr h₀ L s.heap m → News h₀ L s.heap (lay lr lc ce cr cc f c' (listOf rvs.toArray n) (listOf (vs ++ [x]).toArray k) oe ocr occ fn oc rst) →
    oe.data = .cell (some (.bool en)) → StrsAre (vs ++ [x]) ss → (∀ y ∈ ss, y.length ≤ 1000) → ss.length ≤ 1000 → rvs.length ≤ 1000 → (∀ p ∈ rst, p.1 ≠ lr) → (∀ p ∈ rst, p.1 ≠ lc) →
    (∀ d od kvs n' k' h' tk, Fr h₀ L h' m → News h₀ L h' ((d, od) :: lay lr lc ce cr cc f c' (listOf (rvs ++ [Value.ref d]).toArray n') (listOf #[] k') oe ocr occ fn oc rst) →
      @Ne Nat d lr → @Ne Nat d lc → @Ne Nat d ce → NeAll d rst → (d == sysModules) = false → od.IsDictOf (PySem.strKind PR w) kvs → TkIs kvs (.text (txtMode en) (cat ss)) → Q .none { s with heap := h', toks := tk }) → wpAny (model PR w) A (call (.ref f) []) Q E s
theorem Flush0.use {w : World} {h₀ : Heap} {L lr lc ce cr cc f c' : Addr} {ocr occ fn oc : Obj} (H : Flush0 w h₀ L lr lc ce cr cc f c' ocr occ fn oc) : Flush0 w h₀ L lr lc ce cr cc f c' ocr occ fn oc := H
theorem Flush1.use {w : World} {h₀ : Heap} {L lr lc ce cr cc f c' : Addr} {ocr occ fn oc : Obj} (H : Flush1 w h₀ L lr lc ce cr cc f c' ocr occ fn oc) : Flush1 w h₀ L lr lc ce cr cc f c' ocr occ fn oc := H
theorem nonempty_len {vs : List Value} {x : Value} : (vs ++ [x]).toArray.toList.length ≠ 0 := by simp
theorem ne_obj {h₀ h : Heap} {L a b : Addr} {o o' : Obj} {news : List (Addr × Obj)} (N : News h₀ L h news) (h1 : (a, o) ∈ news) (h2 : (b, o') ∈ news) (hne : o.data ≠ o'.data) : @Ne Nat a b := fun e => hne (by
  have e2 : a = b := e
  subst e2
  rw [news_eq N h1 h2])
/-- two places that are told apart, said so that omega does not split on it -/
def NeH (a b : Nat) : Prop := a ≠ b
theorem NeH.ne {a b : Nat} (h : NeH a b) : a ≠ b := h
theorem NeH.ne' {a b : Nat} (h : NeH a b) : b ≠ a := Ne.symm h
theorem NeH.intro {a b : Nat} (h : a ≠ b) : NeH a b := h

section
variable {prog : Program} {w : World} {A : Around} {E : Value → Shared → Prop} {s : Shared} {env : Env} {h₀ : Heap} {x : Str} {body : List Stmt} {Q : Flow → Shared → Prop}
/-- older than the loop, or no iterator -/
def OldOr (B : Nat) (news : List (Addr × Obj)) : Prop := ∀ p ∈ news, @LT.lt Nat _ p.1 B ∨ NoItC p.2.cls
def LPostB (B : Nat) (h₀ : Heap) (L : Addr) (J : (Str → Option Value) → List (Addr × Obj) → Prop) (own : List (Addr × Obj)) (s₁ : Shared) (Q : Flow → Shared → Prop) (f : Flow) (s₂ : Shared) : Prop :=
  match f with
  | .ret v => Q (.ret v) s₂
  | .brk => Q .next s₂
  | _ => ∃ h' tk m' news', s₂ = { s₁ with heap := h', toks := tk } ∧ Fr h₀ L h' m' ∧ News h₀ L h' (own ++ news') ∧ OldOr B news' ∧ J m' news'
theorem LPostB.intro {B : Nat} {L : Addr} {J : (Str → Option Value) → List (Addr × Obj) → Prop} {own news' : List (Addr × Obj)} {s₁ : Shared} {h' : Heap} {tk : Nat} {m' : Str → Option Value}
    (F : Fr h₀ L h' m') (N : News h₀ L h' (own ++ news')) (hn : OldOr B news') (hj : J m' news') : ∃ h'' tk'' m'' news'', ({ s₁ with heap := h', toks := tk } : Shared) = { s₁ with heap := h'', toks := tk'' } ∧ Fr h₀ L h'' m'' ∧ News h₀ L h'' (own ++ news'') ∧ OldOr B news'' ∧ J m'' news'' :=
  ⟨h', tk, m', news', rfl, F, N, hn, hj⟩
theorem loopB {l : Addr} {vs : List Value} {m₀ : Str → Option Value} {news : List (Addr × Obj)} (J : Nat → (Str → Option Value) → List (Addr × Obj) → Prop)
    (hh : A.handled = none) (hl : s.heap.IsList l vs.toArray) (F : Fr h₀ env.locals s.heap m₀) (N : News h₀ env.locals s.heap news) (hj : J 0 m₀ news)
    (turn : ∀ i v m₁ news₁ h tk own, vs[i]? = some v → OldOr s.heap.objs.size news₁ → J i m₁ news₁ → (∀ p ∈ own, p.1 = l ∨ p.1 = s.heap.objs.size) → (∀ o, (l, o) ∈ own → o.cls = .type "list") → h.IsList l vs.toArray →
      Fr h₀ env.locals h (fun y => if y = x then some v else m₁ y) → News h₀ env.locals h (own ++ news₁) →
      wpAny (model prog w) A (execs body env) (LPostB s.heap.objs.size h₀ env.locals (J (i + 1)) own { s with heap := h, toks := tk } Q) E { s with heap := h, toks := tk })
    (done : ∀ m₁ news₁ h tk, J vs.length m₁ news₁ → Fr h₀ env.locals h m₁ → News h₀ env.locals h news₁ → Q .next { s with heap := h, toks := tk }) :
    wpAny (model prog w) A (pyIter (.ref l)) (fun it s₂ => LoopAtV prog w A h₀ env x body Q E it s₂) E s := by
  obtain ⟨ol, hol, hcl, nl, hdl⟩ := id hl
  have hlt : l < s.heap.objs.size := Heap.lt_size hol
  have hne : l ≠ s.heap.objs.size := Nat.ne_of_lt hlt
  have hLl : env.locals ≠ l := by
    rintro rfl
    obtain ⟨oL, es, ep, hL, hd, _⟩ := F.ns
    rw [hol] at hL
    cases hL
    rw [hdl] at hd
    cases hd
  refine wpAny_pyIter_list hl ?_
  have W := Walks.list (prog := prog) (w := w) hh s.heap.objs.size l hne vs.toArray
  rw [show vs.toArray.size = vs.length by simp] at W
  let J' : Nat → (Str → Option Value) → List (Addr × Obj) → Prop := fun i m₁ news₁ => OldOr s.heap.objs.size news₁ ∧ J i m₁ news₁
  refine ⟨_, _, _, vs.length, _, _, m₀, news, J', rfl, W, ?_, ?_, ?_, ⟨⟨_, Heap.get?_push_size _ rfl, rfl, rfl⟩, hl.at fun o e => Heap.get?_push_of_some _ e⟩, F.push _, (fun p hp => ⟨Heap.get?_push_of_some _ (N p hp).1, (N p hp).2⟩), ⟨(fun p hp => .inl (Heap.lt_size (N p hp).1)), hj⟩, ?_, ?_⟩
  · intro hm
    rcases List.mem_cons.mp hm with e | hm
    · exact absurd F.ns.lt (e ▸ Nat.lt_irrefl _)
    · exact hLl (List.mem_singleton.mp hm)
  · intro b hb
    rw [List.mem_singleton.mp hb]
    exact next_is_new F
  · intro p hp hI
    exact absurd (Heap.lt_size (N p hp).1) ((List.mem_singleton.mp hI) ▸ Nat.lt_irrefl _)
  · rintro i v m₁ news₁ s₁ own ⟨hh', tk', rfl⟩ hin hP ⟨hno, hJ⟩ hoff hown hget hall hst F₁ N₁
    have hv : vs[i]? = some v := by simpa using hP
    obtain ⟨oi, hoi, hci, hdi⟩ := hst.1
    have hown' : ∀ p ∈ own, p.1 = l ∨ p.1 = s.heap.objs.size := by
      intro p hp
      rcases List.mem_cons.mp (hown p hp) with e | e
      · exact .inr e
      · exact .inl (List.mem_singleton.mp e)
    have hIown : (s.heap.objs.size, oi) ∈ own := hall _ (.head _) (next_is_new F) oi hoi
    have hlo : ∀ o, (l, o) ∈ own → o.cls = .type "list" := by
      intro o ho
      obtain ⟨o2, ho2, hc2, _⟩ := hst.2
      have e2 := hget _ ho
      simp only at e2
      rw [ho2] at e2
      cases e2
      exact hc2
    refine wpAny_mono (turn i v m₁ news₁ hh' tk' own hv hno hJ hown' hlo hst.2 F₁ N₁) (fun f s₂ p => ?_) fun _ _ e => e
    have fin : (∃ h' tk m' news', s₂ = { ({ s with heap := hh', toks := tk' } : Shared) with heap := h', toks := tk } ∧ Fr h₀ env.locals h' m' ∧ News h₀ env.locals h' (own ++ news') ∧ OldOr s.heap.objs.size news' ∧ J (i + 1) m' news') →
        LoopStepU h₀ env.locals [s.heap.objs.size] own (J' (i + 1)) { s with heap := hh', toks := tk' } .next s₂ := by
      rintro ⟨h', tk, m', news', e, F', N', hn, hm⟩
      refine ⟨rfl, h', tk, m', news', e, F', N', fun p hp hq => ?_, hn, hm⟩
      have hpI := List.mem_singleton.mp hq
      have e1 := news_eq N' (List.mem_append_left _ hIown) (List.mem_append_right _ (by rw [← hpI]; exact hp : (s.heap.objs.size, p.2) ∈ news'))
      rcases hn p hp with q1 | q1
      · rw [hpI] at q1; exact Nat.lt_irrefl _ q1
      · exact q1.1 (e1 ▸ hci)
    cases f with
    | ret v => exact .ret p
    | brk => exact .brk p
    | next => exact .next (fin p)
    | cont => exact .cont (fin p)
  · rintro h' tk m' news' F' N' _ ⟨_, hJ⟩
    exact done m' news' h' tk hJ F' N'

end
/-- the pieces that wait, and the group they make -/
inductive Pend (i : Nat) : List Value → Bool → List J1 → List J1 → Prop
  | none0 {en : Bool} : Pend i [] en [] []
  | none {en : Bool} {l : List J1} {v : Value} : Pend i [] en (l ++ [.o v]) (l ++ [.o v])
  | some {vs : List Value} {x : Str} {t : PySem.Tok} {ss : List Str} {en : Bool} {js : List J1} : StrsAre (vs ++ [.str x t]) ss → (∀ y ∈ ss, y ∈ words) → ss.length ≤ i → x ∈ words → Pend i (vs ++ [.str x t]) en js (js ++ [.t en (cat ss) x])
section
variable {w : World} {A : Around} {E : Value → Shared → Prop} {s : Shared} {p : Program} {loose : List Str} {mean : ExcName → Option Value} {mg mb : Str → Option Value}
  {h₀ : Heap} {L : Addr} {m : Str → Option Value} {news : List (Addr × Obj)}
theorem use_boundary {Q : Value → Shared → Prop} {x y : Str} {t u : PySem.Tok} (hA : Ok A 0) (X : (hd.heap_39 w.params).In h₀) (T : Top p loose mean mg mb h₀) (F : Fr h₀ L s.heap m) (N : News h₀ L s.heap news) (hx : x ∈ words) (hy : y ∈ words)
    (ret : ∀ h' tk, Fr h₀ L h' m → News h₀ L h' news → Q (.bool (amp x && isRest y)) { s with heap := h', toks := tk }) :
    wpAny (model PR w) A (call (.ref 55) [.str x t, .str y u]) Q E s :=
  spec_boundary hA (X.keeps F.keep) (T.keeps F.keep) hx hy fun h' tk k => ret h' tk (fr_stays F k) (news_stays N k)
end
theorem coal_end {h₀ h : Heap} {L lr lc ce cr cc f c' : Addr} {a b oe ocr occ fn oc : Obj} {tbp : Addr × Obj} {rds own rst : List (Addr × Obj)} (N : News h₀ L h (lay lr lc ce cr cc f c' a b oe ocr occ fn oc rst)) (hs : tbp :: (rds ++ own) = rst) :
    News h₀ L h (own ++ lay lr lc ce cr cc f c' a b oe ocr occ fn oc (tbp :: rds)) := by
  subst hs
  refine news_sub N fun p hp => ?_
  simp only [lay, List.mem_append, List.mem_cons] at hp ⊢
  rcases hp with h | h | h | h | h | h | h | h | h | h <;> simp [h]
theorem coal_end1 {h₀ h : Heap} {L lr lc ce cr cc f c' : Addr} {a b oe ocr occ fn oc : Obj} {d tbp : Addr × Obj} {rds own rst : List (Addr × Obj)} (N : News h₀ L h (d :: lay lr lc ce cr cc f c' a b oe ocr occ fn oc rst)) (hs : tbp :: (rds ++ own) = rst) :
    News h₀ L h (own ++ lay lr lc ce cr cc f c' a b oe ocr occ fn oc (tbp :: (d :: rds))) := by
  subst hs
  refine news_sub N fun p hp => ?_
  simp only [lay, List.mem_append, List.mem_cons] at hp ⊢
  rcases hp with h | h | h | h | h | h | h | h | h | h | h <;> simp [h]
theorem coal_old {w : World} {B : Nat} {lr lc ce cr cc f c' : Addr} {a b oe ocr occ fn oc : Obj} {tbp : Addr × Obj} {rds : List (Addr × Obj)} (hB : ∀ x ∈ [lr, lc, ce, cr, cc, f, c', tbp.1], @LT.lt Nat _ x B) (hd : DictsIn w rds) :
    OldOr B (lay lr lc ce cr cc f c' a b oe ocr occ fn oc (tbp :: rds)) := fun p hp => by
  simp only [List.mem_cons, List.not_mem_nil, or_false, forall_eq_or_imp, forall_eq] at hB
  obtain ⟨h1, h2, h3, h4, h5, h6, h7, h8⟩ := hB
  simp only [lay, List.mem_cons] at hp
  rcases hp with rfl | rfl | rfl | rfl | rfl | rfl | rfl | rfl | hp
  · exact .inl h1
  · exact .inl h2
  · exact .inl h3
  · exact .inl h4
  · exact .inl h5
  · exact .inl h6
  · exact .inl h7
  · exact .inl h8
  · exact .inr (hd.noIt p hp)
theorem Pend.len {i : Nat} {pe : List Value} {en : Bool} {js all : List J1} (h : Pend i pe en js all) : js.length ≤ all.length := by cases h <;> simp
theorem StrsAre.snoc {vs : List Value} {ss : List Str} {x : Str} {t : PySem.Tok} (h : StrsAre vs ss) : StrsAre (vs ++ [.str x t]) (ss ++ [x]) := StrsAre.append' h (.cons _ _ .nil)
theorem cat_one (x : Str) : cat ([] ++ [x]) = x := by
  rw [cat_snoc]
  show Str.ofString "" ++ x = x
  rw [empty_is, str_empty]
theorem Pend.new {i : Nat} {raw : Str} {u : PySem.Tok} {live : Bool} {js : List J1} (h : raw ∈ words) : Pend (i + 1) ([] ++ [.str raw u]) live js (js ++ [.t live raw raw]) := by
  have q := Pend.some (i := i + 1) (vs := []) (x := raw) (t := u) (ss := [] ++ [raw]) (en := live) (js := js) (StrsAre.snoc .nil) (fun y hy => by rw [List.mem_singleton.mp hy]; exact h) (by simp) h
  rw [cat_one] at q
  exact q
theorem Pend.more {i : Nat} {vs : List Value} {x raw : Str} {t u : PySem.Tok} {ss : List Str} {live : Bool} {js : List J1} (hI : StrsAre (vs ++ [.str x t]) ss) (hw : ∀ y ∈ ss, y ∈ words) (hl : ss.length ≤ i) (h : raw ∈ words) :
    Pend (i + 1) (vs ++ [.str x t] ++ [.str raw u]) live js (js ++ [.t live (cat ss ++ raw) raw]) := by
  have q := Pend.some (i := i + 1) (vs := vs ++ [.str x t]) (x := raw) (t := u) (ss := ss ++ [raw]) (en := live) (js := js) (StrsAre.snoc hI) (fun y hy => (List.mem_append.mp hy).elim (hw y) fun q => by rw [List.mem_singleton.mp q]; exact h) (by rw [List.length_append]; simp; omega) h
  rw [cat_snoc] at q
  exact q
theorem born_end {h₀ h : Heap} {L lr lc ce cr cc f c' : Addr} {a b oe ocr occ fn oc : Obj} {tbp : Addr × Obj} {rds rst : List (Addr × Obj)} (N : News h₀ L h (lay lr lc ce cr cc f c' a b oe ocr occ fn oc rst)) (hs : tbp :: rds = rst) :
    Born h₀ h ((lr, a) :: ([tbp, (c', oc)] ++ rds)) := by
  subst hs
  refine News.born (L := L) (news_sub N fun p hp => ?_)
  simp only [lay, List.mem_append, List.mem_cons, List.not_mem_nil, or_false] at hp ⊢
  rcases hp with h | (h | h) | h <;> simp [h]
theorem born_end1 {h₀ h : Heap} {L lr lc ce cr cc f c' : Addr} {a b oe ocr occ fn oc : Obj} {d tbp : Addr × Obj} {rds rst : List (Addr × Obj)} (N : News h₀ L h (d :: lay lr lc ce cr cc f c' a b oe ocr occ fn oc rst)) (hs : tbp :: rds = rst) :
    Born h₀ h ((lr, a) :: ([tbp, (c', oc)] ++ (d :: rds))) := by
  subst hs
  refine News.born (L := L) (news_sub N fun p hp => ?_)
  simp only [lay, List.mem_append, List.mem_cons, List.not_mem_nil, or_false] at hp ⊢
  rcases hp with h | (h | h) | h | h <;> simp [h]

theorem anew17 : True ∧ True := by
  w_top off
  first | (walk1 <;> trivial) | exact ⟨trivial, trivial⟩
section
local macro_rules | `(tactic| walk_at "m ok") => `(tactic| (first
  | assumption
  | exact Ok.mono (by assumption) (by decide)
  | exact Ok.mono (Ok.deeper (by assumption) _) (by decide)
  | exact Ok.mono (Ok.in1 (Ok.deeper (by assumption) _)) (by decide)
  | exact Ok.mono (Ok.in1 (by assumption)) (by decide)))
local macro_rules | `(tactic| walk_at "m room") => `(tactic| exact Ok.room (by assumption))
local macro_rules | `(tactic| walk_at "m dict") => `(tactic| (first
  | exact DictAt.fr (by k_asm) (by k_asm)
  | exact DictAt.news (by k_asm) (by k_mem) (by k_asm) (by k_asm)))
local macro_rules | `(tactic| walk_at "getMethod ref") => `(tactic| (k_here; k_dflt (first
  | ((with_reducible show wpAny _ _ (getMethod (Value.ref _) (Str.ofString "get") _) _ _ _); refine meth_at PySem.F.slot_dict_get PySem.F.type_dict_get (by walk_at "m dict") ?_)
  | ((with_reducible show wpAny _ _ (getMethod (Value.ref _) (Str.ofString "copy") _) _ _ _); refine meth_at PySem.F.slot_dict_copy PySem.F.type_dict_copy (by walk_at "m dict") ?_)
  | ((with_reducible show wpAny _ _ (getMethod (Value.ref _) (Str.ofString "pop") _) _ _ _); refine meth_at PySem.F.slot_dict_pop PySem.F.type_dict_pop (by walk_at "m dict") ?_))))
local macro_rules | `(tactic| walk_at "call builtin:dict.get") => `(tactic| (k_here; k_dflt (refine' get2_at (by walk_at "m dict") ?v ?_; (case v => first | assumption | with_unfolding_all exact Eq.refl (Value.bool _) | rfl); k_whole)))
local macro_rules | `(tactic| walk_at "subscriptTail") => `(tactic| (k_here; (with_reducible show wpAny _ _ (subscriptTail _ _ (Value.ref _) (Value.str _ _)) _ _ _); k_dflt (refine' item_at (by walk_at "m dict") ?v ?_ ?hs; (case v => first | assumption | rfl); (case hs => with_unfolding_all rfl); k_whole)))
local macro_rules | `(tactic| walk_at "exec For") => `(tactic| (k_here; k_dflt (refine For_m (by k_asm) (by rfl) (by rfl) ?_ (by intro _; rfl) PassesOwn.never)))
local macro_rules | `(tactic| k_all) => `(tactic| assumption)
local macro_rules | `(tactic| walk_at "m sub") => `(tactic| (intro p9 hp9; simp only [List.mem_append, List.mem_cons, List.not_mem_nil, or_false, false_or] at hp9 ⊢; grind))
local macro_rules | `(tactic| walk_at "callWith") => `(tactic| ((with_reducible show wpAny _ _ (callWith _ (Value.builtin _) [_] (backTo _ (starEach (_ :: _) _)) []) _ _ _); refine callWith_method1 ?_))

local macro_rules | `(tactic| walk_at "Exists") => `(tactic| (k_here; (refine made_m (by k_asm) (by first | k_asm | exact News.nil) (Top.nolimit (by k_asm)) (by rfl) (of_decide_eq_true (by rfl)) ?_; intro h' o' F' N' l1 lo' hd'; (try k_lt l1); (try dsimp only at N'); (try dsimp only))))
local macro_rules | `(tactic| walk_at "call ref") => `(tactic| (k_here; (with_reducible show wpAny _ _ (call (Value.ref 332) _) _ _ _); k_dflt (refine' use_words ?kA ?kX ?kT ?kF ?kN ?_; (case kA => walk_at "m ok"); (case kX => k_asm); (case kT => k_asm); (case kF => k_asm); (case kN => k_asm); k_whole); intro r' h' tk' n' vs' W' F' N' l1; (try (replace l1 := allNe_of l1; simp only [AllNe, and_true] at l1)); (try k_sweep)))
local macro_rules | `(tactic| walk_at "call ref") => `(tactic| (k_here; (with_reducible show wpAny _ _ (call (Value.ref 339) _) _ _ _); k_dflt (refine' use_draw ?kA ?kX ?kT ?kF ?kN ?kU ?kS ?kI ?kL ?k0 ?k1 ?k2 ?k3 ?_; (case kA => walk_at "m ok"); (case kX => k_asm); (case kT => k_asm); (case kF => k_asm); (case kN => k_asm); (case kU => k_updF); (case kS => assumption); (case kI => assumption); (case kL => first | assumption | omega); (case k0 => first | decide | assumption); (case k1 => first | decide | assumption); (case k2 => decide); (case k3 => decide); k_whole); intro k' t' pl' acc' tp' ta' h' tk' k0' k1' a0' a1' F' N'; (try dsimp only at N'); (try k_sweep)))
local macro_rules | `(tactic| walk_at "subscriptTail") => `(tactic| (k_here; (with_reducible show wpAny _ _ (subscriptTail _ _ (Value.ref _) (Value.int _ _)) _ _ _); k_dflt (refine' item_words ?kN ?kM ?kW ?k0 ?k1 ?_ ?kS; (case kW => assumption); (case kN => k_asm); (case kM => k_mem); (case k0 => assumption); (case k1 => assumption); (case kS => with_unfolding_all rfl)); intro x' t' hx'))

local macro_rules | `(tactic| walk_at "call ref") => `(tactic| (k_here; (with_reducible show wpAny _ _ (call (Value.ref 367) _) _ _ _); k_dflt (refine' use_live ?kA ?kX ?kT ?kF ?kN ?kD ?kv ?_; (case kA => walk_at "m ok"); (case kX => k_asm); (case kT => k_asm); (case kF => k_asm); (case kN => k_asm); (case kD => walk_at "m dict"); (case kv => first | assumption | rfl); k_whole); intro h' tk' F' N'; (try k_sweep)))

local macro_rules | `(tactic| walk_at "call builtin:str.join") => `(tactic| (k_here; k_dflt (refine' join_m ?N ?M ?I ?S ?n ?_; (case N => k_asm); (case M => k_mem); (case I => assumption); (case S => assumption); (case n => assumption); k_whole); intro t' k'))

section
variable {w : World} {A : Around} {E : Value → Shared → Prop} {s : Shared} {p : Program} {loose : List Str} {mean : ExcName → Option Value} {mg mb : Str → Option Value}
  {h₀ : Heap} {L : Addr} {m : Str → Option Value} {news : List (Addr × Obj)} {g : Obj → List (Addr × Obj)}
local macro_rules | `(tactic| walk_at "compareOp NotIn str ref") => `(tactic| (k_here; k_dflt (first | refine notin_at (b := true) (by walk_at "m dict") (by with_unfolding_all rfl) ?_ | refine notin_at (b := false) (by walk_at "m dict") (by with_unfolding_all rfl) ?_)))
local macro_rules | `(tactic| walk_at "call builtin:dict.copy") => `(tactic| (k_here; k_dflt (refine' copy_m ?F ?N ?B (by walk_at "m dict") ?z ?_; (case F => k_asm); (case N => k_asm); (case B => exact Top.nolimit (by k_asm)); (case z => exact Nat.le_of_ble_eq_true (by with_unfolding_all rfl)); k_whole); intro r' h' o' F' N' l1 lo' hd'; (try k_lt l1)))
local macro_rules | `(tactic| walk_at "call builtin:dict.pop") => `(tactic| (k_here; k_dflt (first
  | (refine' kob_pop (knd := PySem.strKind _ _) (more := [_]) ?F ?N ?U ?d (strKind_is _ _ _ _) (.inr ⟨_, rfl⟩) (by rfl) (PySem.F.args_dict_pop_3 _ _ _) ?l ?z ?_; (case F => k_asm); (case N => k_asm); (case U => k_updF); (case d => k_asm); (case l => rfl); (case z => exact Nat.le_of_ble_eq_true (by with_unfolding_all rfl)); intro h' o' F' N' hd'; (try dsimp only at N'))
  | (refine' pop_absent (by walk_at "m dict") ?v ?_; (case v => rfl)))))
set_option maxHeartbeats 4000000 in
theorem spec_clean2 {Q : Value → Shared → Prop} {a : Addr} {kvs : List (Str × Value)} {tkn : Tk} (hA : Ok A 0) (X : (hd.heap_39 w.params).In s.heap) (T : Top p loose mean mg mb s.heap) (D : DictAt w s.heap a kvs) (I : TkIs kvs tkn)
    (ret0 : strip kvs = kvs → ∀ h' tk, s.heap.StaysIn h' → Q (.ref a) { s with heap := h', toks := tk })
    (ret1 : ∀ b o h' tk, s.heap.StaysIn h' → h'.get? b = some o → s.heap.get? b = none → (b == sysModules) = false → o.IsDictOf (PySem.strKind PR w) (strip kvs) → Q (.ref b) { s with heap := h', toks := tk }) :
    wpAny (model PR w) A (call (.ref 199) [.ref a]) Q E s := by
  refine' enterN (news := []) (binds := [(Str.ofString "token", .ref a)]) ?kX ?kT ?kS ?kZ ?kN ?kO ?kC ?kR ?kB ?kL ?_ ?c1 ?c2 ?c3 ?c4
  case kX => assumption
  case kT => first | exact Top.nolimit (by assumption) | assumption
  case kO => k_is
  case kC => k_is
  case kR => exact Ok.room (by assumption)
  case kB => exact BindsTo.of_eq rfl
  case kL => exact locs rfl
  case c1 => exact rfl
  case c2 => exact rfl
  case c3 => exact rfl
  case c4 => decide
  case kS => exact fun _ _ e => e
  case kZ => exact Nat.le_refl _
  case kN => exact fun _ hp => nomatch hp
  intro L h tk F N hk hn
  try dsimp only
  try k_fold
  clear hk hn
  cases I
  case obj t ty rest h hr =>
    cases hr <;> k_steps
    all_goals (rename Fr _ _ _ _ => F9; first
      | exact ret0 (by rfl) _ _ F9.keep
      | (rename News _ _ _ _ => N9; exact ret1 _ _ _ _ F9.keep (News.get N9 (.head _)) (News.fresh N9 (.head _)) (by assumption) (by assumption)))
  all_goals (
    k_steps
    rename Fr _ _ _ _ => F9; first
      | exact ret0 (by rfl) _ _ F9.keep
      | (rename News _ _ _ _ => N9; exact ret1 _ _ _ _ F9.keep (News.get N9 (.head _)) (News.fresh N9 (.head _)) (by assumption) (by assumption)))
theorem use_clean {Q : Value → Shared → Prop} {a : Addr} {kvs : List (Str × Value)} {tkn : Tk} (hA : Ok A 0) (X : (hd.heap_39 w.params).In h₀) (T : Top p loose mean mg mb h₀) (F : Fr h₀ L s.heap m) (N : News h₀ L s.heap news) (D : DictAt w s.heap a kvs) (I : TkIs kvs tkn)
    (ret0 : strip kvs = kvs → ∀ h' tk, Fr h₀ L h' m → News h₀ L h' news → Q (.ref a) { s with heap := h', toks := tk })
    (ret1 : ∀ b o h' tk, Fr h₀ L h' m → News h₀ L h' ((b, o) :: news) → NeAll b news → (b == sysModules) = false → o.IsDictOf (PySem.strKind PR w) (strip kvs) → Q (.ref b) { s with heap := h', toks := tk }) :
    wpAny (model PR w) A (call (.ref 199) [.ref a]) Q E s :=
  spec_clean2 hA (X.keeps F.keep) (T.keeps F.keep) D I (fun e h' tk k => ret0 e h' tk (fr_stays F k) (news_stays N k)) fun b o h' tk k e hn lo hd => ret1 b o h' tk (fr_stays F k) (news_born F N k e hn) (news_ne N hn) lo hd
end

end
def ItemC (w : World) (h₀ : Heap) (rds : List (Addr × Obj)) (v : Value) : J1 → Prop
  | .t _ raw _ => ∃ b o t1 t2, v = .ref b ∧ (b, o) ∈ rds ∧ (b == sysModules) = false ∧ o.IsDictOf (PySem.strKind PR w) (twoKvs t1 t2 raw)
  | .o u => ∃ a kvs, u = .ref a ∧ DictAt w h₀ a kvs ∧ ((v = .ref a ∧ strip kvs = kvs) ∨ ∃ b o, v = .ref b ∧ (b, o) ∈ rds ∧ (b == sysModules) = false ∧ o.IsDictOf (PySem.strKind PR w) (strip kvs))
theorem ItemC.mono {w : World} {h₀ : Heap} {ds ds' : List (Addr × Obj)} {v : Value} (hs : ∀ p ∈ ds, p ∈ ds') : ∀ {j : J1}, ItemC w h₀ ds v j → ItemC w h₀ ds' v j
  | .t .., ⟨b, o, t1, t2, e, hm, r⟩ => ⟨b, o, t1, t2, e, hs _ hm, r⟩
  | .o _, ⟨a, kvs, e, D, .inl q⟩ => ⟨a, kvs, e, D, .inl q⟩
  | .o _, ⟨a, kvs, e, D, .inr ⟨b, o, e2, hm, r⟩⟩ => ⟨a, kvs, e, D, .inr ⟨b, o, e2, hs _ hm, r⟩⟩
def ItemsC (w : World) (h₀ : Heap) (rds : List (Addr × Obj)) (rvs : List Value) (js : List J1) : Prop := rvs.length = js.length ∧ ∀ (i : Nat) (v : Value), rvs[i]? = some v → ∃ j : J1, js[i]? = some j ∧ ItemC w h₀ rds v j
theorem ItemsC.nil {w : World} {h₀ : Heap} : ItemsC w h₀ [] [] [] := ⟨rfl, fun i v e => by simp at e⟩
theorem ItemsC.snoc {w : World} {h₀ : Heap} {rds rds' : List (Addr × Obj)} {rvs : List Value} {js : List J1} {v : Value} {j : J1} (R : ItemsC w h₀ rds rvs js) (hs : ∀ p ∈ rds, p ∈ rds') (h : ItemC w h₀ rds' v j) : ItemsC w h₀ rds' (rvs ++ [v]) (js ++ [j]) := by
  refine ⟨by simp [R.1], fun i u e => ?_⟩
  rcases get_snoc e with ⟨hi, e⟩ | ⟨hi, rfl⟩
  · obtain ⟨k, hk, q⟩ := R.2 i u e
    exact ⟨k, by rw [List.getElem?_append_left (by rw [← R.1]; exact hi)]; exact hk, q.mono hs⟩
  · exact ⟨j, by rw [hi, R.1]; simp, h⟩
/-- a bare thing at a heap: a text without marks, or another thing less its marks -/
def BareAt (w : World) (h₀ h : Heap) (v : Value) : J1 → Prop
  | .t _ raw _ => ∃ b t1 t2, v = .ref b ∧ DictAt w h b (twoKvs t1 t2 raw)
  | .o u => ∃ a b kvs, u = .ref a ∧ v = .ref b ∧ DictAt w h₀ a kvs ∧ DictAt w h b (strip kvs)
def Bares (w : World) (h₀ h : Heap) (rvs : List Value) (js : List J1) : Prop := rvs.length = js.length ∧ ∀ (i : Nat) (v : Value), rvs[i]? = some v → ∃ j : J1, js[i]? = some j ∧ BareAt w h₀ h v j
theorem ItemsC.bares {w : World} {h₀ h : Heap} {L : Addr} {rds news : List (Addr × Obj)} {rvs : List Value} {js : List J1} {m : Str → Option Value} (R : ItemsC w h₀ rds rvs js) (F : Fr h₀ L h m) (N : News h₀ L h news) (hs : ∀ p ∈ rds, p ∈ news) : Bares w h₀ h rvs js := by
  refine ⟨R.1, fun i v e => ?_⟩
  obtain ⟨j, hj, q⟩ := R.2 i v e
  refine ⟨j, hj, ?_⟩
  cases j with
  | t live raw en =>
    obtain ⟨b, o, t1, t2, e, hm, lo, hd⟩ := q
    exact ⟨b, t1, t2, e, DictAt.news N (hs _ hm) lo hd⟩
  | o u =>
    obtain ⟨a, kvs, e1, D, q⟩ := q
    rcases q with ⟨rfl, q⟩ | ⟨b, o, rfl, hm, lo, hd⟩
    · exact ⟨a, a, kvs, e1, rfl, D, by rw [q]; exact DictAt.fr F D⟩
    · exact ⟨a, b, kvs, e1, rfl, D, DictAt.news N (hs _ hm) lo hd⟩
theorem news_swap {h₀ h : Heap} {L : Addr} {x y : Addr × Obj} {l : List (Addr × Obj)} (N : News h₀ L h (x :: y :: l)) : News h₀ L h (y :: x :: l) := news_sub N (by
  intro p hp; simp only [List.mem_cons] at hp ⊢; rcases hp with h | h | h <;> simp [h])
section
variable {h₀ h : Heap} {L : Addr} {a b x y z : Addr × Obj} {rds own rst : List (Addr × Obj)}
theorem me0 (N : News h₀ L h (a :: b :: rst)) (hs : rds ++ own = rst) : News h₀ L h (own ++ (a :: b :: rds)) := by
  subst hs
  refine news_sub N fun p hp => ?_
  simp only [List.mem_append, List.mem_cons] at hp ⊢
  rcases hp with h | h | h | h <;> simp [h]
theorem me1 (N : News h₀ L h (x :: a :: b :: rst)) (hs : rds ++ own = rst) : News h₀ L h (own ++ (a :: b :: x :: rds)) := by
  subst hs
  refine news_sub N fun p hp => ?_
  simp only [List.mem_append, List.mem_cons] at hp ⊢
  rcases hp with h | h | h | h | h <;> simp [h]
theorem me2 (N : News h₀ L h (b :: x :: a :: y :: rst)) (hs : rds ++ own = rst) : News h₀ L h (own ++ (a :: b :: x :: rds)) := by
  subst hs
  refine news_sub N fun p hp => ?_
  simp only [List.mem_append, List.mem_cons] at hp ⊢
  rcases hp with h | h | h | h | h <;> simp [h]
theorem me3 (N : News h₀ L h (z :: b :: x :: a :: y :: rst)) (hs : rds ++ own = rst) : News h₀ L h (own ++ (a :: b :: z :: x :: rds)) := by
  subst hs
  refine news_sub N fun p hp => ?_
  simp only [List.mem_append, List.mem_cons] at hp ⊢
  rcases hp with h | h | h | h | h | h <;> simp [h]
end
theorem Pend.mono {i k : Nat} (hk : i ≤ k) {pe : List Value} {en : Bool} {js all : List J1} (h : Pend i pe en js all) : Pend k pe en js all := by
  cases h with
  | none0 => exact .none0
  | none => exact .none
  | some a b c d => exact .some a b (Nat.le_trans c hk) d
section
variable {w : World} {A : Around} {E : Value → Shared → Prop} {s : Shared}
theorem truthy_word {x : Str} {t : PySem.Tok} {Q : Bool → Shared → Prop} (h1 : 1 ≤ x.length) (h2 : x.length ≤ 16) (h : Q true { s with toks := s.toks + 1 + 1 }) : wpAny (model PR w) A (truthy (.str x t)) Q E s := by
  refine P.truthy_str (by omega) ?_
  have : ((x.length : Int) != 0) = true := by
    rw [bne_iff_ne]
    omega
  rw [this]
  exact h
end

theorem anew19 : True ∧ True := by
  w_top off
  first | (walk1 <;> trivial) | exact ⟨trivial, trivial⟩
section
local macro_rules | `(tactic| walk_at "m ok") => `(tactic| (first
  | assumption
  | exact Ok.mono (by assumption) (by decide)
  | exact Ok.mono (Ok.deeper (by assumption) _) (by decide)
  | exact Ok.mono (Ok.in1 (Ok.deeper (by assumption) _)) (by decide)
  | exact Ok.mono (Ok.in1 (by assumption)) (by decide)))
local macro_rules | `(tactic| walk_at "m room") => `(tactic| exact Ok.room (by assumption))
local macro_rules | `(tactic| walk_at "m dict") => `(tactic| (first
  | exact DictAt.fr (by k_asm) (by k_asm)
  | exact DictAt.news (by k_asm) (by k_mem) (by k_asm) (by k_asm)))
local macro_rules | `(tactic| walk_at "getMethod ref") => `(tactic| (k_here; k_dflt (first
  | ((with_reducible show wpAny _ _ (getMethod (Value.ref _) (Str.ofString "get") _) _ _ _); refine meth_at PySem.F.slot_dict_get PySem.F.type_dict_get (by walk_at "m dict") ?_)
  | ((with_reducible show wpAny _ _ (getMethod (Value.ref _) (Str.ofString "copy") _) _ _ _); refine meth_at PySem.F.slot_dict_copy PySem.F.type_dict_copy (by walk_at "m dict") ?_)
  | ((with_reducible show wpAny _ _ (getMethod (Value.ref _) (Str.ofString "pop") _) _ _ _); refine meth_at PySem.F.slot_dict_pop PySem.F.type_dict_pop (by walk_at "m dict") ?_))))
local macro_rules | `(tactic| walk_at "call builtin:dict.get") => `(tactic| (k_here; k_dflt (refine' get2_at (by walk_at "m dict") ?v ?_; (case v => first | assumption | with_unfolding_all exact Eq.refl (Value.bool _) | rfl); k_whole)))
local macro_rules | `(tactic| walk_at "subscriptTail") => `(tactic| (k_here; (with_reducible show wpAny _ _ (subscriptTail _ _ (Value.ref _) (Value.str _ _)) _ _ _); k_dflt (refine' item_at (by walk_at "m dict") ?v ?_ ?hs; (case v => first | assumption | rfl); (case hs => with_unfolding_all rfl); k_whole)))
local macro_rules | `(tactic| walk_at "exec For") => `(tactic| (k_here; k_dflt (refine For_m (by k_asm) (by rfl) (by rfl) ?_ (by intro _; rfl) PassesOwn.never)))
local macro_rules | `(tactic| k_all) => `(tactic| assumption)
local macro_rules | `(tactic| walk_at "m sub") => `(tactic| (intro p9 hp9; simp only [List.mem_append, List.mem_cons, List.not_mem_nil, or_false, false_or] at hp9 ⊢; grind))
local macro_rules | `(tactic| walk_at "callWith") => `(tactic| ((with_reducible show wpAny _ _ (callWith _ (Value.builtin _) [_] (backTo _ (starEach (_ :: _) _)) []) _ _ _); refine callWith_method1 ?_))

local macro_rules | `(tactic| walk_at "Exists") => `(tactic| (k_here; (refine made_m (by k_asm) (by first | k_asm | exact News.nil) (Top.nolimit (by k_asm)) (by rfl) (of_decide_eq_true (by rfl)) ?_; intro h' o' F' N' l1 lo' hd'; (try k_lt l1); (try dsimp only at N'); (try dsimp only))))
local macro_rules | `(tactic| walk_at "call ref") => `(tactic| (k_here; (with_reducible show wpAny _ _ (call (Value.ref 332) _) _ _ _); k_dflt (refine' use_words ?kA ?kX ?kT ?kF ?kN ?_; (case kA => walk_at "m ok"); (case kX => k_asm); (case kT => k_asm); (case kF => k_asm); (case kN => k_asm); k_whole); intro r' h' tk' n' vs' W' F' N' l1; (try (replace l1 := allNe_of l1; simp only [AllNe, and_true] at l1)); (try k_sweep)))
local macro_rules | `(tactic| walk_at "call ref") => `(tactic| (k_here; (with_reducible show wpAny _ _ (call (Value.ref 339) _) _ _ _); k_dflt (refine' use_draw ?kA ?kX ?kT ?kF ?kN ?kU ?kS ?kI ?kL ?k0 ?k1 ?k2 ?k3 ?_; (case kA => walk_at "m ok"); (case kX => k_asm); (case kT => k_asm); (case kF => k_asm); (case kN => k_asm); (case kU => k_updF); (case kS => assumption); (case kI => assumption); (case kL => first | assumption | omega); (case k0 => first | decide | assumption); (case k1 => first | decide | assumption); (case k2 => decide); (case k3 => decide); k_whole); intro k' t' pl' acc' tp' ta' h' tk' k0' k1' a0' a1' F' N'; (try dsimp only at N'); (try k_sweep)))
local macro_rules | `(tactic| walk_at "subscriptTail") => `(tactic| (k_here; (with_reducible show wpAny _ _ (subscriptTail _ _ (Value.ref _) (Value.int _ _)) _ _ _); k_dflt (refine' item_words ?kN ?kM ?kW ?k0 ?k1 ?_ ?kS; (case kW => assumption); (case kN => k_asm); (case kM => k_mem); (case k0 => assumption); (case k1 => assumption); (case kS => with_unfolding_all rfl)); intro x' t' hx'))

local macro_rules | `(tactic| walk_at "call ref") => `(tactic| (k_here; (with_reducible show wpAny _ _ (call (Value.ref 367) _) _ _ _); k_dflt (refine' use_live ?kA ?kX ?kT ?kF ?kN ?kD ?kv ?_; (case kA => walk_at "m ok"); (case kX => k_asm); (case kT => k_asm); (case kF => k_asm); (case kN => k_asm); (case kD => walk_at "m dict"); (case kv => first | assumption | rfl); k_whole); intro h' tk' F' N'; (try k_sweep)))

local macro_rules | `(tactic| walk_at "call builtin:str.join") => `(tactic| (k_here; k_dflt (refine' join_m ?N ?M ?I ?S ?n ?_; (case N => k_asm); (case M => k_mem); (case I => assumption); (case S => assumption); (case n => assumption); k_whole); intro t' k'))

local macro_rules | `(tactic| walk_at "call ref") => `(tactic| (k_here; (with_reducible show wpAny _ _ (call (Value.ref 360) _) _ _ _); k_dflt (refine use_apart (by walk_at "m ok") (by k_asm) (by k_asm) (by k_asm) (by k_asm) (by assumption) (by assumption) ?_); intro h' tk' F' N'; (try k_sweep)))
local macro_rules | `(tactic| walk_at "truthy ref") => `(tactic| (k_here; k_dflt (refine' truthy_snoc ?N ?m ?l ?_; (case N => k_asm); (case m => k_mem); (case l => assumption); k_whole)))
local macro_rules | `(tactic| walk_at "subscriptTail Name UnaryOp ref int") => `(tactic| (k_here; k_dflt (refine' last_snoc ?N ?m ?_ ?s; (case N => k_asm); (case m => k_mem); (case s => with_unfolding_all rfl); k_whole)))
local macro_rules | `(tactic| walk_at "setItem ref str") => `(tactic| (k_here; k_dflt (refine' kda_set (knd := PySem.strKind _ _) ?F ?N ?U ?d (strKind_is _ _ _ _) ?z ?_; (case F => k_asm); (case N => k_asm); (case U => k_updF); (case d => k_asm); (case z => first | assumption | exact Nat.le_of_ble_eq_true (by with_unfolding_all rfl))); intro h' o' F' N' hd'; (try dsimp only at N')))
local macro_rules | `(tactic| walk_at "m dict") => `(tactic| (first
  | exact DictAt.fr (by k_asm) (by k_asm)
  | exact DictAt.news (by k_asm) (by k_mem) (by k_asm) (by k_asm)
  | exact DictAt.news (by k_asm) (.tail _ (by assumption)) (by assumption) (by assumption)
  | exact DictAt.news (by k_asm) (.tail _ (.tail _ (by assumption))) (by assumption) (by assumption)
  | exact DictAt.news (by k_asm) (by assumption) (by assumption) (by assumption)))

local macro_rules | `(tactic| walk_at "call ref") => `(tactic| (k_here; (with_reducible show wpAny _ _ (call (Value.ref 381) _) _ _ _); k_dflt (refine' use_bare ?kA ?kX ?kT ?kF ?kN ?kD ?kz ?_; (case kA => walk_at "m ok"); (case kX => k_asm); (case kT => k_asm); (case kF => k_asm); (case kN => k_asm); (case kD => walk_at "m dict"); (case kz => assumption); k_whole); intro b' o' h' tk' F' N' l1' lo' hd'; (have l2' : @Ne Nat _ _ := l1' _ (.head _)); (try dsimp only at l2'); (try k_sweep)))

local macro_rules | `(tactic| walk_at "call builtin:list.clear") => `(tactic| (k_here; (with_reducible show wpAny _ _ (call (Value.builtin _) [Value.ref _]) _ _ _); k_dflt (refine' kl_clear ?F ?N ?U ?ne ?z ?_; (case F => k_asm); (case N => k_asm); (case U => k_upd); (case ne => exact nonempty_len); (case z => assumption)); intro h' F' N'; (try dsimp only at N')))

local macro_rules | `(tactic| walk_at "call ref") => `(tactic| (k_here; (with_reducible show wpAny _ _ (call (Value.ref 55) _) _ _ _); k_dflt (refine use_boundary (by walk_at "m ok") (by k_asm) (by k_asm) (by k_asm) (by k_asm) (by assumption) (by assumption) ?_); intro h' tk' F' N'; (try k_sweep)))
local macro_rules | `(tactic| walk_at "callWith ref") => `(tactic| (k_here; (with_reducible show wpAny _ _ (callWith _ (Value.ref _) [] (backTo _ (starEach [] _)) []) _ _ _); k_dflt (refine' callWith_F0 (FnAt.of2 (by assumption) (by k_asm) (by k_mem)) ?_; k_whole; try dsimp only [List.nil_append, List.cons_append])))
local macro_rules | `(tactic| walk_at "call ref") => `(tactic| (k_here; (with_reducible show wpAny _ _ (call (Value.ref _) []) _ _ _); k_dflt (first
  | (refine' Flush0.use (by assumption) (by walk_at "m ok") (by k_asm) (by k_asm) ?_; intro h' tk' F' N'; (try dsimp only [lay] at N'); (try k_sweep))
  | (refine' Flush1.use (by assumption) ?kA ?kF ?kN ?kd ?kI ?ks ?kl ?kr ?k1 ?k2 ?_; (case kA => walk_at "m ok"); (case kF => k_asm); (case kN => k_asm); (case kd => assumption); (case kI => assumption); (case ks => assumption); (case kl => assumption); (case kr => assumption); (case k1 => assumption); (case k2 => assumption); intro d' od' kvs' n' k' h' tk' F' N' z1' z2' z3' z4' lo' hd' hk'; (replace z1' := NeH.intro z1'); (replace z2' := NeH.intro z2'); (replace z3' := NeH.intro z3'); (try dsimp only [lay] at N'); (try k_sweep)))))
local macro_rules | `(tactic| walk_at "ite") => `(tactic| (k_here; first | (with_reducible refine ite_pos rfl ?_) | (with_reducible refine ite_neg Bool.false_ne_true ?_)))
local macro_rules | `(tactic| k_ne) => `(tactic| (refine neN ?_; (try dsimp only); first | exact NeH.ne (by with_reducible assumption) | exact NeH.ne' (by with_reducible assumption)))

section
variable {w : World} {A : Around} {E : Value → Shared → Prop} {s : Shared} {p : Program} {loose : List Str} {mean : ExcName → Option Value} {mg mb : Str → Option Value} {h₀ : Heap}
local macro_rules | `(tactic| walk_at "pyIter ref") => `(tactic| (k_here; with_reducible refine Halt.intro ?_))
local macro_rules | `(tactic| walk_at "setItem ref str") => `(tactic| (k_here; with_reducible refine Halt.intro ?_))
local macro_rules | `(tactic| k_all) => `(tactic| first | exact List.forall_mem_nil _ | (with_reducible assumption) | (refine' List.forall_mem_cons.mpr ⟨?a, ?b⟩; (case a => k_ne); (case b => k_all)))
local macro_rules | `(tactic| walk_at "exec FunctionDef") => `(tactic| (k_here; with_reducible refine Halt.intro ?_))
set_option maxHeartbeats 8000000 in
theorem spec_coalesce {Q : Value → Shared → Prop} {l : Addr} {ts : List (Value × Tk)} {tabs : List (Addr × Obj)} (hA : Ok A 2) (X : (hd.heap_39 w.params).In h₀) (T : Top p loose mean mg mb h₀) (C : CodeHd h₀ 177 173)
    (hsub : h₀.StaysIn s.heap) (hsz : h₀.objs.size ≤ s.heap.objs.size) (hb : ∀ p ∈ tabs, s.heap.get? p.1 = some p.2 ∧ h₀.get? p.1 = none) (hT : TabL 173 flushLine flushCol flushQual tabs)
    (hl : h₀.IsList l (vals ts).toArray) (H : Toks w h₀ ts) (W : WordTks (tks ts))
    (ret : ∀ r rvs n rds tabs' h' tk, h₀.StaysIn h' → TabL 173 flushLine flushCol flushQual tabs' → (∀ p ∈ tabs, p.1 ≠ 173 → p ∈ tabs') → Born h₀ h' ((r, listOf rvs.toArray n) :: (tabs' ++ rds)) → RowsIn w rds rvs (joined ts) → Q (.ref r) { s with heap := h', toks := tk }) :
    wpAny (model PR w) A (call (.ref 178) [.ref l]) Q E s := by
  refine' enterC (news := tabs) (binds := [(Str.ofString "tokens", .ref l)]) ?kX ?kT ?kS ?kZ ?kN ?kO ?kC ?kR ?kB ?kK ?kD ?_ ?c1 ?c2 ?c3
  case kX => exact X
  case kT => exact Top.nolimit T
  case kS => exact hsub
  case kZ => exact hsz
  case kN => exact hb
  case kO => k_is
  case kC => k_is
  case kR => exact Ok.room (by assumption)
  case kB => exact BindsTo.of_eq rfl
  case kK => exact rfl
  case kD => decide +kernel
  case c1 => exact rfl
  case c2 => exact rfl
  case c3 => exact rfl
  intro L h tk cells F N Y hlt
  k_cells Y
  simp only [List.cons_append, List.nil_append] at N
  have hc1 : ∀ p ∈ tabs, p.1 ≠ L + 1 := fun p hp => Nat.ne_of_lt (Nat.lt_of_lt_of_le (hlt p hp) (by omega))
  have hc2 : ∀ p ∈ tabs, p.1 ≠ L + 1 + 1 := fun p hp => Nat.ne_of_lt (Nat.lt_of_lt_of_le (hlt p hp) (by omega))
  have hc3 : ∀ p ∈ tabs, p.1 ≠ L + 1 + 1 + 1 := fun p hp => Nat.ne_of_lt (Nat.lt_of_lt_of_le (hlt p hp) (by omega))
  have h173 : @LT.lt Nat _ 173 L := by cases hT <;> exact hlt _ (.head _)
  try dsimp only
  try k_fold
  k_steps
  (show wpAny _ _ _ _ _ _)
  rename News _ _ _ _ => N1
  rename Fr _ _ _ _ => F1
  have N2 := tabs_last N1
  clear N1
  refine nestDef_K rfl rfl rfl ?_
  refine nestE F1 N2 T C rfl hT ?_ rfl ?_
  · intro q hq
    simp only [List.mem_cons, List.not_mem_nil, or_false] at hq
    rcases hq with rfl | rfl | rfl | rfl | rfl <;> (show @Ne Nat _ 173; dsimp only; omega)
  intro f c' oc vs t ctv doc h2 tk2 F2 N3 hd2 hv2 hf2 htb
  refine pickFn N3 fun fn hfn N4 => ?_
  clear N3 N2 F1
  have hfo : FnObj fn := by rw [hfn]; exact ⟨_, _, _, _, rfl⟩
  obtain ⟨lr, lc, oe0, ocr, occ, N5, hlr, hlc, he, hcr, hcc, hflt⟩ : ∃ lr lc oe0 ocr occ, News h₀ L h2 ((f, fn) :: (173, tabObj #[rawInt flushLine, rawInt flushCol, .ref c']) :: (c', oc) :: (lr, listOf #[] 0) :: (lc, listOf #[] 0) :: (L + 1 + 1, oe0) :: (L + 1 + 1 + 1, ocr) :: (L + 1, occ) :: []) ∧
      @LT.lt Nat _ (L + 1 + 1 + 1) lr ∧ @LT.lt Nat _ lr lc ∧ oe0.data = .cell (some (.bool true)) ∧ ocr.data = .cell (some (.ref lr)) ∧ occ.data = .cell (some (.ref lc)) ∧ @LT.lt Nat _ lc f :=
    ⟨_, _, _, _, _, N4, by omega, by omega, by assumption, by assumption, by assumption, hf2 _ (.tail _ (.head _))⟩
  clear N4 hf2
  have H0 : Flush0 w h₀ L lr lc (L + 1 + 1) (L + 1 + 1 + 1) (L + 1) f c' ocr occ fn oc := by
    clear F2 N5 hA hl H W ret hb hT hsub hsz
    intro A E Q s m rst rvs n k oe hA F N ret
    refine enterX T.nolimit F N hfn (.tail _ (.tail _ (.tail _ (.tail _ (.tail _ (.head _)))))) (codeRec_news N (.tail _ (.tail _ (.tail _ (.tail _ (.tail _ (.tail _ (.head _))))))) hd2 hv2) (Ok.room hA) (BindsTo.of_eq rfl) (locs rfl) ?_ rfl rfl rfl (by decide)
    intro g L' h1 tk1 st F' N' back
    replace X := X.keeps st
    replace T := T.keeps st
    replace C := C.keeps st
    clear F N hfn
    dsimp only [lay] at N'
    try k_fold
    k_steps
    rename News _ _ _ _ => N9
    rename Fr _ _ _ _ => F9
    obtain ⟨F8, N8⟩ := back _ _ _ F9 N9
    exact ret _ _ F8 N8
  have e6 : NeH c' lr := ne_obj N5 (.tail _ (.tail _ (.head _))) (.tail _ (.tail _ (.tail _ (.head _)))) (by rw [hd2]; exact nofun)
  have e11 : NeH c' lc := ne_obj N5 (.tail _ (.tail _ (.head _))) (.tail _ (.tail _ (.tail _ (.tail _ (.head _))))) (by rw [hd2]; exact nofun)
  have H1 : Flush1 w h₀ L lr lc (L + 1 + 1) (L + 1 + 1 + 1) (L + 1) f c' ocr occ fn oc := by
    clear F2 N5 hA hl H W ret hb hT hsub hsz he
    intro A E Q s m rst rvs n k oe vs x ss en hA F N he hI hss hsl hrl hr1 hr2 ret
    refine enterX T.nolimit F N hfn (.tail _ (.tail _ (.tail _ (.tail _ (.tail _ (.head _)))))) (codeRec_news N (.tail _ (.tail _ (.tail _ (.tail _ (.tail _ (.tail _ (.head _))))))) hd2 hv2) (Ok.room hA) (BindsTo.of_eq rfl) (locs rfl) ?_ rfl rfl rfl (by decide)
    intro g L' h1 tk1 st F' N' back
    replace X := X.keeps st
    replace T := T.keeps st
    replace C := C.keeps st
    clear F N hfn
    dsimp only [lay] at N'
    have hI' : StrsAre (vs ++ [x]).toArray.toList ss := hI
    have hvl : vs.length ≤ 1000 := by have := hI.length; rw [List.length_append] at this; omega
    have hz : (vs ++ [x]).toArray.toList.length ≤ sizeLine := by
      have := hI'.length
      rw [this, sizeLine_eq]; omega
    clear hI
    try k_fold
    cases en
    all_goals k_steps
    · (show wpAny _ _ _ _ _ _)
      rename News _ _ _ _ => N9
      rename Fr _ _ _ _ => F9
      rename Obj.IsDictOf (PySem.strKind _ _) _ (strPairs _) => hd9
      rename (_ == sysModules) = false => lo9
      rename lr < _ ∧ _ => hlt9
      have hall := fun p hp => Nat.ne_of_lt (of_allLt (l := lay lr lc (L + 1 + 1) (L + 1 + 1 + 1) (L + 1) f c' (listOf rvs.toArray n) (listOf (vs ++ [x]).toArray k) oe ocr occ fn oc rst) hlt9 p hp)
      refine kda_set (knd := PySem.strKind _ _) F9 N9 (.head hall) hd9 (strKind_is _ _ _ _) (Nat.le_of_ble_eq_true (by with_unfolding_all rfl)) ?_
      intro h' o' F' N' hd'
      try dsimp only at N'
      clear N9 F9 hd9
      k_steps
      rename News _ _ _ _ => N9
      rename Fr _ _ _ _ => F9
      obtain ⟨F8, N8⟩ := back _ _ _ F9 N9
      rw [toArray_push] at N8
      exact ret _ _ _ _ _ _ _ F8 N8 (Ne.symm (Nat.ne_of_lt hlt9.1)) (Ne.symm (Nat.ne_of_lt hlt9.2.1)) (Ne.symm (Nat.ne_of_lt hlt9.2.2.1)) (fun p hp => hall p (.tail _ (.tail _ (.tail _ (.tail _ (.tail _ (.tail _ (.tail _ hp)))))))) lo9 hd' (TkIs.text1 _ _ _ _)
    · rename News _ _ _ _ => N9
      rename Fr _ _ _ _ => F9
      rename Obj.IsDictOf (PySem.strKind _ _) _ (strPairs _) => hd9
      rename (_ == sysModules) = false => lo9
      rename lr < _ ∧ _ => hlt9
      have hall := fun p hp => Nat.ne_of_lt (of_allLt (l := lay lr lc (L + 1 + 1) (L + 1 + 1 + 1) (L + 1) f c' (listOf rvs.toArray n) (listOf (vs ++ [x]).toArray k) oe ocr occ fn oc rst) hlt9 p hp)
      obtain ⟨F8, N8⟩ := back _ _ _ F9 N9
      rw [toArray_push] at N8
      exact ret _ _ _ _ _ _ _ F8 N8 (Ne.symm (Nat.ne_of_lt hlt9.1)) (Ne.symm (Nat.ne_of_lt hlt9.2.1)) (Ne.symm (Nat.ne_of_lt hlt9.2.2.1)) (fun p hp => hall p (.tail _ (.tail _ (.tail _ (.tail _ (.tail _ (.tail _ (.tail _ hp)))))))) lo9 hd9 (TkIs.text0 _ _ _)
  have e12 : NeH c' (L + 1 + 1) := ne_obj N5 (.tail _ (.tail _ (.head _))) (.tail _ (.tail _ (.tail _ (.tail _ (.tail _ (.head _)))))) (by rw [hd2, he]; exact nofun)
  clear hfn C
  k_steps
  (show wpAny _ _ _ _ _ _)
  rename News _ _ _ _ => N6
  rename Fr _ _ _ _ => F6
  generalize htab : tabObj #[rawInt flushLine, rawInt flushCol, .ref c'] = tb at N6
  have N7 : News h₀ L _ (lay lr lc (L + 1 + 1) (L + 1 + 1 + 1) (L + 1) f c' (listOf ([] : List Value).toArray 0) (listOf ([] : List Value).toArray 0) oe0 ocr occ fn oc ((173, tb) :: [])) := news_sub N6 (by
    intro p hp; simp only [lay, List.mem_cons, List.not_mem_nil, or_false] at hp ⊢; rcases hp with h | h | h | h | h | h | h | h <;> simp [h])
  have hB := fun p hp => Heap.lt_size (N7 p hp).1
  have hl2 := hl.at fun o e => F6.keep _ _ e
  clear N6
  refine loopB (vs := vals ts) (fun i m news => ∃ rvs n k oe pend en js rds, news = lay lr lc (L + 1 + 1) (L + 1 + 1 + 1) (L + 1) f c' (listOf (rvs : List Value).toArray n) (listOf (pend : List Value).toArray k) oe ocr occ fn oc ((173, tb) :: rds) ∧ oe.data = .cell (some (.bool en)) ∧
      RowsIn w rds rvs js ∧ DictsIn w rds ∧ Pend i pend en js (joined (ts.take i)) ∧ (∀ p ∈ rds, p.1 ≠ lr ∧ p.1 ≠ lc ∧ p.1 ≠ L + 1 + 1) ∧ m (Str.ofString "flush") = some (.ref f)) (by exact hA.hh) hl2 F6 N7
    ⟨[], _, _, _, [], _, [], [], rfl, he, ⟨rfl, fun i v e => by simp at e⟩, .nil, .none0, (fun _ hp => nomatch hp), by rfl⟩ ?_ ?_
  · rintro i v m₁ news₁ h1 tk1 own hv hno ⟨rvs, n, k, oe, pend, en, js, rds, rfl, he, R, hrd, P, hne, ht⟩ hown hlo hli F2 N2
    obtain ⟨tkn, e0⟩ := vals_at hv
    have q1 := tks_at e0
    obtain ⟨a, kvs, q2, D, I⟩ := H.at e0
    dsimp only at q2 I
    subst q2
    have F3 := fr_name (x := Str.ofString "flush") F2 ((if_neg (by decide)).trans ht)
    have hw := W.at q1
    have hi12 : i < 12 := by
      have q3 := (List.getElem?_eq_some_iff.mp e0).1
      have q4 := W.1
      rw [tks_len] at q4
      omega
    have hlen : js.length ≤ 12 := by
      have q3 := P.len
      have q4 := joined_len (ts.take i)
      rw [List.length_take] at q4
      omega
    have hrl : rvs.length ≤ 1000 := by have := R.1; omega
    have hstep := joined_snoc (ts.take i) (.ref a, tkn)
    rw [← take_snoc e0] at hstep
    generalize joined (ts.take i) = all at P hstep
    have hol : ∀ p ∈ own, ∀ z o, (z, o) ∈ lay lr lc (L + 1 + 1) (L + 1 + 1 + 1) (L + 1) f c' (listOf ([] : List Value).toArray 0) (listOf ([] : List Value).toArray 0) oe0 ocr occ fn oc ((173, tb) :: []) → p.1 ≠ z := fun p hp z o hz e => by
      rcases hown p hp with q | q
      · obtain ⟨o9, ho9, _⟩ := hl
        have := (N7 _ hz).2.2
        simp only at this
        rw [← e, q, ho9] at this
        cases this
      · exact absurd (hB _ hz) (by simp only; rw [← e, q]; exact Nat.lt_irrefl _)
    have hr1 : ∀ p ∈ (173, tb) :: (rds ++ own), p.1 ≠ lr := fun p hp => by
      rcases List.mem_cons.mp hp with rfl | hp
      · show @Ne Nat 173 lr; omega
      · exact (List.mem_append.mp hp).elim (fun q => (hne p q).1) fun q => hol p q _ _ (.head _)
    have hr2 : ∀ p ∈ (173, tb) :: (rds ++ own), p.1 ≠ lc := fun p hp => by
      rcases List.mem_cons.mp hp with rfl | hp
      · show @Ne Nat 173 lc; omega
      · exact (List.mem_append.mp hp).elim (fun q => (hne p q).2.1) fun q => hol p q _ _ (.tail _ (.head _))
    have hr3 : ∀ p ∈ (173, tb) :: (rds ++ own), p.1 ≠ L + 1 + 1 := fun p hp => by
      rcases List.mem_cons.mp hp with rfl | hp
      · show @Ne Nat 173 (L + 1 + 1); omega
      · exact (List.mem_append.mp hp).elim (fun q => (hne p q).2.2) fun q => hol p q _ _ (.tail _ (.tail _ (.head _)))
    have N3 : News h₀ L h1 (lay lr lc (L + 1 + 1) (L + 1 + 1 + 1) (L + 1) f c' (listOf rvs.toArray n) (listOf pend.toArray k) oe ocr occ fn oc ((173, tb) :: (rds ++ own))) := news_sub N2 (by
      intro p hp; simp only [lay, List.mem_append, List.mem_cons] at hp ⊢; rcases hp with h | h | h | h | h | h | h | h | h | h <;> simp [h])
    have hBl : ∀ x ∈ [lr, lc, L + 1 + 1, L + 1 + 1 + 1, L + 1, f, c', 173], @LT.lt Nat _ x _ := fun x hx => by
      simp only [List.mem_cons, List.not_mem_nil, or_false] at hx
      rcases hx with rfl | rfl | rfl | rfl | rfl | rfl | rfl | rfl
      · exact hB _ (.head _)
      · exact hB _ (.tail _ (.head _))
      · exact hB _ (.tail _ (.tail _ (.head _)))
      · exact hB _ (.tail _ (.tail _ (.tail _ (.head _))))
      · exact hB _ (.tail _ (.tail _ (.tail _ (.tail _ (.head _)))))
      · exact hB _ (.tail _ (.tail _ (.tail _ (.tail _ (.tail _ (.head _))))))
      · exact hB _ (.tail _ (.tail _ (.tail _ (.tail _ (.tail _ (.tail _ (.head _)))))))
      · exact hB _ (.tail _ (.tail _ (.tail _ (.tail _ (.tail _ (.tail _ (.tail _ (.head _))))))))
    generalize hr9 : (173, tb) :: (rds ++ own) = rst at N3 hr1 hr2 hr3
    clear F2 N2 F6 N7 ht hno hB hl2 hol htb
    dsimp only [lay] at N3
    cases tkn with
    | obj ty rest =>
      cases I with | obj t _ _ h hr =>
      have h2 : (ty != Str.ofString "text") = true := by rw [bne, h]; rfl
      cases P with
      | none0 =>
        k_steps
        rename News _ _ _ _ => N4
        rename Fr _ _ _ _ => F4
        rw [toArray_push] at N4
        exact LPostB.intro F4 (coal_end N4 hr9) (coal_old hBl hrd) ⟨_, _, _, _, [], en, [] ++ [.o (.ref a)], rds, rfl, he, R.snoc (j := .o (.ref a)) (fun _ h => h) rfl, hrd, by rw [hstep]; exact .none, hne, by rfl⟩
      | none =>
        k_steps
        rename News _ _ _ _ => N4
        rename Fr _ _ _ _ => F4
        rw [toArray_push] at N4
        exact LPostB.intro F4 (coal_end N4 hr9) (coal_old hBl hrd) ⟨_, _, _, _, [], en, _, rds, rfl, he, R.snoc (j := .o (.ref a)) (fun _ h => h) rfl, hrd, by rw [hstep]; exact .none, hne, by rfl⟩
      | @some vs x t9 ss _ _ hI hsw hsl0 hx =>
        have hss : ∀ y ∈ ss, y.length ≤ 1000 := fun y hy => Nat.le_trans (words_len y (hsw y hy)) (by decide)
        have hsl : ss.length ≤ 1000 := by omega
        k_steps
        rename News _ _ _ _ => N4
        rename Fr _ _ _ _ => F4
        rename Obj.IsDictOf (PySem.strKind _ _) _ _ => hd9
        rename TkIs _ (.text (txtMode _) _) => hk9
        rename (_ == sysModules) = false => lo9
        rename NeH _ (L + 1 + 1) => z3
        rename NeH _ lc => z2
        rename NeH _ lr => z1
        rw [toArray_push] at N4
        exact LPostB.intro F4 (coal_end1 N4 hr9) (coal_old hBl (hrd.cons hd9)) ⟨_, _, _, _, [], en, _, _, rfl, he, (R.snoc (j := .t en (cat ss) x) (fun _ h => .tail _ h) ⟨_, _, _, rfl, .head _, lo9, hd9, hk9⟩).snoc (j := .o (.ref a)) (fun _ h => h) rfl, hrd.cons hd9, by rw [hstep]; exact .none,
          (fun p hp => by
            rcases List.mem_cons.mp hp with rfl | hp
            · exact ⟨z1, z2, z3⟩
            · exact hne p hp), by rfl⟩
    | text md raw =>
      obtain ⟨⟨t1, f1⟩, ⟨t2, f2⟩, f3⟩ := I.textFacts
      have h9 : jstep all (.ref a, .text md raw) = jtext all (md.getD true) raw := rfl
      rw [h9] at hstep
      have hrw : raw ∈ words := hw
      clear h9 I
      generalize md.getD true = live at hstep f3
      cases P with
      | none0 =>
        rw [jtext_nil] at hstep
        cases live <;> cases en <;> k_steps
        all_goals (
          rename News _ _ _ _ => N4
          rename Fr _ _ _ _ => F4
          rw [toArray_push] at N4
          exact LPostB.intro F4 (coal_end N4 hr9) (coal_old hBl hrd) ⟨_, _, _, _, _, _, [], rds, rfl, by assumption, R, hrd, by rw [hstep]; exact Pend.new hrw, hne, by rfl⟩)
      | none =>
        rw [jtext_o] at hstep
        cases live <;> cases en <;> k_steps
        all_goals (
          rename News _ _ _ _ => N4
          rename Fr _ _ _ _ => F4
          rw [toArray_push] at N4
          exact LPostB.intro F4 (coal_end N4 hr9) (coal_old hBl hrd) ⟨_, _, _, _, _, _, _, rds, rfl, by assumption, R, hrd, by rw [hstep]; exact Pend.new hrw, hne, by rfl⟩)
      | @some vs x t9 ss _ _ hI hsw hsl0 hx =>
        rw [jtext_t] at hstep
        have hss : ∀ y ∈ ss, y.length ≤ 1000 := fun y hy => Nat.le_trans (words_len y (hsw y hy)) (by decide)
        have hsl : ss.length ≤ 1000 := by omega
        have hvl : vs.length ≤ 1000 := by have := hI.length; rw [List.length_append] at this; omega
        have same : live = en → (amp x && isRest raw) = false → joined (ts.take (i + 1)) = js ++ [.t live (cat ss ++ raw) raw] := fun e1 e2 => by
          rw [hstep, e1, e2]; simp
        have other : live ≠ en ∨ (amp x && isRest raw) = true → joined (ts.take (i + 1)) = js ++ [.t en (cat ss) x] ++ [.t live raw raw] := fun e1 => by
          rw [hstep, if_neg]
          rcases e1 with e1 | e1
          · have : (en == live) = false := by cases en <;> cases live <;> first | rfl | exact absurd rfl e1
            rw [this]; simp
          · rw [e1]; simp
        clear hstep
        cases live <;> cases en
        case false.true =>
          k_steps
          rename News _ _ _ _ => N4
          rename Fr _ _ _ _ => F4
          rename Obj.IsDictOf (PySem.strKind _ _) _ _ => hd9
          rename TkIs _ (.text (txtMode _) _) => hk9
          rename (_ == sysModules) = false => lo9
          rename NeH _ (L + 1 + 1) => z3
          rename NeH _ lc => z2
          rename NeH _ lr => z1
          rw [toArray_push] at N4
          exact LPostB.intro F4 (coal_end1 N4 hr9) (coal_old hBl (hrd.cons hd9)) ⟨_, _, _, _, _, _, _, _, rfl, by assumption, R.snoc (j := .t true (cat ss) x) (fun _ h => .tail _ h) ⟨_, _, _, rfl, .head _, lo9, hd9, hk9⟩, hrd.cons hd9, by rw [other (.inl nofun)]; exact Pend.new hrw,
            (fun p hp => by
              rcases List.mem_cons.mp hp with rfl | hp
              · exact ⟨z1, z2, z3⟩
              · exact hne p hp), by rfl⟩
        case true.false =>
          k_steps
          rename News _ _ _ _ => N4
          rename Fr _ _ _ _ => F4
          rename Obj.IsDictOf (PySem.strKind _ _) _ _ => hd9
          rename TkIs _ (.text (txtMode _) _) => hk9
          rename (_ == sysModules) = false => lo9
          rename NeH _ (L + 1 + 1) => z3
          rename NeH _ lc => z2
          rename NeH _ lr => z1
          rw [toArray_push] at N4
          exact LPostB.intro F4 (coal_end1 N4 hr9) (coal_old hBl (hrd.cons hd9)) ⟨_, _, _, _, _, _, _, _, rfl, by assumption, R.snoc (j := .t false (cat ss) x) (fun _ h => .tail _ h) ⟨_, _, _, rfl, .head _, lo9, hd9, hk9⟩, hrd.cons hd9, by rw [other (.inl nofun)]; exact Pend.new hrw,
            (fun p hp => by
              rcases List.mem_cons.mp hp with rfl | hp
              · exact ⟨z1, z2, z3⟩
              · exact hne p hp), by rfl⟩
        all_goals (
          cases hq : (amp x && isRest raw)
          · k_steps
            rename News _ _ _ _ => N4
            rename Fr _ _ _ _ => F4
            rw [toArray_push] at N4
            exact LPostB.intro F4 (coal_end N4 hr9) (coal_old hBl hrd) ⟨_, _, _, _, _, _, _, rds, rfl, by assumption, R, hrd, by rw [same rfl hq]; exact Pend.more hI hsw hsl0 hrw, hne, by rfl⟩
          · k_steps
            rename News _ _ _ _ => N4
            rename Fr _ _ _ _ => F4
            rename Obj.IsDictOf (PySem.strKind _ _) _ _ => hd9
            rename TkIs _ (.text (txtMode _) _) => hk9
            rename (_ == sysModules) = false => lo9
            rename NeH _ (L + 1 + 1) => z3
            rename NeH _ lc => z2
            rename NeH _ lr => z1
            rw [toArray_push] at N4
            exact LPostB.intro F4 (coal_end1 N4 hr9) (coal_old hBl (hrd.cons hd9)) ⟨_, _, _, _, _, _, _, _, rfl, by assumption, R.snoc (j := .t _ (cat ss) x) (fun _ h => .tail _ h) ⟨_, _, _, rfl, .head _, lo9, hd9, hk9⟩, hrd.cons hd9, by rw [other (.inr hq)]; exact Pend.new hrw,
              (fun p hp => by
                rcases List.mem_cons.mp hp with rfl | hp
                · exact ⟨z1, z2, z3⟩
                · exact hne p hp), by rfl⟩)
  · rintro m₁ news₁ h1 tk1 ⟨rvs, n, k, oe, pend, en, js, rds, rfl, he, R, hrd, P, hne, ht⟩ F2 N2
    rw [vals_len, List.take_length] at P
    have F3 := fr_name F2 ht
    have N3 := N2
    dsimp only [lay] at N3
    have hr1 : ∀ p ∈ (173, tb) :: rds, p.1 ≠ lr := fun p hp => by
      rcases List.mem_cons.mp hp with rfl | hp
      · show @Ne Nat 173 lr; omega
      · exact (hne p hp).1
    have hr2 : ∀ p ∈ (173, tb) :: rds, p.1 ≠ lc := fun p hp => by
      rcases List.mem_cons.mp hp with rfl | hp
      · show @Ne Nat 173 lc; omega
      · exact (hne p hp).2.1
    have hlen : js.length ≤ 12 := by
      have q3 := P.len
      have q4 := joined_len ts
      have q5 := W.1
      rw [tks_len] at q5
      omega
    have hrl : rvs.length ≤ 1000 := by have := R.1; omega
    have htab9 : TabL 173 flushLine flushCol flushQual [(173, tb), (c', oc)] := by rw [← htab]; exact .made hd2 hv2
    have hmem9 : ∀ p ∈ tabs, p.1 ≠ 173 → p ∈ [(173, tb), (c', oc)] := fun p hp hn => by rw [htb p hp hn]; exact .tail _ (.head _)
    generalize hr9 : (173, tb) :: rds = rst at N3 hr1 hr2
    clear F2 N2 F6 N7 ht hB hl2 htab hlen
    generalize joined ts = all at P ret
    cases P with
    | none0 =>
      k_steps
      rename News _ _ _ _ => N4
      rename Fr _ _ _ _ => F4
      exact ret _ _ _ rds _ _ _ F4.keep htab9 hmem9 (born_end N4 hr9) R
    | none =>
      k_steps
      rename News _ _ _ _ => N4
      rename Fr _ _ _ _ => F4
      exact ret _ _ _ rds _ _ _ F4.keep htab9 hmem9 (born_end N4 hr9) R
    | @some vs x t9 ss _ _ hI hsw hsl0 hx =>
      have hss : ∀ y ∈ ss, y.length ≤ 1000 := fun y hy => Nat.le_trans (words_len y (hsw y hy)) (by decide)
      have hsl : ss.length ≤ 1000 := by have q5 := W.1; rw [tks_len] at q5; have q6 := vals_len ts; omega
      k_steps
      rename News _ _ _ _ => N4
      rename Fr _ _ _ _ => F4
      rename Obj.IsDictOf (PySem.strKind _ _) _ _ => hd9
      rename TkIs _ (.text (txtMode _) _) => hk9
      rename (_ == sysModules) = false => lo9
      exact ret _ _ _ (_ :: rds) _ _ _ F4.keep htab9 hmem9 (born_end1 N4 hr9) (R.snoc (j := .t _ (cat ss) x) (fun _ h => .tail _ h) ⟨_, _, _, rfl, .head _, lo9, hd9, hk9⟩)
end

end
theorem anew20 : True ∧ True := by
  w_top off
  first | (walk1 <;> trivial) | exact ⟨trivial, trivial⟩
section
local macro_rules | `(tactic| walk_at "m ok") => `(tactic| (first
  | assumption
  | exact Ok.mono (by assumption) (by decide)
  | exact Ok.mono (Ok.deeper (by assumption) _) (by decide)
  | exact Ok.mono (Ok.in1 (Ok.deeper (by assumption) _)) (by decide)
  | exact Ok.mono (Ok.in1 (by assumption)) (by decide)))
local macro_rules | `(tactic| walk_at "m room") => `(tactic| exact Ok.room (by assumption))
local macro_rules | `(tactic| walk_at "m dict") => `(tactic| (first
  | exact DictAt.fr (by k_asm) (by k_asm)
  | exact DictAt.news (by k_asm) (by k_mem) (by k_asm) (by k_asm)))
local macro_rules | `(tactic| walk_at "getMethod ref") => `(tactic| (k_here; k_dflt (first
  | ((with_reducible show wpAny _ _ (getMethod (Value.ref _) (Str.ofString "get") _) _ _ _); refine meth_at PySem.F.slot_dict_get PySem.F.type_dict_get (by walk_at "m dict") ?_)
  | ((with_reducible show wpAny _ _ (getMethod (Value.ref _) (Str.ofString "copy") _) _ _ _); refine meth_at PySem.F.slot_dict_copy PySem.F.type_dict_copy (by walk_at "m dict") ?_)
  | ((with_reducible show wpAny _ _ (getMethod (Value.ref _) (Str.ofString "pop") _) _ _ _); refine meth_at PySem.F.slot_dict_pop PySem.F.type_dict_pop (by walk_at "m dict") ?_))))
local macro_rules | `(tactic| walk_at "call builtin:dict.get") => `(tactic| (k_here; k_dflt (refine' get2_at (by walk_at "m dict") ?v ?_; (case v => first | assumption | with_unfolding_all exact Eq.refl (Value.bool _) | rfl); k_whole)))
local macro_rules | `(tactic| walk_at "subscriptTail") => `(tactic| (k_here; (with_reducible show wpAny _ _ (subscriptTail _ _ (Value.ref _) (Value.str _ _)) _ _ _); k_dflt (refine' item_at (by walk_at "m dict") ?v ?_ ?hs; (case v => first | assumption | rfl); (case hs => with_unfolding_all rfl); k_whole)))
local macro_rules | `(tactic| walk_at "exec For") => `(tactic| (k_here; k_dflt (refine For_m (by k_asm) (by rfl) (by rfl) ?_ (by intro _; rfl) PassesOwn.never)))
local macro_rules | `(tactic| k_all) => `(tactic| assumption)
local macro_rules | `(tactic| walk_at "m sub") => `(tactic| (intro p9 hp9; simp only [List.mem_append, List.mem_cons, List.not_mem_nil, or_false, false_or] at hp9 ⊢; grind))
local macro_rules | `(tactic| walk_at "callWith") => `(tactic| ((with_reducible show wpAny _ _ (callWith _ (Value.builtin _) [_] (backTo _ (starEach (_ :: _) _)) []) _ _ _); refine callWith_method1 ?_))

local macro_rules | `(tactic| walk_at "Exists") => `(tactic| (k_here; (refine made_m (by k_asm) (by first | k_asm | exact News.nil) (Top.nolimit (by k_asm)) (by rfl) (of_decide_eq_true (by rfl)) ?_; intro h' o' F' N' l1 lo' hd'; (try k_lt l1); (try dsimp only at N'); (try dsimp only))))
local macro_rules | `(tactic| walk_at "call ref") => `(tactic| (k_here; (with_reducible show wpAny _ _ (call (Value.ref 332) _) _ _ _); k_dflt (refine' use_words ?kA ?kX ?kT ?kF ?kN ?_; (case kA => walk_at "m ok"); (case kX => k_asm); (case kT => k_asm); (case kF => k_asm); (case kN => k_asm); k_whole); intro r' h' tk' n' vs' W' F' N' l1; (try (replace l1 := allNe_of l1; simp only [AllNe, and_true] at l1)); (try k_sweep)))
local macro_rules | `(tactic| walk_at "call ref") => `(tactic| (k_here; (with_reducible show wpAny _ _ (call (Value.ref 339) _) _ _ _); k_dflt (refine' use_draw ?kA ?kX ?kT ?kF ?kN ?kU ?kS ?kI ?kL ?k0 ?k1 ?k2 ?k3 ?_; (case kA => walk_at "m ok"); (case kX => k_asm); (case kT => k_asm); (case kF => k_asm); (case kN => k_asm); (case kU => k_updF); (case kS => assumption); (case kI => assumption); (case kL => first | assumption | omega); (case k0 => first | decide | assumption); (case k1 => first | decide | assumption); (case k2 => decide); (case k3 => decide); k_whole); intro k' t' pl' acc' tp' ta' h' tk' k0' k1' a0' a1' F' N'; (try dsimp only at N'); (try k_sweep)))
local macro_rules | `(tactic| walk_at "subscriptTail") => `(tactic| (k_here; (with_reducible show wpAny _ _ (subscriptTail _ _ (Value.ref _) (Value.int _ _)) _ _ _); k_dflt (refine' item_words ?kN ?kM ?kW ?k0 ?k1 ?_ ?kS; (case kW => assumption); (case kN => k_asm); (case kM => k_mem); (case k0 => assumption); (case k1 => assumption); (case kS => with_unfolding_all rfl)); intro x' t' hx'))

local macro_rules | `(tactic| walk_at "call ref") => `(tactic| (k_here; (with_reducible show wpAny _ _ (call (Value.ref 367) _) _ _ _); k_dflt (refine' use_live ?kA ?kX ?kT ?kF ?kN ?kD ?kv ?_; (case kA => walk_at "m ok"); (case kX => k_asm); (case kT => k_asm); (case kF => k_asm); (case kN => k_asm); (case kD => walk_at "m dict"); (case kv => first | assumption | rfl); k_whole); intro h' tk' F' N'; (try k_sweep)))

local macro_rules | `(tactic| walk_at "call builtin:str.join") => `(tactic| (k_here; k_dflt (refine' join_m ?N ?M ?I ?S ?n ?_; (case N => k_asm); (case M => k_mem); (case I => assumption); (case S => assumption); (case n => assumption); k_whole); intro t' k'))

local macro_rules | `(tactic| walk_at "call ref") => `(tactic| (k_here; (with_reducible show wpAny _ _ (call (Value.ref 360) _) _ _ _); k_dflt (refine use_apart (by walk_at "m ok") (by k_asm) (by k_asm) (by k_asm) (by k_asm) (by assumption) (by assumption) ?_); intro h' tk' F' N'; (try k_sweep)))
local macro_rules | `(tactic| walk_at "truthy ref") => `(tactic| (k_here; k_dflt (refine' truthy_snoc ?N ?m ?l ?_; (case N => k_asm); (case m => k_mem); (case l => assumption); k_whole)))
local macro_rules | `(tactic| walk_at "subscriptTail Name UnaryOp ref int") => `(tactic| (k_here; k_dflt (refine' last_snoc ?N ?m ?_ ?s; (case N => k_asm); (case m => k_mem); (case s => with_unfolding_all rfl); k_whole)))
local macro_rules | `(tactic| walk_at "setItem ref str") => `(tactic| (k_here; k_dflt (refine' kda_set (knd := PySem.strKind _ _) ?F ?N ?U ?d (strKind_is _ _ _ _) ?z ?_; (case F => k_asm); (case N => k_asm); (case U => k_updF); (case d => k_asm); (case z => first | assumption | exact Nat.le_of_ble_eq_true (by with_unfolding_all rfl))); intro h' o' F' N' hd'; (try dsimp only at N')))
local macro_rules | `(tactic| walk_at "m dict") => `(tactic| (first
  | exact DictAt.fr (by k_asm) (by k_asm)
  | exact DictAt.news (by k_asm) (by k_mem) (by k_asm) (by k_asm)
  | exact DictAt.news (by k_asm) (.tail _ (by assumption)) (by assumption) (by assumption)
  | exact DictAt.news (by k_asm) (.tail _ (.tail _ (by assumption))) (by assumption) (by assumption)
  | exact DictAt.news (by k_asm) (by assumption) (by assumption) (by assumption)))

local macro_rules | `(tactic| walk_at "call ref") => `(tactic| (k_here; (with_reducible show wpAny _ _ (call (Value.ref 381) _) _ _ _); k_dflt (refine' use_bare ?kA ?kX ?kT ?kF ?kN ?kD ?kz ?_; (case kA => walk_at "m ok"); (case kX => k_asm); (case kT => k_asm); (case kF => k_asm); (case kN => k_asm); (case kD => walk_at "m dict"); (case kz => assumption); k_whole); intro b' o' h' tk' F' N' l1' lo' hd'; (have l2' : @Ne Nat _ _ := l1' _ (.head _)); (try dsimp only at l2'); (try k_sweep)))

local macro_rules | `(tactic| walk_at "call ref") => `(tactic| (k_here; (with_reducible show wpAny _ _ (call (Value.ref 55) _) _ _ _); k_dflt (refine use_boundary (by walk_at "m ok") (by k_asm) (by k_asm) (by k_asm) (by k_asm) (by assumption) (by assumption) ?_); intro h' tk' F' N'; (try k_sweep)))
local macro_rules | `(tactic| walk_at "callWith ref") => `(tactic| (k_here; (with_reducible show wpAny _ _ (callWith _ (Value.ref _) [] (backTo _ (starEach [] _)) []) _ _ _); k_dflt (refine' callWith_F0 (FnAt.of2 (by assumption) (by k_asm) (by k_mem)) ?_; k_whole; try dsimp only [List.nil_append, List.cons_append])))
local macro_rules | `(tactic| walk_at "call ref") => `(tactic| (k_here; (with_reducible show wpAny _ _ (call (Value.ref _) []) _ _ _); k_dflt (first
  | (refine' Flush0.use (by assumption) (by walk_at "m ok") (by k_asm) (by k_asm) ?_; intro h' tk' F' N'; (try dsimp only [lay] at N'); (try k_sweep))
  | (refine' Flush1.use (by assumption) ?kA ?kF ?kN ?kd ?kI ?ks ?kl ?kr ?k1 ?k2 ?_; (case kA => walk_at "m ok"); (case kF => k_asm); (case kN => k_asm); (case kd => assumption); (case kI => assumption); (case ks => assumption); (case kl => assumption); (case kr => assumption); (case k1 => assumption); (case k2 => assumption); intro d' od' kvs' n' k' h' tk' F' N' z1' z2' z3' z4' lo' hd' hk'; (replace z1' := NeH.intro z1'); (replace z2' := NeH.intro z2'); (replace z3' := NeH.intro z3'); (try dsimp only [lay] at N'); (try k_sweep)))))
local macro_rules | `(tactic| walk_at "ite") => `(tactic| (k_here; first | (with_reducible refine ite_pos rfl ?_) | (with_reducible refine ite_neg Bool.false_ne_true ?_)))
local macro_rules | `(tactic| k_ne) => `(tactic| (refine neN ?_; (try dsimp only); first | exact NeH.ne (by with_reducible assumption) | exact NeH.ne' (by with_reducible assumption)))

local macro_rules | `(tactic| walk_at "call ref") => `(tactic| (k_here; (with_reducible show wpAny _ _ (call (Value.ref 199) _) _ _ _); k_dflt (refine' use_clean ?kA ?kX ?kT ?kF ?kN ?kD ?kI ?_ ?_; (case kA => walk_at "m ok"); (case kX => k_asm); (case kT => k_asm); (case kF => k_asm); (case kN => k_asm); (case kD => walk_at "m dict"); (case kI => assumption); k_whole)))

section
variable {w : World} {A : Around} {E : Value → Shared → Prop} {s : Shared} {p : Program} {loose : List Str} {mean : ExcName → Option Value} {mg mb : Str → Option Value}
local macro_rules | `(tactic| walk_at "pyIter ref") => `(tactic| (k_here; with_reducible refine Halt.intro ?_))
local macro_rules | `(tactic| walk_at "call ref") => `(tactic| (k_here; (with_reducible show wpAny _ _ (call (Value.ref 199) _) _ _ _); with_reducible refine Halt.intro ?_))
local macro_rules | `(tactic| walk_at "truthy str") => `(tactic| (k_here; refine truthy_word (by assumption) (by assumption) ?_))
set_option maxHeartbeats 8000000 in
theorem spec_merge {Q : Value → Shared → Prop} {l : Addr} {ts : List (Value × Tk)} (hA : Ok A 2) (X : (hd.heap_39 w.params).In s.heap) (T : Top p loose mean mg mb s.heap)
    (hl : s.heap.IsList l (vals ts).toArray) (H : Toks w s.heap ts) (W : WordTks (tks ts))
    (ret : ∀ r rvs h' tk, s.heap.StaysIn h' → h'.IsList r rvs.toArray → Bares w s.heap h' rvs (merged1 ts) → Q (.ref r) { s with heap := h', toks := tk }) :
    wpAny (model PR w) A (call (.ref 325) [.ref l]) Q E s := by
  refine' enterN (news := []) (binds := [(Str.ofString "tokens", .ref l)]) ?kX ?kT ?kS ?kZ ?kN ?kO ?kC ?kR ?kB ?kL ?_ ?c1 ?c2 ?c3 ?c4
  case kX => assumption
  case kT => first | exact Top.nolimit (by assumption) | assumption
  case kO => k_is
  case kC => k_is
  case kR => exact Ok.room (by assumption)
  case kB => exact BindsTo.of_eq rfl
  case kL => exact locs rfl
  case c1 => exact rfl
  case c2 => exact rfl
  case c3 => exact rfl
  case c4 => decide
  case kS => exact fun _ _ e => e
  case kZ => exact Nat.le_refl _
  case kN => exact fun _ hp => nomatch hp
  intro L h tk F N hk hn
  try dsimp only
  try k_fold
  clear hk hn
  k_steps
  rename News _ _ _ _ => N1
  rename Fr _ _ _ _ => F1
  rename @LT.lt Nat _ _ _ => hlt
  refine loopL (vs := vals ts) (fun i m news => ∃ lr lc rvs n pend k js rds, news = (lr, listOf (rvs : List Value).toArray n) :: (lc, listOf (pend : List Value).toArray k) :: rds ∧ ItemsC w s.heap rds rvs js ∧ DictsIn w rds ∧ Pend i pend true js (merged1 (ts.take i)) ∧
      (∀ p ∈ rds, p.1 ≠ lr ∧ p.1 ≠ lc) ∧ @LT.lt Nat _ lr lc ∧ m (Str.ofString "result") = some (.ref lr) ∧ m (Str.ofString "chunks") = some (.ref lc)) (by exact hA.hh) (hl.at fun o e => F1.keep _ _ e) F1 (news_swap N1)
    (.cons cls_list (.cons cls_list .nil)) ⟨_, _, [], _, [], _, [], [], rfl, .nil, .nil, .none0, (fun _ hp => nomatch hp), hlt, by rfl, by rfl⟩ ?_ ?_
  · rintro i v m₁ news₁ h1 tk1 own hv hno ⟨lr, lc, rvs, n, pend, k, js, rds, rfl, R, hrd, P, hne, hlrc, ht, ht2⟩ hown hlo hli F2 N2
    obtain ⟨tkn, e0⟩ := vals_at hv
    have q1 := tks_at e0
    obtain ⟨a, kvs, q2, D, I⟩ := H.at e0
    dsimp only at q2 I
    subst q2
    have F3 := fr_name (x := Str.ofString "chunks") F2 ((if_neg (by decide)).trans ht2)
    have F4 := fr_name (x := Str.ofString "result") F3 ((if_neg (by decide)).trans ((if_neg (by decide)).trans ht))
    have hw := W.at q1
    have hi12 : i < 12 := by
      have q3 := (List.getElem?_eq_some_iff.mp e0).1
      have q4 := W.1
      rw [tks_len] at q4
      omega
    have hlen : js.length ≤ 12 := by
      have q3 := P.len
      have q4 := merged_len (ts.take i)
      rw [List.length_take] at q4
      omega
    have hrl : rvs.length ≤ 1000 := by have := R.1; omega
    have hstep := merged_snoc (ts.take i) (.ref a, tkn)
    rw [← take_snoc e0] at hstep
    generalize merged1 (ts.take i) = all at P hstep
    have hn1 := own_ne N2 hown (let ⟨o, ho, _⟩ := hl; ⟨o, ho⟩) (.head _) cls_list.1
    have hn2 := own_ne N2 hown (let ⟨o, ho, _⟩ := hl; ⟨o, ho⟩) (.tail _ (.head _)) cls_list.1
    have hr1 : ∀ p ∈ rds ++ own, p.1 ≠ lr := fun p hp => (List.mem_append.mp hp).elim (fun q => (hne p q).1) (hn1 p)
    have hr2 : ∀ p ∈ rds ++ own, p.1 ≠ lc := fun p hp => (List.mem_append.mp hp).elim (fun q => (hne p q).2) (hn2 p)
    have N3 : News _ _ h1 ((lr, listOf rvs.toArray n) :: (lc, listOf pend.toArray k) :: (rds ++ own)) := news_sub N2 (by
      intro p hp; simp only [List.mem_append, List.mem_cons] at hp ⊢; rcases hp with h | h | h | h <;> simp [h])
    generalize hr9 : rds ++ own = rst at N3 hr1 hr2
    clear F1 N1 F2 N2 F3 ht ht2 hno hlt
    cases tkn with
    | obj ty rest =>
      have I2 := I
      cases I with | obj t _ _ h hr =>
      have h2 : (ty == Str.ofString "text") = false := h
      cases P with
      | none0 =>
        k_steps
        (show wpAny _ _ _ _ _ _)
        rename News _ _ _ _ => N4
        rename Fr _ _ _ _ => F5
        refine use_clean (by walk_at "m ok") X T F5 N4 (D.keeps F5.keep) I2 ?_ ?_
        · intro e9 h' tk' F' N'
          clear N4 F5
          k_steps
          rename News _ _ _ _ => N4
          rename Fr _ _ _ _ => F5
          rw [toArray_push] at N4
          exact LPost.intro F5 (me0 N4 hr9) (.cons cls_list (.cons cls_list hrd.noIt)) ⟨_, _, _, _, [], _, _, rds, rfl, R.snoc (j := .o (.ref a)) (fun _ h => h) ⟨a, _, rfl, D, .inl ⟨rfl, e9⟩⟩, hrd, by rw [hstep]; exact .none, hne, hlrc, by rfl, by rfl⟩
        · intro b o h' tk' F' N' hb lo hd
          have z1 : @Ne Nat lr b := hb _ (.head _)
          have z2 : @Ne Nat lc b := hb _ (.tail _ (.head _))
          clear N4 F5
          k_steps
          rename News _ _ _ _ => N4
          rename Fr _ _ _ _ => F5
          rw [toArray_push] at N4
          exact LPost.intro F5 (me1 N4 hr9) (.cons cls_list (.cons cls_list (hrd.cons hd).noIt)) ⟨_, _, _, _, [], _, _, _, rfl, R.snoc (j := .o (.ref a)) (fun _ h => .tail _ h) ⟨a, _, rfl, D, .inr ⟨b, o, rfl, .head _, lo, hd⟩⟩, hrd.cons hd, by rw [hstep]; exact .none,
            (fun p hp => by
              rcases List.mem_cons.mp hp with rfl | hp
              · exact ⟨Ne.symm z1, Ne.symm z2⟩
              · exact hne p hp), hlrc, by rfl, by rfl⟩
      | none =>
        k_steps
        (show wpAny _ _ _ _ _ _)
        rename News _ _ _ _ => N4
        rename Fr _ _ _ _ => F5
        refine use_clean (by walk_at "m ok") X T F5 N4 (D.keeps F5.keep) I2 ?_ ?_
        · intro e9 h' tk' F' N'
          clear N4 F5
          k_steps
          rename News _ _ _ _ => N4
          rename Fr _ _ _ _ => F5
          rw [toArray_push] at N4
          exact LPost.intro F5 (me0 N4 hr9) (.cons cls_list (.cons cls_list hrd.noIt)) ⟨_, _, _, _, [], _, _, rds, rfl, R.snoc (j := .o (.ref a)) (fun _ h => h) ⟨a, _, rfl, D, .inl ⟨rfl, e9⟩⟩, hrd, by rw [hstep]; exact .none, hne, hlrc, by rfl, by rfl⟩
        · intro b o h' tk' F' N' hb lo hd
          have z1 : @Ne Nat lr b := hb _ (.head _)
          have z2 : @Ne Nat lc b := hb _ (.tail _ (.head _))
          clear N4 F5
          k_steps
          rename News _ _ _ _ => N4
          rename Fr _ _ _ _ => F5
          rw [toArray_push] at N4
          exact LPost.intro F5 (me1 N4 hr9) (.cons cls_list (.cons cls_list (hrd.cons hd).noIt)) ⟨_, _, _, _, [], _, _, _, rfl, R.snoc (j := .o (.ref a)) (fun _ h => .tail _ h) ⟨a, _, rfl, D, .inr ⟨b, o, rfl, .head _, lo, hd⟩⟩, hrd.cons hd, by rw [hstep]; exact .none,
            (fun p hp => by
              rcases List.mem_cons.mp hp with rfl | hp
              · exact ⟨Ne.symm z1, Ne.symm z2⟩
              · exact hne p hp), hlrc, by rfl, by rfl⟩
      | @some vs x t9 ss _ _ hI hsw hsl0 hx =>
        have hss : ∀ y ∈ ss, y.length ≤ 1000 := fun y hy => Nat.le_trans (words_len y (hsw y hy)) (by decide)
        have hsl : ss.length ≤ 1000 := by omega
        have hvl : vs.length ≤ 1000 := by have := hI.length; rw [List.length_append] at this; omega
        have hI' : StrsAre (vs ++ [Value.str x t9]).toArray.toList ss := hI
        k_steps
        (show wpAny _ _ _ _ _ _)
        rename News _ _ _ _ => N4
        rename Fr _ _ _ _ => F5
        rename Obj.IsDictOf (PySem.strKind _ _) _ (strPairs _) => hd9
        rename (_ == sysModules) = false => lo9
        rename _ < _ ∧ lr < _ ∧ lc < _ ∧ AllLt _ _ => hl9
        rename lr < _ ∧ lc < _ ∧ AllLt _ _ => hd8
        refine use_clean (by walk_at "m ok") X T F5 N4 (D.keeps F5.keep) I2 ?_ ?_
        · intro e9 h' tk' F' N'
          clear N4 F5
          k_steps
          rename News _ _ _ _ => N4
          rename Fr _ _ _ _ => F5
          rw [toArray_push, toArray_push] at N4
          exact LPost.intro F5 (me2 N4 hr9) (.cons cls_list (.cons cls_list (hrd.cons hd9).noIt)) ⟨_, _, _, _, [], _, _, _, rfl, (R.snoc (j := .t true (cat ss) x) (fun _ h => .tail _ h) ⟨_, _, _, _, rfl, .head _, lo9, hd9⟩).snoc (j := .o (.ref a)) (fun _ h => h) ⟨a, _, rfl, D, .inl ⟨rfl, e9⟩⟩, hrd.cons hd9, by rw [hstep]; exact .none,
            (fun p hp => by
              rcases List.mem_cons.mp hp with rfl | hp
              · exact ⟨Ne.symm (Nat.ne_of_lt hd8.1), Nat.ne_of_lt hl9.1⟩
              · exact ⟨(hne p hp).1, Nat.ne_of_lt (of_allLt hl9.2.2.2 p (hr9 ▸ List.mem_append_left _ hp))⟩), hl9.2.1, by rfl, by rfl⟩
        · intro b o h' tk' F' N' hb lo hd
          have z1 : @Ne Nat lr b := hb _ (.tail _ (.tail _ (.head _)))
          have z2 := hb _ (.head _)
          clear N4 F5
          k_steps
          rename News _ _ _ _ => N4
          rename Fr _ _ _ _ => F5
          rw [toArray_push, toArray_push] at N4
          exact LPost.intro F5 (me3 N4 hr9) (.cons cls_list (.cons cls_list ((hrd.cons hd9).cons hd).noIt)) ⟨_, _, _, _, [], _, _, _, rfl, (R.snoc (j := .t true (cat ss) x) (rds' := _ :: rds) (fun _ h => .tail _ h) ⟨_, _, _, _, rfl, .head _, lo9, hd9⟩).snoc (j := .o (.ref a)) (fun _ h => .tail _ h) ⟨a, _, rfl, D, .inr ⟨b, o, rfl, .head _, lo, hd⟩⟩, (hrd.cons hd9).cons hd, by rw [hstep]; exact .none,
            (fun p hp => by
              rcases List.mem_cons.mp hp with rfl | hp
              · exact ⟨Ne.symm z1, Ne.symm z2⟩
              rcases List.mem_cons.mp hp with rfl | hp
              · exact ⟨Ne.symm (Nat.ne_of_lt hd8.1), Nat.ne_of_lt hl9.1⟩
              · exact ⟨(hne p hp).1, Nat.ne_of_lt (of_allLt hl9.2.2.2 p (hr9 ▸ List.mem_append_left _ hp))⟩), hl9.2.1, by rfl, by rfl⟩
    | text md raw =>
      obtain ⟨⟨t1, f1⟩, ⟨t2, f2⟩, f3⟩ := I.textFacts
      have h9 : mstep all (.ref a, .text md raw) = if raw == Str.ofString "" then all else jtext all true raw := rfl
      rw [h9] at hstep
      have hrw : raw ∈ words := hw
      clear h9 I f3
      cases hraw : raw == Str.ofString "" with
      | true =>
        have : raw = Str.ofString "" := eq_of_beq hraw
        subst this
        k_steps
        rename News _ _ _ _ => N4
        rename Fr _ _ _ _ => F5
        exact LPost.intro F5 (me0 N4 hr9) (.cons cls_list (.cons cls_list hrd.noIt)) ⟨_, _, _, _, _, _, _, rds, rfl, R, hrd, by rw [hstep, hraw]; exact P.mono (Nat.le_succ _), hne, hlrc, by rfl, by rfl⟩
      | false =>
        rw [hraw] at hstep
        simp only [Bool.false_eq_true, if_false] at hstep
        have hrl16 := words_len raw hrw
        have hpos : 1 ≤ raw.length := by
          rcases Nat.eq_zero_or_pos raw.length with q | q
          · exfalso
            have : raw = Str.ofString "" := by
              obtain ⟨c⟩ := raw
              have hc : c = #[] := Array.eq_empty_of_size_eq_zero q
              rw [hc]; rfl
            rw [this] at hraw
            exact absurd hraw (by decide)
          · exact q
        clear hraw
        cases P with
        | none0 =>
          rw [jtext_nil] at hstep
          k_steps
          rename News _ _ _ _ => N4
          rename Fr _ _ _ _ => F5
          rw [toArray_push] at N4
          exact LPost.intro F5 (me0 N4 hr9) (.cons cls_list (.cons cls_list hrd.noIt)) ⟨_, _, _, _, _, _, [], rds, rfl, R, hrd, by rw [hstep]; exact Pend.new hrw, hne, hlrc, by rfl, by rfl⟩
        | none =>
          rw [jtext_o] at hstep
          k_steps
          rename News _ _ _ _ => N4
          rename Fr _ _ _ _ => F5
          rw [toArray_push] at N4
          exact LPost.intro F5 (me0 N4 hr9) (.cons cls_list (.cons cls_list hrd.noIt)) ⟨_, _, _, _, _, _, _, rds, rfl, R, hrd, by rw [hstep]; exact Pend.new hrw, hne, hlrc, by rfl, by rfl⟩
        | @some vs x t9 ss _ _ hI hsw hsl0 hx =>
          rw [jtext_t] at hstep
          have hss : ∀ y ∈ ss, y.length ≤ 1000 := fun y hy => Nat.le_trans (words_len y (hsw y hy)) (by decide)
          have hsl : ss.length ≤ 1000 := by omega
          have hvl : vs.length ≤ 1000 := by have := hI.length; rw [List.length_append] at this; omega
          have hI' : StrsAre (vs ++ [Value.str x t9]).toArray.toList ss := hI
          cases hq : (amp x && isRest raw) with
          | false =>
            rw [hq] at hstep
            k_steps
            rename News _ _ _ _ => N4
            rename Fr _ _ _ _ => F5
            rw [toArray_push] at N4
            exact LPost.intro F5 (me0 N4 hr9) (.cons cls_list (.cons cls_list hrd.noIt)) ⟨_, _, _, _, _, _, _, rds, rfl, R, hrd, by rw [hstep]; exact Pend.more hI hsw hsl0 hrw, hne, hlrc, by rfl, by rfl⟩
          | true =>
            rw [hq] at hstep
            k_steps
            rename News _ _ _ _ => N4
            rename Fr _ _ _ _ => F5
            rename Obj.IsDictOf (PySem.strKind _ _) _ (strPairs _) => hd9
            rename (_ == sysModules) = false => lo9
            rename _ < _ ∧ lr < _ ∧ lc < _ ∧ AllLt _ _ => hl9
            rename lr < _ ∧ lc < _ ∧ AllLt _ _ => hd8
            rw [toArray_push, toArray_push] at N4
            exact LPost.intro F5 (me2 N4 hr9) (.cons cls_list (.cons cls_list (hrd.cons hd9).noIt)) ⟨_, _, _, _, _, _, _, _, rfl, R.snoc (j := .t true (cat ss) x) (fun _ h => .tail _ h) ⟨_, _, _, _, rfl, .head _, lo9, hd9⟩, hrd.cons hd9, by rw [hstep]; exact Pend.new hrw,
              (fun p hp => by
                rcases List.mem_cons.mp hp with rfl | hp
                · exact ⟨Ne.symm (Nat.ne_of_lt hd8.1), Nat.ne_of_lt hl9.1⟩
                · exact ⟨(hne p hp).1, Nat.ne_of_lt (of_allLt hl9.2.2.2 p (hr9 ▸ List.mem_append_left _ hp))⟩), hl9.2.1, by rfl, by rfl⟩
  · rintro m₁ news₁ h1 tk1 ⟨lr, lc, rvs, n, pend, k, js, rds, rfl, R, hrd, P, hne, hlrc, ht, ht2⟩ F2 N2
    rw [vals_len, List.take_length] at P
    have F3 := fr_name F2 ht2
    have F4 := fr_name (x := Str.ofString "result") F3 ((if_neg (by decide)).trans ht)
    have hr1 : ∀ p ∈ rds, p.1 ≠ lr := fun p hp => (hne p hp).1
    have hlen : js.length ≤ 12 := by
      have q3 := P.len
      have q4 := merged_len ts
      have q5 := W.1
      rw [tks_len] at q5
      omega
    have hrl : rvs.length ≤ 1000 := by have := R.1; omega
    clear F1 N1 F2 F3 hlt hlen
    generalize merged1 ts = all at P ret
    cases P with
    | none0 =>
      k_steps
      rename News _ _ _ _ => N4
      rename Fr _ _ _ _ => F5
      exact ret _ _ _ _ F5.keep ⟨_, News.get N4 (.head _), rfl, n, rfl⟩ (R.bares F5 N4 (fun p hp => .tail _ (.tail _ hp)))
    | none =>
      k_steps
      rename News _ _ _ _ => N4
      rename Fr _ _ _ _ => F5
      exact ret _ _ _ _ F5.keep ⟨_, News.get N4 (.head _), rfl, n, rfl⟩ (R.bares F5 N4 (fun p hp => .tail _ (.tail _ hp)))
    | @some vs x t9 ss _ _ hI hsw hsl0 hx =>
      have hss : ∀ y ∈ ss, y.length ≤ 1000 := fun y hy => Nat.le_trans (words_len y (hsw y hy)) (by decide)
      have hsl : ss.length ≤ 1000 := by
        have q5 := W.1
        have q6 := vals_len ts
        rw [tks_len] at q5
        omega
      have hvl : vs.length ≤ 1000 := by have := hI.length; rw [List.length_append] at this; omega
      have hI' : StrsAre (vs ++ [Value.str x t9]).toArray.toList ss := hI
      k_steps
      rename News _ _ _ _ => N4
      rename Fr _ _ _ _ => F5
      rename Obj.IsDictOf (PySem.strKind _ _) _ (strPairs _) => hd9
      rename (_ == sysModules) = false => lo9
      rw [toArray_push] at N4
      exact ret _ _ _ _ F5.keep ⟨_, News.get N4 (.tail _ (.head _)), rfl, _, rfl⟩ ((R.snoc (j := .t true (cat ss) x) (rds' := _ :: rds) (fun _ h => .tail _ h) ⟨_, _, _, _, rfl, .head _, lo9, hd9⟩).bares F5 N4 (fun p hp => by
        rcases List.mem_cons.mp hp with rfl | hp
        · exact .head _
        · exact .tail _ (.tail _ (.tail _ hp))))
end

end
theorem TabL.apart {P l c : Nat} {qual : Str} {tabs : List (Addr × Obj)} (hT : TabL P l c qual tabs) : ∀ p ∈ tabs, ∃ vs, p.2.data = .fields vs := by
  cases hT with
  | none => intro p hp; rw [List.mem_singleton.mp hp]; exact ⟨_, rfl⟩
  | made hd hv =>
    intro p hp
    rcases List.mem_cons.mp hp with rfl | hp
    · exact ⟨_, rfl⟩
    · rw [List.mem_singleton.mp hp]; exact ⟨_, hd⟩
theorem TabL.first {P l c : Nat} {qual : Str} {tabs : List (Addr × Obj)} (hT : TabL P l c qual tabs) : ∃ o, (P, o) ∈ tabs := by
  cases hT with
  | none => exact ⟨_, .head _⟩
  | made => exact ⟨_, .head _⟩
section
variable {w : World} {A : Around} {E : Value → Shared → Prop} {s : Shared} {p : Program} {loose : List Str} {mean : ExcName → Option Value} {mg mb : Str → Option Value}
  {h₀ : Heap} {L : Addr} {m : Str → Option Value} {tabs rest : List (Addr × Obj)}
theorem tabs_get {P l c : Nat} {qual : Str} {a : Addr} {o : Obj} (hT : TabL P l c qual tabs) (N : ∀ p ∈ tabs, s.heap.get? p.1 = some p.2) (e : s.heap.get? a = some o) (hd : ∀ vs, o.data ≠ .fields vs) : (hideAll s.heap (tabs.map (·.1))).get? a = some o :=
  hideAll_get _ e fun q => by
    obtain ⟨p, hp, rfl⟩ := List.mem_map.mp q
    obtain ⟨vs, hv⟩ := hT.apart p hp
    have e2 := N p hp
    rw [e] at e2
    cases e2
    exact hd vs hv
theorem tabs_list {P l c : Nat} {qual : Str} {a : Addr} {its : Array Value} (hT : TabL P l c qual tabs) (N : ∀ p ∈ tabs, s.heap.get? p.1 = some p.2) (hl : s.heap.IsList a its) : (hideAll s.heap (tabs.map (·.1))).IsList a its := by
  obtain ⟨o, e, hc, n, hd⟩ := hl
  exact ⟨o, tabs_get hT N e (by rw [hd]; exact nofun), hc, n, hd⟩
theorem tabs_toks {P l c : Nat} {qual : Str} {ts : List (Value × Tk)} (hT : TabL P l c qual tabs) (N : ∀ p ∈ tabs, s.heap.get? p.1 = some p.2) (H : Toks w s.heap ts) : Toks w (hideAll s.heap (tabs.map (·.1))) ts := fun p hp => by
  obtain ⟨a, kvs, e, D, I⟩ := H p hp
  obtain ⟨o, ho, es, ep, hx, hd, r⟩ := Heap.dictOf_iff.mp D.2
  exact ⟨a, kvs, e, ⟨D.1, Heap.dictOf_iff.mpr ⟨o, tabs_get hT N ho (by rw [hd]; exact nofun), es, ep, hx, hd, r⟩⟩, I⟩
/-- a call that may turn the table and nothing else: what stays -/
theorem tabs_after {P l c : Nat} {qual : Str} {tabs' born : List (Addr × Obj)} {h' : Heap} (F : Fr h₀ L s.heap m) (N : News h₀ L s.heap (tabs ++ rest)) (hT : TabL P l c qual tabs) (hr : ∀ p ∈ rest, p.1 ≠ P)
    (k : (hideAll s.heap (tabs.map (·.1))).StaysIn h') (hm : ∀ p ∈ tabs, p.1 ≠ P → p ∈ tabs') (hb : Born (hideAll s.heap (tabs.map (·.1))) h' (tabs' ++ born)) : Fr h₀ L h' m ∧ News h₀ L h' (tabs' ++ born ++ rest) := by
  have Nt : ∀ p ∈ tabs, s.heap.get? p.1 = some p.2 := fun p hp => (N p (List.mem_append_left _ hp)).1
  have st : h₀.StaysIn (hideAll s.heap (tabs.map (·.1))) := fun b o e => hideAll_get _ (F.keep b o e) fun q => by
    obtain ⟨p, hp, e2⟩ := List.mem_map.mp q
    have := (N p (List.mem_append_left _ hp)).2.2
    rw [e2, e] at this; cases this
  have hL : ∀ oL, s.heap.get? L = some oL → (hideAll s.heap (tabs.map (·.1))).get? L = some oL := fun oL eL => hideAll_get _ eL fun q => by
    obtain ⟨p, hp, e2⟩ := List.mem_map.mp q
    exact (N p (List.mem_append_left _ hp)).2.1 e2
  refine ⟨⟨F.ns.at' fun oL eL => k _ _ (hL oL eL), fun b o e => k _ _ (st b o e), F.above⟩, fun p hp => ?_⟩
  rcases List.mem_append.mp hp with hp | hp
  · refine ⟨(hb p hp).1, fun q => ?_, ?_⟩
    · obtain ⟨oL, _, _, eL, _⟩ := F.ns
      have := (hb p hp).2
      rw [q, hL oL eL] at this; cases this
    · cases e : h₀.get? p.1 with
      | none => rfl
      | some o => have := (hb p hp).2; rw [st _ _ e] at this; cases this
  · have Np := N p (List.mem_append_right _ hp)
    refine ⟨?_, Np.2⟩
    by_cases q : p.1 ∈ tabs.map (·.1)
    · obtain ⟨q0, hq, e2⟩ := List.mem_map.mp q
      have e3 : q0.2 = p.2 := news_eq N (List.mem_append_left _ hq) (List.mem_append_right _ (by rw [e2]; exact hp : (q0.1, p.2) ∈ rest))
      have e4 := hm q0 hq (by rw [e2]; exact hr p hp)
      have := (hb q0 (List.mem_append_left _ e4)).1
      rw [e2, e3] at this
      exact this
    · exact k _ _ (hideAll_get _ Np.1 q)
theorem use_coalesce {Q : Value → Shared → Prop} {l : Addr} {ts : List (Value × Tk)} (hA : Ok A 2) (X : (hd.heap_39 w.params).In h₀) (T : Top p loose mean mg mb h₀) (C : CodeHd h₀ 177 173)
    (F : Fr h₀ L s.heap m) (N : News h₀ L s.heap (tabs ++ rest)) (hT : TabL 173 flushLine flushCol flushQual tabs) (hr : ∀ p ∈ rest, p.1 ≠ 173) (hl : s.heap.IsList l (vals ts).toArray) (H : Toks w s.heap ts) (W : WordTks (tks ts))
    (ret : ∀ r rvs n rds tabs' h' tk, Fr h₀ L h' m → TabL 173 flushLine flushCol flushQual tabs' → (∀ p ∈ tabs, p.1 ≠ 173 → p ∈ tabs') → News h₀ L h' (tabs' ++ ((r, listOf rvs.toArray n) :: rds) ++ rest) → RowsIn w rds rvs (joined ts) → Q (.ref r) { s with heap := h', toks := tk }) :
    wpAny (model PR w) A (call (.ref 178) [.ref l]) Q E s := by
  have Nt : ∀ p ∈ tabs, s.heap.get? p.1 = some p.2 := fun p hp => (N p (List.mem_append_left _ hp)).1
  have st : h₀.StaysIn (hideAll s.heap (tabs.map (·.1))) := fun b o e => hideAll_get _ (F.keep b o e) fun q => by
    obtain ⟨p, hp, e2⟩ := List.mem_map.mp q
    have := (N p (List.mem_append_left _ hp)).2.2
    rw [e2, e] at this; cases this
  refine spec_coalesce hA (X.keeps st) (T.keeps st) (C.keeps st) (fun b o e => of_hideAll _ e) (Nat.le_of_eq (hideAll_size _ _)) (fun p hp => ⟨Nt p hp, hideAll_none _ (List.mem_map_of_mem hp)⟩) hT (tabs_list hT Nt hl) (tabs_toks hT Nt H) W
    fun r rvs n rds tabs' h' tk k hT' hm hb R => ?_
  obtain ⟨F', N'⟩ := tabs_after (born := (r, listOf rvs.toArray n) :: rds) F N hT hr k hm (fun p hp => hb p (by
    rcases List.mem_append.mp hp with q | q
    · exact .tail _ (List.mem_append_left _ q)
    · rcases List.mem_cons.mp q with q | q
      · rw [q]; exact .head _
      · exact .tail _ (List.mem_append_right _ q)))
  exact ret r rvs n rds tabs' h' tk F' hT' hm N' R
end

theorem jtext_mem {P : J1 → Prop} {out : List J1} {live : Bool} {raw : Str} (ht : ∀ live raw en, P (.t live raw en)) (h : ∀ j ∈ out, P j) : ∀ j ∈ jtext out live raw, P j := by
  intro j hj
  unfold jtext at hj
  split at hj
  · split at hj
    · rcases List.mem_append.mp hj with q | q
      · exact h j (List.dropLast_subset _ q)
      · rw [List.mem_singleton.mp q]; exact ht _ _ _
    · rcases List.mem_append.mp hj with q | q
      · exact h j q
      · rw [List.mem_singleton.mp q]; exact ht _ _ _
  · rcases List.mem_append.mp hj with q | q
    · exact h j q
    · rw [List.mem_singleton.mp q]; exact ht _ _ _
theorem joined_all {P : J1 → Prop} (ts : List (Value × Tk)) (ht : ∀ live raw en, P (.t live raw en)) (ho : ∀ p ∈ ts, ∀ ty rest, p.2 = .obj ty rest → P (.o p.1)) : ∀ j ∈ joined ts, P j := by
  have aux : ∀ (l : List (Value × Tk)) (out : List J1), (∀ j ∈ out, P j) → (∀ p ∈ l, ∀ ty rest, p.2 = .obj ty rest → P (.o p.1)) → ∀ j ∈ l.foldl jstep out, P j := by
    intro l
    induction l with
    | nil => intro out h1 _; exact h1
    | cons p r ih =>
      intro out h1 h2
      rw [List.foldl_cons]
      refine ih _ ?_ fun q hq => h2 q (.tail _ hq)
      unfold jstep
      cases e : p.2 with
      | text md raw => exact jtext_mem ht h1
      | obj ty rest =>
        intro j hj
        rcases List.mem_append.mp hj with q | q
        · exact h1 j q
        · rw [List.mem_singleton.mp q]; exact h2 p (.head _) ty rest e
  exact aux ts [] (fun _ h => nomatch h) ho
def jm : J1 → Bool
  | .t live raw _ => live && mk raw
  | .o _ => false
theorem mk_append (a b : Str) : mk (a ++ b) = (mk a || mk b) := by
  unfold mk
  have h1 : (a ++ b).cps.toList = a.cps.toList ++ b.cps.toList := by
    show (a.cps ++ b.cps).toList = _
    simp
  rw [h1, List.any_append]
theorem jtext_any (out : List J1) (live : Bool) (raw : Str) : (jtext out live raw).any jm = (out.any jm || (live && mk raw)) := by
  rcases List.eq_nil_or_concat out with rfl | ⟨l, x, rfl⟩
  · simp [jtext_nil, jm]
  · cases x with
    | o v => rw [List.concat_eq_append, jtext_o]; simp [jm]
    | t lv rw en =>
      rw [List.concat_eq_append, jtext_t]
      split
      · rename_i h
        have e : lv = live := by
          have := (Bool.and_eq_true _ _ ▸ h).1
          exact eq_of_beq this
        subst e
        simp only [List.any_append, List.any_cons, List.any_nil, jm, mk_append, Bool.or_false]
        cases lv <;> simp [Bool.or_assoc]
      · simp [jm, Bool.or_assoc]
theorem joined_any (ts : List (Value × Tk)) : (joined ts).any jm = markedOf (tks ts) := by
  have aux : ∀ (l : List (Value × Tk)) (out : List J1), (l.foldl jstep out).any jm = (out.any jm || markedOf (tks l)) := by
    intro l
    induction l with
    | nil => intro out; simp [markedOf, tks]
    | cons p r ih =>
      intro out
      rw [List.foldl_cons, ih]
      have h1 : (jstep out p).any jm = (out.any jm || tkMk p.2) := by
        unfold jstep
        cases e : p.2 with
        | text md raw => rw [jtext_any]; rfl
        | obj ty rest => simp [jm, tkMk]
      rw [h1, Bool.or_assoc]
      rfl
  have := aux ts []
  simpa [joined] using this
theorem choose_tks {P : Value → J1 → Prop} {Q : Value → J1 → Tk → Prop} (hPQ : ∀ v j, P v j → ∃ tk, Q v j tk) : ∀ (rvs : List Value) (js : List J1), rvs.length = js.length →
    (∀ (i : Nat) (v : Value), rvs[i]? = some v → ∃ j : J1, js[i]? = some j ∧ P v j) → ∃ ts' : List (Value × Tk), vals ts' = rvs ∧ ∀ (i : Nat) (v : Value) (tk : Tk), ts'[i]? = some (v, tk) → ∃ j : J1, js[i]? = some j ∧ Q v j tk
  | [], _, _, _ => ⟨[], rfl, by simp⟩
  | v :: r, [], h, _ => by simp at h
  | v :: r, j :: js, h, hp => by
    obtain ⟨j', hj, q⟩ := hp 0 v rfl
    simp only [List.getElem?_cons_zero, Option.some.injEq] at hj
    subst hj
    obtain ⟨tk, hq⟩ := hPQ v _ q
    obtain ⟨ts', e, k⟩ := choose_tks hPQ r js (by simpa using h) (fun i u hu => by simpa using hp (i + 1) u (by simpa using hu))
    refine ⟨(v, tk) :: ts', by rw [← e]; rfl, fun i u t hi => ?_⟩
    cases i with
    | zero =>
      simp only [List.getElem?_cons_zero, Option.some.injEq, Prod.mk.injEq] at hi
      obtain ⟨rfl, rfl⟩ := hi
      exact ⟨_, rfl, hq⟩
    | succ i => simpa using k i u t (by simpa using hi)
theorem strip_text {kvs : List (Str × Value)} {md : Option Bool} {raw : Str} (I : TkIs kvs (.text md raw)) : ∃ t1 t2, strip kvs = twoKvs t1 t2 raw := by
  cases I
  · exact ⟨_, _, by rfl⟩
  · exact ⟨_, _, by rfl⟩
/-- a token that stands in the ground or in the ledger -/
def TokIn (w : World) (h₀ : Heap) (bs : List (Addr × Obj)) (v : Value) (tk : Tk) : Prop := TokAt w h₀ v tk ∨ ∃ a o kvs, v = .ref a ∧ (a, o) ∈ bs ∧ (a == sysModules) = false ∧ o.IsDictOf (PySem.strKind PR w) kvs ∧ TkIs kvs tk
theorem TokIn.at {w : World} {h₀ h : Heap} {L : Addr} {m : Str → Option Value} {bs news : List (Addr × Obj)} {v : Value} {tk : Tk} (x : TokIn w h₀ bs v tk) (F : Fr h₀ L h m) (N : News h₀ L h news) (hs : ∀ p ∈ bs, p ∈ news) : TokAt w h v tk := by
  rcases x with x | ⟨a, o, kvs, e, hm, lo, hd, I⟩
  · exact x.keeps F.keep
  · exact ⟨a, kvs, e, DictAt.news N (hs _ hm) lo hd, I⟩
/-- what a row's thing is, as a token -/
def JTk (w : World) (h₀ : Heap) (bs : List (Addr × Obj)) (v : Value) : J1 → Tk → Prop
  | .t live raw _, tk => TokIn w h₀ bs v tk ∧ ∃ md, tk = .text md raw ∧ md.getD true = live
  | .o u, tk => v = u ∧ TokAt w h₀ v tk ∧ ∃ ty rest, tk = .obj ty rest
def CoalOk (w : World) (h₀ : Heap) (bs : List (Addr × Obj)) (ts ts' : List (Value × Tk)) : Prop := ts'.length = (joined ts).length ∧ ∀ (i : Nat) (v : Value) (tk : Tk), ts'[i]? = some (v, tk) → ∃ j : J1, (joined ts)[i]? = some j ∧ JTk w h₀ bs v j tk
theorem coal_rows {w : World} {h₀ : Heap} {rds : List (Addr × Obj)} {rvs : List Value} {ts : List (Value × Tk)} (R : RowsIn w rds rvs (joined ts)) (H : Toks w h₀ ts) :
    ∃ ts' : List (Value × Tk), vals ts' = rvs ∧ CoalOk w h₀ rds ts ts' := by
  obtain ⟨ts', e, k⟩ := choose_tks (P := fun v j => RowIn w rds v j ∧ match j with | .t .. => True | .o u => ∃ ty rest, TokAt w h₀ u (.obj ty rest)) (Q := JTk w h₀ rds) (fun v j hp => by
    cases j with
    | t live raw en =>
      obtain ⟨⟨b, o, kvs, e, hm, lo, hd, I⟩, _⟩ := hp
      exact ⟨_, .inr ⟨b, o, kvs, e, hm, lo, hd, I⟩, _, rfl, by cases live <;> rfl⟩
    | o u =>
      obtain ⟨e, ty, rest, q⟩ := hp
      have e1 : v = u := e
      exact ⟨_, e1, by rw [e1]; exact q, ty, rest, rfl⟩) rvs (joined ts) R.1 (fun i v e => by
    obtain ⟨j, hj, q⟩ := R.2 i v e
    refine ⟨j, hj, q, ?_⟩
    exact joined_all (P := fun j => match j with | .t .. => True | .o u => ∃ ty rest, TokAt w h₀ u (.obj ty rest)) ts (fun _ _ _ => trivial) (fun p hp ty rest e => by
      have := H p hp
      rw [e] at this
      exact ⟨ty, rest, this⟩) j (List.mem_of_getElem? hj))
  exact ⟨ts', e, by rw [← vals_len, e]; exact R.1, k⟩
theorem coal_self {w : World} {h₀ : Heap} {bs : List (Addr × Obj)} {ts : List (Value × Tk)} (hl : ts.length ≤ 1) (H : Toks w h₀ ts) : CoalOk w h₀ bs ts ts := by
  cases ts with
  | nil => exact ⟨rfl, fun i v tk e => by simp at e⟩
  | cons p r =>
    cases r with
    | cons q r => simp at hl
    | nil =>
      obtain ⟨v, tk⟩ := p
      have hp := H (v, tk) (.head _)
      have e1 : joined [(v, tk)] = jstep [] (v, tk) := rfl
      cases tk with
      | obj ty rest =>
        refine ⟨rfl, fun i u tk e => ?_⟩
        cases i with
        | succ i => simp at e
        | zero =>
          simp only [List.getElem?_cons_zero, Option.some.injEq, Prod.mk.injEq] at e
          obtain ⟨rfl, rfl⟩ := e
          exact ⟨.o v, rfl, rfl, hp, ty, rest, rfl⟩
      | text md raw =>
        refine ⟨rfl, fun i u tk e => ?_⟩
        cases i with
        | succ i => simp at e
        | zero =>
          simp only [List.getElem?_cons_zero, Option.some.injEq, Prod.mk.injEq] at e
          obtain ⟨rfl, rfl⟩ := e
          exact ⟨.t (md.getD true) raw raw, rfl, .inl hp, md, rfl, rfl⟩
theorem JTk.tok {w : World} {h₀ : Heap} {bs : List (Addr × Obj)} {v : Value} {j : J1} {tk : Tk} (x : JTk w h₀ bs v j tk)   : TokIn w h₀ bs v tk := by
  cases j with
  | t => exact x.1
  | o u => exact .inl x.2.1
theorem CoalOk.toks {w : World} {h₀ h : Heap} {L : Addr} {m : Str → Option Value} {news : List (Addr × Obj)} {bs : List (Addr × Obj)} {ts ts' : List (Value × Tk)} (x : CoalOk w h₀ bs ts ts') (F : Fr h₀ L h m) (N : News h₀ L h news) (hs : ∀ p ∈ bs, p ∈ news) : Toks w h ts' := fun p hp => by
  obtain ⟨i, hi⟩ := List.mem_iff_getElem?.mp hp
  obtain ⟨j, _, q⟩ := x.2 i p.1 p.2 hi
  exact q.tok.at F N hs
theorem CoalOk.marked {w : World} {h₀ : Heap} {bs : List (Addr × Obj)} {ts ts' : List (Value × Tk)} (x : CoalOk w h₀ bs ts ts') (hm : markedOf (tks ts) = false) : markedOf (tks ts') = false := by
  cases e : markedOf (tks ts') with
  | false => rfl
  | true =>
    exfalso
    obtain ⟨tk, htk, h1⟩ := List.any_eq_true.mp e
    obtain ⟨p, hp, rfl⟩ := List.mem_map.mp htk
    obtain ⟨i, hi⟩ := List.mem_iff_getElem?.mp hp
    obtain ⟨j, hj, q⟩ := x.2 i p.1 p.2 hi
    have h2 : jm j = true := by
      cases j with
      | t live raw en =>
        obtain ⟨_, md, e1, e2⟩ := q
        rw [e1] at h1
        rw [← e2]
        exact h1
      | o u =>
        obtain ⟨_, _, ty, rest, e1⟩ := q
        rw [e1] at h1
        cases h1
    rw [← joined_any] at hm
    have := List.any_eq_true.mpr ⟨j, List.mem_of_getElem? hj, h2⟩
    rw [hm] at this
    cases this
theorem piece_obj (ty : Str) (rest : List (Str × Value)) : (piece (.obj ty rest)).length ≤ 16 := by
  show (if _ then _ else _ : Str).length ≤ 16
  split <;> decide +kernel
theorem CoalOk.small {w : World} {h₀ : Heap} {bs : List (Addr × Obj)} {ts ts' : List (Value × Tk)} (x : CoalOk w h₀ bs ts ts') (W : WordTks (tks ts)) : ∀ tk ∈ tks ts', (piece tk).length ≤ 1000 := by
  intro tk htk
  obtain ⟨p, hp, rfl⟩ := List.mem_map.mp htk
  obtain ⟨i, hi⟩ := List.mem_iff_getElem?.mp hp
  obtain ⟨j, hj, q⟩ := x.2 i p.1 p.2 hi
  have hok := joined_ok ts (fun q hq => W.2 _ (List.mem_map.mpr ⟨q, hq, rfl⟩)) j (List.mem_of_getElem? hj)
  have hl := W.1
  rw [tks_len] at hl
  cases j with
  | t live raw en =>
    obtain ⟨_, md, e1, _⟩ := q
    rw [e1]
    have h2 := hok.1
    show raw.length ≤ 1000
    omega
  | o u =>
    obtain ⟨_, _, ty, rest, e1⟩ := q
    rw [e1]
    have := piece_obj ty rest
    omega
theorem CoalOk.len {w : World} {h₀ : Heap} {bs : List (Addr × Obj)} {ts ts' : List (Value × Tk)} (x : CoalOk w h₀ bs ts ts') (W : WordTks (tks ts)) : ts'.length ≤ 12 := by
  have h1 := joined_len ts
  have h2 := W.1
  rw [tks_len] at h2
  rw [x.1]
  omega

section
variable {prog : Program} {w : World} {A : Around} {E : Value → Shared → Prop} {s : Shared} {h₀ : Heap} {L : Addr} {m : Str → Option Value} {env : Env}
theorem rest_ind {elt : Expr} {x : Str} {scope : Scope} {cl : List (Str × Addr)} {S : List (Addr × Obj) → Prop} {P : Nat → Value → Prop} {Fin : List Value → List (Addr × Obj) → Prop} {n : Nat} (Inv : Nat → List Value → List (Addr × Obj) → Prop)
    (turn : ∀ i ys news, Inv i ys news → ∀ v I oI C oC D m₂ h tk (E' : Value → Shared → Prop), P i v → LCg.NsObj oC m₂ → m₂ x = some v → Fr h₀ L h m → News h₀ L h ((I, oI) :: (C, oC) :: (D, LCg.lst ys) :: news) → LCg.Off3 I C D news → ((@Ne Nat I C) ∧ (@Ne Nat I D) ∧ (@Ne Nat C D)) →
      wpAny (model prog w) A (eval elt (compEnvC scope cl C env)) (LCg.CompEnd h₀ L m { s with heap := h, toks := tk } I oI C oC D (LCg.lst ys) S (fun y news' => Inv (i + 1) (ys ++ [y]) news')) E' { s with heap := h, toks := tk })
    (fin : ∀ ys news, Inv n ys news → Fin ys news) : ∀ (k i : Nat) (ys : List Value) (news : List (Addr × Obj)), i + k = n → Inv i ys news → LCg.CompRest prog w A h₀ L m env elt x scope cl s S P Fin k i ys news
  | 0, i, ys, news, e, hi => LCg.CompRest.zero (fin ys news (by
      have : i = n := by omega
      rw [← this]; exact hi))
  | k + 1, i, ys, news, e, hi => LCg.CompRest.succ fun v I oI C oC D m₂ h tk E' hP hC hx F N off ne =>
      wpAny_mono (turn i ys news hi v I oI C oC D m₂ h tk E' hP hC hx F N off ne) (fun y s₂ ⟨h', tk', news', e1, F', N', off', hS, hr⟩ => ⟨h', tk', news', e1, F', N', off', hS, rest_ind Inv turn fin k (i + 1) (ys ++ [y]) news' (by omega) hr⟩) fun _ _ z => z
end
/-- what a cleaned thing is, by the ledger -/
def BareIn (w : World) (h₀ : Heap) (bs : List (Addr × Obj)) (v : Value) : J1 → Prop
  | .t _ raw _ => ∃ b t1 t2, v = .ref b ∧ (DictAt w h₀ b (twoKvs t1 t2 raw) ∨ ∃ o, (b, o) ∈ bs ∧ (b == sysModules) = false ∧ o.IsDictOf (PySem.strKind PR w) (twoKvs t1 t2 raw))
  | .o u => ∃ a b kvs, u = .ref a ∧ v = .ref b ∧ DictAt w h₀ a kvs ∧ (DictAt w h₀ b (strip kvs) ∨ ∃ o, (b, o) ∈ bs ∧ (b == sysModules) = false ∧ o.IsDictOf (PySem.strKind PR w) (strip kvs))
theorem BareIn.mono {w : World} {h₀ : Heap} {ds ds' : List (Addr × Obj)} {v : Value} (hs : ∀ p ∈ ds, p ∈ ds') : ∀ {j : J1}, BareIn w h₀ ds v j → BareIn w h₀ ds' v j
  | .t .., ⟨b, t1, t2, e, .inl q⟩ => ⟨b, t1, t2, e, .inl q⟩
  | .t .., ⟨b, t1, t2, e, .inr ⟨o, hm, r⟩⟩ => ⟨b, t1, t2, e, .inr ⟨o, hs _ hm, r⟩⟩
  | .o _, ⟨a, b, kvs, e, e2, D, .inl q⟩ => ⟨a, b, kvs, e, e2, D, .inl q⟩
  | .o _, ⟨a, b, kvs, e, e2, D, .inr ⟨o, hm, r⟩⟩ => ⟨a, b, kvs, e, e2, D, .inr ⟨o, hs _ hm, r⟩⟩
theorem BareIn.at {w : World} {h₀ h : Heap} {L : Addr} {m : Str → Option Value} {bs news : List (Addr × Obj)} {v : Value} (F : Fr h₀ L h m) (N : News h₀ L h news) (hs : ∀ p ∈ bs, p ∈ news) : ∀ {j : J1}, BareIn w h₀ bs v j → BareAt w h₀ h v j
  | .t .., ⟨b, t1, t2, e, .inl q⟩ => ⟨b, t1, t2, e, DictAt.fr F q⟩
  | .t .., ⟨b, t1, t2, e, .inr ⟨_, hm, lo, hd⟩⟩ => ⟨b, t1, t2, e, DictAt.news N (hs _ hm) lo hd⟩
  | .o _, ⟨a, b, kvs, e, e2, D, .inl q⟩ => ⟨a, b, kvs, e, e2, D, DictAt.fr F q⟩
  | .o _, ⟨a, b, kvs, e, e2, D, .inr ⟨_, hm, lo, hd⟩⟩ => ⟨a, b, kvs, e, e2, D, DictAt.news N (hs _ hm) lo hd⟩
def BaresIn (w : World) (h₀ : Heap) (bs : List (Addr × Obj)) (ys : List Value) (js : List J1) : Prop := ∀ (i : Nat) (v : Value), ys[i]? = some v → ∃ j : J1, js[i]? = some j ∧ BareIn w h₀ bs v j
theorem BaresIn.snoc {w : World} {h₀ : Heap} {bs bs' : List (Addr × Obj)} {ys : List Value} {js : List J1} {v : Value} {j : J1} (R : BaresIn w h₀ bs ys js) (hs : ∀ p ∈ bs, p ∈ bs') (hj : js[ys.length]? = some j) (h : BareIn w h₀ bs' v j) : BaresIn w h₀ bs' (ys ++ [v]) js := fun i u e => by
  rcases get_snoc e with ⟨_, e⟩ | ⟨hi, rfl⟩
  · obtain ⟨k, hk, q⟩ := R i u e
    exact ⟨k, hk, q.mono hs⟩
  · exact ⟨j, by rw [hi]; exact hj, h⟩

theorem anew23 : True ∧ True := by
  w_top off
  first | (walk1 <;> trivial) | exact ⟨trivial, trivial⟩
section
local macro_rules | `(tactic| walk_at "m ok") => `(tactic| (first
  | assumption
  | exact Ok.mono (by assumption) (by decide)
  | exact Ok.mono (Ok.deeper (by assumption) _) (by decide)
  | exact Ok.mono (Ok.in1 (Ok.deeper (by assumption) _)) (by decide)
  | exact Ok.mono (Ok.in1 (by assumption)) (by decide)))
local macro_rules | `(tactic| walk_at "m room") => `(tactic| exact Ok.room (by assumption))
local macro_rules | `(tactic| walk_at "m dict") => `(tactic| (first
  | exact DictAt.fr (by k_asm) (by k_asm)
  | exact DictAt.news (by k_asm) (by k_mem) (by k_asm) (by k_asm)))
local macro_rules | `(tactic| walk_at "getMethod ref") => `(tactic| (k_here; k_dflt (first
  | ((with_reducible show wpAny _ _ (getMethod (Value.ref _) (Str.ofString "get") _) _ _ _); refine meth_at PySem.F.slot_dict_get PySem.F.type_dict_get (by walk_at "m dict") ?_)
  | ((with_reducible show wpAny _ _ (getMethod (Value.ref _) (Str.ofString "copy") _) _ _ _); refine meth_at PySem.F.slot_dict_copy PySem.F.type_dict_copy (by walk_at "m dict") ?_)
  | ((with_reducible show wpAny _ _ (getMethod (Value.ref _) (Str.ofString "pop") _) _ _ _); refine meth_at PySem.F.slot_dict_pop PySem.F.type_dict_pop (by walk_at "m dict") ?_))))
local macro_rules | `(tactic| walk_at "call builtin:dict.get") => `(tactic| (k_here; k_dflt (refine' get2_at (by walk_at "m dict") ?v ?_; (case v => first | assumption | with_unfolding_all exact Eq.refl (Value.bool _) | rfl); k_whole)))
local macro_rules | `(tactic| walk_at "subscriptTail") => `(tactic| (k_here; (with_reducible show wpAny _ _ (subscriptTail _ _ (Value.ref _) (Value.str _ _)) _ _ _); k_dflt (refine' item_at (by walk_at "m dict") ?v ?_ ?hs; (case v => first | assumption | rfl); (case hs => with_unfolding_all rfl); k_whole)))
local macro_rules | `(tactic| walk_at "exec For") => `(tactic| (k_here; k_dflt (refine For_m (by k_asm) (by rfl) (by rfl) ?_ (by intro _; rfl) PassesOwn.never)))
local macro_rules | `(tactic| k_all) => `(tactic| assumption)
local macro_rules | `(tactic| walk_at "m sub") => `(tactic| (intro p9 hp9; simp only [List.mem_append, List.mem_cons, List.not_mem_nil, or_false, false_or] at hp9 ⊢; grind))
local macro_rules | `(tactic| walk_at "callWith") => `(tactic| ((with_reducible show wpAny _ _ (callWith _ (Value.builtin _) [_] (backTo _ (starEach (_ :: _) _)) []) _ _ _); refine callWith_method1 ?_))

local macro_rules | `(tactic| walk_at "Exists") => `(tactic| (k_here; (refine made_m (by k_asm) (by first | k_asm | exact News.nil) (Top.nolimit (by k_asm)) (by rfl) (of_decide_eq_true (by rfl)) ?_; intro h' o' F' N' l1 lo' hd'; (try k_lt l1); (try dsimp only at N'); (try dsimp only))))
local macro_rules | `(tactic| walk_at "call ref") => `(tactic| (k_here; (with_reducible show wpAny _ _ (call (Value.ref 332) _) _ _ _); k_dflt (refine' use_words ?kA ?kX ?kT ?kF ?kN ?_; (case kA => walk_at "m ok"); (case kX => k_asm); (case kT => k_asm); (case kF => k_asm); (case kN => k_asm); k_whole); intro r' h' tk' n' vs' W' F' N' l1; (try (replace l1 := allNe_of l1; simp only [AllNe, and_true] at l1)); (try k_sweep)))
local macro_rules | `(tactic| walk_at "call ref") => `(tactic| (k_here; (with_reducible show wpAny _ _ (call (Value.ref 339) _) _ _ _); k_dflt (refine' use_draw ?kA ?kX ?kT ?kF ?kN ?kU ?kS ?kI ?kL ?k0 ?k1 ?k2 ?k3 ?_; (case kA => walk_at "m ok"); (case kX => k_asm); (case kT => k_asm); (case kF => k_asm); (case kN => k_asm); (case kU => k_updF); (case kS => assumption); (case kI => assumption); (case kL => first | assumption | omega); (case k0 => first | decide | assumption); (case k1 => first | decide | assumption); (case k2 => decide); (case k3 => decide); k_whole); intro k' t' pl' acc' tp' ta' h' tk' k0' k1' a0' a1' F' N'; (try dsimp only at N'); (try k_sweep)))
local macro_rules | `(tactic| walk_at "subscriptTail") => `(tactic| (k_here; (with_reducible show wpAny _ _ (subscriptTail _ _ (Value.ref _) (Value.int _ _)) _ _ _); k_dflt (refine' item_words ?kN ?kM ?kW ?k0 ?k1 ?_ ?kS; (case kW => assumption); (case kN => k_asm); (case kM => k_mem); (case k0 => assumption); (case k1 => assumption); (case kS => with_unfolding_all rfl)); intro x' t' hx'))

local macro_rules | `(tactic| walk_at "call ref") => `(tactic| (k_here; (with_reducible show wpAny _ _ (call (Value.ref 367) _) _ _ _); k_dflt (refine' use_live ?kA ?kX ?kT ?kF ?kN ?kD ?kv ?_; (case kA => walk_at "m ok"); (case kX => k_asm); (case kT => k_asm); (case kF => k_asm); (case kN => k_asm); (case kD => walk_at "m dict"); (case kv => first | assumption | rfl); k_whole); intro h' tk' F' N'; (try k_sweep)))

local macro_rules | `(tactic| walk_at "call builtin:str.join") => `(tactic| (k_here; k_dflt (refine' join_m ?N ?M ?I ?S ?n ?_; (case N => k_asm); (case M => k_mem); (case I => assumption); (case S => assumption); (case n => assumption); k_whole); intro t' k'))

local macro_rules | `(tactic| walk_at "call ref") => `(tactic| (k_here; (with_reducible show wpAny _ _ (call (Value.ref 360) _) _ _ _); k_dflt (refine use_apart (by walk_at "m ok") (by k_asm) (by k_asm) (by k_asm) (by k_asm) (by assumption) (by assumption) ?_); intro h' tk' F' N'; (try k_sweep)))
local macro_rules | `(tactic| walk_at "truthy ref") => `(tactic| (k_here; k_dflt (refine' truthy_snoc ?N ?m ?l ?_; (case N => k_asm); (case m => k_mem); (case l => assumption); k_whole)))
local macro_rules | `(tactic| walk_at "subscriptTail Name UnaryOp ref int") => `(tactic| (k_here; k_dflt (refine' last_snoc ?N ?m ?_ ?s; (case N => k_asm); (case m => k_mem); (case s => with_unfolding_all rfl); k_whole)))
local macro_rules | `(tactic| walk_at "setItem ref str") => `(tactic| (k_here; k_dflt (refine' kda_set (knd := PySem.strKind _ _) ?F ?N ?U ?d (strKind_is _ _ _ _) ?z ?_; (case F => k_asm); (case N => k_asm); (case U => k_updF); (case d => k_asm); (case z => first | assumption | exact Nat.le_of_ble_eq_true (by with_unfolding_all rfl))); intro h' o' F' N' hd'; (try dsimp only at N')))
local macro_rules | `(tactic| walk_at "m dict") => `(tactic| (first
  | exact DictAt.fr (by k_asm) (by k_asm)
  | exact DictAt.news (by k_asm) (by k_mem) (by k_asm) (by k_asm)
  | exact DictAt.news (by k_asm) (.tail _ (by assumption)) (by assumption) (by assumption)
  | exact DictAt.news (by k_asm) (.tail _ (.tail _ (by assumption))) (by assumption) (by assumption)
  | exact DictAt.news (by k_asm) (by assumption) (by assumption) (by assumption)))

local macro_rules | `(tactic| walk_at "call ref") => `(tactic| (k_here; (with_reducible show wpAny _ _ (call (Value.ref 381) _) _ _ _); k_dflt (refine' use_bare ?kA ?kX ?kT ?kF ?kN ?kD ?kz ?_; (case kA => walk_at "m ok"); (case kX => k_asm); (case kT => k_asm); (case kF => k_asm); (case kN => k_asm); (case kD => walk_at "m dict"); (case kz => assumption); k_whole); intro b' o' h' tk' F' N' l1' lo' hd'; (have l2' : @Ne Nat _ _ := l1' _ (.head _)); (try dsimp only at l2'); (try k_sweep)))

local macro_rules | `(tactic| walk_at "call ref") => `(tactic| (k_here; (with_reducible show wpAny _ _ (call (Value.ref 55) _) _ _ _); k_dflt (refine use_boundary (by walk_at "m ok") (by k_asm) (by k_asm) (by k_asm) (by k_asm) (by assumption) (by assumption) ?_); intro h' tk' F' N'; (try k_sweep)))
local macro_rules | `(tactic| walk_at "callWith ref") => `(tactic| (k_here; (with_reducible show wpAny _ _ (callWith _ (Value.ref _) [] (backTo _ (starEach [] _)) []) _ _ _); k_dflt (refine' callWith_F0 (FnAt.of2 (by assumption) (by k_asm) (by k_mem)) ?_; k_whole; try dsimp only [List.nil_append, List.cons_append])))
local macro_rules | `(tactic| walk_at "call ref") => `(tactic| (k_here; (with_reducible show wpAny _ _ (call (Value.ref _) []) _ _ _); k_dflt (first
  | (refine' Flush0.use (by assumption) (by walk_at "m ok") (by k_asm) (by k_asm) ?_; intro h' tk' F' N'; (try dsimp only [lay] at N'); (try k_sweep))
  | (refine' Flush1.use (by assumption) ?kA ?kF ?kN ?kd ?kI ?ks ?kl ?kr ?k1 ?k2 ?_; (case kA => walk_at "m ok"); (case kF => k_asm); (case kN => k_asm); (case kd => assumption); (case kI => assumption); (case ks => assumption); (case kl => assumption); (case kr => assumption); (case k1 => assumption); (case k2 => assumption); intro d' od' kvs' n' k' h' tk' F' N' z1' z2' z3' z4' lo' hd' hk'; (replace z1' := NeH.intro z1'); (replace z2' := NeH.intro z2'); (replace z3' := NeH.intro z3'); (try dsimp only [lay] at N'); (try k_sweep)))))
local macro_rules | `(tactic| walk_at "ite") => `(tactic| (k_here; first | (with_reducible refine ite_pos rfl ?_) | (with_reducible refine ite_neg Bool.false_ne_true ?_)))
local macro_rules | `(tactic| k_ne) => `(tactic| (refine neN ?_; (try dsimp only); first | exact NeH.ne (by with_reducible assumption) | exact NeH.ne' (by with_reducible assumption)))

local macro_rules | `(tactic| walk_at "call ref") => `(tactic| (k_here; (with_reducible show wpAny _ _ (call (Value.ref 199) _) _ _ _); k_dflt (refine' use_clean ?kA ?kX ?kT ?kF ?kN ?kD ?kI ?_ ?_; (case kA => walk_at "m ok"); (case kX => k_asm); (case kT => k_asm); (case kF => k_asm); (case kN => k_asm); (case kD => walk_at "m dict"); (case kI => assumption); k_whole)))

section
variable {w : World} {A : Around} {E : Value → Shared → Prop} {s : Shared} {p : Program} {loose : List Str} {mean : ExcName → Option Value} {mg mb : Str → Option Value} {h₀ : Heap}
local macro_rules | `(tactic| walk_at "call ref") => `(tactic| (k_here; with_reducible refine Halt.intro ?_))
local macro_rules | `(tactic| walk_at "eval ListComp") => `(tactic| (k_here; with_reducible refine Halt.intro ?_))
local macro_rules | `(tactic| walk_at "call builtin:len") => `(tactic| (k_here; with_reducible refine Halt.intro ?_))
local macro_rules | `(tactic| walk_at "CompSrc") => `(tactic| (k_here; with_reducible refine Halt.intro ?_))
set_option maxHeartbeats 8000000 in
theorem spec_finalize {Q : Value → Shared → Prop} {l : Addr} {ts : List (Value × Tk)} {tabs : List (Addr × Obj)} {en : Bool} {dt : PySem.Tok} (hA : Ok A 3) (X : (hd.heap_39 w.params).In h₀) (T : Top p loose mean mg mb h₀) (C : CodeHd h₀ 177 173)
    (hsub : h₀.StaysIn s.heap) (hsz : h₀.objs.size ≤ s.heap.objs.size) (hb : ∀ p ∈ tabs, s.heap.get? p.1 = some p.2 ∧ h₀.get? p.1 = none) (hT : TabL 173 flushLine flushCol flushQual tabs)
    (hl : h₀.IsList l (vals ts).toArray) (H : Toks w h₀ ts) (W : WordTks (tks ts)) (hen : en = false ∨ markedOf (tks ts) = false)
    (ret : ∀ r rvs tabs' h' tk, h₀.StaysIn h' → TabL 173 flushLine flushCol flushQual tabs' → (∀ p ∈ tabs, p.1 ≠ 173 → p ∈ tabs') → Born h₀ h' tabs' → h'.IsList r rvs.toArray → Bares w h₀ h' rvs (joined ts) → Q (.ref r) { s with heap := h', toks := tk }) :
    wpAny (model PR w) A (call (.ref 171) [.ref l, .bool en, .int 3 dt]) Q E s := by
  refine' enterN (news := tabs) (binds := [(Str.ofString "tokens", .ref l), (Str.ofString "enabled", .bool en), (Str.ofString "max_depth", .int 3 dt)]) ?kX ?kT ?kS ?kZ ?kN ?kO ?kC ?kR ?kB ?kL ?_ ?c1 ?c2 ?c3 ?c4
  case kX => assumption
  case kT => first | exact Top.nolimit (by assumption) | assumption
  case kO => k_is
  case kC => k_is
  case kR => exact Ok.room (by assumption)
  case kB => exact BindsTo.of_eq rfl
  case kL => exact locs rfl
  case c1 => exact rfl
  case c2 => exact rfl
  case c3 => exact rfl
  case c4 => decide
  case kS => assumption
  case kZ => assumption
  case kN => assumption
  intro L h tk F N hk hn
  try dsimp only
  try k_fold
  k_steps
  (show wpAny _ _ _ _ _ _)
  rename Fr _ _ _ _ => F1
  rename News _ _ _ _ => N1
  have hl1 := hl.at fun o e => F1.keep _ _ e
  have hts : ts.length ≤ 12 := by have := W.1; rw [tks_len] at this; exact this
  have hsz1 : (vals ts).toArray.size = ts.length := by simp [vals]
  refine PySem.Calls.call_len_list hl1 (by rw [hsz1]; omega) ?_
  rw [hsz1]
  by_cases hn : ts.length ≤ 1
  · have hn2 : ¬ (1 : Int) < (ts.length : Int) := by omega
    cases en
    · k_steps
      (show wpAny _ _ (eval _ _) _ _ _)
      rename Fr _ _ _ _ => F2
      rename News _ _ _ _ => N2
      have hK := coal_self (bs := []) hn H
      refine LCg.ListComp_U (F₀ := F2) (by with_unfolding_all rfl) (by decide) (by rfl) (by decide) (by rfl) ?_
      k_steps
      (show LCg.CompSrc _ _ _ _ _ _ _ _ _ _ _ _ _ _)
      rename Fr _ _ _ _ => F3
      rename News _ _ _ _ => N3
      refine LCg.CompSrc.base (by exact hA.hh) F3 N3 hl (by rw [hsz1, sizeLine_eq]; omega) fun g9 => ?_
      rw [hsz1]
      refine rest_ind (n := ts.length) (fun i ys news => ∃ rds, news = rds ++ tabs ∧ ys.length = i ∧ BaresIn w h₀ rds ys (joined ts)) ?_ ?_ _ 0 [] _ (by omega) ⟨[], rfl, rfl, fun i v e => by simp at e⟩
      · rintro i ys news ⟨rds, rfl, hy, R⟩ v I oI oC C9 D m₂ h9 tk9 E' hP hC hx F9 N9 off ne
        obtain ⟨tkn, e0⟩ := vals_at (by simpa using hP : (vals ts)[i]? = some v)
        obtain ⟨j, hj, q⟩ := hK.2 i v tkn e0
        k_steps
        (show wpAny _ _ (call _ _) _ _ _)
        suffices key : ∃ a kvs, v = .ref a ∧ DictAt w h9 a kvs ∧ TkIs kvs tkn ∧ (strip kvs = kvs → BareIn w h₀ rds (.ref a) j) ∧ (∀ b o bs', (b, o) ∈ bs' → (b == sysModules) = false → o.IsDictOf (PySem.strKind PR w) (strip kvs) → BareIn w h₀ bs' (.ref b) j) by
          obtain ⟨a, kvs, rfl, D, J, k0, k1⟩ := key
          refine use_clean (by walk_at "m ok") X T F9 N9 D J ?_ ?_
          · intro e9 h' tk' F' N'
            exact LCg.CompEnd.intro F' N' (rds ++ tabs) (fun p hp => hp) off (.inl hl) ⟨rds, rfl, by simp [hy], R.snoc (fun _ h => h) (by rw [hy]; exact hj) (k0 e9)⟩
          · intro b o h' tk' F' N' hb lo hd
            exact LCg.CompEnd.intro F' N' ((b, o) :: (rds ++ tabs)) (fun p hp => by simp only [List.mem_append, List.mem_cons] at hp ⊢; rcases hp with h | h | h | h | h | h <;> simp [h])
              ⟨⟨Ne.symm (hb _ (.head _)), Ne.symm (hb _ (.tail _ (.head _))), Ne.symm (hb _ (.tail _ (.tail _ (.head _))))⟩, off⟩ (.inl hl) ⟨(b, o) :: rds, rfl, by simp [hy], R.snoc (fun _ h => .tail _ h) (by rw [hy]; exact hj) (k1 b o _ (.head _) lo hd)⟩
        cases j with
        | t live raw en9 =>
          obtain ⟨x, md, rfl, _⟩ := q
          rcases x with ⟨a, kvs, e, D, J⟩ | ⟨_, _, _, _, hm, _⟩
          · obtain ⟨t1, t2, e2⟩ := strip_text J
            exact ⟨a, kvs, e, DictAt.fr F9 D, J, fun e9 => ⟨a, t1, t2, rfl, .inl (by rw [← e2, e9]; exact D)⟩, fun b o bs' hm lo hd => ⟨b, t1, t2, rfl, .inr ⟨o, hm, lo, by rw [← e2]; exact hd⟩⟩⟩
          · exact nomatch hm
        | o u =>
          obtain ⟨rfl, ⟨a, kvs, e, D, J⟩, _⟩ := q
          exact ⟨a, kvs, e, DictAt.fr F9 D, J, fun e9 => ⟨a, a, kvs, e, rfl, D, .inl (by rw [e9]; exact D)⟩, fun b o bs' hm lo hd => ⟨a, b, kvs, e, rfl, D, .inr ⟨o, hm, lo, hd⟩⟩⟩
      · rintro ys news ⟨rds, rfl, hy, R⟩
        intro D8 h8 tk8 F8 N8 off8
        refine ret D8 ys tabs h8 tk8 F8.keep hT (fun p hp _ => hp) (News.born (news_sub N8 fun p hp => .tail _ (List.mem_append_right _ hp))) ⟨_, News.get N8 (.head _), rfl, _, rfl⟩ ⟨by rw [hy]; exact hK.1, fun i v e => ?_⟩
        obtain ⟨j, hj, q⟩ := R i v e
        exact ⟨j, hj, q.at F8 N8 fun p hp => .tail _ (List.mem_append_left _ hp)⟩
    · k_steps
      (show wpAny _ _ (call _ _) _ _ _)
      rename Fr _ _ _ _ => F5
      rename News _ _ _ _ => N5
      refine spec_contains (by walk_at "m ok") (X.keeps F5.keep) (T.keeps F5.keep) (hl.at fun o e => F5.keep _ _ e) (H.keeps F5.keep) ((coal_self (bs := []) hn H).small W) fun h6 tk6 k6 => ?_
      rw [hen.resolve_left nofun]
      have F6 := fr_stays F5 k6
      have N6 := news_stays N5 k6
      clear F5 N5
      k_steps
      (show wpAny _ _ (eval _ _) _ _ _)
      rename Fr _ _ _ _ => F2
      rename News _ _ _ _ => N2
      have hK := coal_self (bs := []) hn H
      refine LCg.ListComp_U (F₀ := F2) (by with_unfolding_all rfl) (by decide) (by rfl) (by decide) (by rfl) ?_
      k_steps
      (show LCg.CompSrc _ _ _ _ _ _ _ _ _ _ _ _ _ _)
      rename Fr _ _ _ _ => F3
      rename News _ _ _ _ => N3
      refine LCg.CompSrc.base (by exact hA.hh) F3 N3 hl (by rw [hsz1, sizeLine_eq]; omega) fun g9 => ?_
      rw [hsz1]
      refine rest_ind (n := ts.length) (fun i ys news => ∃ rds, news = rds ++ tabs ∧ ys.length = i ∧ BaresIn w h₀ rds ys (joined ts)) ?_ ?_ _ 0 [] _ (by omega) ⟨[], rfl, rfl, fun i v e => by simp at e⟩
      · rintro i ys news ⟨rds, rfl, hy, R⟩ v I oI oC C9 D m₂ h9 tk9 E' hP hC hx F9 N9 off ne
        obtain ⟨tkn, e0⟩ := vals_at (by simpa using hP : (vals ts)[i]? = some v)
        obtain ⟨j, hj, q⟩ := hK.2 i v tkn e0
        k_steps
        (show wpAny _ _ (call _ _) _ _ _)
        suffices key : ∃ a kvs, v = .ref a ∧ DictAt w h9 a kvs ∧ TkIs kvs tkn ∧ (strip kvs = kvs → BareIn w h₀ rds (.ref a) j) ∧ (∀ b o bs', (b, o) ∈ bs' → (b == sysModules) = false → o.IsDictOf (PySem.strKind PR w) (strip kvs) → BareIn w h₀ bs' (.ref b) j) by
          obtain ⟨a, kvs, rfl, D, J, k0, k1⟩ := key
          refine use_clean (by walk_at "m ok") X T F9 N9 D J ?_ ?_
          · intro e9 h' tk' F' N'
            exact LCg.CompEnd.intro F' N' (rds ++ tabs) (fun p hp => hp) off (.inl hl) ⟨rds, rfl, by simp [hy], R.snoc (fun _ h => h) (by rw [hy]; exact hj) (k0 e9)⟩
          · intro b o h' tk' F' N' hb lo hd
            exact LCg.CompEnd.intro F' N' ((b, o) :: (rds ++ tabs)) (fun p hp => by simp only [List.mem_append, List.mem_cons] at hp ⊢; rcases hp with h | h | h | h | h | h <;> simp [h])
              ⟨⟨Ne.symm (hb _ (.head _)), Ne.symm (hb _ (.tail _ (.head _))), Ne.symm (hb _ (.tail _ (.tail _ (.head _))))⟩, off⟩ (.inl hl) ⟨(b, o) :: rds, rfl, by simp [hy], R.snoc (fun _ h => .tail _ h) (by rw [hy]; exact hj) (k1 b o _ (.head _) lo hd)⟩
        cases j with
        | t live raw en9 =>
          obtain ⟨x, md, rfl, _⟩ := q
          rcases x with ⟨a, kvs, e, D, J⟩ | ⟨_, _, _, _, hm, _⟩
          · obtain ⟨t1, t2, e2⟩ := strip_text J
            exact ⟨a, kvs, e, DictAt.fr F9 D, J, fun e9 => ⟨a, t1, t2, rfl, .inl (by rw [← e2, e9]; exact D)⟩, fun b o bs' hm lo hd => ⟨b, t1, t2, rfl, .inr ⟨o, hm, lo, by rw [← e2]; exact hd⟩⟩⟩
          · exact nomatch hm
        | o u =>
          obtain ⟨rfl, ⟨a, kvs, e, D, J⟩, _⟩ := q
          exact ⟨a, kvs, e, DictAt.fr F9 D, J, fun e9 => ⟨a, a, kvs, e, rfl, D, .inl (by rw [e9]; exact D)⟩, fun b o bs' hm lo hd => ⟨a, b, kvs, e, rfl, D, .inr ⟨o, hm, lo, hd⟩⟩⟩
      · rintro ys news ⟨rds, rfl, hy, R⟩
        intro D8 h8 tk8 F8 N8 off8
        refine ret D8 ys tabs h8 tk8 F8.keep hT (fun p hp _ => hp) (News.born (news_sub N8 fun p hp => .tail _ (List.mem_append_right _ hp))) ⟨_, News.get N8 (.head _), rfl, _, rfl⟩ ⟨by rw [hy]; exact hK.1, fun i v e => ?_⟩
        obtain ⟨j, hj, q⟩ := R i v e
        exact ⟨j, hj, q.at F8 N8 fun p hp => .tail _ (List.mem_append_left _ hp)⟩
  · have hn2 : (1 : Int) < (ts.length : Int) := by omega
    k_steps
    (show wpAny _ _ (call _ _) _ _ _)
    rename Fr _ _ _ _ => F5
    rename News _ _ _ _ => N5
    refine use_coalesce (rest := []) (by walk_at "m ok") X T C F5 (by rw [List.append_nil]; exact N5) hT (fun _ h => nomatch h) (hl.at fun o e => F5.keep _ _ e) (H.keeps F5.keep) W ?_
    intro r rvs n rds0 tabs' h6 tk6 F6 hT' hm' N6 R6
    rw [List.append_nil] at N6
    obtain ⟨ts', rfl, hK⟩ := coal_rows R6 H
    have hts2 := hK.len W
    have hsz2 : (vals ts').toArray.size = ts'.length := by simp [vals]
    clear F5 N5 hl1
    cases en
    · k_steps
      (show wpAny _ _ (eval _ _) _ _ _)
      rename Fr _ _ _ _ => F2
      rename News _ _ _ _ => N2
      refine LCg.ListComp_U (F₀ := F2) (by with_unfolding_all rfl) (by decide) (by rfl) (by decide) (by rfl) ?_
      k_steps
      (show LCg.CompSrc _ _ _ _ _ _ _ _ _ _ _ _ _ _)
      rename Fr _ _ _ _ => F3
      rename News _ _ _ _ => N3
      have hmr : (r, listOf (vals ts').toArray n) ∈ tabs' ++ (r, listOf (vals ts').toArray n) :: rds0 := List.mem_append_right _ (.head _)
      refine LCg.CompSrc.ledger (by exact hA.hh) F3 N3 hmr (by rw [hsz2, sizeLine_eq]; omega) fun g9 => ?_
      rw [hsz2]
      refine rest_ind (n := ts'.length) (fun i ys news => (∃ rds, news = rds ++ (tabs' ++ (r, listOf (vals ts').toArray n) :: rds0)) ∧ ys.length = i ∧ BaresIn w h₀ news ys (joined ts)) ?_ ?_ _ 0 [] _ (by omega) ⟨⟨[], rfl⟩, rfl, fun i v e => by simp at e⟩
      · rintro i ys news ⟨⟨rds, hrd⟩, hy, R⟩ v I oI oC C9 D m₂ h9 tk9 E' hP hC hx F9 N9 off ne
        obtain ⟨tkn, e0⟩ := vals_at (by simpa using hP : (vals ts')[i]? = some v)
        obtain ⟨j, hj, q⟩ := hK.2 i v tkn e0
        have hmr9 : (r, listOf (vals ts').toArray n) ∈ news := by rw [hrd]; exact List.mem_append_right _ hmr
        have hrs : ∀ p ∈ rds0, p ∈ news := fun p hp => by rw [hrd]; exact List.mem_append_right _ (List.mem_append_right _ (.tail _ hp))
        k_steps
        (show wpAny _ _ (call _ _) _ _ _)
        suffices key : ∃ a kvs, v = .ref a ∧ DictAt w h9 a kvs ∧ TkIs kvs tkn ∧ (strip kvs = kvs → BareIn w h₀ news (.ref a) j) ∧ (∀ b o bs', (b, o) ∈ bs' → (b == sysModules) = false → o.IsDictOf (PySem.strKind PR w) (strip kvs) → BareIn w h₀ bs' (.ref b) j) by
          obtain ⟨a, kvs, rfl, D, J, k0, k1⟩ := key
          refine use_clean (by walk_at "m ok") X T F9 N9 D J ?_ ?_
          · intro e9 h' tk' F' N'
            exact LCg.CompEnd.intro F' N' news (fun p hp => hp) off (.inr ⟨_, hmr9, rfl, _, rfl⟩) ⟨⟨rds, hrd⟩, by simp [hy], R.snoc (fun _ h => h) (by rw [hy]; exact hj) (k0 e9)⟩
          · intro b o h' tk' F' N' hb lo hd
            exact LCg.CompEnd.intro F' N' ((b, o) :: news) (fun p hp => by simp only [List.mem_cons] at hp ⊢; rcases hp with h | h | h | h | h <;> simp [h])
              ⟨⟨Ne.symm (hb _ (.head _)), Ne.symm (hb _ (.tail _ (.head _))), Ne.symm (hb _ (.tail _ (.tail _ (.head _))))⟩, off⟩ (.inr ⟨_, .tail _ hmr9, rfl, _, rfl⟩) ⟨⟨(b, o) :: rds, by rw [hrd]; rfl⟩, by simp [hy], R.snoc (fun _ h => .tail _ h) (by rw [hy]; exact hj) (k1 b o _ (.head _) lo hd)⟩
        cases j with
        | t live raw en9 =>
          obtain ⟨x, md, rfl, _⟩ := q
          rcases x with ⟨a, kvs, e, D, J⟩ | ⟨a, o, kvs, e, hm, lo, hd, J⟩
          · obtain ⟨t1, t2, e2⟩ := strip_text J
            exact ⟨a, kvs, e, DictAt.fr F9 D, J, fun e9 => ⟨a, t1, t2, rfl, .inl (by rw [← e2, e9]; exact D)⟩, fun b o bs' hm lo hd => ⟨b, t1, t2, rfl, .inr ⟨o, hm, lo, by rw [← e2]; exact hd⟩⟩⟩
          · obtain ⟨t1, t2, e2⟩ := strip_text J
            exact ⟨a, kvs, e, DictAt.news N9 (.tail _ (.tail _ (.tail _ (hrs _ hm)))) lo hd, J, fun e9 => ⟨a, t1, t2, rfl, .inr ⟨o, hrs _ hm, lo, by rw [← e2, e9]; exact hd⟩⟩, fun b o bs' hm lo hd => ⟨b, t1, t2, rfl, .inr ⟨o, hm, lo, by rw [← e2]; exact hd⟩⟩⟩
        | o u =>
          obtain ⟨rfl, ⟨a, kvs, e, D, J⟩, _⟩ := q
          exact ⟨a, kvs, e, DictAt.fr F9 D, J, fun e9 => ⟨a, a, kvs, e, rfl, D, .inl (by rw [e9]; exact D)⟩, fun b o bs' hm lo hd => ⟨a, b, kvs, e, rfl, D, .inr ⟨o, hm, lo, hd⟩⟩⟩
      · rintro ys news ⟨⟨rds, hrd⟩, hy, R⟩
        intro D8 h8 tk8 F8 N8 off8
        refine ret D8 ys tabs' h8 tk8 F8.keep hT' hm' (News.born (news_sub N8 fun p hp => .tail _ (by rw [hrd]; exact List.mem_append_right _ (List.mem_append_left _ hp)))) ⟨_, News.get N8 (.head _), rfl, _, rfl⟩ ⟨by rw [hy]; exact hK.1, fun i v e => ?_⟩
        obtain ⟨j, hj, q⟩ := R i v e
        exact ⟨j, hj, q.at F8 N8 fun p hp => .tail _ hp⟩
    · k_steps
      (show wpAny _ _ (call _ _) _ _ _)
      rename Fr _ _ _ _ => F5
      rename News _ _ _ _ => N5
      refine spec_contains (by walk_at "m ok") (X.keeps F5.keep) (T.keeps F5.keep) ⟨_, News.get N5 (List.mem_append_right _ (.head _)), rfl, n, rfl⟩ (hK.toks F5 N5 fun p hp => List.mem_append_right _ (.tail _ hp)) (hK.small W) fun h7 tk7 k7 => ?_
      rw [hK.marked (hen.resolve_left nofun)]
      have F7 := fr_stays F5 k7
      have N7 := news_stays N5 k7
      clear F5 N5
      k_steps
      (show wpAny _ _ (eval _ _) _ _ _)
      rename Fr _ _ _ _ => F2
      rename News _ _ _ _ => N2
      refine LCg.ListComp_U (F₀ := F2) (by with_unfolding_all rfl) (by decide) (by rfl) (by decide) (by rfl) ?_
      k_steps
      (show LCg.CompSrc _ _ _ _ _ _ _ _ _ _ _ _ _ _)
      rename Fr _ _ _ _ => F3
      rename News _ _ _ _ => N3
      have hmr : (r, listOf (vals ts').toArray n) ∈ tabs' ++ (r, listOf (vals ts').toArray n) :: rds0 := List.mem_append_right _ (.head _)
      refine LCg.CompSrc.ledger (by exact hA.hh) F3 N3 hmr (by rw [hsz2, sizeLine_eq]; omega) fun g9 => ?_
      rw [hsz2]
      refine rest_ind (n := ts'.length) (fun i ys news => (∃ rds, news = rds ++ (tabs' ++ (r, listOf (vals ts').toArray n) :: rds0)) ∧ ys.length = i ∧ BaresIn w h₀ news ys (joined ts)) ?_ ?_ _ 0 [] _ (by omega) ⟨⟨[], rfl⟩, rfl, fun i v e => by simp at e⟩
      · rintro i ys news ⟨⟨rds, hrd⟩, hy, R⟩ v I oI oC C9 D m₂ h9 tk9 E' hP hC hx F9 N9 off ne
        obtain ⟨tkn, e0⟩ := vals_at (by simpa using hP : (vals ts')[i]? = some v)
        obtain ⟨j, hj, q⟩ := hK.2 i v tkn e0
        have hmr9 : (r, listOf (vals ts').toArray n) ∈ news := by rw [hrd]; exact List.mem_append_right _ hmr
        have hrs : ∀ p ∈ rds0, p ∈ news := fun p hp => by rw [hrd]; exact List.mem_append_right _ (List.mem_append_right _ (.tail _ hp))
        k_steps
        (show wpAny _ _ (call _ _) _ _ _)
        suffices key : ∃ a kvs, v = .ref a ∧ DictAt w h9 a kvs ∧ TkIs kvs tkn ∧ (strip kvs = kvs → BareIn w h₀ news (.ref a) j) ∧ (∀ b o bs', (b, o) ∈ bs' → (b == sysModules) = false → o.IsDictOf (PySem.strKind PR w) (strip kvs) → BareIn w h₀ bs' (.ref b) j) by
          obtain ⟨a, kvs, rfl, D, J, k0, k1⟩ := key
          refine use_clean (by walk_at "m ok") X T F9 N9 D J ?_ ?_
          · intro e9 h' tk' F' N'
            exact LCg.CompEnd.intro F' N' news (fun p hp => hp) off (.inr ⟨_, hmr9, rfl, _, rfl⟩) ⟨⟨rds, hrd⟩, by simp [hy], R.snoc (fun _ h => h) (by rw [hy]; exact hj) (k0 e9)⟩
          · intro b o h' tk' F' N' hb lo hd
            exact LCg.CompEnd.intro F' N' ((b, o) :: news) (fun p hp => by simp only [List.mem_cons] at hp ⊢; rcases hp with h | h | h | h | h <;> simp [h])
              ⟨⟨Ne.symm (hb _ (.head _)), Ne.symm (hb _ (.tail _ (.head _))), Ne.symm (hb _ (.tail _ (.tail _ (.head _))))⟩, off⟩ (.inr ⟨_, .tail _ hmr9, rfl, _, rfl⟩) ⟨⟨(b, o) :: rds, by rw [hrd]; rfl⟩, by simp [hy], R.snoc (fun _ h => .tail _ h) (by rw [hy]; exact hj) (k1 b o _ (.head _) lo hd)⟩
        cases j with
        | t live raw en9 =>
          obtain ⟨x, md, rfl, _⟩ := q
          rcases x with ⟨a, kvs, e, D, J⟩ | ⟨a, o, kvs, e, hm, lo, hd, J⟩
          · obtain ⟨t1, t2, e2⟩ := strip_text J
            exact ⟨a, kvs, e, DictAt.fr F9 D, J, fun e9 => ⟨a, t1, t2, rfl, .inl (by rw [← e2, e9]; exact D)⟩, fun b o bs' hm lo hd => ⟨b, t1, t2, rfl, .inr ⟨o, hm, lo, by rw [← e2]; exact hd⟩⟩⟩
          · obtain ⟨t1, t2, e2⟩ := strip_text J
            exact ⟨a, kvs, e, DictAt.news N9 (.tail _ (.tail _ (.tail _ (hrs _ hm)))) lo hd, J, fun e9 => ⟨a, t1, t2, rfl, .inr ⟨o, hrs _ hm, lo, by rw [← e2, e9]; exact hd⟩⟩, fun b o bs' hm lo hd => ⟨b, t1, t2, rfl, .inr ⟨o, hm, lo, by rw [← e2]; exact hd⟩⟩⟩
        | o u =>
          obtain ⟨rfl, ⟨a, kvs, e, D, J⟩, _⟩ := q
          exact ⟨a, kvs, e, DictAt.fr F9 D, J, fun e9 => ⟨a, a, kvs, e, rfl, D, .inl (by rw [e9]; exact D)⟩, fun b o bs' hm lo hd => ⟨a, b, kvs, e, rfl, D, .inr ⟨o, hm, lo, hd⟩⟩⟩
      · rintro ys news ⟨⟨rds, hrd⟩, hy, R⟩
        intro D8 h8 tk8 F8 N8 off8
        refine ret D8 ys tabs' h8 tk8 F8.keep hT' hm' (News.born (news_sub N8 fun p hp => .tail _ (by rw [hrd]; exact List.mem_append_right _ (List.mem_append_left _ hp)))) ⟨_, News.get N8 (.head _), rfl, _, rfl⟩ ⟨by rw [hy]; exact hK.1, fun i v e => ?_⟩
        obtain ⟨j, hj, q⟩ := R i v e
        exact ⟨j, hj, q.at F8 N8 fun p hp => .tail _ hp⟩
end

end
section
open PySem.SeqAt PySem.MeetsSeq PySem.MeetsSeq2 PySem.MeetsSeq3 PySem.SeqRoads2
open PySem.AutoSeq1 (wpAny_loadPart')
/-- told equal, at the one program and world -/
def EqW (w : World) (A : Around) (s : Shared) (y x : Value) : Prop := ∀ (E : Value → Shared → Prop) (Q : Bool → Shared → Prop), Q true s → wpAny (model PR w) A (eqBool y x) Q E s
theorem ne_loopW {w : World} (l b : Addr) (items items2 : Array Value) (n n2 : Nat) (dd dd2 : Option Addr) (sl sl2 : Array (Option Value)) (hsz : items.size = items2.size) (k : Nat) :
    ∀ i : Nat, items.size - i = k → ∀ (A : Around) (R : Result → Shared → Prop) (s : Shared), (s.heap.get? l = some { cls := .type "list", dict := dd, data := .seq items n, slots := sl } ∧ s.heap.get? b = some { cls := .type "list", dict := dd2, data := .seq items2 n2, slots := sl2 } ∧
        (∀ j (h1 : j < items.size) (h2 : j < items2.size), EqW w A.in1 s items[j] items2[j]) ∧ R (.ok (.ret (.bool false))) s) →
      wpAny (model PR w) A.in1 (Builtin.«list.__eq__.loop» ⟨[.ref l, .ref b, rawInt i, rawInt 3], []⟩) (fun fin s' => match fin with | .done f => R (.ok f) s' | .again c' => c'.quiet = true ∧ codeAny (model PR w) A c' R s') (fun e s' => R (.error e) s') s := by
  induction k with
  | zero =>
    intro i hk A R s h
    obtain ⟨hp, g, d, tk, os⟩ := s
    obtain ⟨hl, hb, he, h⟩ := h
    wp_walk using wpAny_loadPart' hl, wpAny_loadPart' hb
    have hi1 : items[((i : Nat) : Int).toNat]? = none := by simp; omega
    have hi2 : items2[((i : Nat) : Int).toNat]? = none := by simp; omega
    rw [hi1, hi2]
    wp_walk using wpAny_loadPart' hl, wpAny_loadPart' hb
    show R (.ok (.ret (.bool (items.size != items2.size)))) _
    rw [hsz]
    simpa using h
  | succ k ih =>
    intro i hk A R s h
    obtain ⟨hp, g, d, tk, os⟩ := s
    obtain ⟨hl, hb, he, h⟩ := h
    wp_walk using wpAny_loadPart' hl, wpAny_loadPart' hb
    have hlt : i < items.size := by omega
    have hlt2 : i < items2.size := by omega
    have hi1 : items[((i : Nat) : Int).toNat]? = some items[i] := by simp [hlt]
    have hi2 : items2[((i : Nat) : Int).toNat]? = some items2[i] := by simp [hlt2]
    have hc : ((i : Int) + 1) = ((i + 1 : Nat) : Int) := by push_cast; rfl
    rw [hi1, hi2]
    refine wpAny_bind (he i hlt hlt2 _ _ ?_)
    wp_walk
    rw [hc]
    exact ⟨plainId_quiet plain_eq_loop _, codeAny_builtin entry_eq_loop (by
      rw [Around.under_plainId plain_eq_loop _]
      exact ih (i + 1) (by omega) A R _ ⟨hl, hb, he, h⟩)⟩
end

section
open PySem.SeqAt PySem.MeetsSeq PySem.MeetsSeq2 PySem.MeetsSeq3 PySem.SeqRoads2
open PySem.AutoSeq1 (wpAny_loadPart')
variable {w : World} {A : Around} {E : Value → Shared → Prop} {s : Shared}
theorem ne_listW {l b : Addr} {items items2 : Array Value} {Q : Value → Shared → Prop} (hl : s.heap.IsList l items) (hb : s.heap.IsList b items2) (hsz : items.size = items2.size) (hu : A.units < cLine)
    (he : ∀ j (h1 : j < items.size) (h2 : j < items2.size), EqW w A.in1 s items[j] items2[j]) (h : Q (.bool false) s) : wpAny (model PR w) A (compareOp .NotEq (.ref l) (.ref b)) Q E s := by
  obtain ⟨⟨cls, dd, data, sl⟩, ho, hc, n, hd⟩ := id hl
  obtain ⟨⟨cls2, dd2, data2, sl2⟩, ho2, hc2, n2, hd2⟩ := id hb
  simp only at hc hd hc2 hd2
  subst hc hd hc2 hd2
  have hT : s.TypeIs (.ref l) "list" := ⟨_, ho, rfl⟩
  have hT2 : s.TypeIs (.ref b) "list" := ⟨_, ho2, rfl⟩
  refine wpAny_richCompare_same_room (op := .NotEq) hT hT2 PySem.F.slot_list_ne (wpAny_call (codeAny_call_builtin PySem.F.slot_list_ne.plain PySem.F.entry_list_ne (PySem.F.slot_list_ne.check _ _ _ _ _ _ _ _ hT (PySem.F.args_list_ne_2 _ _) ?_))) hu
  have h' : wants (fun v s' => v ≠ .notImplemented ∧ Q v s') E (.ok (.ret (.bool false))) s := ⟨(fun x => nomatch x), h⟩
  obtain ⟨hp, g, d, tk, os⟩ := s
  have f3 := AutoSeq1.sub_list_list
  have hne : ¬ (items.size != items2.size) = true := by simp [hsz]
  wp_walk using wpAny_loadPart' ho, wpAny_loadPart' ho2
  exact ⟨plainId_quiet plain_eq_loop _, codeAny_builtin entry_eq_loop (by
    rw [Around.under_plainId plain_eq_loop _]
    exact ne_loopW l b items items2 n n2 dd dd2 sl sl2 hsz _ 0 rfl A _ _ ⟨ho, ho2, he, h'⟩)⟩
end

section
variable {w : World} {A : Around} {E : Value → Shared → Prop} {s : Shared}
/-- two values that are told alike: the same, or texts with the same signs -/
inductive Like : Value → Value → Prop
  | same (v : Value) : Like v v
  | str (x : Str) (t u : PySem.Tok) : Like (.str x t) (.str x u)
theorem Like.eqAt {v u : Value} (h : Like v u) (A : Around) (s : Shared) : SeqAt.EqAt A s v u true := by
  cases h with
  | same => exact SeqAt.EqAt.same _
  | str x t u =>
    have := (PyProof.Rows.eqGives_str x x t u).at A s
    rw [beq_self_eq_true] at this
    exact this
theorem like_hits {kb : List (Str × Value)} : ∀ {ka : List (Str × Value)}, (∀ p ∈ ka, ∃ y, valueAt kb p.1 = some y ∧ Like p.2 y) → KeqHits A s kb ka true
  | [], _ => .nil
  | (k, v) :: r, h => by
    obtain ⟨y, hy, hl⟩ := h (k, v) (.head _)
    exact KeqHits.hit hy (hl.eqAt A s) (like_hits fun p hp => h p (.tail _ hp))
theorem EqW.same (v : Value) : EqW w A s v v := fun E Q h => SeqAt.EqAt.same v PR w E Q h
theorem EqW.dicts {a b : Addr} {ka kb : List (Str × Value)} (Da : DictAt w s.heap a ka) (Db : DictAt w s.heap b kb) (hu : A.units < cLine) (hl : ka.length = kb.length) (h : ∀ p ∈ ka, ∃ y, valueAt kb p.1 = some y ∧ Like p.2 y) : EqW w A s (.ref a) (.ref b) := by
  by_cases e : a = b
  · subst e; exact EqW.same _
  · intro E Q hq
    unfold eqBool
    refine wpAny_holding ?_
    refine wpAny_ite_split (fun hab => absurd (by have := eq_of_beq hab; injection this) e) (fun _ => ?_)
    exact wpAny_bind (keq_eq Da.1 Db.1 Da.2 Db.2 hu (fun _ => like_hits h) (by rw [hl, beq_self_eq_true]; exact wpAny_truthy_bool hq))
end

section
open PySem.SeqAt PySem.MeetsSeq PySem.MeetsSeq2 PySem.MeetsSeq3 PySem.SeqRoads2
open PySem.AutoSeq1 (wpAny_loadPart')
theorem eq_loopW {w : World} (l b : Addr) (items items2 : Array Value) (n n2 : Nat) (dd dd2 : Option Addr) (sl sl2 : Array (Option Value)) (hsz : items.size = items2.size) (k : Nat) :
    ∀ i : Nat, items.size - i = k → ∀ (A : Around) (R : Result → Shared → Prop) (s : Shared), (s.heap.get? l = some { cls := .type "list", dict := dd, data := .seq items n, slots := sl } ∧ s.heap.get? b = some { cls := .type "list", dict := dd2, data := .seq items2 n2, slots := sl2 } ∧
        (∀ j (h1 : j < items.size) (h2 : j < items2.size), EqW w A.in1 s items[j] items2[j]) ∧ R (.ok (.ret (.bool true))) s) →
      wpAny (model PR w) A.in1 (Builtin.«list.__eq__.loop» ⟨[.ref l, .ref b, rawInt i, rawInt 2], []⟩) (fun fin s' => match fin with | .done f => R (.ok f) s' | .again c' => c'.quiet = true ∧ codeAny (model PR w) A c' R s') (fun e s' => R (.error e) s') s := by
  induction k with
  | zero =>
    intro i hk A R s h
    obtain ⟨hp, g, d, tk, os⟩ := s
    obtain ⟨hl, hb, he, h⟩ := h
    wp_walk using wpAny_loadPart' hl, wpAny_loadPart' hb
    have hi1 : items[((i : Nat) : Int).toNat]? = none := by simp; omega
    have hi2 : items2[((i : Nat) : Int).toNat]? = none := by simp; omega
    rw [hi1, hi2]
    wp_walk using wpAny_loadPart' hl, wpAny_loadPart' hb
    show R (.ok (.ret (.bool (items.size == items2.size)))) _
    rw [hsz]
    simpa using h
  | succ k ih =>
    intro i hk A R s h
    obtain ⟨hp, g, d, tk, os⟩ := s
    obtain ⟨hl, hb, he, h⟩ := h
    wp_walk using wpAny_loadPart' hl, wpAny_loadPart' hb
    have hlt : i < items.size := by omega
    have hlt2 : i < items2.size := by omega
    have hi1 : items[((i : Nat) : Int).toNat]? = some items[i] := by simp [hlt]
    have hi2 : items2[((i : Nat) : Int).toNat]? = some items2[i] := by simp [hlt2]
    have hc : ((i : Int) + 1) = ((i + 1 : Nat) : Int) := by push_cast; rfl
    rw [hi1, hi2]
    refine wpAny_bind (he i hlt hlt2 _ _ ?_)
    wp_walk
    rw [hc]
    exact ⟨plainId_quiet plain_eq_loop _, codeAny_builtin entry_eq_loop (by
      rw [Around.under_plainId plain_eq_loop _]
      exact ih (i + 1) (by omega) A R _ ⟨hl, hb, he, h⟩)⟩
end
section
open PySem.SeqAt PySem.MeetsSeq PySem.MeetsSeq2 PySem.MeetsSeq3 PySem.SeqRoads2
open PySem.AutoSeq1 (wpAny_loadPart')
variable {w : World} {A : Around} {E : Value → Shared → Prop} {s : Shared}
theorem eq_listW {l b : Addr} {items items2 : Array Value} {Q : Value → Shared → Prop} (hl : s.heap.IsList l items) (hb : s.heap.IsList b items2) (hsz : items.size = items2.size) (hu : A.units < cLine)
    (he : ∀ j (h1 : j < items.size) (h2 : j < items2.size), EqW w A.in1 s items[j] items2[j]) (h : Q (.bool true) s) : wpAny (model PR w) A (compareOp .Eq (.ref l) (.ref b)) Q E s := by
  obtain ⟨⟨cls, dd, data, sl⟩, ho, hc, n, hd⟩ := id hl
  obtain ⟨⟨cls2, dd2, data2, sl2⟩, ho2, hc2, n2, hd2⟩ := id hb
  simp only at hc hd hc2 hd2
  subst hc hd hc2 hd2
  have hT : s.TypeIs (.ref l) "list" := ⟨_, ho, rfl⟩
  have hT2 : s.TypeIs (.ref b) "list" := ⟨_, ho2, rfl⟩
  refine wpAny_richCompare_same_room (op := .Eq) hT hT2 PySem.F.slot_list_eq (wpAny_call (codeAny_call_builtin PySem.F.slot_list_eq.plain PySem.F.entry_list_eq (PySem.F.slot_list_eq.check _ _ _ _ _ _ _ _ hT (PySem.F.args_list_eq_2 _ _) ?_))) hu
  have h' : wants (fun v s' => v ≠ .notImplemented ∧ Q v s') E (.ok (.ret (.bool true))) s := ⟨(fun x => nomatch x), h⟩
  obtain ⟨hp, g, d, tk, os⟩ := s
  have f3 := AutoSeq1.sub_list_list
  have hne : ¬ (items.size != items2.size) = true := by simp [hsz]
  wp_walk using wpAny_loadPart' ho, wpAny_loadPart' ho2
  exact ⟨plainId_quiet plain_eq_loop _, codeAny_builtin entry_eq_loop (by
    rw [Around.under_plainId plain_eq_loop _]
    exact eq_loopW l b items items2 n n2 dd dd2 sl sl2 hsz _ 0 rfl A _ _ ⟨ho, ho2, he, h'⟩)⟩
end

theorem pairs_uniq {w : World} : ∀ {es : List DictEntry} {k1 k2 : List (Str × Value)}, Pairs (PySem.strKind PR w) es k1 → Pairs (PySem.strKind PR w) es k2 → k1 = k2 := by
  intro es k1 k2 h1
  induction h1 generalizing k2 with
  | nil => intro h2; cases h2; rfl
  | cons h hv r ih =>
    intro h2
    cases h2 with
    | cons h' hv' r' =>
      rename_i kv1 _ _ kv2 _
      have e1 : kv1.1 = kv2.1 := (PySem.strKind PR w).inj _ _ _ h h'
      have e2 : kv1.2 = kv2.2 := hv.symm.trans hv'
      rw [ih r', Prod.ext e1 e2]
theorem DictAt.uniq {w : World} {h : Heap} {a : Addr} {k1 k2 : List (Str × Value)} (D1 : DictAt w h a k1) (D2 : DictAt w h a k2) : k1 = k2 := by
  obtain ⟨_, o, es, ep, ho, _, hd, _, hp, _⟩ := D1
  obtain ⟨_, o', es', ep', ho', _, hd', _, hp', _⟩ := D2
  rw [ho] at ho'
  cases ho'
  rw [hd] at hd'
  cases hd'
  exact pairs_uniq hp hp'

theorem tkIs_like {k1 k2 : List (Str × Value)} {md : Option Bool} {raw : Str} (I1 : TkIs k1 (.text md raw)) (I2 : TkIs k2 (.text md raw)) : k1.length = k2.length ∧ ∀ p ∈ k1, ∃ y, valueAt k2 p.1 = some y ∧ Like p.2 y := by
  cases I1 <;> cases I2 <;> refine ⟨rfl, fun p hp => ?_⟩
  · rcases List.mem_cons.mp hp with rfl | hp
    · exact ⟨_, by rfl, .str _ _ _⟩
    · rw [List.mem_singleton.mp hp]; exact ⟨_, by rfl, .str _ _ _⟩
  · rcases List.mem_cons.mp hp with rfl | hp
    · exact ⟨_, by rfl, .str _ _ _⟩
    rcases List.mem_cons.mp hp with rfl | hp
    · exact ⟨_, by rfl, .str _ _ _⟩
    · rw [List.mem_singleton.mp hp]; exact ⟨_, by rfl, .same _⟩
theorem rows_eq {w : World} {A : Around} {s : Shared} {r1 r2 : List (Addr × Obj)} {v1 v2 : Value} {j : J1} (h1 : RowIn w r1 v1 j) (h2 : RowIn w r2 v2 j) (n1 : ∀ p ∈ r1, s.heap.get? p.1 = some p.2) (n2 : ∀ p ∈ r2, s.heap.get? p.1 = some p.2) (hu : A.units < cLine) : EqW w A s v1 v2 := by
  cases j with
  | o u =>
    have e1 : v1 = u := h1
    have e2 : v2 = u := h2
    rw [e1, e2]
    exact EqW.same _
  | t live raw en =>
    obtain ⟨b1, o1, k1, rfl, m1, l1, d1, I1⟩ := h1
    obtain ⟨b2, o2, k2, rfl, m2, l2, d2, I2⟩ := h2
    obtain ⟨hl, h⟩ := tkIs_like I1 I2
    exact EqW.dicts ⟨l1, Heap.dictOf_iff.mpr ⟨o1, n1 _ m1, d1⟩⟩ ⟨l2, Heap.dictOf_iff.mpr ⟨o2, n2 _ m2, d2⟩⟩ hu hl h

theorem two_like (t1 t2 u1 u2 : PySem.Tok) (raw : Str) : (twoKvs t1 t2 raw).length = (twoKvs u1 u2 raw).length ∧ ∀ p ∈ twoKvs t1 t2 raw, ∃ y, valueAt (twoKvs u1 u2 raw) p.1 = some y ∧ Like p.2 y := by
  refine ⟨rfl, fun p hp => ?_⟩
  rcases List.mem_cons.mp hp with rfl | hp
  · exact ⟨_, by rfl, .str _ _ _⟩
  · rw [List.mem_singleton.mp hp]; exact ⟨_, by rfl, .str _ _ _⟩
theorem same_like {k : List (Str × Value)} (hn : (k.map (·.1)).Nodup) : k.length = k.length ∧ ∀ p ∈ k, ∃ y, valueAt k p.1 = some y ∧ Like p.2 y := ⟨rfl, fun p hp => by
  obtain ⟨i, hi⟩ := List.mem_iff_getElem?.mp hp
  exact ⟨p.2, valueAt_get hn hi, .same _⟩⟩
theorem bares_eq {w : World} {A : Around} {s : Shared} {h1 h2 : Heap} {v1 v2 : Value} {j : J1} (x1 : BareAt w h1 s.heap v1 j) (x2 : BareAt w h2 s.heap v2 j) (k1 : h1.StaysIn s.heap) (k2 : h2.StaysIn s.heap) (hu : A.units < cLine) : EqW w A s v1 v2 := by
  cases j with
  | t live raw en =>
    obtain ⟨b1, t1, t2, rfl, D1⟩ := x1
    obtain ⟨b2, u1, u2, rfl, D2⟩ := x2
    obtain ⟨hl, h⟩ := two_like t1 t2 u1 u2 raw
    exact EqW.dicts D1 D2 hu hl h
  | o u =>
    obtain ⟨a1, b1, kvs1, e1, rfl, D1, D1'⟩ := x1
    obtain ⟨a2, b2, kvs2, e2, rfl, D2, D2'⟩ := x2
    rw [e1] at e2
    cases e2
    have e := DictAt.uniq (D1.keeps k1) (D2.keeps k2)
    subst e
    obtain ⟨hl, h⟩ := same_like D2'.nodup
    exact EqW.dicts D1' D2' hu hl h

theorem get_is {h h' : Heap} {l : List (Addr × Obj)} (B : Born h h' l) : ∀ p ∈ l, h'.get? p.1 = some p.2 := fun p hp => (B p hp).1
section
variable {w : World} {A : Around} {E : Value → Shared → Prop} {s : Shared} {p : Program} {loose : List Str} {mean : ExcName → Option Value} {mg mb : Str → Option Value}
  {h₀ : Heap} {L : Addr} {m : Str → Option Value} {news : List (Addr × Obj)} {g : Obj → List (Addr × Obj)}
theorem use_token {Q : Value → Shared → Prop} {box sc : Addr} {vs : List Value} {ns : List Int} {place acc : Int} {tp ta : PySem.Tok} {n : Nat} (hA : Ok A 1) (X : (hd.heap_39 w.params).In h₀) (T : Top p loose mean mg mb h₀)
    (F : Fr h₀ L s.heap m) (N : News h₀ L s.heap news) (U : UpdF box (listOf #[.ref sc, .int place tp, .int acc ta] n) news g)
    (hs : h₀.IsList sc vs.toArray) (hi : IntsAre vs ns) (hlen : ns.length ≤ 63) (ha0 : 0 ≤ acc) (ha1 : acc < 2147483647)
    (ret : ∀ a o kvs tkn pl' acc' tp' ta' h' tk, 0 ≤ acc' → acc' < 2147483647 → Fr h₀ L h' m → News h₀ L h' ((a, o) :: g (listOf #[.ref sc, .int pl' tp', .int acc' ta'] n)) → NeAll a news → (a == sysModules) = false →
      o.IsDictOf (PySem.strKind PR w) kvs → TkIs kvs tkn → TkWord tkn → Q (.ref a) { s with heap := h', toks := tk }) :
    wpAny (model PR w) A (call (.ref 346) [.ref box]) Q E s := by
  obtain ⟨s1, s2, s3, s4, s5⟩ := hide_use F N U
  refine spec_token hA (X.keeps s1) (T.keeps s1) s2 (Nat.le_of_eq s3) (hs.at fun o e => s1 _ _ e) hi hlen s4 ha0 ha1 fun a o kvs tkn pl' acc' tp' ta' h' tk a0 a1 st e ea hne hn lo hd I W => ?_
  obtain ⟨F', N'⟩ := s5 h' _ st e
  have hn' := hide_none hn hne
  refine ret a o kvs tkn pl' acc' tp' ta' h' tk a0 a1 F' (fun p hp => ?_) (news_ne N hn') lo hd I W
  rcases List.mem_cons.mp hp with rfl | hp
  · refine ⟨ea, fun q => ?_, ?_⟩
    · obtain ⟨oL, _, _, hL, _⟩ := F.ns
      simp only at q
      rw [q, hL] at hn'; cases hn'
    · cases q : h₀.get? a with
      | none => rfl
      | some o' => have := F.keep _ _ q; rw [hn'] at this; cases this
  · exact N' p hp
/-- all that stands above the ground, but the frame's names and one thing that may turn -/
theorem rebase {h : Heap} {x : Addr} {o : Obj} (F : Fr h₀ L h m) (N : News h₀ L h [(x, o)]) : ∃ (g : Heap) (G : List (Addr × Obj)), (∀ b o', h.get? b = some o' → b ≠ L → b ≠ x → g.get? b = some o') ∧ News h₀ L h ([(x, o)] ++ G) ∧ (∀ p ∈ G, p.1 ≠ x) ∧ (∀ p, h.get? p.1 = some p.2 → p.1 ≠ L → p.1 ≠ x → h₀.get? p.1 = none → p ∈ G) ∧
    ∀ h' m' news', Fr h₀ L h' m' → News h₀ L h' news' → (∀ p ∈ G, p ∈ news') → g.StaysIn h' := by
  have hLf : L ∉ (List.range h.objs.size).filter fun b => b != L && b != x := by simp
  have hsub := @ownOf_sub h₀ h ((List.range h.objs.size).filter fun b => b != L && b != x)
  refine ⟨(h.hide L).hide x, ownOf h₀ ((List.range h.objs.size).filter fun b => b != L && b != x) h, fun b o' e h1 h2 => (Heap.hide_ne _ h2).trans ((Heap.hide_ne _ h1).trans e), ?_, ?_, ?_, ?_⟩
  · intro p hp
    rcases List.mem_append.mp hp with q | q
    · exact N p q
    · exact news_ownOf hLf p q
  · intro p hp
    have := hsub p hp
    simp only [List.mem_filter, Bool.and_eq_true, bne_iff_ne] at this
    exact this.2.2
  · intro p e1 e2 e3 e4
    exact mem_ownOf (by
      simp only [List.mem_filter, List.mem_range, Bool.and_eq_true, bne_iff_ne]
      exact ⟨Heap.lt_size e1, e2, e3⟩) e4 e1
  · intro h' m' news' F' N' hG b ob e
    have e1 : b ≠ x := fun q => by rw [q, Heap.hide_self] at e; cases e
    rw [Heap.hide_ne _ e1] at e
    have e2 : b ≠ L := fun q => by rw [q, Heap.hide_self] at e; cases e
    rw [Heap.hide_ne _ e2] at e
    cases q : h₀.get? b with
    | some o0 =>
      have := F.keep _ _ q
      rw [e] at this
      cases this
      exact F'.keep _ _ q
    | none =>
      have hm : (b, ob) ∈ ownOf h₀ ((List.range h.objs.size).filter fun b => b != L && b != x) h := mem_ownOf (by
        simp only [List.mem_filter, List.mem_range, Bool.and_eq_true, bne_iff_ne]
        exact ⟨Heap.lt_size e, e2, e1⟩) q e
      exact (N' _ (hG _ hm)).1
/-- what a callee has made, onto the ledger -/
theorem born_on {h h' : Heap} {l : List (Addr × Obj)} (F : Fr h₀ L h m) (N : News h₀ L h news) (k : h.StaysIn h') (B : Born h h' l) : News h₀ L h' (l ++ news) := fun p hp => by
  rcases List.mem_append.mp hp with q | q
  · refine ⟨(B p q).1, fun e => ?_, ?_⟩
    · obtain ⟨oL, _, _, hL, _⟩ := F.ns
      have := (B p q).2
      rw [e, hL] at this; cases this
    · cases e : h₀.get? p.1 with
      | none => rfl
      | some o' => have := F.keep _ _ e; rw [(B p q).2] at this; cases this
  · exact news_stays N k p q
end
def tab0 : List (Addr × Obj) := [(173, tabObj #[])]
theorem cls_tab {ps : Array Value} : NoItC (tabObj ps).cls := ⟨by show Value.none ≠ _; decide, by show Value.none ≠ _; decide, by show Value.none ≠ _; decide⟩
/-- tokens by the ledger -/
def ToksIn (w : World) (tds : List (Addr × Obj)) (ts : List (Value × Tk)) : Prop := ∀ p ∈ ts, ∃ a o kvs, p.1 = .ref a ∧ (a, o) ∈ tds ∧ (a == sysModules) = false ∧ o.IsDictOf (PySem.strKind PR w) kvs ∧ TkIs kvs p.2
theorem ToksIn.snoc {w : World} {tds : List (Addr × Obj)} {ts : List (Value × Tk)} {a : Addr} {o : Obj} {kvs : List (Str × Value)} {tkn : Tk} (H : ToksIn w tds ts) (lo : (a == sysModules) = false) (hd : o.IsDictOf (PySem.strKind PR w) kvs) (I : TkIs kvs tkn) :
    ToksIn w ((a, o) :: tds) (ts ++ [(.ref a, tkn)]) := fun p hp => by
  rcases List.mem_append.mp hp with q | q
  · obtain ⟨a', o', kvs', e, hm, r⟩ := H p q
    exact ⟨a', o', kvs', e, .tail _ hm, r⟩
  · rw [List.mem_singleton.mp q]
    exact ⟨a, o, kvs, rfl, .head _, lo, hd, I⟩
theorem ToksIn.toks {w : World} {h : Heap} {tds : List (Addr × Obj)} {ts : List (Value × Tk)} (H : ToksIn w tds ts) (k : ∀ p ∈ tds, h.get? p.1 = some p.2) : Toks w h ts := fun p hp => by
  obtain ⟨a, o, kvs, e, hm, lo, hd, I⟩ := H p hp
  exact ⟨a, kvs, e, ⟨lo, Heap.dictOf_iff.mpr ⟨o, k _ hm, hd⟩⟩, I⟩
theorem wordTks_snoc {ks : List Tk} {tk : Tk} (h : ∀ t ∈ ks, TkWord t) (hw : TkWord tk) : ∀ t ∈ ks ++ [tk], TkWord t := fun t ht => by
  rcases List.mem_append.mp ht with q | q
  · exact h t q
  · rw [List.mem_singleton.mp q]; exact hw
def tupObj (i : Array Value) (n : Nat) : Obj := { cls := .type "tuple", data := .seq i n }
theorem cls_tup {i : Array Value} {n : Nat} : NoItC (tupObj i n).cls := ⟨by show Value.type "tuple" ≠ _; decide, by show Value.type "tuple" ≠ _; decide, by show Value.type "tuple" ≠ _; decide⟩
/-- pairs of words by the ledger -/
def PairsIn (tus : List (Addr × Obj)) (vs : List Value) : Prop := ∀ v ∈ vs, ∃ a n x t y u, v = .ref a ∧ (a, tupObj #[.str x t, .str y u] n) ∈ tus ∧ x ∈ words ∧ y ∈ words
theorem PairsIn.snoc {tus : List (Addr × Obj)} {vs : List Value} {a : Addr} {n : Nat} {x y : Str} {t u : PySem.Tok} (H : PairsIn tus vs) (hx : x ∈ words) (hy : y ∈ words) : PairsIn ((a, tupObj #[.str x t, .str y u] n) :: tus) (vs ++ [.ref a]) := fun v hv => by
  rcases List.mem_append.mp hv with q | q
  · obtain ⟨a', n', x', t', y', u', e, hm, r⟩ := H v q
    exact ⟨a', n', x', t', y', u', e, .tail _ hm, r⟩
  · rw [List.mem_singleton.mp q]
    exact ⟨a, n, x, t, y, u, rfl, .head _, hx, hy⟩
section
variable {prog : Program} {w : World} {A : Around} {E : Value → Shared → Prop} {s : Shared} {env : Env} {h₀ : Heap} {x : Str} {body : List Stmt} {Q : Flow → Shared → Prop}
/-- number by number -/
theorem loopR {r : Addr} {b : Int} {n : Nat} {t u v : PySem.Tok} {m₀ : Str → Option Value} {news : List (Addr × Obj)} (J : Nat → (Str → Option Value) → List (Addr × Obj) → Prop)
    (hh : A.handled = none) (hr : IsRange s.heap r 0 b 1 t u v) (hsm : Builtin.Range.small 0 b 1 = true) (hn : Builtin.Range.rangeSize 0 b 1 = (n : Int))
    (F : Fr h₀ env.locals s.heap m₀) (N : News h₀ env.locals s.heap news) (hni : NoIt news) (hj : J 0 m₀ news)
    (turn : ∀ i k t' m₁ news₁ h tk own, i < n → NoIt news₁ → J i m₁ news₁ → (∀ p ∈ own, p.2.cls = .type "range_iterator") →
      Fr h₀ env.locals h (fun y => if y = x then some (.int k t') else m₁ y) → News h₀ env.locals h (own ++ news₁) →
      wpAny (model prog w) A (execs body env) (LPost h₀ env.locals (J (i + 1)) own { s with heap := h, toks := tk } Q) E { s with heap := h, toks := tk })
    (done : ∀ m₁ news₁ h tk, NoIt news₁ → J n m₁ news₁ → Fr h₀ env.locals h m₁ → News h₀ env.locals h news₁ → Q .next { s with heap := h, toks := tk }) :
    wpAny (model prog w) A (pyIter (.ref r)) (fun it s₂ => LoopAtV prog w A h₀ env x body Q E it s₂) E s := by
  refine wpAny_pyIter_range hr hsm ?_
  have W := Walks.range (prog := prog) (w := w) hh s.heap.objs.size 0 1 n
  rw [hn]
  let J' : Nat → (Str → Option Value) → List (Addr × Obj) → Prop := fun i m₁ news₁ => NoIt news₁ ∧ J i m₁ news₁
  refine ⟨_, _, _, n, _, _, m₀, news, J', rfl, W, ?_, ?_, ?_, ?_, F.push _, (fun p hp => ⟨Heap.get?_push_of_some _ (N p hp).1, (N p hp).2⟩), ⟨hni, hj⟩, ?_, ?_⟩
  · intro hm
    exact absurd F.ns.lt (List.mem_singleton.mp hm ▸ Nat.lt_irrefl _)
  · intro b hb
    rw [List.mem_singleton.mp hb]
    exact next_is_new F
  · intro p hp hI
    exact absurd (Heap.lt_size (N p hp).1) ((List.mem_singleton.mp hI) ▸ Nat.lt_irrefl _)
  · simpa using Heap.get?_push_size s.heap (o := { cls := .type "range_iterator", data := .fields #[rawInt 0, rawInt n, rawInt 1] }) rfl
  · rintro i v m₁ news₁ s₁ own ⟨hh', tk', rfl⟩ hin ⟨t', rfl⟩ ⟨hno, hJ⟩ hoff hown hget hall hst F₁ N₁
    have hown' : ∀ p ∈ own, p.2.cls = .type "range_iterator" := by
      intro p hp
      have e := List.mem_singleton.mp (hown p hp)
      have e2 := hget p hp
      rw [e] at e2
      have hst' := hst
      simp only [IsRangeIter] at hst' e2
      rw [hst'] at e2
      rw [← Option.some.inj e2]
    have hIown := hall _ (.head _) (next_is_new F) _ hst
    refine wpAny_mono (turn i _ t' m₁ news₁ hh' tk' own hin hno hJ hown' F₁ N₁) (fun f s₂ p => ?_) fun _ _ e => e
    have fin : (∃ h' tk m' news', s₂ = { ({ s with heap := hh', toks := tk' } : Shared) with heap := h', toks := tk } ∧ Fr h₀ env.locals h' m' ∧ News h₀ env.locals h' (own ++ news') ∧ NoIt news' ∧ J (i + 1) m' news') →
        LoopStepU h₀ env.locals [s.heap.objs.size] own (J' (i + 1)) { s with heap := hh', toks := tk' } .next s₂ := by
      rintro ⟨h', tk, m', news', e, F', N', hn', hm⟩
      refine ⟨rfl, h', tk, m', news', e, F', N', fun p hp hq => ?_, hn', hm⟩
      have hpI := List.mem_singleton.mp hq
      have e1 := news_eq N' (List.mem_append_left _ hIown) (List.mem_append_right _ (by rw [← hpI]; exact hp : (s.heap.objs.size, p.2) ∈ news'))
      exact (hn' p hp).2.1 (by rw [← e1])
    cases f with
    | ret v => exact .ret p
    | brk => exact .brk p
    | next => exact .next (fin p)
    | cont => exact .cont (fin p)
  · rintro h' tk m' news' F' N' _ ⟨hno, hJ⟩
    exact done m' news' h' tk hno hJ F' N'
end

theorem merged_all {P : J1 → Prop} (ts : List (Value × Tk)) (ht : ∀ live raw en, P (.t live raw en)) (ho : ∀ p ∈ ts, ∀ ty rest, p.2 = .obj ty rest → P (.o p.1)) : ∀ j ∈ merged1 ts, P j := by
  have aux : ∀ (l : List (Value × Tk)) (out : List J1), (∀ j ∈ out, P j) → (∀ p ∈ l, ∀ ty rest, p.2 = .obj ty rest → P (.o p.1)) → ∀ j ∈ l.foldl mstep out, P j := by
    intro l
    induction l with
    | nil => intro out h1 _; exact h1
    | cons p r ih =>
      intro out h1 h2
      rw [List.foldl_cons]
      refine ih _ ?_ fun q hq => h2 q (.tail _ hq)
      unfold mstep
      cases e : p.2 with
      | text md raw =>
        dsimp only
        split
        · exact h1
        · exact jtext_mem ht h1
      | obj ty rest =>
        intro j hj
        rcases List.mem_append.mp hj with q | q
        · exact h1 j q
        · rw [List.mem_singleton.mp q]; exact h2 p (.head _) ty rest e
  exact aux ts [] (fun _ h => nomatch h) ho
def ObjIn (w : World) (g : Heap) : J1 → Prop
  | .t .. => True
  | .o u => ∃ a kvs, u = .ref a ∧ DictAt w g a kvs
theorem objs_in {w : World} {g : Heap} {ts : List (Value × Tk)} (H : Toks w g ts) : ∀ j ∈ merged1 ts, ObjIn w g j :=
  merged_all ts (fun _ _ _ => trivial) fun p hp _ _ _ => let ⟨a, kvs, e, D, _⟩ := H p hp; ⟨a, kvs, e, D⟩
theorem BaresIn.more {w : World} {g : Heap} {bs bs' : List (Addr × Obj)} {vs : List Value} {js js' : List J1} (h : BaresIn w g bs vs js) (hs : ∀ p ∈ bs, p ∈ bs') : BaresIn w g bs' vs (js ++ js') := fun i u e => by
  obtain ⟨k, hk, q⟩ := h i u e
  exact ⟨k, by rw [List.getElem?_append_left (List.getElem?_eq_some_iff.mp hk).1]; exact hk, q.mono hs⟩
theorem mrel_in {w : World} {g h : Heap} {ds : List (Addr × Obj)} {vs : List Value} {js : List J1} (R : MRel w h ds vs js) (k : g.StaysIn h) (hP : ∀ j ∈ js, ObjIn w g j) : BaresIn w g ds vs js := by
  induction R with
  | nil => intro i v e; simp at e
  | @o ds vs js a b o ty kvs rest t R hb lo D hd e h2 ih =>
    have ih' := ih fun j hj => hP j (List.mem_append_left _ hj)
    have h3 := hP (.o (.ref a)) (List.mem_append_right _ (.head _))
    obtain ⟨a', kvs', e1, D'⟩ := h3
    cases e1
    have e2 := DictAt.uniq (D'.keeps k) D
    subst e2
    exact (BaresIn.more (js' := [.o (.ref a)]) ih' fun _ hp => hp).snoc (bs' := (b, o) :: ds) (j := .o (.ref a)) (fun _ hp => .tail _ hp) (by rw [R.len]; simp) ⟨a, b, _, rfl, rfl, D', .inr ⟨o, .head _, lo, hd⟩⟩
  | @t ds vs js b o t1 t2 raw en R hb lo hd ha ih =>
    have ih' := ih fun j hj => hP j (List.mem_append_left _ hj)
    exact (BaresIn.more (js' := [.t true raw en]) ih' fun _ hp => hp).snoc (bs' := (b, o) :: ds) (j := .t true raw en) (fun _ hp => .tail _ hp) (by rw [R.len]; simp) ⟨b, t1, t2, rfl, .inr ⟨o, .head _, lo, hd⟩⟩
theorem bare_at {w : World} {g h : Heap} {bs : List (Addr × Obj)} {v : Value} (k : g.StaysIn h) (n : ∀ p ∈ bs, h.get? p.1 = some p.2) : ∀ {j : J1}, BareIn w g bs v j → BareAt w g h v j
  | .t .., ⟨b, t1, t2, e, .inl q⟩ => ⟨b, t1, t2, e, q.keeps k⟩
  | .t .., ⟨b, t1, t2, e, .inr ⟨_, hm, lo, hd⟩⟩ => ⟨b, t1, t2, e, lo, Heap.dictOf_iff.mpr ⟨_, n _ hm, hd⟩⟩
  | .o _, ⟨a, b, kvs, e, e2, D, .inl q⟩ => ⟨a, b, kvs, e, e2, D, q.keeps k⟩
  | .o _, ⟨a, b, kvs, e, e2, D, .inr ⟨_, hm, lo, hd⟩⟩ => ⟨a, b, kvs, e, e2, D, lo, Heap.dictOf_iff.mpr ⟨_, n _ hm, hd⟩⟩
theorem TkIs.len {kvs : List (Str × Value)} {tk : Tk} (I : TkIs kvs tk) : kvs.length ≤ 100 := by
  cases I with
  | text0 => simp
  | text1 => simp
  | obj t ty rest h hr => have := hr.len; simp only [List.length_cons]; omega
theorem tok_at {w : World} {g h : Heap} {bs : List (Addr × Obj)} {v : Value} {tk : Tk} (k : g.StaysIn h) (n : ∀ p ∈ bs, h.get? p.1 = some p.2) (x : TokIn w g bs v tk) : ∃ a kvs, v = .ref a ∧ DictAt w h a kvs ∧ TkIs kvs tk := by
  rcases x with ⟨a, kvs, e, D, I⟩ | ⟨a, o, kvs, e, hm, lo, hd, I⟩
  · exact ⟨a, kvs, e, D.keeps k, I⟩
  · exact ⟨a, kvs, e, ⟨lo, Heap.dictOf_iff.mpr ⟨o, n _ hm, hd⟩⟩, I⟩
theorem bare_key {w : World} {g h : Heap} {rds : List (Addr × Obj)} {v : Value} {j : J1} {tk : Tk} (k : g.StaysIn h) (n : ∀ p ∈ rds, h.get? p.1 = some p.2) (x : JTk w g rds v j tk) :
    ∃ a kvs, v = .ref a ∧ DictAt w h a kvs ∧ kvs.length ≤ 100 ∧ ∀ b o bs', (b, o) ∈ bs' → (b == sysModules) = false → o.IsDictOf (PySem.strKind PR w) (strip kvs) → BareIn w g bs' (.ref b) j := by
  cases j with
  | t live raw en =>
    obtain ⟨q, md, rfl, _⟩ := x
    obtain ⟨a, kvs, e, D, I⟩ := tok_at k n q
    obtain ⟨t1, t2, e2⟩ := strip_text I
    exact ⟨a, kvs, e, D, I.len, fun b o bs' hm lo hd => ⟨b, t1, t2, rfl, .inr ⟨o, hm, lo, by rw [← e2]; exact hd⟩⟩⟩
  | o u =>
    obtain ⟨rfl, ⟨a, kvs, e, D, I⟩, _⟩ := x
    exact ⟨a, kvs, e, D.keeps k, I.len, fun b o bs' hm lo hd => ⟨a, b, kvs, e, rfl, D, .inr ⟨o, hm, lo, hd⟩⟩⟩
/-- a copy of a token, by the ledger -/
def CopyIn (w : World) (g : Heap) (fds : List (Addr × Obj)) (u v : Value) : Prop := ∃ a kvs b o, u = .ref a ∧ DictAt w g a kvs ∧ v = .ref b ∧ (b, o) ∈ fds ∧ (b == sysModules) = false ∧ o.IsDictOf (PySem.strKind PR w) kvs
theorem CopyIn.mono {w : World} {g : Heap} {f1 f2 : List (Addr × Obj)} {u v : Value} (hs : ∀ p ∈ f1, p ∈ f2) : CopyIn w g f1 u v → CopyIn w g f2 u v
  | ⟨a, kvs, b, o, e1, D, e2, hm, r⟩ => ⟨a, kvs, b, o, e1, D, e2, hs _ hm, r⟩
def CopiesIn (w : World) (g : Heap) (fds : List (Addr × Obj)) (us vs : List Value) : Prop := us.length = vs.length ∧ ∀ (i : Nat) (u v : Value), us[i]? = some u → vs[i]? = some v → CopyIn w g fds u v
theorem CopiesIn.snoc {w : World} {g : Heap} {f1 f2 : List (Addr × Obj)} {us vs : List Value} {u v : Value} (H : CopiesIn w g f1 us vs) (hs : ∀ p ∈ f1, p ∈ f2) (h : CopyIn w g f2 u v) : CopiesIn w g f2 (us ++ [u]) (vs ++ [v]) := by
  refine ⟨by simp [H.1], fun i u' v' e1 e2 => ?_⟩
  rcases get_snoc e1 with ⟨hi, e1⟩ | ⟨hi, rfl⟩
  · rcases get_snoc e2 with ⟨_, e2⟩ | ⟨hi2, rfl⟩
    · exact (H.2 i u' v' e1 e2).mono hs
    · have := H.1; omega
  · rcases get_snoc e2 with ⟨hi2, e2⟩ | ⟨hi2, rfl⟩
    · have := H.1; omega
    · exact h
theorem copy_eq {w : World} {A : Around} {s : Shared} {g : Heap} {fds : List (Addr × Obj)} {u v : Value} (x : CopyIn w g fds u v) (k : g.StaysIn s.heap) (n : ∀ p ∈ fds, s.heap.get? p.1 = some p.2) (hu : A.units < cLine) : EqW w A s u v := by
  obtain ⟨a, kvs, b, o, rfl, D, rfl, hm, lo, hd⟩ := x
  have D2 : DictAt w s.heap b kvs := ⟨lo, Heap.dictOf_iff.mpr ⟨o, n _ hm, hd⟩⟩
  obtain ⟨hl, h⟩ := same_like D2.nodup
  exact EqW.dicts (D.keeps k) D2 hu hl h
section
variable {w : World} {A : Around} {E : Value → Shared → Prop} {s : Shared} {p : Program} {loose : List Str} {mean : ExcName → Option Value} {mg mb : Str → Option Value}
  {h₀ : Heap} {L : Addr} {m : Str → Option Value} {news : List (Addr × Obj)}
theorem use_copy {Q : Value → Shared → Prop} {a : Addr} {kvs : List (Str × Value)} (T : Top p loose mean mg mb h₀) (F : Fr h₀ L s.heap m) (N : News h₀ L s.heap news) (D : DictAt w s.heap a kvs) (hz : kvs.length ≤ 100)
    (ret : ∀ b o h', Fr h₀ L h' m → News h₀ L h' ((b, o) :: news) → NeAll b news → (b == sysModules) = false → o.IsDictOf (PySem.strKind PR w) kvs → Q (.ref b) { s with heap := h' }) :
    wpAny (model PR w) A (call (.type "dict") [.ref a]) Q E s := by
  refine kt_call_dict D.1 D.2 (by rw [sizeLine_eq]; omega) fun h' hm hs => ?_
  obtain ⟨o', ho', hd'⟩ := Heap.dictOf_iff.mp hm
  have N1 := News.push F N { cls := .type "dict", data := .dict #[] }
  exact ret _ o' h' ((F.push _).change hs (N1 _ (.head _)).2.1 (N1.fresh (.head _))) (N1.setHead N.apart hs ho') N.apart (F.notModules (modules_low (Top.nolimit T))) hd'
theorem use_finalize {Q : Value → Shared → Prop} {tabs rest : List (Addr × Obj)} {l : Addr} {ts : List (Value × Tk)} {en : Bool} {dt : PySem.Tok} (hA : Ok A 3) (X : (hd.heap_39 w.params).In h₀) (T : Top p loose mean mg mb h₀) (C : CodeHd h₀ 177 173)
    (F : Fr h₀ L s.heap m) (N : News h₀ L s.heap (tabs ++ rest)) (hT : TabL 173 flushLine flushCol flushQual tabs) (hr : ∀ p ∈ rest, p.1 ≠ 173) (hl : s.heap.IsList l (vals ts).toArray) (H : Toks w s.heap ts) (W : WordTks (tks ts)) (hen : en = false ∨ markedOf (tks ts) = false)
    (ret : ∀ r rvs tabs' h₂ h' tk, Fr h₀ L h' m → TabL 173 flushLine flushCol flushQual tabs' → (∀ p ∈ tabs, p.1 ≠ 173 → p ∈ tabs') → News h₀ L h' (tabs' ++ rest) → h₂.StaysIn h' → h'.IsList r rvs.toArray → Bares w h₂ h' rvs (joined ts) → Q (.ref r) { s with heap := h', toks := tk }) :
    wpAny (model PR w) A (call (.ref 171) [.ref l, .bool en, .int 3 dt]) Q E s := by
  have Nt : ∀ p ∈ tabs, s.heap.get? p.1 = some p.2 := fun p hp => (N p (List.mem_append_left _ hp)).1
  have st : h₀.StaysIn (hideAll s.heap (tabs.map (·.1))) := fun b o e => hideAll_get _ (F.keep b o e) fun q => by
    obtain ⟨p, hp, e2⟩ := List.mem_map.mp q
    have := (N p (List.mem_append_left _ hp)).2.2
    rw [e2, e] at this; cases this
  refine spec_finalize hA (X.keeps st) (T.keeps st) (C.keeps st) (fun b o e => of_hideAll _ e) (Nat.le_of_eq (hideAll_size _ _)) (fun p hp => ⟨Nt p hp, hideAll_none _ (List.mem_map_of_mem hp)⟩) hT (tabs_list hT Nt hl) (tabs_toks hT Nt H) W hen
    fun r rvs tabs' h' tk k hT' hm hb hl' R => ?_
  obtain ⟨F', N'⟩ := tabs_after (born := []) F N hT hr k hm (fun p hp => hb p (by simpa using hp))
  rw [List.append_nil] at N'
  exact ret r rvs tabs' _ h' tk F' hT' hm N' k hl' R
end
def lenOf (ks : List Tk) : Nat := ks.foldl (fun n tk => n + srcLen tk) 0
theorem lenOf_snoc (ks : List Tk) (tk : Tk) : lenOf (ks ++ [tk]) = lenOf ks + srcLen tk := by simp [lenOf, List.foldl_append]
theorem piece_srcLen (tk : Tk) : (piece tk).length = srcLen tk := by
  cases tk with
  | text md raw => rfl
  | obj ty rest =>
    show (if _ then _ else _ : Str).length = 1
    split <;> decide +kernel
theorem srcOf_lenOf (ks : List Tk) : (srcOf ks).length = lenOf ks := by
  have aux : ∀ (l : List Tk) (a : Str) (n : Nat), a.length = n → (l.foldl (fun a tk => a ++ piece tk) a).length = l.foldl (fun n tk => n + srcLen tk) n := by
    intro l
    induction l with
    | nil => intro a n h; exact h
    | cons tk r ih =>
      intro a n h
      rw [List.foldl_cons, List.foldl_cons]
      exact ih _ _ (by rw [Str.length_append, h, piece_srcLen])
  exact aux ks _ _ (by decide +kernel)

theorem letGo_listiter {prog : Program} {w : World} {A : Around} {E : Value → Shared → Prop} {s : Shared} {elts : List Expr} {x1 : Nat} {pos : Pos} {I l : Addr} {i : Nat} {v : Value} {Q : Unit → Shared → Prop} (hit : s.heap.IsListIter I l i) (hQ : Q () s) :
    wpAny (model prog w) A (letOwnedTupleGo (.Tuple elts x1 pos) (.ref I) v) Q E s := by
  cases v with
  | ref T => exact wpAny_letOwnedTupleGo_listiter hit hQ
  | _ => exact wpAny_pure hQ
section
variable {prog : Program} {w : World} {A : Around} {E : Value → Shared → Prop} {s : Shared} {env : Env} {h₀ : Heap} {xi xc : Str} {body : List Stmt} {Q : Flow → Shared → Prop} {pk pv pt : Pos} {x1 : Nat}
/-- pair by pair, nothing made or turned but the frame's names -/
theorem loopP {l : Addr} {vs : List Value} {m₀ : Str → Option Value} {news : List (Addr × Obj)} (J : (Str → Option Value) → Prop)
    (hh : A.handled = none) (hl : s.heap.IsList l vs.toArray) (F : Fr h₀ env.locals s.heap m₀) (N : News h₀ env.locals s.heap news) (hj : J m₀)
    (hxi : env.kindOf xi = some .local) (hxc : env.kindOf xc = some .local)
    (hp : (env.scope.kind == .class || (env.scope.kind == .module && env.locals != env.globals)) = false)
    (tup : ∀ v ∈ vs, ∃ T x t y u, v = .ref T ∧ x ∈ words ∧ y ∈ words ∧ ∀ h' m' own, Fr h₀ env.locals h' m' → News h₀ env.locals h' (own ++ news) → h'.IsTuple T #[.str x t, .str y u])
    (turn : ∀ x t y u m₁ h tk own, x ∈ words → y ∈ words → J m₁ → Fr h₀ env.locals h (fun z => if z = xc then some (.str y u) else if z = xi then some (.str x t) else m₁ z) → News h₀ env.locals h (own ++ news) →
      wpAny (model prog w) A (execs body env) (SPost h₀ env.locals J (own ++ news) { s with heap := h, toks := tk } Q) E { s with heap := h, toks := tk })
    (done : ∀ m₁ h tk, J m₁ → Fr h₀ env.locals h m₁ → News h₀ env.locals h news → Q .next { s with heap := h, toks := tk }) :
    wpAny (model prog w) A (pyIter (.ref l)) (fun it s₂ => UnrAt prog w A h₀ env (.Tuple [.Name xi pk, .Name xc pv] x1 pt) body Q E it s₂) E s := by
  obtain ⟨ol, hol, hcl, nl, hdl⟩ := id hl
  have hlt : l < s.heap.objs.size := Heap.lt_size hol
  have hne : l ≠ s.heap.objs.size := Nat.ne_of_lt hlt
  have hLl : env.locals ≠ l := by
    rintro rfl
    obtain ⟨oL, es, ep, hL, hd, _⟩ := F.ns
    rw [hol] at hL
    cases hL
    rw [hdl] at hd
    cases hd
  refine wpAny_pyIter_list hl ?_
  have W := Walks.list (prog := prog) (w := w) hh s.heap.objs.size l hne vs.toArray
  rw [show vs.toArray.size = vs.length by simp] at W
  refine ⟨_, _, _, vs.length, _, _, m₀, news, rfl, W, ?_, ?_, ?_, ⟨⟨_, Heap.get?_push_size _ rfl, rfl, rfl⟩, hl.at fun o e => Heap.get?_push_of_some _ e⟩, F.push _, (fun p hp => ⟨Heap.get?_push_of_some _ (N p hp).1, (N p hp).2⟩), ?_, ?_⟩
  · intro hm
    rcases List.mem_cons.mp hm with e | hm
    · exact absurd F.ns.lt (e ▸ Nat.lt_irrefl _)
    · exact hLl (List.mem_singleton.mp hm)
  · intro b hb
    rw [List.mem_singleton.mp hb]
    exact next_is_new F
  · intro p hp hI
    exact absurd (Heap.lt_size (N p hp).1) ((List.mem_singleton.mp hI) ▸ Nat.lt_irrefl _)
  · intro i s' v Q' hst hq
    exact letGo_listiter hst.1 hq
  · have aux : ∀ (k i : Nat) (m₁ : Str → Option Value), i + k = vs.length → J m₁ → Unr prog w A E h₀ env (.Tuple [.Name xi pk, .Name xc pv] x1 pt) body Q (fun i v => vs.toArray[i]? = some v) [s.heap.objs.size, l]
        { s with heap := s.heap.push { cls := .type "list_iterator", data := .fields #[.ref l, .int 0 0] } } k i m₁ news := by
      intro k
      induction k with
      | zero => exact fun i m₁ hi hJ => Unr.zero fun h' tk F' N' => done m₁ h' tk hJ F' N'
      | succ k ih =>
        intro i m₁ hi hJ
        refine Unr.succ fun v h₁ tk₁ own hP hown F₁ N₁ => ?_
        have hv : v ∈ vs := List.mem_of_getElem? (by simpa using hP : vs[i]? = some v)
        obtain ⟨T, x, t, y, u, rfl, hx, hy, ht⟩ := tup v hv
        refine wpAny_assign_Tuple hh (ht h₁ m₁ own F₁ N₁) rfl rfl fun h₃ hx₃ => ?_
        replace hx₃ : Heap.ExtBut h₁.objs.size h₁ h₃ := hx₃
        have up₃ : ∀ b o, h₁.get? b = some o → h₃.get? b = some o := fun b o z => hx₃ b o (Nat.ne_of_lt (Heap.lt_size z)) z
        have F₃ : Fr h₀ env.locals h₃ m₁ := F₁.keeps up₃
        have N₃ : News h₀ env.locals h₃ (own ++ news) := fun p hp => ⟨up₃ _ _ (N₁ p hp).1, (N₁ p hp).2⟩
        show wpAny _ A (do holding [Value.str y u] (assign (.Name xi pk) env (Value.str x t)); do holding [] (assign (.Name xc pv) env (Value.str y u)); pure ()) _ _ _
        refine wpAny_bind (wpAny_holding (wpAny_assign_Name (wpAny_storeName_local hxi F₃.ns (fun h₄ hn₄ hs₄ => ?_) hp)))
        replace hs₄ : Heap.SameBut env.locals h₃ h₄ := hs₄
        have F₄ := F₃.set hn₄ hs₄
        refine wpAny_bind (wpAny_holding (wpAny_assign_Name (wpAny_storeName_local hxc F₄.ns (fun h₅ hn₅ hs₅ => wpAny_pure ?_) hp)))
        replace hs₅ : Heap.SameBut env.locals h₄ h₅ := hs₅
        have F₅ := F₄.set hn₅ hs₅
        have N₅ : News h₀ env.locals h₅ (own ++ news) := (N₃.set hs₄).set hs₅
        refine wpAny_mono (turn x t y u m₁ h₅ _ own hx hy hJ F₅ N₅) (fun f s₂ p => ?_) fun _ _ e => e
        cases f with
        | ret v => exact LoopStep3.ret p
        | brk => exact LoopStep3.brk p
        | next =>
          obtain ⟨h', tk, m', e, F', N', hm⟩ := p
          exact LoopStep3.next ⟨rfl, h', tk, m', news, e, F', N', rfl, ih (i + 1) m' (by omega) hm⟩
        | cont =>
          obtain ⟨h', tk, m', e, F', N', hm⟩ := p
          exact LoopStep3.cont ⟨rfl, h', tk, m', news, e, F', N', rfl, ih (i + 1) m' (by omega) hm⟩
    exact aux _ 0 m₀ (by omega) hj
end

theorem vals_snoc (ts : List (Value × Tk)) (v : Value) (t : Tk) : vals (ts ++ [(v, t)]) = vals ts ++ [v] := by simp [vals]
theorem tks_snoc (ts : List (Value × Tk)) (v : Value) (t : Tk) : tks (ts ++ [(v, t)]) = tks ts ++ [t] := by simp [tks]
def tab1 : Addr × Obj := (173, tabObj #[])
def TokInv (w : World) (lt lb sc : Addr) (i : Nat) (m : Str → Option Value) (news : List (Addr × Obj)) : Prop :=
  ∃ (ts : List (Value × Tk)) (n : Nat) (pl acc : Int) (tp ta : PySem.Tok) (tds : List (Addr × Obj)), news = (lt, listOf (vals ts).toArray n) :: (lb, listOf #[Value.ref sc, Value.int pl tp, Value.int acc ta] 0) :: (tds ++ [tab1]) ∧
    ts.length = i ∧ ToksIn w tds ts ∧ (∀ t ∈ tks ts, TkWord t) ∧ DictsIn w tds ∧ 0 ≤ acc ∧ acc < 2147483647 ∧ (∀ p ∈ tds ++ [tab1], p.1 ≠ lt ∧ p.1 ≠ lb) ∧ m (Str.ofString "box") = some (.ref lb) ∧ m (Str.ofString "tokens") = some (.ref lt)
theorem tok_step {h₀ h : Heap} {L a lt lb : Addr} {o t b : Obj} {tds own rst : List (Addr × Obj)} (N : News h₀ L h ((a, o) :: (lt, t) :: (lb, b) :: rst)) (hr : (tds ++ [tab1]) ++ own = rst) :
    News h₀ L h (own ++ ((lt, t) :: (lb, b) :: (((a, o) :: tds) ++ [tab1]))) := by
  subst hr
  refine news_sub N fun p hp => ?_
  simp only [List.mem_append, List.mem_cons, List.not_mem_nil, or_false] at hp ⊢
  rcases hp with h | h | h | (h | h) | h <;> simp [h]
theorem tok_rest {h₀ h : Heap} {L lt lb : Addr} {t b : Obj} {tds own : List (Addr × Obj)} (N : News h₀ L h (own ++ ((lt, t) :: (lb, b) :: (tds ++ [tab1])))) :
    News h₀ L h ((lt, t) :: (lb, b) :: ((tds ++ [tab1]) ++ own)) := by
  refine news_sub N fun p hp => ?_
  simp only [List.mem_append, List.mem_cons, List.not_mem_nil, or_false] at hp ⊢
  rcases hp with h | h | (h | h) | h <;> simp [h]
def PairInv (lt lp lb sc : Addr) (rst0 : List (Addr × Obj)) (m : Str → Option Value) (news : List (Addr × Obj)) (i : Nat) : Prop :=
  ∃ (ps : List Value) (n : Nat) (pl acc : Int) (tp ta : PySem.Tok) (tus : List (Addr × Obj)), news = (lp, listOf ps.toArray n) :: (lb, listOf #[Value.ref sc, Value.int pl tp, Value.int acc ta] 0) :: (tus ++ rst0) ∧
    ps.length = i ∧ PairsIn tus ps ∧ NoIt tus ∧ 0 ≤ acc ∧ acc < 2147483647 ∧ (∀ p ∈ tus ++ rst0, p.1 ≠ lp ∧ p.1 ≠ lb) ∧ m (Str.ofString "box") = some (.ref lb) ∧ m (Str.ofString "pairs") = some (.ref lp) ∧ m (Str.ofString "tokens") = some (.ref lt)
theorem tok_swap {h₀ h : Heap} {L lt lb : Addr} {t b : Obj} {tds : List (Addr × Obj)} (N : News h₀ L h ((lt, t) :: (lb, b) :: tds)) : News h₀ L h ((lb, b) :: ((lt, t) :: tds)) := by
  refine news_sub N fun p hp => ?_
  simp only [List.mem_cons] at hp ⊢
  rcases hp with h | h | h <;> simp [h]
theorem pair_rest {h₀ h : Heap} {L lp lb : Addr} {t b : Obj} {tus rst0 own : List (Addr × Obj)} (N : News h₀ L h (own ++ ((lp, t) :: (lb, b) :: (tus ++ rst0)))) :
    News h₀ L h ((lp, t) :: (lb, b) :: ((tus ++ rst0) ++ own)) := by
  refine news_sub N fun p hp => ?_
  simp only [List.mem_append, List.mem_cons] at hp ⊢
  rcases hp with h | h | (h | h) | h <;> simp [h]
theorem named {h₀ h : Heap} {L a : Addr} {o : Obj} {r : List (Addr × Obj)} (_ : News h₀ L h ((a, o) :: r)) : ∃ b : Addr, b = a := ⟨a, rfl⟩
theorem pair_step {h₀ h : Heap} {L lp lb D r1 r2 : Addr} {t b T a1 a2 : Obj} {tus rst0 own rst : List (Addr × Obj)} (N : News h₀ L h ((D, T) :: (r1, a1) :: (r2, a2) :: (lp, t) :: (lb, b) :: rst)) (hr : (tus ++ rst0) ++ own = rst) :
    News h₀ L h (own ++ ((lp, t) :: (lb, b) :: (((D, T) :: tus) ++ rst0))) := by
  subst hr
  refine news_sub N fun p hp => ?_
  simp only [List.mem_append, List.mem_cons] at hp ⊢
  rcases hp with h | h | h | (h | h) | h <;> simp [h]
theorem to_g {h₀ h g : Heap} {L : Addr} {news : List (Addr × Obj)} {ps : Array Value} (N : News h₀ L h news) (hg : ∀ b o', h.get? b = some o' → b ≠ L → b ≠ 173 → g.get? b = some o') (hm : ((173 : Addr), tabObj ps) ∈ news) {p : Addr × Obj} (hp : p ∈ news) (hc : p.2.cls ≠ .none) : g.get? p.1 = some p.2 := by
  refine hg _ _ (N p hp).1 (N p hp).2.1 fun e => hc ?_
  have := news_eq N hm (by rw [← e]; exact hp : ((173 : Addr), p.2) ∈ news)
  rw [← this]
def TupsAt (g : Heap) (vs : List Value) : Prop := ∀ v ∈ vs, ∃ T x t y u, v = .ref T ∧ x ∈ words ∧ y ∈ words ∧ g.IsTuple T #[.str x t, .str y u]
theorem PairsIn.at {g : Heap} {tus : List (Addr × Obj)} {vs : List Value} (H : PairsIn tus vs) (k : ∀ p ∈ tus, p.2.cls ≠ .none → g.get? p.1 = some p.2) : TupsAt g vs := fun v hv => by
  obtain ⟨a, n, x, t, y, u, e, hm, hx, hy⟩ := H v hv
  exact ⟨a, x, t, y, u, e, hx, hy, _, k _ hm (by show Value.type "tuple" ≠ _; exact nofun), rfl, n, rfl⟩
theorem DictsIn.cls {w : World} {ds : List (Addr × Obj)} (h : DictsIn w ds) : ∀ p ∈ ds, p.2.cls ≠ .none := fun p hp => by
  obtain ⟨_, es, ep, hx, _⟩ := h p hp
  rw [hx.1]; exact nofun

theorem body_eq {K : Frag} {a : Addr} {name qual name' qual' : Str} {params params' : Arguments} {body body' : List Stmt} {scope scope' : Scope} {dV kV doc pm cdv ct oc dV' kV' doc' pm' cdv' ct' oc' : Value} {an od an' od' : Option Addr} {osl osl' : Array (Option Value)}
    (h1 : K.lookup a = some ⟨oc, od, .func (fnOf name qual params body scope dV kV doc pm an cdv ct), osl⟩) (h2 : K.lookup a = some ⟨oc', od', .func (fnOf name' qual' params' body' scope' dV' kV' doc' pm' an' cdv' ct'), osl'⟩) :
    body' = body ∧ scope' = scope ∧ qual' = qual := by
  rw [h1] at h2
  have e := Option.some.inj h2
  injection e with _ _ e
  injection e with e
  unfold fnOf at e
  injection e
  exact ⟨(FuncBody.stmts.inj (by assumption)).symm, Eq.symm (by assumption), Eq.symm (by assumption)⟩

section
variable {w : World} {A : Around} {E : Value → Shared → Prop} {s : Shared} {h₀ : Heap} {L : Addr} {m : Str → Option Value}
theorem step_on {h h' : Heap} {tabs rest l : List (Addr × Obj)} (F : Fr h₀ L h m) (N : News h₀ L h (tabs ++ rest)) (hr : ∀ p ∈ rest, p.1 ≠ 173) (hT : TabL 173 flushLine flushCol flushQual tabs) (k : h.StaysIn h') (B : Born h h' l) :
    ∃ rest', Fr h₀ L h' m ∧ News h₀ L h' (tabs ++ rest') ∧ (∀ p ∈ rest', p.1 ≠ 173) ∧ (∀ p ∈ rest, p ∈ rest') ∧ (∀ p ∈ l, p ∈ rest') := by
  have h3 : ∃ o, ((173 : Addr), o) ∈ tabs := by cases hT <;> exact ⟨_, .head _⟩
  obtain ⟨o, h3⟩ := h3
  refine ⟨l ++ rest, fr_stays F k, fun p hp => born_on F N k B p ?_, fun p hp => ?_, fun p hp => List.mem_append_right _ hp, fun p hp => List.mem_append_left _ hp⟩
  · simp only [List.mem_append] at hp ⊢
    rcases hp with q | q | q <;> simp [q]
  · rcases List.mem_append.mp hp with q | q
    · intro e
      have := (B p q).2
      rw [e, (N _ (List.mem_append_left _ h3)).1] at this
      cases this
    · exact hr p q
/-- the same where the walk itself has made them -/
theorem step_new {h : Heap} {tabs rest l news : List (Addr × Obj)} (N : News h₀ L h news) (hs : ∀ p, p ∈ tabs ∨ p ∈ rest ∨ p ∈ l → p ∈ news) (hr : ∀ p ∈ rest, p.1 ≠ 173) (hl : ∀ p ∈ l, p.1 ≠ 173) :
    ∃ rest', News h₀ L h (tabs ++ rest') ∧ (∀ p ∈ rest', p.1 ≠ 173) ∧ (∀ p ∈ rest, p ∈ rest') ∧ (∀ p ∈ l, p ∈ rest') :=
  ⟨l ++ rest, fun p hp => N p (hs p (by simp only [List.mem_append] at hp; rcases hp with q | q | q <;> simp [q])), fun p hp => (List.mem_append.mp hp).elim (hl p) (hr p), fun p hp => List.mem_append_right _ hp, fun p hp => List.mem_append_left _ hp⟩
end
theorem tab_grown {tabs : List (Addr × Obj)} (hT : TabL 173 flushLine flushCol flushQual tabs) : ∃ ps, ((173 : Addr), tabObj ps) ∈ tabs := by
  cases hT <;> exact ⟨_, .head _⟩
theorem oldOr_of {B : Nat} {w : World} {a : Addr} {o : Obj} {fds old : List (Addr × Obj)} (h1 : @LT.lt Nat _ a B) (h2 : DictsIn w fds) (h3 : ∀ p ∈ old, @LT.lt Nat _ p.1 B) : OldOr B ((a, o) :: (fds ++ old)) := fun p hp => by
  rcases List.mem_cons.mp hp with rfl | hp
  · exact .inl h1
  · rcases List.mem_append.mp hp with q | q
    · exact .inr (h2.noIt p q)
    · exact .inl (h3 p q)
theorem loop_rest {h₀ h : Heap} {L a : Addr} {o : Obj} {fds old own : List (Addr × Obj)} (N : News h₀ L h (own ++ ((a, o) :: (fds ++ old)))) : News h₀ L h ((a, o) :: ((fds ++ old) ++ own)) := by
  refine news_sub N fun p hp => ?_
  simp only [List.mem_append, List.mem_cons] at hp ⊢
  rcases hp with h | (h | h) | h <;> simp [h]
theorem loop_step {h₀ h : Heap} {L a b : Addr} {o d : Obj} {fds old own rst : List (Addr × Obj)} (N : News h₀ L h ((b, d) :: (a, o) :: rst)) (hs : (fds ++ old) ++ own = rst) : News h₀ L h (own ++ ((a, o) :: (((b, d) :: fds) ++ old))) := by
  subst hs
  refine news_sub N fun p hp => ?_
  simp only [List.mem_append, List.mem_cons] at hp ⊢
  rcases hp with h | h | (h | h) | h <;> simp [h]
theorem own_neB {l b : Addr} {B : Nat} {own : List (Addr × Obj)} (hown : ∀ p ∈ own, p.1 = l ∨ p.1 = B) (h1 : b ≠ l) (h2 : @LT.lt Nat _ b B) : ∀ p ∈ own, p.1 ≠ b := fun p hp e => by
  rcases hown p hp with q | q
  · exact h1 (e.symm.trans q)
  · rw [e] at q
    exact Nat.ne_of_lt h2 q
def CopyInv (w : World) (g : Heap) (bf lt lp : Addr) (us : List Value) (old : List (Addr × Obj)) (m : Str → Option Value) (news : List (Addr × Obj)) : Prop :=
  ∃ (items : List Value) (n : Nat) (fds : List (Addr × Obj)), news = (bf, listOf items.toArray n) :: (fds ++ old) ∧ CopiesIn w g fds us items ∧ DictsIn w fds ∧ (∀ p ∈ fds, p.1 ≠ bf ∧ p.1 ≠ 173) ∧
    m (Str.ofString "before") = some (.ref bf) ∧ m (Str.ofString "tokens") = some (.ref lt) ∧ m (Str.ofString "pairs") = some (.ref lp)
theorem CopiesIn.nil {w : World} {g : Heap} {us : List Value} : CopiesIn w g [] (us.take 0) [] := ⟨rfl, fun i u v e => by rw [List.take_zero] at e; simp at e⟩
def NamesIn (m : Str → Option Value) : List (Str × Value) → Prop
  | [] => True
  | (x, v) :: r => m x = some v ∧ NamesIn m r
def NeNames (x : Str) : List (Str × Value) → Prop
  | [] => True
  | (y, _) :: r => y ≠ x ∧ NeNames x r
def over (m : Str → Option Value) : List (Str × Value) → Str → Option Value
  | [] => m
  | (x, v) :: r => fun y => if y = x then some v else over m r y
theorem over_eq {m : Str → Option Value} : ∀ {l : List (Str × Value)}, NamesIn m l → over m l = m
  | [], _ => rfl
  | (x, v) :: r, h => by
    funext y
    show (if y = x then some v else over m r y) = m y
    rw [over_eq h.2]
    by_cases hy : y = x
    · rw [if_pos hy, hy, h.1]
    · rw [if_neg hy]
theorem fr_over {h₀ h : Heap} {L : Addr} {m : Str → Option Value} {l : List (Str × Value)} (F : Fr h₀ L h m) (H : NamesIn m l) : Fr h₀ L h (over m l) := by rw [over_eq H]; exact F
theorem names_set {m : Str → Option Value} {x : Str} {v : Value} : ∀ {l : List (Str × Value)}, NamesIn m l → NeNames x l → NamesIn (fun y => if y = x then some v else m y) l
  | [], _, _ => trivial
  | (_, _) :: _, h, n => ⟨(if_neg n.1).trans h.1, names_set h.2 n.2⟩
def BareInv (w : World) (g : Heap) (bl : Addr) (names : List (Str × Value)) (js : List J1) (old : List (Addr × Obj)) (i : Nat) (m : Str → Option Value) (news : List (Addr × Obj)) : Prop :=
  ∃ (items : List Value) (n : Nat) (bds : List (Addr × Obj)), news = (bl, listOf items.toArray n) :: (bds ++ old) ∧ items.length = i ∧ BaresIn w g bds items js ∧ DictsIn w bds ∧ (∀ p ∈ bds, p.1 ≠ bl ∧ p.1 ≠ 173) ∧ NamesIn m names
theorem size_eq {a b : List Value} {n : Nat} (h1 : a.length = n) (h2 : b.length = n) : a.toArray.size = b.toArray.size := by simp [h1, h2]
theorem at_arr {l : List Value} {j : Nat} (h : j < l.toArray.size) : l[j]? = some l.toArray[j] := by simp at h; simp [h]
theorem rowsIn_eq {w : World} {A : Around} {s : Shared} {d1 d2 : List (Addr × Obj)} {v1 v2 : List Value} {js : List J1} (R1 : RowsIn w d1 v1 js) (R2 : RowsIn w d2 v2 js) (n1 : ∀ p ∈ d1, s.heap.get? p.1 = some p.2) (n2 : ∀ p ∈ d2, s.heap.get? p.1 = some p.2) (hu : A.units < cLine) :
    ∀ j (h1 : j < v1.toArray.size) (h2 : j < v2.toArray.size), EqW w A s v1.toArray[j] v2.toArray[j] := fun j h1 h2 => by
  obtain ⟨k1, e1, q1⟩ := R1.2 j _ (at_arr h1)
  obtain ⟨k2, e2, q2⟩ := R2.2 j _ (at_arr h2)
  rw [e1] at e2
  cases e2
  exact rows_eq q1 q2 n1 n2 hu
theorem bareIn_eq {w : World} {A : Around} {s : Shared} {g h1 : Heap} {bs : List (Addr × Obj)} {v1 v2 : List Value} {js : List J1} (R1 : Bares w h1 s.heap v1 js) (R2 : BaresIn w g bs v2 js) (k1 : h1.StaysIn s.heap) (k2 : g.StaysIn s.heap) (n2 : ∀ p ∈ bs, s.heap.get? p.1 = some p.2) (hu : A.units < cLine) :
    ∀ j (h1 : j < v1.toArray.size) (h2 : j < v2.toArray.size), EqW w A s v1.toArray[j] v2.toArray[j] := fun j e1 e2 => by
  obtain ⟨j1, g1, q1⟩ := R1.2 j _ (at_arr e1)
  obtain ⟨j2, g2, q2⟩ := R2 j _ (at_arr e2)
  rw [g1] at g2
  cases g2
  exact bares_eq q1 (bare_at k2 n2 q2) k1 k2 hu
theorem copiesIn_eq {w : World} {A : Around} {s : Shared} {g : Heap} {fs : List (Addr × Obj)} {v1 v2 : List Value} (R : CopiesIn w g fs v1 v2) (k : g.StaysIn s.heap) (n : ∀ p ∈ fs, s.heap.get? p.1 = some p.2) (hu : A.units < cLine) :
    ∀ j (h1 : j < v1.toArray.size) (h2 : j < v2.toArray.size), EqW w A s v1.toArray[j] v2.toArray[j] := fun j e1 e2 => copy_eq (R.2 j _ _ (at_arr e1) (at_arr e2)) k n hu
section
variable {w : World} {A : Around} {E : Value → Shared → Prop} {s : Shared} {h₀ : Heap} {L : Addr} {m : Str → Option Value} {tabs rest : List (Addr × Obj)}
theorem copy_on {l : Addr} {items : Array Value} {Q : Value → Shared → Prop} (F : Fr h₀ L s.heap m) (N : News h₀ L s.heap (tabs ++ rest)) (hr : ∀ p ∈ rest, p.1 ≠ 173) (hT : TabL 173 flushLine flushCol flushQual tabs) (hl : s.heap.IsList l items) (hz : items.size ≤ 1000)
    (h : ∀ D c h' rest', Fr h₀ L h' m → News h₀ L h' (tabs ++ rest') → (∀ p ∈ rest', p.1 ≠ 173) → (∀ p ∈ rest, p ∈ rest') → (D, listOf items c) ∈ rest' → Q (.ref D) { s with heap := h' }) :
    wpAny (model PR w) A (call (.type "list") [.ref l]) Q E s := by
  refine list_copyK F N hl (fun D c h' F' N' l1 => ?_) (by rw [sizeLine_eq]; omega)
  obtain ⟨ps, h3⟩ := tab_grown hT
  refine h D c h' ((D, listOf items c) :: rest) F' (fun p hp => N' p ?_) (fun p hp => ?_) (fun p hp => .tail _ hp) (.head _)
  · simp only [List.mem_append, List.mem_cons] at hp ⊢
    rcases hp with q | q | q <;> simp [q]
  · rcases List.mem_cons.mp hp with rfl | hp
    · exact Nat.ne_of_gt (l1 _ (List.mem_append_left _ h3))
    · exact hr p hp
end
def LenInv (names : List (Str × Value)) (ks : List Tk) (old : List (Addr × Obj)) (m : Str → Option Value) (news : List (Addr × Obj)) : Prop := news = old ∧ NamesIn m names ∧ ∃ t, m (Str.ofString "length") = some (.int (lenOf ks : Nat) t)
theorem TupsAt.loop {g h₀ : Heap} {L : Addr} {vs : List Value} {G news : List (Addr × Obj)} (H : TupsAt g vs) (hG2 : ∀ h' m' news', Fr h₀ L h' m' → News h₀ L h' news' → (∀ p ∈ G, p ∈ news') → g.StaysIn h') (hG : ∀ p ∈ G, p ∈ news) :
    ∀ v ∈ vs, ∃ T x t y u, v = .ref T ∧ x ∈ words ∧ y ∈ words ∧ ∀ h' m' own, Fr h₀ L h' m' → News h₀ L h' (own ++ news) → h'.IsTuple T #[.str x t, .str y u] := fun v hv => by
  obtain ⟨T, x, t, y, u, e, hx, hy, ht⟩ := H v hv
  exact ⟨T, x, t, y, u, e, hx, hy, fun h' m' own F N => ht.at fun o e => hG2 _ _ _ F N (fun p hp => List.mem_append_right _ (hG p hp)) _ _ e⟩
/-- the code's head, told so that the walk's lines for nested defs do not wake -/
def CHid (h : Heap) : Prop := CodeHd h 177 173
theorem CHid.intro {h : Heap} (C : CodeHd h 177 173) : CHid h := C
theorem CHid.out {h : Heap} (C : CHid h) : CodeHd h 177 173 := C

theorem anew27 : True ∧ True := by
  w_top off
  first | (walk1 <;> trivial) | exact ⟨trivial, trivial⟩
section
local macro_rules | `(tactic| walk_at "m ok") => `(tactic| (first
  | assumption
  | exact Ok.mono (by assumption) (by decide)
  | exact Ok.mono (Ok.deeper (by assumption) _) (by decide)
  | exact Ok.mono (Ok.in1 (Ok.deeper (by assumption) _)) (by decide)
  | exact Ok.mono (Ok.in1 (by assumption)) (by decide)))
local macro_rules | `(tactic| walk_at "m room") => `(tactic| exact Ok.room (by assumption))
local macro_rules | `(tactic| walk_at "m dict") => `(tactic| (first
  | exact DictAt.fr (by k_asm) (by k_asm)
  | exact DictAt.news (by k_asm) (by k_mem) (by k_asm) (by k_asm)))
local macro_rules | `(tactic| walk_at "getMethod ref") => `(tactic| (k_here; k_dflt (first
  | ((with_reducible show wpAny _ _ (getMethod (Value.ref _) (Str.ofString "get") _) _ _ _); refine meth_at PySem.F.slot_dict_get PySem.F.type_dict_get (by walk_at "m dict") ?_)
  | ((with_reducible show wpAny _ _ (getMethod (Value.ref _) (Str.ofString "copy") _) _ _ _); refine meth_at PySem.F.slot_dict_copy PySem.F.type_dict_copy (by walk_at "m dict") ?_)
  | ((with_reducible show wpAny _ _ (getMethod (Value.ref _) (Str.ofString "pop") _) _ _ _); refine meth_at PySem.F.slot_dict_pop PySem.F.type_dict_pop (by walk_at "m dict") ?_))))
local macro_rules | `(tactic| walk_at "call builtin:dict.get") => `(tactic| (k_here; k_dflt (refine' get2_at (by walk_at "m dict") ?v ?_; (case v => first | assumption | with_unfolding_all exact Eq.refl (Value.bool _) | rfl); k_whole)))
local macro_rules | `(tactic| walk_at "subscriptTail") => `(tactic| (k_here; (with_reducible show wpAny _ _ (subscriptTail _ _ (Value.ref _) (Value.str _ _)) _ _ _); k_dflt (refine' item_at (by walk_at "m dict") ?v ?_ ?hs; (case v => first | assumption | rfl); (case hs => with_unfolding_all rfl); k_whole)))
local macro_rules | `(tactic| walk_at "exec For") => `(tactic| (k_here; k_dflt (refine For_m (by k_asm) (by rfl) (by rfl) ?_ (by intro _; rfl) PassesOwn.never)))
local macro_rules | `(tactic| k_all) => `(tactic| assumption)
local macro_rules | `(tactic| walk_at "m sub") => `(tactic| (intro p9 hp9; simp only [List.mem_append, List.mem_cons, List.not_mem_nil, or_false, false_or] at hp9 ⊢; grind))
local macro_rules | `(tactic| walk_at "callWith") => `(tactic| ((with_reducible show wpAny _ _ (callWith _ (Value.builtin _) [_] (backTo _ (starEach (_ :: _) _)) []) _ _ _); refine callWith_method1 ?_))

local macro_rules | `(tactic| walk_at "Exists") => `(tactic| (k_here; (refine made_m (by k_asm) (by first | k_asm | exact News.nil) (Top.nolimit (by k_asm)) (by rfl) (of_decide_eq_true (by rfl)) ?_; intro h' o' F' N' l1 lo' hd'; (try k_lt l1); (try dsimp only at N'); (try dsimp only))))
local macro_rules | `(tactic| walk_at "call ref") => `(tactic| (k_here; (with_reducible show wpAny _ _ (call (Value.ref 332) _) _ _ _); k_dflt (refine' use_words ?kA ?kX ?kT ?kF ?kN ?_; (case kA => walk_at "m ok"); (case kX => k_asm); (case kT => k_asm); (case kF => k_asm); (case kN => k_asm); k_whole); intro r' h' tk' n' vs' W' F' N' l1; (try (replace l1 := allNe_of l1; simp only [AllNe, and_true] at l1)); (try k_sweep)))
local macro_rules | `(tactic| walk_at "call ref") => `(tactic| (k_here; (with_reducible show wpAny _ _ (call (Value.ref 339) _) _ _ _); k_dflt (refine' use_draw ?kA ?kX ?kT ?kF ?kN ?kU ?kS ?kI ?kL ?k0 ?k1 ?k2 ?k3 ?_; (case kA => walk_at "m ok"); (case kX => k_asm); (case kT => k_asm); (case kF => k_asm); (case kN => k_asm); (case kU => k_updF); (case kS => assumption); (case kI => assumption); (case kL => first | assumption | omega); (case k0 => first | decide | assumption); (case k1 => first | decide | assumption); (case k2 => decide); (case k3 => decide); k_whole); intro k' t' pl' acc' tp' ta' h' tk' k0' k1' a0' a1' F' N'; (try dsimp only at N'); (try k_sweep)))
local macro_rules | `(tactic| walk_at "subscriptTail") => `(tactic| (k_here; (with_reducible show wpAny _ _ (subscriptTail _ _ (Value.ref _) (Value.int _ _)) _ _ _); k_dflt (refine' item_words ?kN ?kM ?kW ?k0 ?k1 ?_ ?kS; (case kW => assumption); (case kN => k_asm); (case kM => k_mem); (case k0 => assumption); (case k1 => assumption); (case kS => with_unfolding_all rfl)); intro x' t' hx'))

local macro_rules | `(tactic| walk_at "call ref") => `(tactic| (k_here; (with_reducible show wpAny _ _ (call (Value.ref 367) _) _ _ _); k_dflt (refine' use_live ?kA ?kX ?kT ?kF ?kN ?kD ?kv ?_; (case kA => walk_at "m ok"); (case kX => k_asm); (case kT => k_asm); (case kF => k_asm); (case kN => k_asm); (case kD => walk_at "m dict"); (case kv => first | assumption | rfl); k_whole); intro h' tk' F' N'; (try k_sweep)))

local macro_rules | `(tactic| walk_at "call builtin:str.join") => `(tactic| (k_here; k_dflt (refine' join_m ?N ?M ?I ?S ?n ?_; (case N => k_asm); (case M => k_mem); (case I => assumption); (case S => assumption); (case n => assumption); k_whole); intro t' k'))

local macro_rules | `(tactic| walk_at "call ref") => `(tactic| (k_here; (with_reducible show wpAny _ _ (call (Value.ref 360) _) _ _ _); k_dflt (refine use_apart (by walk_at "m ok") (by k_asm) (by k_asm) (by k_asm) (by k_asm) (by assumption) (by assumption) ?_); intro h' tk' F' N'; (try k_sweep)))
local macro_rules | `(tactic| walk_at "truthy ref") => `(tactic| (k_here; k_dflt (refine' truthy_snoc ?N ?m ?l ?_; (case N => k_asm); (case m => k_mem); (case l => assumption); k_whole)))
local macro_rules | `(tactic| walk_at "subscriptTail Name UnaryOp ref int") => `(tactic| (k_here; k_dflt (refine' last_snoc ?N ?m ?_ ?s; (case N => k_asm); (case m => k_mem); (case s => with_unfolding_all rfl); k_whole)))
local macro_rules | `(tactic| walk_at "setItem ref str") => `(tactic| (k_here; k_dflt (refine' kda_set (knd := PySem.strKind _ _) ?F ?N ?U ?d (strKind_is _ _ _ _) ?z ?_; (case F => k_asm); (case N => k_asm); (case U => k_updF); (case d => k_asm); (case z => first | assumption | exact Nat.le_of_ble_eq_true (by with_unfolding_all rfl))); intro h' o' F' N' hd'; (try dsimp only at N')))
local macro_rules | `(tactic| walk_at "m dict") => `(tactic| (first
  | exact DictAt.fr (by k_asm) (by k_asm)
  | exact DictAt.news (by k_asm) (by k_mem) (by k_asm) (by k_asm)
  | exact DictAt.news (by k_asm) (.tail _ (by assumption)) (by assumption) (by assumption)
  | exact DictAt.news (by k_asm) (.tail _ (.tail _ (by assumption))) (by assumption) (by assumption)
  | exact DictAt.news (by k_asm) (by assumption) (by assumption) (by assumption)))

local macro_rules | `(tactic| walk_at "call ref") => `(tactic| (k_here; (with_reducible show wpAny _ _ (call (Value.ref 381) _) _ _ _); k_dflt (refine' use_bare ?kA ?kX ?kT ?kF ?kN ?kD ?kz ?_; (case kA => walk_at "m ok"); (case kX => k_asm); (case kT => k_asm); (case kF => k_asm); (case kN => k_asm); (case kD => walk_at "m dict"); (case kz => assumption); k_whole); intro b' o' h' tk' F' N' l1' lo' hd'; (have l2' : @Ne Nat _ _ := l1' _ (.head _)); (try dsimp only at l2'); (try k_sweep)))

local macro_rules | `(tactic| walk_at "call ref") => `(tactic| (k_here; (with_reducible show wpAny _ _ (call (Value.ref 55) _) _ _ _); k_dflt (refine use_boundary (by walk_at "m ok") (by k_asm) (by k_asm) (by k_asm) (by k_asm) (by assumption) (by assumption) ?_); intro h' tk' F' N'; (try k_sweep)))
local macro_rules | `(tactic| walk_at "callWith ref") => `(tactic| (k_here; (with_reducible show wpAny _ _ (callWith _ (Value.ref _) [] (backTo _ (starEach [] _)) []) _ _ _); k_dflt (refine' callWith_F0 (FnAt.of2 (by assumption) (by k_asm) (by k_mem)) ?_; k_whole; try dsimp only [List.nil_append, List.cons_append])))
local macro_rules | `(tactic| walk_at "call ref") => `(tactic| (k_here; (with_reducible show wpAny _ _ (call (Value.ref _) []) _ _ _); k_dflt (first
  | (refine' Flush0.use (by assumption) (by walk_at "m ok") (by k_asm) (by k_asm) ?_; intro h' tk' F' N'; (try dsimp only [lay] at N'); (try k_sweep))
  | (refine' Flush1.use (by assumption) ?kA ?kF ?kN ?kd ?kI ?ks ?kl ?kr ?k1 ?k2 ?_; (case kA => walk_at "m ok"); (case kF => k_asm); (case kN => k_asm); (case kd => assumption); (case kI => assumption); (case ks => assumption); (case kl => assumption); (case kr => assumption); (case k1 => assumption); (case k2 => assumption); intro d' od' kvs' n' k' h' tk' F' N' z1' z2' z3' z4' lo' hd' hk'; (replace z1' := NeH.intro z1'); (replace z2' := NeH.intro z2'); (replace z3' := NeH.intro z3'); (try dsimp only [lay] at N'); (try k_sweep)))))
local macro_rules | `(tactic| walk_at "ite") => `(tactic| (k_here; first | (with_reducible refine ite_pos rfl ?_) | (with_reducible refine ite_neg Bool.false_ne_true ?_)))
local macro_rules | `(tactic| k_ne) => `(tactic| (refine neN ?_; (try dsimp only); first | exact NeH.ne (by with_reducible assumption) | exact NeH.ne' (by with_reducible assumption)))

local macro_rules | `(tactic| walk_at "call ref") => `(tactic| (k_here; (with_reducible show wpAny _ _ (call (Value.ref 199) _) _ _ _); k_dflt (refine' use_clean ?kA ?kX ?kT ?kF ?kN ?kD ?kI ?_ ?_; (case kA => walk_at "m ok"); (case kX => k_asm); (case kT => k_asm); (case kF => k_asm); (case kN => k_asm); (case kD => walk_at "m dict"); (case kI => assumption); k_whole)))

local macro_rules | `(tactic| walk_at "call ref") => `(tactic| (k_here; (with_reducible show wpAny _ _ (call (Value.ref 346) _) _ _ _); k_dflt (refine' use_token ?kA ?kX ?kT ?kF ?kN ?kU ?kS ?kI ?kL ?k0 ?k1 ?_; (case kA => walk_at "m ok"); (case kX => k_asm); (case kT => k_asm); (case kF => k_asm); (case kN => k_asm); (case kU => k_updF); (case kS => assumption); (case kI => assumption); (case kL => assumption); (case k0 => assumption); (case k1 => assumption); k_whole); intro a' o' kvs' tkn' pl' acc' tp' ta' h' tk' a0' a1' F' N' l1' lo' hd' I' W'; (try dsimp only at N'); (have l2' : @Ne Nat _ _ := l1' _ (.head _)); (try dsimp only at l2'); (try k_sweep)))

section
variable {w : World} {A : Around} {s : Shared} {p : Program} {loose : List Str} {mean : ExcName → Option Value} {mg mb : Str → Option Value} {h₀ : Heap}
local macro_rules | `(tactic| walk_at "pyIter ref") => `(tactic| (k_here; with_reducible refine Halt.intro ?_))
local macro_rules | `(tactic| walk_at "call type:list") => `(tactic| (k_here; with_reducible refine Halt.intro ?_))
local macro_rules | `(tactic| walk_at "call type:dict") => `(tactic| (k_here; with_reducible refine Halt.intro ?_))
local macro_rules | `(tactic| walk_at "call ref") => `(tactic| (k_here; with_reducible refine Halt.intro ?_))
local macro_rules | `(tactic| walk_at "eval Call") => `(tactic| (k_here; k_dflt (refine Call_ ?_)))
local macro_rules | `(tactic| walk_at "exec For") => `(tactic| (k_here; k_dflt (first | refine For_m (by k_asm) (by rfl) (by rfl) ?_ (by intro _; rfl) PassesOwn.never | refine For_unrF (by k_asm) ?_ (by intro _; rfl) PassesOwn.never)))
local macro_rules | `(tactic| walk_at "compareOp NotEq ref ref") => `(tactic| (k_here; with_reducible refine Halt.intro ?_))
local macro_rules | `(tactic| walk_at "compareOp Eq ref ref") => `(tactic| (k_here; with_reducible refine Halt.intro ?_))
set_option maxHeartbeats 8000000 in
theorem law_tail {f L lt lp : Addr} {name qual : Str} {params : Arguments} {s0 s1 s2 s3 s4 : Stmt} {body : List Stmt} {scope : Scope} {dV kV doc pm cdv ct oc cd : Value} {an od : Option Addr} {osl : Array (Option Value)} {Q : Value → Shared → Prop}
    {m : Str → Option Value} {ts : List (Value × Tk)} {ps : List Value} {n0 : Nat} {g : Heap} {G : List (Addr × Obj)}
    (hA : Ok A 4) (X : (hd.heap_39 w.params).In h₀) (T : Top p loose mean mg mb h₀) (C : CodeHd h₀ 177 173)
    (ho : (hd.heap_39 w.params).lookup 409 = some ⟨oc, od, .func (fnOf name qual params (s0 :: s1 :: s2 :: s3 :: s4 :: body) scope dV kV doc pm an cdv ct), osl⟩)
    (F : Fr h₀ L s.heap m) (N : News h₀ L s.heap ([(173, tabObj #[])] ++ G)) (hm1 : m (Str.ofString "tokens") = some (.ref lt)) (hm2 : m (Str.ofString "pairs") = some (.ref lp))
    (hG1 : ∀ p ∈ G, p.1 ≠ 173) (hG2 : ∀ h' m' news', Fr h₀ L h' m' → News h₀ L h' news' → (∀ p ∈ G, p ∈ news') → g.StaysIn h')
    (hgl : g.IsList lt (vals ts).toArray) (hlG : (lt, listOf (vals ts).toArray n0) ∈ G) (hgp : g.IsList lp ps.toArray) (hgt : Toks w g ts) (hgu : TupsAt g ps) (W : WordTks (tks ts))
    (ret : ∀ h' tk ps m', Fr h₀ L h' m' → News h₀ L h' [(173, tabObj ps)] → Q (.bool true) { s with heap := h', toks := tk }) :
    wpAny (model PR w) A (execs body (envOf qual scope L f cd)) (fun fl s' => Q (match fl with | .ret v => v | _ => .none) s') (fun _ _ => False) s := by
  replace C := CHid.intro C
  obtain ⟨e9, rfl, rfl⟩ := body_eq (K := hd.heap_39 w.params) (by k_is) ho
  clear ho
  cases e9
  have hT : TabL 173 flushLine flushCol flushQual [((173 : Addr), tabObj #[])] := .none
  generalize [((173 : Addr), tabObj #[])] = tabs at hT N
  have hts : ts.length ≤ 12 := by have := W.1; rw [tks_len] at this; exact this
  have F1 := fr_name (x := Str.ofString "pairs") (fr_name (x := Str.ofString "tokens") F hm1) ((if_neg (by decide)).trans hm2)
  generalize hold : tabs ++ G = old at N
  have hGo : ∀ p ∈ G, p ∈ old := fun p hp => by rw [← hold]; exact List.mem_append_right _ hp
  clear F
  try k_fold
  k_steps
  (show wpAny _ _ (pyIter _) _ _ _)
  rename News _ _ _ _ => N1
  rename Fr _ _ _ _ => F1
  obtain ⟨bf, rfl⟩ := named N1
  rename (∀ p ∈ old, p.1 < bf) => hbf
  have k1 := hG2 _ _ _ F1 N1 (fun p hp => .tail _ (hGo _ hp))
  have hbB : @LT.lt Nat _ bf _ := Heap.lt_size (N1.get (.head _))
  have hoB : ∀ p ∈ old, @LT.lt Nat _ p.1 _ := fun p hp => Heap.lt_size (N1 p (.tail _ hp)).1
  have hbl : @Ne Nat bf lt := Nat.ne_of_gt (hbf _ (hGo _ hlG))
  refine loopB (vs := vals ts) (fun i m news => CopyInv w g bf lt lp ((vals ts).take i) old m news) (by exact hA.hh) (hgl.at fun o e => k1 _ _ e) F1 N1 ⟨[], _, [], rfl, .nil, .nil, (fun _ h => nomatch h), by rfl, by rfl, by rfl⟩ ?_ ?_
  · rintro i v m₁ news₁ h3 tk3 own hv hno ⟨items, n, fds, rfl, R, hD, hne, hb, ht, hp⟩ hown hlo hli F2 N2
    obtain ⟨tkn, e0⟩ := vals_at hv
    obtain ⟨a, kvs, e2, D, I⟩ := hgt.at e0
    dsimp only at e2 I
    subst e2
    have F3 := fr_name (x := Str.ofString "before") (fr_name (x := Str.ofString "pairs") (fr_name (x := Str.ofString "tokens") F2 ((if_neg (by decide)).trans ht)) ((if_neg (by decide)).trans ((if_neg (by decide)).trans hp))) ((if_neg (by decide)).trans ((if_neg (by decide)).trans ((if_neg (by decide)).trans hb)))
    have k3 := hG2 _ _ _ F2 N2 (fun p hp => List.mem_append_right _ (.tail _ (List.mem_append_right _ (hGo _ hp))))
    have hr1 : ∀ p ∈ (fds ++ old) ++ own, p.1 ≠ bf := fun p hp => by
      rcases List.mem_append.mp hp with q | q
      · rcases List.mem_append.mp q with q | q
        · exact (hne p q).1
        · exact Nat.ne_of_lt (hbf p q)
      · exact own_neB hown hbl hbB p q
    have N3 := loop_rest N2
    generalize hr9 : (fds ++ old) ++ own = rst at N3 hr1
    have hil : items.length ≤ 1000 := by have := R.1; rw [List.length_take, vals_len] at this; omega
    clear F1 N1 F2 N2 hno hb ht hp
    k_steps
    (show wpAny _ _ (call _ _) _ _ _)
    rename News _ _ _ _ => N3
    rename Fr _ _ _ _ => F3
    refine use_copy T F3 N3 (D.keeps k3) I.len ?_
    intro b o h4 F4 N4 hb lo hd
    have z1 : @Ne Nat bf b := hb _ (.head _)
    have z2 : b ≠ 173 := by
      obtain ⟨ps, h9⟩ := tab_grown hT
      exact Ne.symm (hb (173, _) (.tail _ (hr9 ▸ List.mem_append_left _ (List.mem_append_right _ (hold ▸ List.mem_append_left _ h9)))))
    clear F3 N3 hb
    k_steps
    rename News _ _ _ _ => N5
    rename Fr _ _ _ _ => F5
    rw [toArray_push] at N5
    refine LPostB.intro F5 (loop_step N5 hr9) (oldOr_of hbB (hD.cons hd) hoB) ⟨_, _, _, rfl, ?_, hD.cons hd, ?_, by rfl, by rfl, by rfl⟩
    · rw [take_snoc hv]
      exact R.snoc (fun _ h => .tail _ h) ⟨a, kvs, b, o, rfl, D, rfl, .head _, lo, hd⟩
    · intro p hp
      rcases List.mem_cons.mp hp with rfl | hp
      · exact ⟨Ne.symm z1, z2⟩
      · exact hne p hp
  · rintro m₁ news₁ h3 tk3 ⟨items, n, fds, rfl, R, hD, hne, hb, ht, hp⟩ F2 N2
    rw [List.take_length] at R
    have F3 := fr_name (x := Str.ofString "before") (fr_name (x := Str.ofString "pairs") (fr_name (x := Str.ofString "tokens") F2 ht) ((if_neg (by decide)).trans hp)) ((if_neg (by decide)).trans ((if_neg (by decide)).trans hb))
    have hbt : bf ≠ 173 := by
      obtain ⟨ps, h9⟩ := tab_grown hT
      exact Nat.ne_of_gt (hbf (173, _) (hold ▸ List.mem_append_left _ h9))
    obtain ⟨r1, N3, hr1, hG, hB⟩ := step_new (l := (bf, listOf items.toArray n) :: fds) (tabs := tabs) (rest := G) N2 (by
      subst hold
      intro p hp; simp only [List.mem_append, List.mem_cons] at hp ⊢; rcases hp with h | h | h | h <;> simp [h]) hG1 (by
      intro p hp
      rcases List.mem_cons.mp hp with rfl | hp
      · exact hbt
      · exact (hne p hp).2)
    clear F1 N1 F2 N2 hb ht hp k1 hbB hoB hbl hbf hold hGo hbt hne
    k_steps
    (show wpAny _ _ (call _ _) _ _ _)
    rename News _ _ _ _ => N4
    rename Fr _ _ _ _ => F4
    have k4 := hG2 _ _ _ F4 N4 (fun p hp => List.mem_append_right _ (hG _ hp))
    refine spec_joined (by walk_at "m ok") (X.keeps F4.keep) (T.keeps F4.keep) (hgl.at fun o e => k4 _ _ e) (hgt.keeps k4) W fun lj jvs nj jds h5 tk5 k5 B5 RJ => ?_
    obtain ⟨r2, F5, N5, hr2, hs, hJ⟩ := step_on F4 N4 hr1 hT k5 B5
    replace hG := fun p hp => hs p (hG p hp)
    replace hB := fun p hp => hs p (hB p hp)
    clear F4 N4 k4 k5 B5 hs hr1 r1
    k_steps
    (show wpAny _ _ (call _ _) _ _ _)
    rename News _ _ _ _ => N4
    rename Fr _ _ _ _ => F4
    have k4 := hG2 _ _ _ F4 N4 (fun p hp => List.mem_append_right _ (hG _ hp))
    refine spec_merged (by walk_at "m ok") (X.keeps F4.keep) (T.keeps F4.keep) (hgl.at fun o e => k4 _ _ e) (hgt.keeps k4) W fun lm mvs nm mds h5 tk5 k5 B5 RM => ?_
    replace RM := And.intro RM.len (mrel_in RM k4 (objs_in hgt))
    obtain ⟨r3, F5, N5, hr3, hs, hM⟩ := step_on F4 N4 hr2 hT k5 B5
    replace hG := fun p hp => hs p (hG p hp)
    replace hB := fun p hp => hs p (hB p hp)
    replace hJ := fun p hp => hs p (hJ p hp)
    clear F4 N4 k4 k5 B5 hs hr2
    k_steps
    (show wpAny _ _ (call _ _) _ _ _)
    rename News _ _ _ _ => N4
    rename Fr _ _ _ _ => F4
    have k4 := hG2 _ _ _ F4 N4 (fun p hp => List.mem_append_right _ (hG _ hp))
    refine spec_source (by walk_at "m ok") (X.keeps F4.keep) (T.keeps F4.keep) (hgl.at fun o e => k4 _ _ e) (hgt.keeps k4) W fun h5 tk5 tsrc k5 => ?_
    have F5 := fr_stays F4 k5
    have N5 := news_stays N4 k5
    clear F4 N4 k4 k5
    k_steps
    (show wpAny _ _ (call _ _) _ _ _)
    rename News _ _ _ _ => N4
    rename Fr _ _ _ _ => F4
    have k4 := hG2 _ _ _ F4 N4 (fun p hp => List.mem_append_right _ (hG _ hp))
    refine spec_marked (by walk_at "m ok") (X.keeps F4.keep) (T.keeps F4.keep) (hgl.at fun o e => k4 _ _ e) (hgt.keeps k4) fun h5 tk5 k5 => ?_
    have F5 := fr_stays F4 k5
    have N5 := news_stays N4 k5
    clear F4 N4 k4 k5
    k_steps
    (show wpAny _ _ (pyIter _) _ _ _)
    rename News _ _ _ _ => N1
    rename Fr _ _ _ _ => F1
    obtain ⟨bl, rfl⟩ := named N1
    rename (∀ p ∈ tabs ++ r3, p.1 < bl) => hbf
    obtain ⟨tj, rfl, hK⟩ := coal_rows RJ hgt
    have k1 := hG2 _ _ _ F1 N1 (fun p hp => .tail _ (List.mem_append_right _ (hG p hp)))
    have hjB := N1.get (.tail _ (List.mem_append_right _ (hJ _ (.head _))))
    have hbB : @LT.lt Nat _ bl _ := Heap.lt_size (N1.get (.head _))
    have hoB : ∀ p ∈ tabs ++ r3, @LT.lt Nat _ p.1 _ := fun p hp => Heap.lt_size (N1 p (.tail _ hp)).1
    have hbl : @Ne Nat bl lj := Nat.ne_of_gt (hbf _ (List.mem_append_right _ (hJ _ (.head _))))
    have hbt : bl ≠ 173 := by
      obtain ⟨ps, h9⟩ := tab_grown hT
      exact Nat.ne_of_gt (hbf (173, _) (List.mem_append_left _ h9))
    generalize hold : tabs ++ r3 = old at N1 hoB hbf
    refine loopB (vs := vals tj) (fun i m news => BareInv w g bl [(Str.ofString "tokens", .ref lt), (Str.ofString "pairs", .ref lp), (Str.ofString "before", .ref bf), (Str.ofString "joined", .ref lj), (Str.ofString "merged", .ref lm), (Str.ofString "source", .str (srcOf (tks ts)) tsrc), (Str.ofString "marked", .bool (markedOf (tks ts))), (Str.ofString "bare", .ref bl)] (joined ts) old i m news)
      (by exact hA.hh) ⟨_, hjB, rfl, nj, rfl⟩ F1 N1 ⟨[], _, [], rfl, rfl, (fun i v e => by simp at e), .nil, (fun _ h => nomatch h), by rfl, by rfl, by rfl, by rfl, by rfl, by rfl, by rfl, by rfl, trivial⟩ ?_ ?_
    · rintro i v m₁ news₁ h3 tk3 own hv hno ⟨items, n, bds, rfl, hlen, R, hD, hne, hm⟩ hown hlo hli F2 N2
      obtain ⟨tkn, e0⟩ := vals_at hv
      obtain ⟨j, hj, q⟩ := hK.2 i v tkn e0
      have k3 := hG2 _ _ _ F2 N2 (fun p hp => List.mem_append_right _ (.tail _ (List.mem_append_right _ (hold ▸ List.mem_append_right _ (hG p hp)))))
      obtain ⟨a, kvs, rfl, D, hz, key⟩ := bare_key k3 (fun p hp => (N2 p (List.mem_append_right _ (.tail _ (List.mem_append_right _ (hold ▸ List.mem_append_right _ (hJ p (.tail _ hp))))))).1) q
      have F3 := fr_over F2 (names_set hm (by simp only [NeNames]; decide))
      dsimp only [over] at F3
      have hr1 : ∀ p ∈ (bds ++ old) ++ own, p.1 ≠ bl := fun p hp => by
        rcases List.mem_append.mp hp with q | q
        · rcases List.mem_append.mp q with q | q
          · exact (hne p q).1
          · exact Nat.ne_of_lt (hbf p q)
        · exact own_neB hown hbl hbB p q
      have N3 := loop_rest N2
      generalize hr9 : (bds ++ old) ++ own = rst at N3 hr1
      have hil : items.length ≤ 1000 := by
        have := (List.getElem?_eq_some_iff.mp hv).1
        rw [vals_len] at this
        have := hK.len W
        omega
      clear F1 N1 F2 N2 hno hm
      k_steps
      (show wpAny _ _ (call _ _) _ _ _)
      rename News _ _ _ _ => N3
      rename Fr _ _ _ _ => F3
      refine use_bare (by walk_at "m ok") X T F3 N3 D hz ?_
      intro b o h4 tk4 F4 N4 hb lo hd
      have z1 : @Ne Nat bl b := hb _ (.head _)
      have z2 : b ≠ 173 := by
        obtain ⟨ps, h9⟩ := tab_grown hT
        exact Ne.symm (hb (173, _) (.tail _ (hr9 ▸ List.mem_append_left _ (List.mem_append_right _ (hold ▸ List.mem_append_left _ h9)))))
      clear F3 N3 hb
      k_steps
      rename News _ _ _ _ => N5
      rename Fr _ _ _ _ => F5
      rw [toArray_push] at N5
      refine LPostB.intro F5 (loop_step N5 hr9) (oldOr_of hbB (hD.cons hd) hoB) ⟨_, _, _, rfl, by simp [hlen], R.snoc (fun _ h => .tail _ h) (by rw [hlen]; exact hj) (key b o _ (.head _) lo hd), hD.cons hd, ?_, by rfl, by rfl, by rfl, by rfl, by rfl, by rfl, by rfl, by rfl, trivial⟩
      intro p hp
      rcases List.mem_cons.mp hp with rfl | hp
      · exact ⟨Ne.symm z1, z2⟩
      · exact hne p hp
    · rintro m₁ news₁ h3 tk3 ⟨bitems, bn, bds, rfl, hblen, RB, hD, hne, hm⟩ F2 N2
      have F3 := fr_over F2 hm
      dsimp only [over] at F3
      subst hold
      obtain ⟨r4, N3, hr4, hs, hR⟩ := step_new (l := (bl, listOf bitems.toArray bn) :: bds) (tabs := tabs) (rest := r3) N2 (by
        intro p hp; simp only [List.mem_append, List.mem_cons] at hp ⊢; rcases hp with h | h | h | h <;> simp [h]) hr3 (by
        intro p hp
        rcases List.mem_cons.mp hp with rfl | hp
        · exact hbt
        · exact (hne p hp).2)
      replace hG := fun p hp => hs p (hG p hp)
      replace hB := fun p hp => hs p (hB p hp)
      replace hJ := fun p hp => hs p (hJ p hp)
      replace hM := fun p hp => hs p (hM p hp)
      clear F1 N1 F2 N2 hm k1 hbB hoB hbl hbf hbt hne hjB hs hr3
      k_steps
      (show wpAny _ _ (call _ _) _ _ _)
      rename News _ _ _ _ => N4
      rename Fr _ _ _ _ => F4
      have hu0 : A.units < cLine := by have := hA.units; omega
      have hu1 : A.in1.units < cLine := by have := (hA.in1).units; omega
      have hmm9 : (markedOf (tks ts) != markedOf (tks ts)) = false := bne_self_eq_false _
      have hss9 : (srcOf (tks ts) != srcOf (tks ts)) = false := bne_self_eq_false _
      have hsl9 : (srcOf (tks ts)).length ≤ 192 := by have := srcOf_len W.2; have := W.1; omega
      have hsz : (vals ts).toArray.size ≤ 1000 := by rw [List.size_toArray, vals_len]; omega
      have k4 := hG2 _ _ _ F4 N4 (fun p hp => List.mem_append_right _ (hG p hp))
      refine copy_on F4 N4 hr4 hT (hgl.at fun o e => k4 _ _ e) hsz fun D1 c1 h5 r5 F5 N5 hr5 hZ hD1 => ?_
      clear F4 N4 k4
      k_steps
      (show wpAny _ _ (call _ _) _ _ _)
      rename News _ _ _ _ => N4
      rename Fr _ _ _ _ => F4
      have k4 := hG2 _ _ _ F4 N4 (fun p hp => List.mem_append_right _ (hZ p (hG p hp)))
      refine use_coalesce (by walk_at "m ok") X T C.out F4 N4 hT hr5 ⟨_, N4.get (List.mem_append_right _ hD1), rfl, c1, rfl⟩ (hgt.keeps k4) W ?_
      intro rc cvs nc cds tabs2 h6 tk6 F6 hT2 hm2 N6 RC
      clear F4 N4 k4
      k_steps
      (show wpAny _ _ (compareOp _ _ _) _ _ _)
      rename News _ _ _ _ => N4
      rename Fr _ _ _ _ => F4
      refine ne_listW (w := w) ⟨_, N4.get (List.mem_append_left _ (List.mem_append_right _ (.head _))), rfl, nc, rfl⟩ ⟨_, N4.get (List.mem_append_right _ (hZ _ (hJ _ (.head _)))), rfl, nj, rfl⟩ (size_eq RC.1 RJ.1) hu0
        (rowsIn_eq RC RJ (fun p hp => (N4 p (List.mem_append_left _ (List.mem_append_right _ (.tail _ hp)))).1) (fun p hp => (N4 p (List.mem_append_right _ (hZ _ (hJ _ (.tail _ hp))))).1) hu1) ?_
      have N5 : News h₀ L _ (tabs2 ++ r5) := news_sub N4 (by intro p hp; simp only [List.mem_append] at hp ⊢; rcases hp with h | h <;> simp [h])
      clear N4 RC hm2 hD1
      k_steps
      (show wpAny _ _ (call _ _) _ _ _)
      rename News _ _ _ _ => N4
      rename Fr _ _ _ _ => F4
      have k4 := hG2 _ _ _ F4 N4 (fun p hp => List.mem_append_right _ (hZ p (hG p hp)))
      refine copy_on F4 N4 hr5 hT2 (hgl.at fun o e => k4 _ _ e) hsz fun D1 c1 h5 r6 F5 N5 hr6 hs hD1 => ?_
      replace hZ := fun p hp => hs p (hZ p hp)
      clear F4 N4 k4 hs hr5
      k_steps
      (show wpAny _ _ (call _ _) _ _ _)
      rename News _ _ _ _ => N4
      rename Fr _ _ _ _ => F4
      have k4 := hG2 _ _ _ F4 N4 (fun p hp => List.mem_append_right _ (hZ p (hG p hp)))
      refine spec_merge (by walk_at "m ok") (X.keeps F4.keep) (T.keeps F4.keep) ⟨_, N4.get (List.mem_append_right _ hD1), rfl, c1, rfl⟩ (hgt.keeps k4) W fun rm cvs2 h6 tk6 k6 hl6 R6 => ?_
      have F6 := fr_stays F4 k6
      have N6 := news_stays N4 k6
      clear F4 N4 k4
      k_steps
      (show wpAny _ _ (compareOp _ _ _) _ _ _)
      rename News _ _ _ _ => N4
      rename Fr _ _ _ _ => F4
      have k4 := hG2 _ _ _ F4 N4 (fun p hp => List.mem_append_right _ (hZ p (hG p hp)))
      refine ne_listW (w := w) hl6 ⟨_, N4.get (List.mem_append_right _ (hZ _ (hM _ (.head _)))), rfl, nm, rfl⟩ (size_eq R6.1 RM.1) hu0
        (bareIn_eq R6 RM.2 k6 k4 (fun p hp => (N4 p (List.mem_append_right _ (hZ _ (hM _ (.tail _ hp))))).1) hu1) ?_
      clear k4 R6 k6 hl6 hD1
      k_steps
      (show wpAny _ _ (call _ _) _ _ _)
      rename News _ _ _ _ => N4
      rename Fr _ _ _ _ => F4
      have k4 := hG2 _ _ _ F4 N4 (fun p hp => List.mem_append_right _ (hZ p (hG p hp)))
      refine copy_on F4 N4 hr6 hT2 (hgl.at fun o e => k4 _ _ e) hsz fun D1 c1 h5 r7 F5 N5 hr7 hs hD1 => ?_
      replace hZ := fun p hp => hs p (hZ p hp)
      clear F4 N4 k4 hs hr6
      k_steps
      (show wpAny _ _ (call _ _) _ _ _)
      rename News _ _ _ _ => N4
      rename Fr _ _ _ _ => F4
      have k4 := hG2 _ _ _ F4 N4 (fun p hp => List.mem_append_right _ (hZ p (hG p hp)))
      refine spec_contains (by walk_at "m ok") (X.keeps F4.keep) (T.keeps F4.keep) ⟨_, N4.get (List.mem_append_right _ hD1), rfl, c1, rfl⟩ (hgt.keeps k4) (fun tk h => Nat.le_trans (piece_len (W.2 tk h)) (by decide)) fun h6 tk6 k6 => ?_
      have F6 := fr_stays F4 k6
      have N6 := news_stays N4 k6
      clear F4 N4 k4 k6 hD1
      k_steps
      (show wpAny _ _ (call _ _) _ _ _)
      rename News _ _ _ _ => N4
      rename Fr _ _ _ _ => F4
      have k4 := hG2 _ _ _ F4 N4 (fun p hp => List.mem_append_right _ (hZ p (hG p hp)))
      refine copy_on F4 N4 hr7 hT2 (hgl.at fun o e => k4 _ _ e) hsz fun D1 c1 h5 r8 F5 N5 hr8 hs hD1 => ?_
      replace hZ := fun p hp => hs p (hZ p hp)
      clear F4 N4 k4 hs hr7
      k_steps
      (show wpAny _ _ (call _ _) _ _ _)
      rename News _ _ _ _ => N4
      rename Fr _ _ _ _ => F4
      have k4 := hG2 _ _ _ F4 N4 (fun p hp => List.mem_append_right _ (hZ p (hG p hp)))
      refine spec_srctext (by walk_at "m ok") (X.keeps F4.keep) (T.keeps F4.keep) ⟨_, N4.get (List.mem_append_right _ hD1), rfl, c1, rfl⟩ (hgt.keeps k4) W fun h6 tk6 t6 k6 => ?_
      have F6 := fr_stays F4 k6
      have N6 := news_stays N4 k6
      clear F4 N4 k4 k6 hD1
      k_steps
      (show wpAny _ _ (pyIter _) _ _ _)
      rename News _ _ _ _ => N1
      rename Fr _ _ _ _ => F1
      have k1 := hG2 _ _ _ F1 N1 (fun p hp => List.mem_append_right _ (hZ p (hG p hp)))
      have hoB : ∀ p ∈ tabs2 ++ r8, @LT.lt Nat _ p.1 _ := fun p hp => Heap.lt_size (N1 p hp).1
      refine loopB (vs := vals ts) (fun i m news => LenInv [(Str.ofString "tokens", .ref lt), (Str.ofString "pairs", .ref lp), (Str.ofString "before", .ref bf), (Str.ofString "source", .str (srcOf (tks ts)) tsrc), (Str.ofString "marked", .bool (markedOf (tks ts))), (Str.ofString "bare", .ref bl)] ((tks ts).take i) (tabs2 ++ r8) m news)
        (by exact hA.hh) (hgl.at fun o e => k1 _ _ e) F1 N1 ⟨rfl, ⟨by rfl, by rfl, by rfl, by rfl, by rfl, by rfl, trivial⟩, _, by rfl⟩ ?_ ?_
      · rintro i v m₁ news₁ h3 tk3 own hv hno ⟨rfl, hm, tl, hln⟩ hown hlo hli F2 N2
        obtain ⟨tkn, e0⟩ := vals_at hv
        have e1 := tks_at e0
        obtain ⟨a, kvs, e2, D, I⟩ := hgt.at e0
        dsimp only at e2 I
        subst e2
        have k3 := hG2 _ _ _ F2 N2 (fun p hp => List.mem_append_right _ (List.mem_append_right _ (hZ p (hG p hp))))
        have F3 := fr_over (fr_name (x := Str.ofString "length") F2 ((if_neg (by decide)).trans hln)) (names_set (names_set hm (by simp only [NeNames]; decide)) (by simp only [NeNames]; decide))
        dsimp only [over] at F3
        have hpl := Nat.le_trans (piece_len (W.2 _ (List.mem_of_getElem? e1))) (by decide : 16 ≤ 1000)
        clear F1 N1 F2 hno hm hln k1
        k_steps
        (show wpAny _ _ (call _ _) _ _ _)
        rename News _ _ _ _ => N4
        rename Fr _ _ _ _ => F4
        refine spec_srclen (by walk_at "m ok") (X.keeps F4.keep) (T.keeps F4.keep) (D.keeps k3) I hpl fun h6 tk6 t6 k6 => ?_
        have F6 := fr_stays F4 k6
        have N6 := news_stays N4 k6
        clear F4 N4 k6
        k_steps
        rename News _ _ _ _ => N5
        rename Fr _ _ _ _ => F5
        have hn9 : ((lenOf ((tks ts).take (i + 1)) : Nat) : Int) = (lenOf ((tks ts).take i) : Nat) + (srcLen tkn : Nat) := by rw [take_snoc e1, lenOf_snoc, Int.natCast_add]
        refine LPostB.intro F5 N5 (fun p hp => .inl (hoB p hp)) ⟨rfl, ⟨by rfl, by rfl, by rfl, by rfl, by rfl, by rfl, trivial⟩, ?_⟩
        rw [hn9]
        exact ⟨_, rfl⟩
      · rintro m₁ news₁ h3 tk3 ⟨rfl, hm, tl, hln⟩ F2 N2
        rw [show (vals ts).length = (tks ts).length by rw [vals_len, tks_len], List.take_length, ← srcOf_lenOf] at hln
        have F3 := fr_name (x := Str.ofString "length") (fr_over F2 hm) (by rw [over_eq hm]; exact hln)
        dsimp only [over] at F3
        have hll9 : (((srcOf (tks ts)).length : Int) != ((srcOf (tks ts)).length : Int)) = false := bne_self_eq_false _
        clear F1 N1 F2 hm hln k1 hoB
        k_steps
        (show wpAny _ _ (call _ _) _ _ _)
        rename News _ _ _ _ => N4
        rename Fr _ _ _ _ => F4
        have k4 := hG2 _ _ _ F4 N4 (fun p hp => List.mem_append_right _ (hZ p (hG p hp)))
        refine copy_on F4 N4 hr8 hT2 (hgl.at fun o e => k4 _ _ e) hsz fun D1 c1 h5 r9 F5 N5 hr9 hs hD1 => ?_
        replace hZ := fun p hp => hs p (hZ p hp)
        clear F4 N4 k4 hs hr8
        k_steps
        (show wpAny _ _ (call _ _) _ _ _)
        rename News _ _ _ _ => N4
        rename Fr _ _ _ _ => F4
        have k4 := hG2 _ _ _ F4 N4 (fun p hp => List.mem_append_right _ (hZ p (hG p hp)))
        refine use_finalize (by walk_at "m ok") X T C.out F4 N4 hT2 hr9 ⟨_, N4.get (List.mem_append_right _ hD1), rfl, c1, rfl⟩ (hgt.keeps k4) W (.inl rfl) ?_
        intro rf fvs tabs3 h7 h6 tk6 F6 hT3 hm3 N6 k6 hl6 R6
        clear F4 N4 k4
        k_steps
        (show wpAny _ _ (compareOp _ _ _) _ _ _)
        rename News _ _ _ _ => N4
        rename Fr _ _ _ _ => F4
        have k4 := hG2 _ _ _ F4 N4 (fun p hp => List.mem_append_right _ (hZ p (hG p hp)))
        have hbl9 : bitems.length = (joined ts).length := by rw [hblen, vals_len]; exact hK.1
        refine ne_listW (w := w) hl6 ⟨_, N4.get (List.mem_append_right _ (hZ _ (hR _ (.head _)))), rfl, bn, rfl⟩ (size_eq R6.1 hbl9) hu0
          (bareIn_eq R6 RB k6 k4 (fun p hp => (N4 p (List.mem_append_right _ (hZ _ (hR _ (.tail _ hp))))).1) hu1) ?_
        clear k4 R6 k6 hl6 hD1 hm3
        cases hmk : markedOf (tks ts)
        · rw [hmk] at F4
          k_steps
          (show wpAny _ _ (call _ _) _ _ _)
          rename News _ _ _ _ => N4
          rename Fr _ _ _ _ => F4
          have k4 := hG2 _ _ _ F4 N4 (fun p hp => List.mem_append_right _ (hZ p (hG p hp)))
          refine copy_on F4 N4 hr9 hT3 (hgl.at fun o e => k4 _ _ e) hsz fun D1 c1 h5 r10 F5 N5 hr10 hs hD1 => ?_
          replace hZ := fun p hp => hs p (hZ p hp)
          clear F4 N4 k4 hs hr9
          k_steps
          (show wpAny _ _ (call _ _) _ _ _)
          rename News _ _ _ _ => N4
          rename Fr _ _ _ _ => F4
          have k4 := hG2 _ _ _ F4 N4 (fun p hp => List.mem_append_right _ (hZ p (hG p hp)))
          refine use_finalize (by walk_at "m ok") X T C.out F4 N4 hT3 hr10 ⟨_, N4.get (List.mem_append_right _ hD1), rfl, c1, rfl⟩ (hgt.keeps k4) W (.inr hmk) ?_
          intro rf2 fvs2 tabs4 h7 h6 tk6 F6 hT4 hm4 N6 k6 hl6 R6
          clear F4 N4 k4
          k_steps
          (show wpAny _ _ (compareOp _ _ _) _ _ _)
          rename News _ _ _ _ => N4
          rename Fr _ _ _ _ => F4
          have k4 := hG2 _ _ _ F4 N4 (fun p hp => List.mem_append_right _ (hZ p (hG p hp)))
          refine ne_listW (w := w) hl6 ⟨_, N4.get (List.mem_append_right _ (hZ _ (hR _ (.head _)))), rfl, bn, rfl⟩ (size_eq R6.1 hbl9) hu0
            (bareIn_eq R6 RB k6 k4 (fun p hp => (N4 p (List.mem_append_right _ (hZ _ (hR _ (.tail _ hp))))).1) hu1) ?_
          clear k4 R6 k6 hl6 hD1 hm4
          k_steps
          (show wpAny _ _ (pyIter _) _ _ _)
          rename News _ _ _ _ => N1
          rename Fr _ _ _ _ => F1
          have k1 := hG2 _ _ _ F1 N1 (fun p hp => List.mem_append_right _ (hZ p (hG p hp)))
          refine loopP (vs := ps) (fun m => NamesIn m [(Str.ofString "tokens", .ref lt), (Str.ofString "before", .ref bf)]) (by exact hA.hh) (hgp.at fun o e => k1 _ _ e) F1 N1 ⟨by rfl, by rfl, trivial⟩ (by rfl) (by rfl) (by rfl)
            (hgu.loop hG2 (fun p hp => List.mem_append_right _ (hZ p (hG p hp)))) ?_ ?_
          · intro x t y u m₁ h3 tk3 own hx hy hm F2 N2
            have F3 := fr_over F2 (names_set (names_set hm (by simp only [NeNames]; decide)) (by simp only [NeNames]; decide))
            dsimp only [over] at F3
            have hxl := Nat.le_trans (words_len x hx) (by decide : 16 ≤ 1000)
            have hxy9 : ((amp x && isRest y) != (amp x && isRest y)) = false := bne_self_eq_false _
            clear F1 N1 F2 hm k1
            k_steps
            (show wpAny _ _ (call _ _) _ _ _)
            rename News _ _ _ _ => N4
            rename Fr _ _ _ _ => F4
            refine use_boundary (by walk_at "m ok") X T F4 N4 hx hy fun h5 tk5 F5 N5 => ?_
            clear F4 N4
            k_steps
            (show wpAny _ _ (call _ _) _ _ _)
            rename News _ _ _ _ => N4
            rename Fr _ _ _ _ => F4
            refine use_apart (by walk_at "m ok") X T F4 N4 hxl hy fun h5 tk5 F5 N5 => ?_
            clear F4 N4
            k_steps
            rename News _ _ _ _ => N5
            rename Fr _ _ _ _ => F5
            exact SPost.intro F5 N5 ⟨by rfl, by rfl, trivial⟩
          · intro m₁ h3 tk3 hm F2 N2
            have F3 := fr_over F2 hm
            dsimp only [over] at F3
            clear F1 N1 F2 hm k1
            k_steps
            (show wpAny _ _ (compareOp _ _ _) _ _ _)
            rename News _ _ _ _ => N4
            rename Fr _ _ _ _ => F4
            have k4 := hG2 _ _ _ F4 N4 (fun p hp => List.mem_append_right _ (hZ p (hG p hp)))
            refine eq_listW (w := w) (hgl.at fun o e => k4 _ _ e) ⟨_, N4.get (List.mem_append_right _ (hZ _ (hB _ (.head _)))), rfl, n, rfl⟩ (by rw [List.size_toArray, List.size_toArray]; exact R.1) hu0
              (copiesIn_eq R k4 (fun p hp => (N4 p (List.mem_append_right _ (hZ _ (hB _ (.tail _ hp))))).1) hu1) ?_
            k_steps
            rename News _ _ _ _ => N5
            rename Fr _ _ _ _ => F5
            obtain ⟨ps9, h9⟩ := tab_grown hT4
            exact ret _ _ ps9 _ F5 (news_sub N5 fun p hp => by rw [List.mem_singleton.mp hp]; exact List.mem_append_left _ h9)
        · rw [hmk] at F4
          k_steps
          (show wpAny _ _ (pyIter _) _ _ _)
          rename News _ _ _ _ => N1
          rename Fr _ _ _ _ => F1
          have k1 := hG2 _ _ _ F1 N1 (fun p hp => List.mem_append_right _ (hZ p (hG p hp)))
          refine loopP (vs := ps) (fun m => NamesIn m [(Str.ofString "tokens", .ref lt), (Str.ofString "before", .ref bf)]) (by exact hA.hh) (hgp.at fun o e => k1 _ _ e) F1 N1 ⟨by rfl, by rfl, trivial⟩ (by rfl) (by rfl) (by rfl)
            (hgu.loop hG2 (fun p hp => List.mem_append_right _ (hZ p (hG p hp)))) ?_ ?_
          · intro x t y u m₁ h3 tk3 own hx hy hm F2 N2
            have F3 := fr_over F2 (names_set (names_set hm (by simp only [NeNames]; decide)) (by simp only [NeNames]; decide))
            dsimp only [over] at F3
            have hxl := Nat.le_trans (words_len x hx) (by decide : 16 ≤ 1000)
            have hxy9 : ((amp x && isRest y) != (amp x && isRest y)) = false := bne_self_eq_false _
            clear F1 N1 F2 hm k1
            k_steps
            (show wpAny _ _ (call _ _) _ _ _)
            rename News _ _ _ _ => N4
            rename Fr _ _ _ _ => F4
            refine use_boundary (by walk_at "m ok") X T F4 N4 hx hy fun h5 tk5 F5 N5 => ?_
            clear F4 N4
            k_steps
            (show wpAny _ _ (call _ _) _ _ _)
            rename News _ _ _ _ => N4
            rename Fr _ _ _ _ => F4
            refine use_apart (by walk_at "m ok") X T F4 N4 hxl hy fun h5 tk5 F5 N5 => ?_
            clear F4 N4
            k_steps
            rename News _ _ _ _ => N5
            rename Fr _ _ _ _ => F5
            exact SPost.intro F5 N5 ⟨by rfl, by rfl, trivial⟩
          · intro m₁ h3 tk3 hm F2 N2
            have F3 := fr_over F2 hm
            dsimp only [over] at F3
            clear F1 N1 F2 hm k1
            k_steps
            (show wpAny _ _ (compareOp _ _ _) _ _ _)
            rename News _ _ _ _ => N4
            rename Fr _ _ _ _ => F4
            have k4 := hG2 _ _ _ F4 N4 (fun p hp => List.mem_append_right _ (hZ p (hG p hp)))
            refine eq_listW (w := w) (hgl.at fun o e => k4 _ _ e) ⟨_, N4.get (List.mem_append_right _ (hZ _ (hB _ (.head _)))), rfl, n, rfl⟩ (by rw [List.size_toArray, List.size_toArray]; exact R.1) hu0
              (copiesIn_eq R k4 (fun p hp => (N4 p (List.mem_append_right _ (hZ _ (hB _ (.tail _ hp))))).1) hu1) ?_
            k_steps
            rename News _ _ _ _ => N5
            rename Fr _ _ _ _ => F5
            obtain ⟨ps9, h9⟩ := tab_grown hT3
            exact ret _ _ ps9 _ F5 (news_sub N5 fun p hp => by rw [List.mem_singleton.mp hp]; exact List.mem_append_left _ h9)
end

end
theorem anew28 : True ∧ True := by
  w_top off
  first | (walk1 <;> trivial) | exact ⟨trivial, trivial⟩
section
local macro_rules | `(tactic| walk_at "m ok") => `(tactic| (first
  | assumption
  | exact Ok.mono (by assumption) (by decide)
  | exact Ok.mono (Ok.deeper (by assumption) _) (by decide)
  | exact Ok.mono (Ok.in1 (Ok.deeper (by assumption) _)) (by decide)
  | exact Ok.mono (Ok.in1 (by assumption)) (by decide)))
local macro_rules | `(tactic| walk_at "m room") => `(tactic| exact Ok.room (by assumption))
local macro_rules | `(tactic| walk_at "m dict") => `(tactic| (first
  | exact DictAt.fr (by k_asm) (by k_asm)
  | exact DictAt.news (by k_asm) (by k_mem) (by k_asm) (by k_asm)))
local macro_rules | `(tactic| walk_at "getMethod ref") => `(tactic| (k_here; k_dflt (first
  | ((with_reducible show wpAny _ _ (getMethod (Value.ref _) (Str.ofString "get") _) _ _ _); refine meth_at PySem.F.slot_dict_get PySem.F.type_dict_get (by walk_at "m dict") ?_)
  | ((with_reducible show wpAny _ _ (getMethod (Value.ref _) (Str.ofString "copy") _) _ _ _); refine meth_at PySem.F.slot_dict_copy PySem.F.type_dict_copy (by walk_at "m dict") ?_)
  | ((with_reducible show wpAny _ _ (getMethod (Value.ref _) (Str.ofString "pop") _) _ _ _); refine meth_at PySem.F.slot_dict_pop PySem.F.type_dict_pop (by walk_at "m dict") ?_))))
local macro_rules | `(tactic| walk_at "call builtin:dict.get") => `(tactic| (k_here; k_dflt (refine' get2_at (by walk_at "m dict") ?v ?_; (case v => first | assumption | with_unfolding_all exact Eq.refl (Value.bool _) | rfl); k_whole)))
local macro_rules | `(tactic| walk_at "subscriptTail") => `(tactic| (k_here; (with_reducible show wpAny _ _ (subscriptTail _ _ (Value.ref _) (Value.str _ _)) _ _ _); k_dflt (refine' item_at (by walk_at "m dict") ?v ?_ ?hs; (case v => first | assumption | rfl); (case hs => with_unfolding_all rfl); k_whole)))
local macro_rules | `(tactic| walk_at "exec For") => `(tactic| (k_here; k_dflt (refine For_m (by k_asm) (by rfl) (by rfl) ?_ (by intro _; rfl) PassesOwn.never)))
local macro_rules | `(tactic| k_all) => `(tactic| assumption)
local macro_rules | `(tactic| walk_at "m sub") => `(tactic| (intro p9 hp9; simp only [List.mem_append, List.mem_cons, List.not_mem_nil, or_false, false_or] at hp9 ⊢; grind))
local macro_rules | `(tactic| walk_at "callWith") => `(tactic| ((with_reducible show wpAny _ _ (callWith _ (Value.builtin _) [_] (backTo _ (starEach (_ :: _) _)) []) _ _ _); refine callWith_method1 ?_))

local macro_rules | `(tactic| walk_at "Exists") => `(tactic| (k_here; (refine made_m (by k_asm) (by first | k_asm | exact News.nil) (Top.nolimit (by k_asm)) (by rfl) (of_decide_eq_true (by rfl)) ?_; intro h' o' F' N' l1 lo' hd'; (try k_lt l1); (try dsimp only at N'); (try dsimp only))))
local macro_rules | `(tactic| walk_at "call ref") => `(tactic| (k_here; (with_reducible show wpAny _ _ (call (Value.ref 332) _) _ _ _); k_dflt (refine' use_words ?kA ?kX ?kT ?kF ?kN ?_; (case kA => walk_at "m ok"); (case kX => k_asm); (case kT => k_asm); (case kF => k_asm); (case kN => k_asm); k_whole); intro r' h' tk' n' vs' W' F' N' l1; (try (replace l1 := allNe_of l1; simp only [AllNe, and_true] at l1)); (try k_sweep)))
local macro_rules | `(tactic| walk_at "call ref") => `(tactic| (k_here; (with_reducible show wpAny _ _ (call (Value.ref 339) _) _ _ _); k_dflt (refine' use_draw ?kA ?kX ?kT ?kF ?kN ?kU ?kS ?kI ?kL ?k0 ?k1 ?k2 ?k3 ?_; (case kA => walk_at "m ok"); (case kX => k_asm); (case kT => k_asm); (case kF => k_asm); (case kN => k_asm); (case kU => k_updF); (case kS => assumption); (case kI => assumption); (case kL => first | assumption | omega); (case k0 => first | decide | assumption); (case k1 => first | decide | assumption); (case k2 => decide); (case k3 => decide); k_whole); intro k' t' pl' acc' tp' ta' h' tk' k0' k1' a0' a1' F' N'; (try dsimp only at N'); (try k_sweep)))
local macro_rules | `(tactic| walk_at "subscriptTail") => `(tactic| (k_here; (with_reducible show wpAny _ _ (subscriptTail _ _ (Value.ref _) (Value.int _ _)) _ _ _); k_dflt (refine' item_words ?kN ?kM ?kW ?k0 ?k1 ?_ ?kS; (case kW => assumption); (case kN => k_asm); (case kM => k_mem); (case k0 => assumption); (case k1 => assumption); (case kS => with_unfolding_all rfl)); intro x' t' hx'))

local macro_rules | `(tactic| walk_at "call ref") => `(tactic| (k_here; (with_reducible show wpAny _ _ (call (Value.ref 367) _) _ _ _); k_dflt (refine' use_live ?kA ?kX ?kT ?kF ?kN ?kD ?kv ?_; (case kA => walk_at "m ok"); (case kX => k_asm); (case kT => k_asm); (case kF => k_asm); (case kN => k_asm); (case kD => walk_at "m dict"); (case kv => first | assumption | rfl); k_whole); intro h' tk' F' N'; (try k_sweep)))

local macro_rules | `(tactic| walk_at "call builtin:str.join") => `(tactic| (k_here; k_dflt (refine' join_m ?N ?M ?I ?S ?n ?_; (case N => k_asm); (case M => k_mem); (case I => assumption); (case S => assumption); (case n => assumption); k_whole); intro t' k'))

local macro_rules | `(tactic| walk_at "call ref") => `(tactic| (k_here; (with_reducible show wpAny _ _ (call (Value.ref 360) _) _ _ _); k_dflt (refine use_apart (by walk_at "m ok") (by k_asm) (by k_asm) (by k_asm) (by k_asm) (by assumption) (by assumption) ?_); intro h' tk' F' N'; (try k_sweep)))
local macro_rules | `(tactic| walk_at "truthy ref") => `(tactic| (k_here; k_dflt (refine' truthy_snoc ?N ?m ?l ?_; (case N => k_asm); (case m => k_mem); (case l => assumption); k_whole)))
local macro_rules | `(tactic| walk_at "subscriptTail Name UnaryOp ref int") => `(tactic| (k_here; k_dflt (refine' last_snoc ?N ?m ?_ ?s; (case N => k_asm); (case m => k_mem); (case s => with_unfolding_all rfl); k_whole)))
local macro_rules | `(tactic| walk_at "setItem ref str") => `(tactic| (k_here; k_dflt (refine' kda_set (knd := PySem.strKind _ _) ?F ?N ?U ?d (strKind_is _ _ _ _) ?z ?_; (case F => k_asm); (case N => k_asm); (case U => k_updF); (case d => k_asm); (case z => first | assumption | exact Nat.le_of_ble_eq_true (by with_unfolding_all rfl))); intro h' o' F' N' hd'; (try dsimp only at N')))
local macro_rules | `(tactic| walk_at "m dict") => `(tactic| (first
  | exact DictAt.fr (by k_asm) (by k_asm)
  | exact DictAt.news (by k_asm) (by k_mem) (by k_asm) (by k_asm)
  | exact DictAt.news (by k_asm) (.tail _ (by assumption)) (by assumption) (by assumption)
  | exact DictAt.news (by k_asm) (.tail _ (.tail _ (by assumption))) (by assumption) (by assumption)
  | exact DictAt.news (by k_asm) (by assumption) (by assumption) (by assumption)))

local macro_rules | `(tactic| walk_at "call ref") => `(tactic| (k_here; (with_reducible show wpAny _ _ (call (Value.ref 381) _) _ _ _); k_dflt (refine' use_bare ?kA ?kX ?kT ?kF ?kN ?kD ?kz ?_; (case kA => walk_at "m ok"); (case kX => k_asm); (case kT => k_asm); (case kF => k_asm); (case kN => k_asm); (case kD => walk_at "m dict"); (case kz => assumption); k_whole); intro b' o' h' tk' F' N' l1' lo' hd'; (have l2' : @Ne Nat _ _ := l1' _ (.head _)); (try dsimp only at l2'); (try k_sweep)))

local macro_rules | `(tactic| walk_at "call ref") => `(tactic| (k_here; (with_reducible show wpAny _ _ (call (Value.ref 55) _) _ _ _); k_dflt (refine use_boundary (by walk_at "m ok") (by k_asm) (by k_asm) (by k_asm) (by k_asm) (by assumption) (by assumption) ?_); intro h' tk' F' N'; (try k_sweep)))
local macro_rules | `(tactic| walk_at "callWith ref") => `(tactic| (k_here; (with_reducible show wpAny _ _ (callWith _ (Value.ref _) [] (backTo _ (starEach [] _)) []) _ _ _); k_dflt (refine' callWith_F0 (FnAt.of2 (by assumption) (by k_asm) (by k_mem)) ?_; k_whole; try dsimp only [List.nil_append, List.cons_append])))
local macro_rules | `(tactic| walk_at "call ref") => `(tactic| (k_here; (with_reducible show wpAny _ _ (call (Value.ref _) []) _ _ _); k_dflt (first
  | (refine' Flush0.use (by assumption) (by walk_at "m ok") (by k_asm) (by k_asm) ?_; intro h' tk' F' N'; (try dsimp only [lay] at N'); (try k_sweep))
  | (refine' Flush1.use (by assumption) ?kA ?kF ?kN ?kd ?kI ?ks ?kl ?kr ?k1 ?k2 ?_; (case kA => walk_at "m ok"); (case kF => k_asm); (case kN => k_asm); (case kd => assumption); (case kI => assumption); (case ks => assumption); (case kl => assumption); (case kr => assumption); (case k1 => assumption); (case k2 => assumption); intro d' od' kvs' n' k' h' tk' F' N' z1' z2' z3' z4' lo' hd' hk'; (replace z1' := NeH.intro z1'); (replace z2' := NeH.intro z2'); (replace z3' := NeH.intro z3'); (try dsimp only [lay] at N'); (try k_sweep)))))
local macro_rules | `(tactic| walk_at "ite") => `(tactic| (k_here; first | (with_reducible refine ite_pos rfl ?_) | (with_reducible refine ite_neg Bool.false_ne_true ?_)))
local macro_rules | `(tactic| k_ne) => `(tactic| (refine neN ?_; (try dsimp only); first | exact NeH.ne (by with_reducible assumption) | exact NeH.ne' (by with_reducible assumption)))

local macro_rules | `(tactic| walk_at "call ref") => `(tactic| (k_here; (with_reducible show wpAny _ _ (call (Value.ref 199) _) _ _ _); k_dflt (refine' use_clean ?kA ?kX ?kT ?kF ?kN ?kD ?kI ?_ ?_; (case kA => walk_at "m ok"); (case kX => k_asm); (case kT => k_asm); (case kF => k_asm); (case kN => k_asm); (case kD => walk_at "m dict"); (case kI => assumption); k_whole)))

local macro_rules | `(tactic| walk_at "call ref") => `(tactic| (k_here; (with_reducible show wpAny _ _ (call (Value.ref 346) _) _ _ _); k_dflt (refine' use_token ?kA ?kX ?kT ?kF ?kN ?kU ?kS ?kI ?kL ?k0 ?k1 ?_; (case kA => walk_at "m ok"); (case kX => k_asm); (case kT => k_asm); (case kF => k_asm); (case kN => k_asm); (case kU => k_updF); (case kS => assumption); (case kI => assumption); (case kL => assumption); (case k0 => assumption); (case k1 => assumption); k_whole); intro a' o' kvs' tkn' pl' acc' tp' ta' h' tk' a0' a1' F' N' l1' lo' hd' I' W'; (try dsimp only at N'); (have l2' : @Ne Nat _ _ := l1' _ (.head _)); (try dsimp only at l2'); (try k_sweep)))

section
variable {w : World} {A : Around} {s : Shared} {p : Program} {loose : List Str} {mean : ExcName → Option Value} {mg mb : Str → Option Value} {h₀ : Heap}
local macro_rules | `(tactic| walk_at "pyIter ref") => `(tactic| (k_here; with_reducible refine Halt.intro ?_))
local macro_rules | `(tactic| walk_at "call type:range") => `(tactic| (k_here; with_reducible refine Halt.intro ?_))
set_option maxHeartbeats 8000000 in
theorem law_body {f L sc : Addr} {name qual : Str} {params : Arguments} {body : List Stmt} {scope : Scope} {dV kV doc pm cdv ct oc cd : Value} {an od : Option Addr} {osl : Array (Option Value)} {Q : Value → Shared → Prop} {vs : List Value} {ns : List Int}
    (hA : Ok A 4) (X : (hd.heap_39 w.params).In h₀) (T : Top p loose mean mg mb h₀) (C : CodeHd h₀ 177 173)
    (ho : (hd.heap_39 w.params).lookup 409 = some ⟨oc, od, .func (fnOf name qual params body scope dV kV doc pm an cdv ct), osl⟩)
    (F : Fr h₀ L s.heap (fun y => ([(Str.ofString "script", Value.ref sc)] : List (Str × Value)).reverse.lookup y)) (N : News h₀ L s.heap [(173, tabObj #[])])
    (hs : h₀.IsList sc vs.toArray) (hi : IntsAre vs ns) (hlen : ns.length ≤ 63)
    (ret : ∀ h' tk ps m', Fr h₀ L h' m' → News h₀ L h' [(173, tabObj ps)] → Q (.bool true) { s with heap := h', toks := tk }) :
    wpAny (model PR w) A (execs body (envOf qual scope L f cd)) (fun fl s' => Q (match fl with | .ret v => v | _ => .none) s') (fun _ _ => False) s := by
  replace C := CHid.intro C
  obtain ⟨rfl, rfl, rfl⟩ := body_eq (K := hd.heap_39 w.params) (by k_is) ho
  have ho9 := ho
  clear ho
  try k_fold
  k_steps
  (show wpAny _ _ _ _ _ _)
  rename News _ _ _ _ => N1
  rename Fr _ _ _ _ => F1
  rename_i lb _ hlb _ _ lt _ hlt _ kd _ _ _ _ _ _ _ kd0 kd1 a0 a1
  refine range1_rows F1 N1 fun h2 tk2 tr ur vr hr F2 N2 hk2 => ?_
  refine loopR (n := (1 + kd).toNat) (fun i m news => TokInv w lt lb sc i m news)
    (by exact hA.hh) hr (small_one (by decide) (by decide) (by omega) (by omega)) (by rw [rangeSize_nat]; omega) F2 N2 (.cons cls_list (.cons cls_list (.cons cls_tab .nil)))
    ⟨[], _, _, _, _, _, [], rfl, rfl, (fun _ h => nomatch h), (fun _ h => nomatch h), .nil, a0, a1, (fun p hp => by rw [List.mem_singleton.mp hp]; exact ⟨Nat.ne_of_lt hlt.2, Nat.ne_of_lt hlb⟩), by rfl, by rfl⟩ ?_ ?_
  · rintro i k t' m₁ news₁ h3 tk3 own hi hno ⟨ts, n, pl, acc, tp, ta, tds, rfl, hl, hT, hW, hD, a0, a1, hne, hb, ht⟩ hown F3 N3
    have F4 := fr_name (x := Str.ofString "tokens") F3 ((if_neg (by decide)).trans ht)
    have F5 := fr_name (x := Str.ofString "box") F4 ((if_neg (by decide)).trans ((if_neg (by decide)).trans hb))
    have hscL : ∃ ol, h₀.get? sc = some ol := let ⟨o, e, _⟩ := hs; ⟨o, e⟩
    have hn1 := own_ne N3 (l := sc) (fun p hp => .inr (hown p hp)) hscL (.head _) cls_list.2.1
    have hn2 := own_ne N3 (l := sc) (fun p hp => .inr (hown p hp)) hscL (.tail _ (.head _)) cls_list.2.1
    have hr1 : ∀ p ∈ (tds ++ [tab1]) ++ own, p.1 ≠ lt := fun p hp => (List.mem_append.mp hp).elim (fun q => (hne p q).1) (hn1 p)
    have hr2 : ∀ p ∈ (tds ++ [tab1]) ++ own, p.1 ≠ lb := fun p hp => (List.mem_append.mp hp).elim (fun q => (hne p q).2) (hn2 p)
    have N4 := tok_rest N3
    generalize hr9 : (tds ++ [tab1]) ++ own = rst at N4 hr1 hr2
    have hl9 : (vals ts).length ≤ 1000 := by rw [vals_len]; omega
    clear F1 N1 F2 N2 F3 N3 F4 hr hno hb ht
    k_steps
    rename News _ _ _ _ => N5
    rename Fr _ _ _ _ => F6
    rename TkIs _ _ => I5
    rename TkWord _ => W5
    rename Obj.IsDictOf _ _ _ => d5
    rename (_ == sysModules) = false => lo5
    rename NeAll _ _ => ne5
    rename Tk => tkn5
    rw [toArray_push, ← vals_snoc ts _ tkn5] at N5
    refine LPost.intro F6 (tok_step N5 hr9) (.cons cls_list (.cons cls_list ((hD.cons d5).noIt.append (.cons cls_tab .nil)))) ⟨_, _, _, _, _, _, _, rfl, by simp [hl], hT.snoc lo5 d5 I5, by rw [tks_snoc]; exact wordTks_snoc hW W5, hD.cons d5, by assumption, by assumption, ?_, by rfl, by rfl⟩
    intro p hp
    rcases List.mem_cons.mp hp with rfl | hp
    · exact ⟨Ne.symm (ne5 _ (.head _)), Ne.symm (ne5 _ (.tail _ (.head _)))⟩
    · exact hne p hp
  · rintro m₁ news₁ h3 tk3 hno ⟨ts, n, pl, acc, tp, ta, tds, rfl, hl, hT, hW, hD, a0, a1, hne, hb, ht⟩ F3 N3
    have F4 := fr_name (x := Str.ofString "tokens") F3 ht
    have F5 := fr_name (x := Str.ofString "box") F4 ((if_neg (by decide)).trans hb)
    have N4 := tok_swap N3
    have hr0 : ∀ p ∈ (lt, listOf (vals ts).toArray n) :: (tds ++ [tab1]), p.1 ≠ lb := fun p hp => by
      rcases List.mem_cons.mp hp with rfl | hp
      · exact Nat.ne_of_gt hlt.1
      · exact (hne p hp).2
    have hno1 : NoIt ((lt, listOf (vals ts).toArray n) :: (tds ++ [tab1])) := .cons cls_list (hD.noIt.append (.cons cls_tab .nil))
    have hts : ts.length ≤ 12 := by rw [hl]; omega
    generalize hr9 : (lt, listOf (vals ts).toArray n) :: (tds ++ [tab1]) = rst0 at N4 hr0 hno1
    clear F1 N1 F2 N2 F3 N3 F4 hr hno hb ht
    k_steps
    (show wpAny _ _ _ _ _ _)
    rename News _ _ _ _ => N1
    rename Fr _ _ _ _ => F1
    rename _ < _ ∧ AllLt _ _ => hl2
    obtain ⟨lp, rfl⟩ := named N1
    refine range1_rows F1 N1 fun h4 tk4 tr ur vr hr F2 N2 hk4 => ?_
    refine loopR (n := 4) (fun i m news => PairInv lt lp lb sc rst0 m news i)
      (by exact hA.hh) hr (by decide) (by decide) F2 N2 (.cons cls_list (.cons cls_list hno1))
      ⟨[], _, _, _, _, _, [], rfl, rfl, (fun _ h => nomatch h), .nil, a0, a1, (fun p hp => ⟨Nat.ne_of_lt (of_allLt hl2.2 p hp), hr0 p hp⟩), by rfl, by rfl, by rfl⟩ ?_ ?_
    · rintro i k t' m₁ news₁ h3 tk3 own hi hno ⟨ps, n2, pl, acc, tp, ta, tus, rfl, hl, hP, hD2, a0, a1, hne, hb, ht, ht2⟩ hown F3 N3
      have F4 := fr_name (x := Str.ofString "pairs") (fr_name (x := Str.ofString "tokens") F3 ((if_neg (by decide)).trans ht2)) ((if_neg (by decide)).trans ((if_neg (by decide)).trans ht))
      have F5 := fr_name (x := Str.ofString "box") F4 ((if_neg (by decide)).trans ((if_neg (by decide)).trans ((if_neg (by decide)).trans hb)))
      have hscL : ∃ ol, h₀.get? sc = some ol := let ⟨o, e, _⟩ := hs; ⟨o, e⟩
      have hn1 := own_ne N3 (l := sc) (fun p hp => .inr (hown p hp)) hscL (.head _) cls_list.2.1
      have hn2 := own_ne N3 (l := sc) (fun p hp => .inr (hown p hp)) hscL (.tail _ (.head _)) cls_list.2.1
      have hr1 : ∀ p ∈ (tus ++ rst0) ++ own, p.1 ≠ lp := fun p hp => (List.mem_append.mp hp).elim (fun q => (hne p q).1) (hn1 p)
      have hr2 : ∀ p ∈ (tus ++ rst0) ++ own, p.1 ≠ lb := fun p hp => (List.mem_append.mp hp).elim (fun q => (hne p q).2) (hn2 p)
      have N4 := pair_rest N3
      generalize hr8 : (tus ++ rst0) ++ own = rst at N4 hr1 hr2
      have hl9 : ps.length ≤ 1000 := by omega
      have hl3 := hl2.1
      clear F1 N1 F2 N2 F3 N3 F4 hr hno hb ht hl2
      k_steps
      rename News _ _ _ _ => N5
      rename Fr _ _ _ _ => F6
      rename _ < _ ∧ _ < _ ∧ lp < _ ∧ lb < _ ∧ AllLt _ _ => hl5
      rw [toArray_push] at N5
      refine LPost.intro F6 (pair_step N5 hr8) (.cons cls_list (.cons cls_list ((NoIt.cons cls_tup hD2).append hno1))) ⟨_, _, _, _, _, _, _, rfl, by simp [hl], hP.snoc (by assumption) (by assumption), .cons cls_tup hD2, by assumption, by assumption, ?_, by rfl, by rfl, by rfl⟩
      intro p hp
      rcases List.mem_cons.mp hp with rfl | hp
      · exact ⟨Nat.ne_of_gt hl5.2.2.1, Nat.ne_of_gt hl5.2.2.2.1⟩
      · exact hne p hp
    · rintro m₁ news₁ h3 tk3 hno ⟨ps, n2, pl, acc, tp, ta, tus, rfl, hl, hP, hD2, a0, a1, hne, hb, ht, ht2⟩ F3 N3
      subst hr9
      have hm9 : tab1 ∈ (lp, listOf ps.toArray n2) :: (lb, listOf #[Value.ref sc, Value.int pl tp, Value.int acc ta] 0) :: (tus ++ ((lt, listOf (vals ts).toArray n) :: (tds ++ [tab1]))) := by simp
      obtain ⟨g, G, hg, NG, hG1, hG3, hG2⟩ := rebase (x := 173) (o := tabObj #[]) F3 (news_sub N3 fun p hp => by rw [List.mem_singleton.mp hp]; exact hm9)
      have hgg := fun p hp hc => to_g (p := p) N3 hg hm9 hp hc
      have hgl : g.IsList lt (vals ts).toArray := ⟨_, hgg (lt, listOf (vals ts).toArray n) (by simp) (by show Value.type "list" ≠ _; exact nofun), rfl, n, rfl⟩
      have hgp : g.IsList lp ps.toArray := ⟨_, hgg (lp, listOf ps.toArray n2) (by simp) (by show Value.type "list" ≠ _; exact nofun), rfl, n2, rfl⟩
      have hgt : Toks w g ts := hT.toks fun p hp => hgg p (by simp [hp]) (hD.cls p hp)
      have hgu : TupsAt g ps := hP.at fun p hp hc => hgg p (by simp [hp]) hc
      have hlG := hG3 (lt, listOf (vals ts).toArray n) (N3 (lt, listOf (vals ts).toArray n) (by simp)).1 (N3 (lt, listOf (vals ts).toArray n) (by simp)).2.1 (Nat.ne_of_gt hlt.2) (N3 (lt, listOf (vals ts).toArray n) (by simp)).2.2
      refine law_tail hA X T C.out ho9 F3 NG ht2 ht hG1 hG2 hgl hlG hgp hgt hgu ⟨by rw [tks_len]; omega, hW⟩ ?_
      intro h' tk ps m' F' N'
      exact ret _ _ _ _ F' N'
end

end
theorem anew29 : True ∧ True := by
  w_top off
  first | (walk1 <;> trivial) | exact ⟨trivial, trivial⟩
section
local macro_rules | `(tactic| walk_at "m ok") => `(tactic| (first
  | assumption
  | exact Ok.mono (by assumption) (by decide)
  | exact Ok.mono (Ok.deeper (by assumption) _) (by decide)
  | exact Ok.mono (Ok.in1 (Ok.deeper (by assumption) _)) (by decide)
  | exact Ok.mono (Ok.in1 (by assumption)) (by decide)))
local macro_rules | `(tactic| walk_at "m room") => `(tactic| exact Ok.room (by assumption))
local macro_rules | `(tactic| walk_at "m dict") => `(tactic| (first
  | exact DictAt.fr (by k_asm) (by k_asm)
  | exact DictAt.news (by k_asm) (by k_mem) (by k_asm) (by k_asm)))
local macro_rules | `(tactic| walk_at "getMethod ref") => `(tactic| (k_here; k_dflt (first
  | ((with_reducible show wpAny _ _ (getMethod (Value.ref _) (Str.ofString "get") _) _ _ _); refine meth_at PySem.F.slot_dict_get PySem.F.type_dict_get (by walk_at "m dict") ?_)
  | ((with_reducible show wpAny _ _ (getMethod (Value.ref _) (Str.ofString "copy") _) _ _ _); refine meth_at PySem.F.slot_dict_copy PySem.F.type_dict_copy (by walk_at "m dict") ?_)
  | ((with_reducible show wpAny _ _ (getMethod (Value.ref _) (Str.ofString "pop") _) _ _ _); refine meth_at PySem.F.slot_dict_pop PySem.F.type_dict_pop (by walk_at "m dict") ?_))))
local macro_rules | `(tactic| walk_at "call builtin:dict.get") => `(tactic| (k_here; k_dflt (refine' get2_at (by walk_at "m dict") ?v ?_; (case v => first | assumption | with_unfolding_all exact Eq.refl (Value.bool _) | rfl); k_whole)))
local macro_rules | `(tactic| walk_at "subscriptTail") => `(tactic| (k_here; (with_reducible show wpAny _ _ (subscriptTail _ _ (Value.ref _) (Value.str _ _)) _ _ _); k_dflt (refine' item_at (by walk_at "m dict") ?v ?_ ?hs; (case v => first | assumption | rfl); (case hs => with_unfolding_all rfl); k_whole)))
local macro_rules | `(tactic| walk_at "exec For") => `(tactic| (k_here; k_dflt (refine For_m (by k_asm) (by rfl) (by rfl) ?_ (by intro _; rfl) PassesOwn.never)))
local macro_rules | `(tactic| k_all) => `(tactic| assumption)
local macro_rules | `(tactic| walk_at "m sub") => `(tactic| (intro p9 hp9; simp only [List.mem_append, List.mem_cons, List.not_mem_nil, or_false, false_or] at hp9 ⊢; grind))
local macro_rules | `(tactic| walk_at "callWith") => `(tactic| ((with_reducible show wpAny _ _ (callWith _ (Value.builtin _) [_] (backTo _ (starEach (_ :: _) _)) []) _ _ _); refine callWith_method1 ?_))

local macro_rules | `(tactic| walk_at "Exists") => `(tactic| (k_here; (refine made_m (by k_asm) (by first | k_asm | exact News.nil) (Top.nolimit (by k_asm)) (by rfl) (of_decide_eq_true (by rfl)) ?_; intro h' o' F' N' l1 lo' hd'; (try k_lt l1); (try dsimp only at N'); (try dsimp only))))
local macro_rules | `(tactic| walk_at "call ref") => `(tactic| (k_here; (with_reducible show wpAny _ _ (call (Value.ref 332) _) _ _ _); k_dflt (refine' use_words ?kA ?kX ?kT ?kF ?kN ?_; (case kA => walk_at "m ok"); (case kX => k_asm); (case kT => k_asm); (case kF => k_asm); (case kN => k_asm); k_whole); intro r' h' tk' n' vs' W' F' N' l1; (try (replace l1 := allNe_of l1; simp only [AllNe, and_true] at l1)); (try k_sweep)))
local macro_rules | `(tactic| walk_at "call ref") => `(tactic| (k_here; (with_reducible show wpAny _ _ (call (Value.ref 339) _) _ _ _); k_dflt (refine' use_draw ?kA ?kX ?kT ?kF ?kN ?kU ?kS ?kI ?kL ?k0 ?k1 ?k2 ?k3 ?_; (case kA => walk_at "m ok"); (case kX => k_asm); (case kT => k_asm); (case kF => k_asm); (case kN => k_asm); (case kU => k_updF); (case kS => assumption); (case kI => assumption); (case kL => first | assumption | omega); (case k0 => first | decide | assumption); (case k1 => first | decide | assumption); (case k2 => decide); (case k3 => decide); k_whole); intro k' t' pl' acc' tp' ta' h' tk' k0' k1' a0' a1' F' N'; (try dsimp only at N'); (try k_sweep)))
local macro_rules | `(tactic| walk_at "subscriptTail") => `(tactic| (k_here; (with_reducible show wpAny _ _ (subscriptTail _ _ (Value.ref _) (Value.int _ _)) _ _ _); k_dflt (refine' item_words ?kN ?kM ?kW ?k0 ?k1 ?_ ?kS; (case kW => assumption); (case kN => k_asm); (case kM => k_mem); (case k0 => assumption); (case k1 => assumption); (case kS => with_unfolding_all rfl)); intro x' t' hx'))

local macro_rules | `(tactic| walk_at "call ref") => `(tactic| (k_here; (with_reducible show wpAny _ _ (call (Value.ref 367) _) _ _ _); k_dflt (refine' use_live ?kA ?kX ?kT ?kF ?kN ?kD ?kv ?_; (case kA => walk_at "m ok"); (case kX => k_asm); (case kT => k_asm); (case kF => k_asm); (case kN => k_asm); (case kD => walk_at "m dict"); (case kv => first | assumption | rfl); k_whole); intro h' tk' F' N'; (try k_sweep)))

local macro_rules | `(tactic| walk_at "call builtin:str.join") => `(tactic| (k_here; k_dflt (refine' join_m ?N ?M ?I ?S ?n ?_; (case N => k_asm); (case M => k_mem); (case I => assumption); (case S => assumption); (case n => assumption); k_whole); intro t' k'))

local macro_rules | `(tactic| walk_at "call ref") => `(tactic| (k_here; (with_reducible show wpAny _ _ (call (Value.ref 360) _) _ _ _); k_dflt (refine use_apart (by walk_at "m ok") (by k_asm) (by k_asm) (by k_asm) (by k_asm) (by assumption) (by assumption) ?_); intro h' tk' F' N'; (try k_sweep)))
local macro_rules | `(tactic| walk_at "truthy ref") => `(tactic| (k_here; k_dflt (refine' truthy_snoc ?N ?m ?l ?_; (case N => k_asm); (case m => k_mem); (case l => assumption); k_whole)))
local macro_rules | `(tactic| walk_at "subscriptTail Name UnaryOp ref int") => `(tactic| (k_here; k_dflt (refine' last_snoc ?N ?m ?_ ?s; (case N => k_asm); (case m => k_mem); (case s => with_unfolding_all rfl); k_whole)))
local macro_rules | `(tactic| walk_at "setItem ref str") => `(tactic| (k_here; k_dflt (refine' kda_set (knd := PySem.strKind _ _) ?F ?N ?U ?d (strKind_is _ _ _ _) ?z ?_; (case F => k_asm); (case N => k_asm); (case U => k_updF); (case d => k_asm); (case z => first | assumption | exact Nat.le_of_ble_eq_true (by with_unfolding_all rfl))); intro h' o' F' N' hd'; (try dsimp only at N')))
local macro_rules | `(tactic| walk_at "m dict") => `(tactic| (first
  | exact DictAt.fr (by k_asm) (by k_asm)
  | exact DictAt.news (by k_asm) (by k_mem) (by k_asm) (by k_asm)
  | exact DictAt.news (by k_asm) (.tail _ (by assumption)) (by assumption) (by assumption)
  | exact DictAt.news (by k_asm) (.tail _ (.tail _ (by assumption))) (by assumption) (by assumption)
  | exact DictAt.news (by k_asm) (by assumption) (by assumption) (by assumption)))

local macro_rules | `(tactic| walk_at "call ref") => `(tactic| (k_here; (with_reducible show wpAny _ _ (call (Value.ref 381) _) _ _ _); k_dflt (refine' use_bare ?kA ?kX ?kT ?kF ?kN ?kD ?kz ?_; (case kA => walk_at "m ok"); (case kX => k_asm); (case kT => k_asm); (case kF => k_asm); (case kN => k_asm); (case kD => walk_at "m dict"); (case kz => assumption); k_whole); intro b' o' h' tk' F' N' l1' lo' hd'; (have l2' : @Ne Nat _ _ := l1' _ (.head _)); (try dsimp only at l2'); (try k_sweep)))

local macro_rules | `(tactic| walk_at "call ref") => `(tactic| (k_here; (with_reducible show wpAny _ _ (call (Value.ref 55) _) _ _ _); k_dflt (refine use_boundary (by walk_at "m ok") (by k_asm) (by k_asm) (by k_asm) (by k_asm) (by assumption) (by assumption) ?_); intro h' tk' F' N'; (try k_sweep)))
local macro_rules | `(tactic| walk_at "callWith ref") => `(tactic| (k_here; (with_reducible show wpAny _ _ (callWith _ (Value.ref _) [] (backTo _ (starEach [] _)) []) _ _ _); k_dflt (refine' callWith_F0 (FnAt.of2 (by assumption) (by k_asm) (by k_mem)) ?_; k_whole; try dsimp only [List.nil_append, List.cons_append])))
local macro_rules | `(tactic| walk_at "call ref") => `(tactic| (k_here; (with_reducible show wpAny _ _ (call (Value.ref _) []) _ _ _); k_dflt (first
  | (refine' Flush0.use (by assumption) (by walk_at "m ok") (by k_asm) (by k_asm) ?_; intro h' tk' F' N'; (try dsimp only [lay] at N'); (try k_sweep))
  | (refine' Flush1.use (by assumption) ?kA ?kF ?kN ?kd ?kI ?ks ?kl ?kr ?k1 ?k2 ?_; (case kA => walk_at "m ok"); (case kF => k_asm); (case kN => k_asm); (case kd => assumption); (case kI => assumption); (case ks => assumption); (case kl => assumption); (case kr => assumption); (case k1 => assumption); (case k2 => assumption); intro d' od' kvs' n' k' h' tk' F' N' z1' z2' z3' z4' lo' hd' hk'; (replace z1' := NeH.intro z1'); (replace z2' := NeH.intro z2'); (replace z3' := NeH.intro z3'); (try dsimp only [lay] at N'); (try k_sweep)))))
local macro_rules | `(tactic| walk_at "ite") => `(tactic| (k_here; first | (with_reducible refine ite_pos rfl ?_) | (with_reducible refine ite_neg Bool.false_ne_true ?_)))
local macro_rules | `(tactic| k_ne) => `(tactic| (refine neN ?_; (try dsimp only); first | exact NeH.ne (by with_reducible assumption) | exact NeH.ne' (by with_reducible assumption)))

local macro_rules | `(tactic| walk_at "call ref") => `(tactic| (k_here; (with_reducible show wpAny _ _ (call (Value.ref 199) _) _ _ _); k_dflt (refine' use_clean ?kA ?kX ?kT ?kF ?kN ?kD ?kI ?_ ?_; (case kA => walk_at "m ok"); (case kX => k_asm); (case kT => k_asm); (case kF => k_asm); (case kN => k_asm); (case kD => walk_at "m dict"); (case kI => assumption); k_whole)))

local macro_rules | `(tactic| walk_at "call ref") => `(tactic| (k_here; (with_reducible show wpAny _ _ (call (Value.ref 346) _) _ _ _); k_dflt (refine' use_token ?kA ?kX ?kT ?kF ?kN ?kU ?kS ?kI ?kL ?k0 ?k1 ?_; (case kA => walk_at "m ok"); (case kX => k_asm); (case kT => k_asm); (case kF => k_asm); (case kN => k_asm); (case kU => k_updF); (case kS => assumption); (case kI => assumption); (case kL => assumption); (case k0 => assumption); (case k1 => assumption); k_whole); intro a' o' kvs' tkn' pl' acc' tp' ta' h' tk' a0' a1' F' N' l1' lo' hd' I' W'; (try dsimp only at N'); (have l2' : @Ne Nat _ _ := l1' _ (.head _)); (try dsimp only at l2'); (try k_sweep)))

section
variable {w : World} {A : Around} {s : Shared} {p : Program} {loose : List Str} {mean : ExcName → Option Value} {mg mb : Str → Option Value} {h₀ : Heap}
theorem law_post {f L sc : Addr} {name qual : Str} {params : Arguments} {body : List Stmt} {scope : Scope} {dV kV doc pm cdv ct oc cd : Value} {an od : Option Addr} {osl : Array (Option Value)} {Q : Flow → Shared → Prop} {E : Value → Shared → Prop} {vs : List Value} {ns : List Int}
    (hA : Ok A 4) (X : (hd.heap_39 w.params).In h₀) (T : Top p loose mean mg mb h₀) (C : CodeHd h₀ 177 173)
    (ho : (hd.heap_39 w.params).lookup 409 = some ⟨oc, od, .func (fnOf name qual params body scope dV kV doc pm an cdv ct), osl⟩)
    (F : Fr h₀ L s.heap (fun y => ([(Str.ofString "script", Value.ref sc)] : List (Str × Value)).reverse.lookup y)) (N : News h₀ L s.heap [(173, tabObj #[])])
    (hs : h₀.IsList sc vs.toArray) (hi : IntsAre vs ns) (hlen : ns.length ≤ 63)
    (ret : ∀ fl h' tk ps m', (match fl with | Flow.ret v => v | _ => .none) = Value.bool true → Fr h₀ L h' m' → News h₀ L h' [(173, tabObj ps)] → Q fl { s with heap := h', toks := tk }) :
    wpAny (model PR w) A (execs body (envOf qual scope L f cd)) Q E s :=
  wpAny_mono (law_body (Q := fun v s' => v = Value.bool true ∧ ∃ h' tk ps m', s' = { s with heap := h', toks := tk } ∧ Fr h₀ L h' m' ∧ News h₀ L h' [(173, tabObj ps)]) hA X T C ho F N hs hi hlen fun h' tk ps m' F' N' => ⟨rfl, h', tk, ps, m', rfl, F', N'⟩)
    (fun fl s' ⟨e, h', tk, ps, m', e2, F', N'⟩ => by rw [e2]; exact ret fl h' tk ps m' e F' N') fun _ _ z => z.elim
end
theorem ok_caller (env : Env) : Ok (callerA.deeper env) 4 := Ok.deeper (n := 4) ⟨rfl, by decide, by decide⟩ env
section
set_option maxHeartbeats 8000000 in
theorem law_fin : PySem.Challenge.rw_fe5006_01.Holds := by
  refine hd ?_
  k_go0
  all_goals try k_fold
  rename Fr _ _ _ _ => F1
  rename News _ _ _ _ => N1
  rename Top topProg _ _ _ _ _ => T1
  rename (hd.heap_39 _).In _ => X1
  rename IntsAre _ _ => hI1
  refine' law_post (ok_caller _) X1 T1 codeHd ?ho F1 N1 lifted hI1 (by omega) ?_
  case ho => k_is
  intro fl h' tk ps m' e F' N'
  cases fl with
  | ret v =>
    have e2 : v = Value.bool true := e
    subst e2
    clear e F1 N1
    try dsimp only
    k_steps
    all_goals (try k_data)
    all_goals w_report
  | next => exact absurd e (by intro q; cases q)
  | brk => exact absurd e (by intro q; cases q)
  | cont => exact absurd e (by intro q; cases q)
end

end
end Mine
set_option maxRecDepth 100000 in
set_option maxHeartbeats 8000000 in
theorem PySem.Challenge.cw_fe5006_01_holds : PySem.Challenge.rw_fe5006_01.Holds :=
  Mine.law_fin
